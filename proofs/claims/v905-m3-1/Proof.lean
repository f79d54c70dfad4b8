import JvmDerived
import JvmDerived.Pilot.@@N@@Statement
import JvmDerived.Pilot.@@N@@Code
set_option linter.unusedVariables false
set_option linter.unusedSimpArgs false
@@BLOCK:NumsL.lean.txt@@
namespace Jvm.RoadKit
open Sem ClassFile Op Lib Jvm.Stand Jvm.Free Jvm.LawKit
section New
variable {p : Program} {l : Launch} {e : Env} {R : Room} {s : State} {m : MethodId} {args : Array Value} {below : List Frame} {meth : Method} {c : Code} {T : State} {locs : List Loc} {cells slots : Nat}
theorem retI (X : Stand p l e R s m args below meth c T locs cells slots) (hx : p.tables.exec = Jvm.exec) {pc : Nat} {Ls : Array Slot} {z : Int32} {rest : List Value} (hret : meth.sig.returnType = some .int) (hd : decode c.code pc = .ok (.ireturn, 1)) {fs : List Frame}
    (hl : ∀ (f : JFrame) (acts : List Action), f.method = m → f.locked = none → f.entered = [] → (doReturn e (T.setTop f) acts (some (.int z))).1 = T.setFrames fs) : Steps p.tables e below (T.setTop (mkF m pc Ls (.int z :: rest))) (T.setFrames fs) := by
  have hm' : T.vm.method? m = some meth := X.method'
  have hn : narrow .int (.int z) = .int z := rfl
  show Steps p.tables e below (T.setTop { method := m, pc := pc, locals := Ls, stack := _ :: rest, locked := none }) _
  jvm_step X.here [X.here.top, hx, hd, hm', hret, hn]
  first | (intro acts; rw [hl _ acts rfl rfl rfl]) | rw [hl _ _ rfl rfl rfl]
  exact Steps.refl _
end New
section Own
variable {p : Program} {l : Launch} {e : Env} {R : Room} {s : State} {m : MethodId} {args : Array Value} {below : List Frame} {meth : Method} {c : Code} {T A B : State} {locs : List Loc} {cells slots k n : Nat} {Q : Option Value → Heap → List Loc → Prop}
/-- from A the walk comes to its end, and Q holds there -/
def own_Go (p : Program) (e : Env) (below : List Frame) (s : State) (Q : Option Value → Heap → List Loc → Prop) (k n : Nat) (A : State) : Prop :=
  ∃ s₂ o, Steps p.tables e below A s₂ ∧ s₂.status = .running ∧ Ended s₂ below o ∧ ∃ v L, o = .returned v ∧ Q v s₂.heap L ∧ FrameEnd s o s₂ L k n
theorem own_st (h : ∀ t, Steps p.tables e below B t → Steps p.tables e below A t) (g : own_Go p e below s Q k n B) : own_Go p e below s Q k n A := by
  obtain ⟨s₂, o, h1, r⟩ := g
  exact ⟨s₂, o, h _ h1, r⟩
theorem own_tr (h : Steps p.tables e below A B) (g : own_Go p e below s Q k n B) : own_Go p e below s Q k n A := own_st (fun _ q => h.trans q) g
theorem own_end (X : Stand p l e R s m args below meth c T locs cells slots) (hlk : meth.locks = false) {v : Option Value} (hv : meth.sig.returnType = none → v = none) (hk : cells ≤ k) (hn : slots ≤ n) (hQ : Q v T.heap locs) {g : JFrame}
    (hgo : ∀ fs, (∀ (f : JFrame) (acts : List Action), f.method = m → f.locked = none → f.entered = [] → (doReturn e (T.setTop f) acts v).1 = T.setFrames fs) → Steps p.tables e below (T.setTop g) (T.setFrames fs)) : own_Go p e below s Q k n (T.setTop g) := by
  obtain ⟨fs, hr, hrun, hended, hW, hsame⟩ := X.leave hv hlk
  exact ⟨_, _, hgo fs hr, hrun, hended, v, locs, rfl, hQ, ⟨_, rfl⟩, hW, hsame.mono hk hn⟩
theorem own_retI (X : Stand p l e R s m args below meth c T locs cells slots) (hx : p.tables.exec = Jvm.exec) (hlk : meth.locks = false) {pc : Nat} {Ls : Array Slot} {z : Int32} {rest : List Value} (hret : meth.sig.returnType = some .int) (hd : decode c.code pc = .ok (.ireturn, 1)) (hk : cells ≤ k) (hn : slots ≤ n) (hQ : Q (some (.int z)) T.heap locs) :
    own_Go p e below s Q k n (T.setTop (mkF m pc Ls (.int z :: rest))) := own_end X hlk (fun h => by rw [hret] at h; cases h) hk hn hQ fun fs hr => retI X hx hret hd hr
theorem own_retN (X : Stand p l e R s m args below meth c T locs cells slots) (hx : p.tables.exec = Jvm.exec) (hlk : meth.locks = false) {pc : Nat} {Ls : Array Slot} {z z' : Int32} {rest : List Value} {t : FieldType} (hret : meth.sig.returnType = some t) (ht : t = .boolean ∨ t = .byte ∨ t = .char ∨ t = .short) (hz : nar t z = z') (hd : decode c.code pc = .ok (.ireturn, 1)) (hk : cells ≤ k) (hn : slots ≤ n) (hQ : Q (some (.int z')) T.heap locs) :
    own_Go p e below s Q k n (T.setTop (mkF m pc Ls (.int z :: rest))) := own_end X hlk (v := some (.int (nar t z))) (fun h => by rw [hret] at h; cases h) hk hn (hz ▸ hQ) fun fs hr => retN X hx hret ht hd hr
theorem own_retJ (X : Stand p l e R s m args below meth c T locs cells slots) (hx : p.tables.exec = Jvm.exec) (hlk : meth.locks = false) {pc : Nat} {Ls : Array Slot} {z : Int64} {rest : List Value} (hret : meth.sig.returnType = some .long) (hd : decode c.code pc = .ok (.lreturn, 1)) (hk : cells ≤ k) (hn : slots ≤ n) (hQ : Q (some (.long z)) T.heap locs) :
    own_Go p e below s Q k n (T.setTop (mkF m pc Ls (.long z :: rest))) := own_end X hlk (fun h => by rw [hret] at h; cases h) hk hn hQ fun fs hr => retOut X hx hret rfl (Or.inr (Or.inl ⟨rfl, rfl, _, rfl⟩)) hd hr
theorem own_retA (X : Stand p l e R s m args below meth c T locs cells slots) (hx : p.tables.exec = Jvm.exec) (hlk : meth.locks = false) {pc : Nat} {Ls : Array Slot} {w : Value} {t : FieldType} {rest : List Value} (hret : meth.sig.returnType = some t) (hw : w.isRef = true) (hd : decode c.code pc = .ok (.areturn, 1)) (hk : cells ≤ k) (hn : slots ≤ n) (hQ : Q (some w) T.heap locs) (ht : t.isReference = true := by rfl) :
    own_Go p e below s Q k n (T.setTop (mkF m pc Ls (w :: rest))) := own_end X hlk (fun h => by rw [hret] at h; cases h) hk hn hQ fun fs hr => retOut X hx hret (by cases w <;> first | (cases hw; done) | (cases t <;> first | (cases ht; done) | rfl)) (Or.inr (Or.inr (Or.inr (Or.inr ⟨rfl, ht, hw⟩)))) hd hr
theorem own_ret0 (X : Stand p l e R s m args below meth c T locs cells slots) (hx : p.tables.exec = Jvm.exec) (hlk : meth.locks = false) {pc : Nat} {Ls : Array Slot} (hret : meth.sig.returnType = none) (hd : decode c.code pc = .ok (.return_, 1)) (hk : cells ≤ k) (hn : slots ≤ n) (hQ : Q none T.heap locs) :
    own_Go p e below s Q k n (T.setTop (mkF m pc Ls [])) := own_end X hlk (fun _ => rfl) hk hn hQ fun fs hr => X.returnOut hx hret hd hr
end Own
theorem own_narR {C : String} {v : Value} (h : v.isRef = true) : narrow (.object C) v = v := by cases v <;> first | rfl | (cases h; done)
theorem own_fitR {C : String} {v : Value} (h : v.isRef = true) : fits (.object C) v = true := by cases v <;> first | rfl | (cases h; done)
theorem own_hp {T : State} {h : Heap} {a : Addr} {c : Cell} (e : T.heap = h) (q : h[a]? = some c) : T.heap[a]? = some c := e ▸ q
theorem own_pad (n : Nat) (d : Value) (i : Nat) : (List.replicate n d).getD i d = ([] : List Value).getD i d := by
  have h := pad_rep [] d n i
  simpa using h
end Jvm.RoadKit
namespace Jvm.Pilot.@@N@@
open Jvm Jvm.ClassFile Sem Op Lib Jvm.Free Jvm.Stand Jvm.LawKit Jvm.RoadKit Bundle Jvm.Pilot.@@N@@.Jvm.D
theorem own_eqV {args : Array Value} {first s : State} {o : Option Outcome} {idx : List Nat} {t u : Term} {w : Value} (h : (Cond.eq t u).value args first o s idx = some true) (hu : u.eval args first o idx s = some w) : t.eval args first o idx s = some w := by
  simp only [Cond.value, hu] at h
  cases ht : t.eval args first o idx s with
  | none => simp [ht] at h
  | some v => cases v <;> cases w <;> simp_all

theorem own_NSroot {Z : State} {a0 : Array Value} {O K : String} {n : Nat} (w : (Cond.noSuperclass O).before a0 Z = true) (wi : (Cond.instantiable K n).before a0 Z = true) (hn : O ≠ K) : NS Z O K := by
  obtain ⟨c, k, h1, h2, h3, -, -⟩ := Cond.noSuperclass_spec w
  obtain ⟨t, k', g1, -⟩ := Cond.instantiable_spec wi
  have ne := ids_ne h1 g1 hn
  refine ⟨c, t, h1, g1, fun fuel => ?_⟩
  cases fuel with
  | zero => rfl
  | succ f => simp [Vm.isSubclassAux, ne, h2, h3]
theorem own_no {Z : State} {a0 : Array Value} {C S K : String} {n : Nat} (w : (Cond.superclass C S).before a0 Z = true) (wi : (Cond.instantiable K n).before a0 Z = true) (nn : NS Z C K) (hn : C ≠ K) : ∃ c t, Z.vm.findClass C = some c ∧ Z.vm.findClass K = some t ∧ Z.vm.assignable c t = false := by
  obtain ⟨c, t, h0, g0, n3⟩ := nn
  obtain ⟨p, k, kp, h1, h2, h3, h4, h5, -, h7⟩ := Cond.superclass_spec h0 w
  obtain ⟨t', k', g1, g2, g3, g4, -⟩ := Cond.instantiable_spec wi
  cases g0.symm.trans g1
  have g7 : k'.isInterface = false := by
    rw [Bool.or_eq_false_iff] at g4
    exact g4.1
  have ne := ids_ne h0 g0 hn
  refine ⟨c, t, h0, g0, ?_⟩
  show Z.vm.assignableAux (255 + 1) c t = false
  simp [Vm.assignableAux, ne, h2, g2, h5, g3, g7, Vm.isSubclass, n3]
def own_BoxI (Z : State) (aC : Addr) : Prop := ∃ cl : Cell, Arr Z Z.heap aC cl (.object "java/lang/Integer") ∧ cl.slots.size = 256 ∧ ∀ j : Int32, ¬ (j < 0 ∨ 256 ≤ j.toNatClampNeg) → ∃ r, cl.slots[j.toNatClampNeg]? = some (.ref r) ∧ Exa Z Z.heap r "java/lang/Integer" ∧ Fld Z Z.heap r "java/lang/Integer" "value" "I" (.int (j - 128))
theorem own_boxI {args : Array Value} {s : State} {aC : Addr} (ev : (Term.static "java/lang/Integer$IntegerCache" "cache" "[Ljava/lang/Integer;").eval args s none [] s = some (.ref aC)) (h2 : (Cond.arrayOf (Term.static "java/lang/Integer$IntegerCache" "cache" "[Ljava/lang/Integer;") (.object "java/lang/Integer")).before args s = true) (h4 : (Cond.eq (.length (Term.static "java/lang/Integer$IntegerCache" "cache" "[Ljava/lang/Integer;")) (.int 256)).before args s = true)
    (h5 : (Cond.all (Term.static "java/lang/Integer$IntegerCache" "cache" "[Ljava/lang/Integer;") (.and (.exactly (.elem (Term.static "java/lang/Integer$IntegerCache" "cache" "[Ljava/lang/Integer;") (.index 0)) "java/lang/Integer") (.eq (.field (.elem (Term.static "java/lang/Integer$IntegerCache" "cache" "[Ljava/lang/Integer;") (.index 0)) "java/lang/Integer" "value" "I") (.sub (.index 0) (.int 128))))).before args s = true) : own_BoxI s aC := by
  obtain ⟨cl, A⟩ := Arr.start ev (Cond.before_iff.mp h2)
  have hat : s.arrayAt? aC = some cl := IntBox.arrayAt_of A.1 A.2.1 A.2.2
  obtain ⟨hsz, hsize⟩ := IntBox.length_fwd h4 ev A.1 A.2.1 A.2.2
  have h256 : cl.slots.size = 256 := by
    have e := len_toInt hsz
    rw [hsize] at e
    have e2 : (256 : Int32).toInt = 256 := by decide
    omega
  have hall := Cond.all_elim ev hat (Cond.before_iff.mp h5)
  refine ⟨cl, A, h256, fun j hj => ?_⟩
  have hn : ¬ j < 0 := fun q => hj (Or.inl q)
  have hlt : j.toNatClampNeg < cl.slots.size := by rw [h256]; exact Nat.lt_of_not_le fun q => hj (Or.inr q)
  obtain ⟨g1, g2⟩ := and_e (hall _ hlt)
  obtain ⟨r, er⟩ := exa_v g1
  have ev' : (Term.static "java/lang/Integer$IntegerCache" "cache" "[Ljava/lang/Integer;").eval args s none [j.toNatClampNeg] s = some (.ref aC) := ev
  have ei : (Term.index 0).eval args s none [j.toNatClampNeg] s = some (.int j) := idx_at hn
  have el := elem_f (t := (Term.static "java/lang/Integer$IntegerCache" "cache" "[Ljava/lang/Integer;")) (a := .index 0) ev' ei hat hn
  have hr : cl.slots[j.toNatClampNeg]? = some (.ref r) := el.symm.trans er
  have es : (Term.sub (.index 0) (.int 128)).eval args s none [j.toNatClampNeg] s = some (.int (j - 128)) := by simp [Term.eval, (back32 hn).1]
  have ef := own_eqV g2 (w := .int (j - 128)) (es)
  exact ⟨r, hr, exa_at er g1, Fld.start ((fld_at er).symm.trans ef)⟩
theorem own_bkI (w : Int32) : (w + 128) - 128 = w := by simp
theorem own_placeI (w : Int32) (h1 : ¬ w < -128) (h2 : ¬ 127 < w) : ¬ ((w + 128) < 0 ∨ 256 ≤ (w + 128).toNatClampNeg) ∧ (w + 128).toNatClampNeg < 256 := by
  rw [Int32.lt_iff_toInt_lt] at h1 h2
  have e1 : (-128 : Int32).toInt = -128 := by decide
  have e2 : (127 : Int32).toInt = 127 := by decide
  have e3 : (128 : Int32).toInt = 128 := by decide
  have e : (w + 128).toInt = w.toInt + 128 := by
    rw [XT.add32 ⟨by omega, by omega⟩, e3]
  have hn : ¬ (w + 128) < 0 := by rw [XT.negI32]; omega
  have hc := nat_of hn
  refine ⟨fun q => q.elim hn fun q => ?_, ?_⟩ <;> omega
theorem own_mvIM {Z s : State} {a0 args : Array Value} {r o n d : String} (hZ : Z.Warmed39 s.vm) (w : (Cond.interfaceMethod r o n d).before a0 Z = true) : (Cond.interfaceMethod r o n d).before args s = true := by
  obtain ⟨c, k, m, h1, h2, h3, h4, h5⟩ := Cond.interfaceMethod_spec w
  obtain ⟨k', q, ek⟩ := hZ.alike.2.2 _ _ h2
  have g1 : s.vm.findClass r = some c := by rw [hZ.alike.findClass]; exact h1
  have g3 : k'.isInterface = true := by rw [ek]; exact h3
  have g4 : s.methodFound? r n d = some m := by
    have : (Z.setVm s.vm).methodFound? r n d = some m := by rw [State.methodFound?_setVm hZ.alike]; exact h4
    exact this
  have g5 : s.methodNamed? ⟨o, n, d⟩ = some m := by
    have : (Z.setVm s.vm).methodNamed? ⟨o, n, d⟩ = some m := by rw [State.methodNamed?_setVm hZ.alike]; exact h5
    exact this
  simp [Cond.before, Cond.holds, Cond.value, g1, g4, g5, q, g3]
theorem own_mne {Z : State} {C D : String} {c d : ClassId} {a b : Addr} {x y : Cell} (hC : Z.vm.findClass C = some c) (hD : Z.vm.findClass D = some d) (hn : C ≠ D) (ha : Z.heap[a]? = some x) (vx : x.vm = .mirror c) (hb : Z.heap[b]? = some y) (vy : y.vm = .mirror d) : ¬ a = b := by
  rintro rfl
  cases ha.symm.trans hb
  exact ids_ne hC hD hn (VmData.mirror.inj (vx.symm.trans vy))
def own_Mi (Z : State) (C : String) (m : Addr) : Prop := ∃ (c : ClassId) (k : Class), Z.vm.findClass C = some c ∧ Z.vm.classes[c]? = some k ∧ k.mirror = some m
section Mi
variable {p : Program} {l : Launch} {e : Env} {R : Room} {s : State} {m : MethodId} {args : Array Value} {below : List Frame} {meth : Method} {c : Code} {T : State} {locs : List Loc} {cells slots : Nat} {Z : State} {a0 : Array Value} {h : Heap}
theorem own_gclsI (X : Stand p l e R s m args below meth c T locs cells slots) (hx : p.tables.exec = Jvm.exec) (hZ : Z.Warmed39 s.vm) {own C : String} {index count : Nat} (hown : s.vm.findClass own = some m.cls)
    (w1 : (Cond.methodLink own index ⟨"java/util/List", "getClass", "()Ljava/lang/Class;"⟩).before a0 Z = true) (w2 : (Cond.declares ⟨"java/lang/Object", "getClass", "()Ljava/lang/Class;"⟩).before a0 Z = true) (w3 : (Cond.interfaceMethod "java/util/List" "java/lang/Object" "getClass" "()Ljava/lang/Class;").before a0 Z = true) (w4 : (Cond.selects C ⟨"java/util/List", "getClass", "()Ljava/lang/Class;"⟩ ⟨"java/lang/Object", "getClass", "()Ljava/lang/Class;"⟩).before a0 Z = true)
    (w5 : (Cond.instanceMethod ⟨"java/lang/Object", "getClass", "()Ljava/lang/Class;"⟩).before a0 Z = true) (w6 : (Cond.publicMethod ⟨"java/lang/Object", "getClass", "()Ljava/lang/Class;"⟩).before a0 Z = true) (w7 : (Cond.unhidden C "getClass" "()Ljava/lang/Class;").before a0 Z = true) (w8 : (Cond.castable C "java/util/List").before a0 Z = true) (w9 : (Cond.native ⟨"java/lang/Object", "getClass", "()Ljava/lang/Class;"⟩).before a0 Z = true)
    (eT : T.heap = h) {a : Addr} (E : Exa Z h a C) {mr : Addr} (M : own_Mi Z C mr) {g : JFrame} (hg : g.method = m) (hsize : g.locals.size = c.maxLocals) {rest : List Value} (hs : g.stack = .ref a :: rest) (hd : decode c.code g.pc = .ok (.invokeinterface index count, 5)) (hf : 1 ≤ R.frames) {W : Nat} (hW : 2 * g.monitorRoom + (rest.map fun v => v.category).sum ≤ W) (hl : W + (nativeFrameWords "java/lang/Object" "getClass" 1 + 11) ≤ R.locals) :
    ∃ T', Stand p l e R s m args below meth c T' locs cells slots ∧ T'.heap = h ∧ ∀ target, Steps p.tables e below (T'.setTop { g with pc := g.pc + 5, stack := .ref mr :: rest }) target → Steps p.tables e below (T.setTop g) target := by
  obtain ⟨cB, kB, i1, i2, i3⟩ := isOf hZ eT E
  obtain ⟨cc, kc, m1, m2, m3⟩ := M
  have i1' := i1
  rw [hZ.alike.findClass] at i1'
  cases i1'.symm.trans m1
  obtain ⟨k', q, ek⟩ := hZ.alike.2.2 _ _ m2
  cases i2.symm.trans q
  obtain ⟨vm', X', st⟩ := X.getClassOfI hx (xi := ⟨"java/util/List", "getClass", "()Ljava/lang/Class;"⟩) hown (mvT hZ w1) (mvT hZ w2) (own_mvIM hZ w3) (mvT hZ w4) (mvT hZ w5) (mvT hZ w6) (mvT hZ w7) (mvT hZ w8) (mvT hZ w9) (by decide) (by decide) rfl rfl i1 i2 i3 (by rw [ek]; exact m3) hg hsize hs hd hf (by omega)
  exact ⟨_, X', eT, st⟩
theorem own_ldcM (X : Stand p l e R s m args below meth c T locs cells slots) (hx : p.tables.exec = Jvm.exec) (hZ : Z.Warmed39 s.vm) {own C : String} {index : Nat} (hown : s.vm.findClass own = some m.cls) (w : (Cond.classLink own index C).before a0 Z = true) {mr : Addr} (M : own_Mi Z C mr) (eT : T.heap = h) {g : JFrame} (hg : g.method = m) (hd : decode c.code g.pc = .ok (.ldc index, 2)) :
    ∃ T', Stand p l e R s m args below meth c T' locs cells slots ∧ T'.heap = h ∧ ∀ target, Steps p.tables e below (T'.setTop { g with pc := g.pc + 2, stack := .ref mr :: g.stack }) target → Steps p.tables e below (T.setTop g) target := by
  obtain ⟨cc, kc, m1, m2, m3⟩ := M
  obtain ⟨k', q, ek⟩ := hZ.alike.2.2 _ _ m2
  have hev : (Term.mirror C).eval args s none [] s = some (.ref mr) := by
    have h1 : s.vm.findClass C = some cc := by rw [hZ.alike.findClass]; exact m1
    have h2 : k'.mirror = some mr := by rw [ek]; exact m3
    simp [Term.eval, h1, q, h2]
  obtain ⟨vm', X', st⟩ := X.ldcMirror hx hown (mvT hZ w) hev hg hd
  exact ⟨_, X', eT, st⟩
end Mi
theorem own_and3 (x : Int32) : x &&& (3 : Int32) = 0 ∨ x &&& (3 : Int32) = 1 ∨ x &&& (3 : Int32) = 2 ∨ x &&& (3 : Int32) = 3 := by
  have h : (x &&& (3 : Int32)).toInt = x.toInt % 2 ^ 2 := Jvm.Kit.i32_mask x 3 (k := 2) (by decide) (by decide)
  have : (x &&& (3 : Int32)).toInt = 0 ∨ (x &&& (3 : Int32)).toInt = 1 ∨ (x &&& (3 : Int32)).toInt = 2 ∨ (x &&& (3 : Int32)).toInt = 3 := by omega
  have f : ∀ (n : Int32) (k : Int), n.toInt = k → (x &&& (3 : Int32)).toInt = k → x &&& (3 : Int32) = n := fun n k q r => Int32.toInt_inj.mp (r.trans q.symm)
  exact this.imp (f 0 0 (by decide)) fun r => r.imp (f 1 1 (by decide)) fun r => r.imp (f 2 2 (by decide)) (f 3 3 (by decide))
theorem own_d_jdk_18_method_1_code_0 : decode jdk_18_method_1_code 0 = .ok (.aload_n 0, 1) := by decide +kernel
theorem own_d_jdk_18_method_1_code_1 : decode jdk_18_method_1_code 1 = .ok (.invokespecial 1, 3) := by decide +kernel
theorem own_d_jdk_18_method_1_code_4 : decode jdk_18_method_1_code 4 = .ok (.return_, 1) := by decide +kernel
theorem own_pn0 : plainFor (⟨"java/lang/Number", "<init>", "()V"⟩ : MethodName) = true := by decide +kernel
def own_rm_number_Q (Z : State) (r : Addr) (h0 : Heap) (n0 : Nat) (v : Option Value) (h : Heap) (L : List Loc) : Prop := Fr n0 L ∧ v = none ∧ h = h0
theorem own_rm_number_ef (m : MethodId) (r : Addr)  : entryFrame m #[(.ref r)] 1 = mkF m 0 #[.val (.ref r)] [] := by first | (simp [entryFrame, mkF, argsToLocals, Value.category]; done) | rfl
set_option maxRecDepth 65536 in
set_option maxHeartbeats 40000000 in
theorem own_rm_number (l : Launch) (Z : State) (a0 : Array Value) (hw : ∀ d ∈ tables_1, d.before a0 Z = true) (ws : List Jvm.Cond) (r : Addr) (h0 : Heap) (n0 : Nat) (Z0 : n0 ≤ h0.size)  :
    MetFree l (⟨"java/lang/Number", "<init>", "()V"⟩ : MethodName) (head1 (Jvm.Cond.code (⟨"java/lang/Number", "<init>", "()V"⟩ : MethodName) jdk_18_method_1_code 1 none :: ws) ({ frames := 1, cells := 0, slots := 0, locals := 12 } : Room)) (fun aQ UQ => aQ = #[(.ref r)] ∧ Z.Warmed39 UQ.vm ∧ UQ.heap = h0) (fun _ _ _ _ _ => True) (fun _ UQ oQ U2 => ∃ vQ LQ, oQ = .returned vQ ∧ own_rm_number_Q Z r h0 n0 vQ U2.heap LQ ∧ FrameEnd UQ oQ U2 LQ ({ frames := 1, cells := 0, slots := 0, locals := 12 } : Room).cells ({ frames := 1, cells := 0, slots := 0, locals := 12 } : Room).slots) := by
  refine MetFree.of_bodySF own_pn0 hisR ?_
  intro p e s m args below meth c s₁ Bd hml0 hP hK
  obtain ⟨rfl, hZ, hh⟩ := hP
  have hx := Bd.exec
  have hby := Bd.bytes
  have hml : c.maxLocals = 1 := hml0
  have hlk := BodyLoose.notSynchronized Bd
  have hown : s.vm.findClass "java/lang/Number" = some m.cls := findClass_of_methodNamed Bd.named
  have hnm := (name_of_methodNamed Bd.named Bd.method).1
  have X0 : Stand p l e ({ frames := 1, cells := 0, slots := 0, locals := 12 } : Room) s m #[(.ref r)] below meth c s₁ [] 0 0 := Stand.of_body Bd
  have e0 : s₁.heap = h0 := by rw [← hh, Bd.state]; rfl
  have N0 := Fr.nil n0
  show own_Go p e below s (own_rm_number_Q Z r h0 n0) ({ frames := 1, cells := 0, slots := 0, locals := 12 } : Room).cells ({ frames := 1, cells := 0, slots := 0, locals := 12 } : Room).slots (s₁.setTop (entryFrame m #[(.ref r)] 1))
  rw [own_rm_number_ef]
  show own_Go p e below s _ _ _ (s₁.setTop (mkF m 0 #[.val (.ref r)] []))
  refine own_st (fun _ kQ => XS.aloadN X0.here hx rfl (hb hby own_d_jdk_18_method_1_code_0) rfl rfl kQ) ?_
  show own_Go p e below s _ _ _ (s₁.setTop (mkF m 1 #[.val (.ref r)] [(.ref r)]))
  obtain ⟨T1, X1, e1, st1⟩ := initO X0 hx hZ hown (hw _ (List.mem_of_getElem? (i := 190) rfl)) (hw _ (List.mem_of_getElem? (i := 19) rfl)) (hw _ (List.mem_of_getElem? (i := 20) rfl)) e0 (g := (mkF m 1 #[.val (.ref r)] [(.ref r)])) rfl (by rw [hml]; rfl) rfl (hb hby own_d_jdk_18_method_1_code_1) (by decide) (W := 0) (by show 2 * 0 + _ ≤ _; exact Nat.le_of_eq rfl) (by decide)
  refine own_st st1 ?_
  show own_Go p e below s _ _ _ (T1.setTop (mkF m 4 #[.val (.ref r)] []))
  refine own_ret0 X1 hx hlk Bd.returns (hb hby own_d_jdk_18_method_1_code_4) (by decide) (by decide) ?_
  rw [e1]
  exact ⟨N0, rfl, rfl⟩
theorem own_d_jdk_33_method_23_code_0 : decode jdk_33_method_23_code 0 = .ok (.aload_n 0, 1) := by decide +kernel
theorem own_d_jdk_33_method_23_code_1 : decode jdk_33_method_23_code 1 = .ok (.invokespecial 202, 3) := by decide +kernel
theorem own_d_jdk_33_method_23_code_4 : decode jdk_33_method_23_code 4 = .ok (.aload_n 0, 1) := by decide +kernel
theorem own_d_jdk_33_method_23_code_5 : decode jdk_33_method_23_code 5 = .ok (.iload_n 1, 1) := by decide +kernel
theorem own_d_jdk_33_method_23_code_6 : decode jdk_33_method_23_code 6 = .ok (.putfield 205, 3) := by decide +kernel
theorem own_d_jdk_33_method_23_code_9 : decode jdk_33_method_23_code 9 = .ok (.return_, 1) := by decide +kernel
theorem own_pn1 : plainFor (⟨"java/lang/Integer", "<init>", "(I)V"⟩ : MethodName) = true := by decide +kernel
theorem own_pd0 : parseMethodDescriptor "()V" = some ⟨[], none⟩ := by decide +kernel
def own_rm_boxinitI_Q (Z : State) (r : Addr) (p1 : Int32) (h0 : Heap) (n0 : Nat) (v : Option Value) (h : Heap) (L : List Loc) : Prop := Fr n0 L ∧ v = none ∧ Keep h0 h [r] ∧ Exa Z h r "java/lang/Integer" ∧ Fld Z h r "java/lang/Integer" "value" "I" (.int p1)
theorem own_rm_boxinitI_ef (m : MethodId) (r : Addr) (p1 : Int32)  : entryFrame m #[(.ref r), (.int p1)] 2 = mkF m 0 #[.val (.ref r), .val (.int p1)] [] := by first | (simp [entryFrame, mkF, argsToLocals, Value.category]; done) | rfl
set_option maxRecDepth 65536 in
set_option maxHeartbeats 40000000 in
theorem own_rm_boxinitI (l : Launch) (Z : State) (a0 : Array Value) (hw : ∀ d ∈ tables_1, d.before a0 Z = true) (ws : List Jvm.Cond) (r : Addr) (p1 : Int32) (h0 : Heap) (n0 : Nat) (Z0 : n0 ≤ h0.size) (E1 : Exa Z h0 r "java/lang/Integer") (F1 : Fld Z h0 r "java/lang/Integer" "value" "I" (.int (0 : Int32))) (g1 : n0 ≤ r) :
    MetFree l (⟨"java/lang/Integer", "<init>", "(I)V"⟩ : MethodName) (head1 (Jvm.Cond.code (⟨"java/lang/Integer", "<init>", "(I)V"⟩ : MethodName) jdk_33_method_23_code 2 none :: ws) ({ frames := 2, cells := 0, slots := 0, locals := 24 } : Room)) (fun aQ UQ => aQ = #[(.ref r), (.int p1)] ∧ Z.Warmed39 UQ.vm ∧ UQ.heap = h0) (fun _ _ _ _ _ => True) (fun _ UQ oQ U2 => ∃ vQ LQ, oQ = .returned vQ ∧ own_rm_boxinitI_Q Z r p1 h0 n0 vQ U2.heap LQ ∧ FrameEnd UQ oQ U2 LQ ({ frames := 2, cells := 0, slots := 0, locals := 24 } : Room).cells ({ frames := 2, cells := 0, slots := 0, locals := 24 } : Room).slots) := by
  refine MetFree.of_bodySF own_pn1 hisR ?_
  intro p e s m args below meth c s₁ Bd hml0 hP hK
  obtain ⟨rfl, hZ, hh⟩ := hP
  have hx := Bd.exec
  have hby := Bd.bytes
  have hml : c.maxLocals = 2 := hml0
  have hlk := BodyLoose.notSynchronized Bd
  have hown : s.vm.findClass "java/lang/Integer" = some m.cls := findClass_of_methodNamed Bd.named
  have hnm := (name_of_methodNamed Bd.named Bd.method).1
  have X0 : Stand p l e ({ frames := 2, cells := 0, slots := 0, locals := 24 } : Room) s m #[(.ref r), (.int p1)] below meth c s₁ [] 0 0 := Stand.of_body Bd
  have e0 : s₁.heap = h0 := by rw [← hh, Bd.state]; rfl
  have N0 := Fr.nil n0
  have Kp0 : Keep h0 h0 [r] := Keep.refl _ _
  show own_Go p e below s (own_rm_boxinitI_Q Z r p1 h0 n0) ({ frames := 2, cells := 0, slots := 0, locals := 24 } : Room).cells ({ frames := 2, cells := 0, slots := 0, locals := 24 } : Room).slots (s₁.setTop (entryFrame m #[(.ref r), (.int p1)] 2))
  rw [own_rm_boxinitI_ef]
  show own_Go p e below s _ _ _ (s₁.setTop (mkF m 0 #[.val (.ref r), .val (.int p1)] []))
  refine own_st (fun _ kQ => XS.aloadN X0.here hx rfl (hb hby own_d_jdk_33_method_23_code_0) rfl rfl kQ) ?_
  show own_Go p e below s _ _ _ (s₁.setTop (mkF m 1 #[.val (.ref r), .val (.int p1)] [(.ref r)]))
  obtain ⟨_, _, ⟨T2, L2, k2, n2⟩, -, X2, ⟨Lc2, hQ2, l2, y2, z2⟩, st2⟩ := X0.specialBack hx (y := (⟨"java/lang/Number", "<init>", "()V"⟩ : MethodName)) rfl hown (mvT hZ (hw _ (List.mem_of_getElem? (i := 184) rfl))) (mvT hZ (hw _ (List.mem_of_getElem? (i := 185) rfl))) (mvT hZ (hw _ (List.mem_of_getElem? (i := 189) rfl))) (by decide) (backOf (W := 0) (own_rm_number l Z a0 hw [] r h0 n0 Z0 ) hZ (hw _ (List.mem_of_getElem? (i := 189) rfl)) (hw _ (List.mem_of_getElem? (i := 188) rfl)) (by decide) (by decide)) (g := (mkF m 1 #[.val (.ref r), .val (.int p1)] [(.ref r)])) rfl (by rw [hml]; rfl) (Steps.refl _) (a := r) (argsL := []) (rest := []) (lenOf own_pd0 rfl) rfl (by show 2 * 0 + _ ≤ _; exact Nat.le_of_eq rfl) (hb hby own_d_jdk_33_method_23_code_1) (fun _ _ => ⟨rfl, e0, (by decide : 0 + 0 ≤ _), (by decide : 0 + 0 ≤ _)⟩)
  dsimp only [Pt.U, Pt.locs, Pt.cells, Pt.slots] at X2 l2 y2 z2 st2 hQ2
  subst l2 y2 z2
  obtain ⟨N2q, rfl, eh2⟩ := hQ2
  have N3 := Fr.app N0 N2q
  refine own_tr st2 ?_
  show own_Go p e below s _ _ _ (T2.setTop (mkF m 4 #[.val (.ref r), .val (.int p1)] []))
  refine own_st (fun _ kQ => XS.aloadN X2.here hx rfl (hb hby own_d_jdk_33_method_23_code_4) rfl rfl kQ) ?_
  show own_Go p e below s _ _ _ (T2.setTop (mkF m 5 #[.val (.ref r), .val (.int p1)] [(.ref r)]))
  refine own_st (fun _ kQ => XS.iloadN X2.here hx rfl (hb hby own_d_jdk_33_method_23_code_5) rfl kQ) ?_
  show own_Go p e below s _ _ _ (T2.setTop (mkF m 6 #[.val (.ref r), .val (.int p1)] [(.int p1), (.ref r)]))
  obtain ⟨T4, h4, X4, e4, W4, st4⟩ := putF X2 hx hZ hown (host := "") (Or.inl (hw _ (List.mem_of_getElem? (i := 177) rfl))) Via.refl eh2 F1 E1 (Or.inr ⟨(hw _ (List.mem_of_getElem? (i := 178) rfl)), rfl, hnm⟩) (hw _ (List.mem_of_getElem? (i := 180) rfl)) (ty := .int) (by decide) rfl rfl (g := (mkF m 6 #[.val (.ref r), .val (.int p1)] [(.int p1), (.ref r)])) rfl rfl (hb hby own_d_jdk_33_method_23_code_6)
  refine own_st st4 ?_
  have N5 := Fr.snoc X4 N3 g1
  have F6 : Fld Z h4 r "java/lang/Integer" "value" "I" (.int p1) := F1.same W4
  have lt7 : r < h4.size := Nat.lt_of_lt_of_le F1.lt (Nat.le_of_eq W4.size.symm)
  have Zs8 : n0 ≤ h4.size := Nat.le_trans Z0 (Nat.le_of_eq W4.size.symm)
  have Kp9 : Keep h0 h4 [r] := Kp0.wr W4 (Or.inl (List.mem_of_getElem? (i := 0) rfl))
  show own_Go p e below s _ _ _ (T4.setTop (mkF m 9 #[.val (.ref r), .val (.int p1)] []))
  have F10 : Exa Z h4 r "java/lang/Integer" := (E1.wr W4)
  refine own_ret0 X4 hx hlk Bd.returns (hb hby own_d_jdk_33_method_23_code_9) (by decide) (by decide) ?_
  rw [e4]
  exact ⟨N5, rfl, Kp9, F10, F6⟩
theorem own_d_jdk_33_method_22_code_0 : decode jdk_33_method_22_code 0 = .ok (.iload_n 0, 1) := by decide +kernel
theorem own_d_jdk_33_method_22_code_1 : decode jdk_33_method_22_code 1 = .ok (.bipush (-128), 2) := by decide +kernel
theorem own_d_jdk_33_method_22_code_3 : decode jdk_33_method_22_code 3 = .ok (.if_icmp .lt 20, 3) := by decide +kernel
theorem own_d_jdk_33_method_22_code_6 : decode jdk_33_method_22_code 6 = .ok (.iload_n 0, 1) := by decide +kernel
theorem own_d_jdk_33_method_22_code_7 : decode jdk_33_method_22_code 7 = .ok (.getstatic 191, 3) := by decide +kernel
theorem own_d_jdk_33_method_22_code_10 : decode jdk_33_method_22_code 10 = .ok (.if_icmp .gt 13, 3) := by decide +kernel
theorem own_d_jdk_33_method_22_code_13 : decode jdk_33_method_22_code 13 = .ok (.getstatic 195, 3) := by decide +kernel
theorem own_d_jdk_33_method_22_code_16 : decode jdk_33_method_22_code 16 = .ok (.iload_n 0, 1) := by decide +kernel
theorem own_d_jdk_33_method_22_code_17 : decode jdk_33_method_22_code 17 = .ok (.sipush 128, 3) := by decide +kernel
theorem own_d_jdk_33_method_22_code_20 : decode jdk_33_method_22_code 20 = .ok (.iadd, 1) := by decide +kernel
theorem own_d_jdk_33_method_22_code_21 : decode jdk_33_method_22_code 21 = .ok (.aaload, 1) := by decide +kernel
theorem own_d_jdk_33_method_22_code_22 : decode jdk_33_method_22_code 22 = .ok (.areturn, 1) := by decide +kernel
theorem own_d_jdk_33_method_22_code_23 : decode jdk_33_method_22_code 23 = .ok (.new 1, 3) := by decide +kernel
theorem own_d_jdk_33_method_22_code_26 : decode jdk_33_method_22_code 26 = .ok (.dup, 1) := by decide +kernel
theorem own_d_jdk_33_method_22_code_27 : decode jdk_33_method_22_code 27 = .ok (.iload_n 0, 1) := by decide +kernel
theorem own_d_jdk_33_method_22_code_28 : decode jdk_33_method_22_code 28 = .ok (.invokespecial 199, 3) := by decide +kernel
theorem own_d_jdk_33_method_22_code_31 : decode jdk_33_method_22_code 31 = .ok (.areturn, 1) := by decide +kernel
theorem own_pn2 : plainFor (⟨"java/lang/Integer", "valueOf", "(I)Ljava/lang/Integer;"⟩ : MethodName) = true := by decide +kernel
theorem own_pd1 : parseMethodDescriptor "(I)V" = some ⟨[.int], none⟩ := by decide +kernel
def own_rm_valueOfI_Q (Z : State) (p1 : Int32) (a_cacheI : Addr) (h0 : Heap) (n0 : Nat) (v : Option Value) (h : Heap) (L : List Loc) : Prop := ∃ r : Addr, Fr n0 L ∧ v = some (.ref r) ∧ Keep h0 h [] ∧ Exa Z h r "java/lang/Integer" ∧ Fld Z h r "java/lang/Integer" "value" "I" (.int p1)
theorem own_rm_valueOfI_ef (m : MethodId) (p1 : Int32)  : entryFrame m #[(.int p1)] 1 = mkF m 0 #[.val (.int p1)] [] := by first | (simp [entryFrame, mkF, argsToLocals, Value.category]; done) | rfl
set_option maxRecDepth 65536 in
set_option maxHeartbeats 40000000 in
theorem own_rm_valueOfI (l : Launch) (Z : State) (a0 : Array Value) (hw : ∀ d ∈ tables_1, d.before a0 Z = true) (ws : List Jvm.Cond) (p1 : Int32) (a_cacheI : Addr) (h0 : Heap) (n0 : Nat) (Z0 : n0 ≤ h0.size) (O0 : Old Z n0 h0) (S_cacheI : Sta Z Z.heap "java/lang/Integer$IntegerCache" "cache" "[Ljava/lang/Integer;" (.ref a_cacheI)) (BxI : own_BoxI Z a_cacheI) (S_high : Sta Z Z.heap "java/lang/Integer$IntegerCache" "high" "I" (.int (127 : Int32))) :
    MetFree l (⟨"java/lang/Integer", "valueOf", "(I)Ljava/lang/Integer;"⟩ : MethodName) (head1 (Jvm.Cond.code (⟨"java/lang/Integer", "valueOf", "(I)Ljava/lang/Integer;"⟩ : MethodName) jdk_33_method_22_code 1 (some (.object "java/lang/Integer")) :: ws) ({ frames := 3, cells := 1, slots := 1, locals := 38 } : Room)) (fun aQ UQ => aQ = #[(.int p1)] ∧ Z.Warmed39 UQ.vm ∧ UQ.heap = h0) (fun _ _ _ _ _ => True) (fun _ UQ oQ U2 => ∃ vQ LQ, oQ = .returned vQ ∧ own_rm_valueOfI_Q Z p1 a_cacheI h0 n0 vQ U2.heap LQ ∧ FrameEnd UQ oQ U2 LQ ({ frames := 3, cells := 1, slots := 1, locals := 38 } : Room).cells ({ frames := 3, cells := 1, slots := 1, locals := 38 } : Room).slots) := by
  refine MetFree.of_bodySF own_pn2 hisR ?_
  intro p e s m args below meth c s₁ Bd hml0 hP hK
  obtain ⟨rfl, hZ, hh⟩ := hP
  have hx := Bd.exec
  have hby := Bd.bytes
  have hml : c.maxLocals = 1 := hml0
  have hlk := BodyLoose.notSynchronized Bd
  have hown : s.vm.findClass "java/lang/Integer" = some m.cls := findClass_of_methodNamed Bd.named
  have hnm := (name_of_methodNamed Bd.named Bd.method).1
  have X0 : Stand p l e ({ frames := 3, cells := 1, slots := 1, locals := 38 } : Room) s m #[(.int p1)] below meth c s₁ [] 0 0 := Stand.of_body Bd
  have e0 : s₁.heap = h0 := by rw [← hh, Bd.state]; rfl
  have N0 := Fr.nil n0
  have Kp0 : Keep h0 h0 [] := Keep.refl _ _
  show own_Go p e below s (own_rm_valueOfI_Q Z p1 a_cacheI h0 n0) ({ frames := 3, cells := 1, slots := 1, locals := 38 } : Room).cells ({ frames := 3, cells := 1, slots := 1, locals := 38 } : Room).slots (s₁.setTop (entryFrame m #[(.int p1)] 1))
  rw [own_rm_valueOfI_ef]
  show own_Go p e below s _ _ _ (s₁.setTop (mkF m 0 #[.val (.int p1)] []))
  refine own_st (fun _ kQ => XS.iloadN X0.here hx rfl (hb hby own_d_jdk_33_method_22_code_0) rfl kQ) ?_
  show own_Go p e below s _ _ _ (s₁.setTop (mkF m 1 #[.val (.int p1)] [(.int p1)]))
  refine own_st (fun _ kQ => XT.bipushV X0.here hx rfl (-128 : Int32) (hb hby own_d_jdk_33_method_22_code_1) (by decide) kQ) ?_
  show own_Go p e below s _ _ _ (s₁.setTop (mkF m 3 #[.val (.int p1)] [(.int (-128 : Int32)), (.int p1)]))
  by_cases hc11 : p1 < (-128 : Int32)
  · refine own_st (fun _ kQ => XS.icmpYes X0.here hx rfl (pc0 := 3) (pc' := 23) rfl (hb hby own_d_jdk_33_method_22_code_3) rfl (XT.ii_lt_t hc11) (by decide) (by decide) kQ) ?_
    show own_Go p e below s _ _ _ (s₁.setTop (mkF m 23 #[.val (.int p1)] []))
    obtain ⟨T12, h12, X12, e12, E12, A12, D12, -, st12⟩ := newO X0 hx hZ hown (hw _ (List.mem_of_getElem? (i := 179) rfl)) (hw _ (List.mem_of_getElem? (i := 180) rfl)) (hw _ (List.mem_of_getElem? (i := 28) rfl)) e0 (g := (mkF m 23 #[.val (.int p1)] [])) rfl (hb hby own_d_jdk_33_method_22_code_23) (by decide) (by decide)
    obtain ⟨b12, g12⟩ : ∃ z, z = h0.size := ⟨_, rfl⟩
    rw [← g12] at A12 D12 st12
    refine own_st st12 ?_
    have Zs13 : n0 ≤ h12.size := Nat.le_trans Z0 E12.1
    have Kp14 : Keep h0 h12 [] := Kp0.ext E12
    have g15 : n0 ≤ b12 := Nat.le_trans Z0 (Nat.le_of_eq g12.symm)
    have sz16 : h0.size ≤ b12 := Nat.le_trans Kp0.1 (Nat.le_of_eq g12.symm)
    have F17 : Fld Z h12 b12 "java/lang/Integer" "value" "I" (.int (0 : Int32)) := D12 (Or.inr (hw _ (List.mem_of_getElem? (i := 178) rfl))) (ty := .int) (by decide)
    show own_Go p e below s _ _ _ (T12.setTop (mkF m 26 #[.val (.int p1)] [(.ref b12)]))
    refine own_st (fun _ kQ => XS.dup X12.here hx rfl (hb hby own_d_jdk_33_method_22_code_26) rfl rfl kQ) ?_
    show own_Go p e below s _ _ _ (T12.setTop (mkF m 27 #[.val (.int p1)] [(.ref b12), (.ref b12)]))
    refine own_st (fun _ kQ => XS.iloadN X12.here hx rfl (hb hby own_d_jdk_33_method_22_code_27) rfl kQ) ?_
    show own_Go p e below s _ _ _ (T12.setTop (mkF m 28 #[.val (.int p1)] [(.int p1), (.ref b12), (.ref b12)]))
    obtain ⟨_, _, ⟨T18, L18, k18, n18⟩, -, X18, ⟨Lc18, hQ18, l18, y18, z18⟩, st18⟩ := X12.specialBack hx (y := (⟨"java/lang/Integer", "<init>", "(I)V"⟩ : MethodName)) rfl hown (mvT hZ (hw _ (List.mem_of_getElem? (i := 181) rfl))) (mvT hZ (hw _ (List.mem_of_getElem? (i := 182) rfl))) (mvT hZ (hw _ (List.mem_of_getElem? (i := 183) rfl))) (by decide) (backOf (W := 1) (own_rm_boxinitI l Z a0 hw [] b12 p1 h12 n0 Zs13 A12 F17 g15) hZ (hw _ (List.mem_of_getElem? (i := 183) rfl)) (hw _ (List.mem_of_getElem? (i := 28) rfl)) (by decide) (by decide)) (g := (mkF m 28 #[.val (.int p1)] [(.int p1), (.ref b12), (.ref b12)])) rfl (by rw [hml]; rfl) (Steps.refl _) (a := b12) (argsL := [(.int p1)]) (rest := [(.ref b12)]) (lenOf own_pd1 rfl) rfl (by show 2 * 0 + _ ≤ _; exact Nat.le_of_eq rfl) (hb hby own_d_jdk_33_method_22_code_28) (fun _ _ => ⟨rfl, e12, (by decide : 1 + 0 ≤ _), (by decide : 1 + 0 ≤ _)⟩)
    dsimp only [Pt.U, Pt.locs, Pt.cells, Pt.slots] at X18 l18 y18 z18 st18 hQ18
    subst l18 y18 z18
    obtain ⟨N18q, rfl, K18, q19, q20⟩ := hQ18
    have N21 := Fr.app N0 N18q
    refine own_tr st18 ?_
    have lt22 : b12 < T18.heap.size := Nat.lt_of_lt_of_le A12.lt K18.1
    have Zs23 : n0 ≤ T18.heap.size := Nat.le_trans Zs13 K18.1
    have Kp24 : Keep h0 T18.heap [] := Kp14.trans K18 (allS (Or.inr sz16) all0)
    show own_Go p e below s _ _ _ (T18.setTop (mkF m 31 #[.val (.int p1)] [(.ref b12)]))
    refine own_retA X18 hx hlk Bd.returns rfl (hb hby own_d_jdk_33_method_22_code_31) (by decide) (by decide) ?_
    skip
    exact ⟨b12, N21, rfl, Kp24, q19, q20⟩
  · refine own_st (fun _ kQ => XS.icmpNo X0.here hx rfl (hb hby own_d_jdk_33_method_22_code_3) rfl (XT.ii_lt_f hc11) kQ) ?_
    show own_Go p e below s _ _ _ (s₁.setTop (mkF m 6 #[.val (.int p1)] []))
    refine own_st (fun _ kQ => XS.iloadN X0.here hx rfl (hb hby own_d_jdk_33_method_22_code_6) rfl kQ) ?_
    show own_Go p e below s _ _ _ (s₁.setTop (mkF m 7 #[.val (.int p1)] [(.int p1)]))
    have F25 : Sta Z h0 "java/lang/Integer$IntegerCache" "high" "I" (.int (127 : Int32)) := S_high.ext O0.2
    obtain ⟨T26, X26, e26, st26⟩ := getS2 X0 hx hZ hown (host := "") (Or.inl (hw _ (List.mem_of_getElem? (i := 30) rfl))) Via.refl e0 F25 (g := (mkF m 7 #[.val (.int p1)] [(.int p1)])) rfl (hb hby own_d_jdk_33_method_22_code_7)
    refine own_st st26 ?_
    show own_Go p e below s _ _ _ (T26.setTop (mkF m 10 #[.val (.int p1)] [(.int (127 : Int32)), (.int p1)]))
    by_cases hc27 : (127 : Int32) < p1
    · refine own_st (fun _ kQ => XS.icmpYes X26.here hx rfl (pc0 := 10) (pc' := 23) rfl (hb hby own_d_jdk_33_method_22_code_10) rfl (XT.ii_gt_t hc27) (by decide) (by decide) kQ) ?_
      show own_Go p e below s _ _ _ (T26.setTop (mkF m 23 #[.val (.int p1)] []))
      obtain ⟨T28, h28, X28, e28, E28, A28, D28, -, st28⟩ := newO X26 hx hZ hown (hw _ (List.mem_of_getElem? (i := 179) rfl)) (hw _ (List.mem_of_getElem? (i := 180) rfl)) (hw _ (List.mem_of_getElem? (i := 28) rfl)) e26 (g := (mkF m 23 #[.val (.int p1)] [])) rfl (hb hby own_d_jdk_33_method_22_code_23) (by decide) (by decide)
      obtain ⟨b28, g28⟩ : ∃ z, z = h0.size := ⟨_, rfl⟩
      rw [← g28] at A28 D28 st28
      refine own_st st28 ?_
      have Zs29 : n0 ≤ h28.size := Nat.le_trans Z0 E28.1
      have Kp30 : Keep h0 h28 [] := Kp0.ext E28
      have g31 : n0 ≤ b28 := Nat.le_trans Z0 (Nat.le_of_eq g28.symm)
      have sz32 : h0.size ≤ b28 := Nat.le_trans Kp0.1 (Nat.le_of_eq g28.symm)
      have F33 : Fld Z h28 b28 "java/lang/Integer" "value" "I" (.int (0 : Int32)) := D28 (Or.inr (hw _ (List.mem_of_getElem? (i := 178) rfl))) (ty := .int) (by decide)
      show own_Go p e below s _ _ _ (T28.setTop (mkF m 26 #[.val (.int p1)] [(.ref b28)]))
      refine own_st (fun _ kQ => XS.dup X28.here hx rfl (hb hby own_d_jdk_33_method_22_code_26) rfl rfl kQ) ?_
      show own_Go p e below s _ _ _ (T28.setTop (mkF m 27 #[.val (.int p1)] [(.ref b28), (.ref b28)]))
      refine own_st (fun _ kQ => XS.iloadN X28.here hx rfl (hb hby own_d_jdk_33_method_22_code_27) rfl kQ) ?_
      show own_Go p e below s _ _ _ (T28.setTop (mkF m 28 #[.val (.int p1)] [(.int p1), (.ref b28), (.ref b28)]))
      obtain ⟨_, _, ⟨T34, L34, k34, n34⟩, -, X34, ⟨Lc34, hQ34, l34, y34, z34⟩, st34⟩ := X28.specialBack hx (y := (⟨"java/lang/Integer", "<init>", "(I)V"⟩ : MethodName)) rfl hown (mvT hZ (hw _ (List.mem_of_getElem? (i := 181) rfl))) (mvT hZ (hw _ (List.mem_of_getElem? (i := 182) rfl))) (mvT hZ (hw _ (List.mem_of_getElem? (i := 183) rfl))) (by decide) (backOf (W := 1) (own_rm_boxinitI l Z a0 hw [] b28 p1 h28 n0 Zs29 A28 F33 g31) hZ (hw _ (List.mem_of_getElem? (i := 183) rfl)) (hw _ (List.mem_of_getElem? (i := 28) rfl)) (by decide) (by decide)) (g := (mkF m 28 #[.val (.int p1)] [(.int p1), (.ref b28), (.ref b28)])) rfl (by rw [hml]; rfl) (Steps.refl _) (a := b28) (argsL := [(.int p1)]) (rest := [(.ref b28)]) (lenOf own_pd1 rfl) rfl (by show 2 * 0 + _ ≤ _; exact Nat.le_of_eq rfl) (hb hby own_d_jdk_33_method_22_code_28) (fun _ _ => ⟨rfl, e28, (by decide : 1 + 0 ≤ _), (by decide : 1 + 0 ≤ _)⟩)
      dsimp only [Pt.U, Pt.locs, Pt.cells, Pt.slots] at X34 l34 y34 z34 st34 hQ34
      subst l34 y34 z34
      obtain ⟨N34q, rfl, K34, q35, q36⟩ := hQ34
      have N37 := Fr.app N0 N34q
      refine own_tr st34 ?_
      have lt38 : b28 < T34.heap.size := Nat.lt_of_lt_of_le A28.lt K34.1
      have Zs39 : n0 ≤ T34.heap.size := Nat.le_trans Zs29 K34.1
      have Kp40 : Keep h0 T34.heap [] := Kp30.trans K34 (allS (Or.inr sz32) all0)
      show own_Go p e below s _ _ _ (T34.setTop (mkF m 31 #[.val (.int p1)] [(.ref b28)]))
      refine own_retA X34 hx hlk Bd.returns rfl (hb hby own_d_jdk_33_method_22_code_31) (by decide) (by decide) ?_
      skip
      exact ⟨b28, N37, rfl, Kp40, q35, q36⟩
    · refine own_st (fun _ kQ => XS.icmpNo X26.here hx rfl (hb hby own_d_jdk_33_method_22_code_10) rfl (XT.ii_gt_f hc27) kQ) ?_
      show own_Go p e below s _ _ _ (T26.setTop (mkF m 13 #[.val (.int p1)] []))
      have F41 : Sta Z h0 "java/lang/Integer$IntegerCache" "cache" "[Ljava/lang/Integer;" (.ref a_cacheI) := S_cacheI.ext O0.2
      obtain ⟨T42, X42, e42, st42⟩ := getS2 X26 hx hZ hown (host := "") (Or.inl (hw _ (List.mem_of_getElem? (i := 32) rfl))) Via.refl e26 F41 (g := (mkF m 13 #[.val (.int p1)] [])) rfl (hb hby own_d_jdk_33_method_22_code_13)
      refine own_st st42 ?_
      show own_Go p e below s _ _ _ (T42.setTop (mkF m 16 #[.val (.int p1)] [(.ref a_cacheI)]))
      refine own_st (fun _ kQ => XS.iloadN X42.here hx rfl (hb hby own_d_jdk_33_method_22_code_16) rfl kQ) ?_
      show own_Go p e below s _ _ _ (T42.setTop (mkF m 17 #[.val (.int p1)] [(.int p1), (.ref a_cacheI)]))
      refine own_st (fun _ kQ => XT.sipushV X42.here hx rfl (128 : Int32) (hb hby own_d_jdk_33_method_22_code_17) (by decide) kQ) ?_
      show own_Go p e below s _ _ _ (T42.setTop (mkF m 20 #[.val (.int p1)] [(.int (128 : Int32)), (.int p1), (.ref a_cacheI)]))
      refine own_st (fun _ kQ => XS.iadd X42.here hx rfl (hb hby own_d_jdk_33_method_22_code_20) rfl kQ) ?_
      show own_Go p e below s _ _ _ (T42.setTop (mkF m 21 #[.val (.int p1)] [(.int (p1 + (128 : Int32))), (.ref a_cacheI)]))
      obtain ⟨hin0, hlt0⟩ := own_placeI p1 hc11 hc27
      obtain ⟨cl0, Ar0, Sz0, Hj0⟩ := BxI
      obtain ⟨r0, hat0, Er0, Fr0⟩ := Hj0 _ hin0
      refine own_st (fun _ kQ => X42.aaload hx (j := (p1 + (128 : Int32))) (v := .ref r0) (own_hp e42 (Ar0.ext O0.2).1) (State.isArrayOf_alike hZ.alike Ar0.2.1) rfl Ar0.2.2 (by rw [Sz0]; exact hin0) hat0 (g := (mkF m 21 #[.val (.int p1)] [(.int (p1 + (128 : Int32))), (.ref a_cacheI)])) rfl rfl (hb hby own_d_jdk_33_method_22_code_21) _ kQ) ?_
      have hv1 : Fld Z Z.heap r0 "java/lang/Integer" "value" "I" (.int p1) := by rw [own_bkI p1] at Fr0; exact Fr0
      show own_Go p e below s _ _ _ (T42.setTop (mkF m 22 #[.val (.int p1)] [(.ref r0)]))
      have F43 : Exa Z h0 r0 "java/lang/Integer" := Er0.ext O0.2
      have F44 : Fld Z h0 r0 "java/lang/Integer" "value" "I" (.int p1) := hv1.ext O0.2
      refine own_retA X42 hx hlk Bd.returns rfl (hb hby own_d_jdk_33_method_22_code_22) (by decide) (by decide) ?_
      rw [e42]
      exact ⟨r0, N0, rfl, Kp0, F43, F44⟩
theorem own_d_jdk_22_method_1_code_0 : decode jdk_22_method_1_code 0 = .ok (.aload_n 0, 1) := by decide +kernel
theorem own_d_jdk_22_method_1_code_1 : decode jdk_22_method_1_code 1 = .ok (.invokespecial 1, 3) := by decide +kernel
theorem own_d_jdk_22_method_1_code_4 : decode jdk_22_method_1_code 4 = .ok (.return_, 1) := by decide +kernel
theorem own_pn3 : plainFor (⟨"java/util/AbstractCollection", "<init>", "()V"⟩ : MethodName) = true := by decide +kernel
def own_rm_abc_Q (Z : State) (r : Addr) (h0 : Heap) (n0 : Nat) (v : Option Value) (h : Heap) (L : List Loc) : Prop := Fr n0 L ∧ v = none ∧ h = h0
theorem own_rm_abc_ef (m : MethodId) (r : Addr)  : entryFrame m #[(.ref r)] 1 = mkF m 0 #[.val (.ref r)] [] := by first | (simp [entryFrame, mkF, argsToLocals, Value.category]; done) | rfl
set_option maxRecDepth 65536 in
set_option maxHeartbeats 40000000 in
theorem own_rm_abc (l : Launch) (Z : State) (a0 : Array Value) (hw : ∀ d ∈ tables_1, d.before a0 Z = true) (ws : List Jvm.Cond) (r : Addr) (h0 : Heap) (n0 : Nat) (Z0 : n0 ≤ h0.size)  :
    MetFree l (⟨"java/util/AbstractCollection", "<init>", "()V"⟩ : MethodName) (head1 (Jvm.Cond.code (⟨"java/util/AbstractCollection", "<init>", "()V"⟩ : MethodName) jdk_22_method_1_code 1 none :: ws) ({ frames := 1, cells := 0, slots := 0, locals := 12 } : Room)) (fun aQ UQ => aQ = #[(.ref r)] ∧ Z.Warmed39 UQ.vm ∧ UQ.heap = h0) (fun _ _ _ _ _ => True) (fun _ UQ oQ U2 => ∃ vQ LQ, oQ = .returned vQ ∧ own_rm_abc_Q Z r h0 n0 vQ U2.heap LQ ∧ FrameEnd UQ oQ U2 LQ ({ frames := 1, cells := 0, slots := 0, locals := 12 } : Room).cells ({ frames := 1, cells := 0, slots := 0, locals := 12 } : Room).slots) := by
  refine MetFree.of_bodySF own_pn3 hisR ?_
  intro p e s m args below meth c s₁ Bd hml0 hP hK
  obtain ⟨rfl, hZ, hh⟩ := hP
  have hx := Bd.exec
  have hby := Bd.bytes
  have hml : c.maxLocals = 1 := hml0
  have hlk := BodyLoose.notSynchronized Bd
  have hown : s.vm.findClass "java/util/AbstractCollection" = some m.cls := findClass_of_methodNamed Bd.named
  have hnm := (name_of_methodNamed Bd.named Bd.method).1
  have X0 : Stand p l e ({ frames := 1, cells := 0, slots := 0, locals := 12 } : Room) s m #[(.ref r)] below meth c s₁ [] 0 0 := Stand.of_body Bd
  have e0 : s₁.heap = h0 := by rw [← hh, Bd.state]; rfl
  have N0 := Fr.nil n0
  show own_Go p e below s (own_rm_abc_Q Z r h0 n0) ({ frames := 1, cells := 0, slots := 0, locals := 12 } : Room).cells ({ frames := 1, cells := 0, slots := 0, locals := 12 } : Room).slots (s₁.setTop (entryFrame m #[(.ref r)] 1))
  rw [own_rm_abc_ef]
  show own_Go p e below s _ _ _ (s₁.setTop (mkF m 0 #[.val (.ref r)] []))
  refine own_st (fun _ kQ => XS.aloadN X0.here hx rfl (hb hby own_d_jdk_22_method_1_code_0) rfl rfl kQ) ?_
  show own_Go p e below s _ _ _ (s₁.setTop (mkF m 1 #[.val (.ref r)] [(.ref r)]))
  obtain ⟨T45, X45, e45, st45⟩ := initO X0 hx hZ hown (hw _ (List.mem_of_getElem? (i := 18) rfl)) (hw _ (List.mem_of_getElem? (i := 19) rfl)) (hw _ (List.mem_of_getElem? (i := 20) rfl)) e0 (g := (mkF m 1 #[.val (.ref r)] [(.ref r)])) rfl (by rw [hml]; rfl) rfl (hb hby own_d_jdk_22_method_1_code_1) (by decide) (W := 0) (by show 2 * 0 + _ ≤ _; exact Nat.le_of_eq rfl) (by decide)
  refine own_st st45 ?_
  show own_Go p e below s _ _ _ (T45.setTop (mkF m 4 #[.val (.ref r)] []))
  refine own_ret0 X45 hx hlk Bd.returns (hb hby own_d_jdk_22_method_1_code_4) (by decide) (by decide) ?_
  rw [e45]
  exact ⟨N0, rfl, rfl⟩
theorem own_d_jdk_39_method_1_code_0 : decode jdk_39_method_1_code 0 = .ok (.aload_n 0, 1) := by decide +kernel
theorem own_d_jdk_39_method_1_code_1 : decode jdk_39_method_1_code 1 = .ok (.invokespecial 1, 3) := by decide +kernel
theorem own_d_jdk_39_method_1_code_4 : decode jdk_39_method_1_code 4 = .ok (.aload_n 0, 1) := by decide +kernel
theorem own_d_jdk_39_method_1_code_5 : decode jdk_39_method_1_code 5 = .ok (.iconst 0, 1) := by decide +kernel
theorem own_d_jdk_39_method_1_code_6 : decode jdk_39_method_1_code 6 = .ok (.putfield 7, 3) := by decide +kernel
theorem own_d_jdk_39_method_1_code_9 : decode jdk_39_method_1_code 9 = .ok (.return_, 1) := by decide +kernel
theorem own_pn4 : plainFor (⟨"java/util/AbstractList", "<init>", "()V"⟩ : MethodName) = true := by decide +kernel
def own_rm_abl_Q (Z : State) (r : Addr) (h0 : Heap) (n0 : Nat) (v : Option Value) (h : Heap) (L : List Loc) : Prop := Fr n0 L ∧ v = none ∧ Keep h0 h [r] ∧ Exa Z h r "java/util/ArrayList" ∧ Fld Z h r "java/util/AbstractList" "modCount" "I" (.int (0 : Int32)) ∧ Fld Z h r "java/util/ArrayList" "elementData" "[Ljava/lang/Object;" .null ∧ Fld Z h r "java/util/ArrayList" "size" "I" (.int (0 : Int32))
theorem own_rm_abl_ef (m : MethodId) (r : Addr)  : entryFrame m #[(.ref r)] 1 = mkF m 0 #[.val (.ref r)] [] := by first | (simp [entryFrame, mkF, argsToLocals, Value.category]; done) | rfl
set_option maxRecDepth 65536 in
set_option maxHeartbeats 40000000 in
theorem own_rm_abl (l : Launch) (Z : State) (a0 : Array Value) (hw : ∀ d ∈ tables_1, d.before a0 Z = true) (ws : List Jvm.Cond) (r : Addr) (h0 : Heap) (n0 : Nat) (Z0 : n0 ≤ h0.size) (E1 : Exa Z h0 r "java/util/ArrayList") (F1 : Fld Z h0 r "java/util/AbstractList" "modCount" "I" (.int (0 : Int32))) (F2 : Fld Z h0 r "java/util/ArrayList" "elementData" "[Ljava/lang/Object;" .null) (F3 : Fld Z h0 r "java/util/ArrayList" "size" "I" (.int (0 : Int32))) (g1 : n0 ≤ r) :
    MetFree l (⟨"java/util/AbstractList", "<init>", "()V"⟩ : MethodName) (head1 (Jvm.Cond.code (⟨"java/util/AbstractList", "<init>", "()V"⟩ : MethodName) jdk_39_method_1_code 1 none :: ws) ({ frames := 2, cells := 0, slots := 0, locals := 24 } : Room)) (fun aQ UQ => aQ = #[(.ref r)] ∧ Z.Warmed39 UQ.vm ∧ UQ.heap = h0) (fun _ _ _ _ _ => True) (fun _ UQ oQ U2 => ∃ vQ LQ, oQ = .returned vQ ∧ own_rm_abl_Q Z r h0 n0 vQ U2.heap LQ ∧ FrameEnd UQ oQ U2 LQ ({ frames := 2, cells := 0, slots := 0, locals := 24 } : Room).cells ({ frames := 2, cells := 0, slots := 0, locals := 24 } : Room).slots) := by
  refine MetFree.of_bodySF own_pn4 hisR ?_
  intro p e s m args below meth c s₁ Bd hml0 hP hK
  obtain ⟨rfl, hZ, hh⟩ := hP
  have hx := Bd.exec
  have hby := Bd.bytes
  have hml : c.maxLocals = 1 := hml0
  have hlk := BodyLoose.notSynchronized Bd
  have hown : s.vm.findClass "java/util/AbstractList" = some m.cls := findClass_of_methodNamed Bd.named
  have hnm := (name_of_methodNamed Bd.named Bd.method).1
  have X0 : Stand p l e ({ frames := 2, cells := 0, slots := 0, locals := 24 } : Room) s m #[(.ref r)] below meth c s₁ [] 0 0 := Stand.of_body Bd
  have e0 : s₁.heap = h0 := by rw [← hh, Bd.state]; rfl
  have N0 := Fr.nil n0
  have Kp0 : Keep h0 h0 [r] := Keep.refl _ _
  show own_Go p e below s (own_rm_abl_Q Z r h0 n0) ({ frames := 2, cells := 0, slots := 0, locals := 24 } : Room).cells ({ frames := 2, cells := 0, slots := 0, locals := 24 } : Room).slots (s₁.setTop (entryFrame m #[(.ref r)] 1))
  rw [own_rm_abl_ef]
  show own_Go p e below s _ _ _ (s₁.setTop (mkF m 0 #[.val (.ref r)] []))
  refine own_st (fun _ kQ => XS.aloadN X0.here hx rfl (hb hby own_d_jdk_39_method_1_code_0) rfl rfl kQ) ?_
  show own_Go p e below s _ _ _ (s₁.setTop (mkF m 1 #[.val (.ref r)] [(.ref r)]))
  obtain ⟨_, _, ⟨T46, L46, k46, n46⟩, -, X46, ⟨Lc46, hQ46, l46, y46, z46⟩, st46⟩ := X0.specialBack hx (y := (⟨"java/util/AbstractCollection", "<init>", "()V"⟩ : MethodName)) rfl hown (mvT hZ (hw _ (List.mem_of_getElem? (i := 12) rfl))) (mvT hZ (hw _ (List.mem_of_getElem? (i := 13) rfl))) (mvT hZ (hw _ (List.mem_of_getElem? (i := 17) rfl))) (by decide) (backOf (W := 0) (own_rm_abc l Z a0 hw [] r h0 n0 Z0 ) hZ (hw _ (List.mem_of_getElem? (i := 17) rfl)) (hw _ (List.mem_of_getElem? (i := 16) rfl)) (by decide) (by decide)) (g := (mkF m 1 #[.val (.ref r)] [(.ref r)])) rfl (by rw [hml]; rfl) (Steps.refl _) (a := r) (argsL := []) (rest := []) (lenOf own_pd0 rfl) rfl (by show 2 * 0 + _ ≤ _; exact Nat.le_of_eq rfl) (hb hby own_d_jdk_39_method_1_code_1) (fun _ _ => ⟨rfl, e0, (by decide : 0 + 0 ≤ _), (by decide : 0 + 0 ≤ _)⟩)
  dsimp only [Pt.U, Pt.locs, Pt.cells, Pt.slots] at X46 l46 y46 z46 st46 hQ46
  subst l46 y46 z46
  obtain ⟨N46q, rfl, eh46⟩ := hQ46
  have N47 := Fr.app N0 N46q
  refine own_tr st46 ?_
  show own_Go p e below s _ _ _ (T46.setTop (mkF m 4 #[.val (.ref r)] []))
  refine own_st (fun _ kQ => XS.aloadN X46.here hx rfl (hb hby own_d_jdk_39_method_1_code_4) rfl rfl kQ) ?_
  show own_Go p e below s _ _ _ (T46.setTop (mkF m 5 #[.val (.ref r)] [(.ref r)]))
  refine own_st (fun _ kQ => XT.iconstV X46.here hx rfl (0 : Int32) (hb hby own_d_jdk_39_method_1_code_5) (by decide) kQ) ?_
  show own_Go p e below s _ _ _ (T46.setTop (mkF m 6 #[.val (.ref r)] [(.int (0 : Int32)), (.ref r)]))
  obtain ⟨T48, h48, X48, e48, W48, st48⟩ := putF X46 hx hZ hown (host := "") (Or.inl (hw _ (List.mem_of_getElem? (i := 21) rfl))) Via.refl eh46 F1 E1 (Or.inl (hw _ (List.mem_of_getElem? (i := 22) rfl))) (hw _ (List.mem_of_getElem? (i := 1) rfl)) (ty := .int) (by decide) rfl rfl (g := (mkF m 6 #[.val (.ref r)] [(.int (0 : Int32)), (.ref r)])) rfl rfl (hb hby own_d_jdk_39_method_1_code_6)
  refine own_st st48 ?_
  have N49 := Fr.snoc X48 N47 g1
  have F50 : Fld Z h48 r "java/util/AbstractList" "modCount" "I" (.int (0 : Int32)) := F1.same W48
  have lt51 : r < h48.size := Nat.lt_of_lt_of_le F3.lt (Nat.le_of_eq W48.size.symm)
  have Zs52 : n0 ≤ h48.size := Nat.le_trans Z0 (Nat.le_of_eq W48.size.symm)
  have Kp53 : Keep h0 h48 [r] := Kp0.wr W48 (Or.inl (List.mem_of_getElem? (i := 0) rfl))
  show own_Go p e below s _ _ _ (T48.setTop (mkF m 9 #[.val (.ref r)] []))
  have F54 : Exa Z h48 r "java/util/ArrayList" := (E1.wr W48)
  have F55 : Fld Z h48 r "java/util/ArrayList" "elementData" "[Ljava/lang/Object;" .null := (F2.other W48 (Or.inr (slot_ne (Or.inl (hw _ (List.mem_of_getElem? (i := 25) rfl))) (Or.inl (hw _ (List.mem_of_getElem? (i := 22) rfl))) (by decide) (t := (.array (.object "java/lang/Object"))) (t' := .int) (by decide) (by decide))))
  have F56 : Fld Z h48 r "java/util/ArrayList" "size" "I" (.int (0 : Int32)) := (F3.other W48 (Or.inr (slot_ne (Or.inl (hw _ (List.mem_of_getElem? (i := 41) rfl))) (Or.inl (hw _ (List.mem_of_getElem? (i := 22) rfl))) (by decide) (t := .int) (t' := .int) (by decide) (by decide))))
  refine own_ret0 X48 hx hlk Bd.returns (hb hby own_d_jdk_39_method_1_code_9) (by decide) (by decide) ?_
  rw [e48]
  exact ⟨N49, rfl, Kp53, F54, F50, F55, F56⟩
theorem own_d_jdk_38_method_2_code_0 : decode jdk_38_method_2_code 0 = .ok (.aload_n 0, 1) := by decide +kernel
theorem own_d_jdk_38_method_2_code_1 : decode jdk_38_method_2_code 1 = .ok (.invokespecial 1, 3) := by decide +kernel
theorem own_d_jdk_38_method_2_code_4 : decode jdk_38_method_2_code 4 = .ok (.aload_n 0, 1) := by decide +kernel
theorem own_d_jdk_38_method_2_code_5 : decode jdk_38_method_2_code 5 = .ok (.getstatic 39, 3) := by decide +kernel
theorem own_d_jdk_38_method_2_code_8 : decode jdk_38_method_2_code 8 = .ok (.putfield 9, 3) := by decide +kernel
theorem own_d_jdk_38_method_2_code_11 : decode jdk_38_method_2_code 11 = .ok (.return_, 1) := by decide +kernel
theorem own_pn5 : plainFor (⟨"java/util/ArrayList", "<init>", "()V"⟩ : MethodName) = true := by decide +kernel
def own_rm_alinit_Q (Z : State) (r : Addr) (dflt : Addr) (kd : ClassId) (h0 : Heap) (n0 : Nat) (v : Option Value) (h : Heap) (L : List Loc) : Prop := Fr n0 L ∧ v = none ∧ Keep h0 h [r] ∧ Exa Z h r "java/util/ArrayList" ∧ Fld Z h r "java/util/AbstractList" "modCount" "I" (.int (0 : Int32)) ∧ Fld Z h r "java/util/ArrayList" "elementData" "[Ljava/lang/Object;" (.ref dflt) ∧ Fld Z h r "java/util/ArrayList" "size" "I" (.int (0 : Int32))
theorem own_rm_alinit_ef (m : MethodId) (r : Addr)  : entryFrame m #[(.ref r)] 1 = mkF m 0 #[.val (.ref r)] [] := by first | (simp [entryFrame, mkF, argsToLocals, Value.category]; done) | rfl
set_option maxRecDepth 65536 in
set_option maxHeartbeats 40000000 in
theorem own_rm_alinit (l : Launch) (Z : State) (a0 : Array Value) (hw : ∀ d ∈ tables_1, d.before a0 Z = true) (ws : List Jvm.Cond) (r : Addr) (dflt : Addr) (kd : ClassId) (h0 : Heap) (n0 : Nat) (Z0 : n0 ≤ h0.size) (O0 : Old Z n0 h0) (S_es : Sta Z Z.heap "java/util/ArrayList" "DEFAULTCAPACITY_EMPTY_ELEMENTDATA" "[Ljava/lang/Object;" (.ref dflt)) (V_es : Arv Z Z.heap dflt kd (.object "java/lang/Object") (0 : Int32) [] .null) (E1 : Exa Z h0 r "java/util/ArrayList") (F1 : Fld Z h0 r "java/util/AbstractList" "modCount" "I" (.int (0 : Int32))) (F2 : Fld Z h0 r "java/util/ArrayList" "elementData" "[Ljava/lang/Object;" .null) (F3 : Fld Z h0 r "java/util/ArrayList" "size" "I" (.int (0 : Int32))) (g1 : n0 ≤ r) :
    MetFree l (⟨"java/util/ArrayList", "<init>", "()V"⟩ : MethodName) (head1 (Jvm.Cond.code (⟨"java/util/ArrayList", "<init>", "()V"⟩ : MethodName) jdk_38_method_2_code 1 none :: ws) ({ frames := 3, cells := 0, slots := 0, locals := 36 } : Room)) (fun aQ UQ => aQ = #[(.ref r)] ∧ Z.Warmed39 UQ.vm ∧ UQ.heap = h0) (fun _ _ _ _ _ => True) (fun _ UQ oQ U2 => ∃ vQ LQ, oQ = .returned vQ ∧ own_rm_alinit_Q Z r dflt kd h0 n0 vQ U2.heap LQ ∧ FrameEnd UQ oQ U2 LQ ({ frames := 3, cells := 0, slots := 0, locals := 36 } : Room).cells ({ frames := 3, cells := 0, slots := 0, locals := 36 } : Room).slots) := by
  refine MetFree.of_bodySF own_pn5 hisR ?_
  intro p e s m args below meth c s₁ Bd hml0 hP hK
  obtain ⟨rfl, hZ, hh⟩ := hP
  have hx := Bd.exec
  have hby := Bd.bytes
  have hml : c.maxLocals = 1 := hml0
  have hlk := BodyLoose.notSynchronized Bd
  have hown : s.vm.findClass "java/util/ArrayList" = some m.cls := findClass_of_methodNamed Bd.named
  have hnm := (name_of_methodNamed Bd.named Bd.method).1
  have X0 : Stand p l e ({ frames := 3, cells := 0, slots := 0, locals := 36 } : Room) s m #[(.ref r)] below meth c s₁ [] 0 0 := Stand.of_body Bd
  have e0 : s₁.heap = h0 := by rw [← hh, Bd.state]; rfl
  have N0 := Fr.nil n0
  have Kp0 : Keep h0 h0 [r] := Keep.refl _ _
  show own_Go p e below s (own_rm_alinit_Q Z r dflt kd h0 n0) ({ frames := 3, cells := 0, slots := 0, locals := 36 } : Room).cells ({ frames := 3, cells := 0, slots := 0, locals := 36 } : Room).slots (s₁.setTop (entryFrame m #[(.ref r)] 1))
  rw [own_rm_alinit_ef]
  show own_Go p e below s _ _ _ (s₁.setTop (mkF m 0 #[.val (.ref r)] []))
  refine own_st (fun _ kQ => XS.aloadN X0.here hx rfl (hb hby own_d_jdk_38_method_2_code_0) rfl rfl kQ) ?_
  show own_Go p e below s _ _ _ (s₁.setTop (mkF m 1 #[.val (.ref r)] [(.ref r)]))
  obtain ⟨_, _, ⟨T57, L57, k57, n57⟩, -, X57, ⟨Lc57, hQ57, l57, y57, z57⟩, st57⟩ := X0.specialBack hx (y := (⟨"java/util/AbstractList", "<init>", "()V"⟩ : MethodName)) rfl hown (mvT hZ (hw _ (List.mem_of_getElem? (i := 6) rfl))) (mvT hZ (hw _ (List.mem_of_getElem? (i := 7) rfl))) (mvT hZ (hw _ (List.mem_of_getElem? (i := 11) rfl))) (by decide) (backOf (W := 0) (own_rm_abl l Z a0 hw [] r h0 n0 Z0 E1 F1 F2 F3 g1) hZ (hw _ (List.mem_of_getElem? (i := 11) rfl)) (hw _ (List.mem_of_getElem? (i := 10) rfl)) (by decide) (by decide)) (g := (mkF m 1 #[.val (.ref r)] [(.ref r)])) rfl (by rw [hml]; rfl) (Steps.refl _) (a := r) (argsL := []) (rest := []) (lenOf own_pd0 rfl) rfl (by show 2 * 0 + _ ≤ _; exact Nat.le_of_eq rfl) (hb hby own_d_jdk_38_method_2_code_1) (fun _ _ => ⟨rfl, e0, (by decide : 0 + 0 ≤ _), (by decide : 0 + 0 ≤ _)⟩)
  dsimp only [Pt.U, Pt.locs, Pt.cells, Pt.slots] at X57 l57 y57 z57 st57 hQ57
  subst l57 y57 z57
  obtain ⟨N57q, rfl, K57, q58, q59, q60, q61⟩ := hQ57
  have N62 := Fr.app N0 N57q
  refine own_tr st57 ?_
  have lt63 : r < T57.heap.size := Nat.lt_of_lt_of_le F3.lt K57.1
  have Zs64 : n0 ≤ T57.heap.size := Nat.le_trans Z0 K57.1
  have Kp65 : Keep h0 T57.heap [r] := Kp0.trans K57 (allS (Or.inl (List.mem_of_getElem? (i := 0) rfl)) all0)
  show own_Go p e below s _ _ _ (T57.setTop (mkF m 4 #[.val (.ref r)] []))
  refine own_st (fun _ kQ => XS.aloadN X57.here hx rfl (hb hby own_d_jdk_38_method_2_code_4) rfl rfl kQ) ?_
  show own_Go p e below s _ _ _ (T57.setTop (mkF m 5 #[.val (.ref r)] [(.ref r)]))
  have O66 : Old Z n0 T57.heap := (O0.keep K57 (allS g1 all0))
  have F67 : Sta Z T57.heap "java/util/ArrayList" "DEFAULTCAPACITY_EMPTY_ELEMENTDATA" "[Ljava/lang/Object;" (.ref dflt) := S_es.ext O66.2
  obtain ⟨T68, X68, e68, st68⟩ := getS2 X57 hx hZ hown (host := "") (Or.inl (hw _ (List.mem_of_getElem? (i := 23) rfl))) Via.refl rfl F67 (g := (mkF m 5 #[.val (.ref r)] [(.ref r)])) rfl (hb hby own_d_jdk_38_method_2_code_5)
  refine own_st st68 ?_
  show own_Go p e below s _ _ _ (T68.setTop (mkF m 8 #[.val (.ref r)] [(.ref dflt), (.ref r)]))
  obtain ⟨T69, h69, X69, e69, W69, st69⟩ := putF X68 hx hZ hown (host := "") (Or.inl (hw _ (List.mem_of_getElem? (i := 24) rfl))) Via.refl e68 q60 q58 (Or.inl (hw _ (List.mem_of_getElem? (i := 25) rfl))) (hw _ (List.mem_of_getElem? (i := 1) rfl)) (ty := (.array (.object "java/lang/Object"))) (by decide) rfl rfl (g := (mkF m 8 #[.val (.ref r)] [(.ref dflt), (.ref r)])) rfl rfl (hb hby own_d_jdk_38_method_2_code_8)
  refine own_st st69 ?_
  have N70 := Fr.snoc X69 N62 g1
  have F71 : Fld Z h69 r "java/util/ArrayList" "elementData" "[Ljava/lang/Object;" (.ref dflt) := q60.same W69
  have lt72 : r < h69.size := Nat.lt_of_lt_of_le q61.lt (Nat.le_of_eq W69.size.symm)
  have Zs73 : n0 ≤ h69.size := Nat.le_trans Zs64 (Nat.le_of_eq W69.size.symm)
  have Kp74 : Keep h0 h69 [r] := Kp65.wr W69 (Or.inl (List.mem_of_getElem? (i := 0) rfl))
  show own_Go p e below s _ _ _ (T69.setTop (mkF m 11 #[.val (.ref r)] []))
  have F75 : Exa Z h69 r "java/util/ArrayList" := (q58.wr W69)
  have F76 : Fld Z h69 r "java/util/AbstractList" "modCount" "I" (.int (0 : Int32)) := (q59.other W69 (Or.inr (slot_ne (Or.inl (hw _ (List.mem_of_getElem? (i := 22) rfl))) (Or.inl (hw _ (List.mem_of_getElem? (i := 25) rfl))) (by decide) (t := .int) (t' := (.array (.object "java/lang/Object"))) (by decide) (by decide))))
  have F77 : Fld Z h69 r "java/util/ArrayList" "size" "I" (.int (0 : Int32)) := (q61.other W69 (Or.inr (slot_ne (Or.inl (hw _ (List.mem_of_getElem? (i := 41) rfl))) (Or.inl (hw _ (List.mem_of_getElem? (i := 25) rfl))) (by decide) (t := .int) (t' := (.array (.object "java/lang/Object"))) (by decide) (by decide))))
  refine own_ret0 X69 hx hlk Bd.returns (hb hby own_d_jdk_38_method_2_code_11) (by decide) (by decide) ?_
  rw [e69]
  exact ⟨N70, rfl, Kp74, F75, F76, F71, F77⟩
theorem own_d_jdk_29_method_65_code_0 : decode jdk_29_method_65_code 0 = .ok (.iload_n 0, 1) := by decide +kernel
theorem own_d_jdk_29_method_65_code_1 : decode jdk_29_method_65_code 1 = .ok (.iload_n 1, 1) := by decide +kernel
theorem own_d_jdk_29_method_65_code_2 : decode jdk_29_method_65_code 2 = .ok (.if_icmp .lt 7, 3) := by decide +kernel
theorem own_d_jdk_29_method_65_code_5 : decode jdk_29_method_65_code 5 = .ok (.iload_n 0, 1) := by decide +kernel
theorem own_d_jdk_29_method_65_code_6 : decode jdk_29_method_65_code 6 = .ok (.goto 4, 3) := by decide +kernel
theorem own_d_jdk_29_method_65_code_9 : decode jdk_29_method_65_code 9 = .ok (.iload_n 1, 1) := by decide +kernel
theorem own_d_jdk_29_method_65_code_10 : decode jdk_29_method_65_code 10 = .ok (.ireturn, 1) := by decide +kernel
theorem own_pn6 : plainFor (⟨"java/lang/Math", "max", "(II)I"⟩ : MethodName) = true := by decide +kernel
def own_rm_max10_Q (Z : State)  (h0 : Heap) (n0 : Nat) (v : Option Value) (h : Heap) (L : List Loc) : Prop := Fr n0 L ∧ v = some (.int (10 : Int32)) ∧ h = h0
theorem own_rm_max10_ef (m : MethodId)   : entryFrame m #[(.int (10 : Int32)), (.int (1 : Int32))] 2 = mkF m 0 #[.val (.int (10 : Int32)), .val (.int (1 : Int32))] [] := by first | (simp [entryFrame, mkF, argsToLocals, Value.category]; done) | rfl
set_option maxRecDepth 65536 in
set_option maxHeartbeats 40000000 in
theorem own_rm_max10 (l : Launch) (Z : State) (a0 : Array Value) (hw : ∀ d ∈ tables_1, d.before a0 Z = true) (ws : List Jvm.Cond)  (h0 : Heap) (n0 : Nat) (Z0 : n0 ≤ h0.size)  :
    MetFree l (⟨"java/lang/Math", "max", "(II)I"⟩ : MethodName) (head1 (Jvm.Cond.code (⟨"java/lang/Math", "max", "(II)I"⟩ : MethodName) jdk_29_method_65_code 2 (some .int) :: ws) ({ frames := 0, cells := 0, slots := 0, locals := 0 } : Room)) (fun aQ UQ => aQ = #[(.int (10 : Int32)), (.int (1 : Int32))] ∧ Z.Warmed39 UQ.vm ∧ UQ.heap = h0) (fun _ _ _ _ _ => True) (fun _ UQ oQ U2 => ∃ vQ LQ, oQ = .returned vQ ∧ own_rm_max10_Q Z  h0 n0 vQ U2.heap LQ ∧ FrameEnd UQ oQ U2 LQ ({ frames := 0, cells := 0, slots := 0, locals := 0 } : Room).cells ({ frames := 0, cells := 0, slots := 0, locals := 0 } : Room).slots) := by
  refine MetFree.of_bodySF own_pn6 hisR ?_
  intro p e s m args below meth c s₁ Bd hml0 hP hK
  obtain ⟨rfl, hZ, hh⟩ := hP
  have hx := Bd.exec
  have hby := Bd.bytes
  have hml : c.maxLocals = 2 := hml0
  have hlk := BodyLoose.notSynchronized Bd
  have hown : s.vm.findClass "java/lang/Math" = some m.cls := findClass_of_methodNamed Bd.named
  have hnm := (name_of_methodNamed Bd.named Bd.method).1
  have X0 : Stand p l e ({ frames := 0, cells := 0, slots := 0, locals := 0 } : Room) s m #[(.int (10 : Int32)), (.int (1 : Int32))] below meth c s₁ [] 0 0 := Stand.of_body Bd
  have e0 : s₁.heap = h0 := by rw [← hh, Bd.state]; rfl
  have N0 := Fr.nil n0
  show own_Go p e below s (own_rm_max10_Q Z  h0 n0) ({ frames := 0, cells := 0, slots := 0, locals := 0 } : Room).cells ({ frames := 0, cells := 0, slots := 0, locals := 0 } : Room).slots (s₁.setTop (entryFrame m #[(.int (10 : Int32)), (.int (1 : Int32))] 2))
  rw [own_rm_max10_ef]
  show own_Go p e below s _ _ _ (s₁.setTop (mkF m 0 #[.val (.int (10 : Int32)), .val (.int (1 : Int32))] []))
  refine own_st (fun _ kQ => XS.iloadN X0.here hx rfl (hb hby own_d_jdk_29_method_65_code_0) rfl kQ) ?_
  show own_Go p e below s _ _ _ (s₁.setTop (mkF m 1 #[.val (.int (10 : Int32)), .val (.int (1 : Int32))] [(.int (10 : Int32))]))
  refine own_st (fun _ kQ => XS.iloadN X0.here hx rfl (hb hby own_d_jdk_29_method_65_code_1) rfl kQ) ?_
  show own_Go p e below s _ _ _ (s₁.setTop (mkF m 2 #[.val (.int (10 : Int32)), .val (.int (1 : Int32))] [(.int (1 : Int32)), (.int (10 : Int32))]))
  refine own_st (fun _ kQ => XS.icmpNo X0.here hx rfl (hb hby own_d_jdk_29_method_65_code_2) rfl (XT.ii_lt_f (by decide)) kQ) ?_
  show own_Go p e below s _ _ _ (s₁.setTop (mkF m 5 #[.val (.int (10 : Int32)), .val (.int (1 : Int32))] []))
  refine own_st (fun _ kQ => XS.iloadN X0.here hx rfl (hb hby own_d_jdk_29_method_65_code_5) rfl kQ) ?_
  show own_Go p e below s _ _ _ (s₁.setTop (mkF m 6 #[.val (.int (10 : Int32)), .val (.int (1 : Int32))] [(.int (10 : Int32))]))
  refine own_st (fun _ kQ => XS.goto X0.here hx rfl (pc0 := 6) (pc' := 10) rfl (hb hby own_d_jdk_29_method_65_code_6) (by decide) (by decide) kQ) ?_
  show own_Go p e below s _ _ _ (s₁.setTop (mkF m 10 #[.val (.int (10 : Int32)), .val (.int (1 : Int32))] [(.int (10 : Int32))]))
  refine own_retI X0 hx hlk Bd.returns (hb hby own_d_jdk_29_method_65_code_10) (by decide) (by decide) ?_
  rw [e0]
  exact ⟨N0, rfl, rfl⟩
theorem own_d_jdk_38_method_6_code_0 : decode jdk_38_method_6_code 0 = .ok (.aload_n 0, 1) := by decide +kernel
theorem own_d_jdk_38_method_6_code_1 : decode jdk_38_method_6_code 1 = .ok (.getfield 9, 3) := by decide +kernel
theorem own_d_jdk_38_method_6_code_4 : decode jdk_38_method_6_code 4 = .ok (.arraylength, 1) := by decide +kernel
theorem own_d_jdk_38_method_6_code_5 : decode jdk_38_method_6_code 5 = .ok (.istore_n 2, 1) := by decide +kernel
theorem own_d_jdk_38_method_6_code_6 : decode jdk_38_method_6_code 6 = .ok (.iload_n 2, 1) := by decide +kernel
theorem own_d_jdk_38_method_6_code_7 : decode jdk_38_method_6_code 7 = .ok (.ifCond .gt 13, 3) := by decide +kernel
theorem own_d_jdk_38_method_6_code_10 : decode jdk_38_method_6_code 10 = .ok (.aload_n 0, 1) := by decide +kernel
theorem own_d_jdk_38_method_6_code_11 : decode jdk_38_method_6_code 11 = .ok (.getfield 9, 3) := by decide +kernel
theorem own_d_jdk_38_method_6_code_14 : decode jdk_38_method_6_code 14 = .ok (.getstatic 39, 3) := by decide +kernel
theorem own_d_jdk_38_method_6_code_17 : decode jdk_38_method_6_code 17 = .ok (.if_acmp .eq 28, 3) := by decide +kernel
theorem own_d_jdk_38_method_6_code_20 : decode jdk_38_method_6_code 20 = .ok (.iload_n 2, 1) := by decide +kernel
theorem own_d_jdk_38_method_6_code_21 : decode jdk_38_method_6_code 21 = .ok (.iload_n 1, 1) := by decide +kernel
theorem own_d_jdk_38_method_6_code_22 : decode jdk_38_method_6_code 22 = .ok (.iload_n 2, 1) := by decide +kernel
theorem own_d_jdk_38_method_6_code_23 : decode jdk_38_method_6_code 23 = .ok (.isub, 1) := by decide +kernel
theorem own_d_jdk_38_method_6_code_24 : decode jdk_38_method_6_code 24 = .ok (.iload_n 2, 1) := by decide +kernel
theorem own_d_jdk_38_method_6_code_25 : decode jdk_38_method_6_code 25 = .ok (.iconst 1, 1) := by decide +kernel
theorem own_d_jdk_38_method_6_code_26 : decode jdk_38_method_6_code 26 = .ok (.ishr, 1) := by decide +kernel
theorem own_d_jdk_38_method_6_code_27 : decode jdk_38_method_6_code 27 = .ok (.invokestatic 73, 3) := by decide +kernel
theorem own_d_jdk_38_method_6_code_30 : decode jdk_38_method_6_code 30 = .ok (.istore_n 3, 1) := by decide +kernel
theorem own_d_jdk_38_method_6_code_31 : decode jdk_38_method_6_code 31 = .ok (.aload_n 0, 1) := by decide +kernel
theorem own_d_jdk_38_method_6_code_32 : decode jdk_38_method_6_code 32 = .ok (.aload_n 0, 1) := by decide +kernel
theorem own_d_jdk_38_method_6_code_33 : decode jdk_38_method_6_code 33 = .ok (.getfield 9, 3) := by decide +kernel
theorem own_d_jdk_38_method_6_code_36 : decode jdk_38_method_6_code 36 = .ok (.iload_n 3, 1) := by decide +kernel
theorem own_d_jdk_38_method_6_code_37 : decode jdk_38_method_6_code 37 = .ok (.invokestatic 66, 3) := by decide +kernel
theorem own_d_jdk_38_method_6_code_40 : decode jdk_38_method_6_code 40 = .ok (.dup_x1, 1) := by decide +kernel
theorem own_d_jdk_38_method_6_code_41 : decode jdk_38_method_6_code 41 = .ok (.putfield 9, 3) := by decide +kernel
theorem own_d_jdk_38_method_6_code_44 : decode jdk_38_method_6_code 44 = .ok (.areturn, 1) := by decide +kernel
theorem own_d_jdk_38_method_6_code_45 : decode jdk_38_method_6_code 45 = .ok (.aload_n 0, 1) := by decide +kernel
theorem own_d_jdk_38_method_6_code_46 : decode jdk_38_method_6_code 46 = .ok (.bipush 10, 2) := by decide +kernel
theorem own_d_jdk_38_method_6_code_48 : decode jdk_38_method_6_code 48 = .ok (.iload_n 1, 1) := by decide +kernel
theorem own_d_jdk_38_method_6_code_49 : decode jdk_38_method_6_code 49 = .ok (.invokestatic 79, 3) := by decide +kernel
theorem own_d_jdk_38_method_6_code_52 : decode jdk_38_method_6_code 52 = .ok (.anewarray 7, 3) := by decide +kernel
theorem own_d_jdk_38_method_6_code_55 : decode jdk_38_method_6_code 55 = .ok (.dup_x1, 1) := by decide +kernel
theorem own_d_jdk_38_method_6_code_56 : decode jdk_38_method_6_code 56 = .ok (.putfield 9, 3) := by decide +kernel
theorem own_d_jdk_38_method_6_code_59 : decode jdk_38_method_6_code 59 = .ok (.areturn, 1) := by decide +kernel
theorem own_pn7 : plainFor (⟨"java/util/ArrayList", "grow", "(I)[Ljava/lang/Object;"⟩ : MethodName) = true := by decide +kernel
theorem own_pd2 : parseMethodDescriptor "(II)I" = some ⟨[.int, .int], some .int⟩ := by decide +kernel
def own_rm_growI_Q (Z : State) (r : Addr) (mc : Int32) (dflt : Addr) (kd : ClassId) (h0 : Heap) (n0 : Nat) (v : Option Value) (h : Heap) (L : List Loc) : Prop := ∃ arr : Addr, ∃ kk : ClassId, Fr n0 L ∧ v = some (.ref arr) ∧ Keep h0 h [r] ∧ h0.size ≤ arr ∧ Exa Z h r "java/util/ArrayList" ∧ Fld Z h r "java/util/AbstractList" "modCount" "I" (.int mc) ∧ Fld Z h r "java/util/ArrayList" "elementData" "[Ljava/lang/Object;" (.ref arr) ∧ Fld Z h r "java/util/ArrayList" "size" "I" (.int (0 : Int32)) ∧ Exa Z h arr "[Ljava/lang/Object;" ∧ Arv Z h arr kk (.object "java/lang/Object") (10 : Int32) [.null, .null, .null, .null, .null, .null, .null, .null, .null, .null] .null ∧ Ovr Z kk "java/lang/Object"
theorem own_rm_growI_ef (m : MethodId) (r : Addr)  : entryFrame m #[(.ref r), (.int (1 : Int32))] 4 = mkF m 0 #[.val (.ref r), .val (.int (1 : Int32)), .unset, .unset] [] := by first | (simp [entryFrame, mkF, argsToLocals, Value.category]; done) | rfl
set_option maxRecDepth 65536 in
set_option maxHeartbeats 40000000 in
theorem own_rm_growI (l : Launch) (Z : State) (a0 : Array Value) (hw : ∀ d ∈ tables_1, d.before a0 Z = true) (ws : List Jvm.Cond) (r : Addr) (mc : Int32) (dflt : Addr) (kd : ClassId) (h0 : Heap) (n0 : Nat) (Z0 : n0 ≤ h0.size) (O0 : Old Z n0 h0) (S_es : Sta Z Z.heap "java/util/ArrayList" "DEFAULTCAPACITY_EMPTY_ELEMENTDATA" "[Ljava/lang/Object;" (.ref dflt)) (V_es : Arv Z Z.heap dflt kd (.object "java/lang/Object") (0 : Int32) [] .null) (E1 : Exa Z h0 r "java/util/ArrayList") (F1 : Fld Z h0 r "java/util/AbstractList" "modCount" "I" (.int mc)) (F2 : Fld Z h0 r "java/util/ArrayList" "elementData" "[Ljava/lang/Object;" (.ref dflt)) (F3 : Fld Z h0 r "java/util/ArrayList" "size" "I" (.int (0 : Int32))) (g1 : n0 ≤ r) :
    MetFree l (⟨"java/util/ArrayList", "grow", "(I)[Ljava/lang/Object;"⟩ : MethodName) (head1 (Jvm.Cond.code (⟨"java/util/ArrayList", "grow", "(I)[Ljava/lang/Object;"⟩ : MethodName) jdk_38_method_6_code 4 (some (.array (.object "java/lang/Object"))) :: ws) ({ frames := 1, cells := 1, slots := 10, locals := 14 } : Room)) (fun aQ UQ => aQ = #[(.ref r), (.int (1 : Int32))] ∧ Z.Warmed39 UQ.vm ∧ UQ.heap = h0) (fun _ _ _ _ _ => True) (fun _ UQ oQ U2 => ∃ vQ LQ, oQ = .returned vQ ∧ own_rm_growI_Q Z r mc dflt kd h0 n0 vQ U2.heap LQ ∧ FrameEnd UQ oQ U2 LQ ({ frames := 1, cells := 1, slots := 10, locals := 14 } : Room).cells ({ frames := 1, cells := 1, slots := 10, locals := 14 } : Room).slots) := by
  refine MetFree.of_bodySF own_pn7 hisR ?_
  intro p e s m args below meth c s₁ Bd hml0 hP hK
  obtain ⟨rfl, hZ, hh⟩ := hP
  have hx := Bd.exec
  have hby := Bd.bytes
  have hml : c.maxLocals = 4 := hml0
  have hlk := BodyLoose.notSynchronized Bd
  have hown : s.vm.findClass "java/util/ArrayList" = some m.cls := findClass_of_methodNamed Bd.named
  have hnm := (name_of_methodNamed Bd.named Bd.method).1
  have X0 : Stand p l e ({ frames := 1, cells := 1, slots := 10, locals := 14 } : Room) s m #[(.ref r), (.int (1 : Int32))] below meth c s₁ [] 0 0 := Stand.of_body Bd
  have e0 : s₁.heap = h0 := by rw [← hh, Bd.state]; rfl
  have N0 := Fr.nil n0
  have Kp0 : Keep h0 h0 [r] := Keep.refl _ _
  show own_Go p e below s (own_rm_growI_Q Z r mc dflt kd h0 n0) ({ frames := 1, cells := 1, slots := 10, locals := 14 } : Room).cells ({ frames := 1, cells := 1, slots := 10, locals := 14 } : Room).slots (s₁.setTop (entryFrame m #[(.ref r), (.int (1 : Int32))] 4))
  rw [own_rm_growI_ef]
  show own_Go p e below s _ _ _ (s₁.setTop (mkF m 0 #[.val (.ref r), .val (.int (1 : Int32)), .unset, .unset] []))
  refine own_st (fun _ kQ => XS.aloadN X0.here hx rfl (hb hby own_d_jdk_38_method_6_code_0) rfl rfl kQ) ?_
  show own_Go p e below s _ _ _ (s₁.setTop (mkF m 1 #[.val (.ref r), .val (.int (1 : Int32)), .unset, .unset] [(.ref r)]))
  obtain ⟨T78, X78, e78, st78⟩ := getF X0 hx hZ hown (host := "") (Or.inl (hw _ (List.mem_of_getElem? (i := 24) rfl))) Via.refl e0 F2 (g := (mkF m 1 #[.val (.ref r), .val (.int (1 : Int32)), .unset, .unset] [(.ref r)])) rfl rfl (hb hby own_d_jdk_38_method_6_code_1)
  refine own_st st78 ?_
  show own_Go p e below s _ _ _ (T78.setTop (mkF m 4 #[.val (.ref r), .val (.int (1 : Int32)), .unset, .unset] [(.ref dflt)]))
  have F80 : Arv Z h0 dflt kd (.object "java/lang/Object") (0 : Int32) [] .null := V_es.ext O0.2
  obtain ⟨cl79, Ar79, -, S79, N79, -, -⟩ := id F80
  refine own_st (fun _ kQ => X78.arraylength hx (own_hp e78 Ar79.1) (State.isArrayOf_alike hZ.alike Ar79.2.1) (g := (mkF m 4 #[.val (.ref r), .val (.int (1 : Int32)), .unset, .unset] [(.ref dflt)])) rfl rfl (hb hby own_d_jdk_38_method_6_code_4) _ kQ) ?_
  rw [len_of S79 N79]
  show own_Go p e below s _ _ _ (T78.setTop (mkF m 5 #[.val (.ref r), .val (.int (1 : Int32)), .unset, .unset] [(.int (0 : Int32))]))
  refine own_st (fun _ kQ => XS.istoreN X78.here hx rfl (hb hby own_d_jdk_38_method_6_code_5) rfl (l' := #[.val (.ref r), .val (.int (1 : Int32)), .val (.int (0 : Int32)), .unset]) rfl kQ) ?_
  show own_Go p e below s _ _ _ (T78.setTop (mkF m 6 #[.val (.ref r), .val (.int (1 : Int32)), .val (.int (0 : Int32)), .unset] []))
  refine own_st (fun _ kQ => XS.iloadN X78.here hx rfl (hb hby own_d_jdk_38_method_6_code_6) rfl kQ) ?_
  show own_Go p e below s _ _ _ (T78.setTop (mkF m 7 #[.val (.ref r), .val (.int (1 : Int32)), .val (.int (0 : Int32)), .unset] [(.int (0 : Int32))]))
  refine own_st (fun _ kQ => XS.ifNo X78.here hx rfl (hb hby own_d_jdk_38_method_6_code_7) rfl (XT.i0_gt_f (by decide)) kQ) ?_
  show own_Go p e below s _ _ _ (T78.setTop (mkF m 10 #[.val (.ref r), .val (.int (1 : Int32)), .val (.int (0 : Int32)), .unset] []))
  refine own_st (fun _ kQ => XS.aloadN X78.here hx rfl (hb hby own_d_jdk_38_method_6_code_10) rfl rfl kQ) ?_
  show own_Go p e below s _ _ _ (T78.setTop (mkF m 11 #[.val (.ref r), .val (.int (1 : Int32)), .val (.int (0 : Int32)), .unset] [(.ref r)]))
  obtain ⟨T81, X81, e81, st81⟩ := getF X78 hx hZ hown (host := "") (Or.inl (hw _ (List.mem_of_getElem? (i := 24) rfl))) Via.refl e78 F2 (g := (mkF m 11 #[.val (.ref r), .val (.int (1 : Int32)), .val (.int (0 : Int32)), .unset] [(.ref r)])) rfl rfl (hb hby own_d_jdk_38_method_6_code_11)
  refine own_st st81 ?_
  show own_Go p e below s _ _ _ (T81.setTop (mkF m 14 #[.val (.ref r), .val (.int (1 : Int32)), .val (.int (0 : Int32)), .unset] [(.ref dflt)]))
  have F82 : Sta Z h0 "java/util/ArrayList" "DEFAULTCAPACITY_EMPTY_ELEMENTDATA" "[Ljava/lang/Object;" (.ref dflt) := S_es.ext O0.2
  obtain ⟨T83, X83, e83, st83⟩ := getS2 X81 hx hZ hown (host := "") (Or.inl (hw _ (List.mem_of_getElem? (i := 23) rfl))) Via.refl e81 F82 (g := (mkF m 14 #[.val (.ref r), .val (.int (1 : Int32)), .val (.int (0 : Int32)), .unset] [(.ref dflt)])) rfl (hb hby own_d_jdk_38_method_6_code_14)
  refine own_st st83 ?_
  show own_Go p e below s _ _ _ (T83.setTop (mkF m 17 #[.val (.ref r), .val (.int (1 : Int32)), .val (.int (0 : Int32)), .unset] [(.ref dflt), (.ref dflt)]))
  refine own_st (fun _ kQ => XT.acmpYes X83.here hx rfl (pc0 := 17) (pc' := 45) rfl (hb hby own_d_jdk_38_method_6_code_17) rfl rfl rfl (XT.aa_eq_t (congrArg Value.ref rfl)) (by decide) (by decide) kQ) ?_
  show own_Go p e below s _ _ _ (T83.setTop (mkF m 45 #[.val (.ref r), .val (.int (1 : Int32)), .val (.int (0 : Int32)), .unset] []))
  refine own_st (fun _ kQ => XS.aloadN X83.here hx rfl (hb hby own_d_jdk_38_method_6_code_45) rfl rfl kQ) ?_
  show own_Go p e below s _ _ _ (T83.setTop (mkF m 46 #[.val (.ref r), .val (.int (1 : Int32)), .val (.int (0 : Int32)), .unset] [(.ref r)]))
  refine own_st (fun _ kQ => XT.bipushV X83.here hx rfl (10 : Int32) (hb hby own_d_jdk_38_method_6_code_46) (by decide) kQ) ?_
  show own_Go p e below s _ _ _ (T83.setTop (mkF m 48 #[.val (.ref r), .val (.int (1 : Int32)), .val (.int (0 : Int32)), .unset] [(.int (10 : Int32)), (.ref r)]))
  refine own_st (fun _ kQ => XS.iloadN X83.here hx rfl (hb hby own_d_jdk_38_method_6_code_48) rfl kQ) ?_
  show own_Go p e below s _ _ _ (T83.setTop (mkF m 49 #[.val (.ref r), .val (.int (1 : Int32)), .val (.int (0 : Int32)), .unset] [(.int (1 : Int32)), (.int (10 : Int32)), (.ref r)]))
  obtain ⟨_, _, ⟨T84, L84, k84, n84⟩, -, X84, ⟨Lc84, hQ84, l84, y84, z84⟩, st84⟩ := Jvm.LawKit.callS X83 hx (y := (⟨"java/lang/Math", "max", "(II)I"⟩ : MethodName)) hown (mvT hZ (hw _ (List.mem_of_getElem? (i := 57) rfl))) (mvT hZ (hw _ (List.mem_of_getElem? (i := 58) rfl))) (mvT hZ (hw _ (List.mem_of_getElem? (i := 59) rfl))) (mvT hZ (hw _ (List.mem_of_getElem? (i := 60) rfl))) (by decide) (backOf (W := 1) (own_rm_max10 l Z a0 hw []  h0 n0 Z0 ) hZ (hw _ (List.mem_of_getElem? (i := 60) rfl)) (hw _ (List.mem_of_getElem? (i := 59) rfl)) (by decide) (by decide)) (g := (mkF m 49 #[.val (.ref r), .val (.int (1 : Int32)), .val (.int (0 : Int32)), .unset] [(.int (1 : Int32)), (.int (10 : Int32)), (.ref r)])) rfl (by rw [hml]; rfl) (argsL := [(.int (10 : Int32)), (.int (1 : Int32))]) (rest := [(.ref r)]) (lenOf own_pd2 rfl) rfl (by show 2 * 0 + _ ≤ _; exact Nat.le_of_eq rfl) (hb hby own_d_jdk_38_method_6_code_49) (fun _ _ => ⟨rfl, e83, (by decide : 0 + 0 ≤ _), (by decide : 0 + 0 ≤ _)⟩)
  dsimp only [Pt.U, Pt.locs, Pt.cells, Pt.slots] at X84 l84 y84 z84 st84 hQ84
  subst l84 y84 z84
  obtain ⟨N84q, rfl, eh84⟩ := hQ84
  have N85 := Fr.app N0 N84q
  refine own_st st84 ?_
  show own_Go p e below s _ _ _ (T84.setTop (mkF m 52 #[.val (.ref r), .val (.int (1 : Int32)), .val (.int (0 : Int32)), .unset] [(.int (10 : Int32)), (.ref r)]))
  obtain ⟨T86, h86, k86, X86, e86, E86, A86, Ea86, O86, st86⟩ := newRE X84 hx hZ hown (hw _ (List.mem_of_getElem? (i := 61) rfl)) (hw _ (List.mem_of_getElem? (i := 62) rfl)) eh84 (g := (mkF m 52 #[.val (.ref r), .val (.int (1 : Int32)), .val (.int (0 : Int32)), .unset] [(.int (10 : Int32)), (.ref r)])) rfl (hb hby own_d_jdk_38_method_6_code_52) rfl (by decide) (cap := 10) (by decide) (by decide) (by decide) (by decide) (ad := "[Ljava/lang/Object;") (by decide +kernel)
  obtain ⟨b86, g86⟩ : ∃ z, z = h0.size := ⟨_, rfl⟩
  rw [← g86] at A86 Ea86 st86
  refine own_st st86 ?_
  have lt87 : r < h86.size := Nat.lt_of_lt_of_le F3.lt E86.1
  have Zs88 : n0 ≤ h86.size := Nat.le_trans Z0 E86.1
  have Kp89 : Keep h0 h86 [r] := Kp0.ext E86
  have ne90 : r ≠ b86 := Nat.ne_of_lt (Nat.lt_of_lt_of_le F3.lt (Nat.le_of_eq g86.symm))
  have g91 : n0 ≤ b86 := Nat.le_trans Z0 (Nat.le_of_eq g86.symm)
  have sz92 : h0.size ≤ b86 := Nat.le_trans Kp0.1 (Nat.le_of_eq g86.symm)
  have F93 : Arv Z h86 b86 k86 (.object "java/lang/Object") (10 : Int32) [.null, .null, .null, .null, .null, .null, .null, .null, .null, .null] .null := (Arv.new A86 (by decide)).pad (fun i => own_pad 10 _ i)
  show own_Go p e below s _ _ _ (T86.setTop (mkF m 55 #[.val (.ref r), .val (.int (1 : Int32)), .val (.int (0 : Int32)), .unset] [(.ref b86), (.ref r)]))
  refine own_st (fun _ kQ => XT.dupX1 X86.here hx rfl (hb hby own_d_jdk_38_method_6_code_55) rfl rfl rfl kQ) ?_
  show own_Go p e below s _ _ _ (T86.setTop (mkF m 56 #[.val (.ref r), .val (.int (1 : Int32)), .val (.int (0 : Int32)), .unset] [(.ref b86), (.ref r), (.ref b86)]))
  have F94 : Fld Z h86 r "java/util/ArrayList" "elementData" "[Ljava/lang/Object;" (.ref dflt) := (F2.ext E86)
  have F95 : Exa Z h86 r "java/util/ArrayList" := (E1.ext E86)
  obtain ⟨T96, h96, X96, e96, W96, st96⟩ := putF X86 hx hZ hown (host := "") (Or.inl (hw _ (List.mem_of_getElem? (i := 24) rfl))) Via.refl e86 F94 F95 (Or.inl (hw _ (List.mem_of_getElem? (i := 25) rfl))) (hw _ (List.mem_of_getElem? (i := 1) rfl)) (ty := (.array (.object "java/lang/Object"))) (by decide) rfl rfl (g := (mkF m 56 #[.val (.ref r), .val (.int (1 : Int32)), .val (.int (0 : Int32)), .unset] [(.ref b86), (.ref r), (.ref b86)])) rfl rfl (hb hby own_d_jdk_38_method_6_code_56)
  refine own_st st96 ?_
  have N97 := Fr.snoc X96 N85 g1
  have F98 : Fld Z h96 r "java/util/ArrayList" "elementData" "[Ljava/lang/Object;" (.ref b86) := F94.same W96
  have lt99 : r < h96.size := Nat.lt_of_lt_of_le lt87 (Nat.le_of_eq W96.size.symm)
  have lt100 : b86 < h96.size := Nat.lt_of_lt_of_le A86.lt (Nat.le_of_eq W96.size.symm)
  have Zs101 : n0 ≤ h96.size := Nat.le_trans Zs88 (Nat.le_of_eq W96.size.symm)
  have Kp102 : Keep h0 h96 [r] := Kp89.wr W96 (Or.inl (List.mem_of_getElem? (i := 0) rfl))
  show own_Go p e below s _ _ _ (T96.setTop (mkF m 59 #[.val (.ref r), .val (.int (1 : Int32)), .val (.int (0 : Int32)), .unset] [(.ref b86)]))
  have F103 : Arv Z h96 b86 k86 (.object "java/lang/Object") (10 : Int32) [.null, .null, .null, .null, .null, .null, .null, .null, .null, .null] .null := (F93.other W96 ne90.symm)
  have F104 : Exa Z h96 r "java/util/ArrayList" := (F95.wr W96)
  have F105 : Fld Z h96 r "java/util/AbstractList" "modCount" "I" (.int mc) := ((F1.ext E86).other W96 (Or.inr (slot_ne (Or.inl (hw _ (List.mem_of_getElem? (i := 22) rfl))) (Or.inl (hw _ (List.mem_of_getElem? (i := 25) rfl))) (by decide) (t := .int) (t' := (.array (.object "java/lang/Object"))) (by decide) (by decide))))
  have F106 : Fld Z h96 r "java/util/ArrayList" "size" "I" (.int (0 : Int32)) := ((F3.ext E86).other W96 (Or.inr (slot_ne (Or.inl (hw _ (List.mem_of_getElem? (i := 41) rfl))) (Or.inl (hw _ (List.mem_of_getElem? (i := 25) rfl))) (by decide) (t := .int) (t' := (.array (.object "java/lang/Object"))) (by decide) (by decide))))
  have F107 : Exa Z h96 b86 "[Ljava/lang/Object;" := (Ea86.wr W96)
  refine own_retA X96 hx hlk Bd.returns rfl (hb hby own_d_jdk_38_method_6_code_59) (by decide) (by decide) ?_
  rw [e96]
  exact ⟨b86, k86, N97, rfl, Kp102, sz92, F104, F105, F98, F106, F107, F103, O86⟩
theorem own_d_jdk_38_method_7_code_0 : decode jdk_38_method_7_code 0 = .ok (.aload_n 0, 1) := by decide +kernel
theorem own_d_jdk_38_method_7_code_1 : decode jdk_38_method_7_code 1 = .ok (.aload_n 0, 1) := by decide +kernel
theorem own_d_jdk_38_method_7_code_2 : decode jdk_38_method_7_code 2 = .ok (.getfield 48, 3) := by decide +kernel
theorem own_d_jdk_38_method_7_code_5 : decode jdk_38_method_7_code 5 = .ok (.iconst 1, 1) := by decide +kernel
theorem own_d_jdk_38_method_7_code_6 : decode jdk_38_method_7_code 6 = .ok (.iadd, 1) := by decide +kernel
theorem own_d_jdk_38_method_7_code_7 : decode jdk_38_method_7_code 7 = .ok (.invokevirtual 69, 3) := by decide +kernel
theorem own_d_jdk_38_method_7_code_10 : decode jdk_38_method_7_code 10 = .ok (.areturn, 1) := by decide +kernel
theorem own_pn8 : plainFor (⟨"java/util/ArrayList", "grow", "()[Ljava/lang/Object;"⟩ : MethodName) = true := by decide +kernel
theorem own_pd3 : parseMethodDescriptor "(I)[Ljava/lang/Object;" = some ⟨[.int], some (.array (.object "java/lang/Object"))⟩ := by decide +kernel
def own_rm_grow_Q (Z : State) (r : Addr) (mc : Int32) (dflt : Addr) (kd : ClassId) (h0 : Heap) (n0 : Nat) (v : Option Value) (h : Heap) (L : List Loc) : Prop := ∃ arr : Addr, ∃ kk : ClassId, Fr n0 L ∧ v = some (.ref arr) ∧ Keep h0 h [r] ∧ h0.size ≤ arr ∧ Exa Z h r "java/util/ArrayList" ∧ Fld Z h r "java/util/AbstractList" "modCount" "I" (.int mc) ∧ Fld Z h r "java/util/ArrayList" "elementData" "[Ljava/lang/Object;" (.ref arr) ∧ Fld Z h r "java/util/ArrayList" "size" "I" (.int (0 : Int32)) ∧ Exa Z h arr "[Ljava/lang/Object;" ∧ Arv Z h arr kk (.object "java/lang/Object") (10 : Int32) [.null, .null, .null, .null, .null, .null, .null, .null, .null, .null] .null ∧ Ovr Z kk "java/lang/Object"
theorem own_rm_grow_ef (m : MethodId) (r : Addr)  : entryFrame m #[(.ref r)] 1 = mkF m 0 #[.val (.ref r)] [] := by first | (simp [entryFrame, mkF, argsToLocals, Value.category]; done) | rfl
set_option maxRecDepth 65536 in
set_option maxHeartbeats 40000000 in
theorem own_rm_grow (l : Launch) (Z : State) (a0 : Array Value) (hw : ∀ d ∈ tables_1, d.before a0 Z = true) (ws : List Jvm.Cond) (r : Addr) (mc : Int32) (dflt : Addr) (kd : ClassId) (h0 : Heap) (n0 : Nat) (Z0 : n0 ≤ h0.size) (O0 : Old Z n0 h0) (S_es : Sta Z Z.heap "java/util/ArrayList" "DEFAULTCAPACITY_EMPTY_ELEMENTDATA" "[Ljava/lang/Object;" (.ref dflt)) (V_es : Arv Z Z.heap dflt kd (.object "java/lang/Object") (0 : Int32) [] .null) (E1 : Exa Z h0 r "java/util/ArrayList") (F1 : Fld Z h0 r "java/util/AbstractList" "modCount" "I" (.int mc)) (F2 : Fld Z h0 r "java/util/ArrayList" "elementData" "[Ljava/lang/Object;" (.ref dflt)) (F3 : Fld Z h0 r "java/util/ArrayList" "size" "I" (.int (0 : Int32))) (g1 : n0 ≤ r) :
    MetFree l (⟨"java/util/ArrayList", "grow", "()[Ljava/lang/Object;"⟩ : MethodName) (head1 (Jvm.Cond.code (⟨"java/util/ArrayList", "grow", "()[Ljava/lang/Object;"⟩ : MethodName) jdk_38_method_7_code 1 (some (.array (.object "java/lang/Object"))) :: ws) ({ frames := 2, cells := 1, slots := 10, locals := 29 } : Room)) (fun aQ UQ => aQ = #[(.ref r)] ∧ Z.Warmed39 UQ.vm ∧ UQ.heap = h0) (fun _ _ _ _ _ => True) (fun _ UQ oQ U2 => ∃ vQ LQ, oQ = .returned vQ ∧ own_rm_grow_Q Z r mc dflt kd h0 n0 vQ U2.heap LQ ∧ FrameEnd UQ oQ U2 LQ ({ frames := 2, cells := 1, slots := 10, locals := 29 } : Room).cells ({ frames := 2, cells := 1, slots := 10, locals := 29 } : Room).slots) := by
  refine MetFree.of_bodySF own_pn8 hisR ?_
  intro p e s m args below meth c s₁ Bd hml0 hP hK
  obtain ⟨rfl, hZ, hh⟩ := hP
  have hx := Bd.exec
  have hby := Bd.bytes
  have hml : c.maxLocals = 1 := hml0
  have hlk := BodyLoose.notSynchronized Bd
  have hown : s.vm.findClass "java/util/ArrayList" = some m.cls := findClass_of_methodNamed Bd.named
  have hnm := (name_of_methodNamed Bd.named Bd.method).1
  have X0 : Stand p l e ({ frames := 2, cells := 1, slots := 10, locals := 29 } : Room) s m #[(.ref r)] below meth c s₁ [] 0 0 := Stand.of_body Bd
  have e0 : s₁.heap = h0 := by rw [← hh, Bd.state]; rfl
  have N0 := Fr.nil n0
  have Kp0 : Keep h0 h0 [r] := Keep.refl _ _
  show own_Go p e below s (own_rm_grow_Q Z r mc dflt kd h0 n0) ({ frames := 2, cells := 1, slots := 10, locals := 29 } : Room).cells ({ frames := 2, cells := 1, slots := 10, locals := 29 } : Room).slots (s₁.setTop (entryFrame m #[(.ref r)] 1))
  rw [own_rm_grow_ef]
  show own_Go p e below s _ _ _ (s₁.setTop (mkF m 0 #[.val (.ref r)] []))
  refine own_st (fun _ kQ => XS.aloadN X0.here hx rfl (hb hby own_d_jdk_38_method_7_code_0) rfl rfl kQ) ?_
  show own_Go p e below s _ _ _ (s₁.setTop (mkF m 1 #[.val (.ref r)] [(.ref r)]))
  refine own_st (fun _ kQ => XS.aloadN X0.here hx rfl (hb hby own_d_jdk_38_method_7_code_1) rfl rfl kQ) ?_
  show own_Go p e below s _ _ _ (s₁.setTop (mkF m 2 #[.val (.ref r)] [(.ref r), (.ref r)]))
  obtain ⟨T108, X108, e108, st108⟩ := getF X0 hx hZ hown (host := "") (Or.inl (hw _ (List.mem_of_getElem? (i := 40) rfl))) Via.refl e0 F3 (g := (mkF m 2 #[.val (.ref r)] [(.ref r), (.ref r)])) rfl rfl (hb hby own_d_jdk_38_method_7_code_2)
  refine own_st st108 ?_
  show own_Go p e below s _ _ _ (T108.setTop (mkF m 5 #[.val (.ref r)] [(.int (0 : Int32)), (.ref r)]))
  refine own_st (fun _ kQ => XT.iconstV X108.here hx rfl (1 : Int32) (hb hby own_d_jdk_38_method_7_code_5) (by decide) kQ) ?_
  show own_Go p e below s _ _ _ (T108.setTop (mkF m 6 #[.val (.ref r)] [(.int (1 : Int32)), (.int (0 : Int32)), (.ref r)]))
  refine own_st (fun _ kQ => XS.iadd X108.here hx rfl (hb hby own_d_jdk_38_method_7_code_6) rfl kQ) ?_
  show own_Go p e below s _ _ _ (T108.setTop (mkF m 7 #[.val (.ref r)] [(.int (1 : Int32)), (.ref r)]))
  obtain ⟨cq109, q109, q109'⟩ := E1.cell
  obtain ⟨_, _, ⟨T109, L109, k109, n109⟩, -, X109, ⟨Lc109, hQ109, l109, y109, z109⟩, st109⟩ := X108.privateBack hx (y := (⟨"java/util/ArrayList", "grow", "(I)[Ljava/lang/Object;"⟩ : MethodName)) hown (mvT hZ (hw _ (List.mem_of_getElem? (i := 52) rfl))) (mvT hZ (hw _ (List.mem_of_getElem? (i := 53) rfl))) (mvT hZ (hw _ (List.mem_of_getElem? (i := 55) rfl))) (Cond.privateMethod_at (mvP hZ (hw _ (List.mem_of_getElem? (i := 54) rfl)) (args := #[]))) (mvT hZ (hw _ (List.mem_of_getElem? (i := 56) rfl))) (by decide) (backOf (W := 0) (own_rm_growI l Z a0 hw [] r mc dflt kd h0 n0 Z0 O0 S_es V_es E1 F1 F2 F3 g1) hZ (hw _ (List.mem_of_getElem? (i := 56) rfl)) (hw _ (List.mem_of_getElem? (i := 2) rfl)) (by decide) (by decide)) (g := (mkF m 7 #[.val (.ref r)] [(.int (1 : Int32)), (.ref r)])) rfl (by rw [hml]; rfl) (Steps.refl _) (a := r) (own_hp e108 q109) q109' (argsL := [(.int (1 : Int32))]) (rest := []) (lenOf own_pd3 rfl) rfl (by show 2 * 0 + _ ≤ _; exact Nat.le_of_eq rfl) (hb hby own_d_jdk_38_method_7_code_7) (fun _ _ => ⟨rfl, e108, (by decide : 0 + 1 ≤ _), (by decide : 0 + 10 ≤ _)⟩)
  dsimp only [Pt.U, Pt.locs, Pt.cells, Pt.slots] at X109 l109 y109 z109 st109 hQ109
  subst l109 y109 z109
  obtain ⟨x110, x111, N109q, rfl, K109, q112, q113, q114, q115, q116, q117, q118, q119⟩ := hQ109
  have N120 := Fr.app N0 N109q
  refine own_tr st109 ?_
  have lt121 : r < T109.heap.size := Nat.lt_of_lt_of_le F3.lt K109.1
  have Zs122 : n0 ≤ T109.heap.size := Nat.le_trans Z0 K109.1
  have Kp123 : Keep h0 T109.heap [r] := Kp0.trans K109 (allS (Or.inl (List.mem_of_getElem? (i := 0) rfl)) all0)
  have ne124 : r ≠ x110 := Nat.ne_of_lt (Nat.lt_of_lt_of_le F3.lt q112)
  have g125 : n0 ≤ x110 := Nat.le_trans Z0 q112
  have sz126 : h0.size ≤ x110 := Nat.le_trans Kp0.1 q112
  show own_Go p e below s _ _ _ (T109.setTop (mkF m 10 #[.val (.ref r)] [(.ref x110)]))
  refine own_retA X109 hx hlk Bd.returns rfl (hb hby own_d_jdk_38_method_7_code_10) (by decide) (by decide) ?_
  skip
  exact ⟨x110, x111, N120, rfl, Kp123, sz126, q113, q114, q115, q116, q117, q118, q119⟩
theorem own_d_jdk_38_method_24_code_0 : decode jdk_38_method_24_code 0 = .ok (.iload_n 3, 1) := by decide +kernel
theorem own_d_jdk_38_method_24_code_1 : decode jdk_38_method_24_code 1 = .ok (.aload_n 2, 1) := by decide +kernel
theorem own_d_jdk_38_method_24_code_2 : decode jdk_38_method_24_code 2 = .ok (.arraylength, 1) := by decide +kernel
theorem own_d_jdk_38_method_24_code_3 : decode jdk_38_method_24_code 3 = .ok (.if_icmp .ne 8, 3) := by decide +kernel
theorem own_d_jdk_38_method_24_code_6 : decode jdk_38_method_24_code 6 = .ok (.aload_n 0, 1) := by decide +kernel
theorem own_d_jdk_38_method_24_code_7 : decode jdk_38_method_24_code 7 = .ok (.invokevirtual 129, 3) := by decide +kernel
theorem own_d_jdk_38_method_24_code_10 : decode jdk_38_method_24_code 10 = .ok (.astore_n 2, 1) := by decide +kernel
theorem own_d_jdk_38_method_24_code_11 : decode jdk_38_method_24_code 11 = .ok (.aload_n 2, 1) := by decide +kernel
theorem own_d_jdk_38_method_24_code_12 : decode jdk_38_method_24_code 12 = .ok (.iload_n 3, 1) := by decide +kernel
theorem own_d_jdk_38_method_24_code_13 : decode jdk_38_method_24_code 13 = .ok (.aload_n 1, 1) := by decide +kernel
theorem own_d_jdk_38_method_24_code_14 : decode jdk_38_method_24_code 14 = .ok (.aastore, 1) := by decide +kernel
theorem own_d_jdk_38_method_24_code_15 : decode jdk_38_method_24_code 15 = .ok (.aload_n 0, 1) := by decide +kernel
theorem own_d_jdk_38_method_24_code_16 : decode jdk_38_method_24_code 16 = .ok (.iload_n 3, 1) := by decide +kernel
theorem own_d_jdk_38_method_24_code_17 : decode jdk_38_method_24_code 17 = .ok (.iconst 1, 1) := by decide +kernel
theorem own_d_jdk_38_method_24_code_18 : decode jdk_38_method_24_code 18 = .ok (.iadd, 1) := by decide +kernel
theorem own_d_jdk_38_method_24_code_19 : decode jdk_38_method_24_code 19 = .ok (.putfield 48, 3) := by decide +kernel
theorem own_d_jdk_38_method_24_code_22 : decode jdk_38_method_24_code 22 = .ok (.return_, 1) := by decide +kernel
theorem own_pn9 : plainFor (⟨"java/util/ArrayList", "add", "(Ljava/lang/Object;[Ljava/lang/Object;I)V"⟩ : MethodName) = true := by decide +kernel
theorem own_pd4 : parseMethodDescriptor "()[Ljava/lang/Object;" = some ⟨[], some (.array (.object "java/lang/Object"))⟩ := by decide +kernel
def own_rm_add3_0_Q (Z : State) (r : Addr) (el : Addr) (mc : Int32) (dflt : Addr) (kd : ClassId) (h0 : Heap) (n0 : Nat) (v : Option Value) (h : Heap) (L : List Loc) : Prop := ∃ arr : Addr, ∃ kk : ClassId, Fr n0 L ∧ v = none ∧ Keep h0 h [r] ∧ h0.size ≤ arr ∧ Exa Z h r "java/util/ArrayList" ∧ Fld Z h r "java/util/AbstractList" "modCount" "I" (.int mc) ∧ Fld Z h r "java/util/ArrayList" "elementData" "[Ljava/lang/Object;" (.ref arr) ∧ Fld Z h r "java/util/ArrayList" "size" "I" (.int (1 : Int32)) ∧ Exa Z h arr "[Ljava/lang/Object;" ∧ Arv Z h arr kk (.object "java/lang/Object") (10 : Int32) [(.ref el), .null, .null, .null, .null, .null, .null, .null, .null, .null] .null ∧ Ovr Z kk "java/lang/Object"
theorem own_rm_add3_0_ef (m : MethodId) (r : Addr) (el : Addr) (dflt : Addr)  : entryFrame m #[(.ref r), (.ref el), (.ref dflt), (.int (0 : Int32))] 4 = mkF m 0 #[.val (.ref r), .val (.ref el), .val (.ref dflt), .val (.int (0 : Int32))] [] := by first | (simp [entryFrame, mkF, argsToLocals, Value.category]; done) | rfl
set_option maxRecDepth 65536 in
set_option maxHeartbeats 40000000 in
theorem own_rm_add3_0 (l : Launch) (Z : State) (a0 : Array Value) (hw : ∀ d ∈ tables_1, d.before a0 Z = true) (ws : List Jvm.Cond) (r : Addr) (el : Addr) (mc : Int32) (dflt : Addr) (kd : ClassId) (h0 : Heap) (n0 : Nat) (Z0 : n0 ≤ h0.size) (O0 : Old Z n0 h0) (S_es : Sta Z Z.heap "java/util/ArrayList" "DEFAULTCAPACITY_EMPTY_ELEMENTDATA" "[Ljava/lang/Object;" (.ref dflt)) (V_es : Arv Z Z.heap dflt kd (.object "java/lang/Object") (0 : Int32) [] .null) (E1 : Exa Z h0 r "java/util/ArrayList") (F1 : Fld Z h0 r "java/util/AbstractList" "modCount" "I" (.int mc)) (F2 : Fld Z h0 r "java/util/ArrayList" "elementData" "[Ljava/lang/Object;" (.ref dflt)) (F3 : Fld Z h0 r "java/util/ArrayList" "size" "I" (.int (0 : Int32))) (g1 : n0 ≤ r) (E2 : Exa Z h0 el "java/lang/Integer") :
    MetFree l (⟨"java/util/ArrayList", "add", "(Ljava/lang/Object;[Ljava/lang/Object;I)V"⟩ : MethodName) (head1 (Jvm.Cond.code (⟨"java/util/ArrayList", "add", "(Ljava/lang/Object;[Ljava/lang/Object;I)V"⟩ : MethodName) jdk_38_method_24_code 4 none :: ws) ({ frames := 3, cells := 1, slots := 10, locals := 41 } : Room)) (fun aQ UQ => aQ = #[(.ref r), (.ref el), (.ref dflt), (.int (0 : Int32))] ∧ Z.Warmed39 UQ.vm ∧ UQ.heap = h0) (fun _ _ _ _ _ => True) (fun _ UQ oQ U2 => ∃ vQ LQ, oQ = .returned vQ ∧ own_rm_add3_0_Q Z r el mc dflt kd h0 n0 vQ U2.heap LQ ∧ FrameEnd UQ oQ U2 LQ ({ frames := 3, cells := 1, slots := 10, locals := 41 } : Room).cells ({ frames := 3, cells := 1, slots := 10, locals := 41 } : Room).slots) := by
  refine MetFree.of_bodySF own_pn9 hisR ?_
  intro p e s m args below meth c s₁ Bd hml0 hP hK
  obtain ⟨rfl, hZ, hh⟩ := hP
  have hx := Bd.exec
  have hby := Bd.bytes
  have hml : c.maxLocals = 4 := hml0
  have hlk := BodyLoose.notSynchronized Bd
  have hown : s.vm.findClass "java/util/ArrayList" = some m.cls := findClass_of_methodNamed Bd.named
  have hnm := (name_of_methodNamed Bd.named Bd.method).1
  have X0 : Stand p l e ({ frames := 3, cells := 1, slots := 10, locals := 41 } : Room) s m #[(.ref r), (.ref el), (.ref dflt), (.int (0 : Int32))] below meth c s₁ [] 0 0 := Stand.of_body Bd
  have e0 : s₁.heap = h0 := by rw [← hh, Bd.state]; rfl
  have N0 := Fr.nil n0
  have Kp0 : Keep h0 h0 [r] := Keep.refl _ _
  show own_Go p e below s (own_rm_add3_0_Q Z r el mc dflt kd h0 n0) ({ frames := 3, cells := 1, slots := 10, locals := 41 } : Room).cells ({ frames := 3, cells := 1, slots := 10, locals := 41 } : Room).slots (s₁.setTop (entryFrame m #[(.ref r), (.ref el), (.ref dflt), (.int (0 : Int32))] 4))
  rw [own_rm_add3_0_ef]
  show own_Go p e below s _ _ _ (s₁.setTop (mkF m 0 #[.val (.ref r), .val (.ref el), .val (.ref dflt), .val (.int (0 : Int32))] []))
  refine own_st (fun _ kQ => XS.iloadN X0.here hx rfl (hb hby own_d_jdk_38_method_24_code_0) rfl kQ) ?_
  show own_Go p e below s _ _ _ (s₁.setTop (mkF m 1 #[.val (.ref r), .val (.ref el), .val (.ref dflt), .val (.int (0 : Int32))] [(.int (0 : Int32))]))
  refine own_st (fun _ kQ => XS.aloadN X0.here hx rfl (hb hby own_d_jdk_38_method_24_code_1) rfl rfl kQ) ?_
  show own_Go p e below s _ _ _ (s₁.setTop (mkF m 2 #[.val (.ref r), .val (.ref el), .val (.ref dflt), .val (.int (0 : Int32))] [(.ref dflt), (.int (0 : Int32))]))
  have F128 : Arv Z h0 dflt kd (.object "java/lang/Object") (0 : Int32) [] .null := V_es.ext O0.2
  obtain ⟨cl127, Ar127, -, S127, N127, -, -⟩ := id F128
  refine own_st (fun _ kQ => X0.arraylength hx (own_hp e0 Ar127.1) (State.isArrayOf_alike hZ.alike Ar127.2.1) (g := (mkF m 2 #[.val (.ref r), .val (.ref el), .val (.ref dflt), .val (.int (0 : Int32))] [(.ref dflt), (.int (0 : Int32))])) rfl rfl (hb hby own_d_jdk_38_method_24_code_2) _ kQ) ?_
  rw [len_of S127 N127]
  show own_Go p e below s _ _ _ (s₁.setTop (mkF m 3 #[.val (.ref r), .val (.ref el), .val (.ref dflt), .val (.int (0 : Int32))] [(.int (0 : Int32)), (.int (0 : Int32))]))
  refine own_st (fun _ kQ => XS.icmpNo X0.here hx rfl (hb hby own_d_jdk_38_method_24_code_3) rfl (XT.ii_ne_f rfl) kQ) ?_
  show own_Go p e below s _ _ _ (s₁.setTop (mkF m 6 #[.val (.ref r), .val (.ref el), .val (.ref dflt), .val (.int (0 : Int32))] []))
  refine own_st (fun _ kQ => XS.aloadN X0.here hx rfl (hb hby own_d_jdk_38_method_24_code_6) rfl rfl kQ) ?_
  show own_Go p e below s _ _ _ (s₁.setTop (mkF m 7 #[.val (.ref r), .val (.ref el), .val (.ref dflt), .val (.int (0 : Int32))] [(.ref r)]))
  obtain ⟨cq129, q129, q129'⟩ := E1.cell
  obtain ⟨_, _, ⟨T129, L129, k129, n129⟩, -, X129, ⟨Lc129, hQ129, l129, y129, z129⟩, st129⟩ := X0.privateBack hx (y := (⟨"java/util/ArrayList", "grow", "()[Ljava/lang/Object;"⟩ : MethodName)) hown (mvT hZ (hw _ (List.mem_of_getElem? (i := 47) rfl))) (mvT hZ (hw _ (List.mem_of_getElem? (i := 48) rfl))) (mvT hZ (hw _ (List.mem_of_getElem? (i := 50) rfl))) (Cond.privateMethod_at (mvP hZ (hw _ (List.mem_of_getElem? (i := 49) rfl)) (args := #[]))) (mvT hZ (hw _ (List.mem_of_getElem? (i := 51) rfl))) (by decide) (backOf (W := 0) (own_rm_grow l Z a0 hw [] r mc dflt kd h0 n0 Z0 O0 S_es V_es E1 F1 F2 F3 g1) hZ (hw _ (List.mem_of_getElem? (i := 51) rfl)) (hw _ (List.mem_of_getElem? (i := 2) rfl)) (by decide) (by decide)) (g := (mkF m 7 #[.val (.ref r), .val (.ref el), .val (.ref dflt), .val (.int (0 : Int32))] [(.ref r)])) rfl (by rw [hml]; rfl) (Steps.refl _) (a := r) (own_hp e0 q129) q129' (argsL := []) (rest := []) (lenOf own_pd4 rfl) rfl (by show 2 * 0 + _ ≤ _; exact Nat.le_of_eq rfl) (hb hby own_d_jdk_38_method_24_code_7) (fun _ _ => ⟨rfl, e0, (by decide : 0 + 1 ≤ _), (by decide : 0 + 10 ≤ _)⟩)
  dsimp only [Pt.U, Pt.locs, Pt.cells, Pt.slots] at X129 l129 y129 z129 st129 hQ129
  subst l129 y129 z129
  obtain ⟨x130, x131, N129q, rfl, K129, q132, q133, q134, q135, q136, q137, q138, q139⟩ := hQ129
  have N140 := Fr.app N0 N129q
  refine own_tr st129 ?_
  have lt141 : r < T129.heap.size := Nat.lt_of_lt_of_le F3.lt K129.1
  have lt142 : el < T129.heap.size := Nat.lt_of_lt_of_le E2.lt K129.1
  have Zs143 : n0 ≤ T129.heap.size := Nat.le_trans Z0 K129.1
  have Kp144 : Keep h0 T129.heap [r] := Kp0.trans K129 (allS (Or.inl (List.mem_of_getElem? (i := 0) rfl)) all0)
  have ne145 : r ≠ x130 := Nat.ne_of_lt (Nat.lt_of_lt_of_le F3.lt q132)
  have ne146 : el ≠ x130 := Nat.ne_of_lt (Nat.lt_of_lt_of_le E2.lt q132)
  have g147 : n0 ≤ x130 := Nat.le_trans Z0 q132
  have sz148 : h0.size ≤ x130 := Nat.le_trans Kp0.1 q132
  show own_Go p e below s _ _ _ (T129.setTop (mkF m 10 #[.val (.ref r), .val (.ref el), .val (.ref dflt), .val (.int (0 : Int32))] [(.ref x130)]))
  refine own_st (fun _ kQ => XS.astoreN X129.here hx rfl (hb hby own_d_jdk_38_method_24_code_10) rfl rfl (l' := #[.val (.ref r), .val (.ref el), .val (.ref x130), .val (.int (0 : Int32))]) rfl kQ) ?_
  show own_Go p e below s _ _ _ (T129.setTop (mkF m 11 #[.val (.ref r), .val (.ref el), .val (.ref x130), .val (.int (0 : Int32))] []))
  refine own_st (fun _ kQ => XS.aloadN X129.here hx rfl (hb hby own_d_jdk_38_method_24_code_11) rfl rfl kQ) ?_
  show own_Go p e below s _ _ _ (T129.setTop (mkF m 12 #[.val (.ref r), .val (.ref el), .val (.ref x130), .val (.int (0 : Int32))] [(.ref x130)]))
  refine own_st (fun _ kQ => XS.iloadN X129.here hx rfl (hb hby own_d_jdk_38_method_24_code_12) rfl kQ) ?_
  show own_Go p e below s _ _ _ (T129.setTop (mkF m 13 #[.val (.ref r), .val (.ref el), .val (.ref x130), .val (.int (0 : Int32))] [(.int (0 : Int32)), (.ref x130)]))
  refine own_st (fun _ kQ => XS.aloadN X129.here hx rfl (hb hby own_d_jdk_38_method_24_code_13) rfl rfl kQ) ?_
  show own_Go p e below s _ _ _ (T129.setTop (mkF m 14 #[.val (.ref r), .val (.ref el), .val (.ref x130), .val (.int (0 : Int32))] [(.ref el), (.int (0 : Int32)), (.ref x130)]))
  obtain ⟨cl149, Ar149, kc149, S149, Nn149, H149, G149⟩ := id q138
  have hin149 : ¬ ((0 : Int32) < 0 ∨ cl149.slots.size ≤ ((0 : Int32) : Int32).toNatClampNeg) := inb_of S149 (by decide)
  have F150 : Exa Z T129.heap el "java/lang/Integer" := (E2.keep K129)
  obtain ⟨T149, h149, X149, e149, W149, st149⟩ := stR X129 hx hZ rfl Ar149 (j := (0 : Int32)) hin149 rfl (Sto.ofV Ar149 kc149 q139 (Ins.of_exa F150 (hw _ (List.mem_of_getElem? (i := 63) rfl)))) (g := (mkF m 14 #[.val (.ref r), .val (.ref el), .val (.ref x130), .val (.int (0 : Int32))] [(.ref el), (.int (0 : Int32)), (.ref x130)])) rfl rfl (hb hby own_d_jdk_38_method_24_code_14)
  refine own_st st149 ?_
  have N151 := Fr.snoc X149 N140 g147
  have F152 : Arv Z h149 x130 x131 (.object "java/lang/Object") (10 : Int32) [(.ref el), .null, .null, .null, .null, .null, .null, .null, .null, .null] .null := Arv.set Ar149 kc149 S149 Nn149 H149 G149 rfl W149 0 (by decide) (Nat.le_of_ble_eq_true rfl)
  have lt153 : r < h149.size := Nat.lt_of_lt_of_le q136.lt (Nat.le_of_eq W149.size.symm)
  have lt154 : el < h149.size := Nat.lt_of_lt_of_le lt142 (Nat.le_of_eq W149.size.symm)
  have lt155 : x130 < h149.size := Nat.lt_of_lt_of_le q138.lt (Nat.le_of_eq W149.size.symm)
  have Zs156 : n0 ≤ h149.size := Nat.le_trans Zs143 (Nat.le_of_eq W149.size.symm)
  have Kp157 : Keep h0 h149 [r] := Kp144.wr W149 (Or.inr sz148)
  show own_Go p e below s _ _ _ (T149.setTop (mkF m 15 #[.val (.ref r), .val (.ref el), .val (.ref x130), .val (.int (0 : Int32))] []))
  refine own_st (fun _ kQ => XS.aloadN X149.here hx rfl (hb hby own_d_jdk_38_method_24_code_15) rfl rfl kQ) ?_
  show own_Go p e below s _ _ _ (T149.setTop (mkF m 16 #[.val (.ref r), .val (.ref el), .val (.ref x130), .val (.int (0 : Int32))] [(.ref r)]))
  refine own_st (fun _ kQ => XS.iloadN X149.here hx rfl (hb hby own_d_jdk_38_method_24_code_16) rfl kQ) ?_
  show own_Go p e below s _ _ _ (T149.setTop (mkF m 17 #[.val (.ref r), .val (.ref el), .val (.ref x130), .val (.int (0 : Int32))] [(.int (0 : Int32)), (.ref r)]))
  refine own_st (fun _ kQ => XT.iconstV X149.here hx rfl (1 : Int32) (hb hby own_d_jdk_38_method_24_code_17) (by decide) kQ) ?_
  show own_Go p e below s _ _ _ (T149.setTop (mkF m 18 #[.val (.ref r), .val (.ref el), .val (.ref x130), .val (.int (0 : Int32))] [(.int (1 : Int32)), (.int (0 : Int32)), (.ref r)]))
  refine own_st (fun _ kQ => XS.iadd X149.here hx rfl (hb hby own_d_jdk_38_method_24_code_18) rfl kQ) ?_
  show own_Go p e below s _ _ _ (T149.setTop (mkF m 19 #[.val (.ref r), .val (.ref el), .val (.ref x130), .val (.int (0 : Int32))] [(.int (1 : Int32)), (.ref r)]))
  have F158 : Fld Z h149 r "java/util/ArrayList" "size" "I" (.int (0 : Int32)) := (q136.other W149 (Or.inl ne145))
  have F159 : Exa Z h149 r "java/util/ArrayList" := (q133.wr W149)
  obtain ⟨T160, h160, X160, e160, W160, st160⟩ := putF X149 hx hZ hown (host := "") (Or.inl (hw _ (List.mem_of_getElem? (i := 40) rfl))) Via.refl e149 F158 F159 (Or.inl (hw _ (List.mem_of_getElem? (i := 41) rfl))) (hw _ (List.mem_of_getElem? (i := 1) rfl)) (ty := .int) (by decide) rfl rfl (g := (mkF m 19 #[.val (.ref r), .val (.ref el), .val (.ref x130), .val (.int (0 : Int32))] [(.int (1 : Int32)), (.ref r)])) rfl rfl (hb hby own_d_jdk_38_method_24_code_19)
  refine own_st st160 ?_
  have N161 := Fr.snoc X160 N151 g1
  have F162 : Fld Z h160 r "java/util/ArrayList" "size" "I" (.int (1 : Int32)) := F158.same W160
  have lt163 : r < h160.size := Nat.lt_of_lt_of_le lt153 (Nat.le_of_eq W160.size.symm)
  have lt164 : el < h160.size := Nat.lt_of_lt_of_le lt154 (Nat.le_of_eq W160.size.symm)
  have lt165 : x130 < h160.size := Nat.lt_of_lt_of_le lt155 (Nat.le_of_eq W160.size.symm)
  have Zs166 : n0 ≤ h160.size := Nat.le_trans Zs156 (Nat.le_of_eq W160.size.symm)
  have Kp167 : Keep h0 h160 [r] := Kp157.wr W160 (Or.inl (List.mem_of_getElem? (i := 0) rfl))
  show own_Go p e below s _ _ _ (T160.setTop (mkF m 22 #[.val (.ref r), .val (.ref el), .val (.ref x130), .val (.int (0 : Int32))] []))
  have F168 : Fld Z h160 r "java/util/ArrayList" "elementData" "[Ljava/lang/Object;" (.ref x130) := ((q135.other W149 (Or.inl ne145)).other W160 (Or.inr (slot_ne (Or.inl (hw _ (List.mem_of_getElem? (i := 25) rfl))) (Or.inl (hw _ (List.mem_of_getElem? (i := 41) rfl))) (by decide) (t := (.array (.object "java/lang/Object"))) (t' := .int) (by decide) (by decide))))
  have F169 : Arv Z h160 x130 x131 (.object "java/lang/Object") (10 : Int32) [(.ref el), .null, .null, .null, .null, .null, .null, .null, .null, .null] .null := (F152.other W160 ne145.symm)
  have F170 : Exa Z h160 r "java/util/ArrayList" := (F159.wr W160)
  have F171 : Fld Z h160 r "java/util/AbstractList" "modCount" "I" (.int mc) := ((q134.other W149 (Or.inl ne145)).other W160 (Or.inr (slot_ne (Or.inl (hw _ (List.mem_of_getElem? (i := 22) rfl))) (Or.inl (hw _ (List.mem_of_getElem? (i := 41) rfl))) (by decide) (t := .int) (t' := .int) (by decide) (by decide))))
  have F172 : Exa Z h160 x130 "[Ljava/lang/Object;" := ((q137.wr W149).wr W160)
  refine own_ret0 X160 hx hlk Bd.returns (hb hby own_d_jdk_38_method_24_code_22) (by decide) (by decide) ?_
  rw [e160]
  exact ⟨x130, x131, N161, rfl, Kp167, sz148, F170, F171, F168, F162, F172, F169, q139⟩
theorem own_d_jdk_38_method_25_code_0 : decode jdk_38_method_25_code 0 = .ok (.aload_n 0, 1) := by decide +kernel
theorem own_d_jdk_38_method_25_code_1 : decode jdk_38_method_25_code 1 = .ok (.dup, 1) := by decide +kernel
theorem own_d_jdk_38_method_25_code_2 : decode jdk_38_method_25_code 2 = .ok (.getfield 63, 3) := by decide +kernel
theorem own_d_jdk_38_method_25_code_5 : decode jdk_38_method_25_code 5 = .ok (.iconst 1, 1) := by decide +kernel
theorem own_d_jdk_38_method_25_code_6 : decode jdk_38_method_25_code 6 = .ok (.iadd, 1) := by decide +kernel
theorem own_d_jdk_38_method_25_code_7 : decode jdk_38_method_25_code 7 = .ok (.putfield 63, 3) := by decide +kernel
theorem own_d_jdk_38_method_25_code_10 : decode jdk_38_method_25_code 10 = .ok (.aload_n 0, 1) := by decide +kernel
theorem own_d_jdk_38_method_25_code_11 : decode jdk_38_method_25_code 11 = .ok (.aload_n 1, 1) := by decide +kernel
theorem own_d_jdk_38_method_25_code_12 : decode jdk_38_method_25_code 12 = .ok (.aload_n 0, 1) := by decide +kernel
theorem own_d_jdk_38_method_25_code_13 : decode jdk_38_method_25_code 13 = .ok (.getfield 9, 3) := by decide +kernel
theorem own_d_jdk_38_method_25_code_16 : decode jdk_38_method_25_code 16 = .ok (.aload_n 0, 1) := by decide +kernel
theorem own_d_jdk_38_method_25_code_17 : decode jdk_38_method_25_code 17 = .ok (.getfield 48, 3) := by decide +kernel
theorem own_d_jdk_38_method_25_code_20 : decode jdk_38_method_25_code 20 = .ok (.invokevirtual 131, 3) := by decide +kernel
theorem own_d_jdk_38_method_25_code_23 : decode jdk_38_method_25_code 23 = .ok (.iconst 1, 1) := by decide +kernel
theorem own_d_jdk_38_method_25_code_24 : decode jdk_38_method_25_code 24 = .ok (.ireturn, 1) := by decide +kernel
theorem own_pn10 : plainFor (⟨"java/util/ArrayList", "add", "(Ljava/lang/Object;)Z"⟩ : MethodName) = true := by decide +kernel
theorem own_pd5 : parseMethodDescriptor "(Ljava/lang/Object;[Ljava/lang/Object;I)V" = some ⟨[(.object "java/lang/Object"), (.array (.object "java/lang/Object")), .int], none⟩ := by decide +kernel
def own_rm_add1_0_Q (Z : State) (r : Addr) (el : Addr) (mc : Int32) (dflt : Addr) (kd : ClassId) (h0 : Heap) (n0 : Nat) (v : Option Value) (h : Heap) (L : List Loc) : Prop := ∃ arr : Addr, ∃ kk : ClassId, Fr n0 L ∧ v = some (.int (1 : Int32)) ∧ Keep h0 h [r] ∧ h0.size ≤ arr ∧ Exa Z h r "java/util/ArrayList" ∧ Fld Z h r "java/util/AbstractList" "modCount" "I" (.int (mc + (1 : Int32))) ∧ Fld Z h r "java/util/ArrayList" "elementData" "[Ljava/lang/Object;" (.ref arr) ∧ Fld Z h r "java/util/ArrayList" "size" "I" (.int (1 : Int32)) ∧ Exa Z h arr "[Ljava/lang/Object;" ∧ Arv Z h arr kk (.object "java/lang/Object") (10 : Int32) [(.ref el), .null, .null, .null, .null, .null, .null, .null, .null, .null] .null ∧ Ovr Z kk "java/lang/Object"
theorem own_rm_add1_0_ef (m : MethodId) (r : Addr) (el : Addr)  : entryFrame m #[(.ref r), (.ref el)] 2 = mkF m 0 #[.val (.ref r), .val (.ref el)] [] := by first | (simp [entryFrame, mkF, argsToLocals, Value.category]; done) | rfl
set_option maxRecDepth 65536 in
set_option maxHeartbeats 40000000 in
theorem own_rm_add1_0 (l : Launch) (Z : State) (a0 : Array Value) (hw : ∀ d ∈ tables_1, d.before a0 Z = true) (ws : List Jvm.Cond) (r : Addr) (el : Addr) (mc : Int32) (dflt : Addr) (kd : ClassId) (h0 : Heap) (n0 : Nat) (Z0 : n0 ≤ h0.size) (O0 : Old Z n0 h0) (S_es : Sta Z Z.heap "java/util/ArrayList" "DEFAULTCAPACITY_EMPTY_ELEMENTDATA" "[Ljava/lang/Object;" (.ref dflt)) (V_es : Arv Z Z.heap dflt kd (.object "java/lang/Object") (0 : Int32) [] .null) (E1 : Exa Z h0 r "java/util/ArrayList") (F1 : Fld Z h0 r "java/util/AbstractList" "modCount" "I" (.int mc)) (F2 : Fld Z h0 r "java/util/ArrayList" "elementData" "[Ljava/lang/Object;" (.ref dflt)) (F3 : Fld Z h0 r "java/util/ArrayList" "size" "I" (.int (0 : Int32))) (g1 : n0 ≤ r) (E2 : Exa Z h0 el "java/lang/Integer") :
    MetFree l (⟨"java/util/ArrayList", "add", "(Ljava/lang/Object;)Z"⟩ : MethodName) (head1 (Jvm.Cond.code (⟨"java/util/ArrayList", "add", "(Ljava/lang/Object;)Z"⟩ : MethodName) jdk_38_method_25_code 2 (some .boolean) :: ws) ({ frames := 4, cells := 1, slots := 10, locals := 56 } : Room)) (fun aQ UQ => aQ = #[(.ref r), (.ref el)] ∧ Z.Warmed39 UQ.vm ∧ UQ.heap = h0) (fun _ _ _ _ _ => True) (fun _ UQ oQ U2 => ∃ vQ LQ, oQ = .returned vQ ∧ own_rm_add1_0_Q Z r el mc dflt kd h0 n0 vQ U2.heap LQ ∧ FrameEnd UQ oQ U2 LQ ({ frames := 4, cells := 1, slots := 10, locals := 56 } : Room).cells ({ frames := 4, cells := 1, slots := 10, locals := 56 } : Room).slots) := by
  refine MetFree.of_bodySF own_pn10 hisR ?_
  intro p e s m args below meth c s₁ Bd hml0 hP hK
  obtain ⟨rfl, hZ, hh⟩ := hP
  have hx := Bd.exec
  have hby := Bd.bytes
  have hml : c.maxLocals = 2 := hml0
  have hlk := BodyLoose.notSynchronized Bd
  have hown : s.vm.findClass "java/util/ArrayList" = some m.cls := findClass_of_methodNamed Bd.named
  have hnm := (name_of_methodNamed Bd.named Bd.method).1
  have X0 : Stand p l e ({ frames := 4, cells := 1, slots := 10, locals := 56 } : Room) s m #[(.ref r), (.ref el)] below meth c s₁ [] 0 0 := Stand.of_body Bd
  have e0 : s₁.heap = h0 := by rw [← hh, Bd.state]; rfl
  have N0 := Fr.nil n0
  have Kp0 : Keep h0 h0 [r] := Keep.refl _ _
  show own_Go p e below s (own_rm_add1_0_Q Z r el mc dflt kd h0 n0) ({ frames := 4, cells := 1, slots := 10, locals := 56 } : Room).cells ({ frames := 4, cells := 1, slots := 10, locals := 56 } : Room).slots (s₁.setTop (entryFrame m #[(.ref r), (.ref el)] 2))
  rw [own_rm_add1_0_ef]
  show own_Go p e below s _ _ _ (s₁.setTop (mkF m 0 #[.val (.ref r), .val (.ref el)] []))
  refine own_st (fun _ kQ => XS.aloadN X0.here hx rfl (hb hby own_d_jdk_38_method_25_code_0) rfl rfl kQ) ?_
  show own_Go p e below s _ _ _ (s₁.setTop (mkF m 1 #[.val (.ref r), .val (.ref el)] [(.ref r)]))
  refine own_st (fun _ kQ => XS.dup X0.here hx rfl (hb hby own_d_jdk_38_method_25_code_1) rfl rfl kQ) ?_
  show own_Go p e below s _ _ _ (s₁.setTop (mkF m 2 #[.val (.ref r), .val (.ref el)] [(.ref r), (.ref r)]))
  obtain ⟨T173, X173, e173, st173⟩ := getF X0 hx hZ hown (host := "") (Or.inl (hw _ (List.mem_of_getElem? (i := 38) rfl))) (Via.of (hw _ (List.mem_of_getElem? (i := 39) rfl))) e0 F1 (g := (mkF m 2 #[.val (.ref r), .val (.ref el)] [(.ref r), (.ref r)])) rfl rfl (hb hby own_d_jdk_38_method_25_code_2)
  refine own_st st173 ?_
  show own_Go p e below s _ _ _ (T173.setTop (mkF m 5 #[.val (.ref r), .val (.ref el)] [(.int mc), (.ref r)]))
  refine own_st (fun _ kQ => XT.iconstV X173.here hx rfl (1 : Int32) (hb hby own_d_jdk_38_method_25_code_5) (by decide) kQ) ?_
  show own_Go p e below s _ _ _ (T173.setTop (mkF m 6 #[.val (.ref r), .val (.ref el)] [(.int (1 : Int32)), (.int mc), (.ref r)]))
  refine own_st (fun _ kQ => XS.iadd X173.here hx rfl (hb hby own_d_jdk_38_method_25_code_6) rfl kQ) ?_
  show own_Go p e below s _ _ _ (T173.setTop (mkF m 7 #[.val (.ref r), .val (.ref el)] [(.int (mc + (1 : Int32))), (.ref r)]))
  obtain ⟨T174, h174, X174, e174, W174, st174⟩ := putF X173 hx hZ hown (host := "") (Or.inl (hw _ (List.mem_of_getElem? (i := 38) rfl))) (Via.of (hw _ (List.mem_of_getElem? (i := 39) rfl))) e173 F1 E1 (Or.inl (hw _ (List.mem_of_getElem? (i := 22) rfl))) (hw _ (List.mem_of_getElem? (i := 1) rfl)) (ty := .int) (by decide) rfl rfl (g := (mkF m 7 #[.val (.ref r), .val (.ref el)] [(.int (mc + (1 : Int32))), (.ref r)])) rfl rfl (hb hby own_d_jdk_38_method_25_code_7)
  refine own_st st174 ?_
  have N175 := Fr.snoc X174 N0 g1
  have F176 : Fld Z h174 r "java/util/AbstractList" "modCount" "I" (.int (mc + (1 : Int32))) := F1.same W174
  have lt177 : r < h174.size := Nat.lt_of_lt_of_le F3.lt (Nat.le_of_eq W174.size.symm)
  have lt178 : el < h174.size := Nat.lt_of_lt_of_le E2.lt (Nat.le_of_eq W174.size.symm)
  have Zs179 : n0 ≤ h174.size := Nat.le_trans Z0 (Nat.le_of_eq W174.size.symm)
  have Kp180 : Keep h0 h174 [r] := Kp0.wr W174 (Or.inl (List.mem_of_getElem? (i := 0) rfl))
  show own_Go p e below s _ _ _ (T174.setTop (mkF m 10 #[.val (.ref r), .val (.ref el)] []))
  refine own_st (fun _ kQ => XS.aloadN X174.here hx rfl (hb hby own_d_jdk_38_method_25_code_10) rfl rfl kQ) ?_
  show own_Go p e below s _ _ _ (T174.setTop (mkF m 11 #[.val (.ref r), .val (.ref el)] [(.ref r)]))
  refine own_st (fun _ kQ => XS.aloadN X174.here hx rfl (hb hby own_d_jdk_38_method_25_code_11) rfl rfl kQ) ?_
  show own_Go p e below s _ _ _ (T174.setTop (mkF m 12 #[.val (.ref r), .val (.ref el)] [(.ref el), (.ref r)]))
  refine own_st (fun _ kQ => XS.aloadN X174.here hx rfl (hb hby own_d_jdk_38_method_25_code_12) rfl rfl kQ) ?_
  show own_Go p e below s _ _ _ (T174.setTop (mkF m 13 #[.val (.ref r), .val (.ref el)] [(.ref r), (.ref el), (.ref r)]))
  have F181 : Fld Z h174 r "java/util/ArrayList" "elementData" "[Ljava/lang/Object;" (.ref dflt) := (F2.other W174 (Or.inr (slot_ne (Or.inl (hw _ (List.mem_of_getElem? (i := 25) rfl))) (Or.inl (hw _ (List.mem_of_getElem? (i := 22) rfl))) (by decide) (t := (.array (.object "java/lang/Object"))) (t' := .int) (by decide) (by decide))))
  obtain ⟨T182, X182, e182, st182⟩ := getF X174 hx hZ hown (host := "") (Or.inl (hw _ (List.mem_of_getElem? (i := 24) rfl))) Via.refl e174 F181 (g := (mkF m 13 #[.val (.ref r), .val (.ref el)] [(.ref r), (.ref el), (.ref r)])) rfl rfl (hb hby own_d_jdk_38_method_25_code_13)
  refine own_st st182 ?_
  show own_Go p e below s _ _ _ (T182.setTop (mkF m 16 #[.val (.ref r), .val (.ref el)] [(.ref dflt), (.ref el), (.ref r)]))
  refine own_st (fun _ kQ => XS.aloadN X182.here hx rfl (hb hby own_d_jdk_38_method_25_code_16) rfl rfl kQ) ?_
  show own_Go p e below s _ _ _ (T182.setTop (mkF m 17 #[.val (.ref r), .val (.ref el)] [(.ref r), (.ref dflt), (.ref el), (.ref r)]))
  have F183 : Fld Z h174 r "java/util/ArrayList" "size" "I" (.int (0 : Int32)) := (F3.other W174 (Or.inr (slot_ne (Or.inl (hw _ (List.mem_of_getElem? (i := 41) rfl))) (Or.inl (hw _ (List.mem_of_getElem? (i := 22) rfl))) (by decide) (t := .int) (t' := .int) (by decide) (by decide))))
  obtain ⟨T184, X184, e184, st184⟩ := getF X182 hx hZ hown (host := "") (Or.inl (hw _ (List.mem_of_getElem? (i := 40) rfl))) Via.refl e182 F183 (g := (mkF m 17 #[.val (.ref r), .val (.ref el)] [(.ref r), (.ref dflt), (.ref el), (.ref r)])) rfl rfl (hb hby own_d_jdk_38_method_25_code_17)
  refine own_st st184 ?_
  show own_Go p e below s _ _ _ (T184.setTop (mkF m 20 #[.val (.ref r), .val (.ref el)] [(.int (0 : Int32)), (.ref dflt), (.ref el), (.ref r)]))
  have F186 : Exa Z h174 r "java/util/ArrayList" := (E1.wr W174)
  have F187 : Exa Z h174 el "java/lang/Integer" := (E2.wr W174)
  have O188 : Old Z n0 h174 := (O0.wr W174 g1)
  obtain ⟨cq185, q185, q185'⟩ := F186.cell
  obtain ⟨_, _, ⟨T185, L185, k185, n185⟩, -, X185, ⟨Lc185, hQ185, l185, y185, z185⟩, st185⟩ := X184.privateBack hx (y := (⟨"java/util/ArrayList", "add", "(Ljava/lang/Object;[Ljava/lang/Object;I)V"⟩ : MethodName)) hown (mvT hZ (hw _ (List.mem_of_getElem? (i := 42) rfl))) (mvT hZ (hw _ (List.mem_of_getElem? (i := 43) rfl))) (mvT hZ (hw _ (List.mem_of_getElem? (i := 45) rfl))) (Cond.privateMethod_at (mvP hZ (hw _ (List.mem_of_getElem? (i := 44) rfl)) (args := #[]))) (mvT hZ (hw _ (List.mem_of_getElem? (i := 46) rfl))) (by decide) (backOf (W := 0) (own_rm_add3_0 l Z a0 hw [] r el (mc + (1 : Int32)) dflt kd h174 n0 Zs179 O188 S_es V_es F186 F176 F181 F183 g1 F187) hZ (hw _ (List.mem_of_getElem? (i := 46) rfl)) (hw _ (List.mem_of_getElem? (i := 2) rfl)) (by decide) (by decide)) (g := (mkF m 20 #[.val (.ref r), .val (.ref el)] [(.int (0 : Int32)), (.ref dflt), (.ref el), (.ref r)])) rfl (by rw [hml]; rfl) (Steps.refl _) (a := r) (own_hp e184 q185) q185' (argsL := [(.ref el), (.ref dflt), (.int (0 : Int32))]) (rest := []) (lenOf own_pd5 rfl) rfl (by show 2 * 0 + _ ≤ _; exact Nat.le_of_eq rfl) (hb hby own_d_jdk_38_method_25_code_20) (fun _ _ => ⟨rfl, e184, (by decide : 0 + 1 ≤ _), (by decide : 0 + 10 ≤ _)⟩)
  dsimp only [Pt.U, Pt.locs, Pt.cells, Pt.slots] at X185 l185 y185 z185 st185 hQ185
  subst l185 y185 z185
  obtain ⟨x189, x190, N185q, rfl, K185, q191, q192, q193, q194, q195, q196, q197, q198⟩ := hQ185
  have N199 := Fr.app N175 N185q
  refine own_tr st185 ?_
  have lt200 : r < T185.heap.size := Nat.lt_of_lt_of_le lt177 K185.1
  have lt201 : el < T185.heap.size := Nat.lt_of_lt_of_le lt178 K185.1
  have Zs202 : n0 ≤ T185.heap.size := Nat.le_trans Zs179 K185.1
  have Kp203 : Keep h0 T185.heap [r] := Kp180.trans K185 (allS (Or.inl (List.mem_of_getElem? (i := 0) rfl)) all0)
  have ne204 : r ≠ x189 := Nat.ne_of_lt (Nat.lt_of_lt_of_le lt177 q191)
  have ne205 : el ≠ x189 := Nat.ne_of_lt (Nat.lt_of_lt_of_le lt178 q191)
  have g206 : n0 ≤ x189 := Nat.le_trans Zs179 q191
  have sz207 : h0.size ≤ x189 := Nat.le_trans Kp180.1 q191
  show own_Go p e below s _ _ _ (T185.setTop (mkF m 23 #[.val (.ref r), .val (.ref el)] []))
  refine own_st (fun _ kQ => XT.iconstV X185.here hx rfl (1 : Int32) (hb hby own_d_jdk_38_method_25_code_23) (by decide) kQ) ?_
  show own_Go p e below s _ _ _ (T185.setTop (mkF m 24 #[.val (.ref r), .val (.ref el)] [(.int (1 : Int32))]))
  refine own_retN X185 hx hlk Bd.returns (t := .boolean) (z' := (1 : Int32)) (by simp) (by decide) (hb hby own_d_jdk_38_method_25_code_24) (by decide) (by decide) ?_
  skip
  exact ⟨x189, x190, N199, rfl, Kp203, sz207, q192, q193, q194, q195, q196, q197, q198⟩
def own_rm_add3_1_Q (Z : State) (r : Addr) (el : Addr) (arr : Addr) (kk : ClassId) (mc : Int32) (v0 : Addr) (h0 : Heap) (n0 : Nat) (v : Option Value) (h : Heap) (L : List Loc) : Prop := Fr n0 L ∧ v = none ∧ Keep h0 h [r, arr] ∧ Exa Z h r "java/util/ArrayList" ∧ Fld Z h r "java/util/AbstractList" "modCount" "I" (.int mc) ∧ Fld Z h r "java/util/ArrayList" "elementData" "[Ljava/lang/Object;" (.ref arr) ∧ Fld Z h r "java/util/ArrayList" "size" "I" (.int (2 : Int32)) ∧ Arv Z h arr kk (.object "java/lang/Object") (10 : Int32) [(.ref v0), (.ref el), .null, .null, .null, .null, .null, .null, .null, .null] .null
theorem own_rm_add3_1_ef (m : MethodId) (r : Addr) (el : Addr) (arr : Addr)  : entryFrame m #[(.ref r), (.ref el), (.ref arr), (.int (1 : Int32))] 4 = mkF m 0 #[.val (.ref r), .val (.ref el), .val (.ref arr), .val (.int (1 : Int32))] [] := by first | (simp [entryFrame, mkF, argsToLocals, Value.category]; done) | rfl
set_option maxRecDepth 65536 in
set_option maxHeartbeats 40000000 in
theorem own_rm_add3_1 (l : Launch) (Z : State) (a0 : Array Value) (hw : ∀ d ∈ tables_1, d.before a0 Z = true) (ws : List Jvm.Cond) (r : Addr) (el : Addr) (arr : Addr) (kk : ClassId) (mc : Int32) (v0 : Addr) (h0 : Heap) (n0 : Nat) (Z0 : n0 ≤ h0.size) (E1 : Exa Z h0 r "java/util/ArrayList") (F1 : Fld Z h0 r "java/util/AbstractList" "modCount" "I" (.int mc)) (F2 : Fld Z h0 r "java/util/ArrayList" "elementData" "[Ljava/lang/Object;" (.ref arr)) (F3 : Fld Z h0 r "java/util/ArrayList" "size" "I" (.int (1 : Int32))) (V1 : Arv Z h0 arr kk (.object "java/lang/Object") (10 : Int32) [(.ref v0), .null, .null, .null, .null, .null, .null, .null, .null, .null] .null) (ov : Ovr Z kk "java/lang/Object") (g1 : n0 ≤ r) (g2 : n0 ≤ arr) (n1 : r ≠ arr) (E2 : Exa Z h0 el "java/lang/Integer") :
    MetFree l (⟨"java/util/ArrayList", "add", "(Ljava/lang/Object;[Ljava/lang/Object;I)V"⟩ : MethodName) (head1 (Jvm.Cond.code (⟨"java/util/ArrayList", "add", "(Ljava/lang/Object;[Ljava/lang/Object;I)V"⟩ : MethodName) jdk_38_method_24_code 4 none :: ws) ({ frames := 0, cells := 0, slots := 0, locals := 0 } : Room)) (fun aQ UQ => aQ = #[(.ref r), (.ref el), (.ref arr), (.int (1 : Int32))] ∧ Z.Warmed39 UQ.vm ∧ UQ.heap = h0) (fun _ _ _ _ _ => True) (fun _ UQ oQ U2 => ∃ vQ LQ, oQ = .returned vQ ∧ own_rm_add3_1_Q Z r el arr kk mc v0 h0 n0 vQ U2.heap LQ ∧ FrameEnd UQ oQ U2 LQ ({ frames := 0, cells := 0, slots := 0, locals := 0 } : Room).cells ({ frames := 0, cells := 0, slots := 0, locals := 0 } : Room).slots) := by
  refine MetFree.of_bodySF own_pn9 hisR ?_
  intro p e s m args below meth c s₁ Bd hml0 hP hK
  obtain ⟨rfl, hZ, hh⟩ := hP
  have hx := Bd.exec
  have hby := Bd.bytes
  have hml : c.maxLocals = 4 := hml0
  have hlk := BodyLoose.notSynchronized Bd
  have hown : s.vm.findClass "java/util/ArrayList" = some m.cls := findClass_of_methodNamed Bd.named
  have hnm := (name_of_methodNamed Bd.named Bd.method).1
  have X0 : Stand p l e ({ frames := 0, cells := 0, slots := 0, locals := 0 } : Room) s m #[(.ref r), (.ref el), (.ref arr), (.int (1 : Int32))] below meth c s₁ [] 0 0 := Stand.of_body Bd
  have e0 : s₁.heap = h0 := by rw [← hh, Bd.state]; rfl
  have N0 := Fr.nil n0
  have Kp0 : Keep h0 h0 [r, arr] := Keep.refl _ _
  show own_Go p e below s (own_rm_add3_1_Q Z r el arr kk mc v0 h0 n0) ({ frames := 0, cells := 0, slots := 0, locals := 0 } : Room).cells ({ frames := 0, cells := 0, slots := 0, locals := 0 } : Room).slots (s₁.setTop (entryFrame m #[(.ref r), (.ref el), (.ref arr), (.int (1 : Int32))] 4))
  rw [own_rm_add3_1_ef]
  show own_Go p e below s _ _ _ (s₁.setTop (mkF m 0 #[.val (.ref r), .val (.ref el), .val (.ref arr), .val (.int (1 : Int32))] []))
  refine own_st (fun _ kQ => XS.iloadN X0.here hx rfl (hb hby own_d_jdk_38_method_24_code_0) rfl kQ) ?_
  show own_Go p e below s _ _ _ (s₁.setTop (mkF m 1 #[.val (.ref r), .val (.ref el), .val (.ref arr), .val (.int (1 : Int32))] [(.int (1 : Int32))]))
  refine own_st (fun _ kQ => XS.aloadN X0.here hx rfl (hb hby own_d_jdk_38_method_24_code_1) rfl rfl kQ) ?_
  show own_Go p e below s _ _ _ (s₁.setTop (mkF m 2 #[.val (.ref r), .val (.ref el), .val (.ref arr), .val (.int (1 : Int32))] [(.ref arr), (.int (1 : Int32))]))
  obtain ⟨cl208, Ar208, -, S208, N208, -, -⟩ := id V1
  refine own_st (fun _ kQ => X0.arraylength hx (own_hp e0 Ar208.1) (State.isArrayOf_alike hZ.alike Ar208.2.1) (g := (mkF m 2 #[.val (.ref r), .val (.ref el), .val (.ref arr), .val (.int (1 : Int32))] [(.ref arr), (.int (1 : Int32))])) rfl rfl (hb hby own_d_jdk_38_method_24_code_2) _ kQ) ?_
  rw [len_of S208 N208]
  show own_Go p e below s _ _ _ (s₁.setTop (mkF m 3 #[.val (.ref r), .val (.ref el), .val (.ref arr), .val (.int (1 : Int32))] [(.int (10 : Int32)), (.int (1 : Int32))]))
  refine own_st (fun _ kQ => XS.icmpYes X0.here hx rfl (pc0 := 3) (pc' := 11) rfl (hb hby own_d_jdk_38_method_24_code_3) rfl (XT.ii_ne_t (by decide)) (by decide) (by decide) kQ) ?_
  show own_Go p e below s _ _ _ (s₁.setTop (mkF m 11 #[.val (.ref r), .val (.ref el), .val (.ref arr), .val (.int (1 : Int32))] []))
  refine own_st (fun _ kQ => XS.aloadN X0.here hx rfl (hb hby own_d_jdk_38_method_24_code_11) rfl rfl kQ) ?_
  show own_Go p e below s _ _ _ (s₁.setTop (mkF m 12 #[.val (.ref r), .val (.ref el), .val (.ref arr), .val (.int (1 : Int32))] [(.ref arr)]))
  refine own_st (fun _ kQ => XS.iloadN X0.here hx rfl (hb hby own_d_jdk_38_method_24_code_12) rfl kQ) ?_
  show own_Go p e below s _ _ _ (s₁.setTop (mkF m 13 #[.val (.ref r), .val (.ref el), .val (.ref arr), .val (.int (1 : Int32))] [(.int (1 : Int32)), (.ref arr)]))
  refine own_st (fun _ kQ => XS.aloadN X0.here hx rfl (hb hby own_d_jdk_38_method_24_code_13) rfl rfl kQ) ?_
  show own_Go p e below s _ _ _ (s₁.setTop (mkF m 14 #[.val (.ref r), .val (.ref el), .val (.ref arr), .val (.int (1 : Int32))] [(.ref el), (.int (1 : Int32)), (.ref arr)]))
  obtain ⟨cl209, Ar209, kc209, S209, Nn209, H209, G209⟩ := id V1
  have hin209 : ¬ ((1 : Int32) < 0 ∨ cl209.slots.size ≤ ((1 : Int32) : Int32).toNatClampNeg) := inb_of S209 (by decide)
  obtain ⟨T209, h209, X209, e209, W209, st209⟩ := stR X0 hx hZ e0 Ar209 (j := (1 : Int32)) hin209 rfl (Sto.ofV Ar209 kc209 ov (Ins.of_exa E2 (hw _ (List.mem_of_getElem? (i := 63) rfl)))) (g := (mkF m 14 #[.val (.ref r), .val (.ref el), .val (.ref arr), .val (.int (1 : Int32))] [(.ref el), (.int (1 : Int32)), (.ref arr)])) rfl rfl (hb hby own_d_jdk_38_method_24_code_14)
  refine own_st st209 ?_
  have N210 := Fr.snoc X209 N0 g2
  have F211 : Arv Z h209 arr kk (.object "java/lang/Object") (10 : Int32) [(.ref v0), (.ref el), .null, .null, .null, .null, .null, .null, .null, .null] .null := Arv.set Ar209 kc209 S209 Nn209 H209 G209 rfl W209 1 (by decide) (Nat.le_of_ble_eq_true rfl)
  have lt212 : r < h209.size := Nat.lt_of_lt_of_le F3.lt (Nat.le_of_eq W209.size.symm)
  have lt213 : arr < h209.size := Nat.lt_of_lt_of_le V1.lt (Nat.le_of_eq W209.size.symm)
  have lt214 : el < h209.size := Nat.lt_of_lt_of_le E2.lt (Nat.le_of_eq W209.size.symm)
  have Zs215 : n0 ≤ h209.size := Nat.le_trans Z0 (Nat.le_of_eq W209.size.symm)
  have Kp216 : Keep h0 h209 [r, arr] := Kp0.wr W209 (Or.inl (List.mem_of_getElem? (i := 1) rfl))
  show own_Go p e below s _ _ _ (T209.setTop (mkF m 15 #[.val (.ref r), .val (.ref el), .val (.ref arr), .val (.int (1 : Int32))] []))
  refine own_st (fun _ kQ => XS.aloadN X209.here hx rfl (hb hby own_d_jdk_38_method_24_code_15) rfl rfl kQ) ?_
  show own_Go p e below s _ _ _ (T209.setTop (mkF m 16 #[.val (.ref r), .val (.ref el), .val (.ref arr), .val (.int (1 : Int32))] [(.ref r)]))
  refine own_st (fun _ kQ => XS.iloadN X209.here hx rfl (hb hby own_d_jdk_38_method_24_code_16) rfl kQ) ?_
  show own_Go p e below s _ _ _ (T209.setTop (mkF m 17 #[.val (.ref r), .val (.ref el), .val (.ref arr), .val (.int (1 : Int32))] [(.int (1 : Int32)), (.ref r)]))
  refine own_st (fun _ kQ => XT.iconstV X209.here hx rfl (1 : Int32) (hb hby own_d_jdk_38_method_24_code_17) (by decide) kQ) ?_
  show own_Go p e below s _ _ _ (T209.setTop (mkF m 18 #[.val (.ref r), .val (.ref el), .val (.ref arr), .val (.int (1 : Int32))] [(.int (1 : Int32)), (.int (1 : Int32)), (.ref r)]))
  refine own_st (fun _ kQ => XS.iadd X209.here hx rfl (hb hby own_d_jdk_38_method_24_code_18) rfl kQ) ?_
  show own_Go p e below s _ _ _ (T209.setTop (mkF m 19 #[.val (.ref r), .val (.ref el), .val (.ref arr), .val (.int (1 : Int32))] [(.int (2 : Int32)), (.ref r)]))
  have F217 : Fld Z h209 r "java/util/ArrayList" "size" "I" (.int (1 : Int32)) := (F3.other W209 (Or.inl n1))
  have F218 : Exa Z h209 r "java/util/ArrayList" := (E1.wr W209)
  obtain ⟨T219, h219, X219, e219, W219, st219⟩ := putF X209 hx hZ hown (host := "") (Or.inl (hw _ (List.mem_of_getElem? (i := 40) rfl))) Via.refl e209 F217 F218 (Or.inl (hw _ (List.mem_of_getElem? (i := 41) rfl))) (hw _ (List.mem_of_getElem? (i := 1) rfl)) (ty := .int) (by decide) rfl rfl (g := (mkF m 19 #[.val (.ref r), .val (.ref el), .val (.ref arr), .val (.int (1 : Int32))] [(.int (2 : Int32)), (.ref r)])) rfl rfl (hb hby own_d_jdk_38_method_24_code_19)
  refine own_st st219 ?_
  have N220 := Fr.snoc X219 N210 g1
  have F221 : Fld Z h219 r "java/util/ArrayList" "size" "I" (.int (2 : Int32)) := F217.same W219
  have lt222 : r < h219.size := Nat.lt_of_lt_of_le lt212 (Nat.le_of_eq W219.size.symm)
  have lt223 : arr < h219.size := Nat.lt_of_lt_of_le lt213 (Nat.le_of_eq W219.size.symm)
  have lt224 : el < h219.size := Nat.lt_of_lt_of_le lt214 (Nat.le_of_eq W219.size.symm)
  have Zs225 : n0 ≤ h219.size := Nat.le_trans Zs215 (Nat.le_of_eq W219.size.symm)
  have Kp226 : Keep h0 h219 [r, arr] := Kp216.wr W219 (Or.inl (List.mem_of_getElem? (i := 0) rfl))
  show own_Go p e below s _ _ _ (T219.setTop (mkF m 22 #[.val (.ref r), .val (.ref el), .val (.ref arr), .val (.int (1 : Int32))] []))
  have F227 : Exa Z h219 r "java/util/ArrayList" := (F218.wr W219)
  have F228 : Fld Z h219 r "java/util/AbstractList" "modCount" "I" (.int mc) := ((F1.other W209 (Or.inl n1)).other W219 (Or.inr (slot_ne (Or.inl (hw _ (List.mem_of_getElem? (i := 22) rfl))) (Or.inl (hw _ (List.mem_of_getElem? (i := 41) rfl))) (by decide) (t := .int) (t' := .int) (by decide) (by decide))))
  have F229 : Fld Z h219 r "java/util/ArrayList" "elementData" "[Ljava/lang/Object;" (.ref arr) := ((F2.other W209 (Or.inl n1)).other W219 (Or.inr (slot_ne (Or.inl (hw _ (List.mem_of_getElem? (i := 25) rfl))) (Or.inl (hw _ (List.mem_of_getElem? (i := 41) rfl))) (by decide) (t := (.array (.object "java/lang/Object"))) (t' := .int) (by decide) (by decide))))
  have F230 : Arv Z h219 arr kk (.object "java/lang/Object") (10 : Int32) [(.ref v0), (.ref el), .null, .null, .null, .null, .null, .null, .null, .null] .null := (F211.other W219 n1.symm)
  refine own_ret0 X219 hx hlk Bd.returns (hb hby own_d_jdk_38_method_24_code_22) (by decide) (by decide) ?_
  rw [e219]
  exact ⟨N220, rfl, Kp226, F227, F228, F229, F221, F230⟩
def own_rm_add1_1_Q (Z : State) (r : Addr) (el : Addr) (arr : Addr) (kk : ClassId) (mc : Int32) (v0 : Addr) (h0 : Heap) (n0 : Nat) (v : Option Value) (h : Heap) (L : List Loc) : Prop := Fr n0 L ∧ v = some (.int (1 : Int32)) ∧ Keep h0 h [r, arr] ∧ Exa Z h r "java/util/ArrayList" ∧ Fld Z h r "java/util/AbstractList" "modCount" "I" (.int (mc + (1 : Int32))) ∧ Fld Z h r "java/util/ArrayList" "elementData" "[Ljava/lang/Object;" (.ref arr) ∧ Fld Z h r "java/util/ArrayList" "size" "I" (.int (2 : Int32)) ∧ Arv Z h arr kk (.object "java/lang/Object") (10 : Int32) [(.ref v0), (.ref el), .null, .null, .null, .null, .null, .null, .null, .null] .null
theorem own_rm_add1_1_ef (m : MethodId) (r : Addr) (el : Addr)  : entryFrame m #[(.ref r), (.ref el)] 2 = mkF m 0 #[.val (.ref r), .val (.ref el)] [] := by first | (simp [entryFrame, mkF, argsToLocals, Value.category]; done) | rfl
set_option maxRecDepth 65536 in
set_option maxHeartbeats 40000000 in
theorem own_rm_add1_1 (l : Launch) (Z : State) (a0 : Array Value) (hw : ∀ d ∈ tables_1, d.before a0 Z = true) (ws : List Jvm.Cond) (r : Addr) (el : Addr) (arr : Addr) (kk : ClassId) (mc : Int32) (v0 : Addr) (h0 : Heap) (n0 : Nat) (Z0 : n0 ≤ h0.size) (E1 : Exa Z h0 r "java/util/ArrayList") (F1 : Fld Z h0 r "java/util/AbstractList" "modCount" "I" (.int mc)) (F2 : Fld Z h0 r "java/util/ArrayList" "elementData" "[Ljava/lang/Object;" (.ref arr)) (F3 : Fld Z h0 r "java/util/ArrayList" "size" "I" (.int (1 : Int32))) (V1 : Arv Z h0 arr kk (.object "java/lang/Object") (10 : Int32) [(.ref v0), .null, .null, .null, .null, .null, .null, .null, .null, .null] .null) (ov : Ovr Z kk "java/lang/Object") (g1 : n0 ≤ r) (g2 : n0 ≤ arr) (n1 : r ≠ arr) (E2 : Exa Z h0 el "java/lang/Integer") :
    MetFree l (⟨"java/util/ArrayList", "add", "(Ljava/lang/Object;)Z"⟩ : MethodName) (head1 (Jvm.Cond.code (⟨"java/util/ArrayList", "add", "(Ljava/lang/Object;)Z"⟩ : MethodName) jdk_38_method_25_code 2 (some .boolean) :: ws) ({ frames := 1, cells := 0, slots := 0, locals := 15 } : Room)) (fun aQ UQ => aQ = #[(.ref r), (.ref el)] ∧ Z.Warmed39 UQ.vm ∧ UQ.heap = h0) (fun _ _ _ _ _ => True) (fun _ UQ oQ U2 => ∃ vQ LQ, oQ = .returned vQ ∧ own_rm_add1_1_Q Z r el arr kk mc v0 h0 n0 vQ U2.heap LQ ∧ FrameEnd UQ oQ U2 LQ ({ frames := 1, cells := 0, slots := 0, locals := 15 } : Room).cells ({ frames := 1, cells := 0, slots := 0, locals := 15 } : Room).slots) := by
  refine MetFree.of_bodySF own_pn10 hisR ?_
  intro p e s m args below meth c s₁ Bd hml0 hP hK
  obtain ⟨rfl, hZ, hh⟩ := hP
  have hx := Bd.exec
  have hby := Bd.bytes
  have hml : c.maxLocals = 2 := hml0
  have hlk := BodyLoose.notSynchronized Bd
  have hown : s.vm.findClass "java/util/ArrayList" = some m.cls := findClass_of_methodNamed Bd.named
  have hnm := (name_of_methodNamed Bd.named Bd.method).1
  have X0 : Stand p l e ({ frames := 1, cells := 0, slots := 0, locals := 15 } : Room) s m #[(.ref r), (.ref el)] below meth c s₁ [] 0 0 := Stand.of_body Bd
  have e0 : s₁.heap = h0 := by rw [← hh, Bd.state]; rfl
  have N0 := Fr.nil n0
  have Kp0 : Keep h0 h0 [r, arr] := Keep.refl _ _
  show own_Go p e below s (own_rm_add1_1_Q Z r el arr kk mc v0 h0 n0) ({ frames := 1, cells := 0, slots := 0, locals := 15 } : Room).cells ({ frames := 1, cells := 0, slots := 0, locals := 15 } : Room).slots (s₁.setTop (entryFrame m #[(.ref r), (.ref el)] 2))
  rw [own_rm_add1_1_ef]
  show own_Go p e below s _ _ _ (s₁.setTop (mkF m 0 #[.val (.ref r), .val (.ref el)] []))
  refine own_st (fun _ kQ => XS.aloadN X0.here hx rfl (hb hby own_d_jdk_38_method_25_code_0) rfl rfl kQ) ?_
  show own_Go p e below s _ _ _ (s₁.setTop (mkF m 1 #[.val (.ref r), .val (.ref el)] [(.ref r)]))
  refine own_st (fun _ kQ => XS.dup X0.here hx rfl (hb hby own_d_jdk_38_method_25_code_1) rfl rfl kQ) ?_
  show own_Go p e below s _ _ _ (s₁.setTop (mkF m 2 #[.val (.ref r), .val (.ref el)] [(.ref r), (.ref r)]))
  obtain ⟨T231, X231, e231, st231⟩ := getF X0 hx hZ hown (host := "") (Or.inl (hw _ (List.mem_of_getElem? (i := 38) rfl))) (Via.of (hw _ (List.mem_of_getElem? (i := 39) rfl))) e0 F1 (g := (mkF m 2 #[.val (.ref r), .val (.ref el)] [(.ref r), (.ref r)])) rfl rfl (hb hby own_d_jdk_38_method_25_code_2)
  refine own_st st231 ?_
  show own_Go p e below s _ _ _ (T231.setTop (mkF m 5 #[.val (.ref r), .val (.ref el)] [(.int mc), (.ref r)]))
  refine own_st (fun _ kQ => XT.iconstV X231.here hx rfl (1 : Int32) (hb hby own_d_jdk_38_method_25_code_5) (by decide) kQ) ?_
  show own_Go p e below s _ _ _ (T231.setTop (mkF m 6 #[.val (.ref r), .val (.ref el)] [(.int (1 : Int32)), (.int mc), (.ref r)]))
  refine own_st (fun _ kQ => XS.iadd X231.here hx rfl (hb hby own_d_jdk_38_method_25_code_6) rfl kQ) ?_
  show own_Go p e below s _ _ _ (T231.setTop (mkF m 7 #[.val (.ref r), .val (.ref el)] [(.int (mc + (1 : Int32))), (.ref r)]))
  obtain ⟨T232, h232, X232, e232, W232, st232⟩ := putF X231 hx hZ hown (host := "") (Or.inl (hw _ (List.mem_of_getElem? (i := 38) rfl))) (Via.of (hw _ (List.mem_of_getElem? (i := 39) rfl))) e231 F1 E1 (Or.inl (hw _ (List.mem_of_getElem? (i := 22) rfl))) (hw _ (List.mem_of_getElem? (i := 1) rfl)) (ty := .int) (by decide) rfl rfl (g := (mkF m 7 #[.val (.ref r), .val (.ref el)] [(.int (mc + (1 : Int32))), (.ref r)])) rfl rfl (hb hby own_d_jdk_38_method_25_code_7)
  refine own_st st232 ?_
  have N233 := Fr.snoc X232 N0 g1
  have F234 : Fld Z h232 r "java/util/AbstractList" "modCount" "I" (.int (mc + (1 : Int32))) := F1.same W232
  have lt235 : r < h232.size := Nat.lt_of_lt_of_le F3.lt (Nat.le_of_eq W232.size.symm)
  have lt236 : arr < h232.size := Nat.lt_of_lt_of_le V1.lt (Nat.le_of_eq W232.size.symm)
  have lt237 : el < h232.size := Nat.lt_of_lt_of_le E2.lt (Nat.le_of_eq W232.size.symm)
  have Zs238 : n0 ≤ h232.size := Nat.le_trans Z0 (Nat.le_of_eq W232.size.symm)
  have Kp239 : Keep h0 h232 [r, arr] := Kp0.wr W232 (Or.inl (List.mem_of_getElem? (i := 0) rfl))
  show own_Go p e below s _ _ _ (T232.setTop (mkF m 10 #[.val (.ref r), .val (.ref el)] []))
  refine own_st (fun _ kQ => XS.aloadN X232.here hx rfl (hb hby own_d_jdk_38_method_25_code_10) rfl rfl kQ) ?_
  show own_Go p e below s _ _ _ (T232.setTop (mkF m 11 #[.val (.ref r), .val (.ref el)] [(.ref r)]))
  refine own_st (fun _ kQ => XS.aloadN X232.here hx rfl (hb hby own_d_jdk_38_method_25_code_11) rfl rfl kQ) ?_
  show own_Go p e below s _ _ _ (T232.setTop (mkF m 12 #[.val (.ref r), .val (.ref el)] [(.ref el), (.ref r)]))
  refine own_st (fun _ kQ => XS.aloadN X232.here hx rfl (hb hby own_d_jdk_38_method_25_code_12) rfl rfl kQ) ?_
  show own_Go p e below s _ _ _ (T232.setTop (mkF m 13 #[.val (.ref r), .val (.ref el)] [(.ref r), (.ref el), (.ref r)]))
  have F240 : Fld Z h232 r "java/util/ArrayList" "elementData" "[Ljava/lang/Object;" (.ref arr) := (F2.other W232 (Or.inr (slot_ne (Or.inl (hw _ (List.mem_of_getElem? (i := 25) rfl))) (Or.inl (hw _ (List.mem_of_getElem? (i := 22) rfl))) (by decide) (t := (.array (.object "java/lang/Object"))) (t' := .int) (by decide) (by decide))))
  obtain ⟨T241, X241, e241, st241⟩ := getF X232 hx hZ hown (host := "") (Or.inl (hw _ (List.mem_of_getElem? (i := 24) rfl))) Via.refl e232 F240 (g := (mkF m 13 #[.val (.ref r), .val (.ref el)] [(.ref r), (.ref el), (.ref r)])) rfl rfl (hb hby own_d_jdk_38_method_25_code_13)
  refine own_st st241 ?_
  show own_Go p e below s _ _ _ (T241.setTop (mkF m 16 #[.val (.ref r), .val (.ref el)] [(.ref arr), (.ref el), (.ref r)]))
  refine own_st (fun _ kQ => XS.aloadN X241.here hx rfl (hb hby own_d_jdk_38_method_25_code_16) rfl rfl kQ) ?_
  show own_Go p e below s _ _ _ (T241.setTop (mkF m 17 #[.val (.ref r), .val (.ref el)] [(.ref r), (.ref arr), (.ref el), (.ref r)]))
  have F242 : Fld Z h232 r "java/util/ArrayList" "size" "I" (.int (1 : Int32)) := (F3.other W232 (Or.inr (slot_ne (Or.inl (hw _ (List.mem_of_getElem? (i := 41) rfl))) (Or.inl (hw _ (List.mem_of_getElem? (i := 22) rfl))) (by decide) (t := .int) (t' := .int) (by decide) (by decide))))
  obtain ⟨T243, X243, e243, st243⟩ := getF X241 hx hZ hown (host := "") (Or.inl (hw _ (List.mem_of_getElem? (i := 40) rfl))) Via.refl e241 F242 (g := (mkF m 17 #[.val (.ref r), .val (.ref el)] [(.ref r), (.ref arr), (.ref el), (.ref r)])) rfl rfl (hb hby own_d_jdk_38_method_25_code_17)
  refine own_st st243 ?_
  show own_Go p e below s _ _ _ (T243.setTop (mkF m 20 #[.val (.ref r), .val (.ref el)] [(.int (1 : Int32)), (.ref arr), (.ref el), (.ref r)]))
  have F245 : Exa Z h232 r "java/util/ArrayList" := (E1.wr W232)
  have F246 : Arv Z h232 arr kk (.object "java/lang/Object") (10 : Int32) [(.ref v0), .null, .null, .null, .null, .null, .null, .null, .null, .null] .null := (V1.other W232 n1.symm)
  have F247 : Exa Z h232 el "java/lang/Integer" := (E2.wr W232)
  obtain ⟨cq244, q244, q244'⟩ := F245.cell
  obtain ⟨_, _, ⟨T244, L244, k244, n244⟩, -, X244, ⟨Lc244, hQ244, l244, y244, z244⟩, st244⟩ := X243.privateBack hx (y := (⟨"java/util/ArrayList", "add", "(Ljava/lang/Object;[Ljava/lang/Object;I)V"⟩ : MethodName)) hown (mvT hZ (hw _ (List.mem_of_getElem? (i := 42) rfl))) (mvT hZ (hw _ (List.mem_of_getElem? (i := 43) rfl))) (mvT hZ (hw _ (List.mem_of_getElem? (i := 45) rfl))) (Cond.privateMethod_at (mvP hZ (hw _ (List.mem_of_getElem? (i := 44) rfl)) (args := #[]))) (mvT hZ (hw _ (List.mem_of_getElem? (i := 46) rfl))) (by decide) (backOf (W := 0) (own_rm_add3_1 l Z a0 hw [] r el arr kk (mc + (1 : Int32)) v0 h232 n0 Zs238 F245 F234 F240 F242 F246 ov g1 g2 n1 F247) hZ (hw _ (List.mem_of_getElem? (i := 46) rfl)) (hw _ (List.mem_of_getElem? (i := 2) rfl)) (by decide) (by decide)) (g := (mkF m 20 #[.val (.ref r), .val (.ref el)] [(.int (1 : Int32)), (.ref arr), (.ref el), (.ref r)])) rfl (by rw [hml]; rfl) (Steps.refl _) (a := r) (own_hp e243 q244) q244' (argsL := [(.ref el), (.ref arr), (.int (1 : Int32))]) (rest := []) (lenOf own_pd5 rfl) rfl (by show 2 * 0 + _ ≤ _; exact Nat.le_of_eq rfl) (hb hby own_d_jdk_38_method_25_code_20) (fun _ _ => ⟨rfl, e243, (by decide : 0 + 0 ≤ _), (by decide : 0 + 0 ≤ _)⟩)
  dsimp only [Pt.U, Pt.locs, Pt.cells, Pt.slots] at X244 l244 y244 z244 st244 hQ244
  subst l244 y244 z244
  obtain ⟨N244q, rfl, K244, q248, q249, q250, q251, q252⟩ := hQ244
  have N253 := Fr.app N233 N244q
  refine own_tr st244 ?_
  have lt254 : r < T244.heap.size := Nat.lt_of_lt_of_le lt235 K244.1
  have lt255 : arr < T244.heap.size := Nat.lt_of_lt_of_le lt236 K244.1
  have lt256 : el < T244.heap.size := Nat.lt_of_lt_of_le lt237 K244.1
  have Zs257 : n0 ≤ T244.heap.size := Nat.le_trans Zs238 K244.1
  have Kp258 : Keep h0 T244.heap [r, arr] := Kp239.trans K244 (allS (Or.inl (List.mem_of_getElem? (i := 0) rfl)) (allS (Or.inl (List.mem_of_getElem? (i := 1) rfl)) all0))
  show own_Go p e below s _ _ _ (T244.setTop (mkF m 23 #[.val (.ref r), .val (.ref el)] []))
  refine own_st (fun _ kQ => XT.iconstV X244.here hx rfl (1 : Int32) (hb hby own_d_jdk_38_method_25_code_23) (by decide) kQ) ?_
  show own_Go p e below s _ _ _ (T244.setTop (mkF m 24 #[.val (.ref r), .val (.ref el)] [(.int (1 : Int32))]))
  refine own_retN X244 hx hlk Bd.returns (t := .boolean) (z' := (1 : Int32)) (by simp) (by decide) (hb hby own_d_jdk_38_method_25_code_24) (by decide) (by decide) ?_
  skip
  exact ⟨N253, rfl, Kp258, q248, q249, q250, q251, q252⟩
def own_rm_add3_2_Q (Z : State) (r : Addr) (el : Addr) (arr : Addr) (kk : ClassId) (mc : Int32) (v0 : Addr) (v1 : Addr) (h0 : Heap) (n0 : Nat) (v : Option Value) (h : Heap) (L : List Loc) : Prop := Fr n0 L ∧ v = none ∧ Keep h0 h [r, arr] ∧ Exa Z h r "java/util/ArrayList" ∧ Fld Z h r "java/util/AbstractList" "modCount" "I" (.int mc) ∧ Fld Z h r "java/util/ArrayList" "elementData" "[Ljava/lang/Object;" (.ref arr) ∧ Fld Z h r "java/util/ArrayList" "size" "I" (.int (3 : Int32)) ∧ Arv Z h arr kk (.object "java/lang/Object") (10 : Int32) [(.ref v0), (.ref v1), (.ref el), .null, .null, .null, .null, .null, .null, .null] .null
theorem own_rm_add3_2_ef (m : MethodId) (r : Addr) (el : Addr) (arr : Addr)  : entryFrame m #[(.ref r), (.ref el), (.ref arr), (.int (2 : Int32))] 4 = mkF m 0 #[.val (.ref r), .val (.ref el), .val (.ref arr), .val (.int (2 : Int32))] [] := by first | (simp [entryFrame, mkF, argsToLocals, Value.category]; done) | rfl
set_option maxRecDepth 65536 in
set_option maxHeartbeats 40000000 in
theorem own_rm_add3_2 (l : Launch) (Z : State) (a0 : Array Value) (hw : ∀ d ∈ tables_1, d.before a0 Z = true) (ws : List Jvm.Cond) (r : Addr) (el : Addr) (arr : Addr) (kk : ClassId) (mc : Int32) (v0 : Addr) (v1 : Addr) (h0 : Heap) (n0 : Nat) (Z0 : n0 ≤ h0.size) (E1 : Exa Z h0 r "java/util/ArrayList") (F1 : Fld Z h0 r "java/util/AbstractList" "modCount" "I" (.int mc)) (F2 : Fld Z h0 r "java/util/ArrayList" "elementData" "[Ljava/lang/Object;" (.ref arr)) (F3 : Fld Z h0 r "java/util/ArrayList" "size" "I" (.int (2 : Int32))) (V1 : Arv Z h0 arr kk (.object "java/lang/Object") (10 : Int32) [(.ref v0), (.ref v1), .null, .null, .null, .null, .null, .null, .null, .null] .null) (ov : Ovr Z kk "java/lang/Object") (g1 : n0 ≤ r) (g2 : n0 ≤ arr) (n1 : r ≠ arr) (E2 : Exa Z h0 el "java/lang/Integer") :
    MetFree l (⟨"java/util/ArrayList", "add", "(Ljava/lang/Object;[Ljava/lang/Object;I)V"⟩ : MethodName) (head1 (Jvm.Cond.code (⟨"java/util/ArrayList", "add", "(Ljava/lang/Object;[Ljava/lang/Object;I)V"⟩ : MethodName) jdk_38_method_24_code 4 none :: ws) ({ frames := 0, cells := 0, slots := 0, locals := 0 } : Room)) (fun aQ UQ => aQ = #[(.ref r), (.ref el), (.ref arr), (.int (2 : Int32))] ∧ Z.Warmed39 UQ.vm ∧ UQ.heap = h0) (fun _ _ _ _ _ => True) (fun _ UQ oQ U2 => ∃ vQ LQ, oQ = .returned vQ ∧ own_rm_add3_2_Q Z r el arr kk mc v0 v1 h0 n0 vQ U2.heap LQ ∧ FrameEnd UQ oQ U2 LQ ({ frames := 0, cells := 0, slots := 0, locals := 0 } : Room).cells ({ frames := 0, cells := 0, slots := 0, locals := 0 } : Room).slots) := by
  refine MetFree.of_bodySF own_pn9 hisR ?_
  intro p e s m args below meth c s₁ Bd hml0 hP hK
  obtain ⟨rfl, hZ, hh⟩ := hP
  have hx := Bd.exec
  have hby := Bd.bytes
  have hml : c.maxLocals = 4 := hml0
  have hlk := BodyLoose.notSynchronized Bd
  have hown : s.vm.findClass "java/util/ArrayList" = some m.cls := findClass_of_methodNamed Bd.named
  have hnm := (name_of_methodNamed Bd.named Bd.method).1
  have X0 : Stand p l e ({ frames := 0, cells := 0, slots := 0, locals := 0 } : Room) s m #[(.ref r), (.ref el), (.ref arr), (.int (2 : Int32))] below meth c s₁ [] 0 0 := Stand.of_body Bd
  have e0 : s₁.heap = h0 := by rw [← hh, Bd.state]; rfl
  have N0 := Fr.nil n0
  have Kp0 : Keep h0 h0 [r, arr] := Keep.refl _ _
  show own_Go p e below s (own_rm_add3_2_Q Z r el arr kk mc v0 v1 h0 n0) ({ frames := 0, cells := 0, slots := 0, locals := 0 } : Room).cells ({ frames := 0, cells := 0, slots := 0, locals := 0 } : Room).slots (s₁.setTop (entryFrame m #[(.ref r), (.ref el), (.ref arr), (.int (2 : Int32))] 4))
  rw [own_rm_add3_2_ef]
  show own_Go p e below s _ _ _ (s₁.setTop (mkF m 0 #[.val (.ref r), .val (.ref el), .val (.ref arr), .val (.int (2 : Int32))] []))
  refine own_st (fun _ kQ => XS.iloadN X0.here hx rfl (hb hby own_d_jdk_38_method_24_code_0) rfl kQ) ?_
  show own_Go p e below s _ _ _ (s₁.setTop (mkF m 1 #[.val (.ref r), .val (.ref el), .val (.ref arr), .val (.int (2 : Int32))] [(.int (2 : Int32))]))
  refine own_st (fun _ kQ => XS.aloadN X0.here hx rfl (hb hby own_d_jdk_38_method_24_code_1) rfl rfl kQ) ?_
  show own_Go p e below s _ _ _ (s₁.setTop (mkF m 2 #[.val (.ref r), .val (.ref el), .val (.ref arr), .val (.int (2 : Int32))] [(.ref arr), (.int (2 : Int32))]))
  obtain ⟨cl259, Ar259, -, S259, N259, -, -⟩ := id V1
  refine own_st (fun _ kQ => X0.arraylength hx (own_hp e0 Ar259.1) (State.isArrayOf_alike hZ.alike Ar259.2.1) (g := (mkF m 2 #[.val (.ref r), .val (.ref el), .val (.ref arr), .val (.int (2 : Int32))] [(.ref arr), (.int (2 : Int32))])) rfl rfl (hb hby own_d_jdk_38_method_24_code_2) _ kQ) ?_
  rw [len_of S259 N259]
  show own_Go p e below s _ _ _ (s₁.setTop (mkF m 3 #[.val (.ref r), .val (.ref el), .val (.ref arr), .val (.int (2 : Int32))] [(.int (10 : Int32)), (.int (2 : Int32))]))
  refine own_st (fun _ kQ => XS.icmpYes X0.here hx rfl (pc0 := 3) (pc' := 11) rfl (hb hby own_d_jdk_38_method_24_code_3) rfl (XT.ii_ne_t (by decide)) (by decide) (by decide) kQ) ?_
  show own_Go p e below s _ _ _ (s₁.setTop (mkF m 11 #[.val (.ref r), .val (.ref el), .val (.ref arr), .val (.int (2 : Int32))] []))
  refine own_st (fun _ kQ => XS.aloadN X0.here hx rfl (hb hby own_d_jdk_38_method_24_code_11) rfl rfl kQ) ?_
  show own_Go p e below s _ _ _ (s₁.setTop (mkF m 12 #[.val (.ref r), .val (.ref el), .val (.ref arr), .val (.int (2 : Int32))] [(.ref arr)]))
  refine own_st (fun _ kQ => XS.iloadN X0.here hx rfl (hb hby own_d_jdk_38_method_24_code_12) rfl kQ) ?_
  show own_Go p e below s _ _ _ (s₁.setTop (mkF m 13 #[.val (.ref r), .val (.ref el), .val (.ref arr), .val (.int (2 : Int32))] [(.int (2 : Int32)), (.ref arr)]))
  refine own_st (fun _ kQ => XS.aloadN X0.here hx rfl (hb hby own_d_jdk_38_method_24_code_13) rfl rfl kQ) ?_
  show own_Go p e below s _ _ _ (s₁.setTop (mkF m 14 #[.val (.ref r), .val (.ref el), .val (.ref arr), .val (.int (2 : Int32))] [(.ref el), (.int (2 : Int32)), (.ref arr)]))
  obtain ⟨cl260, Ar260, kc260, S260, Nn260, H260, G260⟩ := id V1
  have hin260 : ¬ ((2 : Int32) < 0 ∨ cl260.slots.size ≤ ((2 : Int32) : Int32).toNatClampNeg) := inb_of S260 (by decide)
  obtain ⟨T260, h260, X260, e260, W260, st260⟩ := stR X0 hx hZ e0 Ar260 (j := (2 : Int32)) hin260 rfl (Sto.ofV Ar260 kc260 ov (Ins.of_exa E2 (hw _ (List.mem_of_getElem? (i := 63) rfl)))) (g := (mkF m 14 #[.val (.ref r), .val (.ref el), .val (.ref arr), .val (.int (2 : Int32))] [(.ref el), (.int (2 : Int32)), (.ref arr)])) rfl rfl (hb hby own_d_jdk_38_method_24_code_14)
  refine own_st st260 ?_
  have N261 := Fr.snoc X260 N0 g2
  have F262 : Arv Z h260 arr kk (.object "java/lang/Object") (10 : Int32) [(.ref v0), (.ref v1), (.ref el), .null, .null, .null, .null, .null, .null, .null] .null := Arv.set Ar260 kc260 S260 Nn260 H260 G260 rfl W260 2 (by decide) (Nat.le_of_ble_eq_true rfl)
  have lt263 : r < h260.size := Nat.lt_of_lt_of_le F3.lt (Nat.le_of_eq W260.size.symm)
  have lt264 : arr < h260.size := Nat.lt_of_lt_of_le V1.lt (Nat.le_of_eq W260.size.symm)
  have lt265 : el < h260.size := Nat.lt_of_lt_of_le E2.lt (Nat.le_of_eq W260.size.symm)
  have Zs266 : n0 ≤ h260.size := Nat.le_trans Z0 (Nat.le_of_eq W260.size.symm)
  have Kp267 : Keep h0 h260 [r, arr] := Kp0.wr W260 (Or.inl (List.mem_of_getElem? (i := 1) rfl))
  show own_Go p e below s _ _ _ (T260.setTop (mkF m 15 #[.val (.ref r), .val (.ref el), .val (.ref arr), .val (.int (2 : Int32))] []))
  refine own_st (fun _ kQ => XS.aloadN X260.here hx rfl (hb hby own_d_jdk_38_method_24_code_15) rfl rfl kQ) ?_
  show own_Go p e below s _ _ _ (T260.setTop (mkF m 16 #[.val (.ref r), .val (.ref el), .val (.ref arr), .val (.int (2 : Int32))] [(.ref r)]))
  refine own_st (fun _ kQ => XS.iloadN X260.here hx rfl (hb hby own_d_jdk_38_method_24_code_16) rfl kQ) ?_
  show own_Go p e below s _ _ _ (T260.setTop (mkF m 17 #[.val (.ref r), .val (.ref el), .val (.ref arr), .val (.int (2 : Int32))] [(.int (2 : Int32)), (.ref r)]))
  refine own_st (fun _ kQ => XT.iconstV X260.here hx rfl (1 : Int32) (hb hby own_d_jdk_38_method_24_code_17) (by decide) kQ) ?_
  show own_Go p e below s _ _ _ (T260.setTop (mkF m 18 #[.val (.ref r), .val (.ref el), .val (.ref arr), .val (.int (2 : Int32))] [(.int (1 : Int32)), (.int (2 : Int32)), (.ref r)]))
  refine own_st (fun _ kQ => XS.iadd X260.here hx rfl (hb hby own_d_jdk_38_method_24_code_18) rfl kQ) ?_
  show own_Go p e below s _ _ _ (T260.setTop (mkF m 19 #[.val (.ref r), .val (.ref el), .val (.ref arr), .val (.int (2 : Int32))] [(.int (3 : Int32)), (.ref r)]))
  have F268 : Fld Z h260 r "java/util/ArrayList" "size" "I" (.int (2 : Int32)) := (F3.other W260 (Or.inl n1))
  have F269 : Exa Z h260 r "java/util/ArrayList" := (E1.wr W260)
  obtain ⟨T270, h270, X270, e270, W270, st270⟩ := putF X260 hx hZ hown (host := "") (Or.inl (hw _ (List.mem_of_getElem? (i := 40) rfl))) Via.refl e260 F268 F269 (Or.inl (hw _ (List.mem_of_getElem? (i := 41) rfl))) (hw _ (List.mem_of_getElem? (i := 1) rfl)) (ty := .int) (by decide) rfl rfl (g := (mkF m 19 #[.val (.ref r), .val (.ref el), .val (.ref arr), .val (.int (2 : Int32))] [(.int (3 : Int32)), (.ref r)])) rfl rfl (hb hby own_d_jdk_38_method_24_code_19)
  refine own_st st270 ?_
  have N271 := Fr.snoc X270 N261 g1
  have F272 : Fld Z h270 r "java/util/ArrayList" "size" "I" (.int (3 : Int32)) := F268.same W270
  have lt273 : r < h270.size := Nat.lt_of_lt_of_le lt263 (Nat.le_of_eq W270.size.symm)
  have lt274 : arr < h270.size := Nat.lt_of_lt_of_le lt264 (Nat.le_of_eq W270.size.symm)
  have lt275 : el < h270.size := Nat.lt_of_lt_of_le lt265 (Nat.le_of_eq W270.size.symm)
  have Zs276 : n0 ≤ h270.size := Nat.le_trans Zs266 (Nat.le_of_eq W270.size.symm)
  have Kp277 : Keep h0 h270 [r, arr] := Kp267.wr W270 (Or.inl (List.mem_of_getElem? (i := 0) rfl))
  show own_Go p e below s _ _ _ (T270.setTop (mkF m 22 #[.val (.ref r), .val (.ref el), .val (.ref arr), .val (.int (2 : Int32))] []))
  have F278 : Exa Z h270 r "java/util/ArrayList" := (F269.wr W270)
  have F279 : Fld Z h270 r "java/util/AbstractList" "modCount" "I" (.int mc) := ((F1.other W260 (Or.inl n1)).other W270 (Or.inr (slot_ne (Or.inl (hw _ (List.mem_of_getElem? (i := 22) rfl))) (Or.inl (hw _ (List.mem_of_getElem? (i := 41) rfl))) (by decide) (t := .int) (t' := .int) (by decide) (by decide))))
  have F280 : Fld Z h270 r "java/util/ArrayList" "elementData" "[Ljava/lang/Object;" (.ref arr) := ((F2.other W260 (Or.inl n1)).other W270 (Or.inr (slot_ne (Or.inl (hw _ (List.mem_of_getElem? (i := 25) rfl))) (Or.inl (hw _ (List.mem_of_getElem? (i := 41) rfl))) (by decide) (t := (.array (.object "java/lang/Object"))) (t' := .int) (by decide) (by decide))))
  have F281 : Arv Z h270 arr kk (.object "java/lang/Object") (10 : Int32) [(.ref v0), (.ref v1), (.ref el), .null, .null, .null, .null, .null, .null, .null] .null := (F262.other W270 n1.symm)
  refine own_ret0 X270 hx hlk Bd.returns (hb hby own_d_jdk_38_method_24_code_22) (by decide) (by decide) ?_
  rw [e270]
  exact ⟨N271, rfl, Kp277, F278, F279, F280, F272, F281⟩
def own_rm_add1_2_Q (Z : State) (r : Addr) (el : Addr) (arr : Addr) (kk : ClassId) (mc : Int32) (v0 : Addr) (v1 : Addr) (h0 : Heap) (n0 : Nat) (v : Option Value) (h : Heap) (L : List Loc) : Prop := Fr n0 L ∧ v = some (.int (1 : Int32)) ∧ Keep h0 h [r, arr] ∧ Exa Z h r "java/util/ArrayList" ∧ Fld Z h r "java/util/AbstractList" "modCount" "I" (.int (mc + (1 : Int32))) ∧ Fld Z h r "java/util/ArrayList" "elementData" "[Ljava/lang/Object;" (.ref arr) ∧ Fld Z h r "java/util/ArrayList" "size" "I" (.int (3 : Int32)) ∧ Arv Z h arr kk (.object "java/lang/Object") (10 : Int32) [(.ref v0), (.ref v1), (.ref el), .null, .null, .null, .null, .null, .null, .null] .null
theorem own_rm_add1_2_ef (m : MethodId) (r : Addr) (el : Addr)  : entryFrame m #[(.ref r), (.ref el)] 2 = mkF m 0 #[.val (.ref r), .val (.ref el)] [] := by first | (simp [entryFrame, mkF, argsToLocals, Value.category]; done) | rfl
set_option maxRecDepth 65536 in
set_option maxHeartbeats 40000000 in
theorem own_rm_add1_2 (l : Launch) (Z : State) (a0 : Array Value) (hw : ∀ d ∈ tables_1, d.before a0 Z = true) (ws : List Jvm.Cond) (r : Addr) (el : Addr) (arr : Addr) (kk : ClassId) (mc : Int32) (v0 : Addr) (v1 : Addr) (h0 : Heap) (n0 : Nat) (Z0 : n0 ≤ h0.size) (E1 : Exa Z h0 r "java/util/ArrayList") (F1 : Fld Z h0 r "java/util/AbstractList" "modCount" "I" (.int mc)) (F2 : Fld Z h0 r "java/util/ArrayList" "elementData" "[Ljava/lang/Object;" (.ref arr)) (F3 : Fld Z h0 r "java/util/ArrayList" "size" "I" (.int (2 : Int32))) (V1 : Arv Z h0 arr kk (.object "java/lang/Object") (10 : Int32) [(.ref v0), (.ref v1), .null, .null, .null, .null, .null, .null, .null, .null] .null) (ov : Ovr Z kk "java/lang/Object") (g1 : n0 ≤ r) (g2 : n0 ≤ arr) (n1 : r ≠ arr) (E2 : Exa Z h0 el "java/lang/Integer") :
    MetFree l (⟨"java/util/ArrayList", "add", "(Ljava/lang/Object;)Z"⟩ : MethodName) (head1 (Jvm.Cond.code (⟨"java/util/ArrayList", "add", "(Ljava/lang/Object;)Z"⟩ : MethodName) jdk_38_method_25_code 2 (some .boolean) :: ws) ({ frames := 1, cells := 0, slots := 0, locals := 15 } : Room)) (fun aQ UQ => aQ = #[(.ref r), (.ref el)] ∧ Z.Warmed39 UQ.vm ∧ UQ.heap = h0) (fun _ _ _ _ _ => True) (fun _ UQ oQ U2 => ∃ vQ LQ, oQ = .returned vQ ∧ own_rm_add1_2_Q Z r el arr kk mc v0 v1 h0 n0 vQ U2.heap LQ ∧ FrameEnd UQ oQ U2 LQ ({ frames := 1, cells := 0, slots := 0, locals := 15 } : Room).cells ({ frames := 1, cells := 0, slots := 0, locals := 15 } : Room).slots) := by
  refine MetFree.of_bodySF own_pn10 hisR ?_
  intro p e s m args below meth c s₁ Bd hml0 hP hK
  obtain ⟨rfl, hZ, hh⟩ := hP
  have hx := Bd.exec
  have hby := Bd.bytes
  have hml : c.maxLocals = 2 := hml0
  have hlk := BodyLoose.notSynchronized Bd
  have hown : s.vm.findClass "java/util/ArrayList" = some m.cls := findClass_of_methodNamed Bd.named
  have hnm := (name_of_methodNamed Bd.named Bd.method).1
  have X0 : Stand p l e ({ frames := 1, cells := 0, slots := 0, locals := 15 } : Room) s m #[(.ref r), (.ref el)] below meth c s₁ [] 0 0 := Stand.of_body Bd
  have e0 : s₁.heap = h0 := by rw [← hh, Bd.state]; rfl
  have N0 := Fr.nil n0
  have Kp0 : Keep h0 h0 [r, arr] := Keep.refl _ _
  show own_Go p e below s (own_rm_add1_2_Q Z r el arr kk mc v0 v1 h0 n0) ({ frames := 1, cells := 0, slots := 0, locals := 15 } : Room).cells ({ frames := 1, cells := 0, slots := 0, locals := 15 } : Room).slots (s₁.setTop (entryFrame m #[(.ref r), (.ref el)] 2))
  rw [own_rm_add1_2_ef]
  show own_Go p e below s _ _ _ (s₁.setTop (mkF m 0 #[.val (.ref r), .val (.ref el)] []))
  refine own_st (fun _ kQ => XS.aloadN X0.here hx rfl (hb hby own_d_jdk_38_method_25_code_0) rfl rfl kQ) ?_
  show own_Go p e below s _ _ _ (s₁.setTop (mkF m 1 #[.val (.ref r), .val (.ref el)] [(.ref r)]))
  refine own_st (fun _ kQ => XS.dup X0.here hx rfl (hb hby own_d_jdk_38_method_25_code_1) rfl rfl kQ) ?_
  show own_Go p e below s _ _ _ (s₁.setTop (mkF m 2 #[.val (.ref r), .val (.ref el)] [(.ref r), (.ref r)]))
  obtain ⟨T282, X282, e282, st282⟩ := getF X0 hx hZ hown (host := "") (Or.inl (hw _ (List.mem_of_getElem? (i := 38) rfl))) (Via.of (hw _ (List.mem_of_getElem? (i := 39) rfl))) e0 F1 (g := (mkF m 2 #[.val (.ref r), .val (.ref el)] [(.ref r), (.ref r)])) rfl rfl (hb hby own_d_jdk_38_method_25_code_2)
  refine own_st st282 ?_
  show own_Go p e below s _ _ _ (T282.setTop (mkF m 5 #[.val (.ref r), .val (.ref el)] [(.int mc), (.ref r)]))
  refine own_st (fun _ kQ => XT.iconstV X282.here hx rfl (1 : Int32) (hb hby own_d_jdk_38_method_25_code_5) (by decide) kQ) ?_
  show own_Go p e below s _ _ _ (T282.setTop (mkF m 6 #[.val (.ref r), .val (.ref el)] [(.int (1 : Int32)), (.int mc), (.ref r)]))
  refine own_st (fun _ kQ => XS.iadd X282.here hx rfl (hb hby own_d_jdk_38_method_25_code_6) rfl kQ) ?_
  show own_Go p e below s _ _ _ (T282.setTop (mkF m 7 #[.val (.ref r), .val (.ref el)] [(.int (mc + (1 : Int32))), (.ref r)]))
  obtain ⟨T283, h283, X283, e283, W283, st283⟩ := putF X282 hx hZ hown (host := "") (Or.inl (hw _ (List.mem_of_getElem? (i := 38) rfl))) (Via.of (hw _ (List.mem_of_getElem? (i := 39) rfl))) e282 F1 E1 (Or.inl (hw _ (List.mem_of_getElem? (i := 22) rfl))) (hw _ (List.mem_of_getElem? (i := 1) rfl)) (ty := .int) (by decide) rfl rfl (g := (mkF m 7 #[.val (.ref r), .val (.ref el)] [(.int (mc + (1 : Int32))), (.ref r)])) rfl rfl (hb hby own_d_jdk_38_method_25_code_7)
  refine own_st st283 ?_
  have N284 := Fr.snoc X283 N0 g1
  have F285 : Fld Z h283 r "java/util/AbstractList" "modCount" "I" (.int (mc + (1 : Int32))) := F1.same W283
  have lt286 : r < h283.size := Nat.lt_of_lt_of_le F3.lt (Nat.le_of_eq W283.size.symm)
  have lt287 : arr < h283.size := Nat.lt_of_lt_of_le V1.lt (Nat.le_of_eq W283.size.symm)
  have lt288 : el < h283.size := Nat.lt_of_lt_of_le E2.lt (Nat.le_of_eq W283.size.symm)
  have Zs289 : n0 ≤ h283.size := Nat.le_trans Z0 (Nat.le_of_eq W283.size.symm)
  have Kp290 : Keep h0 h283 [r, arr] := Kp0.wr W283 (Or.inl (List.mem_of_getElem? (i := 0) rfl))
  show own_Go p e below s _ _ _ (T283.setTop (mkF m 10 #[.val (.ref r), .val (.ref el)] []))
  refine own_st (fun _ kQ => XS.aloadN X283.here hx rfl (hb hby own_d_jdk_38_method_25_code_10) rfl rfl kQ) ?_
  show own_Go p e below s _ _ _ (T283.setTop (mkF m 11 #[.val (.ref r), .val (.ref el)] [(.ref r)]))
  refine own_st (fun _ kQ => XS.aloadN X283.here hx rfl (hb hby own_d_jdk_38_method_25_code_11) rfl rfl kQ) ?_
  show own_Go p e below s _ _ _ (T283.setTop (mkF m 12 #[.val (.ref r), .val (.ref el)] [(.ref el), (.ref r)]))
  refine own_st (fun _ kQ => XS.aloadN X283.here hx rfl (hb hby own_d_jdk_38_method_25_code_12) rfl rfl kQ) ?_
  show own_Go p e below s _ _ _ (T283.setTop (mkF m 13 #[.val (.ref r), .val (.ref el)] [(.ref r), (.ref el), (.ref r)]))
  have F291 : Fld Z h283 r "java/util/ArrayList" "elementData" "[Ljava/lang/Object;" (.ref arr) := (F2.other W283 (Or.inr (slot_ne (Or.inl (hw _ (List.mem_of_getElem? (i := 25) rfl))) (Or.inl (hw _ (List.mem_of_getElem? (i := 22) rfl))) (by decide) (t := (.array (.object "java/lang/Object"))) (t' := .int) (by decide) (by decide))))
  obtain ⟨T292, X292, e292, st292⟩ := getF X283 hx hZ hown (host := "") (Or.inl (hw _ (List.mem_of_getElem? (i := 24) rfl))) Via.refl e283 F291 (g := (mkF m 13 #[.val (.ref r), .val (.ref el)] [(.ref r), (.ref el), (.ref r)])) rfl rfl (hb hby own_d_jdk_38_method_25_code_13)
  refine own_st st292 ?_
  show own_Go p e below s _ _ _ (T292.setTop (mkF m 16 #[.val (.ref r), .val (.ref el)] [(.ref arr), (.ref el), (.ref r)]))
  refine own_st (fun _ kQ => XS.aloadN X292.here hx rfl (hb hby own_d_jdk_38_method_25_code_16) rfl rfl kQ) ?_
  show own_Go p e below s _ _ _ (T292.setTop (mkF m 17 #[.val (.ref r), .val (.ref el)] [(.ref r), (.ref arr), (.ref el), (.ref r)]))
  have F293 : Fld Z h283 r "java/util/ArrayList" "size" "I" (.int (2 : Int32)) := (F3.other W283 (Or.inr (slot_ne (Or.inl (hw _ (List.mem_of_getElem? (i := 41) rfl))) (Or.inl (hw _ (List.mem_of_getElem? (i := 22) rfl))) (by decide) (t := .int) (t' := .int) (by decide) (by decide))))
  obtain ⟨T294, X294, e294, st294⟩ := getF X292 hx hZ hown (host := "") (Or.inl (hw _ (List.mem_of_getElem? (i := 40) rfl))) Via.refl e292 F293 (g := (mkF m 17 #[.val (.ref r), .val (.ref el)] [(.ref r), (.ref arr), (.ref el), (.ref r)])) rfl rfl (hb hby own_d_jdk_38_method_25_code_17)
  refine own_st st294 ?_
  show own_Go p e below s _ _ _ (T294.setTop (mkF m 20 #[.val (.ref r), .val (.ref el)] [(.int (2 : Int32)), (.ref arr), (.ref el), (.ref r)]))
  have F296 : Exa Z h283 r "java/util/ArrayList" := (E1.wr W283)
  have F297 : Arv Z h283 arr kk (.object "java/lang/Object") (10 : Int32) [(.ref v0), (.ref v1), .null, .null, .null, .null, .null, .null, .null, .null] .null := (V1.other W283 n1.symm)
  have F298 : Exa Z h283 el "java/lang/Integer" := (E2.wr W283)
  obtain ⟨cq295, q295, q295'⟩ := F296.cell
  obtain ⟨_, _, ⟨T295, L295, k295, n295⟩, -, X295, ⟨Lc295, hQ295, l295, y295, z295⟩, st295⟩ := X294.privateBack hx (y := (⟨"java/util/ArrayList", "add", "(Ljava/lang/Object;[Ljava/lang/Object;I)V"⟩ : MethodName)) hown (mvT hZ (hw _ (List.mem_of_getElem? (i := 42) rfl))) (mvT hZ (hw _ (List.mem_of_getElem? (i := 43) rfl))) (mvT hZ (hw _ (List.mem_of_getElem? (i := 45) rfl))) (Cond.privateMethod_at (mvP hZ (hw _ (List.mem_of_getElem? (i := 44) rfl)) (args := #[]))) (mvT hZ (hw _ (List.mem_of_getElem? (i := 46) rfl))) (by decide) (backOf (W := 0) (own_rm_add3_2 l Z a0 hw [] r el arr kk (mc + (1 : Int32)) v0 v1 h283 n0 Zs289 F296 F285 F291 F293 F297 ov g1 g2 n1 F298) hZ (hw _ (List.mem_of_getElem? (i := 46) rfl)) (hw _ (List.mem_of_getElem? (i := 2) rfl)) (by decide) (by decide)) (g := (mkF m 20 #[.val (.ref r), .val (.ref el)] [(.int (2 : Int32)), (.ref arr), (.ref el), (.ref r)])) rfl (by rw [hml]; rfl) (Steps.refl _) (a := r) (own_hp e294 q295) q295' (argsL := [(.ref el), (.ref arr), (.int (2 : Int32))]) (rest := []) (lenOf own_pd5 rfl) rfl (by show 2 * 0 + _ ≤ _; exact Nat.le_of_eq rfl) (hb hby own_d_jdk_38_method_25_code_20) (fun _ _ => ⟨rfl, e294, (by decide : 0 + 0 ≤ _), (by decide : 0 + 0 ≤ _)⟩)
  dsimp only [Pt.U, Pt.locs, Pt.cells, Pt.slots] at X295 l295 y295 z295 st295 hQ295
  subst l295 y295 z295
  obtain ⟨N295q, rfl, K295, q299, q300, q301, q302, q303⟩ := hQ295
  have N304 := Fr.app N284 N295q
  refine own_tr st295 ?_
  have lt305 : r < T295.heap.size := Nat.lt_of_lt_of_le lt286 K295.1
  have lt306 : arr < T295.heap.size := Nat.lt_of_lt_of_le lt287 K295.1
  have lt307 : el < T295.heap.size := Nat.lt_of_lt_of_le lt288 K295.1
  have Zs308 : n0 ≤ T295.heap.size := Nat.le_trans Zs289 K295.1
  have Kp309 : Keep h0 T295.heap [r, arr] := Kp290.trans K295 (allS (Or.inl (List.mem_of_getElem? (i := 0) rfl)) (allS (Or.inl (List.mem_of_getElem? (i := 1) rfl)) all0))
  show own_Go p e below s _ _ _ (T295.setTop (mkF m 23 #[.val (.ref r), .val (.ref el)] []))
  refine own_st (fun _ kQ => XT.iconstV X295.here hx rfl (1 : Int32) (hb hby own_d_jdk_38_method_25_code_23) (by decide) kQ) ?_
  show own_Go p e below s _ _ _ (T295.setTop (mkF m 24 #[.val (.ref r), .val (.ref el)] [(.int (1 : Int32))]))
  refine own_retN X295 hx hlk Bd.returns (t := .boolean) (z' := (1 : Int32)) (by simp) (by decide) (hb hby own_d_jdk_38_method_25_code_24) (by decide) (by decide) ?_
  skip
  exact ⟨N304, rfl, Kp309, q299, q300, q301, q302, q303⟩
def own_rm_add3_3_Q (Z : State) (r : Addr) (el : Addr) (arr : Addr) (kk : ClassId) (mc : Int32) (v0 : Addr) (v1 : Addr) (v2 : Addr) (h0 : Heap) (n0 : Nat) (v : Option Value) (h : Heap) (L : List Loc) : Prop := Fr n0 L ∧ v = none ∧ Keep h0 h [r, arr] ∧ Exa Z h r "java/util/ArrayList" ∧ Fld Z h r "java/util/AbstractList" "modCount" "I" (.int mc) ∧ Fld Z h r "java/util/ArrayList" "elementData" "[Ljava/lang/Object;" (.ref arr) ∧ Fld Z h r "java/util/ArrayList" "size" "I" (.int (4 : Int32)) ∧ Arv Z h arr kk (.object "java/lang/Object") (10 : Int32) [(.ref v0), (.ref v1), (.ref v2), (.ref el), .null, .null, .null, .null, .null, .null] .null
theorem own_rm_add3_3_ef (m : MethodId) (r : Addr) (el : Addr) (arr : Addr)  : entryFrame m #[(.ref r), (.ref el), (.ref arr), (.int (3 : Int32))] 4 = mkF m 0 #[.val (.ref r), .val (.ref el), .val (.ref arr), .val (.int (3 : Int32))] [] := by first | (simp [entryFrame, mkF, argsToLocals, Value.category]; done) | rfl
set_option maxRecDepth 65536 in
set_option maxHeartbeats 40000000 in
theorem own_rm_add3_3 (l : Launch) (Z : State) (a0 : Array Value) (hw : ∀ d ∈ tables_1, d.before a0 Z = true) (ws : List Jvm.Cond) (r : Addr) (el : Addr) (arr : Addr) (kk : ClassId) (mc : Int32) (v0 : Addr) (v1 : Addr) (v2 : Addr) (h0 : Heap) (n0 : Nat) (Z0 : n0 ≤ h0.size) (E1 : Exa Z h0 r "java/util/ArrayList") (F1 : Fld Z h0 r "java/util/AbstractList" "modCount" "I" (.int mc)) (F2 : Fld Z h0 r "java/util/ArrayList" "elementData" "[Ljava/lang/Object;" (.ref arr)) (F3 : Fld Z h0 r "java/util/ArrayList" "size" "I" (.int (3 : Int32))) (V1 : Arv Z h0 arr kk (.object "java/lang/Object") (10 : Int32) [(.ref v0), (.ref v1), (.ref v2), .null, .null, .null, .null, .null, .null, .null] .null) (ov : Ovr Z kk "java/lang/Object") (g1 : n0 ≤ r) (g2 : n0 ≤ arr) (n1 : r ≠ arr) (E2 : Exa Z h0 el "java/lang/Integer") :
    MetFree l (⟨"java/util/ArrayList", "add", "(Ljava/lang/Object;[Ljava/lang/Object;I)V"⟩ : MethodName) (head1 (Jvm.Cond.code (⟨"java/util/ArrayList", "add", "(Ljava/lang/Object;[Ljava/lang/Object;I)V"⟩ : MethodName) jdk_38_method_24_code 4 none :: ws) ({ frames := 0, cells := 0, slots := 0, locals := 0 } : Room)) (fun aQ UQ => aQ = #[(.ref r), (.ref el), (.ref arr), (.int (3 : Int32))] ∧ Z.Warmed39 UQ.vm ∧ UQ.heap = h0) (fun _ _ _ _ _ => True) (fun _ UQ oQ U2 => ∃ vQ LQ, oQ = .returned vQ ∧ own_rm_add3_3_Q Z r el arr kk mc v0 v1 v2 h0 n0 vQ U2.heap LQ ∧ FrameEnd UQ oQ U2 LQ ({ frames := 0, cells := 0, slots := 0, locals := 0 } : Room).cells ({ frames := 0, cells := 0, slots := 0, locals := 0 } : Room).slots) := by
  refine MetFree.of_bodySF own_pn9 hisR ?_
  intro p e s m args below meth c s₁ Bd hml0 hP hK
  obtain ⟨rfl, hZ, hh⟩ := hP
  have hx := Bd.exec
  have hby := Bd.bytes
  have hml : c.maxLocals = 4 := hml0
  have hlk := BodyLoose.notSynchronized Bd
  have hown : s.vm.findClass "java/util/ArrayList" = some m.cls := findClass_of_methodNamed Bd.named
  have hnm := (name_of_methodNamed Bd.named Bd.method).1
  have X0 : Stand p l e ({ frames := 0, cells := 0, slots := 0, locals := 0 } : Room) s m #[(.ref r), (.ref el), (.ref arr), (.int (3 : Int32))] below meth c s₁ [] 0 0 := Stand.of_body Bd
  have e0 : s₁.heap = h0 := by rw [← hh, Bd.state]; rfl
  have N0 := Fr.nil n0
  have Kp0 : Keep h0 h0 [r, arr] := Keep.refl _ _
  show own_Go p e below s (own_rm_add3_3_Q Z r el arr kk mc v0 v1 v2 h0 n0) ({ frames := 0, cells := 0, slots := 0, locals := 0 } : Room).cells ({ frames := 0, cells := 0, slots := 0, locals := 0 } : Room).slots (s₁.setTop (entryFrame m #[(.ref r), (.ref el), (.ref arr), (.int (3 : Int32))] 4))
  rw [own_rm_add3_3_ef]
  show own_Go p e below s _ _ _ (s₁.setTop (mkF m 0 #[.val (.ref r), .val (.ref el), .val (.ref arr), .val (.int (3 : Int32))] []))
  refine own_st (fun _ kQ => XS.iloadN X0.here hx rfl (hb hby own_d_jdk_38_method_24_code_0) rfl kQ) ?_
  show own_Go p e below s _ _ _ (s₁.setTop (mkF m 1 #[.val (.ref r), .val (.ref el), .val (.ref arr), .val (.int (3 : Int32))] [(.int (3 : Int32))]))
  refine own_st (fun _ kQ => XS.aloadN X0.here hx rfl (hb hby own_d_jdk_38_method_24_code_1) rfl rfl kQ) ?_
  show own_Go p e below s _ _ _ (s₁.setTop (mkF m 2 #[.val (.ref r), .val (.ref el), .val (.ref arr), .val (.int (3 : Int32))] [(.ref arr), (.int (3 : Int32))]))
  obtain ⟨cl310, Ar310, -, S310, N310, -, -⟩ := id V1
  refine own_st (fun _ kQ => X0.arraylength hx (own_hp e0 Ar310.1) (State.isArrayOf_alike hZ.alike Ar310.2.1) (g := (mkF m 2 #[.val (.ref r), .val (.ref el), .val (.ref arr), .val (.int (3 : Int32))] [(.ref arr), (.int (3 : Int32))])) rfl rfl (hb hby own_d_jdk_38_method_24_code_2) _ kQ) ?_
  rw [len_of S310 N310]
  show own_Go p e below s _ _ _ (s₁.setTop (mkF m 3 #[.val (.ref r), .val (.ref el), .val (.ref arr), .val (.int (3 : Int32))] [(.int (10 : Int32)), (.int (3 : Int32))]))
  refine own_st (fun _ kQ => XS.icmpYes X0.here hx rfl (pc0 := 3) (pc' := 11) rfl (hb hby own_d_jdk_38_method_24_code_3) rfl (XT.ii_ne_t (by decide)) (by decide) (by decide) kQ) ?_
  show own_Go p e below s _ _ _ (s₁.setTop (mkF m 11 #[.val (.ref r), .val (.ref el), .val (.ref arr), .val (.int (3 : Int32))] []))
  refine own_st (fun _ kQ => XS.aloadN X0.here hx rfl (hb hby own_d_jdk_38_method_24_code_11) rfl rfl kQ) ?_
  show own_Go p e below s _ _ _ (s₁.setTop (mkF m 12 #[.val (.ref r), .val (.ref el), .val (.ref arr), .val (.int (3 : Int32))] [(.ref arr)]))
  refine own_st (fun _ kQ => XS.iloadN X0.here hx rfl (hb hby own_d_jdk_38_method_24_code_12) rfl kQ) ?_
  show own_Go p e below s _ _ _ (s₁.setTop (mkF m 13 #[.val (.ref r), .val (.ref el), .val (.ref arr), .val (.int (3 : Int32))] [(.int (3 : Int32)), (.ref arr)]))
  refine own_st (fun _ kQ => XS.aloadN X0.here hx rfl (hb hby own_d_jdk_38_method_24_code_13) rfl rfl kQ) ?_
  show own_Go p e below s _ _ _ (s₁.setTop (mkF m 14 #[.val (.ref r), .val (.ref el), .val (.ref arr), .val (.int (3 : Int32))] [(.ref el), (.int (3 : Int32)), (.ref arr)]))
  obtain ⟨cl311, Ar311, kc311, S311, Nn311, H311, G311⟩ := id V1
  have hin311 : ¬ ((3 : Int32) < 0 ∨ cl311.slots.size ≤ ((3 : Int32) : Int32).toNatClampNeg) := inb_of S311 (by decide)
  obtain ⟨T311, h311, X311, e311, W311, st311⟩ := stR X0 hx hZ e0 Ar311 (j := (3 : Int32)) hin311 rfl (Sto.ofV Ar311 kc311 ov (Ins.of_exa E2 (hw _ (List.mem_of_getElem? (i := 63) rfl)))) (g := (mkF m 14 #[.val (.ref r), .val (.ref el), .val (.ref arr), .val (.int (3 : Int32))] [(.ref el), (.int (3 : Int32)), (.ref arr)])) rfl rfl (hb hby own_d_jdk_38_method_24_code_14)
  refine own_st st311 ?_
  have N312 := Fr.snoc X311 N0 g2
  have F313 : Arv Z h311 arr kk (.object "java/lang/Object") (10 : Int32) [(.ref v0), (.ref v1), (.ref v2), (.ref el), .null, .null, .null, .null, .null, .null] .null := Arv.set Ar311 kc311 S311 Nn311 H311 G311 rfl W311 3 (by decide) (Nat.le_of_ble_eq_true rfl)
  have lt314 : r < h311.size := Nat.lt_of_lt_of_le F3.lt (Nat.le_of_eq W311.size.symm)
  have lt315 : arr < h311.size := Nat.lt_of_lt_of_le V1.lt (Nat.le_of_eq W311.size.symm)
  have lt316 : el < h311.size := Nat.lt_of_lt_of_le E2.lt (Nat.le_of_eq W311.size.symm)
  have Zs317 : n0 ≤ h311.size := Nat.le_trans Z0 (Nat.le_of_eq W311.size.symm)
  have Kp318 : Keep h0 h311 [r, arr] := Kp0.wr W311 (Or.inl (List.mem_of_getElem? (i := 1) rfl))
  show own_Go p e below s _ _ _ (T311.setTop (mkF m 15 #[.val (.ref r), .val (.ref el), .val (.ref arr), .val (.int (3 : Int32))] []))
  refine own_st (fun _ kQ => XS.aloadN X311.here hx rfl (hb hby own_d_jdk_38_method_24_code_15) rfl rfl kQ) ?_
  show own_Go p e below s _ _ _ (T311.setTop (mkF m 16 #[.val (.ref r), .val (.ref el), .val (.ref arr), .val (.int (3 : Int32))] [(.ref r)]))
  refine own_st (fun _ kQ => XS.iloadN X311.here hx rfl (hb hby own_d_jdk_38_method_24_code_16) rfl kQ) ?_
  show own_Go p e below s _ _ _ (T311.setTop (mkF m 17 #[.val (.ref r), .val (.ref el), .val (.ref arr), .val (.int (3 : Int32))] [(.int (3 : Int32)), (.ref r)]))
  refine own_st (fun _ kQ => XT.iconstV X311.here hx rfl (1 : Int32) (hb hby own_d_jdk_38_method_24_code_17) (by decide) kQ) ?_
  show own_Go p e below s _ _ _ (T311.setTop (mkF m 18 #[.val (.ref r), .val (.ref el), .val (.ref arr), .val (.int (3 : Int32))] [(.int (1 : Int32)), (.int (3 : Int32)), (.ref r)]))
  refine own_st (fun _ kQ => XS.iadd X311.here hx rfl (hb hby own_d_jdk_38_method_24_code_18) rfl kQ) ?_
  show own_Go p e below s _ _ _ (T311.setTop (mkF m 19 #[.val (.ref r), .val (.ref el), .val (.ref arr), .val (.int (3 : Int32))] [(.int (4 : Int32)), (.ref r)]))
  have F319 : Fld Z h311 r "java/util/ArrayList" "size" "I" (.int (3 : Int32)) := (F3.other W311 (Or.inl n1))
  have F320 : Exa Z h311 r "java/util/ArrayList" := (E1.wr W311)
  obtain ⟨T321, h321, X321, e321, W321, st321⟩ := putF X311 hx hZ hown (host := "") (Or.inl (hw _ (List.mem_of_getElem? (i := 40) rfl))) Via.refl e311 F319 F320 (Or.inl (hw _ (List.mem_of_getElem? (i := 41) rfl))) (hw _ (List.mem_of_getElem? (i := 1) rfl)) (ty := .int) (by decide) rfl rfl (g := (mkF m 19 #[.val (.ref r), .val (.ref el), .val (.ref arr), .val (.int (3 : Int32))] [(.int (4 : Int32)), (.ref r)])) rfl rfl (hb hby own_d_jdk_38_method_24_code_19)
  refine own_st st321 ?_
  have N322 := Fr.snoc X321 N312 g1
  have F323 : Fld Z h321 r "java/util/ArrayList" "size" "I" (.int (4 : Int32)) := F319.same W321
  have lt324 : r < h321.size := Nat.lt_of_lt_of_le lt314 (Nat.le_of_eq W321.size.symm)
  have lt325 : arr < h321.size := Nat.lt_of_lt_of_le lt315 (Nat.le_of_eq W321.size.symm)
  have lt326 : el < h321.size := Nat.lt_of_lt_of_le lt316 (Nat.le_of_eq W321.size.symm)
  have Zs327 : n0 ≤ h321.size := Nat.le_trans Zs317 (Nat.le_of_eq W321.size.symm)
  have Kp328 : Keep h0 h321 [r, arr] := Kp318.wr W321 (Or.inl (List.mem_of_getElem? (i := 0) rfl))
  show own_Go p e below s _ _ _ (T321.setTop (mkF m 22 #[.val (.ref r), .val (.ref el), .val (.ref arr), .val (.int (3 : Int32))] []))
  have F329 : Exa Z h321 r "java/util/ArrayList" := (F320.wr W321)
  have F330 : Fld Z h321 r "java/util/AbstractList" "modCount" "I" (.int mc) := ((F1.other W311 (Or.inl n1)).other W321 (Or.inr (slot_ne (Or.inl (hw _ (List.mem_of_getElem? (i := 22) rfl))) (Or.inl (hw _ (List.mem_of_getElem? (i := 41) rfl))) (by decide) (t := .int) (t' := .int) (by decide) (by decide))))
  have F331 : Fld Z h321 r "java/util/ArrayList" "elementData" "[Ljava/lang/Object;" (.ref arr) := ((F2.other W311 (Or.inl n1)).other W321 (Or.inr (slot_ne (Or.inl (hw _ (List.mem_of_getElem? (i := 25) rfl))) (Or.inl (hw _ (List.mem_of_getElem? (i := 41) rfl))) (by decide) (t := (.array (.object "java/lang/Object"))) (t' := .int) (by decide) (by decide))))
  have F332 : Arv Z h321 arr kk (.object "java/lang/Object") (10 : Int32) [(.ref v0), (.ref v1), (.ref v2), (.ref el), .null, .null, .null, .null, .null, .null] .null := (F313.other W321 n1.symm)
  refine own_ret0 X321 hx hlk Bd.returns (hb hby own_d_jdk_38_method_24_code_22) (by decide) (by decide) ?_
  rw [e321]
  exact ⟨N322, rfl, Kp328, F329, F330, F331, F323, F332⟩
def own_rm_add1_3_Q (Z : State) (r : Addr) (el : Addr) (arr : Addr) (kk : ClassId) (mc : Int32) (v0 : Addr) (v1 : Addr) (v2 : Addr) (h0 : Heap) (n0 : Nat) (v : Option Value) (h : Heap) (L : List Loc) : Prop := Fr n0 L ∧ v = some (.int (1 : Int32)) ∧ Keep h0 h [r, arr] ∧ Exa Z h r "java/util/ArrayList" ∧ Fld Z h r "java/util/AbstractList" "modCount" "I" (.int (mc + (1 : Int32))) ∧ Fld Z h r "java/util/ArrayList" "elementData" "[Ljava/lang/Object;" (.ref arr) ∧ Fld Z h r "java/util/ArrayList" "size" "I" (.int (4 : Int32)) ∧ Arv Z h arr kk (.object "java/lang/Object") (10 : Int32) [(.ref v0), (.ref v1), (.ref v2), (.ref el), .null, .null, .null, .null, .null, .null] .null
theorem own_rm_add1_3_ef (m : MethodId) (r : Addr) (el : Addr)  : entryFrame m #[(.ref r), (.ref el)] 2 = mkF m 0 #[.val (.ref r), .val (.ref el)] [] := by first | (simp [entryFrame, mkF, argsToLocals, Value.category]; done) | rfl
set_option maxRecDepth 65536 in
set_option maxHeartbeats 40000000 in
theorem own_rm_add1_3 (l : Launch) (Z : State) (a0 : Array Value) (hw : ∀ d ∈ tables_1, d.before a0 Z = true) (ws : List Jvm.Cond) (r : Addr) (el : Addr) (arr : Addr) (kk : ClassId) (mc : Int32) (v0 : Addr) (v1 : Addr) (v2 : Addr) (h0 : Heap) (n0 : Nat) (Z0 : n0 ≤ h0.size) (E1 : Exa Z h0 r "java/util/ArrayList") (F1 : Fld Z h0 r "java/util/AbstractList" "modCount" "I" (.int mc)) (F2 : Fld Z h0 r "java/util/ArrayList" "elementData" "[Ljava/lang/Object;" (.ref arr)) (F3 : Fld Z h0 r "java/util/ArrayList" "size" "I" (.int (3 : Int32))) (V1 : Arv Z h0 arr kk (.object "java/lang/Object") (10 : Int32) [(.ref v0), (.ref v1), (.ref v2), .null, .null, .null, .null, .null, .null, .null] .null) (ov : Ovr Z kk "java/lang/Object") (g1 : n0 ≤ r) (g2 : n0 ≤ arr) (n1 : r ≠ arr) (E2 : Exa Z h0 el "java/lang/Integer") :
    MetFree l (⟨"java/util/ArrayList", "add", "(Ljava/lang/Object;)Z"⟩ : MethodName) (head1 (Jvm.Cond.code (⟨"java/util/ArrayList", "add", "(Ljava/lang/Object;)Z"⟩ : MethodName) jdk_38_method_25_code 2 (some .boolean) :: ws) ({ frames := 1, cells := 0, slots := 0, locals := 15 } : Room)) (fun aQ UQ => aQ = #[(.ref r), (.ref el)] ∧ Z.Warmed39 UQ.vm ∧ UQ.heap = h0) (fun _ _ _ _ _ => True) (fun _ UQ oQ U2 => ∃ vQ LQ, oQ = .returned vQ ∧ own_rm_add1_3_Q Z r el arr kk mc v0 v1 v2 h0 n0 vQ U2.heap LQ ∧ FrameEnd UQ oQ U2 LQ ({ frames := 1, cells := 0, slots := 0, locals := 15 } : Room).cells ({ frames := 1, cells := 0, slots := 0, locals := 15 } : Room).slots) := by
  refine MetFree.of_bodySF own_pn10 hisR ?_
  intro p e s m args below meth c s₁ Bd hml0 hP hK
  obtain ⟨rfl, hZ, hh⟩ := hP
  have hx := Bd.exec
  have hby := Bd.bytes
  have hml : c.maxLocals = 2 := hml0
  have hlk := BodyLoose.notSynchronized Bd
  have hown : s.vm.findClass "java/util/ArrayList" = some m.cls := findClass_of_methodNamed Bd.named
  have hnm := (name_of_methodNamed Bd.named Bd.method).1
  have X0 : Stand p l e ({ frames := 1, cells := 0, slots := 0, locals := 15 } : Room) s m #[(.ref r), (.ref el)] below meth c s₁ [] 0 0 := Stand.of_body Bd
  have e0 : s₁.heap = h0 := by rw [← hh, Bd.state]; rfl
  have N0 := Fr.nil n0
  have Kp0 : Keep h0 h0 [r, arr] := Keep.refl _ _
  show own_Go p e below s (own_rm_add1_3_Q Z r el arr kk mc v0 v1 v2 h0 n0) ({ frames := 1, cells := 0, slots := 0, locals := 15 } : Room).cells ({ frames := 1, cells := 0, slots := 0, locals := 15 } : Room).slots (s₁.setTop (entryFrame m #[(.ref r), (.ref el)] 2))
  rw [own_rm_add1_3_ef]
  show own_Go p e below s _ _ _ (s₁.setTop (mkF m 0 #[.val (.ref r), .val (.ref el)] []))
  refine own_st (fun _ kQ => XS.aloadN X0.here hx rfl (hb hby own_d_jdk_38_method_25_code_0) rfl rfl kQ) ?_
  show own_Go p e below s _ _ _ (s₁.setTop (mkF m 1 #[.val (.ref r), .val (.ref el)] [(.ref r)]))
  refine own_st (fun _ kQ => XS.dup X0.here hx rfl (hb hby own_d_jdk_38_method_25_code_1) rfl rfl kQ) ?_
  show own_Go p e below s _ _ _ (s₁.setTop (mkF m 2 #[.val (.ref r), .val (.ref el)] [(.ref r), (.ref r)]))
  obtain ⟨T333, X333, e333, st333⟩ := getF X0 hx hZ hown (host := "") (Or.inl (hw _ (List.mem_of_getElem? (i := 38) rfl))) (Via.of (hw _ (List.mem_of_getElem? (i := 39) rfl))) e0 F1 (g := (mkF m 2 #[.val (.ref r), .val (.ref el)] [(.ref r), (.ref r)])) rfl rfl (hb hby own_d_jdk_38_method_25_code_2)
  refine own_st st333 ?_
  show own_Go p e below s _ _ _ (T333.setTop (mkF m 5 #[.val (.ref r), .val (.ref el)] [(.int mc), (.ref r)]))
  refine own_st (fun _ kQ => XT.iconstV X333.here hx rfl (1 : Int32) (hb hby own_d_jdk_38_method_25_code_5) (by decide) kQ) ?_
  show own_Go p e below s _ _ _ (T333.setTop (mkF m 6 #[.val (.ref r), .val (.ref el)] [(.int (1 : Int32)), (.int mc), (.ref r)]))
  refine own_st (fun _ kQ => XS.iadd X333.here hx rfl (hb hby own_d_jdk_38_method_25_code_6) rfl kQ) ?_
  show own_Go p e below s _ _ _ (T333.setTop (mkF m 7 #[.val (.ref r), .val (.ref el)] [(.int (mc + (1 : Int32))), (.ref r)]))
  obtain ⟨T334, h334, X334, e334, W334, st334⟩ := putF X333 hx hZ hown (host := "") (Or.inl (hw _ (List.mem_of_getElem? (i := 38) rfl))) (Via.of (hw _ (List.mem_of_getElem? (i := 39) rfl))) e333 F1 E1 (Or.inl (hw _ (List.mem_of_getElem? (i := 22) rfl))) (hw _ (List.mem_of_getElem? (i := 1) rfl)) (ty := .int) (by decide) rfl rfl (g := (mkF m 7 #[.val (.ref r), .val (.ref el)] [(.int (mc + (1 : Int32))), (.ref r)])) rfl rfl (hb hby own_d_jdk_38_method_25_code_7)
  refine own_st st334 ?_
  have N335 := Fr.snoc X334 N0 g1
  have F336 : Fld Z h334 r "java/util/AbstractList" "modCount" "I" (.int (mc + (1 : Int32))) := F1.same W334
  have lt337 : r < h334.size := Nat.lt_of_lt_of_le F3.lt (Nat.le_of_eq W334.size.symm)
  have lt338 : arr < h334.size := Nat.lt_of_lt_of_le V1.lt (Nat.le_of_eq W334.size.symm)
  have lt339 : el < h334.size := Nat.lt_of_lt_of_le E2.lt (Nat.le_of_eq W334.size.symm)
  have Zs340 : n0 ≤ h334.size := Nat.le_trans Z0 (Nat.le_of_eq W334.size.symm)
  have Kp341 : Keep h0 h334 [r, arr] := Kp0.wr W334 (Or.inl (List.mem_of_getElem? (i := 0) rfl))
  show own_Go p e below s _ _ _ (T334.setTop (mkF m 10 #[.val (.ref r), .val (.ref el)] []))
  refine own_st (fun _ kQ => XS.aloadN X334.here hx rfl (hb hby own_d_jdk_38_method_25_code_10) rfl rfl kQ) ?_
  show own_Go p e below s _ _ _ (T334.setTop (mkF m 11 #[.val (.ref r), .val (.ref el)] [(.ref r)]))
  refine own_st (fun _ kQ => XS.aloadN X334.here hx rfl (hb hby own_d_jdk_38_method_25_code_11) rfl rfl kQ) ?_
  show own_Go p e below s _ _ _ (T334.setTop (mkF m 12 #[.val (.ref r), .val (.ref el)] [(.ref el), (.ref r)]))
  refine own_st (fun _ kQ => XS.aloadN X334.here hx rfl (hb hby own_d_jdk_38_method_25_code_12) rfl rfl kQ) ?_
  show own_Go p e below s _ _ _ (T334.setTop (mkF m 13 #[.val (.ref r), .val (.ref el)] [(.ref r), (.ref el), (.ref r)]))
  have F342 : Fld Z h334 r "java/util/ArrayList" "elementData" "[Ljava/lang/Object;" (.ref arr) := (F2.other W334 (Or.inr (slot_ne (Or.inl (hw _ (List.mem_of_getElem? (i := 25) rfl))) (Or.inl (hw _ (List.mem_of_getElem? (i := 22) rfl))) (by decide) (t := (.array (.object "java/lang/Object"))) (t' := .int) (by decide) (by decide))))
  obtain ⟨T343, X343, e343, st343⟩ := getF X334 hx hZ hown (host := "") (Or.inl (hw _ (List.mem_of_getElem? (i := 24) rfl))) Via.refl e334 F342 (g := (mkF m 13 #[.val (.ref r), .val (.ref el)] [(.ref r), (.ref el), (.ref r)])) rfl rfl (hb hby own_d_jdk_38_method_25_code_13)
  refine own_st st343 ?_
  show own_Go p e below s _ _ _ (T343.setTop (mkF m 16 #[.val (.ref r), .val (.ref el)] [(.ref arr), (.ref el), (.ref r)]))
  refine own_st (fun _ kQ => XS.aloadN X343.here hx rfl (hb hby own_d_jdk_38_method_25_code_16) rfl rfl kQ) ?_
  show own_Go p e below s _ _ _ (T343.setTop (mkF m 17 #[.val (.ref r), .val (.ref el)] [(.ref r), (.ref arr), (.ref el), (.ref r)]))
  have F344 : Fld Z h334 r "java/util/ArrayList" "size" "I" (.int (3 : Int32)) := (F3.other W334 (Or.inr (slot_ne (Or.inl (hw _ (List.mem_of_getElem? (i := 41) rfl))) (Or.inl (hw _ (List.mem_of_getElem? (i := 22) rfl))) (by decide) (t := .int) (t' := .int) (by decide) (by decide))))
  obtain ⟨T345, X345, e345, st345⟩ := getF X343 hx hZ hown (host := "") (Or.inl (hw _ (List.mem_of_getElem? (i := 40) rfl))) Via.refl e343 F344 (g := (mkF m 17 #[.val (.ref r), .val (.ref el)] [(.ref r), (.ref arr), (.ref el), (.ref r)])) rfl rfl (hb hby own_d_jdk_38_method_25_code_17)
  refine own_st st345 ?_
  show own_Go p e below s _ _ _ (T345.setTop (mkF m 20 #[.val (.ref r), .val (.ref el)] [(.int (3 : Int32)), (.ref arr), (.ref el), (.ref r)]))
  have F347 : Exa Z h334 r "java/util/ArrayList" := (E1.wr W334)
  have F348 : Arv Z h334 arr kk (.object "java/lang/Object") (10 : Int32) [(.ref v0), (.ref v1), (.ref v2), .null, .null, .null, .null, .null, .null, .null] .null := (V1.other W334 n1.symm)
  have F349 : Exa Z h334 el "java/lang/Integer" := (E2.wr W334)
  obtain ⟨cq346, q346, q346'⟩ := F347.cell
  obtain ⟨_, _, ⟨T346, L346, k346, n346⟩, -, X346, ⟨Lc346, hQ346, l346, y346, z346⟩, st346⟩ := X345.privateBack hx (y := (⟨"java/util/ArrayList", "add", "(Ljava/lang/Object;[Ljava/lang/Object;I)V"⟩ : MethodName)) hown (mvT hZ (hw _ (List.mem_of_getElem? (i := 42) rfl))) (mvT hZ (hw _ (List.mem_of_getElem? (i := 43) rfl))) (mvT hZ (hw _ (List.mem_of_getElem? (i := 45) rfl))) (Cond.privateMethod_at (mvP hZ (hw _ (List.mem_of_getElem? (i := 44) rfl)) (args := #[]))) (mvT hZ (hw _ (List.mem_of_getElem? (i := 46) rfl))) (by decide) (backOf (W := 0) (own_rm_add3_3 l Z a0 hw [] r el arr kk (mc + (1 : Int32)) v0 v1 v2 h334 n0 Zs340 F347 F336 F342 F344 F348 ov g1 g2 n1 F349) hZ (hw _ (List.mem_of_getElem? (i := 46) rfl)) (hw _ (List.mem_of_getElem? (i := 2) rfl)) (by decide) (by decide)) (g := (mkF m 20 #[.val (.ref r), .val (.ref el)] [(.int (3 : Int32)), (.ref arr), (.ref el), (.ref r)])) rfl (by rw [hml]; rfl) (Steps.refl _) (a := r) (own_hp e345 q346) q346' (argsL := [(.ref el), (.ref arr), (.int (3 : Int32))]) (rest := []) (lenOf own_pd5 rfl) rfl (by show 2 * 0 + _ ≤ _; exact Nat.le_of_eq rfl) (hb hby own_d_jdk_38_method_25_code_20) (fun _ _ => ⟨rfl, e345, (by decide : 0 + 0 ≤ _), (by decide : 0 + 0 ≤ _)⟩)
  dsimp only [Pt.U, Pt.locs, Pt.cells, Pt.slots] at X346 l346 y346 z346 st346 hQ346
  subst l346 y346 z346
  obtain ⟨N346q, rfl, K346, q350, q351, q352, q353, q354⟩ := hQ346
  have N355 := Fr.app N335 N346q
  refine own_tr st346 ?_
  have lt356 : r < T346.heap.size := Nat.lt_of_lt_of_le lt337 K346.1
  have lt357 : arr < T346.heap.size := Nat.lt_of_lt_of_le lt338 K346.1
  have lt358 : el < T346.heap.size := Nat.lt_of_lt_of_le lt339 K346.1
  have Zs359 : n0 ≤ T346.heap.size := Nat.le_trans Zs340 K346.1
  have Kp360 : Keep h0 T346.heap [r, arr] := Kp341.trans K346 (allS (Or.inl (List.mem_of_getElem? (i := 0) rfl)) (allS (Or.inl (List.mem_of_getElem? (i := 1) rfl)) all0))
  show own_Go p e below s _ _ _ (T346.setTop (mkF m 23 #[.val (.ref r), .val (.ref el)] []))
  refine own_st (fun _ kQ => XT.iconstV X346.here hx rfl (1 : Int32) (hb hby own_d_jdk_38_method_25_code_23) (by decide) kQ) ?_
  show own_Go p e below s _ _ _ (T346.setTop (mkF m 24 #[.val (.ref r), .val (.ref el)] [(.int (1 : Int32))]))
  refine own_retN X346 hx hlk Bd.returns (t := .boolean) (z' := (1 : Int32)) (by simp) (by decide) (hb hby own_d_jdk_38_method_25_code_24) (by decide) (by decide) ?_
  skip
  exact ⟨N355, rfl, Kp360, q350, q351, q352, q353, q354⟩
theorem own_d_jdk_38_method_8_code_0 : decode jdk_38_method_8_code 0 = .ok (.aload_n 0, 1) := by decide +kernel
theorem own_d_jdk_38_method_8_code_1 : decode jdk_38_method_8_code 1 = .ok (.getfield 48, 3) := by decide +kernel
theorem own_d_jdk_38_method_8_code_4 : decode jdk_38_method_8_code 4 = .ok (.ireturn, 1) := by decide +kernel
theorem own_pn11 : plainFor (⟨"java/util/ArrayList", "size", "()I"⟩ : MethodName) = true := by decide +kernel
def own_rm_alsize_Q (Z : State) (r : Addr) (n : Int32) (h0 : Heap) (n0 : Nat) (v : Option Value) (h : Heap) (L : List Loc) : Prop := Fr n0 L ∧ v = some (.int n) ∧ h = h0
theorem own_rm_alsize_ef (m : MethodId) (r : Addr)  : entryFrame m #[(.ref r)] 1 = mkF m 0 #[.val (.ref r)] [] := by first | (simp [entryFrame, mkF, argsToLocals, Value.category]; done) | rfl
set_option maxRecDepth 65536 in
set_option maxHeartbeats 40000000 in
theorem own_rm_alsize (l : Launch) (Z : State) (a0 : Array Value) (hw : ∀ d ∈ tables_1, d.before a0 Z = true) (ws : List Jvm.Cond) (r : Addr) (n : Int32) (h0 : Heap) (n0 : Nat) (Z0 : n0 ≤ h0.size) (F1 : Fld Z h0 r "java/util/ArrayList" "size" "I" (.int n)) :
    MetFree l (⟨"java/util/ArrayList", "size", "()I"⟩ : MethodName) (head1 (Jvm.Cond.code (⟨"java/util/ArrayList", "size", "()I"⟩ : MethodName) jdk_38_method_8_code 1 (some .int) :: ws) ({ frames := 0, cells := 0, slots := 0, locals := 0 } : Room)) (fun aQ UQ => aQ = #[(.ref r)] ∧ Z.Warmed39 UQ.vm ∧ UQ.heap = h0) (fun _ _ _ _ _ => True) (fun _ UQ oQ U2 => ∃ vQ LQ, oQ = .returned vQ ∧ own_rm_alsize_Q Z r n h0 n0 vQ U2.heap LQ ∧ FrameEnd UQ oQ U2 LQ ({ frames := 0, cells := 0, slots := 0, locals := 0 } : Room).cells ({ frames := 0, cells := 0, slots := 0, locals := 0 } : Room).slots) := by
  refine MetFree.of_bodySF own_pn11 hisR ?_
  intro p e s m args below meth c s₁ Bd hml0 hP hK
  obtain ⟨rfl, hZ, hh⟩ := hP
  have hx := Bd.exec
  have hby := Bd.bytes
  have hml : c.maxLocals = 1 := hml0
  have hlk := BodyLoose.notSynchronized Bd
  have hown : s.vm.findClass "java/util/ArrayList" = some m.cls := findClass_of_methodNamed Bd.named
  have hnm := (name_of_methodNamed Bd.named Bd.method).1
  have X0 : Stand p l e ({ frames := 0, cells := 0, slots := 0, locals := 0 } : Room) s m #[(.ref r)] below meth c s₁ [] 0 0 := Stand.of_body Bd
  have e0 : s₁.heap = h0 := by rw [← hh, Bd.state]; rfl
  have N0 := Fr.nil n0
  show own_Go p e below s (own_rm_alsize_Q Z r n h0 n0) ({ frames := 0, cells := 0, slots := 0, locals := 0 } : Room).cells ({ frames := 0, cells := 0, slots := 0, locals := 0 } : Room).slots (s₁.setTop (entryFrame m #[(.ref r)] 1))
  rw [own_rm_alsize_ef]
  show own_Go p e below s _ _ _ (s₁.setTop (mkF m 0 #[.val (.ref r)] []))
  refine own_st (fun _ kQ => XS.aloadN X0.here hx rfl (hb hby own_d_jdk_38_method_8_code_0) rfl rfl kQ) ?_
  show own_Go p e below s _ _ _ (s₁.setTop (mkF m 1 #[.val (.ref r)] [(.ref r)]))
  obtain ⟨T361, X361, e361, st361⟩ := getF X0 hx hZ hown (host := "") (Or.inl (hw _ (List.mem_of_getElem? (i := 40) rfl))) Via.refl e0 F1 (g := (mkF m 1 #[.val (.ref r)] [(.ref r)])) rfl rfl (hb hby own_d_jdk_38_method_8_code_1)
  refine own_st st361 ?_
  show own_Go p e below s _ _ _ (T361.setTop (mkF m 4 #[.val (.ref r)] [(.int n)]))
  refine own_retI X361 hx hlk Bd.returns (hb hby own_d_jdk_38_method_8_code_4) (by decide) (by decide) ?_
  rw [e361]
  exact ⟨N0, rfl, rfl⟩
theorem own_d_jdk_119_method_2_code_0 : decode jdk_119_method_2_code 0 = .ok (.aload_n 0, 1) := by decide +kernel
theorem own_d_jdk_119_method_2_code_1 : decode jdk_119_method_2_code 1 = .ok (.getfield 10, 3) := by decide +kernel
theorem own_d_jdk_119_method_2_code_4 : decode jdk_119_method_2_code 4 = .ok (.invokeinterface 16 1, 5) := by decide +kernel
theorem own_d_jdk_119_method_2_code_9 : decode jdk_119_method_2_code 9 = .ok (.ireturn, 1) := by decide +kernel
theorem own_pn12 : plainFor (⟨"java/util/Collections$UnmodifiableCollection", "size", "()I"⟩ : MethodName) = true := by decide +kernel
theorem own_pd6 : parseMethodDescriptor "()I" = some ⟨[], some .int⟩ := by decide +kernel
def own_rm_ucsize_Q (Z : State) (u : Addr) (r : Addr) (n : Int32) (h0 : Heap) (n0 : Nat) (v : Option Value) (h : Heap) (L : List Loc) : Prop := Fr n0 L ∧ v = some (.int n) ∧ h = h0
theorem own_rm_ucsize_ef (m : MethodId) (u : Addr)  : entryFrame m #[(.ref u)] 1 = mkF m 0 #[.val (.ref u)] [] := by first | (simp [entryFrame, mkF, argsToLocals, Value.category]; done) | rfl
set_option maxRecDepth 65536 in
set_option maxHeartbeats 40000000 in
theorem own_rm_ucsize (l : Launch) (Z : State) (a0 : Array Value) (hw : ∀ d ∈ tables_1, d.before a0 Z = true) (ws : List Jvm.Cond) (u : Addr) (r : Addr) (n : Int32) (h0 : Heap) (n0 : Nat) (Z0 : n0 ≤ h0.size) (F1 : Fld Z h0 u "java/util/Collections$UnmodifiableCollection" "c" "Ljava/util/Collection;" (.ref r)) (E1 : Exa Z h0 r "java/util/ArrayList") (F2 : Fld Z h0 r "java/util/ArrayList" "size" "I" (.int n)) :
    MetFree l (⟨"java/util/Collections$UnmodifiableCollection", "size", "()I"⟩ : MethodName) (head1 (Jvm.Cond.code (⟨"java/util/Collections$UnmodifiableCollection", "size", "()I"⟩ : MethodName) jdk_119_method_2_code 1 (some .int) :: ws) ({ frames := 1, cells := 0, slots := 0, locals := 12 } : Room)) (fun aQ UQ => aQ = #[(.ref u)] ∧ Z.Warmed39 UQ.vm ∧ UQ.heap = h0) (fun _ _ _ _ _ => True) (fun _ UQ oQ U2 => ∃ vQ LQ, oQ = .returned vQ ∧ own_rm_ucsize_Q Z u r n h0 n0 vQ U2.heap LQ ∧ FrameEnd UQ oQ U2 LQ ({ frames := 1, cells := 0, slots := 0, locals := 12 } : Room).cells ({ frames := 1, cells := 0, slots := 0, locals := 12 } : Room).slots) := by
  refine MetFree.of_bodySF own_pn12 hisR ?_
  intro p e s m args below meth c s₁ Bd hml0 hP hK
  obtain ⟨rfl, hZ, hh⟩ := hP
  have hx := Bd.exec
  have hby := Bd.bytes
  have hml : c.maxLocals = 1 := hml0
  have hlk := BodyLoose.notSynchronized Bd
  have hown : s.vm.findClass "java/util/Collections$UnmodifiableCollection" = some m.cls := findClass_of_methodNamed Bd.named
  have hnm := (name_of_methodNamed Bd.named Bd.method).1
  have X0 : Stand p l e ({ frames := 1, cells := 0, slots := 0, locals := 12 } : Room) s m #[(.ref u)] below meth c s₁ [] 0 0 := Stand.of_body Bd
  have e0 : s₁.heap = h0 := by rw [← hh, Bd.state]; rfl
  have N0 := Fr.nil n0
  show own_Go p e below s (own_rm_ucsize_Q Z u r n h0 n0) ({ frames := 1, cells := 0, slots := 0, locals := 12 } : Room).cells ({ frames := 1, cells := 0, slots := 0, locals := 12 } : Room).slots (s₁.setTop (entryFrame m #[(.ref u)] 1))
  rw [own_rm_ucsize_ef]
  show own_Go p e below s _ _ _ (s₁.setTop (mkF m 0 #[.val (.ref u)] []))
  refine own_st (fun _ kQ => XS.aloadN X0.here hx rfl (hb hby own_d_jdk_119_method_2_code_0) rfl rfl kQ) ?_
  show own_Go p e below s _ _ _ (s₁.setTop (mkF m 1 #[.val (.ref u)] [(.ref u)]))
  obtain ⟨T362, X362, e362, st362⟩ := getF X0 hx hZ hown (host := "") (Or.inl (hw _ (List.mem_of_getElem? (i := 114) rfl))) Via.refl e0 F1 (g := (mkF m 1 #[.val (.ref u)] [(.ref u)])) rfl rfl (hb hby own_d_jdk_119_method_2_code_1)
  refine own_st st362 ?_
  show own_Go p e below s _ _ _ (T362.setTop (mkF m 4 #[.val (.ref u)] [(.ref r)]))
  obtain ⟨cq363, kq363, q363a, q363b, q363c⟩ := isOf hZ e362 E1
  obtain ⟨_, _, ⟨T363, L363, k363, n363⟩, -, X363, ⟨Lc363, hQ363, l363, y363, z363⟩, st363⟩ := X362.interfaceBack hx (xi := (⟨"java/util/Collection", "size", "()I"⟩ : MethodName)) (y := (⟨"java/util/ArrayList", "size", "()I"⟩ : MethodName)) hown (mvT hZ (hw _ (List.mem_of_getElem? (i := 134) rfl))) (mvT hZ (hw _ (List.mem_of_getElem? (i := 135) rfl))) (mvT hZ (hw _ (List.mem_of_getElem? (i := 136) rfl))) (mvT hZ (hw _ (List.mem_of_getElem? (i := 137) rfl))) (mvT hZ (hw _ (List.mem_of_getElem? (i := 138) rfl))) (mvT hZ (hw _ (List.mem_of_getElem? (i := 139) rfl))) (mvT hZ (hw _ (List.mem_of_getElem? (i := 140) rfl))) (mvT hZ (hw _ (List.mem_of_getElem? (i := 141) rfl))) (by decide) (backOf (W := 0) (own_rm_alsize l Z a0 hw [] r n h0 n0 Z0 F2) hZ (hw _ (List.mem_of_getElem? (i := 142) rfl)) (hw _ (List.mem_of_getElem? (i := 2) rfl)) (by decide) (by decide)) q363a q363b q363c (g := (mkF m 4 #[.val (.ref u)] [(.ref r)])) rfl (by rw [hml]; rfl) (Steps.refl _) (argsL := []) (rest := []) (lenOf own_pd6 rfl) rfl (by show 2 * 0 + _ ≤ _; exact Nat.le_of_eq rfl) (hb hby own_d_jdk_119_method_2_code_4) (fun _ _ => ⟨rfl, e362, (by decide : 0 + 0 ≤ _), (by decide : 0 + 0 ≤ _)⟩)
  dsimp only [Pt.U, Pt.locs, Pt.cells, Pt.slots] at X363 l363 y363 z363 st363 hQ363
  subst l363 y363 z363
  obtain ⟨N363q, rfl, eh363⟩ := hQ363
  have N364 := Fr.app N0 N363q
  refine own_tr st363 ?_
  show own_Go p e below s _ _ _ (T363.setTop (mkF m 9 #[.val (.ref u)] [(.int n)]))
  refine own_retI X363 hx hlk Bd.returns (hb hby own_d_jdk_119_method_2_code_9) (by decide) (by decide) ?_
  rw [eh363]
  exact ⟨N364, rfl, rfl⟩
theorem own_d_jdk_119_method_1_code_0 : decode jdk_119_method_1_code 0 = .ok (.aload_n 0, 1) := by decide +kernel
theorem own_d_jdk_119_method_1_code_1 : decode jdk_119_method_1_code 1 = .ok (.invokespecial 1, 3) := by decide +kernel
theorem own_d_jdk_119_method_1_code_4 : decode jdk_119_method_1_code 4 = .ok (.aload_n 1, 1) := by decide +kernel
theorem own_d_jdk_119_method_1_code_5 : decode jdk_119_method_1_code 5 = .ok (.ifnonnull 11, 3) := by decide +kernel
theorem own_d_jdk_119_method_1_code_8 : decode jdk_119_method_1_code 8 = .ok (.new 7, 3) := by decide +kernel
theorem own_d_jdk_119_method_1_code_11 : decode jdk_119_method_1_code 11 = .ok (.dup, 1) := by decide +kernel
theorem own_d_jdk_119_method_1_code_12 : decode jdk_119_method_1_code 12 = .ok (.invokespecial 9, 3) := by decide +kernel
theorem own_d_jdk_119_method_1_code_15 : decode jdk_119_method_1_code 15 = .ok (.athrow, 1) := by decide +kernel
theorem own_d_jdk_119_method_1_code_16 : decode jdk_119_method_1_code 16 = .ok (.aload_n 0, 1) := by decide +kernel
theorem own_d_jdk_119_method_1_code_17 : decode jdk_119_method_1_code 17 = .ok (.aload_n 1, 1) := by decide +kernel
theorem own_d_jdk_119_method_1_code_18 : decode jdk_119_method_1_code 18 = .ok (.putfield 10, 3) := by decide +kernel
theorem own_d_jdk_119_method_1_code_21 : decode jdk_119_method_1_code 21 = .ok (.return_, 1) := by decide +kernel
theorem own_pn13 : plainFor (⟨"java/util/Collections$UnmodifiableCollection", "<init>", "(Ljava/util/Collection;)V"⟩ : MethodName) = true := by decide +kernel
def own_rm_ucinit_Q (Z : State) (u : Addr) (r : Addr) (h0 : Heap) (n0 : Nat) (v : Option Value) (h : Heap) (L : List Loc) : Prop := Fr n0 L ∧ v = none ∧ Keep h0 h [u] ∧ Exa Z h u "java/util/Collections$UnmodifiableRandomAccessList" ∧ Fld Z h u "java/util/Collections$UnmodifiableCollection" "c" "Ljava/util/Collection;" (.ref r) ∧ Fld Z h u "java/util/Collections$UnmodifiableList" "list" "Ljava/util/List;" .null
theorem own_rm_ucinit_ef (m : MethodId) (u : Addr) (r : Addr)  : entryFrame m #[(.ref u), (.ref r)] 2 = mkF m 0 #[.val (.ref u), .val (.ref r)] [] := by first | (simp [entryFrame, mkF, argsToLocals, Value.category]; done) | rfl
set_option maxRecDepth 65536 in
set_option maxHeartbeats 40000000 in
theorem own_rm_ucinit (l : Launch) (Z : State) (a0 : Array Value) (hw : ∀ d ∈ tables_1, d.before a0 Z = true) (ws : List Jvm.Cond) (u : Addr) (r : Addr) (h0 : Heap) (n0 : Nat) (Z0 : n0 ≤ h0.size) (E1 : Exa Z h0 u "java/util/Collections$UnmodifiableRandomAccessList") (F0 : Fld Z h0 u "java/util/Collections$UnmodifiableCollection" "c" "Ljava/util/Collection;" .null) (F1 : Fld Z h0 u "java/util/Collections$UnmodifiableList" "list" "Ljava/util/List;" .null) (g1 : n0 ≤ u) :
    MetFree l (⟨"java/util/Collections$UnmodifiableCollection", "<init>", "(Ljava/util/Collection;)V"⟩ : MethodName) (head1 (Jvm.Cond.code (⟨"java/util/Collections$UnmodifiableCollection", "<init>", "(Ljava/util/Collection;)V"⟩ : MethodName) jdk_119_method_1_code 2 none :: ws) ({ frames := 1, cells := 0, slots := 0, locals := 12 } : Room)) (fun aQ UQ => aQ = #[(.ref u), (.ref r)] ∧ Z.Warmed39 UQ.vm ∧ UQ.heap = h0) (fun _ _ _ _ _ => True) (fun _ UQ oQ U2 => ∃ vQ LQ, oQ = .returned vQ ∧ own_rm_ucinit_Q Z u r h0 n0 vQ U2.heap LQ ∧ FrameEnd UQ oQ U2 LQ ({ frames := 1, cells := 0, slots := 0, locals := 12 } : Room).cells ({ frames := 1, cells := 0, slots := 0, locals := 12 } : Room).slots) := by
  refine MetFree.of_bodySF own_pn13 hisR ?_
  intro p e s m args below meth c s₁ Bd hml0 hP hK
  obtain ⟨rfl, hZ, hh⟩ := hP
  have hx := Bd.exec
  have hby := Bd.bytes
  have hml : c.maxLocals = 2 := hml0
  have hlk := BodyLoose.notSynchronized Bd
  have hown : s.vm.findClass "java/util/Collections$UnmodifiableCollection" = some m.cls := findClass_of_methodNamed Bd.named
  have hnm := (name_of_methodNamed Bd.named Bd.method).1
  have X0 : Stand p l e ({ frames := 1, cells := 0, slots := 0, locals := 12 } : Room) s m #[(.ref u), (.ref r)] below meth c s₁ [] 0 0 := Stand.of_body Bd
  have e0 : s₁.heap = h0 := by rw [← hh, Bd.state]; rfl
  have N0 := Fr.nil n0
  have Kp0 : Keep h0 h0 [u] := Keep.refl _ _
  show own_Go p e below s (own_rm_ucinit_Q Z u r h0 n0) ({ frames := 1, cells := 0, slots := 0, locals := 12 } : Room).cells ({ frames := 1, cells := 0, slots := 0, locals := 12 } : Room).slots (s₁.setTop (entryFrame m #[(.ref u), (.ref r)] 2))
  rw [own_rm_ucinit_ef]
  show own_Go p e below s _ _ _ (s₁.setTop (mkF m 0 #[.val (.ref u), .val (.ref r)] []))
  refine own_st (fun _ kQ => XS.aloadN X0.here hx rfl (hb hby own_d_jdk_119_method_1_code_0) rfl rfl kQ) ?_
  show own_Go p e below s _ _ _ (s₁.setTop (mkF m 1 #[.val (.ref u), .val (.ref r)] [(.ref u)]))
  obtain ⟨T365, X365, e365, st365⟩ := initO X0 hx hZ hown (hw _ (List.mem_of_getElem? (i := 113) rfl)) (hw _ (List.mem_of_getElem? (i := 19) rfl)) (hw _ (List.mem_of_getElem? (i := 20) rfl)) e0 (g := (mkF m 1 #[.val (.ref u), .val (.ref r)] [(.ref u)])) rfl (by rw [hml]; rfl) rfl (hb hby own_d_jdk_119_method_1_code_1) (by decide) (W := 0) (by show 2 * 0 + _ ≤ _; exact Nat.le_of_eq rfl) (by decide)
  refine own_st st365 ?_
  show own_Go p e below s _ _ _ (T365.setTop (mkF m 4 #[.val (.ref u), .val (.ref r)] []))
  refine own_st (fun _ kQ => XS.aloadN X365.here hx rfl (hb hby own_d_jdk_119_method_1_code_4) rfl rfl kQ) ?_
  show own_Go p e below s _ _ _ (T365.setTop (mkF m 5 #[.val (.ref u), .val (.ref r)] [(.ref r)]))
  refine own_st (fun _ kQ => XT.ifnonnullYes X365.here hx rfl (pc0 := 5) (pc' := 16) rfl (hb hby own_d_jdk_119_method_1_code_5) rfl (by decide) (by decide) kQ) ?_
  show own_Go p e below s _ _ _ (T365.setTop (mkF m 16 #[.val (.ref u), .val (.ref r)] []))
  refine own_st (fun _ kQ => XS.aloadN X365.here hx rfl (hb hby own_d_jdk_119_method_1_code_16) rfl rfl kQ) ?_
  show own_Go p e below s _ _ _ (T365.setTop (mkF m 17 #[.val (.ref u), .val (.ref r)] [(.ref u)]))
  refine own_st (fun _ kQ => XS.aloadN X365.here hx rfl (hb hby own_d_jdk_119_method_1_code_17) rfl rfl kQ) ?_
  show own_Go p e below s _ _ _ (T365.setTop (mkF m 18 #[.val (.ref u), .val (.ref r)] [(.ref r), (.ref u)]))
  obtain ⟨T366, h366, X366, e366, W366, st366⟩ := putF X365 hx hZ hown (host := "") (Or.inl (hw _ (List.mem_of_getElem? (i := 114) rfl))) Via.refl e365 F0 E1 (Or.inr ⟨(hw _ (List.mem_of_getElem? (i := 115) rfl)), rfl, hnm⟩) (hw _ (List.mem_of_getElem? (i := 96) rfl)) (ty := (.object "java/util/Collection")) (by decide) rfl rfl (g := (mkF m 18 #[.val (.ref u), .val (.ref r)] [(.ref r), (.ref u)])) rfl rfl (hb hby own_d_jdk_119_method_1_code_18)
  refine own_st st366 ?_
  have N367 := Fr.snoc X366 N0 g1
  have F368 : Fld Z h366 u "java/util/Collections$UnmodifiableCollection" "c" "Ljava/util/Collection;" (.ref r) := F0.same W366
  have lt369 : u < h366.size := Nat.lt_of_lt_of_le F1.lt (Nat.le_of_eq W366.size.symm)
  have Zs370 : n0 ≤ h366.size := Nat.le_trans Z0 (Nat.le_of_eq W366.size.symm)
  have Kp371 : Keep h0 h366 [u] := Kp0.wr W366 (Or.inl (List.mem_of_getElem? (i := 0) rfl))
  show own_Go p e below s _ _ _ (T366.setTop (mkF m 21 #[.val (.ref u), .val (.ref r)] []))
  have F372 : Exa Z h366 u "java/util/Collections$UnmodifiableRandomAccessList" := (E1.wr W366)
  have F373 : Fld Z h366 u "java/util/Collections$UnmodifiableList" "list" "Ljava/util/List;" .null := (F1.other W366 (Or.inr (slot_ne (Or.inr (hw _ (List.mem_of_getElem? (i := 117) rfl))) (Or.inr (hw _ (List.mem_of_getElem? (i := 115) rfl))) (by decide) (t := (.object "java/util/List")) (t' := (.object "java/util/Collection")) (by decide) (by decide))))
  refine own_ret0 X366 hx hlk Bd.returns (hb hby own_d_jdk_119_method_1_code_21) (by decide) (by decide) ?_
  rw [e366]
  exact ⟨N367, rfl, Kp371, F372, F368, F373⟩
theorem own_d_jdk_120_method_1_code_0 : decode jdk_120_method_1_code 0 = .ok (.aload_n 0, 1) := by decide +kernel
theorem own_d_jdk_120_method_1_code_1 : decode jdk_120_method_1_code 1 = .ok (.aload_n 1, 1) := by decide +kernel
theorem own_d_jdk_120_method_1_code_2 : decode jdk_120_method_1_code 2 = .ok (.invokespecial 1, 3) := by decide +kernel
theorem own_d_jdk_120_method_1_code_5 : decode jdk_120_method_1_code 5 = .ok (.aload_n 0, 1) := by decide +kernel
theorem own_d_jdk_120_method_1_code_6 : decode jdk_120_method_1_code 6 = .ok (.aload_n 1, 1) := by decide +kernel
theorem own_d_jdk_120_method_1_code_7 : decode jdk_120_method_1_code 7 = .ok (.putfield 7, 3) := by decide +kernel
theorem own_d_jdk_120_method_1_code_10 : decode jdk_120_method_1_code 10 = .ok (.return_, 1) := by decide +kernel
theorem own_pn14 : plainFor (⟨"java/util/Collections$UnmodifiableList", "<init>", "(Ljava/util/List;)V"⟩ : MethodName) = true := by decide +kernel
theorem own_pd7 : parseMethodDescriptor "(Ljava/util/Collection;)V" = some ⟨[(.object "java/util/Collection")], none⟩ := by decide +kernel
def own_rm_ulinit_Q (Z : State) (u : Addr) (r : Addr) (h0 : Heap) (n0 : Nat) (v : Option Value) (h : Heap) (L : List Loc) : Prop := Fr n0 L ∧ v = none ∧ Keep h0 h [u] ∧ Exa Z h u "java/util/Collections$UnmodifiableRandomAccessList" ∧ Fld Z h u "java/util/Collections$UnmodifiableCollection" "c" "Ljava/util/Collection;" (.ref r) ∧ Fld Z h u "java/util/Collections$UnmodifiableList" "list" "Ljava/util/List;" (.ref r)
theorem own_rm_ulinit_ef (m : MethodId) (u : Addr) (r : Addr)  : entryFrame m #[(.ref u), (.ref r)] 2 = mkF m 0 #[.val (.ref u), .val (.ref r)] [] := by first | (simp [entryFrame, mkF, argsToLocals, Value.category]; done) | rfl
set_option maxRecDepth 65536 in
set_option maxHeartbeats 40000000 in
theorem own_rm_ulinit (l : Launch) (Z : State) (a0 : Array Value) (hw : ∀ d ∈ tables_1, d.before a0 Z = true) (ws : List Jvm.Cond) (u : Addr) (r : Addr) (h0 : Heap) (n0 : Nat) (Z0 : n0 ≤ h0.size) (E1 : Exa Z h0 u "java/util/Collections$UnmodifiableRandomAccessList") (F0 : Fld Z h0 u "java/util/Collections$UnmodifiableCollection" "c" "Ljava/util/Collection;" .null) (F1 : Fld Z h0 u "java/util/Collections$UnmodifiableList" "list" "Ljava/util/List;" .null) (g1 : n0 ≤ u) :
    MetFree l (⟨"java/util/Collections$UnmodifiableList", "<init>", "(Ljava/util/List;)V"⟩ : MethodName) (head1 (Jvm.Cond.code (⟨"java/util/Collections$UnmodifiableList", "<init>", "(Ljava/util/List;)V"⟩ : MethodName) jdk_120_method_1_code 2 none :: ws) ({ frames := 2, cells := 0, slots := 0, locals := 25 } : Room)) (fun aQ UQ => aQ = #[(.ref u), (.ref r)] ∧ Z.Warmed39 UQ.vm ∧ UQ.heap = h0) (fun _ _ _ _ _ => True) (fun _ UQ oQ U2 => ∃ vQ LQ, oQ = .returned vQ ∧ own_rm_ulinit_Q Z u r h0 n0 vQ U2.heap LQ ∧ FrameEnd UQ oQ U2 LQ ({ frames := 2, cells := 0, slots := 0, locals := 25 } : Room).cells ({ frames := 2, cells := 0, slots := 0, locals := 25 } : Room).slots) := by
  refine MetFree.of_bodySF own_pn14 hisR ?_
  intro p e s m args below meth c s₁ Bd hml0 hP hK
  obtain ⟨rfl, hZ, hh⟩ := hP
  have hx := Bd.exec
  have hby := Bd.bytes
  have hml : c.maxLocals = 2 := hml0
  have hlk := BodyLoose.notSynchronized Bd
  have hown : s.vm.findClass "java/util/Collections$UnmodifiableList" = some m.cls := findClass_of_methodNamed Bd.named
  have hnm := (name_of_methodNamed Bd.named Bd.method).1
  have X0 : Stand p l e ({ frames := 2, cells := 0, slots := 0, locals := 25 } : Room) s m #[(.ref u), (.ref r)] below meth c s₁ [] 0 0 := Stand.of_body Bd
  have e0 : s₁.heap = h0 := by rw [← hh, Bd.state]; rfl
  have N0 := Fr.nil n0
  have Kp0 : Keep h0 h0 [u] := Keep.refl _ _
  show own_Go p e below s (own_rm_ulinit_Q Z u r h0 n0) ({ frames := 2, cells := 0, slots := 0, locals := 25 } : Room).cells ({ frames := 2, cells := 0, slots := 0, locals := 25 } : Room).slots (s₁.setTop (entryFrame m #[(.ref u), (.ref r)] 2))
  rw [own_rm_ulinit_ef]
  show own_Go p e below s _ _ _ (s₁.setTop (mkF m 0 #[.val (.ref u), .val (.ref r)] []))
  refine own_st (fun _ kQ => XS.aloadN X0.here hx rfl (hb hby own_d_jdk_120_method_1_code_0) rfl rfl kQ) ?_
  show own_Go p e below s _ _ _ (s₁.setTop (mkF m 1 #[.val (.ref u), .val (.ref r)] [(.ref u)]))
  refine own_st (fun _ kQ => XS.aloadN X0.here hx rfl (hb hby own_d_jdk_120_method_1_code_1) rfl rfl kQ) ?_
  show own_Go p e below s _ _ _ (s₁.setTop (mkF m 2 #[.val (.ref u), .val (.ref r)] [(.ref r), (.ref u)]))
  obtain ⟨_, _, ⟨T374, L374, k374, n374⟩, -, X374, ⟨Lc374, hQ374, l374, y374, z374⟩, st374⟩ := X0.specialBack hx (y := (⟨"java/util/Collections$UnmodifiableCollection", "<init>", "(Ljava/util/Collection;)V"⟩ : MethodName)) rfl hown (mvT hZ (hw _ (List.mem_of_getElem? (i := 107) rfl))) (mvT hZ (hw _ (List.mem_of_getElem? (i := 108) rfl))) (mvT hZ (hw _ (List.mem_of_getElem? (i := 112) rfl))) (by decide) (backOf (W := 0) (own_rm_ucinit l Z a0 hw [] u r h0 n0 Z0 E1 F0 F1 g1) hZ (hw _ (List.mem_of_getElem? (i := 112) rfl)) (hw _ (List.mem_of_getElem? (i := 111) rfl)) (by decide) (by decide)) (g := (mkF m 2 #[.val (.ref u), .val (.ref r)] [(.ref r), (.ref u)])) rfl (by rw [hml]; rfl) (Steps.refl _) (a := u) (argsL := [(.ref r)]) (rest := []) (lenOf own_pd7 rfl) rfl (by show 2 * 0 + _ ≤ _; exact Nat.le_of_eq rfl) (hb hby own_d_jdk_120_method_1_code_2) (fun _ _ => ⟨rfl, e0, (by decide : 0 + 0 ≤ _), (by decide : 0 + 0 ≤ _)⟩)
  dsimp only [Pt.U, Pt.locs, Pt.cells, Pt.slots] at X374 l374 y374 z374 st374 hQ374
  subst l374 y374 z374
  obtain ⟨N374q, rfl, K374, q375, q376, q377⟩ := hQ374
  have N378 := Fr.app N0 N374q
  refine own_tr st374 ?_
  have lt379 : u < T374.heap.size := Nat.lt_of_lt_of_le F1.lt K374.1
  have Zs380 : n0 ≤ T374.heap.size := Nat.le_trans Z0 K374.1
  have Kp381 : Keep h0 T374.heap [u] := Kp0.trans K374 (allS (Or.inl (List.mem_of_getElem? (i := 0) rfl)) all0)
  show own_Go p e below s _ _ _ (T374.setTop (mkF m 5 #[.val (.ref u), .val (.ref r)] []))
  refine own_st (fun _ kQ => XS.aloadN X374.here hx rfl (hb hby own_d_jdk_120_method_1_code_5) rfl rfl kQ) ?_
  show own_Go p e below s _ _ _ (T374.setTop (mkF m 6 #[.val (.ref u), .val (.ref r)] [(.ref u)]))
  refine own_st (fun _ kQ => XS.aloadN X374.here hx rfl (hb hby own_d_jdk_120_method_1_code_6) rfl rfl kQ) ?_
  show own_Go p e below s _ _ _ (T374.setTop (mkF m 7 #[.val (.ref u), .val (.ref r)] [(.ref r), (.ref u)]))
  obtain ⟨T382, h382, X382, e382, W382, st382⟩ := putF X374 hx hZ hown (host := "") (Or.inl (hw _ (List.mem_of_getElem? (i := 116) rfl))) Via.refl rfl q377 q375 (Or.inr ⟨(hw _ (List.mem_of_getElem? (i := 117) rfl)), rfl, hnm⟩) (hw _ (List.mem_of_getElem? (i := 96) rfl)) (ty := (.object "java/util/List")) (by decide) rfl rfl (g := (mkF m 7 #[.val (.ref u), .val (.ref r)] [(.ref r), (.ref u)])) rfl rfl (hb hby own_d_jdk_120_method_1_code_7)
  refine own_st st382 ?_
  have N383 := Fr.snoc X382 N378 g1
  have F384 : Fld Z h382 u "java/util/Collections$UnmodifiableList" "list" "Ljava/util/List;" (.ref r) := q377.same W382
  have lt385 : u < h382.size := Nat.lt_of_lt_of_le q377.lt (Nat.le_of_eq W382.size.symm)
  have Zs386 : n0 ≤ h382.size := Nat.le_trans Zs380 (Nat.le_of_eq W382.size.symm)
  have Kp387 : Keep h0 h382 [u] := Kp381.wr W382 (Or.inl (List.mem_of_getElem? (i := 0) rfl))
  show own_Go p e below s _ _ _ (T382.setTop (mkF m 10 #[.val (.ref u), .val (.ref r)] []))
  have F388 : Exa Z h382 u "java/util/Collections$UnmodifiableRandomAccessList" := (q375.wr W382)
  have F389 : Fld Z h382 u "java/util/Collections$UnmodifiableCollection" "c" "Ljava/util/Collection;" (.ref r) := (q376.other W382 (Or.inr (slot_ne (Or.inr (hw _ (List.mem_of_getElem? (i := 115) rfl))) (Or.inr (hw _ (List.mem_of_getElem? (i := 117) rfl))) (by decide) (t := (.object "java/util/Collection")) (t' := (.object "java/util/List")) (by decide) (by decide))))
  refine own_ret0 X382 hx hlk Bd.returns (hb hby own_d_jdk_120_method_1_code_10) (by decide) (by decide) ?_
  rw [e382]
  exact ⟨N383, rfl, Kp387, F388, F389, F384⟩
theorem own_d_jdk_121_method_1_code_0 : decode jdk_121_method_1_code 0 = .ok (.aload_n 0, 1) := by decide +kernel
theorem own_d_jdk_121_method_1_code_1 : decode jdk_121_method_1_code 1 = .ok (.aload_n 1, 1) := by decide +kernel
theorem own_d_jdk_121_method_1_code_2 : decode jdk_121_method_1_code 2 = .ok (.invokespecial 1, 3) := by decide +kernel
theorem own_d_jdk_121_method_1_code_5 : decode jdk_121_method_1_code 5 = .ok (.return_, 1) := by decide +kernel
theorem own_pn15 : plainFor (⟨"java/util/Collections$UnmodifiableRandomAccessList", "<init>", "(Ljava/util/List;)V"⟩ : MethodName) = true := by decide +kernel
theorem own_pd8 : parseMethodDescriptor "(Ljava/util/List;)V" = some ⟨[(.object "java/util/List")], none⟩ := by decide +kernel
def own_rm_urinit_Q (Z : State) (u : Addr) (r : Addr) (h0 : Heap) (n0 : Nat) (v : Option Value) (h : Heap) (L : List Loc) : Prop := Fr n0 L ∧ v = none ∧ Keep h0 h [u] ∧ Exa Z h u "java/util/Collections$UnmodifiableRandomAccessList" ∧ Fld Z h u "java/util/Collections$UnmodifiableCollection" "c" "Ljava/util/Collection;" (.ref r) ∧ Fld Z h u "java/util/Collections$UnmodifiableList" "list" "Ljava/util/List;" (.ref r)
theorem own_rm_urinit_ef (m : MethodId) (u : Addr) (r : Addr)  : entryFrame m #[(.ref u), (.ref r)] 2 = mkF m 0 #[.val (.ref u), .val (.ref r)] [] := by first | (simp [entryFrame, mkF, argsToLocals, Value.category]; done) | rfl
set_option maxRecDepth 65536 in
set_option maxHeartbeats 40000000 in
theorem own_rm_urinit (l : Launch) (Z : State) (a0 : Array Value) (hw : ∀ d ∈ tables_1, d.before a0 Z = true) (ws : List Jvm.Cond) (u : Addr) (r : Addr) (h0 : Heap) (n0 : Nat) (Z0 : n0 ≤ h0.size) (E1 : Exa Z h0 u "java/util/Collections$UnmodifiableRandomAccessList") (F0 : Fld Z h0 u "java/util/Collections$UnmodifiableCollection" "c" "Ljava/util/Collection;" .null) (F1 : Fld Z h0 u "java/util/Collections$UnmodifiableList" "list" "Ljava/util/List;" .null) (g1 : n0 ≤ u) :
    MetFree l (⟨"java/util/Collections$UnmodifiableRandomAccessList", "<init>", "(Ljava/util/List;)V"⟩ : MethodName) (head1 (Jvm.Cond.code (⟨"java/util/Collections$UnmodifiableRandomAccessList", "<init>", "(Ljava/util/List;)V"⟩ : MethodName) jdk_121_method_1_code 2 none :: ws) ({ frames := 3, cells := 0, slots := 0, locals := 38 } : Room)) (fun aQ UQ => aQ = #[(.ref u), (.ref r)] ∧ Z.Warmed39 UQ.vm ∧ UQ.heap = h0) (fun _ _ _ _ _ => True) (fun _ UQ oQ U2 => ∃ vQ LQ, oQ = .returned vQ ∧ own_rm_urinit_Q Z u r h0 n0 vQ U2.heap LQ ∧ FrameEnd UQ oQ U2 LQ ({ frames := 3, cells := 0, slots := 0, locals := 38 } : Room).cells ({ frames := 3, cells := 0, slots := 0, locals := 38 } : Room).slots) := by
  refine MetFree.of_bodySF own_pn15 hisR ?_
  intro p e s m args below meth c s₁ Bd hml0 hP hK
  obtain ⟨rfl, hZ, hh⟩ := hP
  have hx := Bd.exec
  have hby := Bd.bytes
  have hml : c.maxLocals = 2 := hml0
  have hlk := BodyLoose.notSynchronized Bd
  have hown : s.vm.findClass "java/util/Collections$UnmodifiableRandomAccessList" = some m.cls := findClass_of_methodNamed Bd.named
  have hnm := (name_of_methodNamed Bd.named Bd.method).1
  have X0 : Stand p l e ({ frames := 3, cells := 0, slots := 0, locals := 38 } : Room) s m #[(.ref u), (.ref r)] below meth c s₁ [] 0 0 := Stand.of_body Bd
  have e0 : s₁.heap = h0 := by rw [← hh, Bd.state]; rfl
  have N0 := Fr.nil n0
  have Kp0 : Keep h0 h0 [u] := Keep.refl _ _
  show own_Go p e below s (own_rm_urinit_Q Z u r h0 n0) ({ frames := 3, cells := 0, slots := 0, locals := 38 } : Room).cells ({ frames := 3, cells := 0, slots := 0, locals := 38 } : Room).slots (s₁.setTop (entryFrame m #[(.ref u), (.ref r)] 2))
  rw [own_rm_urinit_ef]
  show own_Go p e below s _ _ _ (s₁.setTop (mkF m 0 #[.val (.ref u), .val (.ref r)] []))
  refine own_st (fun _ kQ => XS.aloadN X0.here hx rfl (hb hby own_d_jdk_121_method_1_code_0) rfl rfl kQ) ?_
  show own_Go p e below s _ _ _ (s₁.setTop (mkF m 1 #[.val (.ref u), .val (.ref r)] [(.ref u)]))
  refine own_st (fun _ kQ => XS.aloadN X0.here hx rfl (hb hby own_d_jdk_121_method_1_code_1) rfl rfl kQ) ?_
  show own_Go p e below s _ _ _ (s₁.setTop (mkF m 2 #[.val (.ref u), .val (.ref r)] [(.ref r), (.ref u)]))
  obtain ⟨_, _, ⟨T390, L390, k390, n390⟩, -, X390, ⟨Lc390, hQ390, l390, y390, z390⟩, st390⟩ := X0.specialBack hx (y := (⟨"java/util/Collections$UnmodifiableList", "<init>", "(Ljava/util/List;)V"⟩ : MethodName)) rfl hown (mvT hZ (hw _ (List.mem_of_getElem? (i := 101) rfl))) (mvT hZ (hw _ (List.mem_of_getElem? (i := 102) rfl))) (mvT hZ (hw _ (List.mem_of_getElem? (i := 106) rfl))) (by decide) (backOf (W := 0) (own_rm_ulinit l Z a0 hw [] u r h0 n0 Z0 E1 F0 F1 g1) hZ (hw _ (List.mem_of_getElem? (i := 106) rfl)) (hw _ (List.mem_of_getElem? (i := 105) rfl)) (by decide) (by decide)) (g := (mkF m 2 #[.val (.ref u), .val (.ref r)] [(.ref r), (.ref u)])) rfl (by rw [hml]; rfl) (Steps.refl _) (a := u) (argsL := [(.ref r)]) (rest := []) (lenOf own_pd8 rfl) rfl (by show 2 * 0 + _ ≤ _; exact Nat.le_of_eq rfl) (hb hby own_d_jdk_121_method_1_code_2) (fun _ _ => ⟨rfl, e0, (by decide : 0 + 0 ≤ _), (by decide : 0 + 0 ≤ _)⟩)
  dsimp only [Pt.U, Pt.locs, Pt.cells, Pt.slots] at X390 l390 y390 z390 st390 hQ390
  subst l390 y390 z390
  obtain ⟨N390q, rfl, K390, q391, q392, q393⟩ := hQ390
  have N394 := Fr.app N0 N390q
  refine own_tr st390 ?_
  have lt395 : u < T390.heap.size := Nat.lt_of_lt_of_le F1.lt K390.1
  have Zs396 : n0 ≤ T390.heap.size := Nat.le_trans Z0 K390.1
  have Kp397 : Keep h0 T390.heap [u] := Kp0.trans K390 (allS (Or.inl (List.mem_of_getElem? (i := 0) rfl)) all0)
  show own_Go p e below s _ _ _ (T390.setTop (mkF m 5 #[.val (.ref u), .val (.ref r)] []))
  refine own_ret0 X390 hx hlk Bd.returns (hb hby own_d_jdk_121_method_1_code_5) (by decide) (by decide) ?_
  skip
  exact ⟨N394, rfl, Kp397, q391, q392, q393⟩
theorem own_d_jdk_79_method_35_code_0 : decode jdk_79_method_35_code 0 = .ok (.aload_n 0, 1) := by decide +kernel
theorem own_d_jdk_79_method_35_code_1 : decode jdk_79_method_35_code 1 = .ok (.invokeinterface 211 1, 5) := by decide +kernel
theorem own_d_jdk_79_method_35_code_6 : decode jdk_79_method_35_code 6 = .ok (.ldc 212, 2) := by decide +kernel
theorem own_d_jdk_79_method_35_code_8 : decode jdk_79_method_35_code 8 = .ok (.if_acmp .eq 14, 3) := by decide +kernel
theorem own_d_jdk_79_method_35_code_11 : decode jdk_79_method_35_code 11 = .ok (.aload_n 0, 1) := by decide +kernel
theorem own_d_jdk_79_method_35_code_12 : decode jdk_79_method_35_code 12 = .ok (.invokeinterface 214 1, 5) := by decide +kernel
theorem own_d_jdk_79_method_35_code_17 : decode jdk_79_method_35_code 17 = .ok (.ldc 215, 2) := by decide +kernel
theorem own_d_jdk_79_method_35_code_19 : decode jdk_79_method_35_code 19 = .ok (.if_acmp .ne 5, 3) := by decide +kernel
theorem own_d_jdk_79_method_35_code_22 : decode jdk_79_method_35_code 22 = .ok (.aload_n 0, 1) := by decide +kernel
theorem own_d_jdk_79_method_35_code_23 : decode jdk_79_method_35_code 23 = .ok (.areturn, 1) := by decide +kernel
theorem own_d_jdk_79_method_35_code_24 : decode jdk_79_method_35_code 24 = .ok (.aload_n 0, 1) := by decide +kernel
theorem own_d_jdk_79_method_35_code_25 : decode jdk_79_method_35_code 25 = .ok (.instanceof 13, 3) := by decide +kernel
theorem own_d_jdk_79_method_35_code_28 : decode jdk_79_method_35_code 28 = .ok (.ifCond .eq 14, 3) := by decide +kernel
theorem own_d_jdk_79_method_35_code_31 : decode jdk_79_method_35_code 31 = .ok (.new 215, 3) := by decide +kernel
theorem own_d_jdk_79_method_35_code_34 : decode jdk_79_method_35_code 34 = .ok (.dup, 1) := by decide +kernel
theorem own_d_jdk_79_method_35_code_35 : decode jdk_79_method_35_code 35 = .ok (.aload_n 0, 1) := by decide +kernel
theorem own_d_jdk_79_method_35_code_36 : decode jdk_79_method_35_code 36 = .ok (.invokespecial 217, 3) := by decide +kernel
theorem own_d_jdk_79_method_35_code_39 : decode jdk_79_method_35_code 39 = .ok (.goto 11, 3) := by decide +kernel
theorem own_d_jdk_79_method_35_code_42 : decode jdk_79_method_35_code 42 = .ok (.new 212, 3) := by decide +kernel
theorem own_d_jdk_79_method_35_code_45 : decode jdk_79_method_35_code 45 = .ok (.dup, 1) := by decide +kernel
theorem own_d_jdk_79_method_35_code_46 : decode jdk_79_method_35_code 46 = .ok (.aload_n 0, 1) := by decide +kernel
theorem own_d_jdk_79_method_35_code_47 : decode jdk_79_method_35_code 47 = .ok (.invokespecial 219, 3) := by decide +kernel
theorem own_d_jdk_79_method_35_code_50 : decode jdk_79_method_35_code 50 = .ok (.areturn, 1) := by decide +kernel
theorem own_pn16 : plainFor (⟨"java/util/Collections", "unmodifiableList", "(Ljava/util/List;)Ljava/util/List;"⟩ : MethodName) = true := by decide +kernel
def own_rm_unmU_Q (Z : State) (r : Addr) (mA : Addr) (mL : Addr) (mR : Addr) (h0 : Heap) (n0 : Nat) (v : Option Value) (h : Heap) (L : List Loc) : Prop := ∃ u : Addr, Fr n0 L ∧ v = some (.ref u) ∧ Keep h0 h [] ∧ h0.size ≤ u ∧ Exa Z h u "java/util/Collections$UnmodifiableRandomAccessList" ∧ Fld Z h u "java/util/Collections$UnmodifiableCollection" "c" "Ljava/util/Collection;" (.ref r) ∧ Fld Z h u "java/util/Collections$UnmodifiableList" "list" "Ljava/util/List;" (.ref r)
theorem own_rm_unmU_ef (m : MethodId) (r : Addr)  : entryFrame m #[(.ref r)] 1 = mkF m 0 #[.val (.ref r)] [] := by first | (simp [entryFrame, mkF, argsToLocals, Value.category]; done) | rfl
set_option maxRecDepth 65536 in
set_option maxHeartbeats 40000000 in
theorem own_rm_unmU (l : Launch) (Z : State) (a0 : Array Value) (hw : ∀ d ∈ tables_1, d.before a0 Z = true) (ws : List Jvm.Cond) (r : Addr) (mA : Addr) (mL : Addr) (mR : Addr) (h0 : Heap) (n0 : Nat) (Z0 : n0 ≤ h0.size) (M_AL : own_Mi Z "java/util/ArrayList" mA) (M_UL : own_Mi Z "java/util/Collections$UnmodifiableList" mL) (M_UR : own_Mi Z "java/util/Collections$UnmodifiableRandomAccessList" mR) (h1 : ¬ mA = mL) (h2 : ¬ mA = mR) (E1 : Exa Z h0 r "java/util/ArrayList") :
    MetFree l (⟨"java/util/Collections", "unmodifiableList", "(Ljava/util/List;)Ljava/util/List;"⟩ : MethodName) (head1 (Jvm.Cond.code (⟨"java/util/Collections", "unmodifiableList", "(Ljava/util/List;)Ljava/util/List;"⟩ : MethodName) jdk_79_method_35_code 1 (some (.object "java/util/List")) :: ws) ({ frames := 4, cells := 1, slots := 2, locals := 52 } : Room)) (fun aQ UQ => aQ = #[(.ref r)] ∧ Z.Warmed39 UQ.vm ∧ UQ.heap = h0) (fun _ _ _ _ _ => True) (fun _ UQ oQ U2 => ∃ vQ LQ, oQ = .returned vQ ∧ own_rm_unmU_Q Z r mA mL mR h0 n0 vQ U2.heap LQ ∧ FrameEnd UQ oQ U2 LQ ({ frames := 4, cells := 1, slots := 2, locals := 52 } : Room).cells ({ frames := 4, cells := 1, slots := 2, locals := 52 } : Room).slots) := by
  refine MetFree.of_bodySF own_pn16 hisR ?_
  intro p e s m args below meth c s₁ Bd hml0 hP hK
  obtain ⟨rfl, hZ, hh⟩ := hP
  have hx := Bd.exec
  have hby := Bd.bytes
  have hml : c.maxLocals = 1 := hml0
  have hlk := BodyLoose.notSynchronized Bd
  have hown : s.vm.findClass "java/util/Collections" = some m.cls := findClass_of_methodNamed Bd.named
  have hnm := (name_of_methodNamed Bd.named Bd.method).1
  have X0 : Stand p l e ({ frames := 4, cells := 1, slots := 2, locals := 52 } : Room) s m #[(.ref r)] below meth c s₁ [] 0 0 := Stand.of_body Bd
  have e0 : s₁.heap = h0 := by rw [← hh, Bd.state]; rfl
  have N0 := Fr.nil n0
  have Kp0 : Keep h0 h0 [] := Keep.refl _ _
  show own_Go p e below s (own_rm_unmU_Q Z r mA mL mR h0 n0) ({ frames := 4, cells := 1, slots := 2, locals := 52 } : Room).cells ({ frames := 4, cells := 1, slots := 2, locals := 52 } : Room).slots (s₁.setTop (entryFrame m #[(.ref r)] 1))
  rw [own_rm_unmU_ef]
  show own_Go p e below s _ _ _ (s₁.setTop (mkF m 0 #[.val (.ref r)] []))
  refine own_st (fun _ kQ => XS.aloadN X0.here hx rfl (hb hby own_d_jdk_79_method_35_code_0) rfl rfl kQ) ?_
  show own_Go p e below s _ _ _ (s₁.setTop (mkF m 1 #[.val (.ref r)] [(.ref r)]))
  obtain ⟨T398, X398, e398, st398⟩ := own_gclsI X0 hx hZ hown (hw _ (List.mem_of_getElem? (i := 79) rfl)) (hw _ (List.mem_of_getElem? (i := 80) rfl)) (hw _ (List.mem_of_getElem? (i := 81) rfl)) (hw _ (List.mem_of_getElem? (i := 82) rfl)) (hw _ (List.mem_of_getElem? (i := 83) rfl)) (hw _ (List.mem_of_getElem? (i := 84) rfl)) (hw _ (List.mem_of_getElem? (i := 85) rfl)) (hw _ (List.mem_of_getElem? (i := 86) rfl)) (hw _ (List.mem_of_getElem? (i := 87) rfl)) e0 E1 M_AL (g := (mkF m 1 #[.val (.ref r)] [(.ref r)])) rfl (by rw [hml]; rfl) rfl (hb hby own_d_jdk_79_method_35_code_1) (by decide) (W := 0) (by show 2 * 0 + _ ≤ _; exact Nat.le_of_eq rfl) (by decide)
  refine own_st st398 ?_
  show own_Go p e below s _ _ _ (T398.setTop (mkF m 6 #[.val (.ref r)] [(.ref mA)]))
  obtain ⟨T399, X399, e399, st399⟩ := own_ldcM X398 hx hZ hown (hw _ (List.mem_of_getElem? (i := 89) rfl)) M_UL e398 (g := (mkF m 6 #[.val (.ref r)] [(.ref mA)])) rfl (hb hby own_d_jdk_79_method_35_code_6)
  refine own_st st399 ?_
  show own_Go p e below s _ _ _ (T399.setTop (mkF m 8 #[.val (.ref r)] [(.ref mL), (.ref mA)]))
  refine own_st (fun _ kQ => XT.acmpNo X399.here hx rfl (hb hby own_d_jdk_79_method_35_code_8) rfl rfl rfl (XT.aa_eq_f (fun q => h1 (Value.ref.inj q))) kQ) ?_
  show own_Go p e below s _ _ _ (T399.setTop (mkF m 11 #[.val (.ref r)] []))
  refine own_st (fun _ kQ => XS.aloadN X399.here hx rfl (hb hby own_d_jdk_79_method_35_code_11) rfl rfl kQ) ?_
  show own_Go p e below s _ _ _ (T399.setTop (mkF m 12 #[.val (.ref r)] [(.ref r)]))
  obtain ⟨T400, X400, e400, st400⟩ := own_gclsI X399 hx hZ hown (hw _ (List.mem_of_getElem? (i := 91) rfl)) (hw _ (List.mem_of_getElem? (i := 80) rfl)) (hw _ (List.mem_of_getElem? (i := 81) rfl)) (hw _ (List.mem_of_getElem? (i := 82) rfl)) (hw _ (List.mem_of_getElem? (i := 83) rfl)) (hw _ (List.mem_of_getElem? (i := 84) rfl)) (hw _ (List.mem_of_getElem? (i := 85) rfl)) (hw _ (List.mem_of_getElem? (i := 86) rfl)) (hw _ (List.mem_of_getElem? (i := 87) rfl)) e399 E1 M_AL (g := (mkF m 12 #[.val (.ref r)] [(.ref r)])) rfl (by rw [hml]; rfl) rfl (hb hby own_d_jdk_79_method_35_code_12) (by decide) (W := 0) (by show 2 * 0 + _ ≤ _; exact Nat.le_of_eq rfl) (by decide)
  refine own_st st400 ?_
  show own_Go p e below s _ _ _ (T400.setTop (mkF m 17 #[.val (.ref r)] [(.ref mA)]))
  obtain ⟨T401, X401, e401, st401⟩ := own_ldcM X400 hx hZ hown (hw _ (List.mem_of_getElem? (i := 92) rfl)) M_UR e400 (g := (mkF m 17 #[.val (.ref r)] [(.ref mA)])) rfl (hb hby own_d_jdk_79_method_35_code_17)
  refine own_st st401 ?_
  show own_Go p e below s _ _ _ (T401.setTop (mkF m 19 #[.val (.ref r)] [(.ref mR), (.ref mA)]))
  refine own_st (fun _ kQ => XT.acmpYes X401.here hx rfl (pc0 := 19) (pc' := 24) rfl (hb hby own_d_jdk_79_method_35_code_19) rfl rfl rfl (XT.aa_ne_t (fun q => h2 (Value.ref.inj q))) (by decide) (by decide) kQ) ?_
  show own_Go p e below s _ _ _ (T401.setTop (mkF m 24 #[.val (.ref r)] []))
  refine own_st (fun _ kQ => XS.aloadN X401.here hx rfl (hb hby own_d_jdk_79_method_35_code_24) rfl rfl kQ) ?_
  show own_Go p e below s _ _ _ (T401.setTop (mkF m 25 #[.val (.ref r)] [(.ref r)]))
  obtain ⟨T402, X402, e402, st402⟩ := instY X401 hx hZ hown (hw _ (List.mem_of_getElem? (i := 94) rfl)) e401 (Ins.of_exa E1 (hw _ (List.mem_of_getElem? (i := 95) rfl))) (g := (mkF m 25 #[.val (.ref r)] [(.ref r)])) rfl rfl (hb hby own_d_jdk_79_method_35_code_25)
  refine own_st st402 ?_
  show own_Go p e below s _ _ _ (T402.setTop (mkF m 28 #[.val (.ref r)] [(.int (1 : Int32))]))
  refine own_st (fun _ kQ => XS.ifNo X402.here hx rfl (hb hby own_d_jdk_79_method_35_code_28) rfl (XT.i0_eq_f (by decide)) kQ) ?_
  show own_Go p e below s _ _ _ (T402.setTop (mkF m 31 #[.val (.ref r)] []))
  obtain ⟨T403, h403, X403, e403, E403, A403, D403, -, st403⟩ := newO X402 hx hZ hown (hw _ (List.mem_of_getElem? (i := 92) rfl)) (hw _ (List.mem_of_getElem? (i := 96) rfl)) (hw _ (List.mem_of_getElem? (i := 97) rfl)) e402 (g := (mkF m 31 #[.val (.ref r)] [])) rfl (hb hby own_d_jdk_79_method_35_code_31) (by decide) (by decide)
  obtain ⟨b403, g403⟩ : ∃ z, z = h0.size := ⟨_, rfl⟩
  rw [← g403] at A403 D403 st403
  refine own_st st403 ?_
  have lt404 : r < h403.size := Nat.lt_of_lt_of_le E1.lt E403.1
  have Zs405 : n0 ≤ h403.size := Nat.le_trans Z0 E403.1
  have Kp406 : Keep h0 h403 [] := Kp0.ext E403
  have ne407 : r ≠ b403 := Nat.ne_of_lt (Nat.lt_of_lt_of_le E1.lt (Nat.le_of_eq g403.symm))
  have g408 : n0 ≤ b403 := Nat.le_trans Z0 (Nat.le_of_eq g403.symm)
  have sz409 : h0.size ≤ b403 := Nat.le_trans Kp0.1 (Nat.le_of_eq g403.symm)
  have F410 : Fld Z h403 b403 "java/util/Collections$UnmodifiableCollection" "c" "Ljava/util/Collection;" .null := D403 (Or.inr (hw _ (List.mem_of_getElem? (i := 115) rfl))) (ty := (.object "java/util/Collection")) (by decide)
  have F411 : Fld Z h403 b403 "java/util/Collections$UnmodifiableList" "list" "Ljava/util/List;" .null := D403 (Or.inr (hw _ (List.mem_of_getElem? (i := 117) rfl))) (ty := (.object "java/util/List")) (by decide)
  show own_Go p e below s _ _ _ (T403.setTop (mkF m 34 #[.val (.ref r)] [(.ref b403)]))
  refine own_st (fun _ kQ => XS.dup X403.here hx rfl (hb hby own_d_jdk_79_method_35_code_34) rfl rfl kQ) ?_
  show own_Go p e below s _ _ _ (T403.setTop (mkF m 35 #[.val (.ref r)] [(.ref b403), (.ref b403)]))
  refine own_st (fun _ kQ => XS.aloadN X403.here hx rfl (hb hby own_d_jdk_79_method_35_code_35) rfl rfl kQ) ?_
  show own_Go p e below s _ _ _ (T403.setTop (mkF m 36 #[.val (.ref r)] [(.ref r), (.ref b403), (.ref b403)]))
  obtain ⟨_, _, ⟨T412, L412, k412, n412⟩, -, X412, ⟨Lc412, hQ412, l412, y412, z412⟩, st412⟩ := X403.specialBack hx (y := (⟨"java/util/Collections$UnmodifiableRandomAccessList", "<init>", "(Ljava/util/List;)V"⟩ : MethodName)) rfl hown (mvT hZ (hw _ (List.mem_of_getElem? (i := 98) rfl))) (mvT hZ (hw _ (List.mem_of_getElem? (i := 99) rfl))) (mvT hZ (hw _ (List.mem_of_getElem? (i := 100) rfl))) (by decide) (backOf (W := 1) (own_rm_urinit l Z a0 hw [] b403 r h403 n0 Zs405 A403 F410 F411 g408) hZ (hw _ (List.mem_of_getElem? (i := 100) rfl)) (hw _ (List.mem_of_getElem? (i := 97) rfl)) (by decide) (by decide)) (g := (mkF m 36 #[.val (.ref r)] [(.ref r), (.ref b403), (.ref b403)])) rfl (by rw [hml]; rfl) (Steps.refl _) (a := b403) (argsL := [(.ref r)]) (rest := [(.ref b403)]) (lenOf own_pd8 rfl) rfl (by show 2 * 0 + _ ≤ _; exact Nat.le_of_eq rfl) (hb hby own_d_jdk_79_method_35_code_36) (fun _ _ => ⟨rfl, e403, (by decide : 1 + 0 ≤ _), (by decide : 2 + 0 ≤ _)⟩)
  dsimp only [Pt.U, Pt.locs, Pt.cells, Pt.slots] at X412 l412 y412 z412 st412 hQ412
  subst l412 y412 z412
  obtain ⟨N412q, rfl, K412, q413, q414, q415⟩ := hQ412
  have N416 := Fr.app N0 N412q
  refine own_tr st412 ?_
  have lt417 : r < T412.heap.size := Nat.lt_of_lt_of_le lt404 K412.1
  have lt418 : b403 < T412.heap.size := Nat.lt_of_lt_of_le A403.lt K412.1
  have Zs419 : n0 ≤ T412.heap.size := Nat.le_trans Zs405 K412.1
  have Kp420 : Keep h0 T412.heap [] := Kp406.trans K412 (allS (Or.inr sz409) all0)
  show own_Go p e below s _ _ _ (T412.setTop (mkF m 39 #[.val (.ref r)] [(.ref b403)]))
  refine own_st (fun _ kQ => XS.goto X412.here hx rfl (pc0 := 39) (pc' := 50) rfl (hb hby own_d_jdk_79_method_35_code_39) (by decide) (by decide) kQ) ?_
  show own_Go p e below s _ _ _ (T412.setTop (mkF m 50 #[.val (.ref r)] [(.ref b403)]))
  refine own_retA X412 hx hlk Bd.returns rfl (hb hby own_d_jdk_79_method_35_code_50) (by decide) (by decide) ?_
  skip
  exact ⟨b403, N416, rfl, Kp420, sz409, q413, q414, q415⟩
theorem own_d_prog_6_method_1_code_0 : decode prog_6_method_1_code 0 = .ok (.aload_n 0, 1) := by decide +kernel
theorem own_d_prog_6_method_1_code_1 : decode prog_6_method_1_code 1 = .ok (.invokespecial 1, 3) := by decide +kernel
theorem own_d_prog_6_method_1_code_4 : decode prog_6_method_1_code 4 = .ok (.aload_n 0, 1) := by decide +kernel
theorem own_d_prog_6_method_1_code_5 : decode prog_6_method_1_code 5 = .ok (.iload_n 1, 1) := by decide +kernel
theorem own_d_prog_6_method_1_code_6 : decode prog_6_method_1_code 6 = .ok (.putfield 7, 3) := by decide +kernel
theorem own_d_prog_6_method_1_code_9 : decode prog_6_method_1_code 9 = .ok (.aload_n 0, 1) := by decide +kernel
theorem own_d_prog_6_method_1_code_10 : decode prog_6_method_1_code 10 = .ok (.iload_n 2, 1) := by decide +kernel
theorem own_d_prog_6_method_1_code_11 : decode prog_6_method_1_code 11 = .ok (.putfield 13, 3) := by decide +kernel
theorem own_d_prog_6_method_1_code_14 : decode prog_6_method_1_code 14 = .ok (.aload_n 0, 1) := by decide +kernel
theorem own_d_prog_6_method_1_code_15 : decode prog_6_method_1_code 15 = .ok (.aload_n 3, 1) := by decide +kernel
theorem own_d_prog_6_method_1_code_16 : decode prog_6_method_1_code 16 = .ok (.invokestatic 16, 3) := by decide +kernel
theorem own_d_prog_6_method_1_code_19 : decode prog_6_method_1_code 19 = .ok (.putfield 22, 3) := by decide +kernel
theorem own_d_prog_6_method_1_code_22 : decode prog_6_method_1_code 22 = .ok (.return_, 1) := by decide +kernel
theorem own_pn17 : plainFor (⟨"com/example/rationed_session/rationedsession/model/Partition", "<init>", "(IILjava/util/List;)V"⟩ : MethodName) = true := by decide +kernel
theorem own_pd9 : parseMethodDescriptor "(Ljava/util/List;)Ljava/util/List;" = some ⟨[(.object "java/util/List")], some (.object "java/util/List")⟩ := by decide +kernel
def own_rm_pinitU_Q (Z : State) (q : Addr) (x1 : Int32) (x2 : Int32) (r : Addr) (mA : Addr) (mL : Addr) (mR : Addr) (h0 : Heap) (n0 : Nat) (v : Option Value) (h : Heap) (L : List Loc) : Prop := ∃ u : Addr, Fr n0 L ∧ v = none ∧ Keep h0 h [q] ∧ Exa Z h q "com/example/rationed_session/rationedsession/model/Partition" ∧ Fld Z h q "com/example/rationed_session/rationedsession/model/Partition" "number" "I" (.int x1) ∧ Fld Z h q "com/example/rationed_session/rationedsession/model/Partition" "firstIndex" "I" (.int x2) ∧ Fld Z h q "com/example/rationed_session/rationedsession/model/Partition" "inputs" "Ljava/util/List;" (.ref u) ∧ h0.size ≤ u ∧ Exa Z h u "java/util/Collections$UnmodifiableRandomAccessList" ∧ Fld Z h u "java/util/Collections$UnmodifiableCollection" "c" "Ljava/util/Collection;" (.ref r) ∧ Fld Z h u "java/util/Collections$UnmodifiableList" "list" "Ljava/util/List;" (.ref r)
theorem own_rm_pinitU_ef (m : MethodId) (q : Addr) (x1 : Int32) (x2 : Int32) (r : Addr)  : entryFrame m #[(.ref q), (.int x1), (.int x2), (.ref r)] 4 = mkF m 0 #[.val (.ref q), .val (.int x1), .val (.int x2), .val (.ref r)] [] := by first | (simp [entryFrame, mkF, argsToLocals, Value.category]; done) | rfl
set_option maxRecDepth 65536 in
set_option maxHeartbeats 40000000 in
theorem own_rm_pinitU (l : Launch) (Z : State) (a0 : Array Value) (hw : ∀ d ∈ tables_1, d.before a0 Z = true) (ws : List Jvm.Cond) (q : Addr) (x1 : Int32) (x2 : Int32) (r : Addr) (mA : Addr) (mL : Addr) (mR : Addr) (h0 : Heap) (n0 : Nat) (Z0 : n0 ≤ h0.size) (M_AL : own_Mi Z "java/util/ArrayList" mA) (M_UL : own_Mi Z "java/util/Collections$UnmodifiableList" mL) (M_UR : own_Mi Z "java/util/Collections$UnmodifiableRandomAccessList" mR) (h1 : ¬ mA = mL) (h2 : ¬ mA = mR) (E1 : Exa Z h0 q "com/example/rationed_session/rationedsession/model/Partition") (E2 : Exa Z h0 r "java/util/ArrayList") (F0 : Fld Z h0 q "com/example/rationed_session/rationedsession/model/Partition" "number" "I" (.int (0 : Int32))) (F1 : Fld Z h0 q "com/example/rationed_session/rationedsession/model/Partition" "firstIndex" "I" (.int (0 : Int32))) (F2 : Fld Z h0 q "com/example/rationed_session/rationedsession/model/Partition" "inputs" "Ljava/util/List;" .null) (g1 : n0 ≤ q) :
    MetFree l (⟨"com/example/rationed_session/rationedsession/model/Partition", "<init>", "(IILjava/util/List;)V"⟩ : MethodName) (head1 (Jvm.Cond.code (⟨"com/example/rationed_session/rationedsession/model/Partition", "<init>", "(IILjava/util/List;)V"⟩ : MethodName) prog_6_method_1_code 4 none :: ws) ({ frames := 5, cells := 1, slots := 2, locals := 65 } : Room)) (fun aQ UQ => aQ = #[(.ref q), (.int x1), (.int x2), (.ref r)] ∧ Z.Warmed39 UQ.vm ∧ UQ.heap = h0) (fun _ _ _ _ _ => True) (fun _ UQ oQ U2 => ∃ vQ LQ, oQ = .returned vQ ∧ own_rm_pinitU_Q Z q x1 x2 r mA mL mR h0 n0 vQ U2.heap LQ ∧ FrameEnd UQ oQ U2 LQ ({ frames := 5, cells := 1, slots := 2, locals := 65 } : Room).cells ({ frames := 5, cells := 1, slots := 2, locals := 65 } : Room).slots) := by
  refine MetFree.of_bodySF own_pn17 hisR ?_
  intro p e s m args below meth c s₁ Bd hml0 hP hK
  obtain ⟨rfl, hZ, hh⟩ := hP
  have hx := Bd.exec
  have hby := Bd.bytes
  have hml : c.maxLocals = 4 := hml0
  have hlk := BodyLoose.notSynchronized Bd
  have hown : s.vm.findClass "com/example/rationed_session/rationedsession/model/Partition" = some m.cls := findClass_of_methodNamed Bd.named
  have hnm := (name_of_methodNamed Bd.named Bd.method).1
  have X0 : Stand p l e ({ frames := 5, cells := 1, slots := 2, locals := 65 } : Room) s m #[(.ref q), (.int x1), (.int x2), (.ref r)] below meth c s₁ [] 0 0 := Stand.of_body Bd
  have e0 : s₁.heap = h0 := by rw [← hh, Bd.state]; rfl
  have N0 := Fr.nil n0
  have Kp0 : Keep h0 h0 [q] := Keep.refl _ _
  show own_Go p e below s (own_rm_pinitU_Q Z q x1 x2 r mA mL mR h0 n0) ({ frames := 5, cells := 1, slots := 2, locals := 65 } : Room).cells ({ frames := 5, cells := 1, slots := 2, locals := 65 } : Room).slots (s₁.setTop (entryFrame m #[(.ref q), (.int x1), (.int x2), (.ref r)] 4))
  rw [own_rm_pinitU_ef]
  show own_Go p e below s _ _ _ (s₁.setTop (mkF m 0 #[.val (.ref q), .val (.int x1), .val (.int x2), .val (.ref r)] []))
  refine own_st (fun _ kQ => XS.aloadN X0.here hx rfl (hb hby own_d_prog_6_method_1_code_0) rfl rfl kQ) ?_
  show own_Go p e below s _ _ _ (s₁.setTop (mkF m 1 #[.val (.ref q), .val (.int x1), .val (.int x2), .val (.ref r)] [(.ref q)]))
  obtain ⟨T421, X421, e421, st421⟩ := initO X0 hx hZ hown (hw _ (List.mem_of_getElem? (i := 70) rfl)) (hw _ (List.mem_of_getElem? (i := 19) rfl)) (hw _ (List.mem_of_getElem? (i := 20) rfl)) e0 (g := (mkF m 1 #[.val (.ref q), .val (.int x1), .val (.int x2), .val (.ref r)] [(.ref q)])) rfl (by rw [hml]; rfl) rfl (hb hby own_d_prog_6_method_1_code_1) (by decide) (W := 0) (by show 2 * 0 + _ ≤ _; exact Nat.le_of_eq rfl) (by decide)
  refine own_st st421 ?_
  show own_Go p e below s _ _ _ (T421.setTop (mkF m 4 #[.val (.ref q), .val (.int x1), .val (.int x2), .val (.ref r)] []))
  refine own_st (fun _ kQ => XS.aloadN X421.here hx rfl (hb hby own_d_prog_6_method_1_code_4) rfl rfl kQ) ?_
  show own_Go p e below s _ _ _ (T421.setTop (mkF m 5 #[.val (.ref q), .val (.int x1), .val (.int x2), .val (.ref r)] [(.ref q)]))
  refine own_st (fun _ kQ => XS.iloadN X421.here hx rfl (hb hby own_d_prog_6_method_1_code_5) rfl kQ) ?_
  show own_Go p e below s _ _ _ (T421.setTop (mkF m 6 #[.val (.ref q), .val (.int x1), .val (.int x2), .val (.ref r)] [(.int x1), (.ref q)]))
  obtain ⟨T422, h422, X422, e422, W422, st422⟩ := putF X421 hx hZ hown (host := "") (Or.inl (hw _ (List.mem_of_getElem? (i := 71) rfl))) Via.refl e421 F0 E1 (Or.inr ⟨(hw _ (List.mem_of_getElem? (i := 72) rfl)), rfl, hnm⟩) (hw _ (List.mem_of_getElem? (i := 65) rfl)) (ty := .int) (by decide) rfl rfl (g := (mkF m 6 #[.val (.ref q), .val (.int x1), .val (.int x2), .val (.ref r)] [(.int x1), (.ref q)])) rfl rfl (hb hby own_d_prog_6_method_1_code_6)
  refine own_st st422 ?_
  have N423 := Fr.snoc X422 N0 g1
  have F424 : Fld Z h422 q "com/example/rationed_session/rationedsession/model/Partition" "number" "I" (.int x1) := F0.same W422
  have lt425 : q < h422.size := Nat.lt_of_lt_of_le F2.lt (Nat.le_of_eq W422.size.symm)
  have lt426 : r < h422.size := Nat.lt_of_lt_of_le E2.lt (Nat.le_of_eq W422.size.symm)
  have Zs427 : n0 ≤ h422.size := Nat.le_trans Z0 (Nat.le_of_eq W422.size.symm)
  have Kp428 : Keep h0 h422 [q] := Kp0.wr W422 (Or.inl (List.mem_of_getElem? (i := 0) rfl))
  show own_Go p e below s _ _ _ (T422.setTop (mkF m 9 #[.val (.ref q), .val (.int x1), .val (.int x2), .val (.ref r)] []))
  refine own_st (fun _ kQ => XS.aloadN X422.here hx rfl (hb hby own_d_prog_6_method_1_code_9) rfl rfl kQ) ?_
  show own_Go p e below s _ _ _ (T422.setTop (mkF m 10 #[.val (.ref q), .val (.int x1), .val (.int x2), .val (.ref r)] [(.ref q)]))
  refine own_st (fun _ kQ => XS.iloadN X422.here hx rfl (hb hby own_d_prog_6_method_1_code_10) rfl kQ) ?_
  show own_Go p e below s _ _ _ (T422.setTop (mkF m 11 #[.val (.ref q), .val (.int x1), .val (.int x2), .val (.ref r)] [(.int x2), (.ref q)]))
  have F429 : Fld Z h422 q "com/example/rationed_session/rationedsession/model/Partition" "firstIndex" "I" (.int (0 : Int32)) := (F1.other W422 (Or.inr (slot_ne (Or.inr (hw _ (List.mem_of_getElem? (i := 74) rfl))) (Or.inr (hw _ (List.mem_of_getElem? (i := 72) rfl))) (by decide) (t := .int) (t' := .int) (by decide) (by decide))))
  have F430 : Exa Z h422 q "com/example/rationed_session/rationedsession/model/Partition" := (E1.wr W422)
  obtain ⟨T431, h431, X431, e431, W431, st431⟩ := putF X422 hx hZ hown (host := "") (Or.inl (hw _ (List.mem_of_getElem? (i := 73) rfl))) Via.refl e422 F429 F430 (Or.inr ⟨(hw _ (List.mem_of_getElem? (i := 74) rfl)), rfl, hnm⟩) (hw _ (List.mem_of_getElem? (i := 65) rfl)) (ty := .int) (by decide) rfl rfl (g := (mkF m 11 #[.val (.ref q), .val (.int x1), .val (.int x2), .val (.ref r)] [(.int x2), (.ref q)])) rfl rfl (hb hby own_d_prog_6_method_1_code_11)
  refine own_st st431 ?_
  have N432 := Fr.snoc X431 N423 g1
  have F433 : Fld Z h431 q "com/example/rationed_session/rationedsession/model/Partition" "firstIndex" "I" (.int x2) := F429.same W431
  have lt434 : q < h431.size := Nat.lt_of_lt_of_le lt425 (Nat.le_of_eq W431.size.symm)
  have lt435 : r < h431.size := Nat.lt_of_lt_of_le lt426 (Nat.le_of_eq W431.size.symm)
  have Zs436 : n0 ≤ h431.size := Nat.le_trans Zs427 (Nat.le_of_eq W431.size.symm)
  have Kp437 : Keep h0 h431 [q] := Kp428.wr W431 (Or.inl (List.mem_of_getElem? (i := 0) rfl))
  show own_Go p e below s _ _ _ (T431.setTop (mkF m 14 #[.val (.ref q), .val (.int x1), .val (.int x2), .val (.ref r)] []))
  refine own_st (fun _ kQ => XS.aloadN X431.here hx rfl (hb hby own_d_prog_6_method_1_code_14) rfl rfl kQ) ?_
  show own_Go p e below s _ _ _ (T431.setTop (mkF m 15 #[.val (.ref q), .val (.int x1), .val (.int x2), .val (.ref r)] [(.ref q)]))
  refine own_st (fun _ kQ => XS.aloadN X431.here hx rfl (hb hby own_d_prog_6_method_1_code_15) rfl rfl kQ) ?_
  show own_Go p e below s _ _ _ (T431.setTop (mkF m 16 #[.val (.ref q), .val (.int x1), .val (.int x2), .val (.ref r)] [(.ref r), (.ref q)]))
  have F439 : Exa Z h431 r "java/util/ArrayList" := ((E2.wr W422).wr W431)
  obtain ⟨_, _, ⟨T438, L438, k438, n438⟩, -, X438, ⟨Lc438, hQ438, l438, y438, z438⟩, st438⟩ := Jvm.LawKit.callS X431 hx (y := (⟨"java/util/Collections", "unmodifiableList", "(Ljava/util/List;)Ljava/util/List;"⟩ : MethodName)) hown (mvT hZ (hw _ (List.mem_of_getElem? (i := 75) rfl))) (mvT hZ (hw _ (List.mem_of_getElem? (i := 76) rfl))) (mvT hZ (hw _ (List.mem_of_getElem? (i := 77) rfl))) (mvT hZ (hw _ (List.mem_of_getElem? (i := 78) rfl))) (by decide) (backOf (W := 1) (own_rm_unmU l Z a0 hw [] r mA mL mR h431 n0 Zs436 M_AL M_UL M_UR h1 h2 F439) hZ (hw _ (List.mem_of_getElem? (i := 78) rfl)) (hw _ (List.mem_of_getElem? (i := 77) rfl)) (by decide) (by decide)) (g := (mkF m 16 #[.val (.ref q), .val (.int x1), .val (.int x2), .val (.ref r)] [(.ref r), (.ref q)])) rfl (by rw [hml]; rfl) (argsL := [(.ref r)]) (rest := [(.ref q)]) (lenOf own_pd9 rfl) rfl (by show 2 * 0 + _ ≤ _; exact Nat.le_of_eq rfl) (hb hby own_d_prog_6_method_1_code_16) (fun _ _ => ⟨rfl, e431, (by decide : 0 + 1 ≤ _), (by decide : 0 + 2 ≤ _)⟩)
  dsimp only [Pt.U, Pt.locs, Pt.cells, Pt.slots] at X438 l438 y438 z438 st438 hQ438
  subst l438 y438 z438
  obtain ⟨x440, N438q, rfl, K438, q441, q442, q443, q444⟩ := hQ438
  have N445 := Fr.app N432 N438q
  refine own_st st438 ?_
  have lt446 : q < T438.heap.size := Nat.lt_of_lt_of_le lt434 K438.1
  have lt447 : r < T438.heap.size := Nat.lt_of_lt_of_le lt435 K438.1
  have Zs448 : n0 ≤ T438.heap.size := Nat.le_trans Zs436 K438.1
  have Kp449 : Keep h0 T438.heap [q] := Kp437.trans K438 all0
  have ne450 : q ≠ x440 := Nat.ne_of_lt (Nat.lt_of_lt_of_le lt434 q441)
  have ne451 : r ≠ x440 := Nat.ne_of_lt (Nat.lt_of_lt_of_le lt435 q441)
  have g452 : n0 ≤ x440 := Nat.le_trans Zs436 q441
  have sz453 : h0.size ≤ x440 := Nat.le_trans Kp437.1 q441
  show own_Go p e below s _ _ _ (T438.setTop (mkF m 19 #[.val (.ref q), .val (.int x1), .val (.int x2), .val (.ref r)] [(.ref x440), (.ref q)]))
  have F454 : Fld Z T438.heap q "com/example/rationed_session/rationedsession/model/Partition" "inputs" "Ljava/util/List;" .null := (((F2.other W422 (Or.inr (slot_ne (Or.inr (hw _ (List.mem_of_getElem? (i := 119) rfl))) (Or.inr (hw _ (List.mem_of_getElem? (i := 72) rfl))) (by decide) (t := (.object "java/util/List")) (t' := .int) (by decide) (by decide)))).other W431 (Or.inr (slot_ne (Or.inr (hw _ (List.mem_of_getElem? (i := 119) rfl))) (Or.inr (hw _ (List.mem_of_getElem? (i := 74) rfl))) (by decide) (t := (.object "java/util/List")) (t' := .int) (by decide) (by decide)))).keep K438 nin0)
  have F455 : Exa Z T438.heap q "com/example/rationed_session/rationedsession/model/Partition" := ((F430.wr W431).keep K438)
  obtain ⟨T456, h456, X456, e456, W456, st456⟩ := putF X438 hx hZ hown (host := "") (Or.inl (hw _ (List.mem_of_getElem? (i := 118) rfl))) Via.refl rfl F454 F455 (Or.inr ⟨(hw _ (List.mem_of_getElem? (i := 119) rfl)), rfl, hnm⟩) (hw _ (List.mem_of_getElem? (i := 65) rfl)) (ty := (.object "java/util/List")) (by decide) rfl rfl (g := (mkF m 19 #[.val (.ref q), .val (.int x1), .val (.int x2), .val (.ref r)] [(.ref x440), (.ref q)])) rfl rfl (hb hby own_d_prog_6_method_1_code_19)
  refine own_st st456 ?_
  have N457 := Fr.snoc X456 N445 g1
  have F458 : Fld Z h456 q "com/example/rationed_session/rationedsession/model/Partition" "inputs" "Ljava/util/List;" (.ref x440) := F454.same W456
  have lt459 : q < h456.size := Nat.lt_of_lt_of_le lt446 (Nat.le_of_eq W456.size.symm)
  have lt460 : r < h456.size := Nat.lt_of_lt_of_le lt447 (Nat.le_of_eq W456.size.symm)
  have lt461 : x440 < h456.size := Nat.lt_of_lt_of_le q444.lt (Nat.le_of_eq W456.size.symm)
  have Zs462 : n0 ≤ h456.size := Nat.le_trans Zs448 (Nat.le_of_eq W456.size.symm)
  have Kp463 : Keep h0 h456 [q] := Kp449.wr W456 (Or.inl (List.mem_of_getElem? (i := 0) rfl))
  obtain ⟨Lp464, Xp464, Np464⟩ : ∃ L, Stand p l e ({ frames := 5, cells := 1, slots := 2, locals := 65 } : Room) s m #[(.ref q), (.int x1), (.int x2), (.ref r)] below meth c T456 L 1 2 ∧ Fr n0 L := ⟨_, X456, N457⟩
  show own_Go p e below s _ _ _ (T456.setTop (mkF m 22 #[.val (.ref q), .val (.int x1), .val (.int x2), .val (.ref r)] []))
  have F465 : Exa Z h456 q "com/example/rationed_session/rationedsession/model/Partition" := (F455.wr W456)
  have F466 : Fld Z h456 q "com/example/rationed_session/rationedsession/model/Partition" "number" "I" (.int x1) := (((F424.other W431 (Or.inr (slot_ne (Or.inr (hw _ (List.mem_of_getElem? (i := 72) rfl))) (Or.inr (hw _ (List.mem_of_getElem? (i := 74) rfl))) (by decide) (t := .int) (t' := .int) (by decide) (by decide)))).keep K438 nin0).other W456 (Or.inr (slot_ne (Or.inr (hw _ (List.mem_of_getElem? (i := 72) rfl))) (Or.inr (hw _ (List.mem_of_getElem? (i := 119) rfl))) (by decide) (t := .int) (t' := (.object "java/util/List")) (by decide) (by decide))))
  have F467 : Fld Z h456 q "com/example/rationed_session/rationedsession/model/Partition" "firstIndex" "I" (.int x2) := ((F433.keep K438 nin0).other W456 (Or.inr (slot_ne (Or.inr (hw _ (List.mem_of_getElem? (i := 74) rfl))) (Or.inr (hw _ (List.mem_of_getElem? (i := 119) rfl))) (by decide) (t := .int) (t' := (.object "java/util/List")) (by decide) (by decide))))
  have F468 : Exa Z h456 x440 "java/util/Collections$UnmodifiableRandomAccessList" := (q442.wr W456)
  have F469 : Fld Z h456 x440 "java/util/Collections$UnmodifiableCollection" "c" "Ljava/util/Collection;" (.ref r) := (q443.other W456 (Or.inl ne450.symm))
  have F470 : Fld Z h456 x440 "java/util/Collections$UnmodifiableList" "list" "Ljava/util/List;" (.ref r) := (q444.other W456 (Or.inl ne450.symm))
  refine own_ret0 Xp464 hx hlk Bd.returns (hb hby own_d_prog_6_method_1_code_22) (by decide) (by decide) ?_
  rw [e456]
  exact ⟨x440, Np464, rfl, Kp463, F465, F466, F467, F458, sz453, F468, F469, F470⟩
theorem own_d_jdk_41_method_11_code_0 : decode jdk_41_method_11_code 0 = .ok (.iload_n 0, 1) := by decide +kernel
theorem own_d_jdk_41_method_11_code_1 : decode jdk_41_method_11_code 1 = .ok (.ifCond .lt 8, 3) := by decide +kernel
theorem own_d_jdk_41_method_11_code_4 : decode jdk_41_method_11_code 4 = .ok (.iload_n 0, 1) := by decide +kernel
theorem own_d_jdk_41_method_11_code_5 : decode jdk_41_method_11_code 5 = .ok (.iload_n 1, 1) := by decide +kernel
theorem own_d_jdk_41_method_11_code_6 : decode jdk_41_method_11_code 6 = .ok (.if_icmp .lt 10, 3) := by decide +kernel
theorem own_d_jdk_41_method_11_code_9 : decode jdk_41_method_11_code 9 = .ok (.aload_n 2, 1) := by decide +kernel
theorem own_d_jdk_41_method_11_code_10 : decode jdk_41_method_11_code 10 = .ok (.iload_n 0, 1) := by decide +kernel
theorem own_d_jdk_41_method_11_code_11 : decode jdk_41_method_11_code 11 = .ok (.iload_n 1, 1) := by decide +kernel
theorem own_d_jdk_41_method_11_code_12 : decode jdk_41_method_11_code 12 = .ok (.invokestatic 95, 3) := by decide +kernel
theorem own_d_jdk_41_method_11_code_15 : decode jdk_41_method_11_code 15 = .ok (.athrow, 1) := by decide +kernel
theorem own_d_jdk_41_method_11_code_16 : decode jdk_41_method_11_code 16 = .ok (.iload_n 0, 1) := by decide +kernel
theorem own_d_jdk_41_method_11_code_17 : decode jdk_41_method_11_code 17 = .ok (.ireturn, 1) := by decide +kernel
theorem own_pn18 : plainFor (⟨"jdk/internal/util/Preconditions", "checkIndex", "(IILjava/util/function/BiFunction;)I"⟩ : MethodName) = true := by decide +kernel
def own_rm_pci_Q (Z : State) (p1 : Int32) (p2 : Int32) (h0 : Heap) (n0 : Nat) (v : Option Value) (h : Heap) (L : List Loc) : Prop := Fr n0 L ∧ v = some (.int p1) ∧ h = h0
theorem own_rm_pci_ef (m : MethodId) (p1 : Int32) (p2 : Int32)  : entryFrame m #[(.int p1), (.int p2), .null] 3 = mkF m 0 #[.val (.int p1), .val (.int p2), .val .null] [] := by first | (simp [entryFrame, mkF, argsToLocals, Value.category]; done) | rfl
set_option maxRecDepth 65536 in
set_option maxHeartbeats 40000000 in
theorem own_rm_pci (l : Launch) (Z : State) (a0 : Array Value) (hw : ∀ d ∈ tables_1, d.before a0 Z = true) (ws : List Jvm.Cond) (p1 : Int32) (p2 : Int32) (h0 : Heap) (n0 : Nat) (Z0 : n0 ≤ h0.size) (h1 : ¬ p1 < 0) (h2 : p1 < p2) :
    MetFree l (⟨"jdk/internal/util/Preconditions", "checkIndex", "(IILjava/util/function/BiFunction;)I"⟩ : MethodName) (head1 (Jvm.Cond.code (⟨"jdk/internal/util/Preconditions", "checkIndex", "(IILjava/util/function/BiFunction;)I"⟩ : MethodName) jdk_41_method_11_code 3 (some .int) :: ws) ({ frames := 0, cells := 0, slots := 0, locals := 0 } : Room)) (fun aQ UQ => aQ = #[(.int p1), (.int p2), .null] ∧ Z.Warmed39 UQ.vm ∧ UQ.heap = h0) (fun _ _ _ _ _ => True) (fun _ UQ oQ U2 => ∃ vQ LQ, oQ = .returned vQ ∧ own_rm_pci_Q Z p1 p2 h0 n0 vQ U2.heap LQ ∧ FrameEnd UQ oQ U2 LQ ({ frames := 0, cells := 0, slots := 0, locals := 0 } : Room).cells ({ frames := 0, cells := 0, slots := 0, locals := 0 } : Room).slots) := by
  refine MetFree.of_bodySF own_pn18 hisR ?_
  intro p e s m args below meth c s₁ Bd hml0 hP hK
  obtain ⟨rfl, hZ, hh⟩ := hP
  have hx := Bd.exec
  have hby := Bd.bytes
  have hml : c.maxLocals = 3 := hml0
  have hlk := BodyLoose.notSynchronized Bd
  have hown : s.vm.findClass "jdk/internal/util/Preconditions" = some m.cls := findClass_of_methodNamed Bd.named
  have hnm := (name_of_methodNamed Bd.named Bd.method).1
  have X0 : Stand p l e ({ frames := 0, cells := 0, slots := 0, locals := 0 } : Room) s m #[(.int p1), (.int p2), .null] below meth c s₁ [] 0 0 := Stand.of_body Bd
  have e0 : s₁.heap = h0 := by rw [← hh, Bd.state]; rfl
  have N0 := Fr.nil n0
  show own_Go p e below s (own_rm_pci_Q Z p1 p2 h0 n0) ({ frames := 0, cells := 0, slots := 0, locals := 0 } : Room).cells ({ frames := 0, cells := 0, slots := 0, locals := 0 } : Room).slots (s₁.setTop (entryFrame m #[(.int p1), (.int p2), .null] 3))
  rw [own_rm_pci_ef]
  show own_Go p e below s _ _ _ (s₁.setTop (mkF m 0 #[.val (.int p1), .val (.int p2), .val .null] []))
  refine own_st (fun _ kQ => XS.iloadN X0.here hx rfl (hb hby own_d_jdk_41_method_11_code_0) rfl kQ) ?_
  show own_Go p e below s _ _ _ (s₁.setTop (mkF m 1 #[.val (.int p1), .val (.int p2), .val .null] [(.int p1)]))
  refine own_st (fun _ kQ => XS.ifNo X0.here hx rfl (hb hby own_d_jdk_41_method_11_code_1) rfl (XT.i0_lt_f h1) kQ) ?_
  show own_Go p e below s _ _ _ (s₁.setTop (mkF m 4 #[.val (.int p1), .val (.int p2), .val .null] []))
  refine own_st (fun _ kQ => XS.iloadN X0.here hx rfl (hb hby own_d_jdk_41_method_11_code_4) rfl kQ) ?_
  show own_Go p e below s _ _ _ (s₁.setTop (mkF m 5 #[.val (.int p1), .val (.int p2), .val .null] [(.int p1)]))
  refine own_st (fun _ kQ => XS.iloadN X0.here hx rfl (hb hby own_d_jdk_41_method_11_code_5) rfl kQ) ?_
  show own_Go p e below s _ _ _ (s₁.setTop (mkF m 6 #[.val (.int p1), .val (.int p2), .val .null] [(.int p2), (.int p1)]))
  refine own_st (fun _ kQ => XS.icmpYes X0.here hx rfl (pc0 := 6) (pc' := 16) rfl (hb hby own_d_jdk_41_method_11_code_6) rfl (XT.ii_lt_t h2) (by decide) (by decide) kQ) ?_
  show own_Go p e below s _ _ _ (s₁.setTop (mkF m 16 #[.val (.int p1), .val (.int p2), .val .null] []))
  refine own_st (fun _ kQ => XS.iloadN X0.here hx rfl (hb hby own_d_jdk_41_method_11_code_16) rfl kQ) ?_
  show own_Go p e below s _ _ _ (s₁.setTop (mkF m 17 #[.val (.int p1), .val (.int p2), .val .null] [(.int p1)]))
  refine own_retI X0 hx hlk Bd.returns (hb hby own_d_jdk_41_method_11_code_17) (by decide) (by decide) ?_
  rw [e0]
  exact ⟨N0, rfl, rfl⟩
theorem own_d_jdk_31_method_17_code_0 : decode jdk_31_method_17_code 0 = .ok (.iload_n 0, 1) := by decide +kernel
theorem own_d_jdk_31_method_17_code_1 : decode jdk_31_method_17_code 1 = .ok (.iload_n 1, 1) := by decide +kernel
theorem own_d_jdk_31_method_17_code_2 : decode jdk_31_method_17_code 2 = .ok (.aconst_null, 1) := by decide +kernel
theorem own_d_jdk_31_method_17_code_3 : decode jdk_31_method_17_code 3 = .ok (.invokestatic 105, 3) := by decide +kernel
theorem own_d_jdk_31_method_17_code_6 : decode jdk_31_method_17_code 6 = .ok (.ireturn, 1) := by decide +kernel
theorem own_pn19 : plainFor (⟨"java/util/Objects", "checkIndex", "(II)I"⟩ : MethodName) = true := by decide +kernel
theorem own_pd10 : parseMethodDescriptor "(IILjava/util/function/BiFunction;)I" = some ⟨[.int, .int, (.object "java/util/function/BiFunction")], some .int⟩ := by decide +kernel
def own_rm_oci_Q (Z : State) (p1 : Int32) (p2 : Int32) (h0 : Heap) (n0 : Nat) (v : Option Value) (h : Heap) (L : List Loc) : Prop := Fr n0 L ∧ v = some (.int p1) ∧ h = h0
theorem own_rm_oci_ef (m : MethodId) (p1 : Int32) (p2 : Int32)  : entryFrame m #[(.int p1), (.int p2)] 2 = mkF m 0 #[.val (.int p1), .val (.int p2)] [] := by first | (simp [entryFrame, mkF, argsToLocals, Value.category]; done) | rfl
set_option maxRecDepth 65536 in
set_option maxHeartbeats 40000000 in
theorem own_rm_oci (l : Launch) (Z : State) (a0 : Array Value) (hw : ∀ d ∈ tables_1, d.before a0 Z = true) (ws : List Jvm.Cond) (p1 : Int32) (p2 : Int32) (h0 : Heap) (n0 : Nat) (Z0 : n0 ≤ h0.size) (h1 : ¬ p1 < 0) (h2 : p1 < p2) :
    MetFree l (⟨"java/util/Objects", "checkIndex", "(II)I"⟩ : MethodName) (head1 (Jvm.Cond.code (⟨"java/util/Objects", "checkIndex", "(II)I"⟩ : MethodName) jdk_31_method_17_code 2 (some .int) :: ws) ({ frames := 1, cells := 0, slots := 0, locals := 14 } : Room)) (fun aQ UQ => aQ = #[(.int p1), (.int p2)] ∧ Z.Warmed39 UQ.vm ∧ UQ.heap = h0) (fun _ _ _ _ _ => True) (fun _ UQ oQ U2 => ∃ vQ LQ, oQ = .returned vQ ∧ own_rm_oci_Q Z p1 p2 h0 n0 vQ U2.heap LQ ∧ FrameEnd UQ oQ U2 LQ ({ frames := 1, cells := 0, slots := 0, locals := 14 } : Room).cells ({ frames := 1, cells := 0, slots := 0, locals := 14 } : Room).slots) := by
  refine MetFree.of_bodySF own_pn19 hisR ?_
  intro p e s m args below meth c s₁ Bd hml0 hP hK
  obtain ⟨rfl, hZ, hh⟩ := hP
  have hx := Bd.exec
  have hby := Bd.bytes
  have hml : c.maxLocals = 2 := hml0
  have hlk := BodyLoose.notSynchronized Bd
  have hown : s.vm.findClass "java/util/Objects" = some m.cls := findClass_of_methodNamed Bd.named
  have hnm := (name_of_methodNamed Bd.named Bd.method).1
  have X0 : Stand p l e ({ frames := 1, cells := 0, slots := 0, locals := 14 } : Room) s m #[(.int p1), (.int p2)] below meth c s₁ [] 0 0 := Stand.of_body Bd
  have e0 : s₁.heap = h0 := by rw [← hh, Bd.state]; rfl
  have N0 := Fr.nil n0
  show own_Go p e below s (own_rm_oci_Q Z p1 p2 h0 n0) ({ frames := 1, cells := 0, slots := 0, locals := 14 } : Room).cells ({ frames := 1, cells := 0, slots := 0, locals := 14 } : Room).slots (s₁.setTop (entryFrame m #[(.int p1), (.int p2)] 2))
  rw [own_rm_oci_ef]
  show own_Go p e below s _ _ _ (s₁.setTop (mkF m 0 #[.val (.int p1), .val (.int p2)] []))
  refine own_st (fun _ kQ => XS.iloadN X0.here hx rfl (hb hby own_d_jdk_31_method_17_code_0) rfl kQ) ?_
  show own_Go p e below s _ _ _ (s₁.setTop (mkF m 1 #[.val (.int p1), .val (.int p2)] [(.int p1)]))
  refine own_st (fun _ kQ => XS.iloadN X0.here hx rfl (hb hby own_d_jdk_31_method_17_code_1) rfl kQ) ?_
  show own_Go p e below s _ _ _ (s₁.setTop (mkF m 2 #[.val (.int p1), .val (.int p2)] [(.int p2), (.int p1)]))
  refine own_st (fun _ kQ => XS.aconstNull X0.here hx rfl (hb hby own_d_jdk_31_method_17_code_2) kQ) ?_
  show own_Go p e below s _ _ _ (s₁.setTop (mkF m 3 #[.val (.int p1), .val (.int p2)] [.null, (.int p2), (.int p1)]))
  obtain ⟨_, _, ⟨T471, L471, k471, n471⟩, -, X471, ⟨Lc471, hQ471, l471, y471, z471⟩, st471⟩ := Jvm.LawKit.callS X0 hx (y := (⟨"jdk/internal/util/Preconditions", "checkIndex", "(IILjava/util/function/BiFunction;)I"⟩ : MethodName)) hown (mvT hZ (hw _ (List.mem_of_getElem? (i := 161) rfl))) (mvT hZ (hw _ (List.mem_of_getElem? (i := 162) rfl))) (mvT hZ (hw _ (List.mem_of_getElem? (i := 163) rfl))) (mvT hZ (hw _ (List.mem_of_getElem? (i := 164) rfl))) (by decide) (backOf (W := 0) (own_rm_pci l Z a0 hw [] p1 p2 h0 n0 Z0 h1 h2) hZ (hw _ (List.mem_of_getElem? (i := 164) rfl)) (hw _ (List.mem_of_getElem? (i := 163) rfl)) (by decide) (by decide)) (g := (mkF m 3 #[.val (.int p1), .val (.int p2)] [.null, (.int p2), (.int p1)])) rfl (by rw [hml]; rfl) (argsL := [(.int p1), (.int p2), .null]) (rest := []) (lenOf own_pd10 rfl) rfl (by show 2 * 0 + _ ≤ _; exact Nat.le_of_eq rfl) (hb hby own_d_jdk_31_method_17_code_3) (fun _ _ => ⟨rfl, e0, (by decide : 0 + 0 ≤ _), (by decide : 0 + 0 ≤ _)⟩)
  dsimp only [Pt.U, Pt.locs, Pt.cells, Pt.slots] at X471 l471 y471 z471 st471 hQ471
  subst l471 y471 z471
  obtain ⟨N471q, rfl, eh471⟩ := hQ471
  have N472 := Fr.app N0 N471q
  refine own_st st471 ?_
  show own_Go p e below s _ _ _ (T471.setTop (mkF m 6 #[.val (.int p1), .val (.int p2)] [(.int p1)]))
  refine own_retI X471 hx hlk Bd.returns (hb hby own_d_jdk_31_method_17_code_6) (by decide) (by decide) ?_
  rw [eh471]
  exact ⟨N472, rfl, rfl⟩
theorem own_d_jdk_38_method_18_code_0 : decode jdk_38_method_18_code 0 = .ok (.aload_n 0, 1) := by decide +kernel
theorem own_d_jdk_38_method_18_code_1 : decode jdk_38_method_18_code 1 = .ok (.getfield 9, 3) := by decide +kernel
theorem own_d_jdk_38_method_18_code_4 : decode jdk_38_method_18_code 4 = .ok (.iload_n 1, 1) := by decide +kernel
theorem own_d_jdk_38_method_18_code_5 : decode jdk_38_method_18_code 5 = .ok (.aaload, 1) := by decide +kernel
theorem own_d_jdk_38_method_18_code_6 : decode jdk_38_method_18_code 6 = .ok (.areturn, 1) := by decide +kernel
theorem own_pn20 : plainFor (⟨"java/util/ArrayList", "elementData", "(I)Ljava/lang/Object;"⟩ : MethodName) = true := by decide +kernel
def own_rm_ed_1_0_Q (Z : State) (r : Addr) (arr : Addr) (kk : ClassId) (v0 : Addr) (h0 : Heap) (n0 : Nat) (v : Option Value) (h : Heap) (L : List Loc) : Prop := Fr n0 L ∧ v = some (.ref v0) ∧ h = h0
theorem own_rm_ed_1_0_ef (m : MethodId) (r : Addr)  : entryFrame m #[(.ref r), (.int (0 : Int32))] 2 = mkF m 0 #[.val (.ref r), .val (.int (0 : Int32))] [] := by first | (simp [entryFrame, mkF, argsToLocals, Value.category]; done) | rfl
set_option maxRecDepth 65536 in
set_option maxHeartbeats 40000000 in
theorem own_rm_ed_1_0 (l : Launch) (Z : State) (a0 : Array Value) (hw : ∀ d ∈ tables_1, d.before a0 Z = true) (ws : List Jvm.Cond) (r : Addr) (arr : Addr) (kk : ClassId) (v0 : Addr) (h0 : Heap) (n0 : Nat) (Z0 : n0 ≤ h0.size) (F2 : Fld Z h0 r "java/util/ArrayList" "elementData" "[Ljava/lang/Object;" (.ref arr)) (V1 : Arv Z h0 arr kk (.object "java/lang/Object") (10 : Int32) [(.ref v0), .null, .null, .null, .null, .null, .null, .null, .null, .null] .null) :
    MetFree l (⟨"java/util/ArrayList", "elementData", "(I)Ljava/lang/Object;"⟩ : MethodName) (head1 (Jvm.Cond.code (⟨"java/util/ArrayList", "elementData", "(I)Ljava/lang/Object;"⟩ : MethodName) jdk_38_method_18_code 2 (some (.object "java/lang/Object")) :: ws) ({ frames := 0, cells := 0, slots := 0, locals := 0 } : Room)) (fun aQ UQ => aQ = #[(.ref r), (.int (0 : Int32))] ∧ Z.Warmed39 UQ.vm ∧ UQ.heap = h0) (fun _ _ _ _ _ => True) (fun _ UQ oQ U2 => ∃ vQ LQ, oQ = .returned vQ ∧ own_rm_ed_1_0_Q Z r arr kk v0 h0 n0 vQ U2.heap LQ ∧ FrameEnd UQ oQ U2 LQ ({ frames := 0, cells := 0, slots := 0, locals := 0 } : Room).cells ({ frames := 0, cells := 0, slots := 0, locals := 0 } : Room).slots) := by
  refine MetFree.of_bodySF own_pn20 hisR ?_
  intro p e s m args below meth c s₁ Bd hml0 hP hK
  obtain ⟨rfl, hZ, hh⟩ := hP
  have hx := Bd.exec
  have hby := Bd.bytes
  have hml : c.maxLocals = 2 := hml0
  have hlk := BodyLoose.notSynchronized Bd
  have hown : s.vm.findClass "java/util/ArrayList" = some m.cls := findClass_of_methodNamed Bd.named
  have hnm := (name_of_methodNamed Bd.named Bd.method).1
  have X0 : Stand p l e ({ frames := 0, cells := 0, slots := 0, locals := 0 } : Room) s m #[(.ref r), (.int (0 : Int32))] below meth c s₁ [] 0 0 := Stand.of_body Bd
  have e0 : s₁.heap = h0 := by rw [← hh, Bd.state]; rfl
  have N0 := Fr.nil n0
  show own_Go p e below s (own_rm_ed_1_0_Q Z r arr kk v0 h0 n0) ({ frames := 0, cells := 0, slots := 0, locals := 0 } : Room).cells ({ frames := 0, cells := 0, slots := 0, locals := 0 } : Room).slots (s₁.setTop (entryFrame m #[(.ref r), (.int (0 : Int32))] 2))
  rw [own_rm_ed_1_0_ef]
  show own_Go p e below s _ _ _ (s₁.setTop (mkF m 0 #[.val (.ref r), .val (.int (0 : Int32))] []))
  refine own_st (fun _ kQ => XS.aloadN X0.here hx rfl (hb hby own_d_jdk_38_method_18_code_0) rfl rfl kQ) ?_
  show own_Go p e below s _ _ _ (s₁.setTop (mkF m 1 #[.val (.ref r), .val (.int (0 : Int32))] [(.ref r)]))
  obtain ⟨T473, X473, e473, st473⟩ := getF X0 hx hZ hown (host := "") (Or.inl (hw _ (List.mem_of_getElem? (i := 24) rfl))) Via.refl e0 F2 (g := (mkF m 1 #[.val (.ref r), .val (.int (0 : Int32))] [(.ref r)])) rfl rfl (hb hby own_d_jdk_38_method_18_code_1)
  refine own_st st473 ?_
  show own_Go p e below s _ _ _ (T473.setTop (mkF m 4 #[.val (.ref r), .val (.int (0 : Int32))] [(.ref arr)]))
  refine own_st (fun _ kQ => XS.iloadN X473.here hx rfl (hb hby own_d_jdk_38_method_18_code_4) rfl kQ) ?_
  show own_Go p e below s _ _ _ (T473.setTop (mkF m 5 #[.val (.ref r), .val (.int (0 : Int32))] [(.int (0 : Int32)), (.ref arr)]))
  obtain ⟨cl474, Ar474, kc474, S474, Nn474, H474, G474⟩ := id V1
  have hin474 : ¬ ((0 : Int32) < 0 ∨ cl474.slots.size ≤ ((0 : Int32) : Int32).toNatClampNeg) := inb_of S474 (by decide)
  have hat474 : cl474.slots[((0 : Int32) : Int32).toNatClampNeg]? = some (.ref v0) := H474.at hin474 rfl
  refine own_st (fun _ kQ => X473.aaload hx (j := (0 : Int32)) (v := (.ref v0)) (own_hp e473 Ar474.1) (State.isArrayOf_alike hZ.alike Ar474.2.1) rfl Ar474.2.2 hin474 hat474 (g := (mkF m 5 #[.val (.ref r), .val (.int (0 : Int32))] [(.int (0 : Int32)), (.ref arr)])) rfl rfl (hb hby own_d_jdk_38_method_18_code_5) _ kQ) ?_
  show own_Go p e below s _ _ _ (T473.setTop (mkF m 6 #[.val (.ref r), .val (.int (0 : Int32))] [(.ref v0)]))
  refine own_retA X473 hx hlk Bd.returns rfl (hb hby own_d_jdk_38_method_18_code_6) (by decide) (by decide) ?_
  rw [e473]
  exact ⟨N0, rfl, rfl⟩
theorem own_d_jdk_38_method_20_code_0 : decode jdk_38_method_20_code 0 = .ok (.iload_n 1, 1) := by decide +kernel
theorem own_d_jdk_38_method_20_code_1 : decode jdk_38_method_20_code 1 = .ok (.aload_n 0, 1) := by decide +kernel
theorem own_d_jdk_38_method_20_code_2 : decode jdk_38_method_20_code 2 = .ok (.getfield 48, 3) := by decide +kernel
theorem own_d_jdk_38_method_20_code_5 : decode jdk_38_method_20_code 5 = .ok (.invokestatic 118, 3) := by decide +kernel
theorem own_d_jdk_38_method_20_code_8 : decode jdk_38_method_20_code 8 = .ok (.pop, 1) := by decide +kernel
theorem own_d_jdk_38_method_20_code_9 : decode jdk_38_method_20_code 9 = .ok (.aload_n 0, 1) := by decide +kernel
theorem own_d_jdk_38_method_20_code_10 : decode jdk_38_method_20_code 10 = .ok (.iload_n 1, 1) := by decide +kernel
theorem own_d_jdk_38_method_20_code_11 : decode jdk_38_method_20_code 11 = .ok (.invokevirtual 123, 3) := by decide +kernel
theorem own_d_jdk_38_method_20_code_14 : decode jdk_38_method_20_code 14 = .ok (.areturn, 1) := by decide +kernel
theorem own_pn21 : plainFor (⟨"java/util/ArrayList", "get", "(I)Ljava/lang/Object;"⟩ : MethodName) = true := by decide +kernel
theorem own_pd11 : parseMethodDescriptor "(I)Ljava/lang/Object;" = some ⟨[.int], some (.object "java/lang/Object")⟩ := by decide +kernel
def own_rm_get_1_0_Q (Z : State) (r : Addr) (arr : Addr) (kk : ClassId) (v0 : Addr) (h0 : Heap) (n0 : Nat) (v : Option Value) (h : Heap) (L : List Loc) : Prop := Fr n0 L ∧ v = some (.ref v0) ∧ h = h0
theorem own_rm_get_1_0_ef (m : MethodId) (r : Addr)  : entryFrame m #[(.ref r), (.int (0 : Int32))] 2 = mkF m 0 #[.val (.ref r), .val (.int (0 : Int32))] [] := by first | (simp [entryFrame, mkF, argsToLocals, Value.category]; done) | rfl
set_option maxRecDepth 65536 in
set_option maxHeartbeats 40000000 in
theorem own_rm_get_1_0 (l : Launch) (Z : State) (a0 : Array Value) (hw : ∀ d ∈ tables_1, d.before a0 Z = true) (ws : List Jvm.Cond) (r : Addr) (arr : Addr) (kk : ClassId) (v0 : Addr) (h0 : Heap) (n0 : Nat) (Z0 : n0 ≤ h0.size) (F2 : Fld Z h0 r "java/util/ArrayList" "elementData" "[Ljava/lang/Object;" (.ref arr)) (V1 : Arv Z h0 arr kk (.object "java/lang/Object") (10 : Int32) [(.ref v0), .null, .null, .null, .null, .null, .null, .null, .null, .null] .null) (F3 : Fld Z h0 r "java/util/ArrayList" "size" "I" (.int (1 : Int32))) (E1 : Exa Z h0 r "java/util/ArrayList") :
    MetFree l (⟨"java/util/ArrayList", "get", "(I)Ljava/lang/Object;"⟩ : MethodName) (head1 (Jvm.Cond.code (⟨"java/util/ArrayList", "get", "(I)Ljava/lang/Object;"⟩ : MethodName) jdk_38_method_20_code 2 (some (.object "java/lang/Object")) :: ws) ({ frames := 2, cells := 0, slots := 0, locals := 27 } : Room)) (fun aQ UQ => aQ = #[(.ref r), (.int (0 : Int32))] ∧ Z.Warmed39 UQ.vm ∧ UQ.heap = h0) (fun _ _ _ _ _ => True) (fun _ UQ oQ U2 => ∃ vQ LQ, oQ = .returned vQ ∧ own_rm_get_1_0_Q Z r arr kk v0 h0 n0 vQ U2.heap LQ ∧ FrameEnd UQ oQ U2 LQ ({ frames := 2, cells := 0, slots := 0, locals := 27 } : Room).cells ({ frames := 2, cells := 0, slots := 0, locals := 27 } : Room).slots) := by
  refine MetFree.of_bodySF own_pn21 hisR ?_
  intro p e s m args below meth c s₁ Bd hml0 hP hK
  obtain ⟨rfl, hZ, hh⟩ := hP
  have hx := Bd.exec
  have hby := Bd.bytes
  have hml : c.maxLocals = 2 := hml0
  have hlk := BodyLoose.notSynchronized Bd
  have hown : s.vm.findClass "java/util/ArrayList" = some m.cls := findClass_of_methodNamed Bd.named
  have hnm := (name_of_methodNamed Bd.named Bd.method).1
  have X0 : Stand p l e ({ frames := 2, cells := 0, slots := 0, locals := 27 } : Room) s m #[(.ref r), (.int (0 : Int32))] below meth c s₁ [] 0 0 := Stand.of_body Bd
  have e0 : s₁.heap = h0 := by rw [← hh, Bd.state]; rfl
  have N0 := Fr.nil n0
  show own_Go p e below s (own_rm_get_1_0_Q Z r arr kk v0 h0 n0) ({ frames := 2, cells := 0, slots := 0, locals := 27 } : Room).cells ({ frames := 2, cells := 0, slots := 0, locals := 27 } : Room).slots (s₁.setTop (entryFrame m #[(.ref r), (.int (0 : Int32))] 2))
  rw [own_rm_get_1_0_ef]
  show own_Go p e below s _ _ _ (s₁.setTop (mkF m 0 #[.val (.ref r), .val (.int (0 : Int32))] []))
  refine own_st (fun _ kQ => XS.iloadN X0.here hx rfl (hb hby own_d_jdk_38_method_20_code_0) rfl kQ) ?_
  show own_Go p e below s _ _ _ (s₁.setTop (mkF m 1 #[.val (.ref r), .val (.int (0 : Int32))] [(.int (0 : Int32))]))
  refine own_st (fun _ kQ => XS.aloadN X0.here hx rfl (hb hby own_d_jdk_38_method_20_code_1) rfl rfl kQ) ?_
  show own_Go p e below s _ _ _ (s₁.setTop (mkF m 2 #[.val (.ref r), .val (.int (0 : Int32))] [(.ref r), (.int (0 : Int32))]))
  obtain ⟨T475, X475, e475, st475⟩ := getF X0 hx hZ hown (host := "") (Or.inl (hw _ (List.mem_of_getElem? (i := 40) rfl))) Via.refl e0 F3 (g := (mkF m 2 #[.val (.ref r), .val (.int (0 : Int32))] [(.ref r), (.int (0 : Int32))])) rfl rfl (hb hby own_d_jdk_38_method_20_code_2)
  refine own_st st475 ?_
  show own_Go p e below s _ _ _ (T475.setTop (mkF m 5 #[.val (.ref r), .val (.int (0 : Int32))] [(.int (1 : Int32)), (.int (0 : Int32))]))
  obtain ⟨_, _, ⟨T476, L476, k476, n476⟩, -, X476, ⟨Lc476, hQ476, l476, y476, z476⟩, st476⟩ := Jvm.LawKit.callS X475 hx (y := (⟨"java/util/Objects", "checkIndex", "(II)I"⟩ : MethodName)) hown (mvT hZ (hw _ (List.mem_of_getElem? (i := 157) rfl))) (mvT hZ (hw _ (List.mem_of_getElem? (i := 158) rfl))) (mvT hZ (hw _ (List.mem_of_getElem? (i := 159) rfl))) (mvT hZ (hw _ (List.mem_of_getElem? (i := 160) rfl))) (by decide) (backOf (W := 0) (own_rm_oci l Z a0 hw [] (0 : Int32) (1 : Int32) h0 n0 Z0 (by decide) (by decide)) hZ (hw _ (List.mem_of_getElem? (i := 160) rfl)) (hw _ (List.mem_of_getElem? (i := 159) rfl)) (by decide) (by decide)) (g := (mkF m 5 #[.val (.ref r), .val (.int (0 : Int32))] [(.int (1 : Int32)), (.int (0 : Int32))])) rfl (by rw [hml]; rfl) (argsL := [(.int (0 : Int32)), (.int (1 : Int32))]) (rest := []) (lenOf own_pd2 rfl) rfl (by show 2 * 0 + _ ≤ _; exact Nat.le_of_eq rfl) (hb hby own_d_jdk_38_method_20_code_5) (fun _ _ => ⟨rfl, e475, (by decide : 0 + 0 ≤ _), (by decide : 0 + 0 ≤ _)⟩)
  dsimp only [Pt.U, Pt.locs, Pt.cells, Pt.slots] at X476 l476 y476 z476 st476 hQ476
  subst l476 y476 z476
  obtain ⟨N476q, rfl, eh476⟩ := hQ476
  have N477 := Fr.app N0 N476q
  refine own_st st476 ?_
  show own_Go p e below s _ _ _ (T476.setTop (mkF m 8 #[.val (.ref r), .val (.int (0 : Int32))] [(.int (0 : Int32))]))
  refine own_st (fun _ kQ => XT.pop X476.here hx rfl (hb hby own_d_jdk_38_method_20_code_8) rfl rfl kQ) ?_
  show own_Go p e below s _ _ _ (T476.setTop (mkF m 9 #[.val (.ref r), .val (.int (0 : Int32))] []))
  refine own_st (fun _ kQ => XS.aloadN X476.here hx rfl (hb hby own_d_jdk_38_method_20_code_9) rfl rfl kQ) ?_
  show own_Go p e below s _ _ _ (T476.setTop (mkF m 10 #[.val (.ref r), .val (.int (0 : Int32))] [(.ref r)]))
  refine own_st (fun _ kQ => XS.iloadN X476.here hx rfl (hb hby own_d_jdk_38_method_20_code_10) rfl kQ) ?_
  show own_Go p e below s _ _ _ (T476.setTop (mkF m 11 #[.val (.ref r), .val (.int (0 : Int32))] [(.int (0 : Int32)), (.ref r)]))
  obtain ⟨cq478, kq478, q478a, q478b, q478c⟩ := isOf hZ eh476 E1
  obtain ⟨_, _, ⟨T478, L478, k478, n478⟩, -, X478, ⟨Lc478, hQ478, l478, y478, z478⟩, st478⟩ := X476.virtualBack hx (y := (⟨"java/util/ArrayList", "elementData", "(I)Ljava/lang/Object;"⟩ : MethodName)) (z := (⟨"java/util/ArrayList", "elementData", "(I)Ljava/lang/Object;"⟩ : MethodName)) hown (mvT hZ (hw _ (List.mem_of_getElem? (i := 165) rfl))) (mvT hZ (hw _ (List.mem_of_getElem? (i := 166) rfl))) (notFace_of_selects (args := #[]) (mvT hZ (hw _ (List.mem_of_getElem? (i := 168) rfl)))) (mvT hZ (hw _ (List.mem_of_getElem? (i := 168) rfl))) (mvT hZ (hw _ (List.mem_of_getElem? (i := 167) rfl))) (by decide) (backOf (W := 0) (own_rm_ed_1_0 l Z a0 hw [] r arr kk v0 h0 n0 Z0 F2 V1) hZ (hw _ (List.mem_of_getElem? (i := 169) rfl)) (hw _ (List.mem_of_getElem? (i := 2) rfl)) (by decide) (by decide)) q478a q478c (g := (mkF m 11 #[.val (.ref r), .val (.int (0 : Int32))] [(.int (0 : Int32)), (.ref r)])) rfl (by rw [hml]; rfl) (Steps.refl _) (argsL := [(.int (0 : Int32))]) (rest := []) (lenOf own_pd11 rfl) rfl (by show 2 * 0 + _ ≤ _; exact Nat.le_of_eq rfl) (hb hby own_d_jdk_38_method_20_code_11) (fun _ _ => ⟨rfl, eh476, (by decide : 0 + 0 ≤ _), (by decide : 0 + 0 ≤ _)⟩)
  dsimp only [Pt.U, Pt.locs, Pt.cells, Pt.slots] at X478 l478 y478 z478 st478 hQ478
  subst l478 y478 z478
  obtain ⟨N478q, rfl, eh478⟩ := hQ478
  have N479 := Fr.app N477 N478q
  refine own_tr st478 ?_
  show own_Go p e below s _ _ _ (T478.setTop (mkF m 14 #[.val (.ref r), .val (.int (0 : Int32))] [(.ref v0)]))
  refine own_retA X478 hx hlk Bd.returns rfl (hb hby own_d_jdk_38_method_20_code_14) (by decide) (by decide) ?_
  rw [eh478]
  exact ⟨N479, rfl, rfl⟩
theorem own_d_jdk_120_method_4_code_0 : decode jdk_120_method_4_code 0 = .ok (.aload_n 0, 1) := by decide +kernel
theorem own_d_jdk_120_method_4_code_1 : decode jdk_120_method_4_code 1 = .ok (.getfield 7, 3) := by decide +kernel
theorem own_d_jdk_120_method_4_code_4 : decode jdk_120_method_4_code 4 = .ok (.iload_n 1, 1) := by decide +kernel
theorem own_d_jdk_120_method_4_code_5 : decode jdk_120_method_4_code 5 = .ok (.invokeinterface 23 2, 5) := by decide +kernel
theorem own_d_jdk_120_method_4_code_10 : decode jdk_120_method_4_code 10 = .ok (.areturn, 1) := by decide +kernel
theorem own_pn22 : plainFor (⟨"java/util/Collections$UnmodifiableList", "get", "(I)Ljava/lang/Object;"⟩ : MethodName) = true := by decide +kernel
def own_rm_uget_1_0_Q (Z : State) (u : Addr) (r : Addr) (arr : Addr) (kk : ClassId) (v0 : Addr) (h0 : Heap) (n0 : Nat) (v : Option Value) (h : Heap) (L : List Loc) : Prop := Fr n0 L ∧ v = some (.ref v0) ∧ h = h0
theorem own_rm_uget_1_0_ef (m : MethodId) (u : Addr)  : entryFrame m #[(.ref u), (.int (0 : Int32))] 2 = mkF m 0 #[.val (.ref u), .val (.int (0 : Int32))] [] := by first | (simp [entryFrame, mkF, argsToLocals, Value.category]; done) | rfl
set_option maxRecDepth 65536 in
set_option maxHeartbeats 40000000 in
theorem own_rm_uget_1_0 (l : Launch) (Z : State) (a0 : Array Value) (hw : ∀ d ∈ tables_1, d.before a0 Z = true) (ws : List Jvm.Cond) (u : Addr) (r : Addr) (arr : Addr) (kk : ClassId) (v0 : Addr) (h0 : Heap) (n0 : Nat) (Z0 : n0 ≤ h0.size) (F1 : Fld Z h0 u "java/util/Collections$UnmodifiableList" "list" "Ljava/util/List;" (.ref r)) (F2 : Fld Z h0 r "java/util/ArrayList" "elementData" "[Ljava/lang/Object;" (.ref arr)) (V1 : Arv Z h0 arr kk (.object "java/lang/Object") (10 : Int32) [(.ref v0), .null, .null, .null, .null, .null, .null, .null, .null, .null] .null) (F3 : Fld Z h0 r "java/util/ArrayList" "size" "I" (.int (1 : Int32))) (E1 : Exa Z h0 r "java/util/ArrayList") :
    MetFree l (⟨"java/util/Collections$UnmodifiableList", "get", "(I)Ljava/lang/Object;"⟩ : MethodName) (head1 (Jvm.Cond.code (⟨"java/util/Collections$UnmodifiableList", "get", "(I)Ljava/lang/Object;"⟩ : MethodName) jdk_120_method_4_code 2 (some (.object "java/lang/Object")) :: ws) ({ frames := 3, cells := 0, slots := 0, locals := 40 } : Room)) (fun aQ UQ => aQ = #[(.ref u), (.int (0 : Int32))] ∧ Z.Warmed39 UQ.vm ∧ UQ.heap = h0) (fun _ _ _ _ _ => True) (fun _ UQ oQ U2 => ∃ vQ LQ, oQ = .returned vQ ∧ own_rm_uget_1_0_Q Z u r arr kk v0 h0 n0 vQ U2.heap LQ ∧ FrameEnd UQ oQ U2 LQ ({ frames := 3, cells := 0, slots := 0, locals := 40 } : Room).cells ({ frames := 3, cells := 0, slots := 0, locals := 40 } : Room).slots) := by
  refine MetFree.of_bodySF own_pn22 hisR ?_
  intro p e s m args below meth c s₁ Bd hml0 hP hK
  obtain ⟨rfl, hZ, hh⟩ := hP
  have hx := Bd.exec
  have hby := Bd.bytes
  have hml : c.maxLocals = 2 := hml0
  have hlk := BodyLoose.notSynchronized Bd
  have hown : s.vm.findClass "java/util/Collections$UnmodifiableList" = some m.cls := findClass_of_methodNamed Bd.named
  have hnm := (name_of_methodNamed Bd.named Bd.method).1
  have X0 : Stand p l e ({ frames := 3, cells := 0, slots := 0, locals := 40 } : Room) s m #[(.ref u), (.int (0 : Int32))] below meth c s₁ [] 0 0 := Stand.of_body Bd
  have e0 : s₁.heap = h0 := by rw [← hh, Bd.state]; rfl
  have N0 := Fr.nil n0
  show own_Go p e below s (own_rm_uget_1_0_Q Z u r arr kk v0 h0 n0) ({ frames := 3, cells := 0, slots := 0, locals := 40 } : Room).cells ({ frames := 3, cells := 0, slots := 0, locals := 40 } : Room).slots (s₁.setTop (entryFrame m #[(.ref u), (.int (0 : Int32))] 2))
  rw [own_rm_uget_1_0_ef]
  show own_Go p e below s _ _ _ (s₁.setTop (mkF m 0 #[.val (.ref u), .val (.int (0 : Int32))] []))
  refine own_st (fun _ kQ => XS.aloadN X0.here hx rfl (hb hby own_d_jdk_120_method_4_code_0) rfl rfl kQ) ?_
  show own_Go p e below s _ _ _ (s₁.setTop (mkF m 1 #[.val (.ref u), .val (.int (0 : Int32))] [(.ref u)]))
  obtain ⟨T480, X480, e480, st480⟩ := getF X0 hx hZ hown (host := "") (Or.inl (hw _ (List.mem_of_getElem? (i := 116) rfl))) Via.refl e0 F1 (g := (mkF m 1 #[.val (.ref u), .val (.int (0 : Int32))] [(.ref u)])) rfl rfl (hb hby own_d_jdk_120_method_4_code_1)
  refine own_st st480 ?_
  show own_Go p e below s _ _ _ (T480.setTop (mkF m 4 #[.val (.ref u), .val (.int (0 : Int32))] [(.ref r)]))
  refine own_st (fun _ kQ => XS.iloadN X480.here hx rfl (hb hby own_d_jdk_120_method_4_code_4) rfl kQ) ?_
  show own_Go p e below s _ _ _ (T480.setTop (mkF m 5 #[.val (.ref u), .val (.int (0 : Int32))] [(.int (0 : Int32)), (.ref r)]))
  obtain ⟨cq481, kq481, q481a, q481b, q481c⟩ := isOf hZ e480 E1
  obtain ⟨_, _, ⟨T481, L481, k481, n481⟩, -, X481, ⟨Lc481, hQ481, l481, y481, z481⟩, st481⟩ := X480.interfaceBack hx (xi := (⟨"java/util/List", "get", "(I)Ljava/lang/Object;"⟩ : MethodName)) (y := (⟨"java/util/ArrayList", "get", "(I)Ljava/lang/Object;"⟩ : MethodName)) hown (mvT hZ (hw _ (List.mem_of_getElem? (i := 151) rfl))) (mvT hZ (hw _ (List.mem_of_getElem? (i := 144) rfl))) (mvT hZ (hw _ (List.mem_of_getElem? (i := 145) rfl))) (mvT hZ (hw _ (List.mem_of_getElem? (i := 152) rfl))) (mvT hZ (hw _ (List.mem_of_getElem? (i := 153) rfl))) (mvT hZ (hw _ (List.mem_of_getElem? (i := 154) rfl))) (mvT hZ (hw _ (List.mem_of_getElem? (i := 155) rfl))) (mvT hZ (hw _ (List.mem_of_getElem? (i := 86) rfl))) (by decide) (backOf (W := 0) (own_rm_get_1_0 l Z a0 hw [] r arr kk v0 h0 n0 Z0 F2 V1 F3 E1) hZ (hw _ (List.mem_of_getElem? (i := 156) rfl)) (hw _ (List.mem_of_getElem? (i := 2) rfl)) (by decide) (by decide)) q481a q481b q481c (g := (mkF m 5 #[.val (.ref u), .val (.int (0 : Int32))] [(.int (0 : Int32)), (.ref r)])) rfl (by rw [hml]; rfl) (Steps.refl _) (argsL := [(.int (0 : Int32))]) (rest := []) (lenOf own_pd11 rfl) rfl (by show 2 * 0 + _ ≤ _; exact Nat.le_of_eq rfl) (hb hby own_d_jdk_120_method_4_code_5) (fun _ _ => ⟨rfl, e480, (by decide : 0 + 0 ≤ _), (by decide : 0 + 0 ≤ _)⟩)
  dsimp only [Pt.U, Pt.locs, Pt.cells, Pt.slots] at X481 l481 y481 z481 st481 hQ481
  subst l481 y481 z481
  obtain ⟨N481q, rfl, eh481⟩ := hQ481
  have N482 := Fr.app N0 N481q
  refine own_tr st481 ?_
  show own_Go p e below s _ _ _ (T481.setTop (mkF m 10 #[.val (.ref u), .val (.int (0 : Int32))] [(.ref v0)]))
  refine own_retA X481 hx hlk Bd.returns rfl (hb hby own_d_jdk_120_method_4_code_10) (by decide) (by decide) ?_
  rw [eh481]
  exact ⟨N482, rfl, rfl⟩
def own_rm_ed_2_1_Q (Z : State) (r : Addr) (arr : Addr) (kk : ClassId) (v0 : Addr) (v1 : Addr) (h0 : Heap) (n0 : Nat) (v : Option Value) (h : Heap) (L : List Loc) : Prop := Fr n0 L ∧ v = some (.ref v1) ∧ h = h0
theorem own_rm_ed_2_1_ef (m : MethodId) (r : Addr)  : entryFrame m #[(.ref r), (.int (1 : Int32))] 2 = mkF m 0 #[.val (.ref r), .val (.int (1 : Int32))] [] := by first | (simp [entryFrame, mkF, argsToLocals, Value.category]; done) | rfl
set_option maxRecDepth 65536 in
set_option maxHeartbeats 40000000 in
theorem own_rm_ed_2_1 (l : Launch) (Z : State) (a0 : Array Value) (hw : ∀ d ∈ tables_1, d.before a0 Z = true) (ws : List Jvm.Cond) (r : Addr) (arr : Addr) (kk : ClassId) (v0 : Addr) (v1 : Addr) (h0 : Heap) (n0 : Nat) (Z0 : n0 ≤ h0.size) (F2 : Fld Z h0 r "java/util/ArrayList" "elementData" "[Ljava/lang/Object;" (.ref arr)) (V1 : Arv Z h0 arr kk (.object "java/lang/Object") (10 : Int32) [(.ref v0), (.ref v1), .null, .null, .null, .null, .null, .null, .null, .null] .null) :
    MetFree l (⟨"java/util/ArrayList", "elementData", "(I)Ljava/lang/Object;"⟩ : MethodName) (head1 (Jvm.Cond.code (⟨"java/util/ArrayList", "elementData", "(I)Ljava/lang/Object;"⟩ : MethodName) jdk_38_method_18_code 2 (some (.object "java/lang/Object")) :: ws) ({ frames := 0, cells := 0, slots := 0, locals := 0 } : Room)) (fun aQ UQ => aQ = #[(.ref r), (.int (1 : Int32))] ∧ Z.Warmed39 UQ.vm ∧ UQ.heap = h0) (fun _ _ _ _ _ => True) (fun _ UQ oQ U2 => ∃ vQ LQ, oQ = .returned vQ ∧ own_rm_ed_2_1_Q Z r arr kk v0 v1 h0 n0 vQ U2.heap LQ ∧ FrameEnd UQ oQ U2 LQ ({ frames := 0, cells := 0, slots := 0, locals := 0 } : Room).cells ({ frames := 0, cells := 0, slots := 0, locals := 0 } : Room).slots) := by
  refine MetFree.of_bodySF own_pn20 hisR ?_
  intro p e s m args below meth c s₁ Bd hml0 hP hK
  obtain ⟨rfl, hZ, hh⟩ := hP
  have hx := Bd.exec
  have hby := Bd.bytes
  have hml : c.maxLocals = 2 := hml0
  have hlk := BodyLoose.notSynchronized Bd
  have hown : s.vm.findClass "java/util/ArrayList" = some m.cls := findClass_of_methodNamed Bd.named
  have hnm := (name_of_methodNamed Bd.named Bd.method).1
  have X0 : Stand p l e ({ frames := 0, cells := 0, slots := 0, locals := 0 } : Room) s m #[(.ref r), (.int (1 : Int32))] below meth c s₁ [] 0 0 := Stand.of_body Bd
  have e0 : s₁.heap = h0 := by rw [← hh, Bd.state]; rfl
  have N0 := Fr.nil n0
  show own_Go p e below s (own_rm_ed_2_1_Q Z r arr kk v0 v1 h0 n0) ({ frames := 0, cells := 0, slots := 0, locals := 0 } : Room).cells ({ frames := 0, cells := 0, slots := 0, locals := 0 } : Room).slots (s₁.setTop (entryFrame m #[(.ref r), (.int (1 : Int32))] 2))
  rw [own_rm_ed_2_1_ef]
  show own_Go p e below s _ _ _ (s₁.setTop (mkF m 0 #[.val (.ref r), .val (.int (1 : Int32))] []))
  refine own_st (fun _ kQ => XS.aloadN X0.here hx rfl (hb hby own_d_jdk_38_method_18_code_0) rfl rfl kQ) ?_
  show own_Go p e below s _ _ _ (s₁.setTop (mkF m 1 #[.val (.ref r), .val (.int (1 : Int32))] [(.ref r)]))
  obtain ⟨T483, X483, e483, st483⟩ := getF X0 hx hZ hown (host := "") (Or.inl (hw _ (List.mem_of_getElem? (i := 24) rfl))) Via.refl e0 F2 (g := (mkF m 1 #[.val (.ref r), .val (.int (1 : Int32))] [(.ref r)])) rfl rfl (hb hby own_d_jdk_38_method_18_code_1)
  refine own_st st483 ?_
  show own_Go p e below s _ _ _ (T483.setTop (mkF m 4 #[.val (.ref r), .val (.int (1 : Int32))] [(.ref arr)]))
  refine own_st (fun _ kQ => XS.iloadN X483.here hx rfl (hb hby own_d_jdk_38_method_18_code_4) rfl kQ) ?_
  show own_Go p e below s _ _ _ (T483.setTop (mkF m 5 #[.val (.ref r), .val (.int (1 : Int32))] [(.int (1 : Int32)), (.ref arr)]))
  obtain ⟨cl484, Ar484, kc484, S484, Nn484, H484, G484⟩ := id V1
  have hin484 : ¬ ((1 : Int32) < 0 ∨ cl484.slots.size ≤ ((1 : Int32) : Int32).toNatClampNeg) := inb_of S484 (by decide)
  have hat484 : cl484.slots[((1 : Int32) : Int32).toNatClampNeg]? = some (.ref v1) := H484.at hin484 rfl
  refine own_st (fun _ kQ => X483.aaload hx (j := (1 : Int32)) (v := (.ref v1)) (own_hp e483 Ar484.1) (State.isArrayOf_alike hZ.alike Ar484.2.1) rfl Ar484.2.2 hin484 hat484 (g := (mkF m 5 #[.val (.ref r), .val (.int (1 : Int32))] [(.int (1 : Int32)), (.ref arr)])) rfl rfl (hb hby own_d_jdk_38_method_18_code_5) _ kQ) ?_
  show own_Go p e below s _ _ _ (T483.setTop (mkF m 6 #[.val (.ref r), .val (.int (1 : Int32))] [(.ref v1)]))
  refine own_retA X483 hx hlk Bd.returns rfl (hb hby own_d_jdk_38_method_18_code_6) (by decide) (by decide) ?_
  rw [e483]
  exact ⟨N0, rfl, rfl⟩
def own_rm_get_2_1_Q (Z : State) (r : Addr) (arr : Addr) (kk : ClassId) (v0 : Addr) (v1 : Addr) (h0 : Heap) (n0 : Nat) (v : Option Value) (h : Heap) (L : List Loc) : Prop := Fr n0 L ∧ v = some (.ref v1) ∧ h = h0
theorem own_rm_get_2_1_ef (m : MethodId) (r : Addr)  : entryFrame m #[(.ref r), (.int (1 : Int32))] 2 = mkF m 0 #[.val (.ref r), .val (.int (1 : Int32))] [] := by first | (simp [entryFrame, mkF, argsToLocals, Value.category]; done) | rfl
set_option maxRecDepth 65536 in
set_option maxHeartbeats 40000000 in
theorem own_rm_get_2_1 (l : Launch) (Z : State) (a0 : Array Value) (hw : ∀ d ∈ tables_1, d.before a0 Z = true) (ws : List Jvm.Cond) (r : Addr) (arr : Addr) (kk : ClassId) (v0 : Addr) (v1 : Addr) (h0 : Heap) (n0 : Nat) (Z0 : n0 ≤ h0.size) (F2 : Fld Z h0 r "java/util/ArrayList" "elementData" "[Ljava/lang/Object;" (.ref arr)) (V1 : Arv Z h0 arr kk (.object "java/lang/Object") (10 : Int32) [(.ref v0), (.ref v1), .null, .null, .null, .null, .null, .null, .null, .null] .null) (F3 : Fld Z h0 r "java/util/ArrayList" "size" "I" (.int (2 : Int32))) (E1 : Exa Z h0 r "java/util/ArrayList") :
    MetFree l (⟨"java/util/ArrayList", "get", "(I)Ljava/lang/Object;"⟩ : MethodName) (head1 (Jvm.Cond.code (⟨"java/util/ArrayList", "get", "(I)Ljava/lang/Object;"⟩ : MethodName) jdk_38_method_20_code 2 (some (.object "java/lang/Object")) :: ws) ({ frames := 2, cells := 0, slots := 0, locals := 27 } : Room)) (fun aQ UQ => aQ = #[(.ref r), (.int (1 : Int32))] ∧ Z.Warmed39 UQ.vm ∧ UQ.heap = h0) (fun _ _ _ _ _ => True) (fun _ UQ oQ U2 => ∃ vQ LQ, oQ = .returned vQ ∧ own_rm_get_2_1_Q Z r arr kk v0 v1 h0 n0 vQ U2.heap LQ ∧ FrameEnd UQ oQ U2 LQ ({ frames := 2, cells := 0, slots := 0, locals := 27 } : Room).cells ({ frames := 2, cells := 0, slots := 0, locals := 27 } : Room).slots) := by
  refine MetFree.of_bodySF own_pn21 hisR ?_
  intro p e s m args below meth c s₁ Bd hml0 hP hK
  obtain ⟨rfl, hZ, hh⟩ := hP
  have hx := Bd.exec
  have hby := Bd.bytes
  have hml : c.maxLocals = 2 := hml0
  have hlk := BodyLoose.notSynchronized Bd
  have hown : s.vm.findClass "java/util/ArrayList" = some m.cls := findClass_of_methodNamed Bd.named
  have hnm := (name_of_methodNamed Bd.named Bd.method).1
  have X0 : Stand p l e ({ frames := 2, cells := 0, slots := 0, locals := 27 } : Room) s m #[(.ref r), (.int (1 : Int32))] below meth c s₁ [] 0 0 := Stand.of_body Bd
  have e0 : s₁.heap = h0 := by rw [← hh, Bd.state]; rfl
  have N0 := Fr.nil n0
  show own_Go p e below s (own_rm_get_2_1_Q Z r arr kk v0 v1 h0 n0) ({ frames := 2, cells := 0, slots := 0, locals := 27 } : Room).cells ({ frames := 2, cells := 0, slots := 0, locals := 27 } : Room).slots (s₁.setTop (entryFrame m #[(.ref r), (.int (1 : Int32))] 2))
  rw [own_rm_get_2_1_ef]
  show own_Go p e below s _ _ _ (s₁.setTop (mkF m 0 #[.val (.ref r), .val (.int (1 : Int32))] []))
  refine own_st (fun _ kQ => XS.iloadN X0.here hx rfl (hb hby own_d_jdk_38_method_20_code_0) rfl kQ) ?_
  show own_Go p e below s _ _ _ (s₁.setTop (mkF m 1 #[.val (.ref r), .val (.int (1 : Int32))] [(.int (1 : Int32))]))
  refine own_st (fun _ kQ => XS.aloadN X0.here hx rfl (hb hby own_d_jdk_38_method_20_code_1) rfl rfl kQ) ?_
  show own_Go p e below s _ _ _ (s₁.setTop (mkF m 2 #[.val (.ref r), .val (.int (1 : Int32))] [(.ref r), (.int (1 : Int32))]))
  obtain ⟨T485, X485, e485, st485⟩ := getF X0 hx hZ hown (host := "") (Or.inl (hw _ (List.mem_of_getElem? (i := 40) rfl))) Via.refl e0 F3 (g := (mkF m 2 #[.val (.ref r), .val (.int (1 : Int32))] [(.ref r), (.int (1 : Int32))])) rfl rfl (hb hby own_d_jdk_38_method_20_code_2)
  refine own_st st485 ?_
  show own_Go p e below s _ _ _ (T485.setTop (mkF m 5 #[.val (.ref r), .val (.int (1 : Int32))] [(.int (2 : Int32)), (.int (1 : Int32))]))
  obtain ⟨_, _, ⟨T486, L486, k486, n486⟩, -, X486, ⟨Lc486, hQ486, l486, y486, z486⟩, st486⟩ := Jvm.LawKit.callS X485 hx (y := (⟨"java/util/Objects", "checkIndex", "(II)I"⟩ : MethodName)) hown (mvT hZ (hw _ (List.mem_of_getElem? (i := 157) rfl))) (mvT hZ (hw _ (List.mem_of_getElem? (i := 158) rfl))) (mvT hZ (hw _ (List.mem_of_getElem? (i := 159) rfl))) (mvT hZ (hw _ (List.mem_of_getElem? (i := 160) rfl))) (by decide) (backOf (W := 0) (own_rm_oci l Z a0 hw [] (1 : Int32) (2 : Int32) h0 n0 Z0 (by decide) (by decide)) hZ (hw _ (List.mem_of_getElem? (i := 160) rfl)) (hw _ (List.mem_of_getElem? (i := 159) rfl)) (by decide) (by decide)) (g := (mkF m 5 #[.val (.ref r), .val (.int (1 : Int32))] [(.int (2 : Int32)), (.int (1 : Int32))])) rfl (by rw [hml]; rfl) (argsL := [(.int (1 : Int32)), (.int (2 : Int32))]) (rest := []) (lenOf own_pd2 rfl) rfl (by show 2 * 0 + _ ≤ _; exact Nat.le_of_eq rfl) (hb hby own_d_jdk_38_method_20_code_5) (fun _ _ => ⟨rfl, e485, (by decide : 0 + 0 ≤ _), (by decide : 0 + 0 ≤ _)⟩)
  dsimp only [Pt.U, Pt.locs, Pt.cells, Pt.slots] at X486 l486 y486 z486 st486 hQ486
  subst l486 y486 z486
  obtain ⟨N486q, rfl, eh486⟩ := hQ486
  have N487 := Fr.app N0 N486q
  refine own_st st486 ?_
  show own_Go p e below s _ _ _ (T486.setTop (mkF m 8 #[.val (.ref r), .val (.int (1 : Int32))] [(.int (1 : Int32))]))
  refine own_st (fun _ kQ => XT.pop X486.here hx rfl (hb hby own_d_jdk_38_method_20_code_8) rfl rfl kQ) ?_
  show own_Go p e below s _ _ _ (T486.setTop (mkF m 9 #[.val (.ref r), .val (.int (1 : Int32))] []))
  refine own_st (fun _ kQ => XS.aloadN X486.here hx rfl (hb hby own_d_jdk_38_method_20_code_9) rfl rfl kQ) ?_
  show own_Go p e below s _ _ _ (T486.setTop (mkF m 10 #[.val (.ref r), .val (.int (1 : Int32))] [(.ref r)]))
  refine own_st (fun _ kQ => XS.iloadN X486.here hx rfl (hb hby own_d_jdk_38_method_20_code_10) rfl kQ) ?_
  show own_Go p e below s _ _ _ (T486.setTop (mkF m 11 #[.val (.ref r), .val (.int (1 : Int32))] [(.int (1 : Int32)), (.ref r)]))
  obtain ⟨cq488, kq488, q488a, q488b, q488c⟩ := isOf hZ eh486 E1
  obtain ⟨_, _, ⟨T488, L488, k488, n488⟩, -, X488, ⟨Lc488, hQ488, l488, y488, z488⟩, st488⟩ := X486.virtualBack hx (y := (⟨"java/util/ArrayList", "elementData", "(I)Ljava/lang/Object;"⟩ : MethodName)) (z := (⟨"java/util/ArrayList", "elementData", "(I)Ljava/lang/Object;"⟩ : MethodName)) hown (mvT hZ (hw _ (List.mem_of_getElem? (i := 165) rfl))) (mvT hZ (hw _ (List.mem_of_getElem? (i := 166) rfl))) (notFace_of_selects (args := #[]) (mvT hZ (hw _ (List.mem_of_getElem? (i := 168) rfl)))) (mvT hZ (hw _ (List.mem_of_getElem? (i := 168) rfl))) (mvT hZ (hw _ (List.mem_of_getElem? (i := 167) rfl))) (by decide) (backOf (W := 0) (own_rm_ed_2_1 l Z a0 hw [] r arr kk v0 v1 h0 n0 Z0 F2 V1) hZ (hw _ (List.mem_of_getElem? (i := 169) rfl)) (hw _ (List.mem_of_getElem? (i := 2) rfl)) (by decide) (by decide)) q488a q488c (g := (mkF m 11 #[.val (.ref r), .val (.int (1 : Int32))] [(.int (1 : Int32)), (.ref r)])) rfl (by rw [hml]; rfl) (Steps.refl _) (argsL := [(.int (1 : Int32))]) (rest := []) (lenOf own_pd11 rfl) rfl (by show 2 * 0 + _ ≤ _; exact Nat.le_of_eq rfl) (hb hby own_d_jdk_38_method_20_code_11) (fun _ _ => ⟨rfl, eh486, (by decide : 0 + 0 ≤ _), (by decide : 0 + 0 ≤ _)⟩)
  dsimp only [Pt.U, Pt.locs, Pt.cells, Pt.slots] at X488 l488 y488 z488 st488 hQ488
  subst l488 y488 z488
  obtain ⟨N488q, rfl, eh488⟩ := hQ488
  have N489 := Fr.app N487 N488q
  refine own_tr st488 ?_
  show own_Go p e below s _ _ _ (T488.setTop (mkF m 14 #[.val (.ref r), .val (.int (1 : Int32))] [(.ref v1)]))
  refine own_retA X488 hx hlk Bd.returns rfl (hb hby own_d_jdk_38_method_20_code_14) (by decide) (by decide) ?_
  rw [eh488]
  exact ⟨N489, rfl, rfl⟩
def own_rm_uget_2_1_Q (Z : State) (u : Addr) (r : Addr) (arr : Addr) (kk : ClassId) (v0 : Addr) (v1 : Addr) (h0 : Heap) (n0 : Nat) (v : Option Value) (h : Heap) (L : List Loc) : Prop := Fr n0 L ∧ v = some (.ref v1) ∧ h = h0
theorem own_rm_uget_2_1_ef (m : MethodId) (u : Addr)  : entryFrame m #[(.ref u), (.int (1 : Int32))] 2 = mkF m 0 #[.val (.ref u), .val (.int (1 : Int32))] [] := by first | (simp [entryFrame, mkF, argsToLocals, Value.category]; done) | rfl
set_option maxRecDepth 65536 in
set_option maxHeartbeats 40000000 in
theorem own_rm_uget_2_1 (l : Launch) (Z : State) (a0 : Array Value) (hw : ∀ d ∈ tables_1, d.before a0 Z = true) (ws : List Jvm.Cond) (u : Addr) (r : Addr) (arr : Addr) (kk : ClassId) (v0 : Addr) (v1 : Addr) (h0 : Heap) (n0 : Nat) (Z0 : n0 ≤ h0.size) (F1 : Fld Z h0 u "java/util/Collections$UnmodifiableList" "list" "Ljava/util/List;" (.ref r)) (F2 : Fld Z h0 r "java/util/ArrayList" "elementData" "[Ljava/lang/Object;" (.ref arr)) (V1 : Arv Z h0 arr kk (.object "java/lang/Object") (10 : Int32) [(.ref v0), (.ref v1), .null, .null, .null, .null, .null, .null, .null, .null] .null) (F3 : Fld Z h0 r "java/util/ArrayList" "size" "I" (.int (2 : Int32))) (E1 : Exa Z h0 r "java/util/ArrayList") :
    MetFree l (⟨"java/util/Collections$UnmodifiableList", "get", "(I)Ljava/lang/Object;"⟩ : MethodName) (head1 (Jvm.Cond.code (⟨"java/util/Collections$UnmodifiableList", "get", "(I)Ljava/lang/Object;"⟩ : MethodName) jdk_120_method_4_code 2 (some (.object "java/lang/Object")) :: ws) ({ frames := 3, cells := 0, slots := 0, locals := 40 } : Room)) (fun aQ UQ => aQ = #[(.ref u), (.int (1 : Int32))] ∧ Z.Warmed39 UQ.vm ∧ UQ.heap = h0) (fun _ _ _ _ _ => True) (fun _ UQ oQ U2 => ∃ vQ LQ, oQ = .returned vQ ∧ own_rm_uget_2_1_Q Z u r arr kk v0 v1 h0 n0 vQ U2.heap LQ ∧ FrameEnd UQ oQ U2 LQ ({ frames := 3, cells := 0, slots := 0, locals := 40 } : Room).cells ({ frames := 3, cells := 0, slots := 0, locals := 40 } : Room).slots) := by
  refine MetFree.of_bodySF own_pn22 hisR ?_
  intro p e s m args below meth c s₁ Bd hml0 hP hK
  obtain ⟨rfl, hZ, hh⟩ := hP
  have hx := Bd.exec
  have hby := Bd.bytes
  have hml : c.maxLocals = 2 := hml0
  have hlk := BodyLoose.notSynchronized Bd
  have hown : s.vm.findClass "java/util/Collections$UnmodifiableList" = some m.cls := findClass_of_methodNamed Bd.named
  have hnm := (name_of_methodNamed Bd.named Bd.method).1
  have X0 : Stand p l e ({ frames := 3, cells := 0, slots := 0, locals := 40 } : Room) s m #[(.ref u), (.int (1 : Int32))] below meth c s₁ [] 0 0 := Stand.of_body Bd
  have e0 : s₁.heap = h0 := by rw [← hh, Bd.state]; rfl
  have N0 := Fr.nil n0
  show own_Go p e below s (own_rm_uget_2_1_Q Z u r arr kk v0 v1 h0 n0) ({ frames := 3, cells := 0, slots := 0, locals := 40 } : Room).cells ({ frames := 3, cells := 0, slots := 0, locals := 40 } : Room).slots (s₁.setTop (entryFrame m #[(.ref u), (.int (1 : Int32))] 2))
  rw [own_rm_uget_2_1_ef]
  show own_Go p e below s _ _ _ (s₁.setTop (mkF m 0 #[.val (.ref u), .val (.int (1 : Int32))] []))
  refine own_st (fun _ kQ => XS.aloadN X0.here hx rfl (hb hby own_d_jdk_120_method_4_code_0) rfl rfl kQ) ?_
  show own_Go p e below s _ _ _ (s₁.setTop (mkF m 1 #[.val (.ref u), .val (.int (1 : Int32))] [(.ref u)]))
  obtain ⟨T490, X490, e490, st490⟩ := getF X0 hx hZ hown (host := "") (Or.inl (hw _ (List.mem_of_getElem? (i := 116) rfl))) Via.refl e0 F1 (g := (mkF m 1 #[.val (.ref u), .val (.int (1 : Int32))] [(.ref u)])) rfl rfl (hb hby own_d_jdk_120_method_4_code_1)
  refine own_st st490 ?_
  show own_Go p e below s _ _ _ (T490.setTop (mkF m 4 #[.val (.ref u), .val (.int (1 : Int32))] [(.ref r)]))
  refine own_st (fun _ kQ => XS.iloadN X490.here hx rfl (hb hby own_d_jdk_120_method_4_code_4) rfl kQ) ?_
  show own_Go p e below s _ _ _ (T490.setTop (mkF m 5 #[.val (.ref u), .val (.int (1 : Int32))] [(.int (1 : Int32)), (.ref r)]))
  obtain ⟨cq491, kq491, q491a, q491b, q491c⟩ := isOf hZ e490 E1
  obtain ⟨_, _, ⟨T491, L491, k491, n491⟩, -, X491, ⟨Lc491, hQ491, l491, y491, z491⟩, st491⟩ := X490.interfaceBack hx (xi := (⟨"java/util/List", "get", "(I)Ljava/lang/Object;"⟩ : MethodName)) (y := (⟨"java/util/ArrayList", "get", "(I)Ljava/lang/Object;"⟩ : MethodName)) hown (mvT hZ (hw _ (List.mem_of_getElem? (i := 151) rfl))) (mvT hZ (hw _ (List.mem_of_getElem? (i := 144) rfl))) (mvT hZ (hw _ (List.mem_of_getElem? (i := 145) rfl))) (mvT hZ (hw _ (List.mem_of_getElem? (i := 152) rfl))) (mvT hZ (hw _ (List.mem_of_getElem? (i := 153) rfl))) (mvT hZ (hw _ (List.mem_of_getElem? (i := 154) rfl))) (mvT hZ (hw _ (List.mem_of_getElem? (i := 155) rfl))) (mvT hZ (hw _ (List.mem_of_getElem? (i := 86) rfl))) (by decide) (backOf (W := 0) (own_rm_get_2_1 l Z a0 hw [] r arr kk v0 v1 h0 n0 Z0 F2 V1 F3 E1) hZ (hw _ (List.mem_of_getElem? (i := 156) rfl)) (hw _ (List.mem_of_getElem? (i := 2) rfl)) (by decide) (by decide)) q491a q491b q491c (g := (mkF m 5 #[.val (.ref u), .val (.int (1 : Int32))] [(.int (1 : Int32)), (.ref r)])) rfl (by rw [hml]; rfl) (Steps.refl _) (argsL := [(.int (1 : Int32))]) (rest := []) (lenOf own_pd11 rfl) rfl (by show 2 * 0 + _ ≤ _; exact Nat.le_of_eq rfl) (hb hby own_d_jdk_120_method_4_code_5) (fun _ _ => ⟨rfl, e490, (by decide : 0 + 0 ≤ _), (by decide : 0 + 0 ≤ _)⟩)
  dsimp only [Pt.U, Pt.locs, Pt.cells, Pt.slots] at X491 l491 y491 z491 st491 hQ491
  subst l491 y491 z491
  obtain ⟨N491q, rfl, eh491⟩ := hQ491
  have N492 := Fr.app N0 N491q
  refine own_tr st491 ?_
  show own_Go p e below s _ _ _ (T491.setTop (mkF m 10 #[.val (.ref u), .val (.int (1 : Int32))] [(.ref v1)]))
  refine own_retA X491 hx hlk Bd.returns rfl (hb hby own_d_jdk_120_method_4_code_10) (by decide) (by decide) ?_
  rw [eh491]
  exact ⟨N492, rfl, rfl⟩
def own_rm_ed_3_2_Q (Z : State) (r : Addr) (arr : Addr) (kk : ClassId) (v0 : Addr) (v1 : Addr) (v2 : Addr) (h0 : Heap) (n0 : Nat) (v : Option Value) (h : Heap) (L : List Loc) : Prop := Fr n0 L ∧ v = some (.ref v2) ∧ h = h0
theorem own_rm_ed_3_2_ef (m : MethodId) (r : Addr)  : entryFrame m #[(.ref r), (.int (2 : Int32))] 2 = mkF m 0 #[.val (.ref r), .val (.int (2 : Int32))] [] := by first | (simp [entryFrame, mkF, argsToLocals, Value.category]; done) | rfl
set_option maxRecDepth 65536 in
set_option maxHeartbeats 40000000 in
theorem own_rm_ed_3_2 (l : Launch) (Z : State) (a0 : Array Value) (hw : ∀ d ∈ tables_1, d.before a0 Z = true) (ws : List Jvm.Cond) (r : Addr) (arr : Addr) (kk : ClassId) (v0 : Addr) (v1 : Addr) (v2 : Addr) (h0 : Heap) (n0 : Nat) (Z0 : n0 ≤ h0.size) (F2 : Fld Z h0 r "java/util/ArrayList" "elementData" "[Ljava/lang/Object;" (.ref arr)) (V1 : Arv Z h0 arr kk (.object "java/lang/Object") (10 : Int32) [(.ref v0), (.ref v1), (.ref v2), .null, .null, .null, .null, .null, .null, .null] .null) :
    MetFree l (⟨"java/util/ArrayList", "elementData", "(I)Ljava/lang/Object;"⟩ : MethodName) (head1 (Jvm.Cond.code (⟨"java/util/ArrayList", "elementData", "(I)Ljava/lang/Object;"⟩ : MethodName) jdk_38_method_18_code 2 (some (.object "java/lang/Object")) :: ws) ({ frames := 0, cells := 0, slots := 0, locals := 0 } : Room)) (fun aQ UQ => aQ = #[(.ref r), (.int (2 : Int32))] ∧ Z.Warmed39 UQ.vm ∧ UQ.heap = h0) (fun _ _ _ _ _ => True) (fun _ UQ oQ U2 => ∃ vQ LQ, oQ = .returned vQ ∧ own_rm_ed_3_2_Q Z r arr kk v0 v1 v2 h0 n0 vQ U2.heap LQ ∧ FrameEnd UQ oQ U2 LQ ({ frames := 0, cells := 0, slots := 0, locals := 0 } : Room).cells ({ frames := 0, cells := 0, slots := 0, locals := 0 } : Room).slots) := by
  refine MetFree.of_bodySF own_pn20 hisR ?_
  intro p e s m args below meth c s₁ Bd hml0 hP hK
  obtain ⟨rfl, hZ, hh⟩ := hP
  have hx := Bd.exec
  have hby := Bd.bytes
  have hml : c.maxLocals = 2 := hml0
  have hlk := BodyLoose.notSynchronized Bd
  have hown : s.vm.findClass "java/util/ArrayList" = some m.cls := findClass_of_methodNamed Bd.named
  have hnm := (name_of_methodNamed Bd.named Bd.method).1
  have X0 : Stand p l e ({ frames := 0, cells := 0, slots := 0, locals := 0 } : Room) s m #[(.ref r), (.int (2 : Int32))] below meth c s₁ [] 0 0 := Stand.of_body Bd
  have e0 : s₁.heap = h0 := by rw [← hh, Bd.state]; rfl
  have N0 := Fr.nil n0
  show own_Go p e below s (own_rm_ed_3_2_Q Z r arr kk v0 v1 v2 h0 n0) ({ frames := 0, cells := 0, slots := 0, locals := 0 } : Room).cells ({ frames := 0, cells := 0, slots := 0, locals := 0 } : Room).slots (s₁.setTop (entryFrame m #[(.ref r), (.int (2 : Int32))] 2))
  rw [own_rm_ed_3_2_ef]
  show own_Go p e below s _ _ _ (s₁.setTop (mkF m 0 #[.val (.ref r), .val (.int (2 : Int32))] []))
  refine own_st (fun _ kQ => XS.aloadN X0.here hx rfl (hb hby own_d_jdk_38_method_18_code_0) rfl rfl kQ) ?_
  show own_Go p e below s _ _ _ (s₁.setTop (mkF m 1 #[.val (.ref r), .val (.int (2 : Int32))] [(.ref r)]))
  obtain ⟨T493, X493, e493, st493⟩ := getF X0 hx hZ hown (host := "") (Or.inl (hw _ (List.mem_of_getElem? (i := 24) rfl))) Via.refl e0 F2 (g := (mkF m 1 #[.val (.ref r), .val (.int (2 : Int32))] [(.ref r)])) rfl rfl (hb hby own_d_jdk_38_method_18_code_1)
  refine own_st st493 ?_
  show own_Go p e below s _ _ _ (T493.setTop (mkF m 4 #[.val (.ref r), .val (.int (2 : Int32))] [(.ref arr)]))
  refine own_st (fun _ kQ => XS.iloadN X493.here hx rfl (hb hby own_d_jdk_38_method_18_code_4) rfl kQ) ?_
  show own_Go p e below s _ _ _ (T493.setTop (mkF m 5 #[.val (.ref r), .val (.int (2 : Int32))] [(.int (2 : Int32)), (.ref arr)]))
  obtain ⟨cl494, Ar494, kc494, S494, Nn494, H494, G494⟩ := id V1
  have hin494 : ¬ ((2 : Int32) < 0 ∨ cl494.slots.size ≤ ((2 : Int32) : Int32).toNatClampNeg) := inb_of S494 (by decide)
  have hat494 : cl494.slots[((2 : Int32) : Int32).toNatClampNeg]? = some (.ref v2) := H494.at hin494 rfl
  refine own_st (fun _ kQ => X493.aaload hx (j := (2 : Int32)) (v := (.ref v2)) (own_hp e493 Ar494.1) (State.isArrayOf_alike hZ.alike Ar494.2.1) rfl Ar494.2.2 hin494 hat494 (g := (mkF m 5 #[.val (.ref r), .val (.int (2 : Int32))] [(.int (2 : Int32)), (.ref arr)])) rfl rfl (hb hby own_d_jdk_38_method_18_code_5) _ kQ) ?_
  show own_Go p e below s _ _ _ (T493.setTop (mkF m 6 #[.val (.ref r), .val (.int (2 : Int32))] [(.ref v2)]))
  refine own_retA X493 hx hlk Bd.returns rfl (hb hby own_d_jdk_38_method_18_code_6) (by decide) (by decide) ?_
  rw [e493]
  exact ⟨N0, rfl, rfl⟩
def own_rm_get_3_2_Q (Z : State) (r : Addr) (arr : Addr) (kk : ClassId) (v0 : Addr) (v1 : Addr) (v2 : Addr) (h0 : Heap) (n0 : Nat) (v : Option Value) (h : Heap) (L : List Loc) : Prop := Fr n0 L ∧ v = some (.ref v2) ∧ h = h0
theorem own_rm_get_3_2_ef (m : MethodId) (r : Addr)  : entryFrame m #[(.ref r), (.int (2 : Int32))] 2 = mkF m 0 #[.val (.ref r), .val (.int (2 : Int32))] [] := by first | (simp [entryFrame, mkF, argsToLocals, Value.category]; done) | rfl
set_option maxRecDepth 65536 in
set_option maxHeartbeats 40000000 in
theorem own_rm_get_3_2 (l : Launch) (Z : State) (a0 : Array Value) (hw : ∀ d ∈ tables_1, d.before a0 Z = true) (ws : List Jvm.Cond) (r : Addr) (arr : Addr) (kk : ClassId) (v0 : Addr) (v1 : Addr) (v2 : Addr) (h0 : Heap) (n0 : Nat) (Z0 : n0 ≤ h0.size) (F2 : Fld Z h0 r "java/util/ArrayList" "elementData" "[Ljava/lang/Object;" (.ref arr)) (V1 : Arv Z h0 arr kk (.object "java/lang/Object") (10 : Int32) [(.ref v0), (.ref v1), (.ref v2), .null, .null, .null, .null, .null, .null, .null] .null) (F3 : Fld Z h0 r "java/util/ArrayList" "size" "I" (.int (3 : Int32))) (E1 : Exa Z h0 r "java/util/ArrayList") :
    MetFree l (⟨"java/util/ArrayList", "get", "(I)Ljava/lang/Object;"⟩ : MethodName) (head1 (Jvm.Cond.code (⟨"java/util/ArrayList", "get", "(I)Ljava/lang/Object;"⟩ : MethodName) jdk_38_method_20_code 2 (some (.object "java/lang/Object")) :: ws) ({ frames := 2, cells := 0, slots := 0, locals := 27 } : Room)) (fun aQ UQ => aQ = #[(.ref r), (.int (2 : Int32))] ∧ Z.Warmed39 UQ.vm ∧ UQ.heap = h0) (fun _ _ _ _ _ => True) (fun _ UQ oQ U2 => ∃ vQ LQ, oQ = .returned vQ ∧ own_rm_get_3_2_Q Z r arr kk v0 v1 v2 h0 n0 vQ U2.heap LQ ∧ FrameEnd UQ oQ U2 LQ ({ frames := 2, cells := 0, slots := 0, locals := 27 } : Room).cells ({ frames := 2, cells := 0, slots := 0, locals := 27 } : Room).slots) := by
  refine MetFree.of_bodySF own_pn21 hisR ?_
  intro p e s m args below meth c s₁ Bd hml0 hP hK
  obtain ⟨rfl, hZ, hh⟩ := hP
  have hx := Bd.exec
  have hby := Bd.bytes
  have hml : c.maxLocals = 2 := hml0
  have hlk := BodyLoose.notSynchronized Bd
  have hown : s.vm.findClass "java/util/ArrayList" = some m.cls := findClass_of_methodNamed Bd.named
  have hnm := (name_of_methodNamed Bd.named Bd.method).1
  have X0 : Stand p l e ({ frames := 2, cells := 0, slots := 0, locals := 27 } : Room) s m #[(.ref r), (.int (2 : Int32))] below meth c s₁ [] 0 0 := Stand.of_body Bd
  have e0 : s₁.heap = h0 := by rw [← hh, Bd.state]; rfl
  have N0 := Fr.nil n0
  show own_Go p e below s (own_rm_get_3_2_Q Z r arr kk v0 v1 v2 h0 n0) ({ frames := 2, cells := 0, slots := 0, locals := 27 } : Room).cells ({ frames := 2, cells := 0, slots := 0, locals := 27 } : Room).slots (s₁.setTop (entryFrame m #[(.ref r), (.int (2 : Int32))] 2))
  rw [own_rm_get_3_2_ef]
  show own_Go p e below s _ _ _ (s₁.setTop (mkF m 0 #[.val (.ref r), .val (.int (2 : Int32))] []))
  refine own_st (fun _ kQ => XS.iloadN X0.here hx rfl (hb hby own_d_jdk_38_method_20_code_0) rfl kQ) ?_
  show own_Go p e below s _ _ _ (s₁.setTop (mkF m 1 #[.val (.ref r), .val (.int (2 : Int32))] [(.int (2 : Int32))]))
  refine own_st (fun _ kQ => XS.aloadN X0.here hx rfl (hb hby own_d_jdk_38_method_20_code_1) rfl rfl kQ) ?_
  show own_Go p e below s _ _ _ (s₁.setTop (mkF m 2 #[.val (.ref r), .val (.int (2 : Int32))] [(.ref r), (.int (2 : Int32))]))
  obtain ⟨T495, X495, e495, st495⟩ := getF X0 hx hZ hown (host := "") (Or.inl (hw _ (List.mem_of_getElem? (i := 40) rfl))) Via.refl e0 F3 (g := (mkF m 2 #[.val (.ref r), .val (.int (2 : Int32))] [(.ref r), (.int (2 : Int32))])) rfl rfl (hb hby own_d_jdk_38_method_20_code_2)
  refine own_st st495 ?_
  show own_Go p e below s _ _ _ (T495.setTop (mkF m 5 #[.val (.ref r), .val (.int (2 : Int32))] [(.int (3 : Int32)), (.int (2 : Int32))]))
  obtain ⟨_, _, ⟨T496, L496, k496, n496⟩, -, X496, ⟨Lc496, hQ496, l496, y496, z496⟩, st496⟩ := Jvm.LawKit.callS X495 hx (y := (⟨"java/util/Objects", "checkIndex", "(II)I"⟩ : MethodName)) hown (mvT hZ (hw _ (List.mem_of_getElem? (i := 157) rfl))) (mvT hZ (hw _ (List.mem_of_getElem? (i := 158) rfl))) (mvT hZ (hw _ (List.mem_of_getElem? (i := 159) rfl))) (mvT hZ (hw _ (List.mem_of_getElem? (i := 160) rfl))) (by decide) (backOf (W := 0) (own_rm_oci l Z a0 hw [] (2 : Int32) (3 : Int32) h0 n0 Z0 (by decide) (by decide)) hZ (hw _ (List.mem_of_getElem? (i := 160) rfl)) (hw _ (List.mem_of_getElem? (i := 159) rfl)) (by decide) (by decide)) (g := (mkF m 5 #[.val (.ref r), .val (.int (2 : Int32))] [(.int (3 : Int32)), (.int (2 : Int32))])) rfl (by rw [hml]; rfl) (argsL := [(.int (2 : Int32)), (.int (3 : Int32))]) (rest := []) (lenOf own_pd2 rfl) rfl (by show 2 * 0 + _ ≤ _; exact Nat.le_of_eq rfl) (hb hby own_d_jdk_38_method_20_code_5) (fun _ _ => ⟨rfl, e495, (by decide : 0 + 0 ≤ _), (by decide : 0 + 0 ≤ _)⟩)
  dsimp only [Pt.U, Pt.locs, Pt.cells, Pt.slots] at X496 l496 y496 z496 st496 hQ496
  subst l496 y496 z496
  obtain ⟨N496q, rfl, eh496⟩ := hQ496
  have N497 := Fr.app N0 N496q
  refine own_st st496 ?_
  show own_Go p e below s _ _ _ (T496.setTop (mkF m 8 #[.val (.ref r), .val (.int (2 : Int32))] [(.int (2 : Int32))]))
  refine own_st (fun _ kQ => XT.pop X496.here hx rfl (hb hby own_d_jdk_38_method_20_code_8) rfl rfl kQ) ?_
  show own_Go p e below s _ _ _ (T496.setTop (mkF m 9 #[.val (.ref r), .val (.int (2 : Int32))] []))
  refine own_st (fun _ kQ => XS.aloadN X496.here hx rfl (hb hby own_d_jdk_38_method_20_code_9) rfl rfl kQ) ?_
  show own_Go p e below s _ _ _ (T496.setTop (mkF m 10 #[.val (.ref r), .val (.int (2 : Int32))] [(.ref r)]))
  refine own_st (fun _ kQ => XS.iloadN X496.here hx rfl (hb hby own_d_jdk_38_method_20_code_10) rfl kQ) ?_
  show own_Go p e below s _ _ _ (T496.setTop (mkF m 11 #[.val (.ref r), .val (.int (2 : Int32))] [(.int (2 : Int32)), (.ref r)]))
  obtain ⟨cq498, kq498, q498a, q498b, q498c⟩ := isOf hZ eh496 E1
  obtain ⟨_, _, ⟨T498, L498, k498, n498⟩, -, X498, ⟨Lc498, hQ498, l498, y498, z498⟩, st498⟩ := X496.virtualBack hx (y := (⟨"java/util/ArrayList", "elementData", "(I)Ljava/lang/Object;"⟩ : MethodName)) (z := (⟨"java/util/ArrayList", "elementData", "(I)Ljava/lang/Object;"⟩ : MethodName)) hown (mvT hZ (hw _ (List.mem_of_getElem? (i := 165) rfl))) (mvT hZ (hw _ (List.mem_of_getElem? (i := 166) rfl))) (notFace_of_selects (args := #[]) (mvT hZ (hw _ (List.mem_of_getElem? (i := 168) rfl)))) (mvT hZ (hw _ (List.mem_of_getElem? (i := 168) rfl))) (mvT hZ (hw _ (List.mem_of_getElem? (i := 167) rfl))) (by decide) (backOf (W := 0) (own_rm_ed_3_2 l Z a0 hw [] r arr kk v0 v1 v2 h0 n0 Z0 F2 V1) hZ (hw _ (List.mem_of_getElem? (i := 169) rfl)) (hw _ (List.mem_of_getElem? (i := 2) rfl)) (by decide) (by decide)) q498a q498c (g := (mkF m 11 #[.val (.ref r), .val (.int (2 : Int32))] [(.int (2 : Int32)), (.ref r)])) rfl (by rw [hml]; rfl) (Steps.refl _) (argsL := [(.int (2 : Int32))]) (rest := []) (lenOf own_pd11 rfl) rfl (by show 2 * 0 + _ ≤ _; exact Nat.le_of_eq rfl) (hb hby own_d_jdk_38_method_20_code_11) (fun _ _ => ⟨rfl, eh496, (by decide : 0 + 0 ≤ _), (by decide : 0 + 0 ≤ _)⟩)
  dsimp only [Pt.U, Pt.locs, Pt.cells, Pt.slots] at X498 l498 y498 z498 st498 hQ498
  subst l498 y498 z498
  obtain ⟨N498q, rfl, eh498⟩ := hQ498
  have N499 := Fr.app N497 N498q
  refine own_tr st498 ?_
  show own_Go p e below s _ _ _ (T498.setTop (mkF m 14 #[.val (.ref r), .val (.int (2 : Int32))] [(.ref v2)]))
  refine own_retA X498 hx hlk Bd.returns rfl (hb hby own_d_jdk_38_method_20_code_14) (by decide) (by decide) ?_
  rw [eh498]
  exact ⟨N499, rfl, rfl⟩
def own_rm_uget_3_2_Q (Z : State) (u : Addr) (r : Addr) (arr : Addr) (kk : ClassId) (v0 : Addr) (v1 : Addr) (v2 : Addr) (h0 : Heap) (n0 : Nat) (v : Option Value) (h : Heap) (L : List Loc) : Prop := Fr n0 L ∧ v = some (.ref v2) ∧ h = h0
theorem own_rm_uget_3_2_ef (m : MethodId) (u : Addr)  : entryFrame m #[(.ref u), (.int (2 : Int32))] 2 = mkF m 0 #[.val (.ref u), .val (.int (2 : Int32))] [] := by first | (simp [entryFrame, mkF, argsToLocals, Value.category]; done) | rfl
set_option maxRecDepth 65536 in
set_option maxHeartbeats 40000000 in
theorem own_rm_uget_3_2 (l : Launch) (Z : State) (a0 : Array Value) (hw : ∀ d ∈ tables_1, d.before a0 Z = true) (ws : List Jvm.Cond) (u : Addr) (r : Addr) (arr : Addr) (kk : ClassId) (v0 : Addr) (v1 : Addr) (v2 : Addr) (h0 : Heap) (n0 : Nat) (Z0 : n0 ≤ h0.size) (F1 : Fld Z h0 u "java/util/Collections$UnmodifiableList" "list" "Ljava/util/List;" (.ref r)) (F2 : Fld Z h0 r "java/util/ArrayList" "elementData" "[Ljava/lang/Object;" (.ref arr)) (V1 : Arv Z h0 arr kk (.object "java/lang/Object") (10 : Int32) [(.ref v0), (.ref v1), (.ref v2), .null, .null, .null, .null, .null, .null, .null] .null) (F3 : Fld Z h0 r "java/util/ArrayList" "size" "I" (.int (3 : Int32))) (E1 : Exa Z h0 r "java/util/ArrayList") :
    MetFree l (⟨"java/util/Collections$UnmodifiableList", "get", "(I)Ljava/lang/Object;"⟩ : MethodName) (head1 (Jvm.Cond.code (⟨"java/util/Collections$UnmodifiableList", "get", "(I)Ljava/lang/Object;"⟩ : MethodName) jdk_120_method_4_code 2 (some (.object "java/lang/Object")) :: ws) ({ frames := 3, cells := 0, slots := 0, locals := 40 } : Room)) (fun aQ UQ => aQ = #[(.ref u), (.int (2 : Int32))] ∧ Z.Warmed39 UQ.vm ∧ UQ.heap = h0) (fun _ _ _ _ _ => True) (fun _ UQ oQ U2 => ∃ vQ LQ, oQ = .returned vQ ∧ own_rm_uget_3_2_Q Z u r arr kk v0 v1 v2 h0 n0 vQ U2.heap LQ ∧ FrameEnd UQ oQ U2 LQ ({ frames := 3, cells := 0, slots := 0, locals := 40 } : Room).cells ({ frames := 3, cells := 0, slots := 0, locals := 40 } : Room).slots) := by
  refine MetFree.of_bodySF own_pn22 hisR ?_
  intro p e s m args below meth c s₁ Bd hml0 hP hK
  obtain ⟨rfl, hZ, hh⟩ := hP
  have hx := Bd.exec
  have hby := Bd.bytes
  have hml : c.maxLocals = 2 := hml0
  have hlk := BodyLoose.notSynchronized Bd
  have hown : s.vm.findClass "java/util/Collections$UnmodifiableList" = some m.cls := findClass_of_methodNamed Bd.named
  have hnm := (name_of_methodNamed Bd.named Bd.method).1
  have X0 : Stand p l e ({ frames := 3, cells := 0, slots := 0, locals := 40 } : Room) s m #[(.ref u), (.int (2 : Int32))] below meth c s₁ [] 0 0 := Stand.of_body Bd
  have e0 : s₁.heap = h0 := by rw [← hh, Bd.state]; rfl
  have N0 := Fr.nil n0
  show own_Go p e below s (own_rm_uget_3_2_Q Z u r arr kk v0 v1 v2 h0 n0) ({ frames := 3, cells := 0, slots := 0, locals := 40 } : Room).cells ({ frames := 3, cells := 0, slots := 0, locals := 40 } : Room).slots (s₁.setTop (entryFrame m #[(.ref u), (.int (2 : Int32))] 2))
  rw [own_rm_uget_3_2_ef]
  show own_Go p e below s _ _ _ (s₁.setTop (mkF m 0 #[.val (.ref u), .val (.int (2 : Int32))] []))
  refine own_st (fun _ kQ => XS.aloadN X0.here hx rfl (hb hby own_d_jdk_120_method_4_code_0) rfl rfl kQ) ?_
  show own_Go p e below s _ _ _ (s₁.setTop (mkF m 1 #[.val (.ref u), .val (.int (2 : Int32))] [(.ref u)]))
  obtain ⟨T500, X500, e500, st500⟩ := getF X0 hx hZ hown (host := "") (Or.inl (hw _ (List.mem_of_getElem? (i := 116) rfl))) Via.refl e0 F1 (g := (mkF m 1 #[.val (.ref u), .val (.int (2 : Int32))] [(.ref u)])) rfl rfl (hb hby own_d_jdk_120_method_4_code_1)
  refine own_st st500 ?_
  show own_Go p e below s _ _ _ (T500.setTop (mkF m 4 #[.val (.ref u), .val (.int (2 : Int32))] [(.ref r)]))
  refine own_st (fun _ kQ => XS.iloadN X500.here hx rfl (hb hby own_d_jdk_120_method_4_code_4) rfl kQ) ?_
  show own_Go p e below s _ _ _ (T500.setTop (mkF m 5 #[.val (.ref u), .val (.int (2 : Int32))] [(.int (2 : Int32)), (.ref r)]))
  obtain ⟨cq501, kq501, q501a, q501b, q501c⟩ := isOf hZ e500 E1
  obtain ⟨_, _, ⟨T501, L501, k501, n501⟩, -, X501, ⟨Lc501, hQ501, l501, y501, z501⟩, st501⟩ := X500.interfaceBack hx (xi := (⟨"java/util/List", "get", "(I)Ljava/lang/Object;"⟩ : MethodName)) (y := (⟨"java/util/ArrayList", "get", "(I)Ljava/lang/Object;"⟩ : MethodName)) hown (mvT hZ (hw _ (List.mem_of_getElem? (i := 151) rfl))) (mvT hZ (hw _ (List.mem_of_getElem? (i := 144) rfl))) (mvT hZ (hw _ (List.mem_of_getElem? (i := 145) rfl))) (mvT hZ (hw _ (List.mem_of_getElem? (i := 152) rfl))) (mvT hZ (hw _ (List.mem_of_getElem? (i := 153) rfl))) (mvT hZ (hw _ (List.mem_of_getElem? (i := 154) rfl))) (mvT hZ (hw _ (List.mem_of_getElem? (i := 155) rfl))) (mvT hZ (hw _ (List.mem_of_getElem? (i := 86) rfl))) (by decide) (backOf (W := 0) (own_rm_get_3_2 l Z a0 hw [] r arr kk v0 v1 v2 h0 n0 Z0 F2 V1 F3 E1) hZ (hw _ (List.mem_of_getElem? (i := 156) rfl)) (hw _ (List.mem_of_getElem? (i := 2) rfl)) (by decide) (by decide)) q501a q501b q501c (g := (mkF m 5 #[.val (.ref u), .val (.int (2 : Int32))] [(.int (2 : Int32)), (.ref r)])) rfl (by rw [hml]; rfl) (Steps.refl _) (argsL := [(.int (2 : Int32))]) (rest := []) (lenOf own_pd11 rfl) rfl (by show 2 * 0 + _ ≤ _; exact Nat.le_of_eq rfl) (hb hby own_d_jdk_120_method_4_code_5) (fun _ _ => ⟨rfl, e500, (by decide : 0 + 0 ≤ _), (by decide : 0 + 0 ≤ _)⟩)
  dsimp only [Pt.U, Pt.locs, Pt.cells, Pt.slots] at X501 l501 y501 z501 st501 hQ501
  subst l501 y501 z501
  obtain ⟨N501q, rfl, eh501⟩ := hQ501
  have N502 := Fr.app N0 N501q
  refine own_tr st501 ?_
  show own_Go p e below s _ _ _ (T501.setTop (mkF m 10 #[.val (.ref u), .val (.int (2 : Int32))] [(.ref v2)]))
  refine own_retA X501 hx hlk Bd.returns rfl (hb hby own_d_jdk_120_method_4_code_10) (by decide) (by decide) ?_
  rw [eh501]
  exact ⟨N502, rfl, rfl⟩
def own_rm_ed_4_3_Q (Z : State) (r : Addr) (arr : Addr) (kk : ClassId) (v0 : Addr) (v1 : Addr) (v2 : Addr) (v3 : Addr) (h0 : Heap) (n0 : Nat) (v : Option Value) (h : Heap) (L : List Loc) : Prop := Fr n0 L ∧ v = some (.ref v3) ∧ h = h0
theorem own_rm_ed_4_3_ef (m : MethodId) (r : Addr)  : entryFrame m #[(.ref r), (.int (3 : Int32))] 2 = mkF m 0 #[.val (.ref r), .val (.int (3 : Int32))] [] := by first | (simp [entryFrame, mkF, argsToLocals, Value.category]; done) | rfl
set_option maxRecDepth 65536 in
set_option maxHeartbeats 40000000 in
theorem own_rm_ed_4_3 (l : Launch) (Z : State) (a0 : Array Value) (hw : ∀ d ∈ tables_1, d.before a0 Z = true) (ws : List Jvm.Cond) (r : Addr) (arr : Addr) (kk : ClassId) (v0 : Addr) (v1 : Addr) (v2 : Addr) (v3 : Addr) (h0 : Heap) (n0 : Nat) (Z0 : n0 ≤ h0.size) (F2 : Fld Z h0 r "java/util/ArrayList" "elementData" "[Ljava/lang/Object;" (.ref arr)) (V1 : Arv Z h0 arr kk (.object "java/lang/Object") (10 : Int32) [(.ref v0), (.ref v1), (.ref v2), (.ref v3), .null, .null, .null, .null, .null, .null] .null) :
    MetFree l (⟨"java/util/ArrayList", "elementData", "(I)Ljava/lang/Object;"⟩ : MethodName) (head1 (Jvm.Cond.code (⟨"java/util/ArrayList", "elementData", "(I)Ljava/lang/Object;"⟩ : MethodName) jdk_38_method_18_code 2 (some (.object "java/lang/Object")) :: ws) ({ frames := 0, cells := 0, slots := 0, locals := 0 } : Room)) (fun aQ UQ => aQ = #[(.ref r), (.int (3 : Int32))] ∧ Z.Warmed39 UQ.vm ∧ UQ.heap = h0) (fun _ _ _ _ _ => True) (fun _ UQ oQ U2 => ∃ vQ LQ, oQ = .returned vQ ∧ own_rm_ed_4_3_Q Z r arr kk v0 v1 v2 v3 h0 n0 vQ U2.heap LQ ∧ FrameEnd UQ oQ U2 LQ ({ frames := 0, cells := 0, slots := 0, locals := 0 } : Room).cells ({ frames := 0, cells := 0, slots := 0, locals := 0 } : Room).slots) := by
  refine MetFree.of_bodySF own_pn20 hisR ?_
  intro p e s m args below meth c s₁ Bd hml0 hP hK
  obtain ⟨rfl, hZ, hh⟩ := hP
  have hx := Bd.exec
  have hby := Bd.bytes
  have hml : c.maxLocals = 2 := hml0
  have hlk := BodyLoose.notSynchronized Bd
  have hown : s.vm.findClass "java/util/ArrayList" = some m.cls := findClass_of_methodNamed Bd.named
  have hnm := (name_of_methodNamed Bd.named Bd.method).1
  have X0 : Stand p l e ({ frames := 0, cells := 0, slots := 0, locals := 0 } : Room) s m #[(.ref r), (.int (3 : Int32))] below meth c s₁ [] 0 0 := Stand.of_body Bd
  have e0 : s₁.heap = h0 := by rw [← hh, Bd.state]; rfl
  have N0 := Fr.nil n0
  show own_Go p e below s (own_rm_ed_4_3_Q Z r arr kk v0 v1 v2 v3 h0 n0) ({ frames := 0, cells := 0, slots := 0, locals := 0 } : Room).cells ({ frames := 0, cells := 0, slots := 0, locals := 0 } : Room).slots (s₁.setTop (entryFrame m #[(.ref r), (.int (3 : Int32))] 2))
  rw [own_rm_ed_4_3_ef]
  show own_Go p e below s _ _ _ (s₁.setTop (mkF m 0 #[.val (.ref r), .val (.int (3 : Int32))] []))
  refine own_st (fun _ kQ => XS.aloadN X0.here hx rfl (hb hby own_d_jdk_38_method_18_code_0) rfl rfl kQ) ?_
  show own_Go p e below s _ _ _ (s₁.setTop (mkF m 1 #[.val (.ref r), .val (.int (3 : Int32))] [(.ref r)]))
  obtain ⟨T503, X503, e503, st503⟩ := getF X0 hx hZ hown (host := "") (Or.inl (hw _ (List.mem_of_getElem? (i := 24) rfl))) Via.refl e0 F2 (g := (mkF m 1 #[.val (.ref r), .val (.int (3 : Int32))] [(.ref r)])) rfl rfl (hb hby own_d_jdk_38_method_18_code_1)
  refine own_st st503 ?_
  show own_Go p e below s _ _ _ (T503.setTop (mkF m 4 #[.val (.ref r), .val (.int (3 : Int32))] [(.ref arr)]))
  refine own_st (fun _ kQ => XS.iloadN X503.here hx rfl (hb hby own_d_jdk_38_method_18_code_4) rfl kQ) ?_
  show own_Go p e below s _ _ _ (T503.setTop (mkF m 5 #[.val (.ref r), .val (.int (3 : Int32))] [(.int (3 : Int32)), (.ref arr)]))
  obtain ⟨cl504, Ar504, kc504, S504, Nn504, H504, G504⟩ := id V1
  have hin504 : ¬ ((3 : Int32) < 0 ∨ cl504.slots.size ≤ ((3 : Int32) : Int32).toNatClampNeg) := inb_of S504 (by decide)
  have hat504 : cl504.slots[((3 : Int32) : Int32).toNatClampNeg]? = some (.ref v3) := H504.at hin504 rfl
  refine own_st (fun _ kQ => X503.aaload hx (j := (3 : Int32)) (v := (.ref v3)) (own_hp e503 Ar504.1) (State.isArrayOf_alike hZ.alike Ar504.2.1) rfl Ar504.2.2 hin504 hat504 (g := (mkF m 5 #[.val (.ref r), .val (.int (3 : Int32))] [(.int (3 : Int32)), (.ref arr)])) rfl rfl (hb hby own_d_jdk_38_method_18_code_5) _ kQ) ?_
  show own_Go p e below s _ _ _ (T503.setTop (mkF m 6 #[.val (.ref r), .val (.int (3 : Int32))] [(.ref v3)]))
  refine own_retA X503 hx hlk Bd.returns rfl (hb hby own_d_jdk_38_method_18_code_6) (by decide) (by decide) ?_
  rw [e503]
  exact ⟨N0, rfl, rfl⟩
def own_rm_get_4_3_Q (Z : State) (r : Addr) (arr : Addr) (kk : ClassId) (v0 : Addr) (v1 : Addr) (v2 : Addr) (v3 : Addr) (h0 : Heap) (n0 : Nat) (v : Option Value) (h : Heap) (L : List Loc) : Prop := Fr n0 L ∧ v = some (.ref v3) ∧ h = h0
theorem own_rm_get_4_3_ef (m : MethodId) (r : Addr)  : entryFrame m #[(.ref r), (.int (3 : Int32))] 2 = mkF m 0 #[.val (.ref r), .val (.int (3 : Int32))] [] := by first | (simp [entryFrame, mkF, argsToLocals, Value.category]; done) | rfl
set_option maxRecDepth 65536 in
set_option maxHeartbeats 40000000 in
theorem own_rm_get_4_3 (l : Launch) (Z : State) (a0 : Array Value) (hw : ∀ d ∈ tables_1, d.before a0 Z = true) (ws : List Jvm.Cond) (r : Addr) (arr : Addr) (kk : ClassId) (v0 : Addr) (v1 : Addr) (v2 : Addr) (v3 : Addr) (h0 : Heap) (n0 : Nat) (Z0 : n0 ≤ h0.size) (F2 : Fld Z h0 r "java/util/ArrayList" "elementData" "[Ljava/lang/Object;" (.ref arr)) (V1 : Arv Z h0 arr kk (.object "java/lang/Object") (10 : Int32) [(.ref v0), (.ref v1), (.ref v2), (.ref v3), .null, .null, .null, .null, .null, .null] .null) (F3 : Fld Z h0 r "java/util/ArrayList" "size" "I" (.int (4 : Int32))) (E1 : Exa Z h0 r "java/util/ArrayList") :
    MetFree l (⟨"java/util/ArrayList", "get", "(I)Ljava/lang/Object;"⟩ : MethodName) (head1 (Jvm.Cond.code (⟨"java/util/ArrayList", "get", "(I)Ljava/lang/Object;"⟩ : MethodName) jdk_38_method_20_code 2 (some (.object "java/lang/Object")) :: ws) ({ frames := 2, cells := 0, slots := 0, locals := 27 } : Room)) (fun aQ UQ => aQ = #[(.ref r), (.int (3 : Int32))] ∧ Z.Warmed39 UQ.vm ∧ UQ.heap = h0) (fun _ _ _ _ _ => True) (fun _ UQ oQ U2 => ∃ vQ LQ, oQ = .returned vQ ∧ own_rm_get_4_3_Q Z r arr kk v0 v1 v2 v3 h0 n0 vQ U2.heap LQ ∧ FrameEnd UQ oQ U2 LQ ({ frames := 2, cells := 0, slots := 0, locals := 27 } : Room).cells ({ frames := 2, cells := 0, slots := 0, locals := 27 } : Room).slots) := by
  refine MetFree.of_bodySF own_pn21 hisR ?_
  intro p e s m args below meth c s₁ Bd hml0 hP hK
  obtain ⟨rfl, hZ, hh⟩ := hP
  have hx := Bd.exec
  have hby := Bd.bytes
  have hml : c.maxLocals = 2 := hml0
  have hlk := BodyLoose.notSynchronized Bd
  have hown : s.vm.findClass "java/util/ArrayList" = some m.cls := findClass_of_methodNamed Bd.named
  have hnm := (name_of_methodNamed Bd.named Bd.method).1
  have X0 : Stand p l e ({ frames := 2, cells := 0, slots := 0, locals := 27 } : Room) s m #[(.ref r), (.int (3 : Int32))] below meth c s₁ [] 0 0 := Stand.of_body Bd
  have e0 : s₁.heap = h0 := by rw [← hh, Bd.state]; rfl
  have N0 := Fr.nil n0
  show own_Go p e below s (own_rm_get_4_3_Q Z r arr kk v0 v1 v2 v3 h0 n0) ({ frames := 2, cells := 0, slots := 0, locals := 27 } : Room).cells ({ frames := 2, cells := 0, slots := 0, locals := 27 } : Room).slots (s₁.setTop (entryFrame m #[(.ref r), (.int (3 : Int32))] 2))
  rw [own_rm_get_4_3_ef]
  show own_Go p e below s _ _ _ (s₁.setTop (mkF m 0 #[.val (.ref r), .val (.int (3 : Int32))] []))
  refine own_st (fun _ kQ => XS.iloadN X0.here hx rfl (hb hby own_d_jdk_38_method_20_code_0) rfl kQ) ?_
  show own_Go p e below s _ _ _ (s₁.setTop (mkF m 1 #[.val (.ref r), .val (.int (3 : Int32))] [(.int (3 : Int32))]))
  refine own_st (fun _ kQ => XS.aloadN X0.here hx rfl (hb hby own_d_jdk_38_method_20_code_1) rfl rfl kQ) ?_
  show own_Go p e below s _ _ _ (s₁.setTop (mkF m 2 #[.val (.ref r), .val (.int (3 : Int32))] [(.ref r), (.int (3 : Int32))]))
  obtain ⟨T505, X505, e505, st505⟩ := getF X0 hx hZ hown (host := "") (Or.inl (hw _ (List.mem_of_getElem? (i := 40) rfl))) Via.refl e0 F3 (g := (mkF m 2 #[.val (.ref r), .val (.int (3 : Int32))] [(.ref r), (.int (3 : Int32))])) rfl rfl (hb hby own_d_jdk_38_method_20_code_2)
  refine own_st st505 ?_
  show own_Go p e below s _ _ _ (T505.setTop (mkF m 5 #[.val (.ref r), .val (.int (3 : Int32))] [(.int (4 : Int32)), (.int (3 : Int32))]))
  obtain ⟨_, _, ⟨T506, L506, k506, n506⟩, -, X506, ⟨Lc506, hQ506, l506, y506, z506⟩, st506⟩ := Jvm.LawKit.callS X505 hx (y := (⟨"java/util/Objects", "checkIndex", "(II)I"⟩ : MethodName)) hown (mvT hZ (hw _ (List.mem_of_getElem? (i := 157) rfl))) (mvT hZ (hw _ (List.mem_of_getElem? (i := 158) rfl))) (mvT hZ (hw _ (List.mem_of_getElem? (i := 159) rfl))) (mvT hZ (hw _ (List.mem_of_getElem? (i := 160) rfl))) (by decide) (backOf (W := 0) (own_rm_oci l Z a0 hw [] (3 : Int32) (4 : Int32) h0 n0 Z0 (by decide) (by decide)) hZ (hw _ (List.mem_of_getElem? (i := 160) rfl)) (hw _ (List.mem_of_getElem? (i := 159) rfl)) (by decide) (by decide)) (g := (mkF m 5 #[.val (.ref r), .val (.int (3 : Int32))] [(.int (4 : Int32)), (.int (3 : Int32))])) rfl (by rw [hml]; rfl) (argsL := [(.int (3 : Int32)), (.int (4 : Int32))]) (rest := []) (lenOf own_pd2 rfl) rfl (by show 2 * 0 + _ ≤ _; exact Nat.le_of_eq rfl) (hb hby own_d_jdk_38_method_20_code_5) (fun _ _ => ⟨rfl, e505, (by decide : 0 + 0 ≤ _), (by decide : 0 + 0 ≤ _)⟩)
  dsimp only [Pt.U, Pt.locs, Pt.cells, Pt.slots] at X506 l506 y506 z506 st506 hQ506
  subst l506 y506 z506
  obtain ⟨N506q, rfl, eh506⟩ := hQ506
  have N507 := Fr.app N0 N506q
  refine own_st st506 ?_
  show own_Go p e below s _ _ _ (T506.setTop (mkF m 8 #[.val (.ref r), .val (.int (3 : Int32))] [(.int (3 : Int32))]))
  refine own_st (fun _ kQ => XT.pop X506.here hx rfl (hb hby own_d_jdk_38_method_20_code_8) rfl rfl kQ) ?_
  show own_Go p e below s _ _ _ (T506.setTop (mkF m 9 #[.val (.ref r), .val (.int (3 : Int32))] []))
  refine own_st (fun _ kQ => XS.aloadN X506.here hx rfl (hb hby own_d_jdk_38_method_20_code_9) rfl rfl kQ) ?_
  show own_Go p e below s _ _ _ (T506.setTop (mkF m 10 #[.val (.ref r), .val (.int (3 : Int32))] [(.ref r)]))
  refine own_st (fun _ kQ => XS.iloadN X506.here hx rfl (hb hby own_d_jdk_38_method_20_code_10) rfl kQ) ?_
  show own_Go p e below s _ _ _ (T506.setTop (mkF m 11 #[.val (.ref r), .val (.int (3 : Int32))] [(.int (3 : Int32)), (.ref r)]))
  obtain ⟨cq508, kq508, q508a, q508b, q508c⟩ := isOf hZ eh506 E1
  obtain ⟨_, _, ⟨T508, L508, k508, n508⟩, -, X508, ⟨Lc508, hQ508, l508, y508, z508⟩, st508⟩ := X506.virtualBack hx (y := (⟨"java/util/ArrayList", "elementData", "(I)Ljava/lang/Object;"⟩ : MethodName)) (z := (⟨"java/util/ArrayList", "elementData", "(I)Ljava/lang/Object;"⟩ : MethodName)) hown (mvT hZ (hw _ (List.mem_of_getElem? (i := 165) rfl))) (mvT hZ (hw _ (List.mem_of_getElem? (i := 166) rfl))) (notFace_of_selects (args := #[]) (mvT hZ (hw _ (List.mem_of_getElem? (i := 168) rfl)))) (mvT hZ (hw _ (List.mem_of_getElem? (i := 168) rfl))) (mvT hZ (hw _ (List.mem_of_getElem? (i := 167) rfl))) (by decide) (backOf (W := 0) (own_rm_ed_4_3 l Z a0 hw [] r arr kk v0 v1 v2 v3 h0 n0 Z0 F2 V1) hZ (hw _ (List.mem_of_getElem? (i := 169) rfl)) (hw _ (List.mem_of_getElem? (i := 2) rfl)) (by decide) (by decide)) q508a q508c (g := (mkF m 11 #[.val (.ref r), .val (.int (3 : Int32))] [(.int (3 : Int32)), (.ref r)])) rfl (by rw [hml]; rfl) (Steps.refl _) (argsL := [(.int (3 : Int32))]) (rest := []) (lenOf own_pd11 rfl) rfl (by show 2 * 0 + _ ≤ _; exact Nat.le_of_eq rfl) (hb hby own_d_jdk_38_method_20_code_11) (fun _ _ => ⟨rfl, eh506, (by decide : 0 + 0 ≤ _), (by decide : 0 + 0 ≤ _)⟩)
  dsimp only [Pt.U, Pt.locs, Pt.cells, Pt.slots] at X508 l508 y508 z508 st508 hQ508
  subst l508 y508 z508
  obtain ⟨N508q, rfl, eh508⟩ := hQ508
  have N509 := Fr.app N507 N508q
  refine own_tr st508 ?_
  show own_Go p e below s _ _ _ (T508.setTop (mkF m 14 #[.val (.ref r), .val (.int (3 : Int32))] [(.ref v3)]))
  refine own_retA X508 hx hlk Bd.returns rfl (hb hby own_d_jdk_38_method_20_code_14) (by decide) (by decide) ?_
  rw [eh508]
  exact ⟨N509, rfl, rfl⟩
def own_rm_uget_4_3_Q (Z : State) (u : Addr) (r : Addr) (arr : Addr) (kk : ClassId) (v0 : Addr) (v1 : Addr) (v2 : Addr) (v3 : Addr) (h0 : Heap) (n0 : Nat) (v : Option Value) (h : Heap) (L : List Loc) : Prop := Fr n0 L ∧ v = some (.ref v3) ∧ h = h0
theorem own_rm_uget_4_3_ef (m : MethodId) (u : Addr)  : entryFrame m #[(.ref u), (.int (3 : Int32))] 2 = mkF m 0 #[.val (.ref u), .val (.int (3 : Int32))] [] := by first | (simp [entryFrame, mkF, argsToLocals, Value.category]; done) | rfl
set_option maxRecDepth 65536 in
set_option maxHeartbeats 40000000 in
theorem own_rm_uget_4_3 (l : Launch) (Z : State) (a0 : Array Value) (hw : ∀ d ∈ tables_1, d.before a0 Z = true) (ws : List Jvm.Cond) (u : Addr) (r : Addr) (arr : Addr) (kk : ClassId) (v0 : Addr) (v1 : Addr) (v2 : Addr) (v3 : Addr) (h0 : Heap) (n0 : Nat) (Z0 : n0 ≤ h0.size) (F1 : Fld Z h0 u "java/util/Collections$UnmodifiableList" "list" "Ljava/util/List;" (.ref r)) (F2 : Fld Z h0 r "java/util/ArrayList" "elementData" "[Ljava/lang/Object;" (.ref arr)) (V1 : Arv Z h0 arr kk (.object "java/lang/Object") (10 : Int32) [(.ref v0), (.ref v1), (.ref v2), (.ref v3), .null, .null, .null, .null, .null, .null] .null) (F3 : Fld Z h0 r "java/util/ArrayList" "size" "I" (.int (4 : Int32))) (E1 : Exa Z h0 r "java/util/ArrayList") :
    MetFree l (⟨"java/util/Collections$UnmodifiableList", "get", "(I)Ljava/lang/Object;"⟩ : MethodName) (head1 (Jvm.Cond.code (⟨"java/util/Collections$UnmodifiableList", "get", "(I)Ljava/lang/Object;"⟩ : MethodName) jdk_120_method_4_code 2 (some (.object "java/lang/Object")) :: ws) ({ frames := 3, cells := 0, slots := 0, locals := 40 } : Room)) (fun aQ UQ => aQ = #[(.ref u), (.int (3 : Int32))] ∧ Z.Warmed39 UQ.vm ∧ UQ.heap = h0) (fun _ _ _ _ _ => True) (fun _ UQ oQ U2 => ∃ vQ LQ, oQ = .returned vQ ∧ own_rm_uget_4_3_Q Z u r arr kk v0 v1 v2 v3 h0 n0 vQ U2.heap LQ ∧ FrameEnd UQ oQ U2 LQ ({ frames := 3, cells := 0, slots := 0, locals := 40 } : Room).cells ({ frames := 3, cells := 0, slots := 0, locals := 40 } : Room).slots) := by
  refine MetFree.of_bodySF own_pn22 hisR ?_
  intro p e s m args below meth c s₁ Bd hml0 hP hK
  obtain ⟨rfl, hZ, hh⟩ := hP
  have hx := Bd.exec
  have hby := Bd.bytes
  have hml : c.maxLocals = 2 := hml0
  have hlk := BodyLoose.notSynchronized Bd
  have hown : s.vm.findClass "java/util/Collections$UnmodifiableList" = some m.cls := findClass_of_methodNamed Bd.named
  have hnm := (name_of_methodNamed Bd.named Bd.method).1
  have X0 : Stand p l e ({ frames := 3, cells := 0, slots := 0, locals := 40 } : Room) s m #[(.ref u), (.int (3 : Int32))] below meth c s₁ [] 0 0 := Stand.of_body Bd
  have e0 : s₁.heap = h0 := by rw [← hh, Bd.state]; rfl
  have N0 := Fr.nil n0
  show own_Go p e below s (own_rm_uget_4_3_Q Z u r arr kk v0 v1 v2 v3 h0 n0) ({ frames := 3, cells := 0, slots := 0, locals := 40 } : Room).cells ({ frames := 3, cells := 0, slots := 0, locals := 40 } : Room).slots (s₁.setTop (entryFrame m #[(.ref u), (.int (3 : Int32))] 2))
  rw [own_rm_uget_4_3_ef]
  show own_Go p e below s _ _ _ (s₁.setTop (mkF m 0 #[.val (.ref u), .val (.int (3 : Int32))] []))
  refine own_st (fun _ kQ => XS.aloadN X0.here hx rfl (hb hby own_d_jdk_120_method_4_code_0) rfl rfl kQ) ?_
  show own_Go p e below s _ _ _ (s₁.setTop (mkF m 1 #[.val (.ref u), .val (.int (3 : Int32))] [(.ref u)]))
  obtain ⟨T510, X510, e510, st510⟩ := getF X0 hx hZ hown (host := "") (Or.inl (hw _ (List.mem_of_getElem? (i := 116) rfl))) Via.refl e0 F1 (g := (mkF m 1 #[.val (.ref u), .val (.int (3 : Int32))] [(.ref u)])) rfl rfl (hb hby own_d_jdk_120_method_4_code_1)
  refine own_st st510 ?_
  show own_Go p e below s _ _ _ (T510.setTop (mkF m 4 #[.val (.ref u), .val (.int (3 : Int32))] [(.ref r)]))
  refine own_st (fun _ kQ => XS.iloadN X510.here hx rfl (hb hby own_d_jdk_120_method_4_code_4) rfl kQ) ?_
  show own_Go p e below s _ _ _ (T510.setTop (mkF m 5 #[.val (.ref u), .val (.int (3 : Int32))] [(.int (3 : Int32)), (.ref r)]))
  obtain ⟨cq511, kq511, q511a, q511b, q511c⟩ := isOf hZ e510 E1
  obtain ⟨_, _, ⟨T511, L511, k511, n511⟩, -, X511, ⟨Lc511, hQ511, l511, y511, z511⟩, st511⟩ := X510.interfaceBack hx (xi := (⟨"java/util/List", "get", "(I)Ljava/lang/Object;"⟩ : MethodName)) (y := (⟨"java/util/ArrayList", "get", "(I)Ljava/lang/Object;"⟩ : MethodName)) hown (mvT hZ (hw _ (List.mem_of_getElem? (i := 151) rfl))) (mvT hZ (hw _ (List.mem_of_getElem? (i := 144) rfl))) (mvT hZ (hw _ (List.mem_of_getElem? (i := 145) rfl))) (mvT hZ (hw _ (List.mem_of_getElem? (i := 152) rfl))) (mvT hZ (hw _ (List.mem_of_getElem? (i := 153) rfl))) (mvT hZ (hw _ (List.mem_of_getElem? (i := 154) rfl))) (mvT hZ (hw _ (List.mem_of_getElem? (i := 155) rfl))) (mvT hZ (hw _ (List.mem_of_getElem? (i := 86) rfl))) (by decide) (backOf (W := 0) (own_rm_get_4_3 l Z a0 hw [] r arr kk v0 v1 v2 v3 h0 n0 Z0 F2 V1 F3 E1) hZ (hw _ (List.mem_of_getElem? (i := 156) rfl)) (hw _ (List.mem_of_getElem? (i := 2) rfl)) (by decide) (by decide)) q511a q511b q511c (g := (mkF m 5 #[.val (.ref u), .val (.int (3 : Int32))] [(.int (3 : Int32)), (.ref r)])) rfl (by rw [hml]; rfl) (Steps.refl _) (argsL := [(.int (3 : Int32))]) (rest := []) (lenOf own_pd11 rfl) rfl (by show 2 * 0 + _ ≤ _; exact Nat.le_of_eq rfl) (hb hby own_d_jdk_120_method_4_code_5) (fun _ _ => ⟨rfl, e510, (by decide : 0 + 0 ≤ _), (by decide : 0 + 0 ≤ _)⟩)
  dsimp only [Pt.U, Pt.locs, Pt.cells, Pt.slots] at X511 l511 y511 z511 st511 hQ511
  subst l511 y511 z511
  obtain ⟨N511q, rfl, eh511⟩ := hQ511
  have N512 := Fr.app N0 N511q
  refine own_tr st511 ?_
  show own_Go p e below s _ _ _ (T511.setTop (mkF m 10 #[.val (.ref u), .val (.int (3 : Int32))] [(.ref v3)]))
  refine own_retA X511 hx hlk Bd.returns rfl (hb hby own_d_jdk_120_method_4_code_10) (by decide) (by decide) ?_
  rw [eh511]
  exact ⟨N512, rfl, rfl⟩
theorem own_d_jdk_33_method_27_code_0 : decode jdk_33_method_27_code 0 = .ok (.aload_n 0, 1) := by decide +kernel
theorem own_d_jdk_33_method_27_code_1 : decode jdk_33_method_27_code 1 = .ok (.getfield 205, 3) := by decide +kernel
theorem own_d_jdk_33_method_27_code_4 : decode jdk_33_method_27_code 4 = .ok (.ireturn, 1) := by decide +kernel
theorem own_pn23 : plainFor (⟨"java/lang/Integer", "intValue", "()I"⟩ : MethodName) = true := by decide +kernel
def own_rm_iv_Q (Z : State) (r : Addr) (x : Int32) (h0 : Heap) (n0 : Nat) (v : Option Value) (h : Heap) (L : List Loc) : Prop := Fr n0 L ∧ v = some (.int x) ∧ h = h0
theorem own_rm_iv_ef (m : MethodId) (r : Addr)  : entryFrame m #[(.ref r)] 1 = mkF m 0 #[.val (.ref r)] [] := by first | (simp [entryFrame, mkF, argsToLocals, Value.category]; done) | rfl
set_option maxRecDepth 65536 in
set_option maxHeartbeats 40000000 in
theorem own_rm_iv (l : Launch) (Z : State) (a0 : Array Value) (hw : ∀ d ∈ tables_1, d.before a0 Z = true) (ws : List Jvm.Cond) (r : Addr) (x : Int32) (h0 : Heap) (n0 : Nat) (Z0 : n0 ≤ h0.size) (F1 : Fld Z h0 r "java/lang/Integer" "value" "I" (.int x)) :
    MetFree l (⟨"java/lang/Integer", "intValue", "()I"⟩ : MethodName) (head1 (Jvm.Cond.code (⟨"java/lang/Integer", "intValue", "()I"⟩ : MethodName) jdk_33_method_27_code 1 (some .int) :: ws) ({ frames := 0, cells := 0, slots := 0, locals := 0 } : Room)) (fun aQ UQ => aQ = #[(.ref r)] ∧ Z.Warmed39 UQ.vm ∧ UQ.heap = h0) (fun _ _ _ _ _ => True) (fun _ UQ oQ U2 => ∃ vQ LQ, oQ = .returned vQ ∧ own_rm_iv_Q Z r x h0 n0 vQ U2.heap LQ ∧ FrameEnd UQ oQ U2 LQ ({ frames := 0, cells := 0, slots := 0, locals := 0 } : Room).cells ({ frames := 0, cells := 0, slots := 0, locals := 0 } : Room).slots) := by
  refine MetFree.of_bodySF own_pn23 hisR ?_
  intro p e s m args below meth c s₁ Bd hml0 hP hK
  obtain ⟨rfl, hZ, hh⟩ := hP
  have hx := Bd.exec
  have hby := Bd.bytes
  have hml : c.maxLocals = 1 := hml0
  have hlk := BodyLoose.notSynchronized Bd
  have hown : s.vm.findClass "java/lang/Integer" = some m.cls := findClass_of_methodNamed Bd.named
  have hnm := (name_of_methodNamed Bd.named Bd.method).1
  have X0 : Stand p l e ({ frames := 0, cells := 0, slots := 0, locals := 0 } : Room) s m #[(.ref r)] below meth c s₁ [] 0 0 := Stand.of_body Bd
  have e0 : s₁.heap = h0 := by rw [← hh, Bd.state]; rfl
  have N0 := Fr.nil n0
  show own_Go p e below s (own_rm_iv_Q Z r x h0 n0) ({ frames := 0, cells := 0, slots := 0, locals := 0 } : Room).cells ({ frames := 0, cells := 0, slots := 0, locals := 0 } : Room).slots (s₁.setTop (entryFrame m #[(.ref r)] 1))
  rw [own_rm_iv_ef]
  show own_Go p e below s _ _ _ (s₁.setTop (mkF m 0 #[.val (.ref r)] []))
  refine own_st (fun _ kQ => XS.aloadN X0.here hx rfl (hb hby own_d_jdk_33_method_27_code_0) rfl rfl kQ) ?_
  show own_Go p e below s _ _ _ (s₁.setTop (mkF m 1 #[.val (.ref r)] [(.ref r)]))
  obtain ⟨T513, X513, e513, st513⟩ := getF X0 hx hZ hown (host := "") (Or.inl (hw _ (List.mem_of_getElem? (i := 177) rfl))) Via.refl e0 F1 (g := (mkF m 1 #[.val (.ref r)] [(.ref r)])) rfl rfl (hb hby own_d_jdk_33_method_27_code_1)
  refine own_st st513 ?_
  show own_Go p e below s _ _ _ (T513.setTop (mkF m 4 #[.val (.ref r)] [(.int x)]))
  refine own_retI X513 hx hlk Bd.returns (hb hby own_d_jdk_33_method_27_code_4) (by decide) (by decide) ?_
  rw [e513]
  exact ⟨N0, rfl, rfl⟩
theorem own_d_prog_6_method_7_code_0 : decode prog_6_method_7_code 0 = .ok (.aload_n 0, 1) := by decide +kernel
theorem own_d_prog_6_method_7_code_1 : decode prog_6_method_7_code 1 = .ok (.getfield 22, 3) := by decide +kernel
theorem own_d_prog_6_method_7_code_4 : decode prog_6_method_7_code 4 = .ok (.aload_n 0, 1) := by decide +kernel
theorem own_d_prog_6_method_7_code_5 : decode prog_6_method_7_code 5 = .ok (.getfield 22, 3) := by decide +kernel
theorem own_d_prog_6_method_7_code_8 : decode prog_6_method_7_code 8 = .ok (.invokeinterface 26 1, 5) := by decide +kernel
theorem own_d_prog_6_method_7_code_13 : decode prog_6_method_7_code 13 = .ok (.iconst 1, 1) := by decide +kernel
theorem own_d_prog_6_method_7_code_14 : decode prog_6_method_7_code 14 = .ok (.isub, 1) := by decide +kernel
theorem own_d_prog_6_method_7_code_15 : decode prog_6_method_7_code 15 = .ok (.invokeinterface 32 2, 5) := by decide +kernel
theorem own_d_prog_6_method_7_code_20 : decode prog_6_method_7_code 20 = .ok (.areturn, 1) := by decide +kernel
theorem own_pn24 : plainFor (⟨"com/example/rationed_session/rationedsession/model/Partition", "last", "()Ljava/lang/Object;"⟩ : MethodName) = true := by decide +kernel
def own_rm_lastU1_Q (Z : State) (u : Addr) (q : Addr) (r : Addr) (arr : Addr) (kk : ClassId) (v0 : Addr) (h0 : Heap) (n0 : Nat) (v : Option Value) (h : Heap) (L : List Loc) : Prop := Fr n0 L ∧ v = some (.ref v0) ∧ h = h0
theorem own_rm_lastU1_ef (m : MethodId) (q : Addr)  : entryFrame m #[(.ref q)] 1 = mkF m 0 #[.val (.ref q)] [] := by first | (simp [entryFrame, mkF, argsToLocals, Value.category]; done) | rfl
set_option maxRecDepth 65536 in
set_option maxHeartbeats 40000000 in
theorem own_rm_lastU1 (l : Launch) (Z : State) (a0 : Array Value) (hw : ∀ d ∈ tables_1, d.before a0 Z = true) (ws : List Jvm.Cond) (u : Addr) (q : Addr) (r : Addr) (arr : Addr) (kk : ClassId) (v0 : Addr) (h0 : Heap) (n0 : Nat) (Z0 : n0 ≤ h0.size) (F0 : Fld Z h0 q "com/example/rationed_session/rationedsession/model/Partition" "inputs" "Ljava/util/List;" (.ref u)) (E2 : Exa Z h0 u "java/util/Collections$UnmodifiableRandomAccessList") (F4 : Fld Z h0 u "java/util/Collections$UnmodifiableCollection" "c" "Ljava/util/Collection;" (.ref r)) (F5 : Fld Z h0 u "java/util/Collections$UnmodifiableList" "list" "Ljava/util/List;" (.ref r)) (E1 : Exa Z h0 r "java/util/ArrayList") (F2 : Fld Z h0 r "java/util/ArrayList" "elementData" "[Ljava/lang/Object;" (.ref arr)) (F3 : Fld Z h0 r "java/util/ArrayList" "size" "I" (.int (1 : Int32))) (V1 : Arv Z h0 arr kk (.object "java/lang/Object") (10 : Int32) [(.ref v0), .null, .null, .null, .null, .null, .null, .null, .null, .null] .null) :
    MetFree l (⟨"com/example/rationed_session/rationedsession/model/Partition", "last", "()Ljava/lang/Object;"⟩ : MethodName) (head1 (Jvm.Cond.code (⟨"com/example/rationed_session/rationedsession/model/Partition", "last", "()Ljava/lang/Object;"⟩ : MethodName) prog_6_method_7_code 1 (some (.object "java/lang/Object")) :: ws) ({ frames := 4, cells := 0, slots := 0, locals := 53 } : Room)) (fun aQ UQ => aQ = #[(.ref q)] ∧ Z.Warmed39 UQ.vm ∧ UQ.heap = h0) (fun _ _ _ _ _ => True) (fun _ UQ oQ U2 => ∃ vQ LQ, oQ = .returned vQ ∧ own_rm_lastU1_Q Z u q r arr kk v0 h0 n0 vQ U2.heap LQ ∧ FrameEnd UQ oQ U2 LQ ({ frames := 4, cells := 0, slots := 0, locals := 53 } : Room).cells ({ frames := 4, cells := 0, slots := 0, locals := 53 } : Room).slots) := by
  refine MetFree.of_bodySF own_pn24 hisR ?_
  intro p e s m args below meth c s₁ Bd hml0 hP hK
  obtain ⟨rfl, hZ, hh⟩ := hP
  have hx := Bd.exec
  have hby := Bd.bytes
  have hml : c.maxLocals = 1 := hml0
  have hlk := BodyLoose.notSynchronized Bd
  have hown : s.vm.findClass "com/example/rationed_session/rationedsession/model/Partition" = some m.cls := findClass_of_methodNamed Bd.named
  have hnm := (name_of_methodNamed Bd.named Bd.method).1
  have X0 : Stand p l e ({ frames := 4, cells := 0, slots := 0, locals := 53 } : Room) s m #[(.ref q)] below meth c s₁ [] 0 0 := Stand.of_body Bd
  have e0 : s₁.heap = h0 := by rw [← hh, Bd.state]; rfl
  have N0 := Fr.nil n0
  show own_Go p e below s (own_rm_lastU1_Q Z u q r arr kk v0 h0 n0) ({ frames := 4, cells := 0, slots := 0, locals := 53 } : Room).cells ({ frames := 4, cells := 0, slots := 0, locals := 53 } : Room).slots (s₁.setTop (entryFrame m #[(.ref q)] 1))
  rw [own_rm_lastU1_ef]
  show own_Go p e below s _ _ _ (s₁.setTop (mkF m 0 #[.val (.ref q)] []))
  refine own_st (fun _ kQ => XS.aloadN X0.here hx rfl (hb hby own_d_prog_6_method_7_code_0) rfl rfl kQ) ?_
  show own_Go p e below s _ _ _ (s₁.setTop (mkF m 1 #[.val (.ref q)] [(.ref q)]))
  obtain ⟨T514, X514, e514, st514⟩ := getF X0 hx hZ hown (host := "") (Or.inl (hw _ (List.mem_of_getElem? (i := 118) rfl))) Via.refl e0 F0 (g := (mkF m 1 #[.val (.ref q)] [(.ref q)])) rfl rfl (hb hby own_d_prog_6_method_7_code_1)
  refine own_st st514 ?_
  show own_Go p e below s _ _ _ (T514.setTop (mkF m 4 #[.val (.ref q)] [(.ref u)]))
  refine own_st (fun _ kQ => XS.aloadN X514.here hx rfl (hb hby own_d_prog_6_method_7_code_4) rfl rfl kQ) ?_
  show own_Go p e below s _ _ _ (T514.setTop (mkF m 5 #[.val (.ref q)] [(.ref q), (.ref u)]))
  obtain ⟨T515, X515, e515, st515⟩ := getF X514 hx hZ hown (host := "") (Or.inl (hw _ (List.mem_of_getElem? (i := 118) rfl))) Via.refl e514 F0 (g := (mkF m 5 #[.val (.ref q)] [(.ref q), (.ref u)])) rfl rfl (hb hby own_d_prog_6_method_7_code_5)
  refine own_st st515 ?_
  show own_Go p e below s _ _ _ (T515.setTop (mkF m 8 #[.val (.ref q)] [(.ref u), (.ref u)]))
  obtain ⟨cq516, kq516, q516a, q516b, q516c⟩ := isOf hZ e515 E2
  obtain ⟨_, _, ⟨T516, L516, k516, n516⟩, -, X516, ⟨Lc516, hQ516, l516, y516, z516⟩, st516⟩ := X515.interfaceBack hx (xi := (⟨"java/util/List", "size", "()I"⟩ : MethodName)) (y := (⟨"java/util/Collections$UnmodifiableCollection", "size", "()I"⟩ : MethodName)) hown (mvT hZ (hw _ (List.mem_of_getElem? (i := 125) rfl))) (mvT hZ (hw _ (List.mem_of_getElem? (i := 126) rfl))) (mvT hZ (hw _ (List.mem_of_getElem? (i := 127) rfl))) (mvT hZ (hw _ (List.mem_of_getElem? (i := 128) rfl))) (mvT hZ (hw _ (List.mem_of_getElem? (i := 129) rfl))) (mvT hZ (hw _ (List.mem_of_getElem? (i := 130) rfl))) (mvT hZ (hw _ (List.mem_of_getElem? (i := 131) rfl))) (mvT hZ (hw _ (List.mem_of_getElem? (i := 132) rfl))) (by decide) (backOf (W := 1) (own_rm_ucsize l Z a0 hw [] u r (1 : Int32) h0 n0 Z0 F4 E1 F3) hZ (hw _ (List.mem_of_getElem? (i := 133) rfl)) (hw _ (List.mem_of_getElem? (i := 111) rfl)) (by decide) (by decide)) q516a q516b q516c (g := (mkF m 8 #[.val (.ref q)] [(.ref u), (.ref u)])) rfl (by rw [hml]; rfl) (Steps.refl _) (argsL := []) (rest := [(.ref u)]) (lenOf own_pd6 rfl) rfl (by show 2 * 0 + _ ≤ _; exact Nat.le_of_eq rfl) (hb hby own_d_prog_6_method_7_code_8) (fun _ _ => ⟨rfl, e515, (by decide : 0 + 0 ≤ _), (by decide : 0 + 0 ≤ _)⟩)
  dsimp only [Pt.U, Pt.locs, Pt.cells, Pt.slots] at X516 l516 y516 z516 st516 hQ516
  subst l516 y516 z516
  obtain ⟨N516q, rfl, eh516⟩ := hQ516
  have N517 := Fr.app N0 N516q
  refine own_tr st516 ?_
  show own_Go p e below s _ _ _ (T516.setTop (mkF m 13 #[.val (.ref q)] [(.int (1 : Int32)), (.ref u)]))
  refine own_st (fun _ kQ => XT.iconstV X516.here hx rfl (1 : Int32) (hb hby own_d_prog_6_method_7_code_13) (by decide) kQ) ?_
  show own_Go p e below s _ _ _ (T516.setTop (mkF m 14 #[.val (.ref q)] [(.int (1 : Int32)), (.int (1 : Int32)), (.ref u)]))
  refine own_st (fun _ kQ => XS.isub X516.here hx rfl (hb hby own_d_prog_6_method_7_code_14) rfl kQ) ?_
  show own_Go p e below s _ _ _ (T516.setTop (mkF m 15 #[.val (.ref q)] [(.int (0 : Int32)), (.ref u)]))
  obtain ⟨cq518, kq518, q518a, q518b, q518c⟩ := isOf hZ eh516 E2
  obtain ⟨_, _, ⟨T518, L518, k518, n518⟩, -, X518, ⟨Lc518, hQ518, l518, y518, z518⟩, st518⟩ := X516.interfaceBack hx (xi := (⟨"java/util/List", "get", "(I)Ljava/lang/Object;"⟩ : MethodName)) (y := (⟨"java/util/Collections$UnmodifiableList", "get", "(I)Ljava/lang/Object;"⟩ : MethodName)) hown (mvT hZ (hw _ (List.mem_of_getElem? (i := 143) rfl))) (mvT hZ (hw _ (List.mem_of_getElem? (i := 144) rfl))) (mvT hZ (hw _ (List.mem_of_getElem? (i := 145) rfl))) (mvT hZ (hw _ (List.mem_of_getElem? (i := 146) rfl))) (mvT hZ (hw _ (List.mem_of_getElem? (i := 147) rfl))) (mvT hZ (hw _ (List.mem_of_getElem? (i := 148) rfl))) (mvT hZ (hw _ (List.mem_of_getElem? (i := 149) rfl))) (mvT hZ (hw _ (List.mem_of_getElem? (i := 132) rfl))) (by decide) (backOf (W := 0) (own_rm_uget_1_0 l Z a0 hw [] u r arr kk v0 h0 n0 Z0 F5 F2 V1 F3 E1) hZ (hw _ (List.mem_of_getElem? (i := 150) rfl)) (hw _ (List.mem_of_getElem? (i := 105) rfl)) (by decide) (by decide)) q518a q518b q518c (g := (mkF m 15 #[.val (.ref q)] [(.int (0 : Int32)), (.ref u)])) rfl (by rw [hml]; rfl) (Steps.refl _) (argsL := [(.int (0 : Int32))]) (rest := []) (lenOf own_pd11 rfl) rfl (by show 2 * 0 + _ ≤ _; exact Nat.le_of_eq rfl) (hb hby own_d_prog_6_method_7_code_15) (fun _ _ => ⟨rfl, eh516, (by decide : 0 + 0 ≤ _), (by decide : 0 + 0 ≤ _)⟩)
  dsimp only [Pt.U, Pt.locs, Pt.cells, Pt.slots] at X518 l518 y518 z518 st518 hQ518
  subst l518 y518 z518
  obtain ⟨N518q, rfl, eh518⟩ := hQ518
  have N519 := Fr.app N517 N518q
  refine own_tr st518 ?_
  show own_Go p e below s _ _ _ (T518.setTop (mkF m 20 #[.val (.ref q)] [(.ref v0)]))
  refine own_retA X518 hx hlk Bd.returns rfl (hb hby own_d_prog_6_method_7_code_20) (by decide) (by decide) ?_
  rw [eh518]
  exact ⟨N519, rfl, rfl⟩
def own_rm_lastU2_Q (Z : State) (u : Addr) (q : Addr) (r : Addr) (arr : Addr) (kk : ClassId) (v0 : Addr) (v1 : Addr) (h0 : Heap) (n0 : Nat) (v : Option Value) (h : Heap) (L : List Loc) : Prop := Fr n0 L ∧ v = some (.ref v1) ∧ h = h0
theorem own_rm_lastU2_ef (m : MethodId) (q : Addr)  : entryFrame m #[(.ref q)] 1 = mkF m 0 #[.val (.ref q)] [] := by first | (simp [entryFrame, mkF, argsToLocals, Value.category]; done) | rfl
set_option maxRecDepth 65536 in
set_option maxHeartbeats 40000000 in
theorem own_rm_lastU2 (l : Launch) (Z : State) (a0 : Array Value) (hw : ∀ d ∈ tables_1, d.before a0 Z = true) (ws : List Jvm.Cond) (u : Addr) (q : Addr) (r : Addr) (arr : Addr) (kk : ClassId) (v0 : Addr) (v1 : Addr) (h0 : Heap) (n0 : Nat) (Z0 : n0 ≤ h0.size) (F0 : Fld Z h0 q "com/example/rationed_session/rationedsession/model/Partition" "inputs" "Ljava/util/List;" (.ref u)) (E2 : Exa Z h0 u "java/util/Collections$UnmodifiableRandomAccessList") (F4 : Fld Z h0 u "java/util/Collections$UnmodifiableCollection" "c" "Ljava/util/Collection;" (.ref r)) (F5 : Fld Z h0 u "java/util/Collections$UnmodifiableList" "list" "Ljava/util/List;" (.ref r)) (E1 : Exa Z h0 r "java/util/ArrayList") (F2 : Fld Z h0 r "java/util/ArrayList" "elementData" "[Ljava/lang/Object;" (.ref arr)) (F3 : Fld Z h0 r "java/util/ArrayList" "size" "I" (.int (2 : Int32))) (V1 : Arv Z h0 arr kk (.object "java/lang/Object") (10 : Int32) [(.ref v0), (.ref v1), .null, .null, .null, .null, .null, .null, .null, .null] .null) :
    MetFree l (⟨"com/example/rationed_session/rationedsession/model/Partition", "last", "()Ljava/lang/Object;"⟩ : MethodName) (head1 (Jvm.Cond.code (⟨"com/example/rationed_session/rationedsession/model/Partition", "last", "()Ljava/lang/Object;"⟩ : MethodName) prog_6_method_7_code 1 (some (.object "java/lang/Object")) :: ws) ({ frames := 4, cells := 0, slots := 0, locals := 53 } : Room)) (fun aQ UQ => aQ = #[(.ref q)] ∧ Z.Warmed39 UQ.vm ∧ UQ.heap = h0) (fun _ _ _ _ _ => True) (fun _ UQ oQ U2 => ∃ vQ LQ, oQ = .returned vQ ∧ own_rm_lastU2_Q Z u q r arr kk v0 v1 h0 n0 vQ U2.heap LQ ∧ FrameEnd UQ oQ U2 LQ ({ frames := 4, cells := 0, slots := 0, locals := 53 } : Room).cells ({ frames := 4, cells := 0, slots := 0, locals := 53 } : Room).slots) := by
  refine MetFree.of_bodySF own_pn24 hisR ?_
  intro p e s m args below meth c s₁ Bd hml0 hP hK
  obtain ⟨rfl, hZ, hh⟩ := hP
  have hx := Bd.exec
  have hby := Bd.bytes
  have hml : c.maxLocals = 1 := hml0
  have hlk := BodyLoose.notSynchronized Bd
  have hown : s.vm.findClass "com/example/rationed_session/rationedsession/model/Partition" = some m.cls := findClass_of_methodNamed Bd.named
  have hnm := (name_of_methodNamed Bd.named Bd.method).1
  have X0 : Stand p l e ({ frames := 4, cells := 0, slots := 0, locals := 53 } : Room) s m #[(.ref q)] below meth c s₁ [] 0 0 := Stand.of_body Bd
  have e0 : s₁.heap = h0 := by rw [← hh, Bd.state]; rfl
  have N0 := Fr.nil n0
  show own_Go p e below s (own_rm_lastU2_Q Z u q r arr kk v0 v1 h0 n0) ({ frames := 4, cells := 0, slots := 0, locals := 53 } : Room).cells ({ frames := 4, cells := 0, slots := 0, locals := 53 } : Room).slots (s₁.setTop (entryFrame m #[(.ref q)] 1))
  rw [own_rm_lastU2_ef]
  show own_Go p e below s _ _ _ (s₁.setTop (mkF m 0 #[.val (.ref q)] []))
  refine own_st (fun _ kQ => XS.aloadN X0.here hx rfl (hb hby own_d_prog_6_method_7_code_0) rfl rfl kQ) ?_
  show own_Go p e below s _ _ _ (s₁.setTop (mkF m 1 #[.val (.ref q)] [(.ref q)]))
  obtain ⟨T520, X520, e520, st520⟩ := getF X0 hx hZ hown (host := "") (Or.inl (hw _ (List.mem_of_getElem? (i := 118) rfl))) Via.refl e0 F0 (g := (mkF m 1 #[.val (.ref q)] [(.ref q)])) rfl rfl (hb hby own_d_prog_6_method_7_code_1)
  refine own_st st520 ?_
  show own_Go p e below s _ _ _ (T520.setTop (mkF m 4 #[.val (.ref q)] [(.ref u)]))
  refine own_st (fun _ kQ => XS.aloadN X520.here hx rfl (hb hby own_d_prog_6_method_7_code_4) rfl rfl kQ) ?_
  show own_Go p e below s _ _ _ (T520.setTop (mkF m 5 #[.val (.ref q)] [(.ref q), (.ref u)]))
  obtain ⟨T521, X521, e521, st521⟩ := getF X520 hx hZ hown (host := "") (Or.inl (hw _ (List.mem_of_getElem? (i := 118) rfl))) Via.refl e520 F0 (g := (mkF m 5 #[.val (.ref q)] [(.ref q), (.ref u)])) rfl rfl (hb hby own_d_prog_6_method_7_code_5)
  refine own_st st521 ?_
  show own_Go p e below s _ _ _ (T521.setTop (mkF m 8 #[.val (.ref q)] [(.ref u), (.ref u)]))
  obtain ⟨cq522, kq522, q522a, q522b, q522c⟩ := isOf hZ e521 E2
  obtain ⟨_, _, ⟨T522, L522, k522, n522⟩, -, X522, ⟨Lc522, hQ522, l522, y522, z522⟩, st522⟩ := X521.interfaceBack hx (xi := (⟨"java/util/List", "size", "()I"⟩ : MethodName)) (y := (⟨"java/util/Collections$UnmodifiableCollection", "size", "()I"⟩ : MethodName)) hown (mvT hZ (hw _ (List.mem_of_getElem? (i := 125) rfl))) (mvT hZ (hw _ (List.mem_of_getElem? (i := 126) rfl))) (mvT hZ (hw _ (List.mem_of_getElem? (i := 127) rfl))) (mvT hZ (hw _ (List.mem_of_getElem? (i := 128) rfl))) (mvT hZ (hw _ (List.mem_of_getElem? (i := 129) rfl))) (mvT hZ (hw _ (List.mem_of_getElem? (i := 130) rfl))) (mvT hZ (hw _ (List.mem_of_getElem? (i := 131) rfl))) (mvT hZ (hw _ (List.mem_of_getElem? (i := 132) rfl))) (by decide) (backOf (W := 1) (own_rm_ucsize l Z a0 hw [] u r (2 : Int32) h0 n0 Z0 F4 E1 F3) hZ (hw _ (List.mem_of_getElem? (i := 133) rfl)) (hw _ (List.mem_of_getElem? (i := 111) rfl)) (by decide) (by decide)) q522a q522b q522c (g := (mkF m 8 #[.val (.ref q)] [(.ref u), (.ref u)])) rfl (by rw [hml]; rfl) (Steps.refl _) (argsL := []) (rest := [(.ref u)]) (lenOf own_pd6 rfl) rfl (by show 2 * 0 + _ ≤ _; exact Nat.le_of_eq rfl) (hb hby own_d_prog_6_method_7_code_8) (fun _ _ => ⟨rfl, e521, (by decide : 0 + 0 ≤ _), (by decide : 0 + 0 ≤ _)⟩)
  dsimp only [Pt.U, Pt.locs, Pt.cells, Pt.slots] at X522 l522 y522 z522 st522 hQ522
  subst l522 y522 z522
  obtain ⟨N522q, rfl, eh522⟩ := hQ522
  have N523 := Fr.app N0 N522q
  refine own_tr st522 ?_
  show own_Go p e below s _ _ _ (T522.setTop (mkF m 13 #[.val (.ref q)] [(.int (2 : Int32)), (.ref u)]))
  refine own_st (fun _ kQ => XT.iconstV X522.here hx rfl (1 : Int32) (hb hby own_d_prog_6_method_7_code_13) (by decide) kQ) ?_
  show own_Go p e below s _ _ _ (T522.setTop (mkF m 14 #[.val (.ref q)] [(.int (1 : Int32)), (.int (2 : Int32)), (.ref u)]))
  refine own_st (fun _ kQ => XS.isub X522.here hx rfl (hb hby own_d_prog_6_method_7_code_14) rfl kQ) ?_
  show own_Go p e below s _ _ _ (T522.setTop (mkF m 15 #[.val (.ref q)] [(.int (1 : Int32)), (.ref u)]))
  obtain ⟨cq524, kq524, q524a, q524b, q524c⟩ := isOf hZ eh522 E2
  obtain ⟨_, _, ⟨T524, L524, k524, n524⟩, -, X524, ⟨Lc524, hQ524, l524, y524, z524⟩, st524⟩ := X522.interfaceBack hx (xi := (⟨"java/util/List", "get", "(I)Ljava/lang/Object;"⟩ : MethodName)) (y := (⟨"java/util/Collections$UnmodifiableList", "get", "(I)Ljava/lang/Object;"⟩ : MethodName)) hown (mvT hZ (hw _ (List.mem_of_getElem? (i := 143) rfl))) (mvT hZ (hw _ (List.mem_of_getElem? (i := 144) rfl))) (mvT hZ (hw _ (List.mem_of_getElem? (i := 145) rfl))) (mvT hZ (hw _ (List.mem_of_getElem? (i := 146) rfl))) (mvT hZ (hw _ (List.mem_of_getElem? (i := 147) rfl))) (mvT hZ (hw _ (List.mem_of_getElem? (i := 148) rfl))) (mvT hZ (hw _ (List.mem_of_getElem? (i := 149) rfl))) (mvT hZ (hw _ (List.mem_of_getElem? (i := 132) rfl))) (by decide) (backOf (W := 0) (own_rm_uget_2_1 l Z a0 hw [] u r arr kk v0 v1 h0 n0 Z0 F5 F2 V1 F3 E1) hZ (hw _ (List.mem_of_getElem? (i := 150) rfl)) (hw _ (List.mem_of_getElem? (i := 105) rfl)) (by decide) (by decide)) q524a q524b q524c (g := (mkF m 15 #[.val (.ref q)] [(.int (1 : Int32)), (.ref u)])) rfl (by rw [hml]; rfl) (Steps.refl _) (argsL := [(.int (1 : Int32))]) (rest := []) (lenOf own_pd11 rfl) rfl (by show 2 * 0 + _ ≤ _; exact Nat.le_of_eq rfl) (hb hby own_d_prog_6_method_7_code_15) (fun _ _ => ⟨rfl, eh522, (by decide : 0 + 0 ≤ _), (by decide : 0 + 0 ≤ _)⟩)
  dsimp only [Pt.U, Pt.locs, Pt.cells, Pt.slots] at X524 l524 y524 z524 st524 hQ524
  subst l524 y524 z524
  obtain ⟨N524q, rfl, eh524⟩ := hQ524
  have N525 := Fr.app N523 N524q
  refine own_tr st524 ?_
  show own_Go p e below s _ _ _ (T524.setTop (mkF m 20 #[.val (.ref q)] [(.ref v1)]))
  refine own_retA X524 hx hlk Bd.returns rfl (hb hby own_d_prog_6_method_7_code_20) (by decide) (by decide) ?_
  rw [eh524]
  exact ⟨N525, rfl, rfl⟩
def own_rm_lastU3_Q (Z : State) (u : Addr) (q : Addr) (r : Addr) (arr : Addr) (kk : ClassId) (v0 : Addr) (v1 : Addr) (v2 : Addr) (h0 : Heap) (n0 : Nat) (v : Option Value) (h : Heap) (L : List Loc) : Prop := Fr n0 L ∧ v = some (.ref v2) ∧ h = h0
theorem own_rm_lastU3_ef (m : MethodId) (q : Addr)  : entryFrame m #[(.ref q)] 1 = mkF m 0 #[.val (.ref q)] [] := by first | (simp [entryFrame, mkF, argsToLocals, Value.category]; done) | rfl
set_option maxRecDepth 65536 in
set_option maxHeartbeats 40000000 in
theorem own_rm_lastU3 (l : Launch) (Z : State) (a0 : Array Value) (hw : ∀ d ∈ tables_1, d.before a0 Z = true) (ws : List Jvm.Cond) (u : Addr) (q : Addr) (r : Addr) (arr : Addr) (kk : ClassId) (v0 : Addr) (v1 : Addr) (v2 : Addr) (h0 : Heap) (n0 : Nat) (Z0 : n0 ≤ h0.size) (F0 : Fld Z h0 q "com/example/rationed_session/rationedsession/model/Partition" "inputs" "Ljava/util/List;" (.ref u)) (E2 : Exa Z h0 u "java/util/Collections$UnmodifiableRandomAccessList") (F4 : Fld Z h0 u "java/util/Collections$UnmodifiableCollection" "c" "Ljava/util/Collection;" (.ref r)) (F5 : Fld Z h0 u "java/util/Collections$UnmodifiableList" "list" "Ljava/util/List;" (.ref r)) (E1 : Exa Z h0 r "java/util/ArrayList") (F2 : Fld Z h0 r "java/util/ArrayList" "elementData" "[Ljava/lang/Object;" (.ref arr)) (F3 : Fld Z h0 r "java/util/ArrayList" "size" "I" (.int (3 : Int32))) (V1 : Arv Z h0 arr kk (.object "java/lang/Object") (10 : Int32) [(.ref v0), (.ref v1), (.ref v2), .null, .null, .null, .null, .null, .null, .null] .null) :
    MetFree l (⟨"com/example/rationed_session/rationedsession/model/Partition", "last", "()Ljava/lang/Object;"⟩ : MethodName) (head1 (Jvm.Cond.code (⟨"com/example/rationed_session/rationedsession/model/Partition", "last", "()Ljava/lang/Object;"⟩ : MethodName) prog_6_method_7_code 1 (some (.object "java/lang/Object")) :: ws) ({ frames := 4, cells := 0, slots := 0, locals := 53 } : Room)) (fun aQ UQ => aQ = #[(.ref q)] ∧ Z.Warmed39 UQ.vm ∧ UQ.heap = h0) (fun _ _ _ _ _ => True) (fun _ UQ oQ U2 => ∃ vQ LQ, oQ = .returned vQ ∧ own_rm_lastU3_Q Z u q r arr kk v0 v1 v2 h0 n0 vQ U2.heap LQ ∧ FrameEnd UQ oQ U2 LQ ({ frames := 4, cells := 0, slots := 0, locals := 53 } : Room).cells ({ frames := 4, cells := 0, slots := 0, locals := 53 } : Room).slots) := by
  refine MetFree.of_bodySF own_pn24 hisR ?_
  intro p e s m args below meth c s₁ Bd hml0 hP hK
  obtain ⟨rfl, hZ, hh⟩ := hP
  have hx := Bd.exec
  have hby := Bd.bytes
  have hml : c.maxLocals = 1 := hml0
  have hlk := BodyLoose.notSynchronized Bd
  have hown : s.vm.findClass "com/example/rationed_session/rationedsession/model/Partition" = some m.cls := findClass_of_methodNamed Bd.named
  have hnm := (name_of_methodNamed Bd.named Bd.method).1
  have X0 : Stand p l e ({ frames := 4, cells := 0, slots := 0, locals := 53 } : Room) s m #[(.ref q)] below meth c s₁ [] 0 0 := Stand.of_body Bd
  have e0 : s₁.heap = h0 := by rw [← hh, Bd.state]; rfl
  have N0 := Fr.nil n0
  show own_Go p e below s (own_rm_lastU3_Q Z u q r arr kk v0 v1 v2 h0 n0) ({ frames := 4, cells := 0, slots := 0, locals := 53 } : Room).cells ({ frames := 4, cells := 0, slots := 0, locals := 53 } : Room).slots (s₁.setTop (entryFrame m #[(.ref q)] 1))
  rw [own_rm_lastU3_ef]
  show own_Go p e below s _ _ _ (s₁.setTop (mkF m 0 #[.val (.ref q)] []))
  refine own_st (fun _ kQ => XS.aloadN X0.here hx rfl (hb hby own_d_prog_6_method_7_code_0) rfl rfl kQ) ?_
  show own_Go p e below s _ _ _ (s₁.setTop (mkF m 1 #[.val (.ref q)] [(.ref q)]))
  obtain ⟨T526, X526, e526, st526⟩ := getF X0 hx hZ hown (host := "") (Or.inl (hw _ (List.mem_of_getElem? (i := 118) rfl))) Via.refl e0 F0 (g := (mkF m 1 #[.val (.ref q)] [(.ref q)])) rfl rfl (hb hby own_d_prog_6_method_7_code_1)
  refine own_st st526 ?_
  show own_Go p e below s _ _ _ (T526.setTop (mkF m 4 #[.val (.ref q)] [(.ref u)]))
  refine own_st (fun _ kQ => XS.aloadN X526.here hx rfl (hb hby own_d_prog_6_method_7_code_4) rfl rfl kQ) ?_
  show own_Go p e below s _ _ _ (T526.setTop (mkF m 5 #[.val (.ref q)] [(.ref q), (.ref u)]))
  obtain ⟨T527, X527, e527, st527⟩ := getF X526 hx hZ hown (host := "") (Or.inl (hw _ (List.mem_of_getElem? (i := 118) rfl))) Via.refl e526 F0 (g := (mkF m 5 #[.val (.ref q)] [(.ref q), (.ref u)])) rfl rfl (hb hby own_d_prog_6_method_7_code_5)
  refine own_st st527 ?_
  show own_Go p e below s _ _ _ (T527.setTop (mkF m 8 #[.val (.ref q)] [(.ref u), (.ref u)]))
  obtain ⟨cq528, kq528, q528a, q528b, q528c⟩ := isOf hZ e527 E2
  obtain ⟨_, _, ⟨T528, L528, k528, n528⟩, -, X528, ⟨Lc528, hQ528, l528, y528, z528⟩, st528⟩ := X527.interfaceBack hx (xi := (⟨"java/util/List", "size", "()I"⟩ : MethodName)) (y := (⟨"java/util/Collections$UnmodifiableCollection", "size", "()I"⟩ : MethodName)) hown (mvT hZ (hw _ (List.mem_of_getElem? (i := 125) rfl))) (mvT hZ (hw _ (List.mem_of_getElem? (i := 126) rfl))) (mvT hZ (hw _ (List.mem_of_getElem? (i := 127) rfl))) (mvT hZ (hw _ (List.mem_of_getElem? (i := 128) rfl))) (mvT hZ (hw _ (List.mem_of_getElem? (i := 129) rfl))) (mvT hZ (hw _ (List.mem_of_getElem? (i := 130) rfl))) (mvT hZ (hw _ (List.mem_of_getElem? (i := 131) rfl))) (mvT hZ (hw _ (List.mem_of_getElem? (i := 132) rfl))) (by decide) (backOf (W := 1) (own_rm_ucsize l Z a0 hw [] u r (3 : Int32) h0 n0 Z0 F4 E1 F3) hZ (hw _ (List.mem_of_getElem? (i := 133) rfl)) (hw _ (List.mem_of_getElem? (i := 111) rfl)) (by decide) (by decide)) q528a q528b q528c (g := (mkF m 8 #[.val (.ref q)] [(.ref u), (.ref u)])) rfl (by rw [hml]; rfl) (Steps.refl _) (argsL := []) (rest := [(.ref u)]) (lenOf own_pd6 rfl) rfl (by show 2 * 0 + _ ≤ _; exact Nat.le_of_eq rfl) (hb hby own_d_prog_6_method_7_code_8) (fun _ _ => ⟨rfl, e527, (by decide : 0 + 0 ≤ _), (by decide : 0 + 0 ≤ _)⟩)
  dsimp only [Pt.U, Pt.locs, Pt.cells, Pt.slots] at X528 l528 y528 z528 st528 hQ528
  subst l528 y528 z528
  obtain ⟨N528q, rfl, eh528⟩ := hQ528
  have N529 := Fr.app N0 N528q
  refine own_tr st528 ?_
  show own_Go p e below s _ _ _ (T528.setTop (mkF m 13 #[.val (.ref q)] [(.int (3 : Int32)), (.ref u)]))
  refine own_st (fun _ kQ => XT.iconstV X528.here hx rfl (1 : Int32) (hb hby own_d_prog_6_method_7_code_13) (by decide) kQ) ?_
  show own_Go p e below s _ _ _ (T528.setTop (mkF m 14 #[.val (.ref q)] [(.int (1 : Int32)), (.int (3 : Int32)), (.ref u)]))
  refine own_st (fun _ kQ => XS.isub X528.here hx rfl (hb hby own_d_prog_6_method_7_code_14) rfl kQ) ?_
  show own_Go p e below s _ _ _ (T528.setTop (mkF m 15 #[.val (.ref q)] [(.int (2 : Int32)), (.ref u)]))
  obtain ⟨cq530, kq530, q530a, q530b, q530c⟩ := isOf hZ eh528 E2
  obtain ⟨_, _, ⟨T530, L530, k530, n530⟩, -, X530, ⟨Lc530, hQ530, l530, y530, z530⟩, st530⟩ := X528.interfaceBack hx (xi := (⟨"java/util/List", "get", "(I)Ljava/lang/Object;"⟩ : MethodName)) (y := (⟨"java/util/Collections$UnmodifiableList", "get", "(I)Ljava/lang/Object;"⟩ : MethodName)) hown (mvT hZ (hw _ (List.mem_of_getElem? (i := 143) rfl))) (mvT hZ (hw _ (List.mem_of_getElem? (i := 144) rfl))) (mvT hZ (hw _ (List.mem_of_getElem? (i := 145) rfl))) (mvT hZ (hw _ (List.mem_of_getElem? (i := 146) rfl))) (mvT hZ (hw _ (List.mem_of_getElem? (i := 147) rfl))) (mvT hZ (hw _ (List.mem_of_getElem? (i := 148) rfl))) (mvT hZ (hw _ (List.mem_of_getElem? (i := 149) rfl))) (mvT hZ (hw _ (List.mem_of_getElem? (i := 132) rfl))) (by decide) (backOf (W := 0) (own_rm_uget_3_2 l Z a0 hw [] u r arr kk v0 v1 v2 h0 n0 Z0 F5 F2 V1 F3 E1) hZ (hw _ (List.mem_of_getElem? (i := 150) rfl)) (hw _ (List.mem_of_getElem? (i := 105) rfl)) (by decide) (by decide)) q530a q530b q530c (g := (mkF m 15 #[.val (.ref q)] [(.int (2 : Int32)), (.ref u)])) rfl (by rw [hml]; rfl) (Steps.refl _) (argsL := [(.int (2 : Int32))]) (rest := []) (lenOf own_pd11 rfl) rfl (by show 2 * 0 + _ ≤ _; exact Nat.le_of_eq rfl) (hb hby own_d_prog_6_method_7_code_15) (fun _ _ => ⟨rfl, eh528, (by decide : 0 + 0 ≤ _), (by decide : 0 + 0 ≤ _)⟩)
  dsimp only [Pt.U, Pt.locs, Pt.cells, Pt.slots] at X530 l530 y530 z530 st530 hQ530
  subst l530 y530 z530
  obtain ⟨N530q, rfl, eh530⟩ := hQ530
  have N531 := Fr.app N529 N530q
  refine own_tr st530 ?_
  show own_Go p e below s _ _ _ (T530.setTop (mkF m 20 #[.val (.ref q)] [(.ref v2)]))
  refine own_retA X530 hx hlk Bd.returns rfl (hb hby own_d_prog_6_method_7_code_20) (by decide) (by decide) ?_
  rw [eh530]
  exact ⟨N531, rfl, rfl⟩
def own_rm_lastU4_Q (Z : State) (u : Addr) (q : Addr) (r : Addr) (arr : Addr) (kk : ClassId) (v0 : Addr) (v1 : Addr) (v2 : Addr) (v3 : Addr) (h0 : Heap) (n0 : Nat) (v : Option Value) (h : Heap) (L : List Loc) : Prop := Fr n0 L ∧ v = some (.ref v3) ∧ h = h0
theorem own_rm_lastU4_ef (m : MethodId) (q : Addr)  : entryFrame m #[(.ref q)] 1 = mkF m 0 #[.val (.ref q)] [] := by first | (simp [entryFrame, mkF, argsToLocals, Value.category]; done) | rfl
set_option maxRecDepth 65536 in
set_option maxHeartbeats 40000000 in
theorem own_rm_lastU4 (l : Launch) (Z : State) (a0 : Array Value) (hw : ∀ d ∈ tables_1, d.before a0 Z = true) (ws : List Jvm.Cond) (u : Addr) (q : Addr) (r : Addr) (arr : Addr) (kk : ClassId) (v0 : Addr) (v1 : Addr) (v2 : Addr) (v3 : Addr) (h0 : Heap) (n0 : Nat) (Z0 : n0 ≤ h0.size) (F0 : Fld Z h0 q "com/example/rationed_session/rationedsession/model/Partition" "inputs" "Ljava/util/List;" (.ref u)) (E2 : Exa Z h0 u "java/util/Collections$UnmodifiableRandomAccessList") (F4 : Fld Z h0 u "java/util/Collections$UnmodifiableCollection" "c" "Ljava/util/Collection;" (.ref r)) (F5 : Fld Z h0 u "java/util/Collections$UnmodifiableList" "list" "Ljava/util/List;" (.ref r)) (E1 : Exa Z h0 r "java/util/ArrayList") (F2 : Fld Z h0 r "java/util/ArrayList" "elementData" "[Ljava/lang/Object;" (.ref arr)) (F3 : Fld Z h0 r "java/util/ArrayList" "size" "I" (.int (4 : Int32))) (V1 : Arv Z h0 arr kk (.object "java/lang/Object") (10 : Int32) [(.ref v0), (.ref v1), (.ref v2), (.ref v3), .null, .null, .null, .null, .null, .null] .null) :
    MetFree l (⟨"com/example/rationed_session/rationedsession/model/Partition", "last", "()Ljava/lang/Object;"⟩ : MethodName) (head1 (Jvm.Cond.code (⟨"com/example/rationed_session/rationedsession/model/Partition", "last", "()Ljava/lang/Object;"⟩ : MethodName) prog_6_method_7_code 1 (some (.object "java/lang/Object")) :: ws) ({ frames := 4, cells := 0, slots := 0, locals := 53 } : Room)) (fun aQ UQ => aQ = #[(.ref q)] ∧ Z.Warmed39 UQ.vm ∧ UQ.heap = h0) (fun _ _ _ _ _ => True) (fun _ UQ oQ U2 => ∃ vQ LQ, oQ = .returned vQ ∧ own_rm_lastU4_Q Z u q r arr kk v0 v1 v2 v3 h0 n0 vQ U2.heap LQ ∧ FrameEnd UQ oQ U2 LQ ({ frames := 4, cells := 0, slots := 0, locals := 53 } : Room).cells ({ frames := 4, cells := 0, slots := 0, locals := 53 } : Room).slots) := by
  refine MetFree.of_bodySF own_pn24 hisR ?_
  intro p e s m args below meth c s₁ Bd hml0 hP hK
  obtain ⟨rfl, hZ, hh⟩ := hP
  have hx := Bd.exec
  have hby := Bd.bytes
  have hml : c.maxLocals = 1 := hml0
  have hlk := BodyLoose.notSynchronized Bd
  have hown : s.vm.findClass "com/example/rationed_session/rationedsession/model/Partition" = some m.cls := findClass_of_methodNamed Bd.named
  have hnm := (name_of_methodNamed Bd.named Bd.method).1
  have X0 : Stand p l e ({ frames := 4, cells := 0, slots := 0, locals := 53 } : Room) s m #[(.ref q)] below meth c s₁ [] 0 0 := Stand.of_body Bd
  have e0 : s₁.heap = h0 := by rw [← hh, Bd.state]; rfl
  have N0 := Fr.nil n0
  show own_Go p e below s (own_rm_lastU4_Q Z u q r arr kk v0 v1 v2 v3 h0 n0) ({ frames := 4, cells := 0, slots := 0, locals := 53 } : Room).cells ({ frames := 4, cells := 0, slots := 0, locals := 53 } : Room).slots (s₁.setTop (entryFrame m #[(.ref q)] 1))
  rw [own_rm_lastU4_ef]
  show own_Go p e below s _ _ _ (s₁.setTop (mkF m 0 #[.val (.ref q)] []))
  refine own_st (fun _ kQ => XS.aloadN X0.here hx rfl (hb hby own_d_prog_6_method_7_code_0) rfl rfl kQ) ?_
  show own_Go p e below s _ _ _ (s₁.setTop (mkF m 1 #[.val (.ref q)] [(.ref q)]))
  obtain ⟨T532, X532, e532, st532⟩ := getF X0 hx hZ hown (host := "") (Or.inl (hw _ (List.mem_of_getElem? (i := 118) rfl))) Via.refl e0 F0 (g := (mkF m 1 #[.val (.ref q)] [(.ref q)])) rfl rfl (hb hby own_d_prog_6_method_7_code_1)
  refine own_st st532 ?_
  show own_Go p e below s _ _ _ (T532.setTop (mkF m 4 #[.val (.ref q)] [(.ref u)]))
  refine own_st (fun _ kQ => XS.aloadN X532.here hx rfl (hb hby own_d_prog_6_method_7_code_4) rfl rfl kQ) ?_
  show own_Go p e below s _ _ _ (T532.setTop (mkF m 5 #[.val (.ref q)] [(.ref q), (.ref u)]))
  obtain ⟨T533, X533, e533, st533⟩ := getF X532 hx hZ hown (host := "") (Or.inl (hw _ (List.mem_of_getElem? (i := 118) rfl))) Via.refl e532 F0 (g := (mkF m 5 #[.val (.ref q)] [(.ref q), (.ref u)])) rfl rfl (hb hby own_d_prog_6_method_7_code_5)
  refine own_st st533 ?_
  show own_Go p e below s _ _ _ (T533.setTop (mkF m 8 #[.val (.ref q)] [(.ref u), (.ref u)]))
  obtain ⟨cq534, kq534, q534a, q534b, q534c⟩ := isOf hZ e533 E2
  obtain ⟨_, _, ⟨T534, L534, k534, n534⟩, -, X534, ⟨Lc534, hQ534, l534, y534, z534⟩, st534⟩ := X533.interfaceBack hx (xi := (⟨"java/util/List", "size", "()I"⟩ : MethodName)) (y := (⟨"java/util/Collections$UnmodifiableCollection", "size", "()I"⟩ : MethodName)) hown (mvT hZ (hw _ (List.mem_of_getElem? (i := 125) rfl))) (mvT hZ (hw _ (List.mem_of_getElem? (i := 126) rfl))) (mvT hZ (hw _ (List.mem_of_getElem? (i := 127) rfl))) (mvT hZ (hw _ (List.mem_of_getElem? (i := 128) rfl))) (mvT hZ (hw _ (List.mem_of_getElem? (i := 129) rfl))) (mvT hZ (hw _ (List.mem_of_getElem? (i := 130) rfl))) (mvT hZ (hw _ (List.mem_of_getElem? (i := 131) rfl))) (mvT hZ (hw _ (List.mem_of_getElem? (i := 132) rfl))) (by decide) (backOf (W := 1) (own_rm_ucsize l Z a0 hw [] u r (4 : Int32) h0 n0 Z0 F4 E1 F3) hZ (hw _ (List.mem_of_getElem? (i := 133) rfl)) (hw _ (List.mem_of_getElem? (i := 111) rfl)) (by decide) (by decide)) q534a q534b q534c (g := (mkF m 8 #[.val (.ref q)] [(.ref u), (.ref u)])) rfl (by rw [hml]; rfl) (Steps.refl _) (argsL := []) (rest := [(.ref u)]) (lenOf own_pd6 rfl) rfl (by show 2 * 0 + _ ≤ _; exact Nat.le_of_eq rfl) (hb hby own_d_prog_6_method_7_code_8) (fun _ _ => ⟨rfl, e533, (by decide : 0 + 0 ≤ _), (by decide : 0 + 0 ≤ _)⟩)
  dsimp only [Pt.U, Pt.locs, Pt.cells, Pt.slots] at X534 l534 y534 z534 st534 hQ534
  subst l534 y534 z534
  obtain ⟨N534q, rfl, eh534⟩ := hQ534
  have N535 := Fr.app N0 N534q
  refine own_tr st534 ?_
  show own_Go p e below s _ _ _ (T534.setTop (mkF m 13 #[.val (.ref q)] [(.int (4 : Int32)), (.ref u)]))
  refine own_st (fun _ kQ => XT.iconstV X534.here hx rfl (1 : Int32) (hb hby own_d_prog_6_method_7_code_13) (by decide) kQ) ?_
  show own_Go p e below s _ _ _ (T534.setTop (mkF m 14 #[.val (.ref q)] [(.int (1 : Int32)), (.int (4 : Int32)), (.ref u)]))
  refine own_st (fun _ kQ => XS.isub X534.here hx rfl (hb hby own_d_prog_6_method_7_code_14) rfl kQ) ?_
  show own_Go p e below s _ _ _ (T534.setTop (mkF m 15 #[.val (.ref q)] [(.int (3 : Int32)), (.ref u)]))
  obtain ⟨cq536, kq536, q536a, q536b, q536c⟩ := isOf hZ eh534 E2
  obtain ⟨_, _, ⟨T536, L536, k536, n536⟩, -, X536, ⟨Lc536, hQ536, l536, y536, z536⟩, st536⟩ := X534.interfaceBack hx (xi := (⟨"java/util/List", "get", "(I)Ljava/lang/Object;"⟩ : MethodName)) (y := (⟨"java/util/Collections$UnmodifiableList", "get", "(I)Ljava/lang/Object;"⟩ : MethodName)) hown (mvT hZ (hw _ (List.mem_of_getElem? (i := 143) rfl))) (mvT hZ (hw _ (List.mem_of_getElem? (i := 144) rfl))) (mvT hZ (hw _ (List.mem_of_getElem? (i := 145) rfl))) (mvT hZ (hw _ (List.mem_of_getElem? (i := 146) rfl))) (mvT hZ (hw _ (List.mem_of_getElem? (i := 147) rfl))) (mvT hZ (hw _ (List.mem_of_getElem? (i := 148) rfl))) (mvT hZ (hw _ (List.mem_of_getElem? (i := 149) rfl))) (mvT hZ (hw _ (List.mem_of_getElem? (i := 132) rfl))) (by decide) (backOf (W := 0) (own_rm_uget_4_3 l Z a0 hw [] u r arr kk v0 v1 v2 v3 h0 n0 Z0 F5 F2 V1 F3 E1) hZ (hw _ (List.mem_of_getElem? (i := 150) rfl)) (hw _ (List.mem_of_getElem? (i := 105) rfl)) (by decide) (by decide)) q536a q536b q536c (g := (mkF m 15 #[.val (.ref q)] [(.int (3 : Int32)), (.ref u)])) rfl (by rw [hml]; rfl) (Steps.refl _) (argsL := [(.int (3 : Int32))]) (rest := []) (lenOf own_pd11 rfl) rfl (by show 2 * 0 + _ ≤ _; exact Nat.le_of_eq rfl) (hb hby own_d_prog_6_method_7_code_15) (fun _ _ => ⟨rfl, eh534, (by decide : 0 + 0 ≤ _), (by decide : 0 + 0 ≤ _)⟩)
  dsimp only [Pt.U, Pt.locs, Pt.cells, Pt.slots] at X536 l536 y536 z536 st536 hQ536
  subst l536 y536 z536
  obtain ⟨N536q, rfl, eh536⟩ := hQ536
  have N537 := Fr.app N535 N536q
  refine own_tr st536 ?_
  show own_Go p e below s _ _ _ (T536.setTop (mkF m 20 #[.val (.ref q)] [(.ref v3)]))
  refine own_retA X536 hx hlk Bd.returns rfl (hb hby own_d_prog_6_method_7_code_20) (by decide) (by decide) ?_
  rw [eh536]
  exact ⟨N537, rfl, rfl⟩
theorem own_pn25 : plainFor (⟨"com/example/rationed_session/rationedsession/model/PartitionLastPinLaw", "law", "(IIIIII)Z"⟩ : MethodName) = true := by decide +kernel
theorem own_pd12 : parseMethodDescriptor "(I)Ljava/lang/Integer;" = some ⟨[.int], some (.object "java/lang/Integer")⟩ := by decide +kernel
theorem own_pd13 : parseMethodDescriptor "(Ljava/lang/Object;)Z" = some ⟨[(.object "java/lang/Object")], some .boolean⟩ := by decide +kernel
theorem own_pd14 : parseMethodDescriptor "(IILjava/util/List;)V" = some ⟨[.int, .int, (.object "java/util/List")], none⟩ := by decide +kernel
theorem own_pd15 : parseMethodDescriptor "()Ljava/lang/Object;" = some ⟨[], some (.object "java/lang/Object")⟩ := by decide +kernel
def own_law_Q (Z : State) (n0 : Nat) (v : Option Value) (h : Heap) (L : List Loc) : Prop := Fr n0 L ∧ v = some (.int 1)
theorem own_law_ef (m : MethodId) (p1 : Int32) (p2 : Int32) (p3 : Int32) (p4 : Int32) (p5 : Int32) (p6 : Int32) : entryFrame m #[(.int p1), (.int p2), (.int p3), (.int p4), (.int p5), (.int p6)] maxLocals = mkF m 0 #[.val (.int p1), .val (.int p2), .val (.int p3), .val (.int p4), .val (.int p5), .val (.int p6), .unset, .unset, .unset, .unset, .unset] [] := by first | (simp [entryFrame, mkF, argsToLocals, Value.category, maxLocals]; done) | rfl
set_option maxRecDepth 65536 in
set_option maxHeartbeats 40000000 in
theorem own_law (l : Launch) (Z : State) (a0 : Array Value) (hw : ∀ d ∈ tables_1, d.before a0 Z = true) (ws : List Jvm.Cond) (p1 : Int32) (p2 : Int32) (p3 : Int32) (p4 : Int32) (p5 : Int32) (p6 : Int32) (a_cacheI : Addr) (dflt : Addr) (kd : ClassId) (mA : Addr) (mL : Addr) (mR : Addr) (h0 : Heap) (n0 : Nat) (Z0 : n0 ≤ h0.size) (O0 : Old Z n0 h0) (S_cacheI : Sta Z Z.heap "java/lang/Integer$IntegerCache" "cache" "[Ljava/lang/Integer;" (.ref a_cacheI)) (BxI : own_BoxI Z a_cacheI) (S_high : Sta Z Z.heap "java/lang/Integer$IntegerCache" "high" "I" (.int (127 : Int32))) (S_es : Sta Z Z.heap "java/util/ArrayList" "DEFAULTCAPACITY_EMPTY_ELEMENTDATA" "[Ljava/lang/Object;" (.ref dflt)) (V_es : Arv Z Z.heap dflt kd (.object "java/lang/Object") (0 : Int32) [] .null) (M_AL : own_Mi Z "java/util/ArrayList" mA) (M_UL : own_Mi Z "java/util/Collections$UnmodifiableList" mL) (M_UR : own_Mi Z "java/util/Collections$UnmodifiableRandomAccessList" mR) (h1 : ¬ mA = mL) (h2 : ¬ mA = mR) :
    MetFree l x (head1 (Jvm.Cond.code x code maxLocals ret :: ws) room_1) (fun a U => a = #[(.int p1), (.int p2), (.int p3), (.int p4), (.int p5), (.int p6)] ∧ Z.Warmed39 U.vm ∧ U.heap = h0) (fun _ _ _ _ _ => True) (fun _ U o U' => ∃ v L, o = .returned v ∧ own_law_Q Z n0 v U'.heap L ∧ FrameEnd U o U' L 24 128) := by
  refine MetFree.of_bodySF own_pn25 hisR ?_
  intro p e s m args below meth c s₁ Bd hml0 hP hK
  obtain ⟨rfl, hZ, hh⟩ := hP
  have hx := Bd.exec
  have hby := Bd.bytes
  have hml : c.maxLocals = 11 := hml0
  have hlk := BodyLoose.notSynchronized Bd
  have hown : s.vm.findClass "com/example/rationed_session/rationedsession/model/PartitionLastPinLaw" = some m.cls := findClass_of_methodNamed Bd.named
  have hnm := (name_of_methodNamed Bd.named Bd.method).1
  have X0 : Stand p l e room_1 s m #[(.int p1), (.int p2), (.int p3), (.int p4), (.int p5), (.int p6)] below meth c s₁ [] 0 0 := Stand.of_body Bd
  have e0 : s₁.heap = h0 := by rw [← hh, Bd.state]; rfl
  have N0 := Fr.nil n0
  show own_Go p e below s (own_law_Q Z n0) 24 128 (s₁.setTop (entryFrame m #[(.int p1), (.int p2), (.int p3), (.int p4), (.int p5), (.int p6)] maxLocals))
  rw [own_law_ef]
  show own_Go p e below s _ _ _ (s₁.setTop (mkF m 0 #[.val (.int p1), .val (.int p2), .val (.int p3), .val (.int p4), .val (.int p5), .val (.int p6), .unset, .unset, .unset, .unset, .unset] []))
  refine own_st (fun _ kQ => XS.iloadN X0.here hx rfl (hb hby at_0) rfl kQ) ?_
  show own_Go p e below s _ _ _ (s₁.setTop (mkF m 1 #[.val (.int p1), .val (.int p2), .val (.int p3), .val (.int p4), .val (.int p5), .val (.int p6), .unset, .unset, .unset, .unset, .unset] [(.int p1)]))
  refine own_st (fun _ kQ => XT.iconstV X0.here hx rfl (3 : Int32) (hb hby at_1) (by decide) kQ) ?_
  show own_Go p e below s _ _ _ (s₁.setTop (mkF m 2 #[.val (.int p1), .val (.int p2), .val (.int p3), .val (.int p4), .val (.int p5), .val (.int p6), .unset, .unset, .unset, .unset, .unset] [(.int (3 : Int32)), (.int p1)]))
  refine own_st (fun _ kQ => XS.iand X0.here hx rfl (hb hby at_2) rfl kQ) ?_
  show own_Go p e below s _ _ _ (s₁.setTop (mkF m 3 #[.val (.int p1), .val (.int p2), .val (.int p3), .val (.int p4), .val (.int p5), .val (.int p6), .unset, .unset, .unset, .unset, .unset] [(.int (p1 &&& (3 : Int32)))]))
  rcases own_and3 p1 with hi | hi | hi | hi
  · rw [hi]
    show own_Go p e below s _ _ _ (s₁.setTop (mkF m 3 #[.val (.int p1), .val (.int p2), .val (.int p3), .val (.int p4), .val (.int p5), .val (.int p6), .unset, .unset, .unset, .unset, .unset] [(.int (0 : Int32))]))
    refine own_st (fun _ kQ => XT.iconstV X0.here hx rfl (1 : Int32) (hb hby at_3) (by decide) kQ) ?_
    show own_Go p e below s _ _ _ (s₁.setTop (mkF m 4 #[.val (.int p1), .val (.int p2), .val (.int p3), .val (.int p4), .val (.int p5), .val (.int p6), .unset, .unset, .unset, .unset, .unset] [(.int (1 : Int32)), (.int (0 : Int32))]))
    refine own_st (fun _ kQ => XS.iadd X0.here hx rfl (hb hby at_4) rfl kQ) ?_
    show own_Go p e below s _ _ _ (s₁.setTop (mkF m 5 #[.val (.int p1), .val (.int p2), .val (.int p3), .val (.int p4), .val (.int p5), .val (.int p6), .unset, .unset, .unset, .unset, .unset] [(.int (1 : Int32))]))
    refine own_st (fun _ kQ => XS.istore X0.here hx rfl (hb hby at_5) rfl (l' := #[.val (.int p1), .val (.int p2), .val (.int p3), .val (.int p4), .val (.int p5), .val (.int p6), .val (.int (1 : Int32)), .unset, .unset, .unset, .unset]) rfl kQ) ?_
    show own_Go p e below s _ _ _ (s₁.setTop (mkF m 7 #[.val (.int p1), .val (.int p2), .val (.int p3), .val (.int p4), .val (.int p5), .val (.int p6), .val (.int (1 : Int32)), .unset, .unset, .unset, .unset] []))
    obtain ⟨T538, h538, X538, e538, E538, A538, D538, -, st538⟩ := newO X0 hx hZ hown (hw _ (List.mem_of_getElem? (i := 0) rfl)) (hw _ (List.mem_of_getElem? (i := 1) rfl)) (hw _ (List.mem_of_getElem? (i := 2) rfl)) e0 (g := (mkF m 7 #[.val (.int p1), .val (.int p2), .val (.int p3), .val (.int p4), .val (.int p5), .val (.int p6), .val (.int (1 : Int32)), .unset, .unset, .unset, .unset] [])) rfl (hb hby at_7) (by decide) (by decide)
    obtain ⟨b538, g538⟩ : ∃ z, z = h0.size := ⟨_, rfl⟩
    rw [← g538] at A538 D538 st538
    refine own_st st538 ?_
    have Zs539 : n0 ≤ h538.size := Nat.le_trans Z0 E538.1
    have g540 : n0 ≤ b538 := Nat.le_trans Z0 (Nat.le_of_eq g538.symm)
    have F541 : Fld Z h538 b538 "java/util/AbstractList" "modCount" "I" (.int (0 : Int32)) := D538 (Or.inl (hw _ (List.mem_of_getElem? (i := 22) rfl))) (ty := .int) (by decide)
    have F542 : Fld Z h538 b538 "java/util/ArrayList" "elementData" "[Ljava/lang/Object;" .null := D538 (Or.inl (hw _ (List.mem_of_getElem? (i := 25) rfl))) (ty := (.array (.object "java/lang/Object"))) (by decide)
    have F543 : Fld Z h538 b538 "java/util/ArrayList" "size" "I" (.int (0 : Int32)) := D538 (Or.inl (hw _ (List.mem_of_getElem? (i := 41) rfl))) (ty := .int) (by decide)
    show own_Go p e below s _ _ _ (T538.setTop (mkF m 10 #[.val (.int p1), .val (.int p2), .val (.int p3), .val (.int p4), .val (.int p5), .val (.int p6), .val (.int (1 : Int32)), .unset, .unset, .unset, .unset] [(.ref b538)]))
    refine own_st (fun _ kQ => XS.dup X538.here hx rfl (hb hby at_10) rfl rfl kQ) ?_
    show own_Go p e below s _ _ _ (T538.setTop (mkF m 11 #[.val (.int p1), .val (.int p2), .val (.int p3), .val (.int p4), .val (.int p5), .val (.int p6), .val (.int (1 : Int32)), .unset, .unset, .unset, .unset] [(.ref b538), (.ref b538)]))
    have O545 : Old Z n0 h538 := (O0.ext E538)
    obtain ⟨_, _, ⟨T544, L544, k544, n544⟩, -, X544, ⟨Lc544, hQ544, l544, y544, z544⟩, st544⟩ := X538.specialBack hx (y := (⟨"java/util/ArrayList", "<init>", "()V"⟩ : MethodName)) rfl hown (mvT hZ (hw _ (List.mem_of_getElem? (i := 3) rfl))) (mvT hZ (hw _ (List.mem_of_getElem? (i := 4) rfl))) (mvT hZ (hw _ (List.mem_of_getElem? (i := 5) rfl))) (by decide) (backOf (W := 1) (own_rm_alinit l Z a0 hw [] b538 dflt kd h538 n0 Zs539 O545 S_es V_es A538 F541 F542 F543 g540) hZ (hw _ (List.mem_of_getElem? (i := 5) rfl)) (hw _ (List.mem_of_getElem? (i := 2) rfl)) (by decide) (by decide)) (g := (mkF m 11 #[.val (.int p1), .val (.int p2), .val (.int p3), .val (.int p4), .val (.int p5), .val (.int p6), .val (.int (1 : Int32)), .unset, .unset, .unset, .unset] [(.ref b538), (.ref b538)])) rfl (by rw [hml]; rfl) (Steps.refl _) (a := b538) (argsL := []) (rest := [(.ref b538)]) (lenOf own_pd0 rfl) rfl (by show 2 * 0 + _ ≤ _; exact Nat.le_of_eq rfl) (hb hby at_11) (fun _ _ => ⟨rfl, e538, (by decide : 1 + 0 ≤ _), (by decide : 3 + 0 ≤ _)⟩)
    dsimp only [Pt.U, Pt.locs, Pt.cells, Pt.slots] at X544 l544 y544 z544 st544 hQ544
    subst l544 y544 z544
    obtain ⟨N544q, rfl, K544, q546, q547, q548, q549⟩ := hQ544
    have N550 := Fr.app N0 N544q
    refine own_tr st544 ?_
    have lt551 : b538 < T544.heap.size := Nat.lt_of_lt_of_le A538.lt K544.1
    have Zs552 : n0 ≤ T544.heap.size := Nat.le_trans Zs539 K544.1
    show own_Go p e below s _ _ _ (T544.setTop (mkF m 14 #[.val (.int p1), .val (.int p2), .val (.int p3), .val (.int p4), .val (.int p5), .val (.int p6), .val (.int (1 : Int32)), .unset, .unset, .unset, .unset] [(.ref b538)]))
    refine own_st (fun _ kQ => XS.astore X544.here hx rfl (hb hby at_14) rfl rfl (l' := #[.val (.int p1), .val (.int p2), .val (.int p3), .val (.int p4), .val (.int p5), .val (.int p6), .val (.int (1 : Int32)), .val (.ref b538), .unset, .unset, .unset]) rfl kQ) ?_
    show own_Go p e below s _ _ _ (T544.setTop (mkF m 16 #[.val (.int p1), .val (.int p2), .val (.int p3), .val (.int p4), .val (.int p5), .val (.int p6), .val (.int (1 : Int32)), .val (.ref b538), .unset, .unset, .unset] []))
    refine own_st (fun _ kQ => XS.aload X544.here hx rfl (hb hby at_16) rfl rfl kQ) ?_
    show own_Go p e below s _ _ _ (T544.setTop (mkF m 18 #[.val (.int p1), .val (.int p2), .val (.int p3), .val (.int p4), .val (.int p5), .val (.int p6), .val (.int (1 : Int32)), .val (.ref b538), .unset, .unset, .unset] [(.ref b538)]))
    refine own_st (fun _ kQ => XS.iloadN X544.here hx rfl (hb hby at_18) rfl kQ) ?_
    show own_Go p e below s _ _ _ (T544.setTop (mkF m 19 #[.val (.int p1), .val (.int p2), .val (.int p3), .val (.int p4), .val (.int p5), .val (.int p6), .val (.int (1 : Int32)), .val (.ref b538), .unset, .unset, .unset] [(.int p2), (.ref b538)]))
    have O554 : Old Z n0 T544.heap := (O545.keep K544 (allS g540 all0))
    obtain ⟨_, _, ⟨T553, L553, k553, n553⟩, -, X553, ⟨Lc553, hQ553, l553, y553, z553⟩, st553⟩ := Jvm.LawKit.callS X544 hx (y := (⟨"java/lang/Integer", "valueOf", "(I)Ljava/lang/Integer;"⟩ : MethodName)) hown (mvT hZ (hw _ (List.mem_of_getElem? (i := 26) rfl))) (mvT hZ (hw _ (List.mem_of_getElem? (i := 27) rfl))) (mvT hZ (hw _ (List.mem_of_getElem? (i := 28) rfl))) (mvT hZ (hw _ (List.mem_of_getElem? (i := 29) rfl))) (by decide) (backOf (W := 1) (own_rm_valueOfI l Z a0 hw [] p2 a_cacheI T544.heap n0 Zs552 O554 S_cacheI BxI S_high) hZ (hw _ (List.mem_of_getElem? (i := 29) rfl)) (hw _ (List.mem_of_getElem? (i := 28) rfl)) (by decide) (by decide)) (g := (mkF m 19 #[.val (.int p1), .val (.int p2), .val (.int p3), .val (.int p4), .val (.int p5), .val (.int p6), .val (.int (1 : Int32)), .val (.ref b538), .unset, .unset, .unset] [(.int p2), (.ref b538)])) rfl (by rw [hml]; rfl) (argsL := [(.int p2)]) (rest := [(.ref b538)]) (lenOf own_pd12 rfl) rfl (by show 2 * 0 + _ ≤ _; exact Nat.le_of_eq rfl) (hb hby at_19) (fun _ _ => ⟨rfl, rfl, (by decide : 1 + 1 ≤ _), (by decide : 3 + 1 ≤ _)⟩)
    dsimp only [Pt.U, Pt.locs, Pt.cells, Pt.slots] at X553 l553 y553 z553 st553 hQ553
    subst l553 y553 z553
    obtain ⟨x555, N553q, rfl, K553, q556, q557⟩ := hQ553
    have N558 := Fr.app N550 N553q
    refine own_st st553 ?_
    have lt559 : b538 < T553.heap.size := Nat.lt_of_lt_of_le q549.lt K553.1
    have Zs560 : n0 ≤ T553.heap.size := Nat.le_trans Zs552 K553.1
    show own_Go p e below s _ _ _ (T553.setTop (mkF m 22 #[.val (.int p1), .val (.int p2), .val (.int p3), .val (.int p4), .val (.int p5), .val (.int p6), .val (.int (1 : Int32)), .val (.ref b538), .unset, .unset, .unset] [(.ref x555), (.ref b538)]))
    have F562 : Exa Z T553.heap b538 "java/util/ArrayList" := (q546.keep K553)
    have F563 : Fld Z T553.heap b538 "java/util/AbstractList" "modCount" "I" (.int (0 : Int32)) := (q547.keep K553 nin0)
    have F564 : Fld Z T553.heap b538 "java/util/ArrayList" "elementData" "[Ljava/lang/Object;" (.ref dflt) := (q548.keep K553 nin0)
    have F565 : Fld Z T553.heap b538 "java/util/ArrayList" "size" "I" (.int (0 : Int32)) := (q549.keep K553 nin0)
    have O566 : Old Z n0 T553.heap := (O554.keep K553 all0)
    obtain ⟨cq561, kq561, q561a, q561b, q561c⟩ := isOf hZ rfl F562
    obtain ⟨_, _, ⟨T561, L561, k561, n561⟩, -, X561, ⟨Lc561, hQ561, l561, y561, z561⟩, st561⟩ := X553.virtualBack hx (y := (⟨"java/util/ArrayList", "add", "(Ljava/lang/Object;)Z"⟩ : MethodName)) (z := (⟨"java/util/ArrayList", "add", "(Ljava/lang/Object;)Z"⟩ : MethodName)) hown (mvT hZ (hw _ (List.mem_of_getElem? (i := 33) rfl))) (mvT hZ (hw _ (List.mem_of_getElem? (i := 34) rfl))) (notFace_of_selects (args := #[]) (mvT hZ (hw _ (List.mem_of_getElem? (i := 36) rfl)))) (mvT hZ (hw _ (List.mem_of_getElem? (i := 36) rfl))) (mvT hZ (hw _ (List.mem_of_getElem? (i := 35) rfl))) (by decide) (backOf (W := 0) (own_rm_add1_0 l Z a0 hw [] b538 x555 (0 : Int32) dflt kd T553.heap n0 Zs560 O566 S_es V_es F562 F563 F564 F565 g540 q556) hZ (hw _ (List.mem_of_getElem? (i := 37) rfl)) (hw _ (List.mem_of_getElem? (i := 2) rfl)) (by decide) (by decide)) q561a q561c (g := (mkF m 22 #[.val (.int p1), .val (.int p2), .val (.int p3), .val (.int p4), .val (.int p5), .val (.int p6), .val (.int (1 : Int32)), .val (.ref b538), .unset, .unset, .unset] [(.ref x555), (.ref b538)])) rfl (by rw [hml]; rfl) (Steps.refl _) (argsL := [(.ref x555)]) (rest := []) (lenOf own_pd13 rfl) rfl (by show 2 * 0 + _ ≤ _; exact Nat.le_of_eq rfl) (hb hby at_22) (fun _ _ => ⟨rfl, rfl, (by decide : 2 + 1 ≤ _), (by decide : 4 + 10 ≤ _)⟩)
    dsimp only [Pt.U, Pt.locs, Pt.cells, Pt.slots] at X561 l561 y561 z561 st561 hQ561
    subst l561 y561 z561
    obtain ⟨x567, x568, N561q, rfl, K561, q569, q570, q571, q572, q573, q574, q575, q576⟩ := hQ561
    have N577 := Fr.app N558 N561q
    refine own_tr st561 ?_
    have lt578 : b538 < T561.heap.size := Nat.lt_of_lt_of_le lt559 K561.1
    have lt579 : x555 < T561.heap.size := Nat.lt_of_lt_of_le q557.lt K561.1
    have Zs580 : n0 ≤ T561.heap.size := Nat.le_trans Zs560 K561.1
    have ne581 : b538 ≠ x567 := Nat.ne_of_lt (Nat.lt_of_lt_of_le lt559 q569)
    have ne582 : x555 ≠ x567 := Nat.ne_of_lt (Nat.lt_of_lt_of_le q557.lt q569)
    have g583 : n0 ≤ x567 := Nat.le_trans Zs560 q569
    show own_Go p e below s _ _ _ (T561.setTop (mkF m 25 #[.val (.int p1), .val (.int p2), .val (.int p3), .val (.int p4), .val (.int p5), .val (.int p6), .val (.int (1 : Int32)), .val (.ref b538), .unset, .unset, .unset] [(.int (1 : Int32))]))
    refine own_st (fun _ kQ => XT.pop X561.here hx rfl (hb hby at_25) rfl rfl kQ) ?_
    show own_Go p e below s _ _ _ (T561.setTop (mkF m 26 #[.val (.int p1), .val (.int p2), .val (.int p3), .val (.int p4), .val (.int p5), .val (.int p6), .val (.int (1 : Int32)), .val (.ref b538), .unset, .unset, .unset] []))
    refine own_st (fun _ kQ => XS.iload X561.here hx rfl (hb hby at_26) rfl kQ) ?_
    show own_Go p e below s _ _ _ (T561.setTop (mkF m 28 #[.val (.int p1), .val (.int p2), .val (.int p3), .val (.int p4), .val (.int p5), .val (.int p6), .val (.int (1 : Int32)), .val (.ref b538), .unset, .unset, .unset] [(.int (1 : Int32))]))
    refine own_st (fun _ kQ => XT.iconstV X561.here hx rfl (2 : Int32) (hb hby at_28) (by decide) kQ) ?_
    show own_Go p e below s _ _ _ (T561.setTop (mkF m 29 #[.val (.int p1), .val (.int p2), .val (.int p3), .val (.int p4), .val (.int p5), .val (.int p6), .val (.int (1 : Int32)), .val (.ref b538), .unset, .unset, .unset] [(.int (2 : Int32)), (.int (1 : Int32))]))
    refine own_st (fun _ kQ => XS.icmpYes X561.here hx rfl (pc0 := 29) (pc' := 42) rfl (hb hby at_29) rfl (XT.ii_lt_t (by decide)) (by decide) (by decide) kQ) ?_
    show own_Go p e below s _ _ _ (T561.setTop (mkF m 42 #[.val (.int p1), .val (.int p2), .val (.int p3), .val (.int p4), .val (.int p5), .val (.int p6), .val (.int (1 : Int32)), .val (.ref b538), .unset, .unset, .unset] []))
    refine own_st (fun _ kQ => XS.iload X561.here hx rfl (hb hby at_42) rfl kQ) ?_
    show own_Go p e below s _ _ _ (T561.setTop (mkF m 44 #[.val (.int p1), .val (.int p2), .val (.int p3), .val (.int p4), .val (.int p5), .val (.int p6), .val (.int (1 : Int32)), .val (.ref b538), .unset, .unset, .unset] [(.int (1 : Int32))]))
    refine own_st (fun _ kQ => XT.iconstV X561.here hx rfl (3 : Int32) (hb hby at_44) (by decide) kQ) ?_
    show own_Go p e below s _ _ _ (T561.setTop (mkF m 45 #[.val (.int p1), .val (.int p2), .val (.int p3), .val (.int p4), .val (.int p5), .val (.int p6), .val (.int (1 : Int32)), .val (.ref b538), .unset, .unset, .unset] [(.int (3 : Int32)), (.int (1 : Int32))]))
    refine own_st (fun _ kQ => XS.icmpYes X561.here hx rfl (pc0 := 45) (pc' := 58) rfl (hb hby at_45) rfl (XT.ii_lt_t (by decide)) (by decide) (by decide) kQ) ?_
    show own_Go p e below s _ _ _ (T561.setTop (mkF m 58 #[.val (.int p1), .val (.int p2), .val (.int p3), .val (.int p4), .val (.int p5), .val (.int p6), .val (.int (1 : Int32)), .val (.ref b538), .unset, .unset, .unset] []))
    refine own_st (fun _ kQ => XS.iload X561.here hx rfl (hb hby at_58) rfl kQ) ?_
    show own_Go p e below s _ _ _ (T561.setTop (mkF m 60 #[.val (.int p1), .val (.int p2), .val (.int p3), .val (.int p4), .val (.int p5), .val (.int p6), .val (.int (1 : Int32)), .val (.ref b538), .unset, .unset, .unset] [(.int (1 : Int32))]))
    refine own_st (fun _ kQ => XT.iconstV X561.here hx rfl (4 : Int32) (hb hby at_60) (by decide) kQ) ?_
    show own_Go p e below s _ _ _ (T561.setTop (mkF m 61 #[.val (.int p1), .val (.int p2), .val (.int p3), .val (.int p4), .val (.int p5), .val (.int p6), .val (.int (1 : Int32)), .val (.ref b538), .unset, .unset, .unset] [(.int (4 : Int32)), (.int (1 : Int32))]))
    refine own_st (fun _ kQ => XS.icmpYes X561.here hx rfl (pc0 := 61) (pc' := 75) rfl (hb hby at_61) rfl (XT.ii_lt_t (by decide)) (by decide) (by decide) kQ) ?_
    show own_Go p e below s _ _ _ (T561.setTop (mkF m 75 #[.val (.int p1), .val (.int p2), .val (.int p3), .val (.int p4), .val (.int p5), .val (.int p6), .val (.int (1 : Int32)), .val (.ref b538), .unset, .unset, .unset] []))
    refine own_st (fun _ kQ => XS.iload X561.here hx rfl (hb hby at_75) rfl kQ) ?_
    show own_Go p e below s _ _ _ (T561.setTop (mkF m 77 #[.val (.int p1), .val (.int p2), .val (.int p3), .val (.int p4), .val (.int p5), .val (.int p6), .val (.int (1 : Int32)), .val (.ref b538), .unset, .unset, .unset] [(.int (1 : Int32))]))
    refine own_st (fun _ kQ => XT.iconstV X561.here hx rfl (1 : Int32) (hb hby at_77) (by decide) kQ) ?_
    show own_Go p e below s _ _ _ (T561.setTop (mkF m 78 #[.val (.int p1), .val (.int p2), .val (.int p3), .val (.int p4), .val (.int p5), .val (.int p6), .val (.int (1 : Int32)), .val (.ref b538), .unset, .unset, .unset] [(.int (1 : Int32)), (.int (1 : Int32))]))
    refine own_st (fun _ kQ => XS.icmpNo X561.here hx rfl (hb hby at_78) rfl (XT.ii_ne_f rfl) kQ) ?_
    show own_Go p e below s _ _ _ (T561.setTop (mkF m 81 #[.val (.int p1), .val (.int p2), .val (.int p3), .val (.int p4), .val (.int p5), .val (.int p6), .val (.int (1 : Int32)), .val (.ref b538), .unset, .unset, .unset] []))
    refine own_st (fun _ kQ => XS.iloadN X561.here hx rfl (hb hby at_81) rfl kQ) ?_
    show own_Go p e below s _ _ _ (T561.setTop (mkF m 82 #[.val (.int p1), .val (.int p2), .val (.int p3), .val (.int p4), .val (.int p5), .val (.int p6), .val (.int (1 : Int32)), .val (.ref b538), .unset, .unset, .unset] [(.int p2)]))
    refine own_st (fun _ kQ => XS.istore X561.here hx rfl (hb hby at_82) rfl (l' := #[.val (.int p1), .val (.int p2), .val (.int p3), .val (.int p4), .val (.int p5), .val (.int p6), .val (.int (1 : Int32)), .val (.ref b538), .val (.int p2), .unset, .unset]) rfl kQ) ?_
    show own_Go p e below s _ _ _ (T561.setTop (mkF m 84 #[.val (.int p1), .val (.int p2), .val (.int p3), .val (.int p4), .val (.int p5), .val (.int p6), .val (.int (1 : Int32)), .val (.ref b538), .val (.int p2), .unset, .unset] []))
    refine own_st (fun _ kQ => XS.goto X561.here hx rfl (pc0 := 84) (pc' := 115) rfl (hb hby at_84) (by decide) (by decide) kQ) ?_
    show own_Go p e below s _ _ _ (T561.setTop (mkF m 115 #[.val (.int p1), .val (.int p2), .val (.int p3), .val (.int p4), .val (.int p5), .val (.int p6), .val (.int (1 : Int32)), .val (.ref b538), .val (.int p2), .unset, .unset] []))
    obtain ⟨T584, h584, X584, e584, E584, A584, D584, -, st584⟩ := newO X561 hx hZ hown (hw _ (List.mem_of_getElem? (i := 64) rfl)) (hw _ (List.mem_of_getElem? (i := 65) rfl)) (hw _ (List.mem_of_getElem? (i := 66) rfl)) rfl (g := (mkF m 115 #[.val (.int p1), .val (.int p2), .val (.int p3), .val (.int p4), .val (.int p5), .val (.int p6), .val (.int (1 : Int32)), .val (.ref b538), .val (.int p2), .unset, .unset] [])) rfl (hb hby at_115) (by decide) (by decide)
    obtain ⟨b584, g584⟩ : ∃ z, z = T561.heap.size := ⟨_, rfl⟩
    rw [← g584] at A584 D584 st584
    refine own_st st584 ?_
    have lt585 : b538 < h584.size := Nat.lt_of_lt_of_le q573.lt E584.1
    have lt586 : x555 < h584.size := Nat.lt_of_lt_of_le lt579 E584.1
    have lt587 : x567 < h584.size := Nat.lt_of_lt_of_le q575.lt E584.1
    have Zs588 : n0 ≤ h584.size := Nat.le_trans Zs580 E584.1
    have ne589 : b538 ≠ b584 := Nat.ne_of_lt (Nat.lt_of_lt_of_le q573.lt (Nat.le_of_eq g584.symm))
    have ne590 : x555 ≠ b584 := Nat.ne_of_lt (Nat.lt_of_lt_of_le lt579 (Nat.le_of_eq g584.symm))
    have ne591 : x567 ≠ b584 := Nat.ne_of_lt (Nat.lt_of_lt_of_le q575.lt (Nat.le_of_eq g584.symm))
    have g592 : n0 ≤ b584 := Nat.le_trans Zs580 (Nat.le_of_eq g584.symm)
    have F593 : Fld Z h584 b584 "com/example/rationed_session/rationedsession/model/Partition" "number" "I" (.int (0 : Int32)) := D584 (Or.inr (hw _ (List.mem_of_getElem? (i := 72) rfl))) (ty := .int) (by decide)
    have F594 : Fld Z h584 b584 "com/example/rationed_session/rationedsession/model/Partition" "firstIndex" "I" (.int (0 : Int32)) := D584 (Or.inr (hw _ (List.mem_of_getElem? (i := 74) rfl))) (ty := .int) (by decide)
    have F595 : Fld Z h584 b584 "com/example/rationed_session/rationedsession/model/Partition" "inputs" "Ljava/util/List;" .null := D584 (Or.inr (hw _ (List.mem_of_getElem? (i := 119) rfl))) (ty := (.object "java/util/List")) (by decide)
    show own_Go p e below s _ _ _ (T584.setTop (mkF m 118 #[.val (.int p1), .val (.int p2), .val (.int p3), .val (.int p4), .val (.int p5), .val (.int p6), .val (.int (1 : Int32)), .val (.ref b538), .val (.int p2), .unset, .unset] [(.ref b584)]))
    refine own_st (fun _ kQ => XS.dup X584.here hx rfl (hb hby at_118) rfl rfl kQ) ?_
    show own_Go p e below s _ _ _ (T584.setTop (mkF m 119 #[.val (.int p1), .val (.int p2), .val (.int p3), .val (.int p4), .val (.int p5), .val (.int p6), .val (.int (1 : Int32)), .val (.ref b538), .val (.int p2), .unset, .unset] [(.ref b584), (.ref b584)]))
    refine own_st (fun _ kQ => XS.iload X584.here hx rfl (hb hby at_119) rfl kQ) ?_
    show own_Go p e below s _ _ _ (T584.setTop (mkF m 121 #[.val (.int p1), .val (.int p2), .val (.int p3), .val (.int p4), .val (.int p5), .val (.int p6), .val (.int (1 : Int32)), .val (.ref b538), .val (.int p2), .unset, .unset] [(.int p6), (.ref b584), (.ref b584)]))
    refine own_st (fun _ kQ => XS.iloadN X584.here hx rfl (hb hby at_121) rfl kQ) ?_
    show own_Go p e below s _ _ _ (T584.setTop (mkF m 122 #[.val (.int p1), .val (.int p2), .val (.int p3), .val (.int p4), .val (.int p5), .val (.int p6), .val (.int (1 : Int32)), .val (.ref b538), .val (.int p2), .unset, .unset] [(.int p2), (.int p6), (.ref b584), (.ref b584)]))
    refine own_st (fun _ kQ => XS.aload X584.here hx rfl (hb hby at_122) rfl rfl kQ) ?_
    show own_Go p e below s _ _ _ (T584.setTop (mkF m 124 #[.val (.int p1), .val (.int p2), .val (.int p3), .val (.int p4), .val (.int p5), .val (.int p6), .val (.int (1 : Int32)), .val (.ref b538), .val (.int p2), .unset, .unset] [(.ref b538), (.int p2), (.int p6), (.ref b584), (.ref b584)]))
    have F597 : Exa Z h584 b538 "java/util/ArrayList" := (q570.ext E584)
    obtain ⟨_, _, ⟨T596, L596, k596, n596⟩, -, X596, ⟨Lc596, hQ596, l596, y596, z596⟩, st596⟩ := X584.specialBack hx (y := (⟨"com/example/rationed_session/rationedsession/model/Partition", "<init>", "(IILjava/util/List;)V"⟩ : MethodName)) rfl hown (mvT hZ (hw _ (List.mem_of_getElem? (i := 67) rfl))) (mvT hZ (hw _ (List.mem_of_getElem? (i := 68) rfl))) (mvT hZ (hw _ (List.mem_of_getElem? (i := 69) rfl))) (by decide) (backOf (W := 1) (own_rm_pinitU l Z a0 hw [] b584 p6 p2 b538 mA mL mR h584 n0 Zs588 M_AL M_UL M_UR h1 h2 A584 F597 F593 F594 F595 g592) hZ (hw _ (List.mem_of_getElem? (i := 69) rfl)) (hw _ (List.mem_of_getElem? (i := 66) rfl)) (by decide) (by decide)) (g := (mkF m 124 #[.val (.int p1), .val (.int p2), .val (.int p3), .val (.int p4), .val (.int p5), .val (.int p6), .val (.int (1 : Int32)), .val (.ref b538), .val (.int p2), .unset, .unset] [(.ref b538), (.int p2), (.int p6), (.ref b584), (.ref b584)])) rfl (by rw [hml]; rfl) (Steps.refl _) (a := b584) (argsL := [(.int p6), (.int p2), (.ref b538)]) (rest := [(.ref b584)]) (lenOf own_pd14 rfl) rfl (by show 2 * 0 + _ ≤ _; exact Nat.le_of_eq rfl) (hb hby at_124) (fun _ _ => ⟨rfl, e584, (by decide : 4 + 1 ≤ _), (by decide : 17 + 2 ≤ _)⟩)
    dsimp only [Pt.U, Pt.locs, Pt.cells, Pt.slots] at X596 l596 y596 z596 st596 hQ596
    subst l596 y596 z596
    obtain ⟨x598, N596q, rfl, K596, q599, q600, q601, q602, q603, q604, q605, q606⟩ := hQ596
    have N607 := Fr.app N577 N596q
    refine own_tr st596 ?_
    have lt608 : b538 < T596.heap.size := Nat.lt_of_lt_of_le lt585 K596.1
    have lt609 : x555 < T596.heap.size := Nat.lt_of_lt_of_le lt586 K596.1
    have lt610 : x567 < T596.heap.size := Nat.lt_of_lt_of_le lt587 K596.1
    have lt611 : b584 < T596.heap.size := Nat.lt_of_lt_of_le A584.lt K596.1
    have Zs612 : n0 ≤ T596.heap.size := Nat.le_trans Zs588 K596.1
    have ne613 : b538 ≠ x598 := Nat.ne_of_lt (Nat.lt_of_lt_of_le lt585 q603)
    have ne614 : x555 ≠ x598 := Nat.ne_of_lt (Nat.lt_of_lt_of_le lt586 q603)
    have ne615 : x567 ≠ x598 := Nat.ne_of_lt (Nat.lt_of_lt_of_le lt587 q603)
    have ne616 : b584 ≠ x598 := Nat.ne_of_lt (Nat.lt_of_lt_of_le A584.lt q603)
    have g617 : n0 ≤ x598 := Nat.le_trans Zs588 q603
    obtain ⟨Lp618, Xp618, Np618⟩ : ∃ L, Stand p l e room_1 s m #[(.int p1), (.int p2), (.int p3), (.int p4), (.int p5), (.int p6)] below meth c T596 L 5 19 ∧ Fr n0 L := ⟨_, X596, N607⟩
    show own_Go p e below s _ _ _ (T596.setTop (mkF m 127 #[.val (.int p1), .val (.int p2), .val (.int p3), .val (.int p4), .val (.int p5), .val (.int p6), .val (.int (1 : Int32)), .val (.ref b538), .val (.int p2), .unset, .unset] [(.ref b584)]))
    refine own_st (fun _ kQ => XS.astore Xp618.here hx rfl (hb hby at_127) rfl rfl (l' := #[.val (.int p1), .val (.int p2), .val (.int p3), .val (.int p4), .val (.int p5), .val (.int p6), .val (.int (1 : Int32)), .val (.ref b538), .val (.int p2), .val (.ref b584), .unset]) rfl kQ) ?_
    show own_Go p e below s _ _ _ (T596.setTop (mkF m 129 #[.val (.int p1), .val (.int p2), .val (.int p3), .val (.int p4), .val (.int p5), .val (.int p6), .val (.int (1 : Int32)), .val (.ref b538), .val (.int p2), .val (.ref b584), .unset] []))
    refine own_st (fun _ kQ => XS.aload Xp618.here hx rfl (hb hby at_129) rfl rfl kQ) ?_
    show own_Go p e below s _ _ _ (T596.setTop (mkF m 131 #[.val (.int p1), .val (.int p2), .val (.int p3), .val (.int p4), .val (.int p5), .val (.int p6), .val (.int (1 : Int32)), .val (.ref b538), .val (.int p2), .val (.ref b584), .unset] [(.ref b584)]))
    have F620 : Exa Z T596.heap b538 "java/util/ArrayList" := (F597.keep K596)
    have F621 : Fld Z T596.heap b538 "java/util/ArrayList" "elementData" "[Ljava/lang/Object;" (.ref x567) := ((q572.ext E584).keep K596 (ninS ne589 nin0))
    have F622 : Fld Z T596.heap b538 "java/util/ArrayList" "size" "I" (.int (1 : Int32)) := ((q573.ext E584).keep K596 (ninS ne589 nin0))
    have F623 : Arv Z T596.heap x567 x568 (.object "java/lang/Object") (10 : Int32) [(.ref x555), .null, .null, .null, .null, .null, .null, .null, .null, .null] .null := ((q575.ext E584).keep K596 (ninS ne591 nin0))
    obtain ⟨cq619, kq619, q619a, q619b, q619c⟩ := isOf hZ rfl q599
    obtain ⟨_, _, ⟨T619, L619, k619, n619⟩, -, X619, ⟨Lc619, hQ619, l619, y619, z619⟩, st619⟩ := Xp618.virtualBack hx (y := (⟨"com/example/rationed_session/rationedsession/model/Partition", "last", "()Ljava/lang/Object;"⟩ : MethodName)) (z := (⟨"com/example/rationed_session/rationedsession/model/Partition", "last", "()Ljava/lang/Object;"⟩ : MethodName)) hown (mvT hZ (hw _ (List.mem_of_getElem? (i := 120) rfl))) (mvT hZ (hw _ (List.mem_of_getElem? (i := 121) rfl))) (notFace_of_selects (args := #[]) (mvT hZ (hw _ (List.mem_of_getElem? (i := 123) rfl)))) (mvT hZ (hw _ (List.mem_of_getElem? (i := 123) rfl))) (mvT hZ (hw _ (List.mem_of_getElem? (i := 122) rfl))) (by decide) (backOf (W := 0) (own_rm_lastU1 l Z a0 hw [] x598 b584 b538 x567 x568 x555 T596.heap n0 Zs612 q602 q604 q605 q606 F620 F621 F622 F623) hZ (hw _ (List.mem_of_getElem? (i := 124) rfl)) (hw _ (List.mem_of_getElem? (i := 66) rfl)) (by decide) (by decide)) q619a q619c (g := (mkF m 131 #[.val (.int p1), .val (.int p2), .val (.int p3), .val (.int p4), .val (.int p5), .val (.int p6), .val (.int (1 : Int32)), .val (.ref b538), .val (.int p2), .val (.ref b584), .unset] [(.ref b584)])) rfl (by rw [hml]; rfl) (Steps.refl _) (argsL := []) (rest := []) (lenOf own_pd15 rfl) rfl (by show 2 * 0 + _ ≤ _; exact Nat.le_of_eq rfl) (hb hby at_131) (fun _ _ => ⟨rfl, rfl, (by decide : 5 + 0 ≤ _), (by decide : 19 + 0 ≤ _)⟩)
    dsimp only [Pt.U, Pt.locs, Pt.cells, Pt.slots] at X619 l619 y619 z619 st619 hQ619
    subst l619 y619 z619
    obtain ⟨N619q, rfl, eh619⟩ := hQ619
    have N624 := Fr.app Np618 N619q
    refine own_tr st619 ?_
    show own_Go p e below s _ _ _ (T619.setTop (mkF m 134 #[.val (.int p1), .val (.int p2), .val (.int p3), .val (.int p4), .val (.int p5), .val (.int p6), .val (.int (1 : Int32)), .val (.ref b538), .val (.int p2), .val (.ref b584), .unset] [(.ref x555)]))
    have F626 : Exa Z T596.heap x555 "java/lang/Integer" := (((q556.keep K561).ext E584).keep K596)
    obtain ⟨T625, X625, e625, st625⟩ := castY X619 hx hZ hown (hw _ (List.mem_of_getElem? (i := 170) rfl)) eh619 (Ins.self F626) (g := (mkF m 134 #[.val (.int p1), .val (.int p2), .val (.int p3), .val (.int p4), .val (.int p5), .val (.int p6), .val (.int (1 : Int32)), .val (.ref b538), .val (.int p2), .val (.ref b584), .unset] [(.ref x555)])) rfl rfl (hb hby at_134)
    refine own_st st625 ?_
    show own_Go p e below s _ _ _ (T625.setTop (mkF m 137 #[.val (.int p1), .val (.int p2), .val (.int p3), .val (.int p4), .val (.int p5), .val (.int p6), .val (.int (1 : Int32)), .val (.ref b538), .val (.int p2), .val (.ref b584), .unset] [(.ref x555)]))
    refine own_st (fun _ kQ => XS.astore X625.here hx rfl (hb hby at_137) rfl rfl (l' := #[.val (.int p1), .val (.int p2), .val (.int p3), .val (.int p4), .val (.int p5), .val (.int p6), .val (.int (1 : Int32)), .val (.ref b538), .val (.int p2), .val (.ref b584), .val (.ref x555)]) rfl kQ) ?_
    show own_Go p e below s _ _ _ (T625.setTop (mkF m 139 #[.val (.int p1), .val (.int p2), .val (.int p3), .val (.int p4), .val (.int p5), .val (.int p6), .val (.int (1 : Int32)), .val (.ref b538), .val (.int p2), .val (.ref b584), .val (.ref x555)] []))
    refine own_st (fun _ kQ => XS.aload X625.here hx rfl (hb hby at_139) rfl rfl kQ) ?_
    show own_Go p e below s _ _ _ (T625.setTop (mkF m 141 #[.val (.int p1), .val (.int p2), .val (.int p3), .val (.int p4), .val (.int p5), .val (.int p6), .val (.int (1 : Int32)), .val (.ref b538), .val (.int p2), .val (.ref b584), .val (.ref x555)] [(.ref x555)]))
    refine own_st (fun _ kQ => XS.ifnullNo X625.here hx rfl (hb hby at_141) rfl kQ) ?_
    show own_Go p e below s _ _ _ (T625.setTop (mkF m 144 #[.val (.int p1), .val (.int p2), .val (.int p3), .val (.int p4), .val (.int p5), .val (.int p6), .val (.int (1 : Int32)), .val (.ref b538), .val (.int p2), .val (.ref b584), .val (.ref x555)] []))
    refine own_st (fun _ kQ => XS.aload X625.here hx rfl (hb hby at_144) rfl rfl kQ) ?_
    show own_Go p e below s _ _ _ (T625.setTop (mkF m 146 #[.val (.int p1), .val (.int p2), .val (.int p3), .val (.int p4), .val (.int p5), .val (.int p6), .val (.int (1 : Int32)), .val (.ref b538), .val (.int p2), .val (.ref b584), .val (.ref x555)] [(.ref x555)]))
    have ne628 : x555 ≠ b538 := ne_exa F626 F620 (by decide)
    have F629 : Fld Z T596.heap x555 "java/lang/Integer" "value" "I" (.int p2) := (((q557.keep K561 (ninS ne628 nin0)).ext E584).keep K596 (ninS ne590 nin0))
    obtain ⟨cq627, kq627, q627a, q627b, q627c⟩ := isOf hZ e625 F626
    obtain ⟨_, _, ⟨T627, L627, k627, n627⟩, -, X627, ⟨Lc627, hQ627, l627, y627, z627⟩, st627⟩ := X625.virtualBack hx (y := (⟨"java/lang/Integer", "intValue", "()I"⟩ : MethodName)) (z := (⟨"java/lang/Integer", "intValue", "()I"⟩ : MethodName)) hown (mvT hZ (hw _ (List.mem_of_getElem? (i := 172) rfl))) (mvT hZ (hw _ (List.mem_of_getElem? (i := 173) rfl))) (notFace_of_selects (args := #[]) (mvT hZ (hw _ (List.mem_of_getElem? (i := 175) rfl)))) (mvT hZ (hw _ (List.mem_of_getElem? (i := 175) rfl))) (mvT hZ (hw _ (List.mem_of_getElem? (i := 174) rfl))) (by decide) (backOf (W := 0) (own_rm_iv l Z a0 hw [] x555 p2 T596.heap n0 Zs612 F629) hZ (hw _ (List.mem_of_getElem? (i := 176) rfl)) (hw _ (List.mem_of_getElem? (i := 28) rfl)) (by decide) (by decide)) q627a q627c (g := (mkF m 146 #[.val (.int p1), .val (.int p2), .val (.int p3), .val (.int p4), .val (.int p5), .val (.int p6), .val (.int (1 : Int32)), .val (.ref b538), .val (.int p2), .val (.ref b584), .val (.ref x555)] [(.ref x555)])) rfl (by rw [hml]; rfl) (Steps.refl _) (argsL := []) (rest := []) (lenOf own_pd6 rfl) rfl (by show 2 * 0 + _ ≤ _; exact Nat.le_of_eq rfl) (hb hby at_146) (fun _ _ => ⟨rfl, e625, (by decide : 5 + 0 ≤ _), (by decide : 19 + 0 ≤ _)⟩)
    dsimp only [Pt.U, Pt.locs, Pt.cells, Pt.slots] at X627 l627 y627 z627 st627 hQ627
    subst l627 y627 z627
    obtain ⟨N627q, rfl, eh627⟩ := hQ627
    have N630 := Fr.app N624 N627q
    refine own_tr st627 ?_
    show own_Go p e below s _ _ _ (T627.setTop (mkF m 149 #[.val (.int p1), .val (.int p2), .val (.int p3), .val (.int p4), .val (.int p5), .val (.int p6), .val (.int (1 : Int32)), .val (.ref b538), .val (.int p2), .val (.ref b584), .val (.ref x555)] [(.int p2)]))
    refine own_st (fun _ kQ => XS.iload X627.here hx rfl (hb hby at_149) rfl kQ) ?_
    show own_Go p e below s _ _ _ (T627.setTop (mkF m 151 #[.val (.int p1), .val (.int p2), .val (.int p3), .val (.int p4), .val (.int p5), .val (.int p6), .val (.int (1 : Int32)), .val (.ref b538), .val (.int p2), .val (.ref b584), .val (.ref x555)] [(.int p2), (.int p2)]))
    refine own_st (fun _ kQ => XS.icmpNo X627.here hx rfl (hb hby at_151) rfl (XT.ii_ne_f rfl) kQ) ?_
    show own_Go p e below s _ _ _ (T627.setTop (mkF m 154 #[.val (.int p1), .val (.int p2), .val (.int p3), .val (.int p4), .val (.int p5), .val (.int p6), .val (.int (1 : Int32)), .val (.ref b538), .val (.int p2), .val (.ref b584), .val (.ref x555)] []))
    refine own_st (fun _ kQ => XT.iconstV X627.here hx rfl (1 : Int32) (hb hby at_154) (by decide) kQ) ?_
    show own_Go p e below s _ _ _ (T627.setTop (mkF m 155 #[.val (.int p1), .val (.int p2), .val (.int p3), .val (.int p4), .val (.int p5), .val (.int p6), .val (.int (1 : Int32)), .val (.ref b538), .val (.int p2), .val (.ref b584), .val (.ref x555)] [(.int (1 : Int32))]))
    refine own_st (fun _ kQ => XS.goto X627.here hx rfl (pc0 := 155) (pc' := 159) rfl (hb hby at_155) (by decide) (by decide) kQ) ?_
    show own_Go p e below s _ _ _ (T627.setTop (mkF m 159 #[.val (.int p1), .val (.int p2), .val (.int p3), .val (.int p4), .val (.int p5), .val (.int p6), .val (.int (1 : Int32)), .val (.ref b538), .val (.int p2), .val (.ref b584), .val (.ref x555)] [(.int (1 : Int32))]))
    refine own_retN X627 hx hlk Bd.returns (t := .boolean) (z' := (1 : Int32)) (by simp) (by decide) (hb hby at_159) (by decide) (by decide) ?_
    rw [eh627]
    exact ⟨N630, rfl⟩
  · rw [hi]
    show own_Go p e below s _ _ _ (s₁.setTop (mkF m 3 #[.val (.int p1), .val (.int p2), .val (.int p3), .val (.int p4), .val (.int p5), .val (.int p6), .unset, .unset, .unset, .unset, .unset] [(.int (1 : Int32))]))
    refine own_st (fun _ kQ => XT.iconstV X0.here hx rfl (1 : Int32) (hb hby at_3) (by decide) kQ) ?_
    show own_Go p e below s _ _ _ (s₁.setTop (mkF m 4 #[.val (.int p1), .val (.int p2), .val (.int p3), .val (.int p4), .val (.int p5), .val (.int p6), .unset, .unset, .unset, .unset, .unset] [(.int (1 : Int32)), (.int (1 : Int32))]))
    refine own_st (fun _ kQ => XS.iadd X0.here hx rfl (hb hby at_4) rfl kQ) ?_
    show own_Go p e below s _ _ _ (s₁.setTop (mkF m 5 #[.val (.int p1), .val (.int p2), .val (.int p3), .val (.int p4), .val (.int p5), .val (.int p6), .unset, .unset, .unset, .unset, .unset] [(.int (2 : Int32))]))
    refine own_st (fun _ kQ => XS.istore X0.here hx rfl (hb hby at_5) rfl (l' := #[.val (.int p1), .val (.int p2), .val (.int p3), .val (.int p4), .val (.int p5), .val (.int p6), .val (.int (2 : Int32)), .unset, .unset, .unset, .unset]) rfl kQ) ?_
    show own_Go p e below s _ _ _ (s₁.setTop (mkF m 7 #[.val (.int p1), .val (.int p2), .val (.int p3), .val (.int p4), .val (.int p5), .val (.int p6), .val (.int (2 : Int32)), .unset, .unset, .unset, .unset] []))
    obtain ⟨T631, h631, X631, e631, E631, A631, D631, -, st631⟩ := newO X0 hx hZ hown (hw _ (List.mem_of_getElem? (i := 0) rfl)) (hw _ (List.mem_of_getElem? (i := 1) rfl)) (hw _ (List.mem_of_getElem? (i := 2) rfl)) e0 (g := (mkF m 7 #[.val (.int p1), .val (.int p2), .val (.int p3), .val (.int p4), .val (.int p5), .val (.int p6), .val (.int (2 : Int32)), .unset, .unset, .unset, .unset] [])) rfl (hb hby at_7) (by decide) (by decide)
    obtain ⟨b631, g631⟩ : ∃ z, z = h0.size := ⟨_, rfl⟩
    rw [← g631] at A631 D631 st631
    refine own_st st631 ?_
    have Zs632 : n0 ≤ h631.size := Nat.le_trans Z0 E631.1
    have g633 : n0 ≤ b631 := Nat.le_trans Z0 (Nat.le_of_eq g631.symm)
    have F634 : Fld Z h631 b631 "java/util/AbstractList" "modCount" "I" (.int (0 : Int32)) := D631 (Or.inl (hw _ (List.mem_of_getElem? (i := 22) rfl))) (ty := .int) (by decide)
    have F635 : Fld Z h631 b631 "java/util/ArrayList" "elementData" "[Ljava/lang/Object;" .null := D631 (Or.inl (hw _ (List.mem_of_getElem? (i := 25) rfl))) (ty := (.array (.object "java/lang/Object"))) (by decide)
    have F636 : Fld Z h631 b631 "java/util/ArrayList" "size" "I" (.int (0 : Int32)) := D631 (Or.inl (hw _ (List.mem_of_getElem? (i := 41) rfl))) (ty := .int) (by decide)
    show own_Go p e below s _ _ _ (T631.setTop (mkF m 10 #[.val (.int p1), .val (.int p2), .val (.int p3), .val (.int p4), .val (.int p5), .val (.int p6), .val (.int (2 : Int32)), .unset, .unset, .unset, .unset] [(.ref b631)]))
    refine own_st (fun _ kQ => XS.dup X631.here hx rfl (hb hby at_10) rfl rfl kQ) ?_
    show own_Go p e below s _ _ _ (T631.setTop (mkF m 11 #[.val (.int p1), .val (.int p2), .val (.int p3), .val (.int p4), .val (.int p5), .val (.int p6), .val (.int (2 : Int32)), .unset, .unset, .unset, .unset] [(.ref b631), (.ref b631)]))
    have O638 : Old Z n0 h631 := (O0.ext E631)
    obtain ⟨_, _, ⟨T637, L637, k637, n637⟩, -, X637, ⟨Lc637, hQ637, l637, y637, z637⟩, st637⟩ := X631.specialBack hx (y := (⟨"java/util/ArrayList", "<init>", "()V"⟩ : MethodName)) rfl hown (mvT hZ (hw _ (List.mem_of_getElem? (i := 3) rfl))) (mvT hZ (hw _ (List.mem_of_getElem? (i := 4) rfl))) (mvT hZ (hw _ (List.mem_of_getElem? (i := 5) rfl))) (by decide) (backOf (W := 1) (own_rm_alinit l Z a0 hw [] b631 dflt kd h631 n0 Zs632 O638 S_es V_es A631 F634 F635 F636 g633) hZ (hw _ (List.mem_of_getElem? (i := 5) rfl)) (hw _ (List.mem_of_getElem? (i := 2) rfl)) (by decide) (by decide)) (g := (mkF m 11 #[.val (.int p1), .val (.int p2), .val (.int p3), .val (.int p4), .val (.int p5), .val (.int p6), .val (.int (2 : Int32)), .unset, .unset, .unset, .unset] [(.ref b631), (.ref b631)])) rfl (by rw [hml]; rfl) (Steps.refl _) (a := b631) (argsL := []) (rest := [(.ref b631)]) (lenOf own_pd0 rfl) rfl (by show 2 * 0 + _ ≤ _; exact Nat.le_of_eq rfl) (hb hby at_11) (fun _ _ => ⟨rfl, e631, (by decide : 1 + 0 ≤ _), (by decide : 3 + 0 ≤ _)⟩)
    dsimp only [Pt.U, Pt.locs, Pt.cells, Pt.slots] at X637 l637 y637 z637 st637 hQ637
    subst l637 y637 z637
    obtain ⟨N637q, rfl, K637, q639, q640, q641, q642⟩ := hQ637
    have N643 := Fr.app N0 N637q
    refine own_tr st637 ?_
    have lt644 : b631 < T637.heap.size := Nat.lt_of_lt_of_le A631.lt K637.1
    have Zs645 : n0 ≤ T637.heap.size := Nat.le_trans Zs632 K637.1
    show own_Go p e below s _ _ _ (T637.setTop (mkF m 14 #[.val (.int p1), .val (.int p2), .val (.int p3), .val (.int p4), .val (.int p5), .val (.int p6), .val (.int (2 : Int32)), .unset, .unset, .unset, .unset] [(.ref b631)]))
    refine own_st (fun _ kQ => XS.astore X637.here hx rfl (hb hby at_14) rfl rfl (l' := #[.val (.int p1), .val (.int p2), .val (.int p3), .val (.int p4), .val (.int p5), .val (.int p6), .val (.int (2 : Int32)), .val (.ref b631), .unset, .unset, .unset]) rfl kQ) ?_
    show own_Go p e below s _ _ _ (T637.setTop (mkF m 16 #[.val (.int p1), .val (.int p2), .val (.int p3), .val (.int p4), .val (.int p5), .val (.int p6), .val (.int (2 : Int32)), .val (.ref b631), .unset, .unset, .unset] []))
    refine own_st (fun _ kQ => XS.aload X637.here hx rfl (hb hby at_16) rfl rfl kQ) ?_
    show own_Go p e below s _ _ _ (T637.setTop (mkF m 18 #[.val (.int p1), .val (.int p2), .val (.int p3), .val (.int p4), .val (.int p5), .val (.int p6), .val (.int (2 : Int32)), .val (.ref b631), .unset, .unset, .unset] [(.ref b631)]))
    refine own_st (fun _ kQ => XS.iloadN X637.here hx rfl (hb hby at_18) rfl kQ) ?_
    show own_Go p e below s _ _ _ (T637.setTop (mkF m 19 #[.val (.int p1), .val (.int p2), .val (.int p3), .val (.int p4), .val (.int p5), .val (.int p6), .val (.int (2 : Int32)), .val (.ref b631), .unset, .unset, .unset] [(.int p2), (.ref b631)]))
    have O647 : Old Z n0 T637.heap := (O638.keep K637 (allS g633 all0))
    obtain ⟨_, _, ⟨T646, L646, k646, n646⟩, -, X646, ⟨Lc646, hQ646, l646, y646, z646⟩, st646⟩ := Jvm.LawKit.callS X637 hx (y := (⟨"java/lang/Integer", "valueOf", "(I)Ljava/lang/Integer;"⟩ : MethodName)) hown (mvT hZ (hw _ (List.mem_of_getElem? (i := 26) rfl))) (mvT hZ (hw _ (List.mem_of_getElem? (i := 27) rfl))) (mvT hZ (hw _ (List.mem_of_getElem? (i := 28) rfl))) (mvT hZ (hw _ (List.mem_of_getElem? (i := 29) rfl))) (by decide) (backOf (W := 1) (own_rm_valueOfI l Z a0 hw [] p2 a_cacheI T637.heap n0 Zs645 O647 S_cacheI BxI S_high) hZ (hw _ (List.mem_of_getElem? (i := 29) rfl)) (hw _ (List.mem_of_getElem? (i := 28) rfl)) (by decide) (by decide)) (g := (mkF m 19 #[.val (.int p1), .val (.int p2), .val (.int p3), .val (.int p4), .val (.int p5), .val (.int p6), .val (.int (2 : Int32)), .val (.ref b631), .unset, .unset, .unset] [(.int p2), (.ref b631)])) rfl (by rw [hml]; rfl) (argsL := [(.int p2)]) (rest := [(.ref b631)]) (lenOf own_pd12 rfl) rfl (by show 2 * 0 + _ ≤ _; exact Nat.le_of_eq rfl) (hb hby at_19) (fun _ _ => ⟨rfl, rfl, (by decide : 1 + 1 ≤ _), (by decide : 3 + 1 ≤ _)⟩)
    dsimp only [Pt.U, Pt.locs, Pt.cells, Pt.slots] at X646 l646 y646 z646 st646 hQ646
    subst l646 y646 z646
    obtain ⟨x648, N646q, rfl, K646, q649, q650⟩ := hQ646
    have N651 := Fr.app N643 N646q
    refine own_st st646 ?_
    have lt652 : b631 < T646.heap.size := Nat.lt_of_lt_of_le q642.lt K646.1
    have Zs653 : n0 ≤ T646.heap.size := Nat.le_trans Zs645 K646.1
    show own_Go p e below s _ _ _ (T646.setTop (mkF m 22 #[.val (.int p1), .val (.int p2), .val (.int p3), .val (.int p4), .val (.int p5), .val (.int p6), .val (.int (2 : Int32)), .val (.ref b631), .unset, .unset, .unset] [(.ref x648), (.ref b631)]))
    have F655 : Exa Z T646.heap b631 "java/util/ArrayList" := (q639.keep K646)
    have F656 : Fld Z T646.heap b631 "java/util/AbstractList" "modCount" "I" (.int (0 : Int32)) := (q640.keep K646 nin0)
    have F657 : Fld Z T646.heap b631 "java/util/ArrayList" "elementData" "[Ljava/lang/Object;" (.ref dflt) := (q641.keep K646 nin0)
    have F658 : Fld Z T646.heap b631 "java/util/ArrayList" "size" "I" (.int (0 : Int32)) := (q642.keep K646 nin0)
    have O659 : Old Z n0 T646.heap := (O647.keep K646 all0)
    obtain ⟨cq654, kq654, q654a, q654b, q654c⟩ := isOf hZ rfl F655
    obtain ⟨_, _, ⟨T654, L654, k654, n654⟩, -, X654, ⟨Lc654, hQ654, l654, y654, z654⟩, st654⟩ := X646.virtualBack hx (y := (⟨"java/util/ArrayList", "add", "(Ljava/lang/Object;)Z"⟩ : MethodName)) (z := (⟨"java/util/ArrayList", "add", "(Ljava/lang/Object;)Z"⟩ : MethodName)) hown (mvT hZ (hw _ (List.mem_of_getElem? (i := 33) rfl))) (mvT hZ (hw _ (List.mem_of_getElem? (i := 34) rfl))) (notFace_of_selects (args := #[]) (mvT hZ (hw _ (List.mem_of_getElem? (i := 36) rfl)))) (mvT hZ (hw _ (List.mem_of_getElem? (i := 36) rfl))) (mvT hZ (hw _ (List.mem_of_getElem? (i := 35) rfl))) (by decide) (backOf (W := 0) (own_rm_add1_0 l Z a0 hw [] b631 x648 (0 : Int32) dflt kd T646.heap n0 Zs653 O659 S_es V_es F655 F656 F657 F658 g633 q649) hZ (hw _ (List.mem_of_getElem? (i := 37) rfl)) (hw _ (List.mem_of_getElem? (i := 2) rfl)) (by decide) (by decide)) q654a q654c (g := (mkF m 22 #[.val (.int p1), .val (.int p2), .val (.int p3), .val (.int p4), .val (.int p5), .val (.int p6), .val (.int (2 : Int32)), .val (.ref b631), .unset, .unset, .unset] [(.ref x648), (.ref b631)])) rfl (by rw [hml]; rfl) (Steps.refl _) (argsL := [(.ref x648)]) (rest := []) (lenOf own_pd13 rfl) rfl (by show 2 * 0 + _ ≤ _; exact Nat.le_of_eq rfl) (hb hby at_22) (fun _ _ => ⟨rfl, rfl, (by decide : 2 + 1 ≤ _), (by decide : 4 + 10 ≤ _)⟩)
    dsimp only [Pt.U, Pt.locs, Pt.cells, Pt.slots] at X654 l654 y654 z654 st654 hQ654
    subst l654 y654 z654
    obtain ⟨x660, x661, N654q, rfl, K654, q662, q663, q664, q665, q666, q667, q668, q669⟩ := hQ654
    have N670 := Fr.app N651 N654q
    refine own_tr st654 ?_
    have lt671 : b631 < T654.heap.size := Nat.lt_of_lt_of_le lt652 K654.1
    have lt672 : x648 < T654.heap.size := Nat.lt_of_lt_of_le q650.lt K654.1
    have Zs673 : n0 ≤ T654.heap.size := Nat.le_trans Zs653 K654.1
    have ne674 : b631 ≠ x660 := Nat.ne_of_lt (Nat.lt_of_lt_of_le lt652 q662)
    have ne675 : x648 ≠ x660 := Nat.ne_of_lt (Nat.lt_of_lt_of_le q650.lt q662)
    have g676 : n0 ≤ x660 := Nat.le_trans Zs653 q662
    show own_Go p e below s _ _ _ (T654.setTop (mkF m 25 #[.val (.int p1), .val (.int p2), .val (.int p3), .val (.int p4), .val (.int p5), .val (.int p6), .val (.int (2 : Int32)), .val (.ref b631), .unset, .unset, .unset] [(.int (1 : Int32))]))
    refine own_st (fun _ kQ => XT.pop X654.here hx rfl (hb hby at_25) rfl rfl kQ) ?_
    show own_Go p e below s _ _ _ (T654.setTop (mkF m 26 #[.val (.int p1), .val (.int p2), .val (.int p3), .val (.int p4), .val (.int p5), .val (.int p6), .val (.int (2 : Int32)), .val (.ref b631), .unset, .unset, .unset] []))
    refine own_st (fun _ kQ => XS.iload X654.here hx rfl (hb hby at_26) rfl kQ) ?_
    show own_Go p e below s _ _ _ (T654.setTop (mkF m 28 #[.val (.int p1), .val (.int p2), .val (.int p3), .val (.int p4), .val (.int p5), .val (.int p6), .val (.int (2 : Int32)), .val (.ref b631), .unset, .unset, .unset] [(.int (2 : Int32))]))
    refine own_st (fun _ kQ => XT.iconstV X654.here hx rfl (2 : Int32) (hb hby at_28) (by decide) kQ) ?_
    show own_Go p e below s _ _ _ (T654.setTop (mkF m 29 #[.val (.int p1), .val (.int p2), .val (.int p3), .val (.int p4), .val (.int p5), .val (.int p6), .val (.int (2 : Int32)), .val (.ref b631), .unset, .unset, .unset] [(.int (2 : Int32)), (.int (2 : Int32))]))
    refine own_st (fun _ kQ => XS.icmpNo X654.here hx rfl (hb hby at_29) rfl (XT.ii_lt_f (by decide)) kQ) ?_
    show own_Go p e below s _ _ _ (T654.setTop (mkF m 32 #[.val (.int p1), .val (.int p2), .val (.int p3), .val (.int p4), .val (.int p5), .val (.int p6), .val (.int (2 : Int32)), .val (.ref b631), .unset, .unset, .unset] []))
    refine own_st (fun _ kQ => XS.aload X654.here hx rfl (hb hby at_32) rfl rfl kQ) ?_
    show own_Go p e below s _ _ _ (T654.setTop (mkF m 34 #[.val (.int p1), .val (.int p2), .val (.int p3), .val (.int p4), .val (.int p5), .val (.int p6), .val (.int (2 : Int32)), .val (.ref b631), .unset, .unset, .unset] [(.ref b631)]))
    refine own_st (fun _ kQ => XS.iloadN X654.here hx rfl (hb hby at_34) rfl kQ) ?_
    show own_Go p e below s _ _ _ (T654.setTop (mkF m 35 #[.val (.int p1), .val (.int p2), .val (.int p3), .val (.int p4), .val (.int p5), .val (.int p6), .val (.int (2 : Int32)), .val (.ref b631), .unset, .unset, .unset] [(.int p3), (.ref b631)]))
    have O678 : Old Z n0 T654.heap := (O659.keep K654 (allS g633 all0))
    obtain ⟨_, _, ⟨T677, L677, k677, n677⟩, -, X677, ⟨Lc677, hQ677, l677, y677, z677⟩, st677⟩ := Jvm.LawKit.callS X654 hx (y := (⟨"java/lang/Integer", "valueOf", "(I)Ljava/lang/Integer;"⟩ : MethodName)) hown (mvT hZ (hw _ (List.mem_of_getElem? (i := 26) rfl))) (mvT hZ (hw _ (List.mem_of_getElem? (i := 27) rfl))) (mvT hZ (hw _ (List.mem_of_getElem? (i := 28) rfl))) (mvT hZ (hw _ (List.mem_of_getElem? (i := 29) rfl))) (by decide) (backOf (W := 1) (own_rm_valueOfI l Z a0 hw [] p3 a_cacheI T654.heap n0 Zs673 O678 S_cacheI BxI S_high) hZ (hw _ (List.mem_of_getElem? (i := 29) rfl)) (hw _ (List.mem_of_getElem? (i := 28) rfl)) (by decide) (by decide)) (g := (mkF m 35 #[.val (.int p1), .val (.int p2), .val (.int p3), .val (.int p4), .val (.int p5), .val (.int p6), .val (.int (2 : Int32)), .val (.ref b631), .unset, .unset, .unset] [(.int p3), (.ref b631)])) rfl (by rw [hml]; rfl) (argsL := [(.int p3)]) (rest := [(.ref b631)]) (lenOf own_pd12 rfl) rfl (by show 2 * 0 + _ ≤ _; exact Nat.le_of_eq rfl) (hb hby at_35) (fun _ _ => ⟨rfl, rfl, (by decide : 3 + 1 ≤ _), (by decide : 14 + 1 ≤ _)⟩)
    dsimp only [Pt.U, Pt.locs, Pt.cells, Pt.slots] at X677 l677 y677 z677 st677 hQ677
    subst l677 y677 z677
    obtain ⟨x679, N677q, rfl, K677, q680, q681⟩ := hQ677
    have N682 := Fr.app N670 N677q
    refine own_st st677 ?_
    have lt683 : b631 < T677.heap.size := Nat.lt_of_lt_of_le q666.lt K677.1
    have lt684 : x648 < T677.heap.size := Nat.lt_of_lt_of_le lt672 K677.1
    have lt685 : x660 < T677.heap.size := Nat.lt_of_lt_of_le q668.lt K677.1
    have Zs686 : n0 ≤ T677.heap.size := Nat.le_trans Zs673 K677.1
    obtain ⟨Lp687, Xp687, Np687⟩ : ∃ L, Stand p l e room_1 s m #[(.int p1), (.int p2), (.int p3), (.int p4), (.int p5), (.int p6)] below meth c T677 L 4 15 ∧ Fr n0 L := ⟨_, X677, N682⟩
    show own_Go p e below s _ _ _ (T677.setTop (mkF m 38 #[.val (.int p1), .val (.int p2), .val (.int p3), .val (.int p4), .val (.int p5), .val (.int p6), .val (.int (2 : Int32)), .val (.ref b631), .unset, .unset, .unset] [(.ref x679), (.ref b631)]))
    have F689 : Exa Z T677.heap b631 "java/util/ArrayList" := (q663.keep K677)
    have F690 : Fld Z T677.heap b631 "java/util/AbstractList" "modCount" "I" (.int ((0 : Int32) + (1 : Int32))) := (q664.keep K677 nin0)
    have F691 : Fld Z T677.heap b631 "java/util/ArrayList" "elementData" "[Ljava/lang/Object;" (.ref x660) := (q665.keep K677 nin0)
    have F692 : Fld Z T677.heap b631 "java/util/ArrayList" "size" "I" (.int (1 : Int32)) := (q666.keep K677 nin0)
    have F693 : Arv Z T677.heap x660 x661 (.object "java/lang/Object") (10 : Int32) [(.ref x648), .null, .null, .null, .null, .null, .null, .null, .null, .null] .null := (q668.keep K677 nin0)
    obtain ⟨cq688, kq688, q688a, q688b, q688c⟩ := isOf hZ rfl F689
    obtain ⟨_, _, ⟨T688, L688, k688, n688⟩, -, X688, ⟨Lc688, hQ688, l688, y688, z688⟩, st688⟩ := Xp687.virtualBack hx (y := (⟨"java/util/ArrayList", "add", "(Ljava/lang/Object;)Z"⟩ : MethodName)) (z := (⟨"java/util/ArrayList", "add", "(Ljava/lang/Object;)Z"⟩ : MethodName)) hown (mvT hZ (hw _ (List.mem_of_getElem? (i := 33) rfl))) (mvT hZ (hw _ (List.mem_of_getElem? (i := 34) rfl))) (notFace_of_selects (args := #[]) (mvT hZ (hw _ (List.mem_of_getElem? (i := 36) rfl)))) (mvT hZ (hw _ (List.mem_of_getElem? (i := 36) rfl))) (mvT hZ (hw _ (List.mem_of_getElem? (i := 35) rfl))) (by decide) (backOf (W := 0) (own_rm_add1_1 l Z a0 hw [] b631 x679 x660 x661 ((0 : Int32) + (1 : Int32)) x648 T677.heap n0 Zs686 F689 F690 F691 F692 F693 q669 g633 g676 ne674 q680) hZ (hw _ (List.mem_of_getElem? (i := 37) rfl)) (hw _ (List.mem_of_getElem? (i := 2) rfl)) (by decide) (by decide)) q688a q688c (g := (mkF m 38 #[.val (.int p1), .val (.int p2), .val (.int p3), .val (.int p4), .val (.int p5), .val (.int p6), .val (.int (2 : Int32)), .val (.ref b631), .unset, .unset, .unset] [(.ref x679), (.ref b631)])) rfl (by rw [hml]; rfl) (Steps.refl _) (argsL := [(.ref x679)]) (rest := []) (lenOf own_pd13 rfl) rfl (by show 2 * 0 + _ ≤ _; exact Nat.le_of_eq rfl) (hb hby at_38) (fun _ _ => ⟨rfl, rfl, (by decide : 4 + 0 ≤ _), (by decide : 15 + 0 ≤ _)⟩)
    dsimp only [Pt.U, Pt.locs, Pt.cells, Pt.slots] at X688 l688 y688 z688 st688 hQ688
    subst l688 y688 z688
    obtain ⟨N688q, rfl, K688, q694, q695, q696, q697, q698⟩ := hQ688
    have N699 := Fr.app Np687 N688q
    refine own_tr st688 ?_
    have lt700 : b631 < T688.heap.size := Nat.lt_of_lt_of_le lt683 K688.1
    have lt701 : x648 < T688.heap.size := Nat.lt_of_lt_of_le lt684 K688.1
    have lt702 : x660 < T688.heap.size := Nat.lt_of_lt_of_le lt685 K688.1
    have lt703 : x679 < T688.heap.size := Nat.lt_of_lt_of_le q681.lt K688.1
    have Zs704 : n0 ≤ T688.heap.size := Nat.le_trans Zs686 K688.1
    show own_Go p e below s _ _ _ (T688.setTop (mkF m 41 #[.val (.int p1), .val (.int p2), .val (.int p3), .val (.int p4), .val (.int p5), .val (.int p6), .val (.int (2 : Int32)), .val (.ref b631), .unset, .unset, .unset] [(.int (1 : Int32))]))
    refine own_st (fun _ kQ => XT.pop X688.here hx rfl (hb hby at_41) rfl rfl kQ) ?_
    show own_Go p e below s _ _ _ (T688.setTop (mkF m 42 #[.val (.int p1), .val (.int p2), .val (.int p3), .val (.int p4), .val (.int p5), .val (.int p6), .val (.int (2 : Int32)), .val (.ref b631), .unset, .unset, .unset] []))
    refine own_st (fun _ kQ => XS.iload X688.here hx rfl (hb hby at_42) rfl kQ) ?_
    show own_Go p e below s _ _ _ (T688.setTop (mkF m 44 #[.val (.int p1), .val (.int p2), .val (.int p3), .val (.int p4), .val (.int p5), .val (.int p6), .val (.int (2 : Int32)), .val (.ref b631), .unset, .unset, .unset] [(.int (2 : Int32))]))
    refine own_st (fun _ kQ => XT.iconstV X688.here hx rfl (3 : Int32) (hb hby at_44) (by decide) kQ) ?_
    show own_Go p e below s _ _ _ (T688.setTop (mkF m 45 #[.val (.int p1), .val (.int p2), .val (.int p3), .val (.int p4), .val (.int p5), .val (.int p6), .val (.int (2 : Int32)), .val (.ref b631), .unset, .unset, .unset] [(.int (3 : Int32)), (.int (2 : Int32))]))
    refine own_st (fun _ kQ => XS.icmpYes X688.here hx rfl (pc0 := 45) (pc' := 58) rfl (hb hby at_45) rfl (XT.ii_lt_t (by decide)) (by decide) (by decide) kQ) ?_
    show own_Go p e below s _ _ _ (T688.setTop (mkF m 58 #[.val (.int p1), .val (.int p2), .val (.int p3), .val (.int p4), .val (.int p5), .val (.int p6), .val (.int (2 : Int32)), .val (.ref b631), .unset, .unset, .unset] []))
    refine own_st (fun _ kQ => XS.iload X688.here hx rfl (hb hby at_58) rfl kQ) ?_
    show own_Go p e below s _ _ _ (T688.setTop (mkF m 60 #[.val (.int p1), .val (.int p2), .val (.int p3), .val (.int p4), .val (.int p5), .val (.int p6), .val (.int (2 : Int32)), .val (.ref b631), .unset, .unset, .unset] [(.int (2 : Int32))]))
    refine own_st (fun _ kQ => XT.iconstV X688.here hx rfl (4 : Int32) (hb hby at_60) (by decide) kQ) ?_
    show own_Go p e below s _ _ _ (T688.setTop (mkF m 61 #[.val (.int p1), .val (.int p2), .val (.int p3), .val (.int p4), .val (.int p5), .val (.int p6), .val (.int (2 : Int32)), .val (.ref b631), .unset, .unset, .unset] [(.int (4 : Int32)), (.int (2 : Int32))]))
    refine own_st (fun _ kQ => XS.icmpYes X688.here hx rfl (pc0 := 61) (pc' := 75) rfl (hb hby at_61) rfl (XT.ii_lt_t (by decide)) (by decide) (by decide) kQ) ?_
    show own_Go p e below s _ _ _ (T688.setTop (mkF m 75 #[.val (.int p1), .val (.int p2), .val (.int p3), .val (.int p4), .val (.int p5), .val (.int p6), .val (.int (2 : Int32)), .val (.ref b631), .unset, .unset, .unset] []))
    refine own_st (fun _ kQ => XS.iload X688.here hx rfl (hb hby at_75) rfl kQ) ?_
    show own_Go p e below s _ _ _ (T688.setTop (mkF m 77 #[.val (.int p1), .val (.int p2), .val (.int p3), .val (.int p4), .val (.int p5), .val (.int p6), .val (.int (2 : Int32)), .val (.ref b631), .unset, .unset, .unset] [(.int (2 : Int32))]))
    refine own_st (fun _ kQ => XT.iconstV X688.here hx rfl (1 : Int32) (hb hby at_77) (by decide) kQ) ?_
    show own_Go p e below s _ _ _ (T688.setTop (mkF m 78 #[.val (.int p1), .val (.int p2), .val (.int p3), .val (.int p4), .val (.int p5), .val (.int p6), .val (.int (2 : Int32)), .val (.ref b631), .unset, .unset, .unset] [(.int (1 : Int32)), (.int (2 : Int32))]))
    refine own_st (fun _ kQ => XS.icmpYes X688.here hx rfl (pc0 := 78) (pc' := 87) rfl (hb hby at_78) rfl (XT.ii_ne_t (by decide)) (by decide) (by decide) kQ) ?_
    show own_Go p e below s _ _ _ (T688.setTop (mkF m 87 #[.val (.int p1), .val (.int p2), .val (.int p3), .val (.int p4), .val (.int p5), .val (.int p6), .val (.int (2 : Int32)), .val (.ref b631), .unset, .unset, .unset] []))
    refine own_st (fun _ kQ => XS.iload X688.here hx rfl (hb hby at_87) rfl kQ) ?_
    show own_Go p e below s _ _ _ (T688.setTop (mkF m 89 #[.val (.int p1), .val (.int p2), .val (.int p3), .val (.int p4), .val (.int p5), .val (.int p6), .val (.int (2 : Int32)), .val (.ref b631), .unset, .unset, .unset] [(.int (2 : Int32))]))
    refine own_st (fun _ kQ => XT.iconstV X688.here hx rfl (2 : Int32) (hb hby at_89) (by decide) kQ) ?_
    show own_Go p e below s _ _ _ (T688.setTop (mkF m 90 #[.val (.int p1), .val (.int p2), .val (.int p3), .val (.int p4), .val (.int p5), .val (.int p6), .val (.int (2 : Int32)), .val (.ref b631), .unset, .unset, .unset] [(.int (2 : Int32)), (.int (2 : Int32))]))
    refine own_st (fun _ kQ => XS.icmpNo X688.here hx rfl (hb hby at_90) rfl (XT.ii_ne_f rfl) kQ) ?_
    show own_Go p e below s _ _ _ (T688.setTop (mkF m 93 #[.val (.int p1), .val (.int p2), .val (.int p3), .val (.int p4), .val (.int p5), .val (.int p6), .val (.int (2 : Int32)), .val (.ref b631), .unset, .unset, .unset] []))
    refine own_st (fun _ kQ => XS.iloadN X688.here hx rfl (hb hby at_93) rfl kQ) ?_
    show own_Go p e below s _ _ _ (T688.setTop (mkF m 94 #[.val (.int p1), .val (.int p2), .val (.int p3), .val (.int p4), .val (.int p5), .val (.int p6), .val (.int (2 : Int32)), .val (.ref b631), .unset, .unset, .unset] [(.int p3)]))
    refine own_st (fun _ kQ => XS.istore X688.here hx rfl (hb hby at_94) rfl (l' := #[.val (.int p1), .val (.int p2), .val (.int p3), .val (.int p4), .val (.int p5), .val (.int p6), .val (.int (2 : Int32)), .val (.ref b631), .val (.int p3), .unset, .unset]) rfl kQ) ?_
    show own_Go p e below s _ _ _ (T688.setTop (mkF m 96 #[.val (.int p1), .val (.int p2), .val (.int p3), .val (.int p4), .val (.int p5), .val (.int p6), .val (.int (2 : Int32)), .val (.ref b631), .val (.int p3), .unset, .unset] []))
    refine own_st (fun _ kQ => XS.goto X688.here hx rfl (pc0 := 96) (pc' := 115) rfl (hb hby at_96) (by decide) (by decide) kQ) ?_
    show own_Go p e below s _ _ _ (T688.setTop (mkF m 115 #[.val (.int p1), .val (.int p2), .val (.int p3), .val (.int p4), .val (.int p5), .val (.int p6), .val (.int (2 : Int32)), .val (.ref b631), .val (.int p3), .unset, .unset] []))
    obtain ⟨T705, h705, X705, e705, E705, A705, D705, -, st705⟩ := newO X688 hx hZ hown (hw _ (List.mem_of_getElem? (i := 64) rfl)) (hw _ (List.mem_of_getElem? (i := 65) rfl)) (hw _ (List.mem_of_getElem? (i := 66) rfl)) rfl (g := (mkF m 115 #[.val (.int p1), .val (.int p2), .val (.int p3), .val (.int p4), .val (.int p5), .val (.int p6), .val (.int (2 : Int32)), .val (.ref b631), .val (.int p3), .unset, .unset] [])) rfl (hb hby at_115) (by decide) (by decide)
    obtain ⟨b705, g705⟩ : ∃ z, z = T688.heap.size := ⟨_, rfl⟩
    rw [← g705] at A705 D705 st705
    refine own_st st705 ?_
    have lt706 : b631 < h705.size := Nat.lt_of_lt_of_le q697.lt E705.1
    have lt707 : x648 < h705.size := Nat.lt_of_lt_of_le lt701 E705.1
    have lt708 : x660 < h705.size := Nat.lt_of_lt_of_le q698.lt E705.1
    have lt709 : x679 < h705.size := Nat.lt_of_lt_of_le lt703 E705.1
    have Zs710 : n0 ≤ h705.size := Nat.le_trans Zs704 E705.1
    have ne711 : b631 ≠ b705 := Nat.ne_of_lt (Nat.lt_of_lt_of_le q697.lt (Nat.le_of_eq g705.symm))
    have ne712 : x648 ≠ b705 := Nat.ne_of_lt (Nat.lt_of_lt_of_le lt701 (Nat.le_of_eq g705.symm))
    have ne713 : x660 ≠ b705 := Nat.ne_of_lt (Nat.lt_of_lt_of_le q698.lt (Nat.le_of_eq g705.symm))
    have ne714 : x679 ≠ b705 := Nat.ne_of_lt (Nat.lt_of_lt_of_le lt703 (Nat.le_of_eq g705.symm))
    have g715 : n0 ≤ b705 := Nat.le_trans Zs704 (Nat.le_of_eq g705.symm)
    have F716 : Fld Z h705 b705 "com/example/rationed_session/rationedsession/model/Partition" "number" "I" (.int (0 : Int32)) := D705 (Or.inr (hw _ (List.mem_of_getElem? (i := 72) rfl))) (ty := .int) (by decide)
    have F717 : Fld Z h705 b705 "com/example/rationed_session/rationedsession/model/Partition" "firstIndex" "I" (.int (0 : Int32)) := D705 (Or.inr (hw _ (List.mem_of_getElem? (i := 74) rfl))) (ty := .int) (by decide)
    have F718 : Fld Z h705 b705 "com/example/rationed_session/rationedsession/model/Partition" "inputs" "Ljava/util/List;" .null := D705 (Or.inr (hw _ (List.mem_of_getElem? (i := 119) rfl))) (ty := (.object "java/util/List")) (by decide)
    show own_Go p e below s _ _ _ (T705.setTop (mkF m 118 #[.val (.int p1), .val (.int p2), .val (.int p3), .val (.int p4), .val (.int p5), .val (.int p6), .val (.int (2 : Int32)), .val (.ref b631), .val (.int p3), .unset, .unset] [(.ref b705)]))
    refine own_st (fun _ kQ => XS.dup X705.here hx rfl (hb hby at_118) rfl rfl kQ) ?_
    show own_Go p e below s _ _ _ (T705.setTop (mkF m 119 #[.val (.int p1), .val (.int p2), .val (.int p3), .val (.int p4), .val (.int p5), .val (.int p6), .val (.int (2 : Int32)), .val (.ref b631), .val (.int p3), .unset, .unset] [(.ref b705), (.ref b705)]))
    refine own_st (fun _ kQ => XS.iload X705.here hx rfl (hb hby at_119) rfl kQ) ?_
    show own_Go p e below s _ _ _ (T705.setTop (mkF m 121 #[.val (.int p1), .val (.int p2), .val (.int p3), .val (.int p4), .val (.int p5), .val (.int p6), .val (.int (2 : Int32)), .val (.ref b631), .val (.int p3), .unset, .unset] [(.int p6), (.ref b705), (.ref b705)]))
    refine own_st (fun _ kQ => XS.iloadN X705.here hx rfl (hb hby at_121) rfl kQ) ?_
    show own_Go p e below s _ _ _ (T705.setTop (mkF m 122 #[.val (.int p1), .val (.int p2), .val (.int p3), .val (.int p4), .val (.int p5), .val (.int p6), .val (.int (2 : Int32)), .val (.ref b631), .val (.int p3), .unset, .unset] [(.int p2), (.int p6), (.ref b705), (.ref b705)]))
    refine own_st (fun _ kQ => XS.aload X705.here hx rfl (hb hby at_122) rfl rfl kQ) ?_
    show own_Go p e below s _ _ _ (T705.setTop (mkF m 124 #[.val (.int p1), .val (.int p2), .val (.int p3), .val (.int p4), .val (.int p5), .val (.int p6), .val (.int (2 : Int32)), .val (.ref b631), .val (.int p3), .unset, .unset] [(.ref b631), (.int p2), (.int p6), (.ref b705), (.ref b705)]))
    have F720 : Exa Z h705 b631 "java/util/ArrayList" := (q694.ext E705)
    obtain ⟨_, _, ⟨T719, L719, k719, n719⟩, -, X719, ⟨Lc719, hQ719, l719, y719, z719⟩, st719⟩ := X705.specialBack hx (y := (⟨"com/example/rationed_session/rationedsession/model/Partition", "<init>", "(IILjava/util/List;)V"⟩ : MethodName)) rfl hown (mvT hZ (hw _ (List.mem_of_getElem? (i := 67) rfl))) (mvT hZ (hw _ (List.mem_of_getElem? (i := 68) rfl))) (mvT hZ (hw _ (List.mem_of_getElem? (i := 69) rfl))) (by decide) (backOf (W := 1) (own_rm_pinitU l Z a0 hw [] b705 p6 p2 b631 mA mL mR h705 n0 Zs710 M_AL M_UL M_UR h1 h2 A705 F720 F716 F717 F718 g715) hZ (hw _ (List.mem_of_getElem? (i := 69) rfl)) (hw _ (List.mem_of_getElem? (i := 66) rfl)) (by decide) (by decide)) (g := (mkF m 124 #[.val (.int p1), .val (.int p2), .val (.int p3), .val (.int p4), .val (.int p5), .val (.int p6), .val (.int (2 : Int32)), .val (.ref b631), .val (.int p3), .unset, .unset] [(.ref b631), (.int p2), (.int p6), (.ref b705), (.ref b705)])) rfl (by rw [hml]; rfl) (Steps.refl _) (a := b705) (argsL := [(.int p6), (.int p2), (.ref b631)]) (rest := [(.ref b705)]) (lenOf own_pd14 rfl) rfl (by show 2 * 0 + _ ≤ _; exact Nat.le_of_eq rfl) (hb hby at_124) (fun _ _ => ⟨rfl, e705, (by decide : 5 + 1 ≤ _), (by decide : 18 + 2 ≤ _)⟩)
    dsimp only [Pt.U, Pt.locs, Pt.cells, Pt.slots] at X719 l719 y719 z719 st719 hQ719
    subst l719 y719 z719
    obtain ⟨x721, N719q, rfl, K719, q722, q723, q724, q725, q726, q727, q728, q729⟩ := hQ719
    have N730 := Fr.app N699 N719q
    refine own_tr st719 ?_
    have lt731 : b631 < T719.heap.size := Nat.lt_of_lt_of_le lt706 K719.1
    have lt732 : x648 < T719.heap.size := Nat.lt_of_lt_of_le lt707 K719.1
    have lt733 : x660 < T719.heap.size := Nat.lt_of_lt_of_le lt708 K719.1
    have lt734 : x679 < T719.heap.size := Nat.lt_of_lt_of_le lt709 K719.1
    have lt735 : b705 < T719.heap.size := Nat.lt_of_lt_of_le A705.lt K719.1
    have Zs736 : n0 ≤ T719.heap.size := Nat.le_trans Zs710 K719.1
    have ne737 : b631 ≠ x721 := Nat.ne_of_lt (Nat.lt_of_lt_of_le lt706 q726)
    have ne738 : x648 ≠ x721 := Nat.ne_of_lt (Nat.lt_of_lt_of_le lt707 q726)
    have ne739 : x660 ≠ x721 := Nat.ne_of_lt (Nat.lt_of_lt_of_le lt708 q726)
    have ne740 : x679 ≠ x721 := Nat.ne_of_lt (Nat.lt_of_lt_of_le lt709 q726)
    have ne741 : b705 ≠ x721 := Nat.ne_of_lt (Nat.lt_of_lt_of_le A705.lt q726)
    have g742 : n0 ≤ x721 := Nat.le_trans Zs710 q726
    show own_Go p e below s _ _ _ (T719.setTop (mkF m 127 #[.val (.int p1), .val (.int p2), .val (.int p3), .val (.int p4), .val (.int p5), .val (.int p6), .val (.int (2 : Int32)), .val (.ref b631), .val (.int p3), .unset, .unset] [(.ref b705)]))
    refine own_st (fun _ kQ => XS.astore X719.here hx rfl (hb hby at_127) rfl rfl (l' := #[.val (.int p1), .val (.int p2), .val (.int p3), .val (.int p4), .val (.int p5), .val (.int p6), .val (.int (2 : Int32)), .val (.ref b631), .val (.int p3), .val (.ref b705), .unset]) rfl kQ) ?_
    show own_Go p e below s _ _ _ (T719.setTop (mkF m 129 #[.val (.int p1), .val (.int p2), .val (.int p3), .val (.int p4), .val (.int p5), .val (.int p6), .val (.int (2 : Int32)), .val (.ref b631), .val (.int p3), .val (.ref b705), .unset] []))
    refine own_st (fun _ kQ => XS.aload X719.here hx rfl (hb hby at_129) rfl rfl kQ) ?_
    show own_Go p e below s _ _ _ (T719.setTop (mkF m 131 #[.val (.int p1), .val (.int p2), .val (.int p3), .val (.int p4), .val (.int p5), .val (.int p6), .val (.int (2 : Int32)), .val (.ref b631), .val (.int p3), .val (.ref b705), .unset] [(.ref b705)]))
    have F744 : Exa Z T719.heap b631 "java/util/ArrayList" := (F720.keep K719)
    have F745 : Fld Z T719.heap b631 "java/util/ArrayList" "elementData" "[Ljava/lang/Object;" (.ref x660) := ((q696.ext E705).keep K719 (ninS ne711 nin0))
    have F746 : Fld Z T719.heap b631 "java/util/ArrayList" "size" "I" (.int (2 : Int32)) := ((q697.ext E705).keep K719 (ninS ne711 nin0))
    have F747 : Arv Z T719.heap x660 x661 (.object "java/lang/Object") (10 : Int32) [(.ref x648), (.ref x679), .null, .null, .null, .null, .null, .null, .null, .null] .null := ((q698.ext E705).keep K719 (ninS ne713 nin0))
    obtain ⟨cq743, kq743, q743a, q743b, q743c⟩ := isOf hZ rfl q722
    obtain ⟨_, _, ⟨T743, L743, k743, n743⟩, -, X743, ⟨Lc743, hQ743, l743, y743, z743⟩, st743⟩ := X719.virtualBack hx (y := (⟨"com/example/rationed_session/rationedsession/model/Partition", "last", "()Ljava/lang/Object;"⟩ : MethodName)) (z := (⟨"com/example/rationed_session/rationedsession/model/Partition", "last", "()Ljava/lang/Object;"⟩ : MethodName)) hown (mvT hZ (hw _ (List.mem_of_getElem? (i := 120) rfl))) (mvT hZ (hw _ (List.mem_of_getElem? (i := 121) rfl))) (notFace_of_selects (args := #[]) (mvT hZ (hw _ (List.mem_of_getElem? (i := 123) rfl)))) (mvT hZ (hw _ (List.mem_of_getElem? (i := 123) rfl))) (mvT hZ (hw _ (List.mem_of_getElem? (i := 122) rfl))) (by decide) (backOf (W := 0) (own_rm_lastU2 l Z a0 hw [] x721 b705 b631 x660 x661 x648 x679 T719.heap n0 Zs736 q725 q727 q728 q729 F744 F745 F746 F747) hZ (hw _ (List.mem_of_getElem? (i := 124) rfl)) (hw _ (List.mem_of_getElem? (i := 66) rfl)) (by decide) (by decide)) q743a q743c (g := (mkF m 131 #[.val (.int p1), .val (.int p2), .val (.int p3), .val (.int p4), .val (.int p5), .val (.int p6), .val (.int (2 : Int32)), .val (.ref b631), .val (.int p3), .val (.ref b705), .unset] [(.ref b705)])) rfl (by rw [hml]; rfl) (Steps.refl _) (argsL := []) (rest := []) (lenOf own_pd15 rfl) rfl (by show 2 * 0 + _ ≤ _; exact Nat.le_of_eq rfl) (hb hby at_131) (fun _ _ => ⟨rfl, rfl, (by decide : 6 + 0 ≤ _), (by decide : 20 + 0 ≤ _)⟩)
    dsimp only [Pt.U, Pt.locs, Pt.cells, Pt.slots] at X743 l743 y743 z743 st743 hQ743
    subst l743 y743 z743
    obtain ⟨N743q, rfl, eh743⟩ := hQ743
    have N748 := Fr.app N730 N743q
    refine own_tr st743 ?_
    show own_Go p e below s _ _ _ (T743.setTop (mkF m 134 #[.val (.int p1), .val (.int p2), .val (.int p3), .val (.int p4), .val (.int p5), .val (.int p6), .val (.int (2 : Int32)), .val (.ref b631), .val (.int p3), .val (.ref b705), .unset] [(.ref x679)]))
    have F750 : Exa Z T719.heap x679 "java/lang/Integer" := (((q680.keep K688).ext E705).keep K719)
    obtain ⟨T749, X749, e749, st749⟩ := castY X743 hx hZ hown (hw _ (List.mem_of_getElem? (i := 170) rfl)) eh743 (Ins.self F750) (g := (mkF m 134 #[.val (.int p1), .val (.int p2), .val (.int p3), .val (.int p4), .val (.int p5), .val (.int p6), .val (.int (2 : Int32)), .val (.ref b631), .val (.int p3), .val (.ref b705), .unset] [(.ref x679)])) rfl rfl (hb hby at_134)
    refine own_st st749 ?_
    show own_Go p e below s _ _ _ (T749.setTop (mkF m 137 #[.val (.int p1), .val (.int p2), .val (.int p3), .val (.int p4), .val (.int p5), .val (.int p6), .val (.int (2 : Int32)), .val (.ref b631), .val (.int p3), .val (.ref b705), .unset] [(.ref x679)]))
    refine own_st (fun _ kQ => XS.astore X749.here hx rfl (hb hby at_137) rfl rfl (l' := #[.val (.int p1), .val (.int p2), .val (.int p3), .val (.int p4), .val (.int p5), .val (.int p6), .val (.int (2 : Int32)), .val (.ref b631), .val (.int p3), .val (.ref b705), .val (.ref x679)]) rfl kQ) ?_
    show own_Go p e below s _ _ _ (T749.setTop (mkF m 139 #[.val (.int p1), .val (.int p2), .val (.int p3), .val (.int p4), .val (.int p5), .val (.int p6), .val (.int (2 : Int32)), .val (.ref b631), .val (.int p3), .val (.ref b705), .val (.ref x679)] []))
    refine own_st (fun _ kQ => XS.aload X749.here hx rfl (hb hby at_139) rfl rfl kQ) ?_
    show own_Go p e below s _ _ _ (T749.setTop (mkF m 141 #[.val (.int p1), .val (.int p2), .val (.int p3), .val (.int p4), .val (.int p5), .val (.int p6), .val (.int (2 : Int32)), .val (.ref b631), .val (.int p3), .val (.ref b705), .val (.ref x679)] [(.ref x679)]))
    refine own_st (fun _ kQ => XS.ifnullNo X749.here hx rfl (hb hby at_141) rfl kQ) ?_
    show own_Go p e below s _ _ _ (T749.setTop (mkF m 144 #[.val (.int p1), .val (.int p2), .val (.int p3), .val (.int p4), .val (.int p5), .val (.int p6), .val (.int (2 : Int32)), .val (.ref b631), .val (.int p3), .val (.ref b705), .val (.ref x679)] []))
    refine own_st (fun _ kQ => XS.aload X749.here hx rfl (hb hby at_144) rfl rfl kQ) ?_
    show own_Go p e below s _ _ _ (T749.setTop (mkF m 146 #[.val (.int p1), .val (.int p2), .val (.int p3), .val (.int p4), .val (.int p5), .val (.int p6), .val (.int (2 : Int32)), .val (.ref b631), .val (.int p3), .val (.ref b705), .val (.ref x679)] [(.ref x679)]))
    have F752 : Exa Z T719.heap x660 "[Ljava/lang/Object;" := ((((q667.keep K677).keep K688).ext E705).keep K719)
    have ne753 : x679 ≠ x660 := ne_exa F750 F752 (by decide)
    have ne754 : x679 ≠ b631 := ne_exa F750 F744 (by decide)
    have F755 : Fld Z T719.heap x679 "java/lang/Integer" "value" "I" (.int p3) := (((q681.keep K688 (ninS ne754 (ninS ne753 nin0))).ext E705).keep K719 (ninS ne714 nin0))
    obtain ⟨cq751, kq751, q751a, q751b, q751c⟩ := isOf hZ e749 F750
    obtain ⟨_, _, ⟨T751, L751, k751, n751⟩, -, X751, ⟨Lc751, hQ751, l751, y751, z751⟩, st751⟩ := X749.virtualBack hx (y := (⟨"java/lang/Integer", "intValue", "()I"⟩ : MethodName)) (z := (⟨"java/lang/Integer", "intValue", "()I"⟩ : MethodName)) hown (mvT hZ (hw _ (List.mem_of_getElem? (i := 172) rfl))) (mvT hZ (hw _ (List.mem_of_getElem? (i := 173) rfl))) (notFace_of_selects (args := #[]) (mvT hZ (hw _ (List.mem_of_getElem? (i := 175) rfl)))) (mvT hZ (hw _ (List.mem_of_getElem? (i := 175) rfl))) (mvT hZ (hw _ (List.mem_of_getElem? (i := 174) rfl))) (by decide) (backOf (W := 0) (own_rm_iv l Z a0 hw [] x679 p3 T719.heap n0 Zs736 F755) hZ (hw _ (List.mem_of_getElem? (i := 176) rfl)) (hw _ (List.mem_of_getElem? (i := 28) rfl)) (by decide) (by decide)) q751a q751c (g := (mkF m 146 #[.val (.int p1), .val (.int p2), .val (.int p3), .val (.int p4), .val (.int p5), .val (.int p6), .val (.int (2 : Int32)), .val (.ref b631), .val (.int p3), .val (.ref b705), .val (.ref x679)] [(.ref x679)])) rfl (by rw [hml]; rfl) (Steps.refl _) (argsL := []) (rest := []) (lenOf own_pd6 rfl) rfl (by show 2 * 0 + _ ≤ _; exact Nat.le_of_eq rfl) (hb hby at_146) (fun _ _ => ⟨rfl, e749, (by decide : 6 + 0 ≤ _), (by decide : 20 + 0 ≤ _)⟩)
    dsimp only [Pt.U, Pt.locs, Pt.cells, Pt.slots] at X751 l751 y751 z751 st751 hQ751
    subst l751 y751 z751
    obtain ⟨N751q, rfl, eh751⟩ := hQ751
    have N756 := Fr.app N748 N751q
    refine own_tr st751 ?_
    obtain ⟨Lp757, Xp757, Np757⟩ : ∃ L, Stand p l e room_1 s m #[(.int p1), (.int p2), (.int p3), (.int p4), (.int p5), (.int p6)] below meth c T751 L 6 20 ∧ Fr n0 L := ⟨_, X751, N756⟩
    show own_Go p e below s _ _ _ (T751.setTop (mkF m 149 #[.val (.int p1), .val (.int p2), .val (.int p3), .val (.int p4), .val (.int p5), .val (.int p6), .val (.int (2 : Int32)), .val (.ref b631), .val (.int p3), .val (.ref b705), .val (.ref x679)] [(.int p3)]))
    refine own_st (fun _ kQ => XS.iload Xp757.here hx rfl (hb hby at_149) rfl kQ) ?_
    show own_Go p e below s _ _ _ (T751.setTop (mkF m 151 #[.val (.int p1), .val (.int p2), .val (.int p3), .val (.int p4), .val (.int p5), .val (.int p6), .val (.int (2 : Int32)), .val (.ref b631), .val (.int p3), .val (.ref b705), .val (.ref x679)] [(.int p3), (.int p3)]))
    refine own_st (fun _ kQ => XS.icmpNo Xp757.here hx rfl (hb hby at_151) rfl (XT.ii_ne_f rfl) kQ) ?_
    show own_Go p e below s _ _ _ (T751.setTop (mkF m 154 #[.val (.int p1), .val (.int p2), .val (.int p3), .val (.int p4), .val (.int p5), .val (.int p6), .val (.int (2 : Int32)), .val (.ref b631), .val (.int p3), .val (.ref b705), .val (.ref x679)] []))
    refine own_st (fun _ kQ => XT.iconstV Xp757.here hx rfl (1 : Int32) (hb hby at_154) (by decide) kQ) ?_
    show own_Go p e below s _ _ _ (T751.setTop (mkF m 155 #[.val (.int p1), .val (.int p2), .val (.int p3), .val (.int p4), .val (.int p5), .val (.int p6), .val (.int (2 : Int32)), .val (.ref b631), .val (.int p3), .val (.ref b705), .val (.ref x679)] [(.int (1 : Int32))]))
    refine own_st (fun _ kQ => XS.goto Xp757.here hx rfl (pc0 := 155) (pc' := 159) rfl (hb hby at_155) (by decide) (by decide) kQ) ?_
    show own_Go p e below s _ _ _ (T751.setTop (mkF m 159 #[.val (.int p1), .val (.int p2), .val (.int p3), .val (.int p4), .val (.int p5), .val (.int p6), .val (.int (2 : Int32)), .val (.ref b631), .val (.int p3), .val (.ref b705), .val (.ref x679)] [(.int (1 : Int32))]))
    refine own_retN Xp757 hx hlk Bd.returns (t := .boolean) (z' := (1 : Int32)) (by simp) (by decide) (hb hby at_159) (by decide) (by decide) ?_
    rw [eh751]
    exact ⟨Np757, rfl⟩
  · rw [hi]
    show own_Go p e below s _ _ _ (s₁.setTop (mkF m 3 #[.val (.int p1), .val (.int p2), .val (.int p3), .val (.int p4), .val (.int p5), .val (.int p6), .unset, .unset, .unset, .unset, .unset] [(.int (2 : Int32))]))
    refine own_st (fun _ kQ => XT.iconstV X0.here hx rfl (1 : Int32) (hb hby at_3) (by decide) kQ) ?_
    show own_Go p e below s _ _ _ (s₁.setTop (mkF m 4 #[.val (.int p1), .val (.int p2), .val (.int p3), .val (.int p4), .val (.int p5), .val (.int p6), .unset, .unset, .unset, .unset, .unset] [(.int (1 : Int32)), (.int (2 : Int32))]))
    refine own_st (fun _ kQ => XS.iadd X0.here hx rfl (hb hby at_4) rfl kQ) ?_
    show own_Go p e below s _ _ _ (s₁.setTop (mkF m 5 #[.val (.int p1), .val (.int p2), .val (.int p3), .val (.int p4), .val (.int p5), .val (.int p6), .unset, .unset, .unset, .unset, .unset] [(.int (3 : Int32))]))
    refine own_st (fun _ kQ => XS.istore X0.here hx rfl (hb hby at_5) rfl (l' := #[.val (.int p1), .val (.int p2), .val (.int p3), .val (.int p4), .val (.int p5), .val (.int p6), .val (.int (3 : Int32)), .unset, .unset, .unset, .unset]) rfl kQ) ?_
    show own_Go p e below s _ _ _ (s₁.setTop (mkF m 7 #[.val (.int p1), .val (.int p2), .val (.int p3), .val (.int p4), .val (.int p5), .val (.int p6), .val (.int (3 : Int32)), .unset, .unset, .unset, .unset] []))
    obtain ⟨T758, h758, X758, e758, E758, A758, D758, -, st758⟩ := newO X0 hx hZ hown (hw _ (List.mem_of_getElem? (i := 0) rfl)) (hw _ (List.mem_of_getElem? (i := 1) rfl)) (hw _ (List.mem_of_getElem? (i := 2) rfl)) e0 (g := (mkF m 7 #[.val (.int p1), .val (.int p2), .val (.int p3), .val (.int p4), .val (.int p5), .val (.int p6), .val (.int (3 : Int32)), .unset, .unset, .unset, .unset] [])) rfl (hb hby at_7) (by decide) (by decide)
    obtain ⟨b758, g758⟩ : ∃ z, z = h0.size := ⟨_, rfl⟩
    rw [← g758] at A758 D758 st758
    refine own_st st758 ?_
    have Zs759 : n0 ≤ h758.size := Nat.le_trans Z0 E758.1
    have g760 : n0 ≤ b758 := Nat.le_trans Z0 (Nat.le_of_eq g758.symm)
    have F761 : Fld Z h758 b758 "java/util/AbstractList" "modCount" "I" (.int (0 : Int32)) := D758 (Or.inl (hw _ (List.mem_of_getElem? (i := 22) rfl))) (ty := .int) (by decide)
    have F762 : Fld Z h758 b758 "java/util/ArrayList" "elementData" "[Ljava/lang/Object;" .null := D758 (Or.inl (hw _ (List.mem_of_getElem? (i := 25) rfl))) (ty := (.array (.object "java/lang/Object"))) (by decide)
    have F763 : Fld Z h758 b758 "java/util/ArrayList" "size" "I" (.int (0 : Int32)) := D758 (Or.inl (hw _ (List.mem_of_getElem? (i := 41) rfl))) (ty := .int) (by decide)
    show own_Go p e below s _ _ _ (T758.setTop (mkF m 10 #[.val (.int p1), .val (.int p2), .val (.int p3), .val (.int p4), .val (.int p5), .val (.int p6), .val (.int (3 : Int32)), .unset, .unset, .unset, .unset] [(.ref b758)]))
    refine own_st (fun _ kQ => XS.dup X758.here hx rfl (hb hby at_10) rfl rfl kQ) ?_
    show own_Go p e below s _ _ _ (T758.setTop (mkF m 11 #[.val (.int p1), .val (.int p2), .val (.int p3), .val (.int p4), .val (.int p5), .val (.int p6), .val (.int (3 : Int32)), .unset, .unset, .unset, .unset] [(.ref b758), (.ref b758)]))
    have O765 : Old Z n0 h758 := (O0.ext E758)
    obtain ⟨_, _, ⟨T764, L764, k764, n764⟩, -, X764, ⟨Lc764, hQ764, l764, y764, z764⟩, st764⟩ := X758.specialBack hx (y := (⟨"java/util/ArrayList", "<init>", "()V"⟩ : MethodName)) rfl hown (mvT hZ (hw _ (List.mem_of_getElem? (i := 3) rfl))) (mvT hZ (hw _ (List.mem_of_getElem? (i := 4) rfl))) (mvT hZ (hw _ (List.mem_of_getElem? (i := 5) rfl))) (by decide) (backOf (W := 1) (own_rm_alinit l Z a0 hw [] b758 dflt kd h758 n0 Zs759 O765 S_es V_es A758 F761 F762 F763 g760) hZ (hw _ (List.mem_of_getElem? (i := 5) rfl)) (hw _ (List.mem_of_getElem? (i := 2) rfl)) (by decide) (by decide)) (g := (mkF m 11 #[.val (.int p1), .val (.int p2), .val (.int p3), .val (.int p4), .val (.int p5), .val (.int p6), .val (.int (3 : Int32)), .unset, .unset, .unset, .unset] [(.ref b758), (.ref b758)])) rfl (by rw [hml]; rfl) (Steps.refl _) (a := b758) (argsL := []) (rest := [(.ref b758)]) (lenOf own_pd0 rfl) rfl (by show 2 * 0 + _ ≤ _; exact Nat.le_of_eq rfl) (hb hby at_11) (fun _ _ => ⟨rfl, e758, (by decide : 1 + 0 ≤ _), (by decide : 3 + 0 ≤ _)⟩)
    dsimp only [Pt.U, Pt.locs, Pt.cells, Pt.slots] at X764 l764 y764 z764 st764 hQ764
    subst l764 y764 z764
    obtain ⟨N764q, rfl, K764, q766, q767, q768, q769⟩ := hQ764
    have N770 := Fr.app N0 N764q
    refine own_tr st764 ?_
    have lt771 : b758 < T764.heap.size := Nat.lt_of_lt_of_le A758.lt K764.1
    have Zs772 : n0 ≤ T764.heap.size := Nat.le_trans Zs759 K764.1
    show own_Go p e below s _ _ _ (T764.setTop (mkF m 14 #[.val (.int p1), .val (.int p2), .val (.int p3), .val (.int p4), .val (.int p5), .val (.int p6), .val (.int (3 : Int32)), .unset, .unset, .unset, .unset] [(.ref b758)]))
    refine own_st (fun _ kQ => XS.astore X764.here hx rfl (hb hby at_14) rfl rfl (l' := #[.val (.int p1), .val (.int p2), .val (.int p3), .val (.int p4), .val (.int p5), .val (.int p6), .val (.int (3 : Int32)), .val (.ref b758), .unset, .unset, .unset]) rfl kQ) ?_
    show own_Go p e below s _ _ _ (T764.setTop (mkF m 16 #[.val (.int p1), .val (.int p2), .val (.int p3), .val (.int p4), .val (.int p5), .val (.int p6), .val (.int (3 : Int32)), .val (.ref b758), .unset, .unset, .unset] []))
    refine own_st (fun _ kQ => XS.aload X764.here hx rfl (hb hby at_16) rfl rfl kQ) ?_
    show own_Go p e below s _ _ _ (T764.setTop (mkF m 18 #[.val (.int p1), .val (.int p2), .val (.int p3), .val (.int p4), .val (.int p5), .val (.int p6), .val (.int (3 : Int32)), .val (.ref b758), .unset, .unset, .unset] [(.ref b758)]))
    refine own_st (fun _ kQ => XS.iloadN X764.here hx rfl (hb hby at_18) rfl kQ) ?_
    show own_Go p e below s _ _ _ (T764.setTop (mkF m 19 #[.val (.int p1), .val (.int p2), .val (.int p3), .val (.int p4), .val (.int p5), .val (.int p6), .val (.int (3 : Int32)), .val (.ref b758), .unset, .unset, .unset] [(.int p2), (.ref b758)]))
    have O774 : Old Z n0 T764.heap := (O765.keep K764 (allS g760 all0))
    obtain ⟨_, _, ⟨T773, L773, k773, n773⟩, -, X773, ⟨Lc773, hQ773, l773, y773, z773⟩, st773⟩ := Jvm.LawKit.callS X764 hx (y := (⟨"java/lang/Integer", "valueOf", "(I)Ljava/lang/Integer;"⟩ : MethodName)) hown (mvT hZ (hw _ (List.mem_of_getElem? (i := 26) rfl))) (mvT hZ (hw _ (List.mem_of_getElem? (i := 27) rfl))) (mvT hZ (hw _ (List.mem_of_getElem? (i := 28) rfl))) (mvT hZ (hw _ (List.mem_of_getElem? (i := 29) rfl))) (by decide) (backOf (W := 1) (own_rm_valueOfI l Z a0 hw [] p2 a_cacheI T764.heap n0 Zs772 O774 S_cacheI BxI S_high) hZ (hw _ (List.mem_of_getElem? (i := 29) rfl)) (hw _ (List.mem_of_getElem? (i := 28) rfl)) (by decide) (by decide)) (g := (mkF m 19 #[.val (.int p1), .val (.int p2), .val (.int p3), .val (.int p4), .val (.int p5), .val (.int p6), .val (.int (3 : Int32)), .val (.ref b758), .unset, .unset, .unset] [(.int p2), (.ref b758)])) rfl (by rw [hml]; rfl) (argsL := [(.int p2)]) (rest := [(.ref b758)]) (lenOf own_pd12 rfl) rfl (by show 2 * 0 + _ ≤ _; exact Nat.le_of_eq rfl) (hb hby at_19) (fun _ _ => ⟨rfl, rfl, (by decide : 1 + 1 ≤ _), (by decide : 3 + 1 ≤ _)⟩)
    dsimp only [Pt.U, Pt.locs, Pt.cells, Pt.slots] at X773 l773 y773 z773 st773 hQ773
    subst l773 y773 z773
    obtain ⟨x775, N773q, rfl, K773, q776, q777⟩ := hQ773
    have N778 := Fr.app N770 N773q
    refine own_st st773 ?_
    have lt779 : b758 < T773.heap.size := Nat.lt_of_lt_of_le q769.lt K773.1
    have Zs780 : n0 ≤ T773.heap.size := Nat.le_trans Zs772 K773.1
    show own_Go p e below s _ _ _ (T773.setTop (mkF m 22 #[.val (.int p1), .val (.int p2), .val (.int p3), .val (.int p4), .val (.int p5), .val (.int p6), .val (.int (3 : Int32)), .val (.ref b758), .unset, .unset, .unset] [(.ref x775), (.ref b758)]))
    have F782 : Exa Z T773.heap b758 "java/util/ArrayList" := (q766.keep K773)
    have F783 : Fld Z T773.heap b758 "java/util/AbstractList" "modCount" "I" (.int (0 : Int32)) := (q767.keep K773 nin0)
    have F784 : Fld Z T773.heap b758 "java/util/ArrayList" "elementData" "[Ljava/lang/Object;" (.ref dflt) := (q768.keep K773 nin0)
    have F785 : Fld Z T773.heap b758 "java/util/ArrayList" "size" "I" (.int (0 : Int32)) := (q769.keep K773 nin0)
    have O786 : Old Z n0 T773.heap := (O774.keep K773 all0)
    obtain ⟨cq781, kq781, q781a, q781b, q781c⟩ := isOf hZ rfl F782
    obtain ⟨_, _, ⟨T781, L781, k781, n781⟩, -, X781, ⟨Lc781, hQ781, l781, y781, z781⟩, st781⟩ := X773.virtualBack hx (y := (⟨"java/util/ArrayList", "add", "(Ljava/lang/Object;)Z"⟩ : MethodName)) (z := (⟨"java/util/ArrayList", "add", "(Ljava/lang/Object;)Z"⟩ : MethodName)) hown (mvT hZ (hw _ (List.mem_of_getElem? (i := 33) rfl))) (mvT hZ (hw _ (List.mem_of_getElem? (i := 34) rfl))) (notFace_of_selects (args := #[]) (mvT hZ (hw _ (List.mem_of_getElem? (i := 36) rfl)))) (mvT hZ (hw _ (List.mem_of_getElem? (i := 36) rfl))) (mvT hZ (hw _ (List.mem_of_getElem? (i := 35) rfl))) (by decide) (backOf (W := 0) (own_rm_add1_0 l Z a0 hw [] b758 x775 (0 : Int32) dflt kd T773.heap n0 Zs780 O786 S_es V_es F782 F783 F784 F785 g760 q776) hZ (hw _ (List.mem_of_getElem? (i := 37) rfl)) (hw _ (List.mem_of_getElem? (i := 2) rfl)) (by decide) (by decide)) q781a q781c (g := (mkF m 22 #[.val (.int p1), .val (.int p2), .val (.int p3), .val (.int p4), .val (.int p5), .val (.int p6), .val (.int (3 : Int32)), .val (.ref b758), .unset, .unset, .unset] [(.ref x775), (.ref b758)])) rfl (by rw [hml]; rfl) (Steps.refl _) (argsL := [(.ref x775)]) (rest := []) (lenOf own_pd13 rfl) rfl (by show 2 * 0 + _ ≤ _; exact Nat.le_of_eq rfl) (hb hby at_22) (fun _ _ => ⟨rfl, rfl, (by decide : 2 + 1 ≤ _), (by decide : 4 + 10 ≤ _)⟩)
    dsimp only [Pt.U, Pt.locs, Pt.cells, Pt.slots] at X781 l781 y781 z781 st781 hQ781
    subst l781 y781 z781
    obtain ⟨x787, x788, N781q, rfl, K781, q789, q790, q791, q792, q793, q794, q795, q796⟩ := hQ781
    have N797 := Fr.app N778 N781q
    refine own_tr st781 ?_
    have lt798 : b758 < T781.heap.size := Nat.lt_of_lt_of_le lt779 K781.1
    have lt799 : x775 < T781.heap.size := Nat.lt_of_lt_of_le q777.lt K781.1
    have Zs800 : n0 ≤ T781.heap.size := Nat.le_trans Zs780 K781.1
    have ne801 : b758 ≠ x787 := Nat.ne_of_lt (Nat.lt_of_lt_of_le lt779 q789)
    have ne802 : x775 ≠ x787 := Nat.ne_of_lt (Nat.lt_of_lt_of_le q777.lt q789)
    have g803 : n0 ≤ x787 := Nat.le_trans Zs780 q789
    show own_Go p e below s _ _ _ (T781.setTop (mkF m 25 #[.val (.int p1), .val (.int p2), .val (.int p3), .val (.int p4), .val (.int p5), .val (.int p6), .val (.int (3 : Int32)), .val (.ref b758), .unset, .unset, .unset] [(.int (1 : Int32))]))
    refine own_st (fun _ kQ => XT.pop X781.here hx rfl (hb hby at_25) rfl rfl kQ) ?_
    show own_Go p e below s _ _ _ (T781.setTop (mkF m 26 #[.val (.int p1), .val (.int p2), .val (.int p3), .val (.int p4), .val (.int p5), .val (.int p6), .val (.int (3 : Int32)), .val (.ref b758), .unset, .unset, .unset] []))
    refine own_st (fun _ kQ => XS.iload X781.here hx rfl (hb hby at_26) rfl kQ) ?_
    show own_Go p e below s _ _ _ (T781.setTop (mkF m 28 #[.val (.int p1), .val (.int p2), .val (.int p3), .val (.int p4), .val (.int p5), .val (.int p6), .val (.int (3 : Int32)), .val (.ref b758), .unset, .unset, .unset] [(.int (3 : Int32))]))
    refine own_st (fun _ kQ => XT.iconstV X781.here hx rfl (2 : Int32) (hb hby at_28) (by decide) kQ) ?_
    show own_Go p e below s _ _ _ (T781.setTop (mkF m 29 #[.val (.int p1), .val (.int p2), .val (.int p3), .val (.int p4), .val (.int p5), .val (.int p6), .val (.int (3 : Int32)), .val (.ref b758), .unset, .unset, .unset] [(.int (2 : Int32)), (.int (3 : Int32))]))
    refine own_st (fun _ kQ => XS.icmpNo X781.here hx rfl (hb hby at_29) rfl (XT.ii_lt_f (by decide)) kQ) ?_
    show own_Go p e below s _ _ _ (T781.setTop (mkF m 32 #[.val (.int p1), .val (.int p2), .val (.int p3), .val (.int p4), .val (.int p5), .val (.int p6), .val (.int (3 : Int32)), .val (.ref b758), .unset, .unset, .unset] []))
    refine own_st (fun _ kQ => XS.aload X781.here hx rfl (hb hby at_32) rfl rfl kQ) ?_
    show own_Go p e below s _ _ _ (T781.setTop (mkF m 34 #[.val (.int p1), .val (.int p2), .val (.int p3), .val (.int p4), .val (.int p5), .val (.int p6), .val (.int (3 : Int32)), .val (.ref b758), .unset, .unset, .unset] [(.ref b758)]))
    refine own_st (fun _ kQ => XS.iloadN X781.here hx rfl (hb hby at_34) rfl kQ) ?_
    show own_Go p e below s _ _ _ (T781.setTop (mkF m 35 #[.val (.int p1), .val (.int p2), .val (.int p3), .val (.int p4), .val (.int p5), .val (.int p6), .val (.int (3 : Int32)), .val (.ref b758), .unset, .unset, .unset] [(.int p3), (.ref b758)]))
    have O805 : Old Z n0 T781.heap := (O786.keep K781 (allS g760 all0))
    obtain ⟨_, _, ⟨T804, L804, k804, n804⟩, -, X804, ⟨Lc804, hQ804, l804, y804, z804⟩, st804⟩ := Jvm.LawKit.callS X781 hx (y := (⟨"java/lang/Integer", "valueOf", "(I)Ljava/lang/Integer;"⟩ : MethodName)) hown (mvT hZ (hw _ (List.mem_of_getElem? (i := 26) rfl))) (mvT hZ (hw _ (List.mem_of_getElem? (i := 27) rfl))) (mvT hZ (hw _ (List.mem_of_getElem? (i := 28) rfl))) (mvT hZ (hw _ (List.mem_of_getElem? (i := 29) rfl))) (by decide) (backOf (W := 1) (own_rm_valueOfI l Z a0 hw [] p3 a_cacheI T781.heap n0 Zs800 O805 S_cacheI BxI S_high) hZ (hw _ (List.mem_of_getElem? (i := 29) rfl)) (hw _ (List.mem_of_getElem? (i := 28) rfl)) (by decide) (by decide)) (g := (mkF m 35 #[.val (.int p1), .val (.int p2), .val (.int p3), .val (.int p4), .val (.int p5), .val (.int p6), .val (.int (3 : Int32)), .val (.ref b758), .unset, .unset, .unset] [(.int p3), (.ref b758)])) rfl (by rw [hml]; rfl) (argsL := [(.int p3)]) (rest := [(.ref b758)]) (lenOf own_pd12 rfl) rfl (by show 2 * 0 + _ ≤ _; exact Nat.le_of_eq rfl) (hb hby at_35) (fun _ _ => ⟨rfl, rfl, (by decide : 3 + 1 ≤ _), (by decide : 14 + 1 ≤ _)⟩)
    dsimp only [Pt.U, Pt.locs, Pt.cells, Pt.slots] at X804 l804 y804 z804 st804 hQ804
    subst l804 y804 z804
    obtain ⟨x806, N804q, rfl, K804, q807, q808⟩ := hQ804
    have N809 := Fr.app N797 N804q
    refine own_st st804 ?_
    have lt810 : b758 < T804.heap.size := Nat.lt_of_lt_of_le q793.lt K804.1
    have lt811 : x775 < T804.heap.size := Nat.lt_of_lt_of_le lt799 K804.1
    have lt812 : x787 < T804.heap.size := Nat.lt_of_lt_of_le q795.lt K804.1
    have Zs813 : n0 ≤ T804.heap.size := Nat.le_trans Zs800 K804.1
    obtain ⟨Lp814, Xp814, Np814⟩ : ∃ L, Stand p l e room_1 s m #[(.int p1), (.int p2), (.int p3), (.int p4), (.int p5), (.int p6)] below meth c T804 L 4 15 ∧ Fr n0 L := ⟨_, X804, N809⟩
    show own_Go p e below s _ _ _ (T804.setTop (mkF m 38 #[.val (.int p1), .val (.int p2), .val (.int p3), .val (.int p4), .val (.int p5), .val (.int p6), .val (.int (3 : Int32)), .val (.ref b758), .unset, .unset, .unset] [(.ref x806), (.ref b758)]))
    have F816 : Exa Z T804.heap b758 "java/util/ArrayList" := (q790.keep K804)
    have F817 : Fld Z T804.heap b758 "java/util/AbstractList" "modCount" "I" (.int ((0 : Int32) + (1 : Int32))) := (q791.keep K804 nin0)
    have F818 : Fld Z T804.heap b758 "java/util/ArrayList" "elementData" "[Ljava/lang/Object;" (.ref x787) := (q792.keep K804 nin0)
    have F819 : Fld Z T804.heap b758 "java/util/ArrayList" "size" "I" (.int (1 : Int32)) := (q793.keep K804 nin0)
    have F820 : Arv Z T804.heap x787 x788 (.object "java/lang/Object") (10 : Int32) [(.ref x775), .null, .null, .null, .null, .null, .null, .null, .null, .null] .null := (q795.keep K804 nin0)
    obtain ⟨cq815, kq815, q815a, q815b, q815c⟩ := isOf hZ rfl F816
    obtain ⟨_, _, ⟨T815, L815, k815, n815⟩, -, X815, ⟨Lc815, hQ815, l815, y815, z815⟩, st815⟩ := Xp814.virtualBack hx (y := (⟨"java/util/ArrayList", "add", "(Ljava/lang/Object;)Z"⟩ : MethodName)) (z := (⟨"java/util/ArrayList", "add", "(Ljava/lang/Object;)Z"⟩ : MethodName)) hown (mvT hZ (hw _ (List.mem_of_getElem? (i := 33) rfl))) (mvT hZ (hw _ (List.mem_of_getElem? (i := 34) rfl))) (notFace_of_selects (args := #[]) (mvT hZ (hw _ (List.mem_of_getElem? (i := 36) rfl)))) (mvT hZ (hw _ (List.mem_of_getElem? (i := 36) rfl))) (mvT hZ (hw _ (List.mem_of_getElem? (i := 35) rfl))) (by decide) (backOf (W := 0) (own_rm_add1_1 l Z a0 hw [] b758 x806 x787 x788 ((0 : Int32) + (1 : Int32)) x775 T804.heap n0 Zs813 F816 F817 F818 F819 F820 q796 g760 g803 ne801 q807) hZ (hw _ (List.mem_of_getElem? (i := 37) rfl)) (hw _ (List.mem_of_getElem? (i := 2) rfl)) (by decide) (by decide)) q815a q815c (g := (mkF m 38 #[.val (.int p1), .val (.int p2), .val (.int p3), .val (.int p4), .val (.int p5), .val (.int p6), .val (.int (3 : Int32)), .val (.ref b758), .unset, .unset, .unset] [(.ref x806), (.ref b758)])) rfl (by rw [hml]; rfl) (Steps.refl _) (argsL := [(.ref x806)]) (rest := []) (lenOf own_pd13 rfl) rfl (by show 2 * 0 + _ ≤ _; exact Nat.le_of_eq rfl) (hb hby at_38) (fun _ _ => ⟨rfl, rfl, (by decide : 4 + 0 ≤ _), (by decide : 15 + 0 ≤ _)⟩)
    dsimp only [Pt.U, Pt.locs, Pt.cells, Pt.slots] at X815 l815 y815 z815 st815 hQ815
    subst l815 y815 z815
    obtain ⟨N815q, rfl, K815, q821, q822, q823, q824, q825⟩ := hQ815
    have N826 := Fr.app Np814 N815q
    refine own_tr st815 ?_
    have lt827 : b758 < T815.heap.size := Nat.lt_of_lt_of_le lt810 K815.1
    have lt828 : x775 < T815.heap.size := Nat.lt_of_lt_of_le lt811 K815.1
    have lt829 : x787 < T815.heap.size := Nat.lt_of_lt_of_le lt812 K815.1
    have lt830 : x806 < T815.heap.size := Nat.lt_of_lt_of_le q808.lt K815.1
    have Zs831 : n0 ≤ T815.heap.size := Nat.le_trans Zs813 K815.1
    show own_Go p e below s _ _ _ (T815.setTop (mkF m 41 #[.val (.int p1), .val (.int p2), .val (.int p3), .val (.int p4), .val (.int p5), .val (.int p6), .val (.int (3 : Int32)), .val (.ref b758), .unset, .unset, .unset] [(.int (1 : Int32))]))
    refine own_st (fun _ kQ => XT.pop X815.here hx rfl (hb hby at_41) rfl rfl kQ) ?_
    show own_Go p e below s _ _ _ (T815.setTop (mkF m 42 #[.val (.int p1), .val (.int p2), .val (.int p3), .val (.int p4), .val (.int p5), .val (.int p6), .val (.int (3 : Int32)), .val (.ref b758), .unset, .unset, .unset] []))
    refine own_st (fun _ kQ => XS.iload X815.here hx rfl (hb hby at_42) rfl kQ) ?_
    show own_Go p e below s _ _ _ (T815.setTop (mkF m 44 #[.val (.int p1), .val (.int p2), .val (.int p3), .val (.int p4), .val (.int p5), .val (.int p6), .val (.int (3 : Int32)), .val (.ref b758), .unset, .unset, .unset] [(.int (3 : Int32))]))
    refine own_st (fun _ kQ => XT.iconstV X815.here hx rfl (3 : Int32) (hb hby at_44) (by decide) kQ) ?_
    show own_Go p e below s _ _ _ (T815.setTop (mkF m 45 #[.val (.int p1), .val (.int p2), .val (.int p3), .val (.int p4), .val (.int p5), .val (.int p6), .val (.int (3 : Int32)), .val (.ref b758), .unset, .unset, .unset] [(.int (3 : Int32)), (.int (3 : Int32))]))
    refine own_st (fun _ kQ => XS.icmpNo X815.here hx rfl (hb hby at_45) rfl (XT.ii_lt_f (by decide)) kQ) ?_
    show own_Go p e below s _ _ _ (T815.setTop (mkF m 48 #[.val (.int p1), .val (.int p2), .val (.int p3), .val (.int p4), .val (.int p5), .val (.int p6), .val (.int (3 : Int32)), .val (.ref b758), .unset, .unset, .unset] []))
    refine own_st (fun _ kQ => XS.aload X815.here hx rfl (hb hby at_48) rfl rfl kQ) ?_
    show own_Go p e below s _ _ _ (T815.setTop (mkF m 50 #[.val (.int p1), .val (.int p2), .val (.int p3), .val (.int p4), .val (.int p5), .val (.int p6), .val (.int (3 : Int32)), .val (.ref b758), .unset, .unset, .unset] [(.ref b758)]))
    refine own_st (fun _ kQ => XS.iloadN X815.here hx rfl (hb hby at_50) rfl kQ) ?_
    show own_Go p e below s _ _ _ (T815.setTop (mkF m 51 #[.val (.int p1), .val (.int p2), .val (.int p3), .val (.int p4), .val (.int p5), .val (.int p6), .val (.int (3 : Int32)), .val (.ref b758), .unset, .unset, .unset] [(.int p4), (.ref b758)]))
    have O833 : Old Z n0 T815.heap := ((O805.keep K804 all0).keep K815 (allS g760 (allS g803 all0)))
    obtain ⟨_, _, ⟨T832, L832, k832, n832⟩, -, X832, ⟨Lc832, hQ832, l832, y832, z832⟩, st832⟩ := Jvm.LawKit.callS X815 hx (y := (⟨"java/lang/Integer", "valueOf", "(I)Ljava/lang/Integer;"⟩ : MethodName)) hown (mvT hZ (hw _ (List.mem_of_getElem? (i := 26) rfl))) (mvT hZ (hw _ (List.mem_of_getElem? (i := 27) rfl))) (mvT hZ (hw _ (List.mem_of_getElem? (i := 28) rfl))) (mvT hZ (hw _ (List.mem_of_getElem? (i := 29) rfl))) (by decide) (backOf (W := 1) (own_rm_valueOfI l Z a0 hw [] p4 a_cacheI T815.heap n0 Zs831 O833 S_cacheI BxI S_high) hZ (hw _ (List.mem_of_getElem? (i := 29) rfl)) (hw _ (List.mem_of_getElem? (i := 28) rfl)) (by decide) (by decide)) (g := (mkF m 51 #[.val (.int p1), .val (.int p2), .val (.int p3), .val (.int p4), .val (.int p5), .val (.int p6), .val (.int (3 : Int32)), .val (.ref b758), .unset, .unset, .unset] [(.int p4), (.ref b758)])) rfl (by rw [hml]; rfl) (argsL := [(.int p4)]) (rest := [(.ref b758)]) (lenOf own_pd12 rfl) rfl (by show 2 * 0 + _ ≤ _; exact Nat.le_of_eq rfl) (hb hby at_51) (fun _ _ => ⟨rfl, rfl, (by decide : 4 + 1 ≤ _), (by decide : 15 + 1 ≤ _)⟩)
    dsimp only [Pt.U, Pt.locs, Pt.cells, Pt.slots] at X832 l832 y832 z832 st832 hQ832
    subst l832 y832 z832
    obtain ⟨x834, N832q, rfl, K832, q835, q836⟩ := hQ832
    have N837 := Fr.app N826 N832q
    refine own_st st832 ?_
    have lt838 : b758 < T832.heap.size := Nat.lt_of_lt_of_le q824.lt K832.1
    have lt839 : x775 < T832.heap.size := Nat.lt_of_lt_of_le lt828 K832.1
    have lt840 : x787 < T832.heap.size := Nat.lt_of_lt_of_le q825.lt K832.1
    have lt841 : x806 < T832.heap.size := Nat.lt_of_lt_of_le lt830 K832.1
    have Zs842 : n0 ≤ T832.heap.size := Nat.le_trans Zs831 K832.1
    show own_Go p e below s _ _ _ (T832.setTop (mkF m 54 #[.val (.int p1), .val (.int p2), .val (.int p3), .val (.int p4), .val (.int p5), .val (.int p6), .val (.int (3 : Int32)), .val (.ref b758), .unset, .unset, .unset] [(.ref x834), (.ref b758)]))
    have F844 : Exa Z T832.heap b758 "java/util/ArrayList" := (q821.keep K832)
    have F845 : Fld Z T832.heap b758 "java/util/AbstractList" "modCount" "I" (.int (((0 : Int32) + (1 : Int32)) + (1 : Int32))) := (q822.keep K832 nin0)
    have F846 : Fld Z T832.heap b758 "java/util/ArrayList" "elementData" "[Ljava/lang/Object;" (.ref x787) := (q823.keep K832 nin0)
    have F847 : Fld Z T832.heap b758 "java/util/ArrayList" "size" "I" (.int (2 : Int32)) := (q824.keep K832 nin0)
    have F848 : Arv Z T832.heap x787 x788 (.object "java/lang/Object") (10 : Int32) [(.ref x775), (.ref x806), .null, .null, .null, .null, .null, .null, .null, .null] .null := (q825.keep K832 nin0)
    obtain ⟨cq843, kq843, q843a, q843b, q843c⟩ := isOf hZ rfl F844
    obtain ⟨_, _, ⟨T843, L843, k843, n843⟩, -, X843, ⟨Lc843, hQ843, l843, y843, z843⟩, st843⟩ := X832.virtualBack hx (y := (⟨"java/util/ArrayList", "add", "(Ljava/lang/Object;)Z"⟩ : MethodName)) (z := (⟨"java/util/ArrayList", "add", "(Ljava/lang/Object;)Z"⟩ : MethodName)) hown (mvT hZ (hw _ (List.mem_of_getElem? (i := 33) rfl))) (mvT hZ (hw _ (List.mem_of_getElem? (i := 34) rfl))) (notFace_of_selects (args := #[]) (mvT hZ (hw _ (List.mem_of_getElem? (i := 36) rfl)))) (mvT hZ (hw _ (List.mem_of_getElem? (i := 36) rfl))) (mvT hZ (hw _ (List.mem_of_getElem? (i := 35) rfl))) (by decide) (backOf (W := 0) (own_rm_add1_2 l Z a0 hw [] b758 x834 x787 x788 (((0 : Int32) + (1 : Int32)) + (1 : Int32)) x775 x806 T832.heap n0 Zs842 F844 F845 F846 F847 F848 q796 g760 g803 ne801 q835) hZ (hw _ (List.mem_of_getElem? (i := 37) rfl)) (hw _ (List.mem_of_getElem? (i := 2) rfl)) (by decide) (by decide)) q843a q843c (g := (mkF m 54 #[.val (.int p1), .val (.int p2), .val (.int p3), .val (.int p4), .val (.int p5), .val (.int p6), .val (.int (3 : Int32)), .val (.ref b758), .unset, .unset, .unset] [(.ref x834), (.ref b758)])) rfl (by rw [hml]; rfl) (Steps.refl _) (argsL := [(.ref x834)]) (rest := []) (lenOf own_pd13 rfl) rfl (by show 2 * 0 + _ ≤ _; exact Nat.le_of_eq rfl) (hb hby at_54) (fun _ _ => ⟨rfl, rfl, (by decide : 5 + 0 ≤ _), (by decide : 16 + 0 ≤ _)⟩)
    dsimp only [Pt.U, Pt.locs, Pt.cells, Pt.slots] at X843 l843 y843 z843 st843 hQ843
    subst l843 y843 z843
    obtain ⟨N843q, rfl, K843, q849, q850, q851, q852, q853⟩ := hQ843
    have N854 := Fr.app N837 N843q
    refine own_tr st843 ?_
    have lt855 : b758 < T843.heap.size := Nat.lt_of_lt_of_le lt838 K843.1
    have lt856 : x775 < T843.heap.size := Nat.lt_of_lt_of_le lt839 K843.1
    have lt857 : x787 < T843.heap.size := Nat.lt_of_lt_of_le lt840 K843.1
    have lt858 : x806 < T843.heap.size := Nat.lt_of_lt_of_le lt841 K843.1
    have lt859 : x834 < T843.heap.size := Nat.lt_of_lt_of_le q836.lt K843.1
    have Zs860 : n0 ≤ T843.heap.size := Nat.le_trans Zs842 K843.1
    show own_Go p e below s _ _ _ (T843.setTop (mkF m 57 #[.val (.int p1), .val (.int p2), .val (.int p3), .val (.int p4), .val (.int p5), .val (.int p6), .val (.int (3 : Int32)), .val (.ref b758), .unset, .unset, .unset] [(.int (1 : Int32))]))
    refine own_st (fun _ kQ => XT.pop X843.here hx rfl (hb hby at_57) rfl rfl kQ) ?_
    show own_Go p e below s _ _ _ (T843.setTop (mkF m 58 #[.val (.int p1), .val (.int p2), .val (.int p3), .val (.int p4), .val (.int p5), .val (.int p6), .val (.int (3 : Int32)), .val (.ref b758), .unset, .unset, .unset] []))
    refine own_st (fun _ kQ => XS.iload X843.here hx rfl (hb hby at_58) rfl kQ) ?_
    show own_Go p e below s _ _ _ (T843.setTop (mkF m 60 #[.val (.int p1), .val (.int p2), .val (.int p3), .val (.int p4), .val (.int p5), .val (.int p6), .val (.int (3 : Int32)), .val (.ref b758), .unset, .unset, .unset] [(.int (3 : Int32))]))
    refine own_st (fun _ kQ => XT.iconstV X843.here hx rfl (4 : Int32) (hb hby at_60) (by decide) kQ) ?_
    show own_Go p e below s _ _ _ (T843.setTop (mkF m 61 #[.val (.int p1), .val (.int p2), .val (.int p3), .val (.int p4), .val (.int p5), .val (.int p6), .val (.int (3 : Int32)), .val (.ref b758), .unset, .unset, .unset] [(.int (4 : Int32)), (.int (3 : Int32))]))
    refine own_st (fun _ kQ => XS.icmpYes X843.here hx rfl (pc0 := 61) (pc' := 75) rfl (hb hby at_61) rfl (XT.ii_lt_t (by decide)) (by decide) (by decide) kQ) ?_
    show own_Go p e below s _ _ _ (T843.setTop (mkF m 75 #[.val (.int p1), .val (.int p2), .val (.int p3), .val (.int p4), .val (.int p5), .val (.int p6), .val (.int (3 : Int32)), .val (.ref b758), .unset, .unset, .unset] []))
    refine own_st (fun _ kQ => XS.iload X843.here hx rfl (hb hby at_75) rfl kQ) ?_
    show own_Go p e below s _ _ _ (T843.setTop (mkF m 77 #[.val (.int p1), .val (.int p2), .val (.int p3), .val (.int p4), .val (.int p5), .val (.int p6), .val (.int (3 : Int32)), .val (.ref b758), .unset, .unset, .unset] [(.int (3 : Int32))]))
    refine own_st (fun _ kQ => XT.iconstV X843.here hx rfl (1 : Int32) (hb hby at_77) (by decide) kQ) ?_
    show own_Go p e below s _ _ _ (T843.setTop (mkF m 78 #[.val (.int p1), .val (.int p2), .val (.int p3), .val (.int p4), .val (.int p5), .val (.int p6), .val (.int (3 : Int32)), .val (.ref b758), .unset, .unset, .unset] [(.int (1 : Int32)), (.int (3 : Int32))]))
    refine own_st (fun _ kQ => XS.icmpYes X843.here hx rfl (pc0 := 78) (pc' := 87) rfl (hb hby at_78) rfl (XT.ii_ne_t (by decide)) (by decide) (by decide) kQ) ?_
    show own_Go p e below s _ _ _ (T843.setTop (mkF m 87 #[.val (.int p1), .val (.int p2), .val (.int p3), .val (.int p4), .val (.int p5), .val (.int p6), .val (.int (3 : Int32)), .val (.ref b758), .unset, .unset, .unset] []))
    refine own_st (fun _ kQ => XS.iload X843.here hx rfl (hb hby at_87) rfl kQ) ?_
    show own_Go p e below s _ _ _ (T843.setTop (mkF m 89 #[.val (.int p1), .val (.int p2), .val (.int p3), .val (.int p4), .val (.int p5), .val (.int p6), .val (.int (3 : Int32)), .val (.ref b758), .unset, .unset, .unset] [(.int (3 : Int32))]))
    refine own_st (fun _ kQ => XT.iconstV X843.here hx rfl (2 : Int32) (hb hby at_89) (by decide) kQ) ?_
    show own_Go p e below s _ _ _ (T843.setTop (mkF m 90 #[.val (.int p1), .val (.int p2), .val (.int p3), .val (.int p4), .val (.int p5), .val (.int p6), .val (.int (3 : Int32)), .val (.ref b758), .unset, .unset, .unset] [(.int (2 : Int32)), (.int (3 : Int32))]))
    refine own_st (fun _ kQ => XS.icmpYes X843.here hx rfl (pc0 := 90) (pc' := 99) rfl (hb hby at_90) rfl (XT.ii_ne_t (by decide)) (by decide) (by decide) kQ) ?_
    show own_Go p e below s _ _ _ (T843.setTop (mkF m 99 #[.val (.int p1), .val (.int p2), .val (.int p3), .val (.int p4), .val (.int p5), .val (.int p6), .val (.int (3 : Int32)), .val (.ref b758), .unset, .unset, .unset] []))
    refine own_st (fun _ kQ => XS.iload X843.here hx rfl (hb hby at_99) rfl kQ) ?_
    show own_Go p e below s _ _ _ (T843.setTop (mkF m 101 #[.val (.int p1), .val (.int p2), .val (.int p3), .val (.int p4), .val (.int p5), .val (.int p6), .val (.int (3 : Int32)), .val (.ref b758), .unset, .unset, .unset] [(.int (3 : Int32))]))
    refine own_st (fun _ kQ => XT.iconstV X843.here hx rfl (3 : Int32) (hb hby at_101) (by decide) kQ) ?_
    show own_Go p e below s _ _ _ (T843.setTop (mkF m 102 #[.val (.int p1), .val (.int p2), .val (.int p3), .val (.int p4), .val (.int p5), .val (.int p6), .val (.int (3 : Int32)), .val (.ref b758), .unset, .unset, .unset] [(.int (3 : Int32)), (.int (3 : Int32))]))
    refine own_st (fun _ kQ => XS.icmpNo X843.here hx rfl (hb hby at_102) rfl (XT.ii_ne_f rfl) kQ) ?_
    show own_Go p e below s _ _ _ (T843.setTop (mkF m 105 #[.val (.int p1), .val (.int p2), .val (.int p3), .val (.int p4), .val (.int p5), .val (.int p6), .val (.int (3 : Int32)), .val (.ref b758), .unset, .unset, .unset] []))
    refine own_st (fun _ kQ => XS.iloadN X843.here hx rfl (hb hby at_105) rfl kQ) ?_
    show own_Go p e below s _ _ _ (T843.setTop (mkF m 106 #[.val (.int p1), .val (.int p2), .val (.int p3), .val (.int p4), .val (.int p5), .val (.int p6), .val (.int (3 : Int32)), .val (.ref b758), .unset, .unset, .unset] [(.int p4)]))
    refine own_st (fun _ kQ => XS.istore X843.here hx rfl (hb hby at_106) rfl (l' := #[.val (.int p1), .val (.int p2), .val (.int p3), .val (.int p4), .val (.int p5), .val (.int p6), .val (.int (3 : Int32)), .val (.ref b758), .val (.int p4), .unset, .unset]) rfl kQ) ?_
    show own_Go p e below s _ _ _ (T843.setTop (mkF m 108 #[.val (.int p1), .val (.int p2), .val (.int p3), .val (.int p4), .val (.int p5), .val (.int p6), .val (.int (3 : Int32)), .val (.ref b758), .val (.int p4), .unset, .unset] []))
    refine own_st (fun _ kQ => XS.goto X843.here hx rfl (pc0 := 108) (pc' := 115) rfl (hb hby at_108) (by decide) (by decide) kQ) ?_
    show own_Go p e below s _ _ _ (T843.setTop (mkF m 115 #[.val (.int p1), .val (.int p2), .val (.int p3), .val (.int p4), .val (.int p5), .val (.int p6), .val (.int (3 : Int32)), .val (.ref b758), .val (.int p4), .unset, .unset] []))
    obtain ⟨T861, h861, X861, e861, E861, A861, D861, -, st861⟩ := newO X843 hx hZ hown (hw _ (List.mem_of_getElem? (i := 64) rfl)) (hw _ (List.mem_of_getElem? (i := 65) rfl)) (hw _ (List.mem_of_getElem? (i := 66) rfl)) rfl (g := (mkF m 115 #[.val (.int p1), .val (.int p2), .val (.int p3), .val (.int p4), .val (.int p5), .val (.int p6), .val (.int (3 : Int32)), .val (.ref b758), .val (.int p4), .unset, .unset] [])) rfl (hb hby at_115) (by decide) (by decide)
    obtain ⟨b861, g861⟩ : ∃ z, z = T843.heap.size := ⟨_, rfl⟩
    rw [← g861] at A861 D861 st861
    refine own_st st861 ?_
    have lt862 : b758 < h861.size := Nat.lt_of_lt_of_le q852.lt E861.1
    have lt863 : x775 < h861.size := Nat.lt_of_lt_of_le lt856 E861.1
    have lt864 : x787 < h861.size := Nat.lt_of_lt_of_le q853.lt E861.1
    have lt865 : x806 < h861.size := Nat.lt_of_lt_of_le lt858 E861.1
    have lt866 : x834 < h861.size := Nat.lt_of_lt_of_le lt859 E861.1
    have Zs867 : n0 ≤ h861.size := Nat.le_trans Zs860 E861.1
    have ne868 : b758 ≠ b861 := Nat.ne_of_lt (Nat.lt_of_lt_of_le q852.lt (Nat.le_of_eq g861.symm))
    have ne869 : x775 ≠ b861 := Nat.ne_of_lt (Nat.lt_of_lt_of_le lt856 (Nat.le_of_eq g861.symm))
    have ne870 : x787 ≠ b861 := Nat.ne_of_lt (Nat.lt_of_lt_of_le q853.lt (Nat.le_of_eq g861.symm))
    have ne871 : x806 ≠ b861 := Nat.ne_of_lt (Nat.lt_of_lt_of_le lt858 (Nat.le_of_eq g861.symm))
    have ne872 : x834 ≠ b861 := Nat.ne_of_lt (Nat.lt_of_lt_of_le lt859 (Nat.le_of_eq g861.symm))
    have g873 : n0 ≤ b861 := Nat.le_trans Zs860 (Nat.le_of_eq g861.symm)
    have F874 : Fld Z h861 b861 "com/example/rationed_session/rationedsession/model/Partition" "number" "I" (.int (0 : Int32)) := D861 (Or.inr (hw _ (List.mem_of_getElem? (i := 72) rfl))) (ty := .int) (by decide)
    have F875 : Fld Z h861 b861 "com/example/rationed_session/rationedsession/model/Partition" "firstIndex" "I" (.int (0 : Int32)) := D861 (Or.inr (hw _ (List.mem_of_getElem? (i := 74) rfl))) (ty := .int) (by decide)
    have F876 : Fld Z h861 b861 "com/example/rationed_session/rationedsession/model/Partition" "inputs" "Ljava/util/List;" .null := D861 (Or.inr (hw _ (List.mem_of_getElem? (i := 119) rfl))) (ty := (.object "java/util/List")) (by decide)
    show own_Go p e below s _ _ _ (T861.setTop (mkF m 118 #[.val (.int p1), .val (.int p2), .val (.int p3), .val (.int p4), .val (.int p5), .val (.int p6), .val (.int (3 : Int32)), .val (.ref b758), .val (.int p4), .unset, .unset] [(.ref b861)]))
    refine own_st (fun _ kQ => XS.dup X861.here hx rfl (hb hby at_118) rfl rfl kQ) ?_
    show own_Go p e below s _ _ _ (T861.setTop (mkF m 119 #[.val (.int p1), .val (.int p2), .val (.int p3), .val (.int p4), .val (.int p5), .val (.int p6), .val (.int (3 : Int32)), .val (.ref b758), .val (.int p4), .unset, .unset] [(.ref b861), (.ref b861)]))
    refine own_st (fun _ kQ => XS.iload X861.here hx rfl (hb hby at_119) rfl kQ) ?_
    show own_Go p e below s _ _ _ (T861.setTop (mkF m 121 #[.val (.int p1), .val (.int p2), .val (.int p3), .val (.int p4), .val (.int p5), .val (.int p6), .val (.int (3 : Int32)), .val (.ref b758), .val (.int p4), .unset, .unset] [(.int p6), (.ref b861), (.ref b861)]))
    refine own_st (fun _ kQ => XS.iloadN X861.here hx rfl (hb hby at_121) rfl kQ) ?_
    show own_Go p e below s _ _ _ (T861.setTop (mkF m 122 #[.val (.int p1), .val (.int p2), .val (.int p3), .val (.int p4), .val (.int p5), .val (.int p6), .val (.int (3 : Int32)), .val (.ref b758), .val (.int p4), .unset, .unset] [(.int p2), (.int p6), (.ref b861), (.ref b861)]))
    refine own_st (fun _ kQ => XS.aload X861.here hx rfl (hb hby at_122) rfl rfl kQ) ?_
    show own_Go p e below s _ _ _ (T861.setTop (mkF m 124 #[.val (.int p1), .val (.int p2), .val (.int p3), .val (.int p4), .val (.int p5), .val (.int p6), .val (.int (3 : Int32)), .val (.ref b758), .val (.int p4), .unset, .unset] [(.ref b758), (.int p2), (.int p6), (.ref b861), (.ref b861)]))
    have F878 : Exa Z h861 b758 "java/util/ArrayList" := (q849.ext E861)
    obtain ⟨_, _, ⟨T877, L877, k877, n877⟩, -, X877, ⟨Lc877, hQ877, l877, y877, z877⟩, st877⟩ := X861.specialBack hx (y := (⟨"com/example/rationed_session/rationedsession/model/Partition", "<init>", "(IILjava/util/List;)V"⟩ : MethodName)) rfl hown (mvT hZ (hw _ (List.mem_of_getElem? (i := 67) rfl))) (mvT hZ (hw _ (List.mem_of_getElem? (i := 68) rfl))) (mvT hZ (hw _ (List.mem_of_getElem? (i := 69) rfl))) (by decide) (backOf (W := 1) (own_rm_pinitU l Z a0 hw [] b861 p6 p2 b758 mA mL mR h861 n0 Zs867 M_AL M_UL M_UR h1 h2 A861 F878 F874 F875 F876 g873) hZ (hw _ (List.mem_of_getElem? (i := 69) rfl)) (hw _ (List.mem_of_getElem? (i := 66) rfl)) (by decide) (by decide)) (g := (mkF m 124 #[.val (.int p1), .val (.int p2), .val (.int p3), .val (.int p4), .val (.int p5), .val (.int p6), .val (.int (3 : Int32)), .val (.ref b758), .val (.int p4), .unset, .unset] [(.ref b758), (.int p2), (.int p6), (.ref b861), (.ref b861)])) rfl (by rw [hml]; rfl) (Steps.refl _) (a := b861) (argsL := [(.int p6), (.int p2), (.ref b758)]) (rest := [(.ref b861)]) (lenOf own_pd14 rfl) rfl (by show 2 * 0 + _ ≤ _; exact Nat.le_of_eq rfl) (hb hby at_124) (fun _ _ => ⟨rfl, e861, (by decide : 6 + 1 ≤ _), (by decide : 19 + 2 ≤ _)⟩)
    dsimp only [Pt.U, Pt.locs, Pt.cells, Pt.slots] at X877 l877 y877 z877 st877 hQ877
    subst l877 y877 z877
    obtain ⟨x879, N877q, rfl, K877, q880, q881, q882, q883, q884, q885, q886, q887⟩ := hQ877
    have N888 := Fr.app N854 N877q
    refine own_tr st877 ?_
    have lt889 : b758 < T877.heap.size := Nat.lt_of_lt_of_le lt862 K877.1
    have lt890 : x775 < T877.heap.size := Nat.lt_of_lt_of_le lt863 K877.1
    have lt891 : x787 < T877.heap.size := Nat.lt_of_lt_of_le lt864 K877.1
    have lt892 : x806 < T877.heap.size := Nat.lt_of_lt_of_le lt865 K877.1
    have lt893 : x834 < T877.heap.size := Nat.lt_of_lt_of_le lt866 K877.1
    have lt894 : b861 < T877.heap.size := Nat.lt_of_lt_of_le A861.lt K877.1
    have Zs895 : n0 ≤ T877.heap.size := Nat.le_trans Zs867 K877.1
    have ne896 : b758 ≠ x879 := Nat.ne_of_lt (Nat.lt_of_lt_of_le lt862 q884)
    have ne897 : x775 ≠ x879 := Nat.ne_of_lt (Nat.lt_of_lt_of_le lt863 q884)
    have ne898 : x787 ≠ x879 := Nat.ne_of_lt (Nat.lt_of_lt_of_le lt864 q884)
    have ne899 : x806 ≠ x879 := Nat.ne_of_lt (Nat.lt_of_lt_of_le lt865 q884)
    have ne900 : x834 ≠ x879 := Nat.ne_of_lt (Nat.lt_of_lt_of_le lt866 q884)
    have ne901 : b861 ≠ x879 := Nat.ne_of_lt (Nat.lt_of_lt_of_le A861.lt q884)
    have g902 : n0 ≤ x879 := Nat.le_trans Zs867 q884
    obtain ⟨Lp903, Xp903, Np903⟩ : ∃ L, Stand p l e room_1 s m #[(.int p1), (.int p2), (.int p3), (.int p4), (.int p5), (.int p6)] below meth c T877 L 7 21 ∧ Fr n0 L := ⟨_, X877, N888⟩
    show own_Go p e below s _ _ _ (T877.setTop (mkF m 127 #[.val (.int p1), .val (.int p2), .val (.int p3), .val (.int p4), .val (.int p5), .val (.int p6), .val (.int (3 : Int32)), .val (.ref b758), .val (.int p4), .unset, .unset] [(.ref b861)]))
    refine own_st (fun _ kQ => XS.astore Xp903.here hx rfl (hb hby at_127) rfl rfl (l' := #[.val (.int p1), .val (.int p2), .val (.int p3), .val (.int p4), .val (.int p5), .val (.int p6), .val (.int (3 : Int32)), .val (.ref b758), .val (.int p4), .val (.ref b861), .unset]) rfl kQ) ?_
    show own_Go p e below s _ _ _ (T877.setTop (mkF m 129 #[.val (.int p1), .val (.int p2), .val (.int p3), .val (.int p4), .val (.int p5), .val (.int p6), .val (.int (3 : Int32)), .val (.ref b758), .val (.int p4), .val (.ref b861), .unset] []))
    refine own_st (fun _ kQ => XS.aload Xp903.here hx rfl (hb hby at_129) rfl rfl kQ) ?_
    show own_Go p e below s _ _ _ (T877.setTop (mkF m 131 #[.val (.int p1), .val (.int p2), .val (.int p3), .val (.int p4), .val (.int p5), .val (.int p6), .val (.int (3 : Int32)), .val (.ref b758), .val (.int p4), .val (.ref b861), .unset] [(.ref b861)]))
    have F905 : Exa Z T877.heap b758 "java/util/ArrayList" := (F878.keep K877)
    have F906 : Fld Z T877.heap b758 "java/util/ArrayList" "elementData" "[Ljava/lang/Object;" (.ref x787) := ((q851.ext E861).keep K877 (ninS ne868 nin0))
    have F907 : Fld Z T877.heap b758 "java/util/ArrayList" "size" "I" (.int (3 : Int32)) := ((q852.ext E861).keep K877 (ninS ne868 nin0))
    have F908 : Arv Z T877.heap x787 x788 (.object "java/lang/Object") (10 : Int32) [(.ref x775), (.ref x806), (.ref x834), .null, .null, .null, .null, .null, .null, .null] .null := ((q853.ext E861).keep K877 (ninS ne870 nin0))
    obtain ⟨cq904, kq904, q904a, q904b, q904c⟩ := isOf hZ rfl q880
    obtain ⟨_, _, ⟨T904, L904, k904, n904⟩, -, X904, ⟨Lc904, hQ904, l904, y904, z904⟩, st904⟩ := Xp903.virtualBack hx (y := (⟨"com/example/rationed_session/rationedsession/model/Partition", "last", "()Ljava/lang/Object;"⟩ : MethodName)) (z := (⟨"com/example/rationed_session/rationedsession/model/Partition", "last", "()Ljava/lang/Object;"⟩ : MethodName)) hown (mvT hZ (hw _ (List.mem_of_getElem? (i := 120) rfl))) (mvT hZ (hw _ (List.mem_of_getElem? (i := 121) rfl))) (notFace_of_selects (args := #[]) (mvT hZ (hw _ (List.mem_of_getElem? (i := 123) rfl)))) (mvT hZ (hw _ (List.mem_of_getElem? (i := 123) rfl))) (mvT hZ (hw _ (List.mem_of_getElem? (i := 122) rfl))) (by decide) (backOf (W := 0) (own_rm_lastU3 l Z a0 hw [] x879 b861 b758 x787 x788 x775 x806 x834 T877.heap n0 Zs895 q883 q885 q886 q887 F905 F906 F907 F908) hZ (hw _ (List.mem_of_getElem? (i := 124) rfl)) (hw _ (List.mem_of_getElem? (i := 66) rfl)) (by decide) (by decide)) q904a q904c (g := (mkF m 131 #[.val (.int p1), .val (.int p2), .val (.int p3), .val (.int p4), .val (.int p5), .val (.int p6), .val (.int (3 : Int32)), .val (.ref b758), .val (.int p4), .val (.ref b861), .unset] [(.ref b861)])) rfl (by rw [hml]; rfl) (Steps.refl _) (argsL := []) (rest := []) (lenOf own_pd15 rfl) rfl (by show 2 * 0 + _ ≤ _; exact Nat.le_of_eq rfl) (hb hby at_131) (fun _ _ => ⟨rfl, rfl, (by decide : 7 + 0 ≤ _), (by decide : 21 + 0 ≤ _)⟩)
    dsimp only [Pt.U, Pt.locs, Pt.cells, Pt.slots] at X904 l904 y904 z904 st904 hQ904
    subst l904 y904 z904
    obtain ⟨N904q, rfl, eh904⟩ := hQ904
    have N909 := Fr.app Np903 N904q
    refine own_tr st904 ?_
    show own_Go p e below s _ _ _ (T904.setTop (mkF m 134 #[.val (.int p1), .val (.int p2), .val (.int p3), .val (.int p4), .val (.int p5), .val (.int p6), .val (.int (3 : Int32)), .val (.ref b758), .val (.int p4), .val (.ref b861), .unset] [(.ref x834)]))
    have F911 : Exa Z T877.heap x834 "java/lang/Integer" := (((q835.keep K843).ext E861).keep K877)
    obtain ⟨T910, X910, e910, st910⟩ := castY X904 hx hZ hown (hw _ (List.mem_of_getElem? (i := 170) rfl)) eh904 (Ins.self F911) (g := (mkF m 134 #[.val (.int p1), .val (.int p2), .val (.int p3), .val (.int p4), .val (.int p5), .val (.int p6), .val (.int (3 : Int32)), .val (.ref b758), .val (.int p4), .val (.ref b861), .unset] [(.ref x834)])) rfl rfl (hb hby at_134)
    refine own_st st910 ?_
    show own_Go p e below s _ _ _ (T910.setTop (mkF m 137 #[.val (.int p1), .val (.int p2), .val (.int p3), .val (.int p4), .val (.int p5), .val (.int p6), .val (.int (3 : Int32)), .val (.ref b758), .val (.int p4), .val (.ref b861), .unset] [(.ref x834)]))
    refine own_st (fun _ kQ => XS.astore X910.here hx rfl (hb hby at_137) rfl rfl (l' := #[.val (.int p1), .val (.int p2), .val (.int p3), .val (.int p4), .val (.int p5), .val (.int p6), .val (.int (3 : Int32)), .val (.ref b758), .val (.int p4), .val (.ref b861), .val (.ref x834)]) rfl kQ) ?_
    show own_Go p e below s _ _ _ (T910.setTop (mkF m 139 #[.val (.int p1), .val (.int p2), .val (.int p3), .val (.int p4), .val (.int p5), .val (.int p6), .val (.int (3 : Int32)), .val (.ref b758), .val (.int p4), .val (.ref b861), .val (.ref x834)] []))
    refine own_st (fun _ kQ => XS.aload X910.here hx rfl (hb hby at_139) rfl rfl kQ) ?_
    show own_Go p e below s _ _ _ (T910.setTop (mkF m 141 #[.val (.int p1), .val (.int p2), .val (.int p3), .val (.int p4), .val (.int p5), .val (.int p6), .val (.int (3 : Int32)), .val (.ref b758), .val (.int p4), .val (.ref b861), .val (.ref x834)] [(.ref x834)]))
    refine own_st (fun _ kQ => XS.ifnullNo X910.here hx rfl (hb hby at_141) rfl kQ) ?_
    show own_Go p e below s _ _ _ (T910.setTop (mkF m 144 #[.val (.int p1), .val (.int p2), .val (.int p3), .val (.int p4), .val (.int p5), .val (.int p6), .val (.int (3 : Int32)), .val (.ref b758), .val (.int p4), .val (.ref b861), .val (.ref x834)] []))
    refine own_st (fun _ kQ => XS.aload X910.here hx rfl (hb hby at_144) rfl rfl kQ) ?_
    show own_Go p e below s _ _ _ (T910.setTop (mkF m 146 #[.val (.int p1), .val (.int p2), .val (.int p3), .val (.int p4), .val (.int p5), .val (.int p6), .val (.int (3 : Int32)), .val (.ref b758), .val (.int p4), .val (.ref b861), .val (.ref x834)] [(.ref x834)]))
    have F913 : Exa Z T877.heap x787 "[Ljava/lang/Object;" := ((((((q794.keep K804).keep K815).keep K832).keep K843).ext E861).keep K877)
    have ne914 : x834 ≠ x787 := ne_exa F911 F913 (by decide)
    have ne915 : x834 ≠ b758 := ne_exa F911 F905 (by decide)
    have F916 : Fld Z T877.heap x834 "java/lang/Integer" "value" "I" (.int p4) := (((q836.keep K843 (ninS ne915 (ninS ne914 nin0))).ext E861).keep K877 (ninS ne872 nin0))
    obtain ⟨cq912, kq912, q912a, q912b, q912c⟩ := isOf hZ e910 F911
    obtain ⟨_, _, ⟨T912, L912, k912, n912⟩, -, X912, ⟨Lc912, hQ912, l912, y912, z912⟩, st912⟩ := X910.virtualBack hx (y := (⟨"java/lang/Integer", "intValue", "()I"⟩ : MethodName)) (z := (⟨"java/lang/Integer", "intValue", "()I"⟩ : MethodName)) hown (mvT hZ (hw _ (List.mem_of_getElem? (i := 172) rfl))) (mvT hZ (hw _ (List.mem_of_getElem? (i := 173) rfl))) (notFace_of_selects (args := #[]) (mvT hZ (hw _ (List.mem_of_getElem? (i := 175) rfl)))) (mvT hZ (hw _ (List.mem_of_getElem? (i := 175) rfl))) (mvT hZ (hw _ (List.mem_of_getElem? (i := 174) rfl))) (by decide) (backOf (W := 0) (own_rm_iv l Z a0 hw [] x834 p4 T877.heap n0 Zs895 F916) hZ (hw _ (List.mem_of_getElem? (i := 176) rfl)) (hw _ (List.mem_of_getElem? (i := 28) rfl)) (by decide) (by decide)) q912a q912c (g := (mkF m 146 #[.val (.int p1), .val (.int p2), .val (.int p3), .val (.int p4), .val (.int p5), .val (.int p6), .val (.int (3 : Int32)), .val (.ref b758), .val (.int p4), .val (.ref b861), .val (.ref x834)] [(.ref x834)])) rfl (by rw [hml]; rfl) (Steps.refl _) (argsL := []) (rest := []) (lenOf own_pd6 rfl) rfl (by show 2 * 0 + _ ≤ _; exact Nat.le_of_eq rfl) (hb hby at_146) (fun _ _ => ⟨rfl, e910, (by decide : 7 + 0 ≤ _), (by decide : 21 + 0 ≤ _)⟩)
    dsimp only [Pt.U, Pt.locs, Pt.cells, Pt.slots] at X912 l912 y912 z912 st912 hQ912
    subst l912 y912 z912
    obtain ⟨N912q, rfl, eh912⟩ := hQ912
    have N917 := Fr.app N909 N912q
    refine own_tr st912 ?_
    show own_Go p e below s _ _ _ (T912.setTop (mkF m 149 #[.val (.int p1), .val (.int p2), .val (.int p3), .val (.int p4), .val (.int p5), .val (.int p6), .val (.int (3 : Int32)), .val (.ref b758), .val (.int p4), .val (.ref b861), .val (.ref x834)] [(.int p4)]))
    refine own_st (fun _ kQ => XS.iload X912.here hx rfl (hb hby at_149) rfl kQ) ?_
    show own_Go p e below s _ _ _ (T912.setTop (mkF m 151 #[.val (.int p1), .val (.int p2), .val (.int p3), .val (.int p4), .val (.int p5), .val (.int p6), .val (.int (3 : Int32)), .val (.ref b758), .val (.int p4), .val (.ref b861), .val (.ref x834)] [(.int p4), (.int p4)]))
    refine own_st (fun _ kQ => XS.icmpNo X912.here hx rfl (hb hby at_151) rfl (XT.ii_ne_f rfl) kQ) ?_
    show own_Go p e below s _ _ _ (T912.setTop (mkF m 154 #[.val (.int p1), .val (.int p2), .val (.int p3), .val (.int p4), .val (.int p5), .val (.int p6), .val (.int (3 : Int32)), .val (.ref b758), .val (.int p4), .val (.ref b861), .val (.ref x834)] []))
    refine own_st (fun _ kQ => XT.iconstV X912.here hx rfl (1 : Int32) (hb hby at_154) (by decide) kQ) ?_
    show own_Go p e below s _ _ _ (T912.setTop (mkF m 155 #[.val (.int p1), .val (.int p2), .val (.int p3), .val (.int p4), .val (.int p5), .val (.int p6), .val (.int (3 : Int32)), .val (.ref b758), .val (.int p4), .val (.ref b861), .val (.ref x834)] [(.int (1 : Int32))]))
    refine own_st (fun _ kQ => XS.goto X912.here hx rfl (pc0 := 155) (pc' := 159) rfl (hb hby at_155) (by decide) (by decide) kQ) ?_
    show own_Go p e below s _ _ _ (T912.setTop (mkF m 159 #[.val (.int p1), .val (.int p2), .val (.int p3), .val (.int p4), .val (.int p5), .val (.int p6), .val (.int (3 : Int32)), .val (.ref b758), .val (.int p4), .val (.ref b861), .val (.ref x834)] [(.int (1 : Int32))]))
    refine own_retN X912 hx hlk Bd.returns (t := .boolean) (z' := (1 : Int32)) (by simp) (by decide) (hb hby at_159) (by decide) (by decide) ?_
    rw [eh912]
    exact ⟨N917, rfl⟩
  · rw [hi]
    show own_Go p e below s _ _ _ (s₁.setTop (mkF m 3 #[.val (.int p1), .val (.int p2), .val (.int p3), .val (.int p4), .val (.int p5), .val (.int p6), .unset, .unset, .unset, .unset, .unset] [(.int (3 : Int32))]))
    refine own_st (fun _ kQ => XT.iconstV X0.here hx rfl (1 : Int32) (hb hby at_3) (by decide) kQ) ?_
    show own_Go p e below s _ _ _ (s₁.setTop (mkF m 4 #[.val (.int p1), .val (.int p2), .val (.int p3), .val (.int p4), .val (.int p5), .val (.int p6), .unset, .unset, .unset, .unset, .unset] [(.int (1 : Int32)), (.int (3 : Int32))]))
    refine own_st (fun _ kQ => XS.iadd X0.here hx rfl (hb hby at_4) rfl kQ) ?_
    show own_Go p e below s _ _ _ (s₁.setTop (mkF m 5 #[.val (.int p1), .val (.int p2), .val (.int p3), .val (.int p4), .val (.int p5), .val (.int p6), .unset, .unset, .unset, .unset, .unset] [(.int (4 : Int32))]))
    refine own_st (fun _ kQ => XS.istore X0.here hx rfl (hb hby at_5) rfl (l' := #[.val (.int p1), .val (.int p2), .val (.int p3), .val (.int p4), .val (.int p5), .val (.int p6), .val (.int (4 : Int32)), .unset, .unset, .unset, .unset]) rfl kQ) ?_
    show own_Go p e below s _ _ _ (s₁.setTop (mkF m 7 #[.val (.int p1), .val (.int p2), .val (.int p3), .val (.int p4), .val (.int p5), .val (.int p6), .val (.int (4 : Int32)), .unset, .unset, .unset, .unset] []))
    obtain ⟨T918, h918, X918, e918, E918, A918, D918, -, st918⟩ := newO X0 hx hZ hown (hw _ (List.mem_of_getElem? (i := 0) rfl)) (hw _ (List.mem_of_getElem? (i := 1) rfl)) (hw _ (List.mem_of_getElem? (i := 2) rfl)) e0 (g := (mkF m 7 #[.val (.int p1), .val (.int p2), .val (.int p3), .val (.int p4), .val (.int p5), .val (.int p6), .val (.int (4 : Int32)), .unset, .unset, .unset, .unset] [])) rfl (hb hby at_7) (by decide) (by decide)
    obtain ⟨b918, g918⟩ : ∃ z, z = h0.size := ⟨_, rfl⟩
    rw [← g918] at A918 D918 st918
    refine own_st st918 ?_
    have Zs919 : n0 ≤ h918.size := Nat.le_trans Z0 E918.1
    have g920 : n0 ≤ b918 := Nat.le_trans Z0 (Nat.le_of_eq g918.symm)
    have F921 : Fld Z h918 b918 "java/util/AbstractList" "modCount" "I" (.int (0 : Int32)) := D918 (Or.inl (hw _ (List.mem_of_getElem? (i := 22) rfl))) (ty := .int) (by decide)
    have F922 : Fld Z h918 b918 "java/util/ArrayList" "elementData" "[Ljava/lang/Object;" .null := D918 (Or.inl (hw _ (List.mem_of_getElem? (i := 25) rfl))) (ty := (.array (.object "java/lang/Object"))) (by decide)
    have F923 : Fld Z h918 b918 "java/util/ArrayList" "size" "I" (.int (0 : Int32)) := D918 (Or.inl (hw _ (List.mem_of_getElem? (i := 41) rfl))) (ty := .int) (by decide)
    show own_Go p e below s _ _ _ (T918.setTop (mkF m 10 #[.val (.int p1), .val (.int p2), .val (.int p3), .val (.int p4), .val (.int p5), .val (.int p6), .val (.int (4 : Int32)), .unset, .unset, .unset, .unset] [(.ref b918)]))
    refine own_st (fun _ kQ => XS.dup X918.here hx rfl (hb hby at_10) rfl rfl kQ) ?_
    show own_Go p e below s _ _ _ (T918.setTop (mkF m 11 #[.val (.int p1), .val (.int p2), .val (.int p3), .val (.int p4), .val (.int p5), .val (.int p6), .val (.int (4 : Int32)), .unset, .unset, .unset, .unset] [(.ref b918), (.ref b918)]))
    have O925 : Old Z n0 h918 := (O0.ext E918)
    obtain ⟨_, _, ⟨T924, L924, k924, n924⟩, -, X924, ⟨Lc924, hQ924, l924, y924, z924⟩, st924⟩ := X918.specialBack hx (y := (⟨"java/util/ArrayList", "<init>", "()V"⟩ : MethodName)) rfl hown (mvT hZ (hw _ (List.mem_of_getElem? (i := 3) rfl))) (mvT hZ (hw _ (List.mem_of_getElem? (i := 4) rfl))) (mvT hZ (hw _ (List.mem_of_getElem? (i := 5) rfl))) (by decide) (backOf (W := 1) (own_rm_alinit l Z a0 hw [] b918 dflt kd h918 n0 Zs919 O925 S_es V_es A918 F921 F922 F923 g920) hZ (hw _ (List.mem_of_getElem? (i := 5) rfl)) (hw _ (List.mem_of_getElem? (i := 2) rfl)) (by decide) (by decide)) (g := (mkF m 11 #[.val (.int p1), .val (.int p2), .val (.int p3), .val (.int p4), .val (.int p5), .val (.int p6), .val (.int (4 : Int32)), .unset, .unset, .unset, .unset] [(.ref b918), (.ref b918)])) rfl (by rw [hml]; rfl) (Steps.refl _) (a := b918) (argsL := []) (rest := [(.ref b918)]) (lenOf own_pd0 rfl) rfl (by show 2 * 0 + _ ≤ _; exact Nat.le_of_eq rfl) (hb hby at_11) (fun _ _ => ⟨rfl, e918, (by decide : 1 + 0 ≤ _), (by decide : 3 + 0 ≤ _)⟩)
    dsimp only [Pt.U, Pt.locs, Pt.cells, Pt.slots] at X924 l924 y924 z924 st924 hQ924
    subst l924 y924 z924
    obtain ⟨N924q, rfl, K924, q926, q927, q928, q929⟩ := hQ924
    have N930 := Fr.app N0 N924q
    refine own_tr st924 ?_
    have lt931 : b918 < T924.heap.size := Nat.lt_of_lt_of_le A918.lt K924.1
    have Zs932 : n0 ≤ T924.heap.size := Nat.le_trans Zs919 K924.1
    show own_Go p e below s _ _ _ (T924.setTop (mkF m 14 #[.val (.int p1), .val (.int p2), .val (.int p3), .val (.int p4), .val (.int p5), .val (.int p6), .val (.int (4 : Int32)), .unset, .unset, .unset, .unset] [(.ref b918)]))
    refine own_st (fun _ kQ => XS.astore X924.here hx rfl (hb hby at_14) rfl rfl (l' := #[.val (.int p1), .val (.int p2), .val (.int p3), .val (.int p4), .val (.int p5), .val (.int p6), .val (.int (4 : Int32)), .val (.ref b918), .unset, .unset, .unset]) rfl kQ) ?_
    show own_Go p e below s _ _ _ (T924.setTop (mkF m 16 #[.val (.int p1), .val (.int p2), .val (.int p3), .val (.int p4), .val (.int p5), .val (.int p6), .val (.int (4 : Int32)), .val (.ref b918), .unset, .unset, .unset] []))
    refine own_st (fun _ kQ => XS.aload X924.here hx rfl (hb hby at_16) rfl rfl kQ) ?_
    show own_Go p e below s _ _ _ (T924.setTop (mkF m 18 #[.val (.int p1), .val (.int p2), .val (.int p3), .val (.int p4), .val (.int p5), .val (.int p6), .val (.int (4 : Int32)), .val (.ref b918), .unset, .unset, .unset] [(.ref b918)]))
    refine own_st (fun _ kQ => XS.iloadN X924.here hx rfl (hb hby at_18) rfl kQ) ?_
    show own_Go p e below s _ _ _ (T924.setTop (mkF m 19 #[.val (.int p1), .val (.int p2), .val (.int p3), .val (.int p4), .val (.int p5), .val (.int p6), .val (.int (4 : Int32)), .val (.ref b918), .unset, .unset, .unset] [(.int p2), (.ref b918)]))
    have O934 : Old Z n0 T924.heap := (O925.keep K924 (allS g920 all0))
    obtain ⟨_, _, ⟨T933, L933, k933, n933⟩, -, X933, ⟨Lc933, hQ933, l933, y933, z933⟩, st933⟩ := Jvm.LawKit.callS X924 hx (y := (⟨"java/lang/Integer", "valueOf", "(I)Ljava/lang/Integer;"⟩ : MethodName)) hown (mvT hZ (hw _ (List.mem_of_getElem? (i := 26) rfl))) (mvT hZ (hw _ (List.mem_of_getElem? (i := 27) rfl))) (mvT hZ (hw _ (List.mem_of_getElem? (i := 28) rfl))) (mvT hZ (hw _ (List.mem_of_getElem? (i := 29) rfl))) (by decide) (backOf (W := 1) (own_rm_valueOfI l Z a0 hw [] p2 a_cacheI T924.heap n0 Zs932 O934 S_cacheI BxI S_high) hZ (hw _ (List.mem_of_getElem? (i := 29) rfl)) (hw _ (List.mem_of_getElem? (i := 28) rfl)) (by decide) (by decide)) (g := (mkF m 19 #[.val (.int p1), .val (.int p2), .val (.int p3), .val (.int p4), .val (.int p5), .val (.int p6), .val (.int (4 : Int32)), .val (.ref b918), .unset, .unset, .unset] [(.int p2), (.ref b918)])) rfl (by rw [hml]; rfl) (argsL := [(.int p2)]) (rest := [(.ref b918)]) (lenOf own_pd12 rfl) rfl (by show 2 * 0 + _ ≤ _; exact Nat.le_of_eq rfl) (hb hby at_19) (fun _ _ => ⟨rfl, rfl, (by decide : 1 + 1 ≤ _), (by decide : 3 + 1 ≤ _)⟩)
    dsimp only [Pt.U, Pt.locs, Pt.cells, Pt.slots] at X933 l933 y933 z933 st933 hQ933
    subst l933 y933 z933
    obtain ⟨x935, N933q, rfl, K933, q936, q937⟩ := hQ933
    have N938 := Fr.app N930 N933q
    refine own_st st933 ?_
    have lt939 : b918 < T933.heap.size := Nat.lt_of_lt_of_le q929.lt K933.1
    have Zs940 : n0 ≤ T933.heap.size := Nat.le_trans Zs932 K933.1
    show own_Go p e below s _ _ _ (T933.setTop (mkF m 22 #[.val (.int p1), .val (.int p2), .val (.int p3), .val (.int p4), .val (.int p5), .val (.int p6), .val (.int (4 : Int32)), .val (.ref b918), .unset, .unset, .unset] [(.ref x935), (.ref b918)]))
    have F942 : Exa Z T933.heap b918 "java/util/ArrayList" := (q926.keep K933)
    have F943 : Fld Z T933.heap b918 "java/util/AbstractList" "modCount" "I" (.int (0 : Int32)) := (q927.keep K933 nin0)
    have F944 : Fld Z T933.heap b918 "java/util/ArrayList" "elementData" "[Ljava/lang/Object;" (.ref dflt) := (q928.keep K933 nin0)
    have F945 : Fld Z T933.heap b918 "java/util/ArrayList" "size" "I" (.int (0 : Int32)) := (q929.keep K933 nin0)
    have O946 : Old Z n0 T933.heap := (O934.keep K933 all0)
    obtain ⟨cq941, kq941, q941a, q941b, q941c⟩ := isOf hZ rfl F942
    obtain ⟨_, _, ⟨T941, L941, k941, n941⟩, -, X941, ⟨Lc941, hQ941, l941, y941, z941⟩, st941⟩ := X933.virtualBack hx (y := (⟨"java/util/ArrayList", "add", "(Ljava/lang/Object;)Z"⟩ : MethodName)) (z := (⟨"java/util/ArrayList", "add", "(Ljava/lang/Object;)Z"⟩ : MethodName)) hown (mvT hZ (hw _ (List.mem_of_getElem? (i := 33) rfl))) (mvT hZ (hw _ (List.mem_of_getElem? (i := 34) rfl))) (notFace_of_selects (args := #[]) (mvT hZ (hw _ (List.mem_of_getElem? (i := 36) rfl)))) (mvT hZ (hw _ (List.mem_of_getElem? (i := 36) rfl))) (mvT hZ (hw _ (List.mem_of_getElem? (i := 35) rfl))) (by decide) (backOf (W := 0) (own_rm_add1_0 l Z a0 hw [] b918 x935 (0 : Int32) dflt kd T933.heap n0 Zs940 O946 S_es V_es F942 F943 F944 F945 g920 q936) hZ (hw _ (List.mem_of_getElem? (i := 37) rfl)) (hw _ (List.mem_of_getElem? (i := 2) rfl)) (by decide) (by decide)) q941a q941c (g := (mkF m 22 #[.val (.int p1), .val (.int p2), .val (.int p3), .val (.int p4), .val (.int p5), .val (.int p6), .val (.int (4 : Int32)), .val (.ref b918), .unset, .unset, .unset] [(.ref x935), (.ref b918)])) rfl (by rw [hml]; rfl) (Steps.refl _) (argsL := [(.ref x935)]) (rest := []) (lenOf own_pd13 rfl) rfl (by show 2 * 0 + _ ≤ _; exact Nat.le_of_eq rfl) (hb hby at_22) (fun _ _ => ⟨rfl, rfl, (by decide : 2 + 1 ≤ _), (by decide : 4 + 10 ≤ _)⟩)
    dsimp only [Pt.U, Pt.locs, Pt.cells, Pt.slots] at X941 l941 y941 z941 st941 hQ941
    subst l941 y941 z941
    obtain ⟨x947, x948, N941q, rfl, K941, q949, q950, q951, q952, q953, q954, q955, q956⟩ := hQ941
    have N957 := Fr.app N938 N941q
    refine own_tr st941 ?_
    have lt958 : b918 < T941.heap.size := Nat.lt_of_lt_of_le lt939 K941.1
    have lt959 : x935 < T941.heap.size := Nat.lt_of_lt_of_le q937.lt K941.1
    have Zs960 : n0 ≤ T941.heap.size := Nat.le_trans Zs940 K941.1
    have ne961 : b918 ≠ x947 := Nat.ne_of_lt (Nat.lt_of_lt_of_le lt939 q949)
    have ne962 : x935 ≠ x947 := Nat.ne_of_lt (Nat.lt_of_lt_of_le q937.lt q949)
    have g963 : n0 ≤ x947 := Nat.le_trans Zs940 q949
    show own_Go p e below s _ _ _ (T941.setTop (mkF m 25 #[.val (.int p1), .val (.int p2), .val (.int p3), .val (.int p4), .val (.int p5), .val (.int p6), .val (.int (4 : Int32)), .val (.ref b918), .unset, .unset, .unset] [(.int (1 : Int32))]))
    refine own_st (fun _ kQ => XT.pop X941.here hx rfl (hb hby at_25) rfl rfl kQ) ?_
    show own_Go p e below s _ _ _ (T941.setTop (mkF m 26 #[.val (.int p1), .val (.int p2), .val (.int p3), .val (.int p4), .val (.int p5), .val (.int p6), .val (.int (4 : Int32)), .val (.ref b918), .unset, .unset, .unset] []))
    refine own_st (fun _ kQ => XS.iload X941.here hx rfl (hb hby at_26) rfl kQ) ?_
    show own_Go p e below s _ _ _ (T941.setTop (mkF m 28 #[.val (.int p1), .val (.int p2), .val (.int p3), .val (.int p4), .val (.int p5), .val (.int p6), .val (.int (4 : Int32)), .val (.ref b918), .unset, .unset, .unset] [(.int (4 : Int32))]))
    refine own_st (fun _ kQ => XT.iconstV X941.here hx rfl (2 : Int32) (hb hby at_28) (by decide) kQ) ?_
    show own_Go p e below s _ _ _ (T941.setTop (mkF m 29 #[.val (.int p1), .val (.int p2), .val (.int p3), .val (.int p4), .val (.int p5), .val (.int p6), .val (.int (4 : Int32)), .val (.ref b918), .unset, .unset, .unset] [(.int (2 : Int32)), (.int (4 : Int32))]))
    refine own_st (fun _ kQ => XS.icmpNo X941.here hx rfl (hb hby at_29) rfl (XT.ii_lt_f (by decide)) kQ) ?_
    show own_Go p e below s _ _ _ (T941.setTop (mkF m 32 #[.val (.int p1), .val (.int p2), .val (.int p3), .val (.int p4), .val (.int p5), .val (.int p6), .val (.int (4 : Int32)), .val (.ref b918), .unset, .unset, .unset] []))
    refine own_st (fun _ kQ => XS.aload X941.here hx rfl (hb hby at_32) rfl rfl kQ) ?_
    show own_Go p e below s _ _ _ (T941.setTop (mkF m 34 #[.val (.int p1), .val (.int p2), .val (.int p3), .val (.int p4), .val (.int p5), .val (.int p6), .val (.int (4 : Int32)), .val (.ref b918), .unset, .unset, .unset] [(.ref b918)]))
    refine own_st (fun _ kQ => XS.iloadN X941.here hx rfl (hb hby at_34) rfl kQ) ?_
    show own_Go p e below s _ _ _ (T941.setTop (mkF m 35 #[.val (.int p1), .val (.int p2), .val (.int p3), .val (.int p4), .val (.int p5), .val (.int p6), .val (.int (4 : Int32)), .val (.ref b918), .unset, .unset, .unset] [(.int p3), (.ref b918)]))
    have O965 : Old Z n0 T941.heap := (O946.keep K941 (allS g920 all0))
    obtain ⟨_, _, ⟨T964, L964, k964, n964⟩, -, X964, ⟨Lc964, hQ964, l964, y964, z964⟩, st964⟩ := Jvm.LawKit.callS X941 hx (y := (⟨"java/lang/Integer", "valueOf", "(I)Ljava/lang/Integer;"⟩ : MethodName)) hown (mvT hZ (hw _ (List.mem_of_getElem? (i := 26) rfl))) (mvT hZ (hw _ (List.mem_of_getElem? (i := 27) rfl))) (mvT hZ (hw _ (List.mem_of_getElem? (i := 28) rfl))) (mvT hZ (hw _ (List.mem_of_getElem? (i := 29) rfl))) (by decide) (backOf (W := 1) (own_rm_valueOfI l Z a0 hw [] p3 a_cacheI T941.heap n0 Zs960 O965 S_cacheI BxI S_high) hZ (hw _ (List.mem_of_getElem? (i := 29) rfl)) (hw _ (List.mem_of_getElem? (i := 28) rfl)) (by decide) (by decide)) (g := (mkF m 35 #[.val (.int p1), .val (.int p2), .val (.int p3), .val (.int p4), .val (.int p5), .val (.int p6), .val (.int (4 : Int32)), .val (.ref b918), .unset, .unset, .unset] [(.int p3), (.ref b918)])) rfl (by rw [hml]; rfl) (argsL := [(.int p3)]) (rest := [(.ref b918)]) (lenOf own_pd12 rfl) rfl (by show 2 * 0 + _ ≤ _; exact Nat.le_of_eq rfl) (hb hby at_35) (fun _ _ => ⟨rfl, rfl, (by decide : 3 + 1 ≤ _), (by decide : 14 + 1 ≤ _)⟩)
    dsimp only [Pt.U, Pt.locs, Pt.cells, Pt.slots] at X964 l964 y964 z964 st964 hQ964
    subst l964 y964 z964
    obtain ⟨x966, N964q, rfl, K964, q967, q968⟩ := hQ964
    have N969 := Fr.app N957 N964q
    refine own_st st964 ?_
    have lt970 : b918 < T964.heap.size := Nat.lt_of_lt_of_le q953.lt K964.1
    have lt971 : x935 < T964.heap.size := Nat.lt_of_lt_of_le lt959 K964.1
    have lt972 : x947 < T964.heap.size := Nat.lt_of_lt_of_le q955.lt K964.1
    have Zs973 : n0 ≤ T964.heap.size := Nat.le_trans Zs960 K964.1
    obtain ⟨Lp974, Xp974, Np974⟩ : ∃ L, Stand p l e room_1 s m #[(.int p1), (.int p2), (.int p3), (.int p4), (.int p5), (.int p6)] below meth c T964 L 4 15 ∧ Fr n0 L := ⟨_, X964, N969⟩
    show own_Go p e below s _ _ _ (T964.setTop (mkF m 38 #[.val (.int p1), .val (.int p2), .val (.int p3), .val (.int p4), .val (.int p5), .val (.int p6), .val (.int (4 : Int32)), .val (.ref b918), .unset, .unset, .unset] [(.ref x966), (.ref b918)]))
    have F976 : Exa Z T964.heap b918 "java/util/ArrayList" := (q950.keep K964)
    have F977 : Fld Z T964.heap b918 "java/util/AbstractList" "modCount" "I" (.int ((0 : Int32) + (1 : Int32))) := (q951.keep K964 nin0)
    have F978 : Fld Z T964.heap b918 "java/util/ArrayList" "elementData" "[Ljava/lang/Object;" (.ref x947) := (q952.keep K964 nin0)
    have F979 : Fld Z T964.heap b918 "java/util/ArrayList" "size" "I" (.int (1 : Int32)) := (q953.keep K964 nin0)
    have F980 : Arv Z T964.heap x947 x948 (.object "java/lang/Object") (10 : Int32) [(.ref x935), .null, .null, .null, .null, .null, .null, .null, .null, .null] .null := (q955.keep K964 nin0)
    obtain ⟨cq975, kq975, q975a, q975b, q975c⟩ := isOf hZ rfl F976
    obtain ⟨_, _, ⟨T975, L975, k975, n975⟩, -, X975, ⟨Lc975, hQ975, l975, y975, z975⟩, st975⟩ := Xp974.virtualBack hx (y := (⟨"java/util/ArrayList", "add", "(Ljava/lang/Object;)Z"⟩ : MethodName)) (z := (⟨"java/util/ArrayList", "add", "(Ljava/lang/Object;)Z"⟩ : MethodName)) hown (mvT hZ (hw _ (List.mem_of_getElem? (i := 33) rfl))) (mvT hZ (hw _ (List.mem_of_getElem? (i := 34) rfl))) (notFace_of_selects (args := #[]) (mvT hZ (hw _ (List.mem_of_getElem? (i := 36) rfl)))) (mvT hZ (hw _ (List.mem_of_getElem? (i := 36) rfl))) (mvT hZ (hw _ (List.mem_of_getElem? (i := 35) rfl))) (by decide) (backOf (W := 0) (own_rm_add1_1 l Z a0 hw [] b918 x966 x947 x948 ((0 : Int32) + (1 : Int32)) x935 T964.heap n0 Zs973 F976 F977 F978 F979 F980 q956 g920 g963 ne961 q967) hZ (hw _ (List.mem_of_getElem? (i := 37) rfl)) (hw _ (List.mem_of_getElem? (i := 2) rfl)) (by decide) (by decide)) q975a q975c (g := (mkF m 38 #[.val (.int p1), .val (.int p2), .val (.int p3), .val (.int p4), .val (.int p5), .val (.int p6), .val (.int (4 : Int32)), .val (.ref b918), .unset, .unset, .unset] [(.ref x966), (.ref b918)])) rfl (by rw [hml]; rfl) (Steps.refl _) (argsL := [(.ref x966)]) (rest := []) (lenOf own_pd13 rfl) rfl (by show 2 * 0 + _ ≤ _; exact Nat.le_of_eq rfl) (hb hby at_38) (fun _ _ => ⟨rfl, rfl, (by decide : 4 + 0 ≤ _), (by decide : 15 + 0 ≤ _)⟩)
    dsimp only [Pt.U, Pt.locs, Pt.cells, Pt.slots] at X975 l975 y975 z975 st975 hQ975
    subst l975 y975 z975
    obtain ⟨N975q, rfl, K975, q981, q982, q983, q984, q985⟩ := hQ975
    have N986 := Fr.app Np974 N975q
    refine own_tr st975 ?_
    have lt987 : b918 < T975.heap.size := Nat.lt_of_lt_of_le lt970 K975.1
    have lt988 : x935 < T975.heap.size := Nat.lt_of_lt_of_le lt971 K975.1
    have lt989 : x947 < T975.heap.size := Nat.lt_of_lt_of_le lt972 K975.1
    have lt990 : x966 < T975.heap.size := Nat.lt_of_lt_of_le q968.lt K975.1
    have Zs991 : n0 ≤ T975.heap.size := Nat.le_trans Zs973 K975.1
    show own_Go p e below s _ _ _ (T975.setTop (mkF m 41 #[.val (.int p1), .val (.int p2), .val (.int p3), .val (.int p4), .val (.int p5), .val (.int p6), .val (.int (4 : Int32)), .val (.ref b918), .unset, .unset, .unset] [(.int (1 : Int32))]))
    refine own_st (fun _ kQ => XT.pop X975.here hx rfl (hb hby at_41) rfl rfl kQ) ?_
    show own_Go p e below s _ _ _ (T975.setTop (mkF m 42 #[.val (.int p1), .val (.int p2), .val (.int p3), .val (.int p4), .val (.int p5), .val (.int p6), .val (.int (4 : Int32)), .val (.ref b918), .unset, .unset, .unset] []))
    refine own_st (fun _ kQ => XS.iload X975.here hx rfl (hb hby at_42) rfl kQ) ?_
    show own_Go p e below s _ _ _ (T975.setTop (mkF m 44 #[.val (.int p1), .val (.int p2), .val (.int p3), .val (.int p4), .val (.int p5), .val (.int p6), .val (.int (4 : Int32)), .val (.ref b918), .unset, .unset, .unset] [(.int (4 : Int32))]))
    refine own_st (fun _ kQ => XT.iconstV X975.here hx rfl (3 : Int32) (hb hby at_44) (by decide) kQ) ?_
    show own_Go p e below s _ _ _ (T975.setTop (mkF m 45 #[.val (.int p1), .val (.int p2), .val (.int p3), .val (.int p4), .val (.int p5), .val (.int p6), .val (.int (4 : Int32)), .val (.ref b918), .unset, .unset, .unset] [(.int (3 : Int32)), (.int (4 : Int32))]))
    refine own_st (fun _ kQ => XS.icmpNo X975.here hx rfl (hb hby at_45) rfl (XT.ii_lt_f (by decide)) kQ) ?_
    show own_Go p e below s _ _ _ (T975.setTop (mkF m 48 #[.val (.int p1), .val (.int p2), .val (.int p3), .val (.int p4), .val (.int p5), .val (.int p6), .val (.int (4 : Int32)), .val (.ref b918), .unset, .unset, .unset] []))
    refine own_st (fun _ kQ => XS.aload X975.here hx rfl (hb hby at_48) rfl rfl kQ) ?_
    show own_Go p e below s _ _ _ (T975.setTop (mkF m 50 #[.val (.int p1), .val (.int p2), .val (.int p3), .val (.int p4), .val (.int p5), .val (.int p6), .val (.int (4 : Int32)), .val (.ref b918), .unset, .unset, .unset] [(.ref b918)]))
    refine own_st (fun _ kQ => XS.iloadN X975.here hx rfl (hb hby at_50) rfl kQ) ?_
    show own_Go p e below s _ _ _ (T975.setTop (mkF m 51 #[.val (.int p1), .val (.int p2), .val (.int p3), .val (.int p4), .val (.int p5), .val (.int p6), .val (.int (4 : Int32)), .val (.ref b918), .unset, .unset, .unset] [(.int p4), (.ref b918)]))
    have O993 : Old Z n0 T975.heap := ((O965.keep K964 all0).keep K975 (allS g920 (allS g963 all0)))
    obtain ⟨_, _, ⟨T992, L992, k992, n992⟩, -, X992, ⟨Lc992, hQ992, l992, y992, z992⟩, st992⟩ := Jvm.LawKit.callS X975 hx (y := (⟨"java/lang/Integer", "valueOf", "(I)Ljava/lang/Integer;"⟩ : MethodName)) hown (mvT hZ (hw _ (List.mem_of_getElem? (i := 26) rfl))) (mvT hZ (hw _ (List.mem_of_getElem? (i := 27) rfl))) (mvT hZ (hw _ (List.mem_of_getElem? (i := 28) rfl))) (mvT hZ (hw _ (List.mem_of_getElem? (i := 29) rfl))) (by decide) (backOf (W := 1) (own_rm_valueOfI l Z a0 hw [] p4 a_cacheI T975.heap n0 Zs991 O993 S_cacheI BxI S_high) hZ (hw _ (List.mem_of_getElem? (i := 29) rfl)) (hw _ (List.mem_of_getElem? (i := 28) rfl)) (by decide) (by decide)) (g := (mkF m 51 #[.val (.int p1), .val (.int p2), .val (.int p3), .val (.int p4), .val (.int p5), .val (.int p6), .val (.int (4 : Int32)), .val (.ref b918), .unset, .unset, .unset] [(.int p4), (.ref b918)])) rfl (by rw [hml]; rfl) (argsL := [(.int p4)]) (rest := [(.ref b918)]) (lenOf own_pd12 rfl) rfl (by show 2 * 0 + _ ≤ _; exact Nat.le_of_eq rfl) (hb hby at_51) (fun _ _ => ⟨rfl, rfl, (by decide : 4 + 1 ≤ _), (by decide : 15 + 1 ≤ _)⟩)
    dsimp only [Pt.U, Pt.locs, Pt.cells, Pt.slots] at X992 l992 y992 z992 st992 hQ992
    subst l992 y992 z992
    obtain ⟨x994, N992q, rfl, K992, q995, q996⟩ := hQ992
    have N997 := Fr.app N986 N992q
    refine own_st st992 ?_
    have lt998 : b918 < T992.heap.size := Nat.lt_of_lt_of_le q984.lt K992.1
    have lt999 : x935 < T992.heap.size := Nat.lt_of_lt_of_le lt988 K992.1
    have lt1000 : x947 < T992.heap.size := Nat.lt_of_lt_of_le q985.lt K992.1
    have lt1001 : x966 < T992.heap.size := Nat.lt_of_lt_of_le lt990 K992.1
    have Zs1002 : n0 ≤ T992.heap.size := Nat.le_trans Zs991 K992.1
    show own_Go p e below s _ _ _ (T992.setTop (mkF m 54 #[.val (.int p1), .val (.int p2), .val (.int p3), .val (.int p4), .val (.int p5), .val (.int p6), .val (.int (4 : Int32)), .val (.ref b918), .unset, .unset, .unset] [(.ref x994), (.ref b918)]))
    have F1004 : Exa Z T992.heap b918 "java/util/ArrayList" := (q981.keep K992)
    have F1005 : Fld Z T992.heap b918 "java/util/AbstractList" "modCount" "I" (.int (((0 : Int32) + (1 : Int32)) + (1 : Int32))) := (q982.keep K992 nin0)
    have F1006 : Fld Z T992.heap b918 "java/util/ArrayList" "elementData" "[Ljava/lang/Object;" (.ref x947) := (q983.keep K992 nin0)
    have F1007 : Fld Z T992.heap b918 "java/util/ArrayList" "size" "I" (.int (2 : Int32)) := (q984.keep K992 nin0)
    have F1008 : Arv Z T992.heap x947 x948 (.object "java/lang/Object") (10 : Int32) [(.ref x935), (.ref x966), .null, .null, .null, .null, .null, .null, .null, .null] .null := (q985.keep K992 nin0)
    obtain ⟨cq1003, kq1003, q1003a, q1003b, q1003c⟩ := isOf hZ rfl F1004
    obtain ⟨_, _, ⟨T1003, L1003, k1003, n1003⟩, -, X1003, ⟨Lc1003, hQ1003, l1003, y1003, z1003⟩, st1003⟩ := X992.virtualBack hx (y := (⟨"java/util/ArrayList", "add", "(Ljava/lang/Object;)Z"⟩ : MethodName)) (z := (⟨"java/util/ArrayList", "add", "(Ljava/lang/Object;)Z"⟩ : MethodName)) hown (mvT hZ (hw _ (List.mem_of_getElem? (i := 33) rfl))) (mvT hZ (hw _ (List.mem_of_getElem? (i := 34) rfl))) (notFace_of_selects (args := #[]) (mvT hZ (hw _ (List.mem_of_getElem? (i := 36) rfl)))) (mvT hZ (hw _ (List.mem_of_getElem? (i := 36) rfl))) (mvT hZ (hw _ (List.mem_of_getElem? (i := 35) rfl))) (by decide) (backOf (W := 0) (own_rm_add1_2 l Z a0 hw [] b918 x994 x947 x948 (((0 : Int32) + (1 : Int32)) + (1 : Int32)) x935 x966 T992.heap n0 Zs1002 F1004 F1005 F1006 F1007 F1008 q956 g920 g963 ne961 q995) hZ (hw _ (List.mem_of_getElem? (i := 37) rfl)) (hw _ (List.mem_of_getElem? (i := 2) rfl)) (by decide) (by decide)) q1003a q1003c (g := (mkF m 54 #[.val (.int p1), .val (.int p2), .val (.int p3), .val (.int p4), .val (.int p5), .val (.int p6), .val (.int (4 : Int32)), .val (.ref b918), .unset, .unset, .unset] [(.ref x994), (.ref b918)])) rfl (by rw [hml]; rfl) (Steps.refl _) (argsL := [(.ref x994)]) (rest := []) (lenOf own_pd13 rfl) rfl (by show 2 * 0 + _ ≤ _; exact Nat.le_of_eq rfl) (hb hby at_54) (fun _ _ => ⟨rfl, rfl, (by decide : 5 + 0 ≤ _), (by decide : 16 + 0 ≤ _)⟩)
    dsimp only [Pt.U, Pt.locs, Pt.cells, Pt.slots] at X1003 l1003 y1003 z1003 st1003 hQ1003
    subst l1003 y1003 z1003
    obtain ⟨N1003q, rfl, K1003, q1009, q1010, q1011, q1012, q1013⟩ := hQ1003
    have N1014 := Fr.app N997 N1003q
    refine own_tr st1003 ?_
    have lt1015 : b918 < T1003.heap.size := Nat.lt_of_lt_of_le lt998 K1003.1
    have lt1016 : x935 < T1003.heap.size := Nat.lt_of_lt_of_le lt999 K1003.1
    have lt1017 : x947 < T1003.heap.size := Nat.lt_of_lt_of_le lt1000 K1003.1
    have lt1018 : x966 < T1003.heap.size := Nat.lt_of_lt_of_le lt1001 K1003.1
    have lt1019 : x994 < T1003.heap.size := Nat.lt_of_lt_of_le q996.lt K1003.1
    have Zs1020 : n0 ≤ T1003.heap.size := Nat.le_trans Zs1002 K1003.1
    show own_Go p e below s _ _ _ (T1003.setTop (mkF m 57 #[.val (.int p1), .val (.int p2), .val (.int p3), .val (.int p4), .val (.int p5), .val (.int p6), .val (.int (4 : Int32)), .val (.ref b918), .unset, .unset, .unset] [(.int (1 : Int32))]))
    refine own_st (fun _ kQ => XT.pop X1003.here hx rfl (hb hby at_57) rfl rfl kQ) ?_
    show own_Go p e below s _ _ _ (T1003.setTop (mkF m 58 #[.val (.int p1), .val (.int p2), .val (.int p3), .val (.int p4), .val (.int p5), .val (.int p6), .val (.int (4 : Int32)), .val (.ref b918), .unset, .unset, .unset] []))
    refine own_st (fun _ kQ => XS.iload X1003.here hx rfl (hb hby at_58) rfl kQ) ?_
    show own_Go p e below s _ _ _ (T1003.setTop (mkF m 60 #[.val (.int p1), .val (.int p2), .val (.int p3), .val (.int p4), .val (.int p5), .val (.int p6), .val (.int (4 : Int32)), .val (.ref b918), .unset, .unset, .unset] [(.int (4 : Int32))]))
    refine own_st (fun _ kQ => XT.iconstV X1003.here hx rfl (4 : Int32) (hb hby at_60) (by decide) kQ) ?_
    show own_Go p e below s _ _ _ (T1003.setTop (mkF m 61 #[.val (.int p1), .val (.int p2), .val (.int p3), .val (.int p4), .val (.int p5), .val (.int p6), .val (.int (4 : Int32)), .val (.ref b918), .unset, .unset, .unset] [(.int (4 : Int32)), (.int (4 : Int32))]))
    refine own_st (fun _ kQ => XS.icmpNo X1003.here hx rfl (hb hby at_61) rfl (XT.ii_lt_f (by decide)) kQ) ?_
    show own_Go p e below s _ _ _ (T1003.setTop (mkF m 64 #[.val (.int p1), .val (.int p2), .val (.int p3), .val (.int p4), .val (.int p5), .val (.int p6), .val (.int (4 : Int32)), .val (.ref b918), .unset, .unset, .unset] []))
    refine own_st (fun _ kQ => XS.aload X1003.here hx rfl (hb hby at_64) rfl rfl kQ) ?_
    show own_Go p e below s _ _ _ (T1003.setTop (mkF m 66 #[.val (.int p1), .val (.int p2), .val (.int p3), .val (.int p4), .val (.int p5), .val (.int p6), .val (.int (4 : Int32)), .val (.ref b918), .unset, .unset, .unset] [(.ref b918)]))
    refine own_st (fun _ kQ => XS.iload X1003.here hx rfl (hb hby at_66) rfl kQ) ?_
    show own_Go p e below s _ _ _ (T1003.setTop (mkF m 68 #[.val (.int p1), .val (.int p2), .val (.int p3), .val (.int p4), .val (.int p5), .val (.int p6), .val (.int (4 : Int32)), .val (.ref b918), .unset, .unset, .unset] [(.int p5), (.ref b918)]))
    have O1022 : Old Z n0 T1003.heap := ((O993.keep K992 all0).keep K1003 (allS g920 (allS g963 all0)))
    obtain ⟨_, _, ⟨T1021, L1021, k1021, n1021⟩, -, X1021, ⟨Lc1021, hQ1021, l1021, y1021, z1021⟩, st1021⟩ := Jvm.LawKit.callS X1003 hx (y := (⟨"java/lang/Integer", "valueOf", "(I)Ljava/lang/Integer;"⟩ : MethodName)) hown (mvT hZ (hw _ (List.mem_of_getElem? (i := 26) rfl))) (mvT hZ (hw _ (List.mem_of_getElem? (i := 27) rfl))) (mvT hZ (hw _ (List.mem_of_getElem? (i := 28) rfl))) (mvT hZ (hw _ (List.mem_of_getElem? (i := 29) rfl))) (by decide) (backOf (W := 1) (own_rm_valueOfI l Z a0 hw [] p5 a_cacheI T1003.heap n0 Zs1020 O1022 S_cacheI BxI S_high) hZ (hw _ (List.mem_of_getElem? (i := 29) rfl)) (hw _ (List.mem_of_getElem? (i := 28) rfl)) (by decide) (by decide)) (g := (mkF m 68 #[.val (.int p1), .val (.int p2), .val (.int p3), .val (.int p4), .val (.int p5), .val (.int p6), .val (.int (4 : Int32)), .val (.ref b918), .unset, .unset, .unset] [(.int p5), (.ref b918)])) rfl (by rw [hml]; rfl) (argsL := [(.int p5)]) (rest := [(.ref b918)]) (lenOf own_pd12 rfl) rfl (by show 2 * 0 + _ ≤ _; exact Nat.le_of_eq rfl) (hb hby at_68) (fun _ _ => ⟨rfl, rfl, (by decide : 5 + 1 ≤ _), (by decide : 16 + 1 ≤ _)⟩)
    dsimp only [Pt.U, Pt.locs, Pt.cells, Pt.slots] at X1021 l1021 y1021 z1021 st1021 hQ1021
    subst l1021 y1021 z1021
    obtain ⟨x1023, N1021q, rfl, K1021, q1024, q1025⟩ := hQ1021
    have N1026 := Fr.app N1014 N1021q
    refine own_st st1021 ?_
    have lt1027 : b918 < T1021.heap.size := Nat.lt_of_lt_of_le q1012.lt K1021.1
    have lt1028 : x935 < T1021.heap.size := Nat.lt_of_lt_of_le lt1016 K1021.1
    have lt1029 : x947 < T1021.heap.size := Nat.lt_of_lt_of_le q1013.lt K1021.1
    have lt1030 : x966 < T1021.heap.size := Nat.lt_of_lt_of_le lt1018 K1021.1
    have lt1031 : x994 < T1021.heap.size := Nat.lt_of_lt_of_le lt1019 K1021.1
    have Zs1032 : n0 ≤ T1021.heap.size := Nat.le_trans Zs1020 K1021.1
    obtain ⟨Lp1033, Xp1033, Np1033⟩ : ∃ L, Stand p l e room_1 s m #[(.int p1), (.int p2), (.int p3), (.int p4), (.int p5), (.int p6)] below meth c T1021 L 6 17 ∧ Fr n0 L := ⟨_, X1021, N1026⟩
    show own_Go p e below s _ _ _ (T1021.setTop (mkF m 71 #[.val (.int p1), .val (.int p2), .val (.int p3), .val (.int p4), .val (.int p5), .val (.int p6), .val (.int (4 : Int32)), .val (.ref b918), .unset, .unset, .unset] [(.ref x1023), (.ref b918)]))
    have F1035 : Exa Z T1021.heap b918 "java/util/ArrayList" := (q1009.keep K1021)
    have F1036 : Fld Z T1021.heap b918 "java/util/AbstractList" "modCount" "I" (.int ((((0 : Int32) + (1 : Int32)) + (1 : Int32)) + (1 : Int32))) := (q1010.keep K1021 nin0)
    have F1037 : Fld Z T1021.heap b918 "java/util/ArrayList" "elementData" "[Ljava/lang/Object;" (.ref x947) := (q1011.keep K1021 nin0)
    have F1038 : Fld Z T1021.heap b918 "java/util/ArrayList" "size" "I" (.int (3 : Int32)) := (q1012.keep K1021 nin0)
    have F1039 : Arv Z T1021.heap x947 x948 (.object "java/lang/Object") (10 : Int32) [(.ref x935), (.ref x966), (.ref x994), .null, .null, .null, .null, .null, .null, .null] .null := (q1013.keep K1021 nin0)
    obtain ⟨cq1034, kq1034, q1034a, q1034b, q1034c⟩ := isOf hZ rfl F1035
    obtain ⟨_, _, ⟨T1034, L1034, k1034, n1034⟩, -, X1034, ⟨Lc1034, hQ1034, l1034, y1034, z1034⟩, st1034⟩ := Xp1033.virtualBack hx (y := (⟨"java/util/ArrayList", "add", "(Ljava/lang/Object;)Z"⟩ : MethodName)) (z := (⟨"java/util/ArrayList", "add", "(Ljava/lang/Object;)Z"⟩ : MethodName)) hown (mvT hZ (hw _ (List.mem_of_getElem? (i := 33) rfl))) (mvT hZ (hw _ (List.mem_of_getElem? (i := 34) rfl))) (notFace_of_selects (args := #[]) (mvT hZ (hw _ (List.mem_of_getElem? (i := 36) rfl)))) (mvT hZ (hw _ (List.mem_of_getElem? (i := 36) rfl))) (mvT hZ (hw _ (List.mem_of_getElem? (i := 35) rfl))) (by decide) (backOf (W := 0) (own_rm_add1_3 l Z a0 hw [] b918 x1023 x947 x948 ((((0 : Int32) + (1 : Int32)) + (1 : Int32)) + (1 : Int32)) x935 x966 x994 T1021.heap n0 Zs1032 F1035 F1036 F1037 F1038 F1039 q956 g920 g963 ne961 q1024) hZ (hw _ (List.mem_of_getElem? (i := 37) rfl)) (hw _ (List.mem_of_getElem? (i := 2) rfl)) (by decide) (by decide)) q1034a q1034c (g := (mkF m 71 #[.val (.int p1), .val (.int p2), .val (.int p3), .val (.int p4), .val (.int p5), .val (.int p6), .val (.int (4 : Int32)), .val (.ref b918), .unset, .unset, .unset] [(.ref x1023), (.ref b918)])) rfl (by rw [hml]; rfl) (Steps.refl _) (argsL := [(.ref x1023)]) (rest := []) (lenOf own_pd13 rfl) rfl (by show 2 * 0 + _ ≤ _; exact Nat.le_of_eq rfl) (hb hby at_71) (fun _ _ => ⟨rfl, rfl, (by decide : 6 + 0 ≤ _), (by decide : 17 + 0 ≤ _)⟩)
    dsimp only [Pt.U, Pt.locs, Pt.cells, Pt.slots] at X1034 l1034 y1034 z1034 st1034 hQ1034
    subst l1034 y1034 z1034
    obtain ⟨N1034q, rfl, K1034, q1040, q1041, q1042, q1043, q1044⟩ := hQ1034
    have N1045 := Fr.app Np1033 N1034q
    refine own_tr st1034 ?_
    have lt1046 : b918 < T1034.heap.size := Nat.lt_of_lt_of_le lt1027 K1034.1
    have lt1047 : x935 < T1034.heap.size := Nat.lt_of_lt_of_le lt1028 K1034.1
    have lt1048 : x947 < T1034.heap.size := Nat.lt_of_lt_of_le lt1029 K1034.1
    have lt1049 : x966 < T1034.heap.size := Nat.lt_of_lt_of_le lt1030 K1034.1
    have lt1050 : x994 < T1034.heap.size := Nat.lt_of_lt_of_le lt1031 K1034.1
    have lt1051 : x1023 < T1034.heap.size := Nat.lt_of_lt_of_le q1025.lt K1034.1
    have Zs1052 : n0 ≤ T1034.heap.size := Nat.le_trans Zs1032 K1034.1
    show own_Go p e below s _ _ _ (T1034.setTop (mkF m 74 #[.val (.int p1), .val (.int p2), .val (.int p3), .val (.int p4), .val (.int p5), .val (.int p6), .val (.int (4 : Int32)), .val (.ref b918), .unset, .unset, .unset] [(.int (1 : Int32))]))
    refine own_st (fun _ kQ => XT.pop X1034.here hx rfl (hb hby at_74) rfl rfl kQ) ?_
    show own_Go p e below s _ _ _ (T1034.setTop (mkF m 75 #[.val (.int p1), .val (.int p2), .val (.int p3), .val (.int p4), .val (.int p5), .val (.int p6), .val (.int (4 : Int32)), .val (.ref b918), .unset, .unset, .unset] []))
    refine own_st (fun _ kQ => XS.iload X1034.here hx rfl (hb hby at_75) rfl kQ) ?_
    show own_Go p e below s _ _ _ (T1034.setTop (mkF m 77 #[.val (.int p1), .val (.int p2), .val (.int p3), .val (.int p4), .val (.int p5), .val (.int p6), .val (.int (4 : Int32)), .val (.ref b918), .unset, .unset, .unset] [(.int (4 : Int32))]))
    refine own_st (fun _ kQ => XT.iconstV X1034.here hx rfl (1 : Int32) (hb hby at_77) (by decide) kQ) ?_
    show own_Go p e below s _ _ _ (T1034.setTop (mkF m 78 #[.val (.int p1), .val (.int p2), .val (.int p3), .val (.int p4), .val (.int p5), .val (.int p6), .val (.int (4 : Int32)), .val (.ref b918), .unset, .unset, .unset] [(.int (1 : Int32)), (.int (4 : Int32))]))
    refine own_st (fun _ kQ => XS.icmpYes X1034.here hx rfl (pc0 := 78) (pc' := 87) rfl (hb hby at_78) rfl (XT.ii_ne_t (by decide)) (by decide) (by decide) kQ) ?_
    show own_Go p e below s _ _ _ (T1034.setTop (mkF m 87 #[.val (.int p1), .val (.int p2), .val (.int p3), .val (.int p4), .val (.int p5), .val (.int p6), .val (.int (4 : Int32)), .val (.ref b918), .unset, .unset, .unset] []))
    refine own_st (fun _ kQ => XS.iload X1034.here hx rfl (hb hby at_87) rfl kQ) ?_
    show own_Go p e below s _ _ _ (T1034.setTop (mkF m 89 #[.val (.int p1), .val (.int p2), .val (.int p3), .val (.int p4), .val (.int p5), .val (.int p6), .val (.int (4 : Int32)), .val (.ref b918), .unset, .unset, .unset] [(.int (4 : Int32))]))
    refine own_st (fun _ kQ => XT.iconstV X1034.here hx rfl (2 : Int32) (hb hby at_89) (by decide) kQ) ?_
    show own_Go p e below s _ _ _ (T1034.setTop (mkF m 90 #[.val (.int p1), .val (.int p2), .val (.int p3), .val (.int p4), .val (.int p5), .val (.int p6), .val (.int (4 : Int32)), .val (.ref b918), .unset, .unset, .unset] [(.int (2 : Int32)), (.int (4 : Int32))]))
    refine own_st (fun _ kQ => XS.icmpYes X1034.here hx rfl (pc0 := 90) (pc' := 99) rfl (hb hby at_90) rfl (XT.ii_ne_t (by decide)) (by decide) (by decide) kQ) ?_
    show own_Go p e below s _ _ _ (T1034.setTop (mkF m 99 #[.val (.int p1), .val (.int p2), .val (.int p3), .val (.int p4), .val (.int p5), .val (.int p6), .val (.int (4 : Int32)), .val (.ref b918), .unset, .unset, .unset] []))
    refine own_st (fun _ kQ => XS.iload X1034.here hx rfl (hb hby at_99) rfl kQ) ?_
    show own_Go p e below s _ _ _ (T1034.setTop (mkF m 101 #[.val (.int p1), .val (.int p2), .val (.int p3), .val (.int p4), .val (.int p5), .val (.int p6), .val (.int (4 : Int32)), .val (.ref b918), .unset, .unset, .unset] [(.int (4 : Int32))]))
    refine own_st (fun _ kQ => XT.iconstV X1034.here hx rfl (3 : Int32) (hb hby at_101) (by decide) kQ) ?_
    show own_Go p e below s _ _ _ (T1034.setTop (mkF m 102 #[.val (.int p1), .val (.int p2), .val (.int p3), .val (.int p4), .val (.int p5), .val (.int p6), .val (.int (4 : Int32)), .val (.ref b918), .unset, .unset, .unset] [(.int (3 : Int32)), (.int (4 : Int32))]))
    refine own_st (fun _ kQ => XS.icmpYes X1034.here hx rfl (pc0 := 102) (pc' := 111) rfl (hb hby at_102) rfl (XT.ii_ne_t (by decide)) (by decide) (by decide) kQ) ?_
    show own_Go p e below s _ _ _ (T1034.setTop (mkF m 111 #[.val (.int p1), .val (.int p2), .val (.int p3), .val (.int p4), .val (.int p5), .val (.int p6), .val (.int (4 : Int32)), .val (.ref b918), .unset, .unset, .unset] []))
    refine own_st (fun _ kQ => XS.iload X1034.here hx rfl (hb hby at_111) rfl kQ) ?_
    show own_Go p e below s _ _ _ (T1034.setTop (mkF m 113 #[.val (.int p1), .val (.int p2), .val (.int p3), .val (.int p4), .val (.int p5), .val (.int p6), .val (.int (4 : Int32)), .val (.ref b918), .unset, .unset, .unset] [(.int p5)]))
    refine own_st (fun _ kQ => XS.istore X1034.here hx rfl (hb hby at_113) rfl (l' := #[.val (.int p1), .val (.int p2), .val (.int p3), .val (.int p4), .val (.int p5), .val (.int p6), .val (.int (4 : Int32)), .val (.ref b918), .val (.int p5), .unset, .unset]) rfl kQ) ?_
    show own_Go p e below s _ _ _ (T1034.setTop (mkF m 115 #[.val (.int p1), .val (.int p2), .val (.int p3), .val (.int p4), .val (.int p5), .val (.int p6), .val (.int (4 : Int32)), .val (.ref b918), .val (.int p5), .unset, .unset] []))
    obtain ⟨T1053, h1053, X1053, e1053, E1053, A1053, D1053, -, st1053⟩ := newO X1034 hx hZ hown (hw _ (List.mem_of_getElem? (i := 64) rfl)) (hw _ (List.mem_of_getElem? (i := 65) rfl)) (hw _ (List.mem_of_getElem? (i := 66) rfl)) rfl (g := (mkF m 115 #[.val (.int p1), .val (.int p2), .val (.int p3), .val (.int p4), .val (.int p5), .val (.int p6), .val (.int (4 : Int32)), .val (.ref b918), .val (.int p5), .unset, .unset] [])) rfl (hb hby at_115) (by decide) (by decide)
    obtain ⟨b1053, g1053⟩ : ∃ z, z = T1034.heap.size := ⟨_, rfl⟩
    rw [← g1053] at A1053 D1053 st1053
    refine own_st st1053 ?_
    have lt1054 : b918 < h1053.size := Nat.lt_of_lt_of_le q1043.lt E1053.1
    have lt1055 : x935 < h1053.size := Nat.lt_of_lt_of_le lt1047 E1053.1
    have lt1056 : x947 < h1053.size := Nat.lt_of_lt_of_le q1044.lt E1053.1
    have lt1057 : x966 < h1053.size := Nat.lt_of_lt_of_le lt1049 E1053.1
    have lt1058 : x994 < h1053.size := Nat.lt_of_lt_of_le lt1050 E1053.1
    have lt1059 : x1023 < h1053.size := Nat.lt_of_lt_of_le lt1051 E1053.1
    have Zs1060 : n0 ≤ h1053.size := Nat.le_trans Zs1052 E1053.1
    have ne1061 : b918 ≠ b1053 := Nat.ne_of_lt (Nat.lt_of_lt_of_le q1043.lt (Nat.le_of_eq g1053.symm))
    have ne1062 : x935 ≠ b1053 := Nat.ne_of_lt (Nat.lt_of_lt_of_le lt1047 (Nat.le_of_eq g1053.symm))
    have ne1063 : x947 ≠ b1053 := Nat.ne_of_lt (Nat.lt_of_lt_of_le q1044.lt (Nat.le_of_eq g1053.symm))
    have ne1064 : x966 ≠ b1053 := Nat.ne_of_lt (Nat.lt_of_lt_of_le lt1049 (Nat.le_of_eq g1053.symm))
    have ne1065 : x994 ≠ b1053 := Nat.ne_of_lt (Nat.lt_of_lt_of_le lt1050 (Nat.le_of_eq g1053.symm))
    have ne1066 : x1023 ≠ b1053 := Nat.ne_of_lt (Nat.lt_of_lt_of_le lt1051 (Nat.le_of_eq g1053.symm))
    have g1067 : n0 ≤ b1053 := Nat.le_trans Zs1052 (Nat.le_of_eq g1053.symm)
    have F1068 : Fld Z h1053 b1053 "com/example/rationed_session/rationedsession/model/Partition" "number" "I" (.int (0 : Int32)) := D1053 (Or.inr (hw _ (List.mem_of_getElem? (i := 72) rfl))) (ty := .int) (by decide)
    have F1069 : Fld Z h1053 b1053 "com/example/rationed_session/rationedsession/model/Partition" "firstIndex" "I" (.int (0 : Int32)) := D1053 (Or.inr (hw _ (List.mem_of_getElem? (i := 74) rfl))) (ty := .int) (by decide)
    have F1070 : Fld Z h1053 b1053 "com/example/rationed_session/rationedsession/model/Partition" "inputs" "Ljava/util/List;" .null := D1053 (Or.inr (hw _ (List.mem_of_getElem? (i := 119) rfl))) (ty := (.object "java/util/List")) (by decide)
    show own_Go p e below s _ _ _ (T1053.setTop (mkF m 118 #[.val (.int p1), .val (.int p2), .val (.int p3), .val (.int p4), .val (.int p5), .val (.int p6), .val (.int (4 : Int32)), .val (.ref b918), .val (.int p5), .unset, .unset] [(.ref b1053)]))
    refine own_st (fun _ kQ => XS.dup X1053.here hx rfl (hb hby at_118) rfl rfl kQ) ?_
    show own_Go p e below s _ _ _ (T1053.setTop (mkF m 119 #[.val (.int p1), .val (.int p2), .val (.int p3), .val (.int p4), .val (.int p5), .val (.int p6), .val (.int (4 : Int32)), .val (.ref b918), .val (.int p5), .unset, .unset] [(.ref b1053), (.ref b1053)]))
    refine own_st (fun _ kQ => XS.iload X1053.here hx rfl (hb hby at_119) rfl kQ) ?_
    show own_Go p e below s _ _ _ (T1053.setTop (mkF m 121 #[.val (.int p1), .val (.int p2), .val (.int p3), .val (.int p4), .val (.int p5), .val (.int p6), .val (.int (4 : Int32)), .val (.ref b918), .val (.int p5), .unset, .unset] [(.int p6), (.ref b1053), (.ref b1053)]))
    refine own_st (fun _ kQ => XS.iloadN X1053.here hx rfl (hb hby at_121) rfl kQ) ?_
    show own_Go p e below s _ _ _ (T1053.setTop (mkF m 122 #[.val (.int p1), .val (.int p2), .val (.int p3), .val (.int p4), .val (.int p5), .val (.int p6), .val (.int (4 : Int32)), .val (.ref b918), .val (.int p5), .unset, .unset] [(.int p2), (.int p6), (.ref b1053), (.ref b1053)]))
    refine own_st (fun _ kQ => XS.aload X1053.here hx rfl (hb hby at_122) rfl rfl kQ) ?_
    show own_Go p e below s _ _ _ (T1053.setTop (mkF m 124 #[.val (.int p1), .val (.int p2), .val (.int p3), .val (.int p4), .val (.int p5), .val (.int p6), .val (.int (4 : Int32)), .val (.ref b918), .val (.int p5), .unset, .unset] [(.ref b918), (.int p2), (.int p6), (.ref b1053), (.ref b1053)]))
    have F1072 : Exa Z h1053 b918 "java/util/ArrayList" := (q1040.ext E1053)
    obtain ⟨_, _, ⟨T1071, L1071, k1071, n1071⟩, -, X1071, ⟨Lc1071, hQ1071, l1071, y1071, z1071⟩, st1071⟩ := X1053.specialBack hx (y := (⟨"com/example/rationed_session/rationedsession/model/Partition", "<init>", "(IILjava/util/List;)V"⟩ : MethodName)) rfl hown (mvT hZ (hw _ (List.mem_of_getElem? (i := 67) rfl))) (mvT hZ (hw _ (List.mem_of_getElem? (i := 68) rfl))) (mvT hZ (hw _ (List.mem_of_getElem? (i := 69) rfl))) (by decide) (backOf (W := 1) (own_rm_pinitU l Z a0 hw [] b1053 p6 p2 b918 mA mL mR h1053 n0 Zs1060 M_AL M_UL M_UR h1 h2 A1053 F1072 F1068 F1069 F1070 g1067) hZ (hw _ (List.mem_of_getElem? (i := 69) rfl)) (hw _ (List.mem_of_getElem? (i := 66) rfl)) (by decide) (by decide)) (g := (mkF m 124 #[.val (.int p1), .val (.int p2), .val (.int p3), .val (.int p4), .val (.int p5), .val (.int p6), .val (.int (4 : Int32)), .val (.ref b918), .val (.int p5), .unset, .unset] [(.ref b918), (.int p2), (.int p6), (.ref b1053), (.ref b1053)])) rfl (by rw [hml]; rfl) (Steps.refl _) (a := b1053) (argsL := [(.int p6), (.int p2), (.ref b918)]) (rest := [(.ref b1053)]) (lenOf own_pd14 rfl) rfl (by show 2 * 0 + _ ≤ _; exact Nat.le_of_eq rfl) (hb hby at_124) (fun _ _ => ⟨rfl, e1053, (by decide : 7 + 1 ≤ _), (by decide : 20 + 2 ≤ _)⟩)
    dsimp only [Pt.U, Pt.locs, Pt.cells, Pt.slots] at X1071 l1071 y1071 z1071 st1071 hQ1071
    subst l1071 y1071 z1071
    obtain ⟨x1073, N1071q, rfl, K1071, q1074, q1075, q1076, q1077, q1078, q1079, q1080, q1081⟩ := hQ1071
    have N1082 := Fr.app N1045 N1071q
    refine own_tr st1071 ?_
    have lt1083 : b918 < T1071.heap.size := Nat.lt_of_lt_of_le lt1054 K1071.1
    have lt1084 : x935 < T1071.heap.size := Nat.lt_of_lt_of_le lt1055 K1071.1
    have lt1085 : x947 < T1071.heap.size := Nat.lt_of_lt_of_le lt1056 K1071.1
    have lt1086 : x966 < T1071.heap.size := Nat.lt_of_lt_of_le lt1057 K1071.1
    have lt1087 : x994 < T1071.heap.size := Nat.lt_of_lt_of_le lt1058 K1071.1
    have lt1088 : x1023 < T1071.heap.size := Nat.lt_of_lt_of_le lt1059 K1071.1
    have lt1089 : b1053 < T1071.heap.size := Nat.lt_of_lt_of_le A1053.lt K1071.1
    have Zs1090 : n0 ≤ T1071.heap.size := Nat.le_trans Zs1060 K1071.1
    have ne1091 : b918 ≠ x1073 := Nat.ne_of_lt (Nat.lt_of_lt_of_le lt1054 q1078)
    have ne1092 : x935 ≠ x1073 := Nat.ne_of_lt (Nat.lt_of_lt_of_le lt1055 q1078)
    have ne1093 : x947 ≠ x1073 := Nat.ne_of_lt (Nat.lt_of_lt_of_le lt1056 q1078)
    have ne1094 : x966 ≠ x1073 := Nat.ne_of_lt (Nat.lt_of_lt_of_le lt1057 q1078)
    have ne1095 : x994 ≠ x1073 := Nat.ne_of_lt (Nat.lt_of_lt_of_le lt1058 q1078)
    have ne1096 : x1023 ≠ x1073 := Nat.ne_of_lt (Nat.lt_of_lt_of_le lt1059 q1078)
    have ne1097 : b1053 ≠ x1073 := Nat.ne_of_lt (Nat.lt_of_lt_of_le A1053.lt q1078)
    have g1098 : n0 ≤ x1073 := Nat.le_trans Zs1060 q1078
    show own_Go p e below s _ _ _ (T1071.setTop (mkF m 127 #[.val (.int p1), .val (.int p2), .val (.int p3), .val (.int p4), .val (.int p5), .val (.int p6), .val (.int (4 : Int32)), .val (.ref b918), .val (.int p5), .unset, .unset] [(.ref b1053)]))
    refine own_st (fun _ kQ => XS.astore X1071.here hx rfl (hb hby at_127) rfl rfl (l' := #[.val (.int p1), .val (.int p2), .val (.int p3), .val (.int p4), .val (.int p5), .val (.int p6), .val (.int (4 : Int32)), .val (.ref b918), .val (.int p5), .val (.ref b1053), .unset]) rfl kQ) ?_
    show own_Go p e below s _ _ _ (T1071.setTop (mkF m 129 #[.val (.int p1), .val (.int p2), .val (.int p3), .val (.int p4), .val (.int p5), .val (.int p6), .val (.int (4 : Int32)), .val (.ref b918), .val (.int p5), .val (.ref b1053), .unset] []))
    refine own_st (fun _ kQ => XS.aload X1071.here hx rfl (hb hby at_129) rfl rfl kQ) ?_
    show own_Go p e below s _ _ _ (T1071.setTop (mkF m 131 #[.val (.int p1), .val (.int p2), .val (.int p3), .val (.int p4), .val (.int p5), .val (.int p6), .val (.int (4 : Int32)), .val (.ref b918), .val (.int p5), .val (.ref b1053), .unset] [(.ref b1053)]))
    have F1100 : Exa Z T1071.heap b918 "java/util/ArrayList" := (F1072.keep K1071)
    have F1101 : Fld Z T1071.heap b918 "java/util/ArrayList" "elementData" "[Ljava/lang/Object;" (.ref x947) := ((q1042.ext E1053).keep K1071 (ninS ne1061 nin0))
    have F1102 : Fld Z T1071.heap b918 "java/util/ArrayList" "size" "I" (.int (4 : Int32)) := ((q1043.ext E1053).keep K1071 (ninS ne1061 nin0))
    have F1103 : Arv Z T1071.heap x947 x948 (.object "java/lang/Object") (10 : Int32) [(.ref x935), (.ref x966), (.ref x994), (.ref x1023), .null, .null, .null, .null, .null, .null] .null := ((q1044.ext E1053).keep K1071 (ninS ne1063 nin0))
    obtain ⟨cq1099, kq1099, q1099a, q1099b, q1099c⟩ := isOf hZ rfl q1074
    obtain ⟨_, _, ⟨T1099, L1099, k1099, n1099⟩, -, X1099, ⟨Lc1099, hQ1099, l1099, y1099, z1099⟩, st1099⟩ := X1071.virtualBack hx (y := (⟨"com/example/rationed_session/rationedsession/model/Partition", "last", "()Ljava/lang/Object;"⟩ : MethodName)) (z := (⟨"com/example/rationed_session/rationedsession/model/Partition", "last", "()Ljava/lang/Object;"⟩ : MethodName)) hown (mvT hZ (hw _ (List.mem_of_getElem? (i := 120) rfl))) (mvT hZ (hw _ (List.mem_of_getElem? (i := 121) rfl))) (notFace_of_selects (args := #[]) (mvT hZ (hw _ (List.mem_of_getElem? (i := 123) rfl)))) (mvT hZ (hw _ (List.mem_of_getElem? (i := 123) rfl))) (mvT hZ (hw _ (List.mem_of_getElem? (i := 122) rfl))) (by decide) (backOf (W := 0) (own_rm_lastU4 l Z a0 hw [] x1073 b1053 b918 x947 x948 x935 x966 x994 x1023 T1071.heap n0 Zs1090 q1077 q1079 q1080 q1081 F1100 F1101 F1102 F1103) hZ (hw _ (List.mem_of_getElem? (i := 124) rfl)) (hw _ (List.mem_of_getElem? (i := 66) rfl)) (by decide) (by decide)) q1099a q1099c (g := (mkF m 131 #[.val (.int p1), .val (.int p2), .val (.int p3), .val (.int p4), .val (.int p5), .val (.int p6), .val (.int (4 : Int32)), .val (.ref b918), .val (.int p5), .val (.ref b1053), .unset] [(.ref b1053)])) rfl (by rw [hml]; rfl) (Steps.refl _) (argsL := []) (rest := []) (lenOf own_pd15 rfl) rfl (by show 2 * 0 + _ ≤ _; exact Nat.le_of_eq rfl) (hb hby at_131) (fun _ _ => ⟨rfl, rfl, (by decide : 8 + 0 ≤ _), (by decide : 22 + 0 ≤ _)⟩)
    dsimp only [Pt.U, Pt.locs, Pt.cells, Pt.slots] at X1099 l1099 y1099 z1099 st1099 hQ1099
    subst l1099 y1099 z1099
    obtain ⟨N1099q, rfl, eh1099⟩ := hQ1099
    have N1104 := Fr.app N1082 N1099q
    refine own_tr st1099 ?_
    show own_Go p e below s _ _ _ (T1099.setTop (mkF m 134 #[.val (.int p1), .val (.int p2), .val (.int p3), .val (.int p4), .val (.int p5), .val (.int p6), .val (.int (4 : Int32)), .val (.ref b918), .val (.int p5), .val (.ref b1053), .unset] [(.ref x1023)]))
    have F1106 : Exa Z T1071.heap x1023 "java/lang/Integer" := (((q1024.keep K1034).ext E1053).keep K1071)
    obtain ⟨T1105, X1105, e1105, st1105⟩ := castY X1099 hx hZ hown (hw _ (List.mem_of_getElem? (i := 170) rfl)) eh1099 (Ins.self F1106) (g := (mkF m 134 #[.val (.int p1), .val (.int p2), .val (.int p3), .val (.int p4), .val (.int p5), .val (.int p6), .val (.int (4 : Int32)), .val (.ref b918), .val (.int p5), .val (.ref b1053), .unset] [(.ref x1023)])) rfl rfl (hb hby at_134)
    refine own_st st1105 ?_
    show own_Go p e below s _ _ _ (T1105.setTop (mkF m 137 #[.val (.int p1), .val (.int p2), .val (.int p3), .val (.int p4), .val (.int p5), .val (.int p6), .val (.int (4 : Int32)), .val (.ref b918), .val (.int p5), .val (.ref b1053), .unset] [(.ref x1023)]))
    refine own_st (fun _ kQ => XS.astore X1105.here hx rfl (hb hby at_137) rfl rfl (l' := #[.val (.int p1), .val (.int p2), .val (.int p3), .val (.int p4), .val (.int p5), .val (.int p6), .val (.int (4 : Int32)), .val (.ref b918), .val (.int p5), .val (.ref b1053), .val (.ref x1023)]) rfl kQ) ?_
    show own_Go p e below s _ _ _ (T1105.setTop (mkF m 139 #[.val (.int p1), .val (.int p2), .val (.int p3), .val (.int p4), .val (.int p5), .val (.int p6), .val (.int (4 : Int32)), .val (.ref b918), .val (.int p5), .val (.ref b1053), .val (.ref x1023)] []))
    refine own_st (fun _ kQ => XS.aload X1105.here hx rfl (hb hby at_139) rfl rfl kQ) ?_
    show own_Go p e below s _ _ _ (T1105.setTop (mkF m 141 #[.val (.int p1), .val (.int p2), .val (.int p3), .val (.int p4), .val (.int p5), .val (.int p6), .val (.int (4 : Int32)), .val (.ref b918), .val (.int p5), .val (.ref b1053), .val (.ref x1023)] [(.ref x1023)]))
    refine own_st (fun _ kQ => XS.ifnullNo X1105.here hx rfl (hb hby at_141) rfl kQ) ?_
    show own_Go p e below s _ _ _ (T1105.setTop (mkF m 144 #[.val (.int p1), .val (.int p2), .val (.int p3), .val (.int p4), .val (.int p5), .val (.int p6), .val (.int (4 : Int32)), .val (.ref b918), .val (.int p5), .val (.ref b1053), .val (.ref x1023)] []))
    refine own_st (fun _ kQ => XS.aload X1105.here hx rfl (hb hby at_144) rfl rfl kQ) ?_
    show own_Go p e below s _ _ _ (T1105.setTop (mkF m 146 #[.val (.int p1), .val (.int p2), .val (.int p3), .val (.int p4), .val (.int p5), .val (.int p6), .val (.int (4 : Int32)), .val (.ref b918), .val (.int p5), .val (.ref b1053), .val (.ref x1023)] [(.ref x1023)]))
    have F1108 : Exa Z T1071.heap x947 "[Ljava/lang/Object;" := ((((((((q954.keep K964).keep K975).keep K992).keep K1003).keep K1021).keep K1034).ext E1053).keep K1071)
    have ne1109 : x1023 ≠ x947 := ne_exa F1106 F1108 (by decide)
    have ne1110 : x1023 ≠ b918 := ne_exa F1106 F1100 (by decide)
    have F1111 : Fld Z T1071.heap x1023 "java/lang/Integer" "value" "I" (.int p5) := (((q1025.keep K1034 (ninS ne1110 (ninS ne1109 nin0))).ext E1053).keep K1071 (ninS ne1066 nin0))
    obtain ⟨cq1107, kq1107, q1107a, q1107b, q1107c⟩ := isOf hZ e1105 F1106
    obtain ⟨_, _, ⟨T1107, L1107, k1107, n1107⟩, -, X1107, ⟨Lc1107, hQ1107, l1107, y1107, z1107⟩, st1107⟩ := X1105.virtualBack hx (y := (⟨"java/lang/Integer", "intValue", "()I"⟩ : MethodName)) (z := (⟨"java/lang/Integer", "intValue", "()I"⟩ : MethodName)) hown (mvT hZ (hw _ (List.mem_of_getElem? (i := 172) rfl))) (mvT hZ (hw _ (List.mem_of_getElem? (i := 173) rfl))) (notFace_of_selects (args := #[]) (mvT hZ (hw _ (List.mem_of_getElem? (i := 175) rfl)))) (mvT hZ (hw _ (List.mem_of_getElem? (i := 175) rfl))) (mvT hZ (hw _ (List.mem_of_getElem? (i := 174) rfl))) (by decide) (backOf (W := 0) (own_rm_iv l Z a0 hw [] x1023 p5 T1071.heap n0 Zs1090 F1111) hZ (hw _ (List.mem_of_getElem? (i := 176) rfl)) (hw _ (List.mem_of_getElem? (i := 28) rfl)) (by decide) (by decide)) q1107a q1107c (g := (mkF m 146 #[.val (.int p1), .val (.int p2), .val (.int p3), .val (.int p4), .val (.int p5), .val (.int p6), .val (.int (4 : Int32)), .val (.ref b918), .val (.int p5), .val (.ref b1053), .val (.ref x1023)] [(.ref x1023)])) rfl (by rw [hml]; rfl) (Steps.refl _) (argsL := []) (rest := []) (lenOf own_pd6 rfl) rfl (by show 2 * 0 + _ ≤ _; exact Nat.le_of_eq rfl) (hb hby at_146) (fun _ _ => ⟨rfl, e1105, (by decide : 8 + 0 ≤ _), (by decide : 22 + 0 ≤ _)⟩)
    dsimp only [Pt.U, Pt.locs, Pt.cells, Pt.slots] at X1107 l1107 y1107 z1107 st1107 hQ1107
    subst l1107 y1107 z1107
    obtain ⟨N1107q, rfl, eh1107⟩ := hQ1107
    have N1112 := Fr.app N1104 N1107q
    refine own_tr st1107 ?_
    obtain ⟨Lp1113, Xp1113, Np1113⟩ : ∃ L, Stand p l e room_1 s m #[(.int p1), (.int p2), (.int p3), (.int p4), (.int p5), (.int p6)] below meth c T1107 L 8 22 ∧ Fr n0 L := ⟨_, X1107, N1112⟩
    show own_Go p e below s _ _ _ (T1107.setTop (mkF m 149 #[.val (.int p1), .val (.int p2), .val (.int p3), .val (.int p4), .val (.int p5), .val (.int p6), .val (.int (4 : Int32)), .val (.ref b918), .val (.int p5), .val (.ref b1053), .val (.ref x1023)] [(.int p5)]))
    refine own_st (fun _ kQ => XS.iload Xp1113.here hx rfl (hb hby at_149) rfl kQ) ?_
    show own_Go p e below s _ _ _ (T1107.setTop (mkF m 151 #[.val (.int p1), .val (.int p2), .val (.int p3), .val (.int p4), .val (.int p5), .val (.int p6), .val (.int (4 : Int32)), .val (.ref b918), .val (.int p5), .val (.ref b1053), .val (.ref x1023)] [(.int p5), (.int p5)]))
    refine own_st (fun _ kQ => XS.icmpNo Xp1113.here hx rfl (hb hby at_151) rfl (XT.ii_ne_f rfl) kQ) ?_
    show own_Go p e below s _ _ _ (T1107.setTop (mkF m 154 #[.val (.int p1), .val (.int p2), .val (.int p3), .val (.int p4), .val (.int p5), .val (.int p6), .val (.int (4 : Int32)), .val (.ref b918), .val (.int p5), .val (.ref b1053), .val (.ref x1023)] []))
    refine own_st (fun _ kQ => XT.iconstV Xp1113.here hx rfl (1 : Int32) (hb hby at_154) (by decide) kQ) ?_
    show own_Go p e below s _ _ _ (T1107.setTop (mkF m 155 #[.val (.int p1), .val (.int p2), .val (.int p3), .val (.int p4), .val (.int p5), .val (.int p6), .val (.int (4 : Int32)), .val (.ref b918), .val (.int p5), .val (.ref b1053), .val (.ref x1023)] [(.int (1 : Int32))]))
    refine own_st (fun _ kQ => XS.goto Xp1113.here hx rfl (pc0 := 155) (pc' := 159) rfl (hb hby at_155) (by decide) (by decide) kQ) ?_
    show own_Go p e below s _ _ _ (T1107.setTop (mkF m 159 #[.val (.int p1), .val (.int p2), .val (.int p3), .val (.int p4), .val (.int p5), .val (.int p6), .val (.int (4 : Int32)), .val (.ref b918), .val (.int p5), .val (.ref b1053), .val (.ref x1023)] [(.int (1 : Int32))]))
    refine own_retN Xp1113 hx hlk Bd.returns (t := .boolean) (z' := (1 : Int32)) (by simp) (by decide) (hb hby at_159) (by decide) (by decide) ?_
    rw [eh1107]
    exact ⟨Np1113, rfl⟩
set_option maxRecDepth 65536 in
set_option maxHeartbeats 40000000 in
theorem comes_1 {Post : Tables → Env → Array Value → State → Outcome → State → Prop} (hpost : ∀ tb e args s v u, (limb_1_1.after args s (.returned v) u = true ∧ limb_1_2.after args s (.returned v) u = true ∧ True) → FrameEnd s (.returned v) u (Jvm.fieldLocs frame_1_writes args s ++ Jvm.arrayLocs frame_1_arrays args s ++ Jvm.staticLocs frame_1_statics s) 24 128 → Post tb e args s (.returned v) u) :
    ArmFor flags0 classFile x code maxLocals ret World_1 tables_1 room_1 Calls_1 rest_1 Pre_1 Post := by
  intro l hfl _ _ p e ha hc hk s m args below hf hA hF happ hP
  obtain ⟨hcalls, hrest, hpre⟩ := hP
  obtain ⟨-, -, -, hnamed, -, -, -, hat⟩ := (Spec.applies_iff hf).mp happ
  obtain ⟨hg, hn⟩ := and_e (Cond.before_iff.mp (show (Jvm.Cond.and given_1 narrow_1).before args s = true from hpre))
  obtain ⟨gg0, hg0⟩ := and_e hg
  obtain ⟨gg1, hg1⟩ := and_e hg0
  obtain ⟨gg2, hg2⟩ := and_e hg1
  obtain ⟨gg3, hg3⟩ := and_e hg2
  obtain ⟨gg4, hg4⟩ := and_e hg3
  obtain ⟨gg5, hg5⟩ := and_e hg4
  obtain ⟨w0, w1, w2, w3, w4, w5, rfl⟩ : ∃ w0 w1 w2 w3 w4 w5 : Value, args = #[w0, w1, w2, w3, w4, w5] := by
    have hs : args.size = 6 := by simpa [Cond.value, given_1] using gg0
    obtain ⟨L⟩ := args
    match L, hs with
    | [w0, w1, w2, w3, w4, w5], _ => exact ⟨w0, w1, w2, w3, w4, w5, rfl⟩
  have hw := fun d (hd : d ∈ tables_1) => atoms_spec (ws := Jvm.Cond.code x code maxLocals ret :: tables_1) hat d (List.mem_cons_of_mem _ hd)
  have hfit : Fit s := fun {y c} hc i hi => by
    obtain ⟨ha, rfl⟩ := Array.getElem?_eq_some_iff.mp hc
    have q := List.all_eq_true.mp ((Array.all_eq_true_iff_forall_mem.mp hF) _ (Array.getElem_mem ha)) i (List.mem_range.mpr hi)
    simpa [Array.getElem?_eq_getElem hi] using q
  obtain ⟨i0, ei0⟩ := is_v gg1
  obtain rfl : w0 = (.int i0) := Option.some.inj ei0
  obtain ⟨i1, ei1⟩ := is_v gg2
  obtain rfl : w1 = (.int i1) := Option.some.inj ei1
  obtain ⟨i2, ei2⟩ := is_v gg3
  obtain rfl : w2 = (.int i2) := Option.some.inj ei2
  obtain ⟨i3, ei3⟩ := is_v gg4
  obtain rfl : w3 = (.int i3) := Option.some.inj ei3
  obtain ⟨i4, ei4⟩ := is_v gg5
  obtain rfl : w4 = (.int i4) := Option.some.inj ei4
  obtain ⟨i5, ei5⟩ := is_v hg5
  obtain rfl : w5 = (.int i5) := Option.some.inj ei5
  have hsets := (atoms_of jdkStatics_1 (rest_1_c_eq ▸ (show rest_1_c.before _ s = true from hrest))).1
  obtain ⟨a_cacheI, e_cacheI⟩ := arr_v (Cond.before_iff.mp (hsets _ (List.mem_of_getElem? (i := 13) rfl)))
  have S_cacheI : Sta s s.heap "java/lang/Integer$IntegerCache" "cache" "[Ljava/lang/Integer;" (.ref a_cacheI) := Sta.start e_cacheI (Or.inr ⟨(hw _ (List.mem_of_getElem? (i := 31) rfl)), (hsets _ (List.mem_of_getElem? (i := 11) rfl))⟩)
  have BxI : own_BoxI s a_cacheI := own_boxI e_cacheI (hsets _ (List.mem_of_getElem? (i := 13) rfl)) (hsets _ (List.mem_of_getElem? (i := 15) rfl)) (hsets _ (List.mem_of_getElem? (i := 16) rfl))
  have S_high : Sta s s.heap "java/lang/Integer$IntegerCache" "high" "I" (.int 127) := Sta.start (own_eqV (Cond.before_iff.mp (hsets _ (List.mem_of_getElem? (i := 12) rfl))) (Term.int_eval _)) (Or.inl (hsets _ (List.mem_of_getElem? (i := 10) rfl)))
  obtain ⟨dflt, e_dflt⟩ := arr_v (Cond.before_iff.mp (hsets _ (List.mem_of_getElem? (i := 6) rfl)))
  have S_es : Sta s s.heap "java/util/ArrayList" "DEFAULTCAPACITY_EMPTY_ELEMENTDATA" "[Ljava/lang/Object;" (.ref dflt) := Sta.start e_dflt (Or.inr ⟨(hw _ (List.mem_of_getElem? (i := 2) rfl)), (hsets _ (List.mem_of_getElem? (i := 2) rfl))⟩)
  obtain ⟨cl_es, A_es⟩ := Arr.start e_dflt (Cond.before_iff.mp (hsets _ (List.mem_of_getElem? (i := 6) rfl)))
  obtain ⟨l_es, z_es⟩ := IntBox.length_fwd (hsets _ (List.mem_of_getElem? (i := 8) rfl)) e_dflt A_es.1 A_es.2.1 A_es.2.2
  have V_es : Arv s s.heap dflt cl_es.cls (.object "java/lang/Object") (0 : Int32) [] .null := Arv.start hfit A_es l_es z_es (by decide) rfl trivial
  obtain ⟨c_M_AL, k_M_AL, mA, x1_M_AL, x2_M_AL, x3_M_AL, x_M_AL, y1_M_AL, y2_M_AL⟩ := hcalls.1
  have M_AL : own_Mi s "java/util/ArrayList" mA := ⟨c_M_AL, k_M_AL, x1_M_AL, x2_M_AL, x3_M_AL⟩
  obtain ⟨c_M_UL, k_M_UL, mL, x1_M_UL, x2_M_UL, x3_M_UL, x_M_UL, y1_M_UL, y2_M_UL⟩ := hcalls.2.1
  have M_UL : own_Mi s "java/util/Collections$UnmodifiableList" mL := ⟨c_M_UL, k_M_UL, x1_M_UL, x2_M_UL, x3_M_UL⟩
  obtain ⟨c_M_UR, k_M_UR, mR, x1_M_UR, x2_M_UR, x3_M_UR, x_M_UR, y1_M_UR, y2_M_UR⟩ := hcalls.2.2.1
  have M_UR : own_Mi s "java/util/Collections$UnmodifiableRandomAccessList" mR := ⟨c_M_UR, k_M_UR, x1_M_UR, x2_M_UR, x3_M_UR⟩
  have N_UL : ¬ mA = mL := own_mne x1_M_AL x1_M_UL (by decide) y1_M_AL y2_M_AL y1_M_UL y2_M_UL
  have N_UR : ¬ mA = mR := own_mne x1_M_AL x1_M_UR (by decide) y1_M_AL y2_M_AL y1_M_UR y2_M_UR
  obtain ⟨n, o, h1, h2, h3, _, L, rfl, ⟨N, rfl⟩, hq⟩ := own_law l s _ hw tables_1 i0 i1 i2 i3 i4 i5 a_cacheI dflt cl_es.cls mA mL mR s.heap s.heap.size (Nat.le_refl _) (Old.start s) S_cacheI BxI S_high S_es V_es M_AL M_UL M_UR N_UL N_UR p e ha hc hk s m _ below hf ((Spec.applies_iff_loose hf).mp happ).1 ⟨rfl, State.Warmed39.refl s, rfl⟩ trivial
  refine ⟨n, _, h1, h2, h3, hpost _ _ _ _ _ _ ⟨Cond.after_iff.mpr rfl, Cond.after_iff.mpr (eq_i res_at (Term.int_eval (1)) rfl), trivial⟩ ⟨hq.1, hq.2.1, (hq.2.2.sift fun y hy => Or.inr (N y hy)).mono (by decide) (by decide)⟩⟩
theorem main_1_1 : Claimed_1_1 := comes_1 fun _ _ _ _ _ _ h hF => ⟨h.1, hF⟩
theorem main_1_2 : Claimed_1_2 := comes_1 fun _ _ _ _ _ _ h hF => ⟨h.2.1, hF⟩
end Jvm.Pilot.@@N@@
namespace Jvm.Pilot.@@N@@
open Jvm Jvm.ClassFile Sem Op Lib Jvm.Free Jvm.Stand Jvm.Pilot.@@N@@.Jvm.D
/-! MADE BY PROGRAM (witnessworld.py) out of the Statement's table words and the real class files: 33 classes; the members and pool entries that the words name. The judged class is class 1, her method 1. -/
namespace start1
open Jvm.ClassFile
def u (s : String) : CpInfo := .utf8 (stringToUtf16 s)
/-- a pool by its gaps: so many unusable entries, then the entry; so many at the end -/
def gap : Nat → List CpInfo → List CpInfo
  | 0, r => r
  | n + 1, r => .unusable :: gap n r
def poolList (es : List (Nat × CpInfo)) (last : Nat) : List CpInfo := es.foldr (fun e r => gap e.1 (e.2 :: r)) (gap last [])
def pool (es : List (Nat × CpInfo)) (last : Nat) : Array CpInfo := ⟨poolList es last⟩
def fileOf (pool : Array CpInfo) (this : Nat) (attrs : Array Attribute := #[]) (ms : Array MethodInfo := #[]) (fl : Nat := 33) (sup : Nat := 0) (ifs : Array Nat := #[]) (fds : Array FieldInfo := #[]) : ClassFile where
  minorVersion := 0
  majorVersion := 65
  constantPool := pool
  accessFlags := fl
  thisClass := this
  superClass := sup
  interfaces := ifs
  fields := fds
  methods := ms
  attributes := attrs
def plain (name : String) (sup : Option ClassId) : Class where
  name := name
  kind := .ordinary
  loader := none
  accessFlags := 33
  super := sup
  interfaces := #[]
  cf := none
  fields := #[]
  methods := #[]
  instanceTypes := #[]
  staticTypes := #[]
  resolved := #[]
  callSites := []
  init := .initialized
  statics := none
  mirror := none

def pool0 : Array CpInfo := pool [(5, u "<init>"), (0, u "()V"), (1, .class_ 10), (1, u "java/lang/Object"), (0, u "getClass"), (0, u "()Ljava/lang/Class;")] 111

def k0c0 : Code := { maxStack := 0, maxLocals := 1, code := object_method_1_code, exceptionTable := #[], attributes := #[] }
def k0m0 : Method := { name := "<init>", desc := "()V", sig := { parameters := [], returnType := none }, accessFlags := 1, code := some k0c0 }
def k0m1 : Method := { name := "getClass", desc := "()Ljava/lang/Class;", sig := { parameters := [], returnType := some (.object "java/lang/Class") }, accessFlags := 273, code := none }
/-- java/lang/Object -/
def k0 : Class := { plain "java/lang/Object" none with
  accessFlags := 33
  interfaces := #[]
  cf := some (fileOf pool0 8 #[] #[{ accessFlags := 1, nameIndex := 5, descriptorIndex := 6, attributes := #[] }, { accessFlags := 273, nameIndex := 11, descriptorIndex := 12, attributes := #[] }] 33 0 #[] #[])
  fields := #[]
  methods := #[k0m0, k0m1]
  instanceTypes := #[]
  staticTypes := #[]
  resolved := Array.replicate 124 none
  statics := none }

def pool1 : Array CpInfo := pool [(2, .class_ 4), (0, .nameAndType 5 6), (0, u "java/lang/Object"), (0, u "<init>"), (0, u "()V"), (0, .class_ 8), (0, u "java/util/ArrayList"), (0, .methodref 7 3), (0, .methodref 11 12), (0, .class_ 13), (0, .nameAndType 14 15), (0, u "java/lang/Integer"), (0, u "valueOf"), (0, u "(I)Ljava/lang/Integer;"), (0, .methodref 7 17), (0, .nameAndType 18 19), (0, u "add"), (0, u "(Ljava/lang/Object;)Z"), (0, .class_ 21), (0, u "com/example/rationed_session/rationedsession/model/Partition"), (0, .methodref 20 23), (0, .nameAndType 5 24), (0, u "(IILjava/util/List;)V"), (0, .methodref 20 26), (0, .nameAndType 27 28), (0, u "last"), (0, u "()Ljava/lang/Object;"), (0, .methodref 11 30), (0, .nameAndType 31 32), (0, u "intValue"), (0, u "()I"), (0, .class_ 34), (0, u "com/example/rationed_session/rationedsession/model/PartitionLastPinLaw"), (2, u "law"), (0, u "(IIIIII)Z")] 3

def k1m0 : Method := { name := "<init>", desc := "()V", sig := { parameters := [], returnType := none }, accessFlags := 2, code := none }
def k1c1 : Code := { maxStack := 5, maxLocals := 11, code := code, exceptionTable := #[], attributes := #[] }
def k1m1 : Method := { name := "law", desc := "(IIIIII)Z", sig := { parameters := [.int, .int, .int, .int, .int, .int], returnType := some .boolean }, accessFlags := 9, code := some k1c1 }
/-- com/example/rationed_session/rationedsession/model/PartitionLastPinLaw -/
def k1 : Class := { plain "com/example/rationed_session/rationedsession/model/PartitionLastPinLaw" (some 0) with
  accessFlags := 49
  interfaces := #[]
  cf := some (fileOf pool1 33 #[] #[{ accessFlags := 2, nameIndex := 5, descriptorIndex := 6, attributes := #[] }, { accessFlags := 9, nameIndex := 37, descriptorIndex := 38, attributes := #[] }] 49 2 #[] #[])
  fields := #[]
  methods := #[k1m0, k1m1]
  instanceTypes := #[]
  staticTypes := #[]
  resolved := Array.replicate 42 none
  statics := none }

def pool2 : Array CpInfo := pool [(8, .class_ 10), (1, u "java/lang/Iterable"), (24, .class_ 36), (0, u "java/lang/Object")] 25

/-- java/lang/Iterable -/
def k2 : Class := { plain "java/lang/Iterable" (some 0) with
  accessFlags := 1537
  interfaces := #[]
  cf := some (fileOf pool2 8 #[] #[] 1537 35 #[] #[])
  fields := #[]
  methods := #[]
  instanceTypes := #[]
  staticTypes := #[]
  resolved := Array.replicate 62 none
  statics := none }

def pool3 : Array CpInfo := pool [(10, .class_ 12), (1, u "java/util/Collection"), (47, .class_ 61), (0, u "java/lang/Object"), (0, .class_ 63), (0, u "java/lang/Iterable"), (0, u "size"), (0, u "()I")] 49

def k3m0 : Method := { name := "size", desc := "()I", sig := { parameters := [], returnType := some .int }, accessFlags := 1025, code := none }
/-- java/util/Collection -/
def k3 : Class := { plain "java/util/Collection" (some 0) with
  accessFlags := 1537
  interfaces := #[2]
  cf := some (fileOf pool3 10 #[] #[{ accessFlags := 1025, nameIndex := 64, descriptorIndex := 65, attributes := #[] }] 1537 60 #[62] #[])
  fields := #[]
  methods := #[k3m0]
  instanceTypes := #[]
  staticTypes := #[]
  resolved := Array.replicate 115 none
  statics := none }

def pool4 : Array CpInfo := pool [(1, .methodref 2 3), (0, .class_ 4), (0, .nameAndType 5 6), (0, u "java/lang/Object"), (0, u "<init>"), (0, u "()V"), (1, .class_ 10), (1, u "java/util/AbstractCollection"), (66, .class_ 78), (0, u "java/util/Collection")] 81

def k4c0 : Code := { maxStack := 1, maxLocals := 1, code := jdk_22_method_1_code, exceptionTable := #[], attributes := #[] }
def k4m0 : Method := { name := "<init>", desc := "()V", sig := { parameters := [], returnType := none }, accessFlags := 4, code := some k4c0 }
/-- java/util/AbstractCollection -/
def k4 : Class := { plain "java/util/AbstractCollection" (some 0) with
  accessFlags := 1057
  interfaces := #[3]
  cf := some (fileOf pool4 8 #[] #[{ accessFlags := 4, nameIndex := 5, descriptorIndex := 6, attributes := #[] }] 1057 2 #[77] #[])
  fields := #[]
  methods := #[k4m0]
  instanceTypes := #[]
  staticTypes := #[]
  resolved := Array.replicate 160 none
  statics := none }

def pool5 : Array CpInfo := pool [(8, .class_ 10), (1, u "java/util/SequencedCollection"), (15, .class_ 27), (0, u "java/lang/Object"), (0, .class_ 29), (0, u "java/util/Collection")] 27

/-- java/util/SequencedCollection -/
def k5 : Class := { plain "java/util/SequencedCollection" (some 0) with
  accessFlags := 1537
  interfaces := #[3]
  cf := some (fileOf pool5 8 #[] #[] 1537 26 #[28] #[])
  fields := #[]
  methods := #[]
  instanceTypes := #[]
  staticTypes := #[]
  resolved := Array.replicate 57 none
  statics := none }

def pool6 : Array CpInfo := pool [(8, .class_ 10), (1, u "java/util/List"), (64, u "get"), (0, u "(I)Ljava/lang/Object;"), (2, u "size"), (0, u "()I"), (22, .class_ 104), (0, u "java/lang/Object"), (15, .class_ 121), (0, u "java/util/SequencedCollection")] 129

def k6m0 : Method := { name := "size", desc := "()I", sig := { parameters := [], returnType := some .int }, accessFlags := 1025, code := none }
def k6m1 : Method := { name := "get", desc := "(I)Ljava/lang/Object;", sig := { parameters := [.int], returnType := some (.object "java/lang/Object") }, accessFlags := 1025, code := none }
/-- java/util/List -/
def k6 : Class := { plain "java/util/List" (some 0) with
  accessFlags := 1537
  interfaces := #[5]
  cf := some (fileOf pool6 8 #[] #[{ accessFlags := 1025, nameIndex := 79, descriptorIndex := 80, attributes := #[] }, { accessFlags := 1025, nameIndex := 75, descriptorIndex := 76, attributes := #[] }] 1537 103 #[120] #[])
  fields := #[]
  methods := #[k6m0, k6m1]
  instanceTypes := #[]
  staticTypes := #[]
  resolved := Array.replicate 251 none
  statics := none }

def pool7 : Array CpInfo := pool [(1, .methodref 2 3), (0, .class_ 4), (0, .nameAndType 5 6), (0, u "java/util/AbstractCollection"), (0, u "<init>"), (0, u "()V"), (0, .fieldref 8 9), (0, .class_ 10), (0, .nameAndType 11 12), (0, u "java/util/AbstractList"), (0, u "modCount"), (0, u "I"), (64, .class_ 78), (0, u "java/util/AbstractList$Itr"), (3, .class_ 83), (0, u "java/util/AbstractList$ListItr"), (9, .class_ 94), (0, u "java/util/AbstractList$RandomAccessSubList"), (3, .class_ 99), (0, u "java/util/AbstractList$SubList"), (33, .class_ 134), (0, u "java/util/List"), (73, .class_ 209), (0, u "java/util/AbstractList$SubList$1"), (0, .class_ 211), (0, u "java/util/AbstractList$RandomAccessSpliterator")] 6

def k7c0 : Code := { maxStack := 2, maxLocals := 1, code := jdk_39_method_1_code, exceptionTable := #[], attributes := #[] }
def k7m0 : Method := { name := "<init>", desc := "()V", sig := { parameters := [], returnType := none }, accessFlags := 4, code := some k7c0 }
/-- java/util/AbstractList -/
def k7 : Class := { plain "java/util/AbstractList" (some 4) with
  accessFlags := 1057
  interfaces := #[6]
  cf := some (fileOf pool7 8 #[.nestMembers #[93, 98, 208, 210, 82, 77]] #[{ accessFlags := 4, nameIndex := 5, descriptorIndex := 6, attributes := #[] }] 1057 2 #[133] #[{ accessFlags := 132, nameIndex := 11, descriptorIndex := 12, attributes := #[] }])
  fields := #[{ name := "modCount", type := .int, accessFlags := 132, slot := 0, constantValue := 0 }]
  methods := #[k7m0]
  instanceTypes := #[.int]
  staticTypes := #[]
  resolved := Array.replicate 218 none
  statics := none }

def pool8 : Array CpInfo := pool [(1, .class_ 2), (0, u "java/util/RandomAccess"), (0, .class_ 4), (0, u "java/lang/Object")] 2

/-- java/util/RandomAccess -/
def k8 : Class := { plain "java/util/RandomAccess" (some 0) with
  accessFlags := 1537
  interfaces := #[]
  cf := some (fileOf pool8 1 #[] #[] 1537 3 #[] #[])
  fields := #[]
  methods := #[]
  instanceTypes := #[]
  staticTypes := #[]
  resolved := Array.replicate 7 none
  statics := none }

def pool9 : Array CpInfo := pool [(1, .class_ 2), (0, u "java/lang/Cloneable"), (0, .class_ 4), (0, u "java/lang/Object")] 2

/-- java/lang/Cloneable -/
def k9 : Class := { plain "java/lang/Cloneable" (some 0) with
  accessFlags := 1537
  interfaces := #[]
  cf := some (fileOf pool9 1 #[] #[] 1537 3 #[] #[])
  fields := #[]
  methods := #[]
  instanceTypes := #[]
  staticTypes := #[]
  resolved := Array.replicate 7 none
  statics := none }

def pool10 : Array CpInfo := pool [(1, .class_ 2), (0, u "java/io/Serializable"), (0, .class_ 4), (0, u "java/lang/Object")] 2

/-- java/io/Serializable -/
def k10 : Class := { plain "java/io/Serializable" (some 0) with
  accessFlags := 1537
  interfaces := #[]
  cf := some (fileOf pool10 1 #[] #[] 1537 3 #[] #[])
  fields := #[]
  methods := #[]
  instanceTypes := #[]
  staticTypes := #[]
  resolved := Array.replicate 7 none
  statics := none }

def pool11 : Array CpInfo := pool [(1, .methodref 2 3), (0, .class_ 4), (0, .nameAndType 5 6), (0, u "java/util/AbstractList"), (0, u "<init>"), (0, u "()V"), (0, .class_ 8), (0, u "java/lang/Object"), (0, .fieldref 10 11), (0, .class_ 12), (0, .nameAndType 13 14), (0, u "java/util/ArrayList"), (0, u "elementData"), (0, u "[Ljava/lang/Object;"), (2, u "EMPTY_ELEMENTDATA"), (21, .fieldref 10 40), (0, .nameAndType 41 14), (0, u "DEFAULTCAPACITY_EMPTY_ELEMENTDATA"), (5, u "()[Ljava/lang/Object;"), (0, .fieldref 10 49), (0, .nameAndType 50 51), (0, u "size"), (0, u "I"), (11, .fieldref 10 64), (0, .nameAndType 65 51), (0, u "modCount"), (3, .methodref 10 70), (0, .nameAndType 71 72), (0, u "grow"), (0, u "(I)[Ljava/lang/Object;"), (6, .methodref 80 81), (0, .class_ 82), (0, .nameAndType 83 84), (0, u "java/lang/Math"), (0, u "max"), (0, u "(II)I"), (11, u "(Ljava/lang/Object;)Z"), (21, .methodref 119 120), (0, .class_ 121), (0, .nameAndType 122 84), (0, u "java/util/Objects"), (0, u "checkIndex"), (0, .methodref 10 124), (0, .nameAndType 13 125), (0, u "(I)Ljava/lang/Object;"), (3, .methodref 10 130), (0, .nameAndType 71 47), (0, .methodref 10 132), (0, .nameAndType 133 134), (0, u "add"), (0, u "(Ljava/lang/Object;[Ljava/lang/Object;I)V"), (13, .class_ 149), (0, u "java/util/List"), (36, u "()I"), (75, .class_ 263), (0, u "java/util/ArrayList$ListItr"), (3, .class_ 268), (0, u "java/util/ArrayList$Itr"), (7, .class_ 277), (0, u "java/util/ArrayList$SubList"), (12, .class_ 291), (0, u "java/util/ArrayList$ArrayListSpliterator"), (37, .class_ 330), (0, u "java/util/RandomAccess"), (0, .class_ 332), (0, u "java/lang/Cloneable"), (0, .class_ 334), (0, u "java/io/Serializable"), (0, u "serialVersionUID"), (0, u "J"), (3, u "DEFAULT_CAPACITY"), (40, u "get"), (118, .class_ 501), (0, u "java/util/ArrayList$SubList$2"), (0, .class_ 503), (0, u "java/util/ArrayList$SubList$1")] 5

def k11c0 : Code := { maxStack := 2, maxLocals := 1, code := jdk_38_method_2_code, exceptionTable := #[], attributes := #[] }
def k11m0 : Method := { name := "<init>", desc := "()V", sig := { parameters := [], returnType := none }, accessFlags := 1, code := some k11c0 }
def k11c1 : Code := { maxStack := 4, maxLocals := 4, code := jdk_38_method_6_code, exceptionTable := #[], attributes := #[] }
def k11m1 : Method := { name := "grow", desc := "(I)[Ljava/lang/Object;", sig := { parameters := [.int], returnType := some (.array (.object "java/lang/Object")) }, accessFlags := 2, code := some k11c1 }
def k11c2 : Code := { maxStack := 3, maxLocals := 1, code := jdk_38_method_7_code, exceptionTable := #[], attributes := #[] }
def k11m2 : Method := { name := "grow", desc := "()[Ljava/lang/Object;", sig := { parameters := [], returnType := some (.array (.object "java/lang/Object")) }, accessFlags := 2, code := some k11c2 }
def k11c3 : Code := { maxStack := 1, maxLocals := 1, code := jdk_38_method_8_code, exceptionTable := #[], attributes := #[] }
def k11m3 : Method := { name := "size", desc := "()I", sig := { parameters := [], returnType := some .int }, accessFlags := 1, code := some k11c3 }
def k11c4 : Code := { maxStack := 2, maxLocals := 2, code := jdk_38_method_18_code, exceptionTable := #[], attributes := #[] }
def k11m4 : Method := { name := "elementData", desc := "(I)Ljava/lang/Object;", sig := { parameters := [.int], returnType := some (.object "java/lang/Object") }, accessFlags := 0, code := some k11c4 }
def k11c5 : Code := { maxStack := 2, maxLocals := 2, code := jdk_38_method_20_code, exceptionTable := #[], attributes := #[] }
def k11m5 : Method := { name := "get", desc := "(I)Ljava/lang/Object;", sig := { parameters := [.int], returnType := some (.object "java/lang/Object") }, accessFlags := 1, code := some k11c5 }
def k11c6 : Code := { maxStack := 3, maxLocals := 4, code := jdk_38_method_24_code, exceptionTable := #[], attributes := #[] }
def k11m6 : Method := { name := "add", desc := "(Ljava/lang/Object;[Ljava/lang/Object;I)V", sig := { parameters := [(.object "java/lang/Object"), (.array (.object "java/lang/Object")), .int], returnType := none }, accessFlags := 2, code := some k11c6 }
def k11c7 : Code := { maxStack := 4, maxLocals := 2, code := jdk_38_method_25_code, exceptionTable := #[], attributes := #[] }
def k11m7 : Method := { name := "add", desc := "(Ljava/lang/Object;)Z", sig := { parameters := [(.object "java/lang/Object")], returnType := some .boolean }, accessFlags := 1, code := some k11c7 }
/-- java/util/ArrayList -/
def k11 : Class := { plain "java/util/ArrayList" (some 7) with
  accessFlags := 33
  interfaces := #[6, 8, 9, 10]
  cf := some (fileOf pool11 10 #[.nestMembers #[290, 276, 500, 502, 262, 267]] #[{ accessFlags := 1, nameIndex := 5, descriptorIndex := 6, attributes := #[] }, { accessFlags := 2, nameIndex := 71, descriptorIndex := 72, attributes := #[] }, { accessFlags := 2, nameIndex := 71, descriptorIndex := 47, attributes := #[] }, { accessFlags := 1, nameIndex := 50, descriptorIndex := 186, attributes := #[] }, { accessFlags := 0, nameIndex := 13, descriptorIndex := 125, attributes := #[] }, { accessFlags := 1, nameIndex := 381, descriptorIndex := 125, attributes := #[] }, { accessFlags := 2, nameIndex := 133, descriptorIndex := 134, attributes := #[] }, { accessFlags := 1, nameIndex := 133, descriptorIndex := 96, attributes := #[] }] 33 2 #[148, 329, 331, 333] #[{ accessFlags := 26, nameIndex := 335, descriptorIndex := 336, attributes := #[] }, { accessFlags := 26, nameIndex := 340, descriptorIndex := 51, attributes := #[] }, { accessFlags := 26, nameIndex := 17, descriptorIndex := 14, attributes := #[] }, { accessFlags := 26, nameIndex := 41, descriptorIndex := 14, attributes := #[] }, { accessFlags := 128, nameIndex := 13, descriptorIndex := 14, attributes := #[] }, { accessFlags := 2, nameIndex := 50, descriptorIndex := 51, attributes := #[] }])
  fields := #[{ name := "serialVersionUID", type := .long, accessFlags := 26, slot := 0, constantValue := 0 }, { name := "DEFAULT_CAPACITY", type := .int, accessFlags := 26, slot := 1, constantValue := 0 }, { name := "EMPTY_ELEMENTDATA", type := (.array (.object "java/lang/Object")), accessFlags := 26, slot := 2, constantValue := 0 }, { name := "DEFAULTCAPACITY_EMPTY_ELEMENTDATA", type := (.array (.object "java/lang/Object")), accessFlags := 26, slot := 3, constantValue := 0 }, { name := "elementData", type := (.array (.object "java/lang/Object")), accessFlags := 128, slot := 1, constantValue := 0 }, { name := "size", type := .int, accessFlags := 2, slot := 2, constantValue := 0 }]
  methods := #[k11m0, k11m1, k11m2, k11m3, k11m4, k11m5, k11m6, k11m7]
  instanceTypes := #[.int, (.array (.object "java/lang/Object")), .int]
  staticTypes := #[.long, .int, (.array (.object "java/lang/Object")), (.array (.object "java/lang/Object"))]
  resolved := Array.replicate 509 none
  mirror := some 2
  statics := some 0 }

def pool12 : Array CpInfo := pool [(1, .methodref 2 3), (0, .class_ 4), (0, .nameAndType 5 6), (0, u "java/lang/Object"), (0, u "<init>"), (0, u "()V"), (1, .class_ 10), (1, u "java/lang/Number"), (2, .class_ 14), (0, u "java/io/Serializable"), (0, u "serialVersionUID"), (0, u "J")] 20

def k12c0 : Code := { maxStack := 1, maxLocals := 1, code := jdk_18_method_1_code, exceptionTable := #[], attributes := #[] }
def k12m0 : Method := { name := "<init>", desc := "()V", sig := { parameters := [], returnType := none }, accessFlags := 1, code := some k12c0 }
/-- java/lang/Number -/
def k12 : Class := { plain "java/lang/Number" (some 0) with
  accessFlags := 1057
  interfaces := #[10]
  cf := some (fileOf pool12 8 #[] #[{ accessFlags := 1, nameIndex := 5, descriptorIndex := 6, attributes := #[] }] 1057 2 #[13] #[{ accessFlags := 26, nameIndex := 15, descriptorIndex := 16, attributes := #[] }])
  fields := #[{ name := "serialVersionUID", type := .long, accessFlags := 26, slot := 0, constantValue := 0 }]
  methods := #[k12m0]
  instanceTypes := #[]
  staticTypes := #[.long]
  resolved := Array.replicate 37 none
  statics := none }

def pool13 : Array CpInfo := pool [(1, .class_ 2), (0, u "java/lang/Comparable"), (0, .class_ 4), (0, u "java/lang/Object")] 7

/-- java/lang/Comparable -/
def k13 : Class := { plain "java/lang/Comparable" (some 0) with
  accessFlags := 1537
  interfaces := #[]
  cf := some (fileOf pool13 1 #[] #[] 1537 3 #[] #[])
  fields := #[]
  methods := #[]
  instanceTypes := #[]
  staticTypes := #[]
  resolved := Array.replicate 12 none
  statics := none }

def pool14 : Array CpInfo := pool [(1, .class_ 2), (0, u "java/lang/constant/Constable"), (0, .class_ 4), (0, u "java/lang/Object")] 6

/-- java/lang/constant/Constable -/
def k14 : Class := { plain "java/lang/constant/Constable" (some 0) with
  accessFlags := 1537
  interfaces := #[]
  cf := some (fileOf pool14 1 #[] #[] 1537 3 #[] #[])
  fields := #[]
  methods := #[]
  instanceTypes := #[]
  staticTypes := #[]
  resolved := Array.replicate 11 none
  statics := none }

def pool15 : Array CpInfo := pool [(1, .class_ 2), (0, u "java/lang/constant/ConstantDesc"), (0, .class_ 4), (0, u "java/lang/Object")] 32

/-- java/lang/constant/ConstantDesc -/
def k15 : Class := { plain "java/lang/constant/ConstantDesc" (some 0) with
  accessFlags := 1537
  interfaces := #[]
  cf := some (fileOf pool15 1 #[] #[] 1537 3 #[] #[])
  fields := #[]
  methods := #[]
  instanceTypes := #[]
  staticTypes := #[]
  resolved := Array.replicate 37 none
  statics := none }

def pool16 : Array CpInfo := pool [(1, .class_ 2), (0, u "java/lang/Integer"), (16, u "digits"), (0, u "[C"), (46, u "<init>"), (17, u "DigitOnes"), (0, u "[B"), (2, u "DigitTens"), (10, .nameAndType 67 101), (0, u "()V"), (19, u "()I"), (65, u "valueOf"), (0, u "(I)Ljava/lang/Integer;"), (0, .class_ 190), (0, u "java/lang/Integer$IntegerCache"), (0, .fieldref 189 192), (0, .nameAndType 193 194), (0, u "high"), (0, u "I"), (0, .fieldref 189 196), (0, .nameAndType 197 198), (0, u "cache"), (0, u "[Ljava/lang/Integer;"), (0, .methodref 1 200), (0, .nameAndType 67 201), (0, u "(I)V"), (0, .methodref 203 100), (0, .class_ 204), (0, u "java/lang/Number"), (0, .fieldref 1 206), (0, .nameAndType 207 194), (0, u "value"), (5, u "intValue"), (88, u "TYPE"), (0, u "Ljava/lang/Class;"), (0, .class_ 305), (0, u "java/lang/Comparable"), (0, .class_ 307), (0, u "java/lang/constant/Constable"), (0, .class_ 309), (0, u "java/lang/constant/ConstantDesc"), (0, u "MIN_VALUE"), (1, u "MAX_VALUE"), (3, u "SIZE"), (1, u "BYTES"), (1, u "serialVersionUID"), (0, u "J")] 131

def k16c0 : Code := { maxStack := 3, maxLocals := 1, code := jdk_33_method_22_code, exceptionTable := #[], attributes := #[] }
def k16m0 : Method := { name := "valueOf", desc := "(I)Ljava/lang/Integer;", sig := { parameters := [.int], returnType := some (.object "java/lang/Integer") }, accessFlags := 9, code := some k16c0 }
def k16c1 : Code := { maxStack := 2, maxLocals := 2, code := jdk_33_method_23_code, exceptionTable := #[], attributes := #[] }
def k16m1 : Method := { name := "<init>", desc := "(I)V", sig := { parameters := [.int], returnType := none }, accessFlags := 1, code := some k16c1 }
def k16c2 : Code := { maxStack := 1, maxLocals := 1, code := jdk_33_method_27_code, exceptionTable := #[], attributes := #[] }
def k16m2 : Method := { name := "intValue", desc := "()I", sig := { parameters := [], returnType := some .int }, accessFlags := 1, code := some k16c2 }
/-- java/lang/Integer -/
def k16 : Class := { plain "java/lang/Integer" (some 12) with
  accessFlags := 49
  interfaces := #[13, 14, 15]
  cf := some (fileOf pool16 1 #[.nestMembers #[189]] #[{ accessFlags := 9, nameIndex := 187, descriptorIndex := 188, attributes := #[] }, { accessFlags := 1, nameIndex := 67, descriptorIndex := 201, attributes := #[] }, { accessFlags := 1, nameIndex := 213, descriptorIndex := 121, attributes := #[] }] 49 203 #[304, 306, 308] #[{ accessFlags := 25, nameIndex := 310, descriptorIndex := 194, attributes := #[] }, { accessFlags := 25, nameIndex := 312, descriptorIndex := 194, attributes := #[] }, { accessFlags := 25, nameIndex := 302, descriptorIndex := 303, attributes := #[] }, { accessFlags := 24, nameIndex := 19, descriptorIndex := 20, attributes := #[] }, { accessFlags := 24, nameIndex := 89, descriptorIndex := 86, attributes := #[] }, { accessFlags := 24, nameIndex := 85, descriptorIndex := 86, attributes := #[] }, { accessFlags := 18, nameIndex := 207, descriptorIndex := 194, attributes := #[] }, { accessFlags := 25, nameIndex := 316, descriptorIndex := 194, attributes := #[] }, { accessFlags := 25, nameIndex := 318, descriptorIndex := 194, attributes := #[] }, { accessFlags := 26, nameIndex := 320, descriptorIndex := 321, attributes := #[] }])
  fields := #[{ name := "MIN_VALUE", type := .int, accessFlags := 25, slot := 0, constantValue := 0 }, { name := "MAX_VALUE", type := .int, accessFlags := 25, slot := 1, constantValue := 0 }, { name := "TYPE", type := (.object "java/lang/Class"), accessFlags := 25, slot := 2, constantValue := 0 }, { name := "digits", type := (.array .char), accessFlags := 24, slot := 3, constantValue := 0 }, { name := "DigitTens", type := (.array .byte), accessFlags := 24, slot := 4, constantValue := 0 }, { name := "DigitOnes", type := (.array .byte), accessFlags := 24, slot := 5, constantValue := 0 }, { name := "value", type := .int, accessFlags := 18, slot := 0, constantValue := 0 }, { name := "SIZE", type := .int, accessFlags := 25, slot := 6, constantValue := 0 }, { name := "BYTES", type := .int, accessFlags := 25, slot := 7, constantValue := 0 }, { name := "serialVersionUID", type := .long, accessFlags := 26, slot := 8, constantValue := 0 }]
  methods := #[k16m0, k16m1, k16m2]
  instanceTypes := #[.int]
  staticTypes := #[.int, .int, (.object "java/lang/Class"), (.array .char), (.array .byte), (.array .byte), .int, .int, .long]
  resolved := Array.replicate 453 none
  statics := none }

def pool17 : Array CpInfo := pool [(2, .class_ 4), (1, u "java/lang/Object"), (0, u "<init>"), (0, u "()V"), (0, .class_ 8), (0, u "java/lang/Integer"), (7, .class_ 18), (1, u "java/lang/Integer$IntegerCache"), (0, u "$assertionsDisabled"), (0, u "Z"), (26, u "high"), (0, u "I"), (8, u "archivedCache"), (0, u "[Ljava/lang/Integer;"), (12, u "cache"), (0, u "low")] 27

def k17m0 : Method := { name := "<init>", desc := "()V", sig := { parameters := [], returnType := none }, accessFlags := 2, code := none }
/-- java/lang/Integer$IntegerCache -/
def k17 : Class := { plain "java/lang/Integer$IntegerCache" (some 0) with
  accessFlags := 48
  interfaces := #[]
  cf := some (fileOf pool17 16 #[.nestHost 7] #[{ accessFlags := 2, nameIndex := 5, descriptorIndex := 6, attributes := #[] }] 48 2 #[] #[{ accessFlags := 24, nameIndex := 72, descriptorIndex := 48, attributes := #[] }, { accessFlags := 24, nameIndex := 47, descriptorIndex := 48, attributes := #[] }, { accessFlags := 24, nameIndex := 71, descriptorIndex := 58, attributes := #[] }, { accessFlags := 8, nameIndex := 57, descriptorIndex := 58, attributes := #[] }, { accessFlags := 4120, nameIndex := 19, descriptorIndex := 20, attributes := #[] }])
  fields := #[{ name := "low", type := .int, accessFlags := 24, slot := 0, constantValue := 0 }, { name := "high", type := .int, accessFlags := 24, slot := 1, constantValue := 0 }, { name := "cache", type := (.array (.object "java/lang/Integer")), accessFlags := 24, slot := 2, constantValue := 0 }, { name := "archivedCache", type := (.array (.object "java/lang/Integer")), accessFlags := 8, slot := 3, constantValue := 0 }, { name := "$assertionsDisabled", type := .boolean, accessFlags := 4120, slot := 4, constantValue := 0 }]
  methods := #[k17m0]
  instanceTypes := #[]
  staticTypes := #[.int, .int, (.array (.object "java/lang/Integer")), (.array (.object "java/lang/Integer")), .boolean]
  resolved := Array.replicate 100 none
  statics := some 1 }

def pool18 : Array CpInfo := pool [(1, .class_ 2), (0, u "java/lang/Math"), (1, .class_ 6), (1, u "java/lang/Object"), (0, u "<init>"), (0, u "()V"), (89, .class_ 100), (1, u "java/lang/Math$RandomNumberGeneratorHolder"), (71, u "negativeZeroFloatBits"), (0, u "J"), (2, u "negativeZeroDoubleBits"), (21, u "max"), (46, u "$assertionsDisabled"), (0, u "Z"), (88, u "(II)I"), (2, u "twoToTheDoubleScaleDown"), (0, u "D"), (4, u "twoToTheDoubleScaleUp"), (9, u "E"), (3, u "PI"), (2, u "TAU"), (2, u "DEGREES_TO_RADIANS"), (0, u "RADIANS_TO_DEGREES")] 94

def k18m0 : Method := { name := "<init>", desc := "()V", sig := { parameters := [], returnType := none }, accessFlags := 2, code := none }
def k18c1 : Code := { maxStack := 2, maxLocals := 2, code := jdk_29_method_65_code, exceptionTable := #[], attributes := #[] }
def k18m1 : Method := { name := "max", desc := "(II)I", sig := { parameters := [.int, .int], returnType := some .int }, accessFlags := 9, code := some k18c1 }
/-- java/lang/Math -/
def k18 : Class := { plain "java/lang/Math" (some 0) with
  accessFlags := 49
  interfaces := #[]
  cf := some (fileOf pool18 1 #[.nestMembers #[98]] #[{ accessFlags := 2, nameIndex := 7, descriptorIndex := 8, attributes := #[] }, { accessFlags := 9, nameIndex := 198, descriptorIndex := 335, attributes := #[] }] 49 4 #[] #[{ accessFlags := 25, nameIndex := 354, descriptorIndex := 339, attributes := #[] }, { accessFlags := 25, nameIndex := 358, descriptorIndex := 339, attributes := #[] }, { accessFlags := 25, nameIndex := 361, descriptorIndex := 339, attributes := #[] }, { accessFlags := 26, nameIndex := 364, descriptorIndex := 339, attributes := #[] }, { accessFlags := 26, nameIndex := 365, descriptorIndex := 339, attributes := #[] }, { accessFlags := 26, nameIndex := 172, descriptorIndex := 173, attributes := #[] }, { accessFlags := 26, nameIndex := 176, descriptorIndex := 173, attributes := #[] }, { accessFlags := 8, nameIndex := 344, descriptorIndex := 339, attributes := #[] }, { accessFlags := 8, nameIndex := 338, descriptorIndex := 339, attributes := #[] }, { accessFlags := 4120, nameIndex := 245, descriptorIndex := 246, attributes := #[] }])
  fields := #[{ name := "E", type := .double, accessFlags := 25, slot := 0, constantValue := 0 }, { name := "PI", type := .double, accessFlags := 25, slot := 1, constantValue := 0 }, { name := "TAU", type := .double, accessFlags := 25, slot := 2, constantValue := 0 }, { name := "DEGREES_TO_RADIANS", type := .double, accessFlags := 26, slot := 3, constantValue := 0 }, { name := "RADIANS_TO_DEGREES", type := .double, accessFlags := 26, slot := 4, constantValue := 0 }, { name := "negativeZeroFloatBits", type := .long, accessFlags := 26, slot := 5, constantValue := 0 }, { name := "negativeZeroDoubleBits", type := .long, accessFlags := 26, slot := 6, constantValue := 0 }, { name := "twoToTheDoubleScaleUp", type := .double, accessFlags := 8, slot := 7, constantValue := 0 }, { name := "twoToTheDoubleScaleDown", type := .double, accessFlags := 8, slot := 8, constantValue := 0 }, { name := "$assertionsDisabled", type := .boolean, accessFlags := 4120, slot := 9, constantValue := 0 }]
  methods := #[k18m0, k18m1]
  instanceTypes := #[]
  staticTypes := #[.double, .double, .double, .double, .double, .long, .long, .double, .double, .boolean]
  resolved := Array.replicate 460 none
  statics := none }

def pool19 : Array CpInfo := pool [(1, .methodref 2 3), (0, .class_ 4), (0, .nameAndType 5 6), (0, u "java/lang/Object"), (0, u "<init>"), (0, u "()V"), (0, .fieldref 8 9), (0, .class_ 10), (0, .nameAndType 11 12), (0, u "com/example/rationed_session/rationedsession/model/Partition"), (0, u "number"), (0, u "I"), (0, .fieldref 8 14), (0, .nameAndType 15 12), (0, u "firstIndex"), (0, .methodref 17 18), (0, .class_ 19), (0, .nameAndType 20 21), (0, u "java/util/Collections"), (0, u "unmodifiableList"), (0, u "(Ljava/util/List;)Ljava/util/List;"), (0, .fieldref 8 23), (0, .nameAndType 24 25), (0, u "inputs"), (0, u "Ljava/util/List;"), (0, .interfaceMethodref 27 28), (0, .class_ 29), (0, .nameAndType 30 31), (0, u "java/util/List"), (0, u "size"), (0, u "()I"), (0, .interfaceMethodref 27 33), (0, .nameAndType 34 35), (0, u "get"), (0, u "(I)Ljava/lang/Object;"), (11, u "()Ljava/lang/Object;"), (2, u "last"), (8, u "(IILjava/util/List;)V")] 14

def k19c0 : Code := { maxStack := 2, maxLocals := 4, code := prog_6_method_1_code, exceptionTable := #[], attributes := #[] }
def k19m0 : Method := { name := "<init>", desc := "(IILjava/util/List;)V", sig := { parameters := [.int, .int, (.object "java/util/List")], returnType := none }, accessFlags := 0, code := some k19c0 }
def k19c1 : Code := { maxStack := 3, maxLocals := 1, code := prog_6_method_7_code, exceptionTable := #[], attributes := #[] }
def k19m1 : Method := { name := "last", desc := "()Ljava/lang/Object;", sig := { parameters := [], returnType := some (.object "java/lang/Object") }, accessFlags := 1, code := some k19c1 }
/-- com/example/rationed_session/rationedsession/model/Partition -/
def k19 : Class := { plain "com/example/rationed_session/rationedsession/model/Partition" (some 0) with
  accessFlags := 49
  interfaces := #[]
  cf := some (fileOf pool19 8 #[] #[{ accessFlags := 0, nameIndex := 5, descriptorIndex := 59, attributes := #[] }, { accessFlags := 1, nameIndex := 50, descriptorIndex := 47, attributes := #[] }] 49 2 #[] #[{ accessFlags := 18, nameIndex := 11, descriptorIndex := 12, attributes := #[] }, { accessFlags := 18, nameIndex := 15, descriptorIndex := 12, attributes := #[] }, { accessFlags := 18, nameIndex := 24, descriptorIndex := 25, attributes := #[] }])
  fields := #[{ name := "number", type := .int, accessFlags := 18, slot := 0, constantValue := 0 }, { name := "firstIndex", type := .int, accessFlags := 18, slot := 1, constantValue := 0 }, { name := "inputs", type := (.object "java/util/List"), accessFlags := 18, slot := 2, constantValue := 0 }]
  methods := #[k19m0, k19m1]
  instanceTypes := #[.int, .int, (.object "java/util/List")]
  staticTypes := #[]
  resolved := Array.replicate 74 none
  statics := none }

def pool20 : Array CpInfo := pool [(2, .class_ 4), (1, u "java/lang/Object"), (0, u "<init>"), (0, u "()V"), (1, .class_ 10), (1, u "java/util/List"), (2, .class_ 14), (0, u "java/util/RandomAccess"), (4, .class_ 20), (0, u "java/util/Collections"), (63, u "r"), (0, u "Ljava/util/Random;"), (67, u "(Ljava/util/List;)V"), (9, .nameAndType 164 165), (0, u "getClass"), (0, u "()Ljava/lang/Class;"), (0, .class_ 167), (0, u "java/util/Collections$UnmodifiableCollection"), (6, .class_ 175), (0, u "java/util/Collections$UnmodifiableSequencedCollection"), (6, .class_ 183), (0, u "java/util/Collections$UnmodifiableSet"), (6, .class_ 191), (0, u "java/util/Collections$UnmodifiableSequencedSet"), (6, .class_ 199), (0, u "java/util/Collections$UnmodifiableSortedSet"), (6, .class_ 207), (0, u "java/util/Collections$UnmodifiableNavigableSet"), (3, .interfaceMethodref 8 163), (0, .class_ 213), (0, u "java/util/Collections$UnmodifiableList"), (0, .interfaceMethodref 8 163), (0, .class_ 216), (0, u "java/util/Collections$UnmodifiableRandomAccessList"), (0, .methodref 215 218), (0, .nameAndType 5 153), (4, .class_ 224), (0, u "java/util/Collections$UnmodifiableMap"), (6, .class_ 232), (0, u "java/util/Collections$UnmodifiableSequencedMap"), (4, .class_ 238), (0, u "java/util/Collections$UnmodifiableSortedMap"), (6, .class_ 246), (0, u "java/util/Collections$UnmodifiableNavigableMap"), (3, .class_ 251), (0, u "java/util/Collections$SynchronizedCollection"), (4, .class_ 257), (0, u "java/util/Collections$SynchronizedSet"), (4, .class_ 263), (0, u "java/util/Collections$SynchronizedSortedSet"), (1, .class_ 266), (0, u "java/util/Collections$SynchronizedNavigableSet"), (1, .class_ 269), (0, u "java/util/Collections$SynchronizedRandomAccessList"), (1, .class_ 272), (0, u "java/util/Collections$SynchronizedList"), (5, .class_ 279), (0, u "java/util/Collections$SynchronizedMap"), (1, .class_ 282), (0, u "java/util/Collections$SynchronizedSortedMap"), (1, .class_ 285), (0, u "java/util/Collections$SynchronizedNavigableMap"), (1, .class_ 288), (0, u "java/util/Collections$CheckedCollection"), (11, .class_ 301), (0, u "java/util/Collections$CheckedQueue"), (3, .class_ 306), (0, u "java/util/Collections$CheckedSet"), (3, .class_ 311), (0, u "java/util/Collections$CheckedSortedSet"), (3, .class_ 316), (0, u "java/util/Collections$CheckedNavigableSet"), (3, .class_ 321), (0, u "java/util/Collections$CheckedRandomAccessList"), (3, .class_ 326), (0, u "java/util/Collections$CheckedList"), (1, .class_ 329), (0, u "java/util/Collections$CheckedMap"), (3, .class_ 334), (0, u "java/util/Collections$CheckedSortedMap"), (3, .class_ 339), (0, u "java/util/Collections$CheckedNavigableMap"), (4, .class_ 346), (1, u "java/util/Collections$EmptyIterator"), (3, .class_ 352), (1, u "java/util/Collections$EmptyListIterator"), (2, .class_ 357), (1, u "java/util/Collections$EmptyEnumeration"), (4, u "EMPTY_SET"), (0, u "Ljava/util/Set;"), (6, u "EMPTY_LIST"), (0, u "Ljava/util/List;"), (2, u "EMPTY_MAP"), (0, u "Ljava/util/Map;"), (4, .class_ 381), (0, u "java/util/Collections$SingletonSet"), (2, .class_ 385), (0, u "java/util/Collections$1"), (1, .class_ 388), (0, u "java/util/Collections$2"), (1, .class_ 391), (0, u "java/util/Collections$SingletonList"), (1, .class_ 394), (0, u "java/util/Collections$SingletonMap"), (22, .class_ 418), (0, u "java/util/Collections$CopiesList"), (4, .class_ 425), (1, u "java/util/Collections$ReverseComparator"), (8, .class_ 435), (0, u "java/util/Collections$ReverseComparator2"), (6, .class_ 443), (0, u "java/util/Collections$3"), (25, .class_ 470), (0, u "java/util/Collections$SetFromMap"), (2, .class_ 474), (0, u "java/util/Collections$SequencedSetFromMap"), (3, .class_ 479), (0, u "java/util/Collections$AsLIFOQueue"), (11, .class_ 492), (0, u "java/util/Collections$EmptySet"), (1, .class_ 495), (0, u "java/util/Collections$EmptyList"), (1, .class_ 498), (0, u "java/util/Collections$EmptyMap"), (1, u "BINARYSEARCH_THRESHOLD"), (0, u "I"), (2, u "REVERSE_THRESHOLD"), (1, u "SHUFFLE_THRESHOLD"), (1, u "FILL_THRESHOLD"), (1, u "ROTATE_THRESHOLD"), (1, u "COPY_THRESHOLD"), (1, u "REPLACEALL_THRESHOLD"), (1, u "INDEXOFSUBLIST_THRESHOLD"), (129, u "unmodifiableList"), (0, u "(Ljava/util/List;)Ljava/util/List;"), (202, .class_ 851), (0, u "java/util/Collections$CheckedMap$CheckedEntrySet"), (0, .class_ 853), (0, u "java/util/Collections$CheckedMap$CheckedEntrySet$CheckedEntry"), (0, .class_ 855), (0, u "java/util/Collections$CheckedMap$CheckedEntrySet$1"), (0, .class_ 857), (0, u "java/util/Collections$CheckedList$1"), (0, .class_ 859), (0, u "java/util/Collections$CheckedCollection$1"), (0, .class_ 861), (0, u "java/util/Collections$UnmodifiableNavigableMap$EmptyNavigableMap"), (0, .class_ 863), (0, u "java/util/Collections$UnmodifiableMap$UnmodifiableEntrySet"), (0, .class_ 865), (0, u "java/util/Collections$UnmodifiableMap$UnmodifiableEntrySet$UnmodifiableEntry"), (0, .class_ 867), (0, u "java/util/Collections$UnmodifiableMap$UnmodifiableEntrySet$UnmodifiableEntrySetSpliterator"), (0, .class_ 869), (0, u "java/util/Collections$UnmodifiableMap$UnmodifiableEntrySet$1"), (0, .class_ 871), (0, u "java/util/Collections$UnmodifiableList$1"), (0, .class_ 873), (0, u "java/util/Collections$UnmodifiableNavigableSet$EmptyNavigableSet"), (0, .class_ 875), (0, u "java/util/Collections$UnmodifiableCollection$1")] 57

def k20m0 : Method := { name := "<init>", desc := "()V", sig := { parameters := [], returnType := none }, accessFlags := 2, code := none }
def k20c1 : Code := { maxStack := 3, maxLocals := 1, code := jdk_79_method_35_code, exceptionTable := #[], attributes := #[] }
def k20m1 : Method := { name := "unmodifiableList", desc := "(Ljava/util/List;)Ljava/util/List;", sig := { parameters := [(.object "java/util/List")], returnType := some (.object "java/util/List") }, accessFlags := 9, code := some k20c1 }
/-- java/util/Collections -/
def k20 : Class := { plain "java/util/Collections" (some 0) with
  accessFlags := 33
  interfaces := #[]
  cf := some (fileOf pool20 19 #[.nestMembers #[478, 473, 469, 434, 423, 417, 393, 390, 380, 497, 494, 491, 355, 350, 344, 338, 333, 328, 850, 852, 854, 320, 325, 856, 315, 310, 305, 300, 287, 858, 284, 281, 278, 268, 271, 265, 262, 256, 250, 245, 860, 237, 231, 223, 862, 864, 866, 868, 215, 212, 870, 206, 872, 198, 190, 182, 174, 166, 874, 442, 387, 384]] #[{ accessFlags := 2, nameIndex := 5, descriptorIndex := 6, attributes := #[] }, { accessFlags := 9, nameIndex := 646, descriptorIndex := 647, attributes := #[] }] 33 2 #[] #[{ accessFlags := 26, nameIndex := 500, descriptorIndex := 501, attributes := #[] }, { accessFlags := 26, nameIndex := 504, descriptorIndex := 501, attributes := #[] }, { accessFlags := 26, nameIndex := 506, descriptorIndex := 501, attributes := #[] }, { accessFlags := 26, nameIndex := 508, descriptorIndex := 501, attributes := #[] }, { accessFlags := 26, nameIndex := 510, descriptorIndex := 501, attributes := #[] }, { accessFlags := 26, nameIndex := 512, descriptorIndex := 501, attributes := #[] }, { accessFlags := 26, nameIndex := 514, descriptorIndex := 501, attributes := #[] }, { accessFlags := 26, nameIndex := 516, descriptorIndex := 501, attributes := #[] }, { accessFlags := 10, nameIndex := 84, descriptorIndex := 85, attributes := #[] }, { accessFlags := 25, nameIndex := 362, descriptorIndex := 363, attributes := #[] }, { accessFlags := 25, nameIndex := 370, descriptorIndex := 371, attributes := #[] }, { accessFlags := 25, nameIndex := 374, descriptorIndex := 375, attributes := #[] }])
  fields := #[{ name := "BINARYSEARCH_THRESHOLD", type := .int, accessFlags := 26, slot := 0, constantValue := 0 }, { name := "REVERSE_THRESHOLD", type := .int, accessFlags := 26, slot := 1, constantValue := 0 }, { name := "SHUFFLE_THRESHOLD", type := .int, accessFlags := 26, slot := 2, constantValue := 0 }, { name := "FILL_THRESHOLD", type := .int, accessFlags := 26, slot := 3, constantValue := 0 }, { name := "ROTATE_THRESHOLD", type := .int, accessFlags := 26, slot := 4, constantValue := 0 }, { name := "COPY_THRESHOLD", type := .int, accessFlags := 26, slot := 5, constantValue := 0 }, { name := "REPLACEALL_THRESHOLD", type := .int, accessFlags := 26, slot := 6, constantValue := 0 }, { name := "INDEXOFSUBLIST_THRESHOLD", type := .int, accessFlags := 26, slot := 7, constantValue := 0 }, { name := "r", type := (.object "java/util/Random"), accessFlags := 10, slot := 8, constantValue := 0 }, { name := "EMPTY_SET", type := (.object "java/util/Set"), accessFlags := 25, slot := 9, constantValue := 0 }, { name := "EMPTY_LIST", type := (.object "java/util/List"), accessFlags := 25, slot := 10, constantValue := 0 }, { name := "EMPTY_MAP", type := (.object "java/util/Map"), accessFlags := 25, slot := 11, constantValue := 0 }]
  methods := #[k20m0, k20m1]
  instanceTypes := #[]
  staticTypes := #[.int, .int, .int, .int, .int, .int, .int, .int, (.object "java/util/Random"), (.object "java/util/Set"), (.object "java/util/List"), (.object "java/util/Map")]
  resolved := Array.replicate 933 none
  statics := none }

def pool21 : Array CpInfo := pool [(1, .methodref 2 3), (0, .class_ 4), (0, .nameAndType 5 6), (0, u "java/lang/Object"), (0, u "<init>"), (0, u "()V"), (3, .fieldref 11 12), (0, .class_ 13), (0, .nameAndType 14 15), (0, u "java/util/Collections$UnmodifiableCollection"), (0, u "c"), (0, u "Ljava/util/Collection;"), (0, .interfaceMethodref 17 18), (0, .class_ 19), (0, .nameAndType 20 21), (0, u "java/util/Collection"), (0, u "size"), (0, u "()I"), (49, .class_ 72), (0, u "java/io/Serializable"), (0, u "serialVersionUID"), (0, u "J"), (5, u "(Ljava/util/Collection;)V"), (51, .class_ 133), (0, u "java/util/Collections")] 2

def k21c0 : Code := { maxStack := 2, maxLocals := 2, code := jdk_119_method_1_code, exceptionTable := #[], attributes := #[] }
def k21m0 : Method := { name := "<init>", desc := "(Ljava/util/Collection;)V", sig := { parameters := [(.object "java/util/Collection")], returnType := none }, accessFlags := 0, code := some k21c0 }
def k21c1 : Code := { maxStack := 1, maxLocals := 1, code := jdk_119_method_2_code, exceptionTable := #[], attributes := #[] }
def k21m1 : Method := { name := "size", desc := "()I", sig := { parameters := [], returnType := some .int }, accessFlags := 1, code := some k21c1 }
/-- java/util/Collections$UnmodifiableCollection -/
def k21 : Class := { plain "java/util/Collections$UnmodifiableCollection" (some 0) with
  accessFlags := 32
  interfaces := #[3, 10]
  cf := some (fileOf pool21 11 #[.nestHost 132] #[{ accessFlags := 0, nameIndex := 5, descriptorIndex := 80, attributes := #[] }, { accessFlags := 1, nameIndex := 20, descriptorIndex := 21, attributes := #[] }] 32 2 #[17, 71] #[{ accessFlags := 26, nameIndex := 73, descriptorIndex := 74, attributes := #[] }, { accessFlags := 16, nameIndex := 14, descriptorIndex := 15, attributes := #[] }])
  fields := #[{ name := "serialVersionUID", type := .long, accessFlags := 26, slot := 0, constantValue := 0 }, { name := "c", type := (.object "java/util/Collection"), accessFlags := 16, slot := 0, constantValue := 0 }]
  methods := #[k21m0, k21m1]
  instanceTypes := #[(.object "java/util/Collection")]
  staticTypes := #[.long]
  resolved := Array.replicate 136 none
  statics := none }

def pool22 : Array CpInfo := pool [(1, .methodref 2 3), (0, .class_ 4), (0, .nameAndType 5 6), (0, u "java/util/Collections$UnmodifiableCollection"), (0, u "<init>"), (0, u "(Ljava/util/Collection;)V"), (0, .fieldref 8 9), (0, .class_ 10), (0, .nameAndType 11 12), (0, u "java/util/Collections$UnmodifiableList"), (0, u "list"), (0, u "Ljava/util/List;"), (1, .class_ 16), (1, u "java/util/List"), (6, .interfaceMethodref 14 24), (0, .nameAndType 25 26), (0, u "get"), (0, u "(I)Ljava/lang/Object;"), (27, u "(Ljava/util/List;)V"), (5, u "serialVersionUID"), (0, u "J"), (59, .class_ 122), (0, u "java/util/Collections")] 4

def k22c0 : Code := { maxStack := 2, maxLocals := 2, code := jdk_120_method_1_code, exceptionTable := #[], attributes := #[] }
def k22m0 : Method := { name := "<init>", desc := "(Ljava/util/List;)V", sig := { parameters := [(.object "java/util/List")], returnType := none }, accessFlags := 0, code := some k22c0 }
def k22c1 : Code := { maxStack := 2, maxLocals := 2, code := jdk_120_method_4_code, exceptionTable := #[], attributes := #[] }
def k22m1 : Method := { name := "get", desc := "(I)Ljava/lang/Object;", sig := { parameters := [.int], returnType := some (.object "java/lang/Object") }, accessFlags := 1, code := some k22c1 }
/-- java/util/Collections$UnmodifiableList -/
def k22 : Class := { plain "java/util/Collections$UnmodifiableList" (some 21) with
  accessFlags := 32
  interfaces := #[6]
  cf := some (fileOf pool22 8 #[.nestHost 121] #[{ accessFlags := 0, nameIndex := 5, descriptorIndex := 54, attributes := #[] }, { accessFlags := 1, nameIndex := 25, descriptorIndex := 26, attributes := #[] }] 32 2 #[14] #[{ accessFlags := 26, nameIndex := 60, descriptorIndex := 61, attributes := #[] }, { accessFlags := 16, nameIndex := 11, descriptorIndex := 12, attributes := #[] }])
  fields := #[{ name := "serialVersionUID", type := .long, accessFlags := 26, slot := 0, constantValue := 0 }, { name := "list", type := (.object "java/util/List"), accessFlags := 16, slot := 1, constantValue := 0 }]
  methods := #[k22m0, k22m1]
  instanceTypes := #[(.object "java/util/Collection"), (.object "java/util/List")]
  staticTypes := #[.long]
  resolved := Array.replicate 127 none
  mirror := some 3
  statics := none }

def pool23 : Array CpInfo := pool [(1, .methodref 2 3), (0, .class_ 4), (0, .nameAndType 5 6), (0, u "java/util/Collections$UnmodifiableList"), (0, u "<init>"), (0, u "(Ljava/util/List;)V"), (0, .class_ 8), (0, u "java/util/Collections$UnmodifiableRandomAccessList"), (11, .class_ 21), (0, u "java/util/RandomAccess"), (0, u "serialVersionUID"), (0, u "J"), (23, .class_ 48), (0, u "java/util/Collections")] 3

def k23c0 : Code := { maxStack := 2, maxLocals := 2, code := jdk_121_method_1_code, exceptionTable := #[], attributes := #[] }
def k23m0 : Method := { name := "<init>", desc := "(Ljava/util/List;)V", sig := { parameters := [(.object "java/util/List")], returnType := none }, accessFlags := 0, code := some k23c0 }
/-- java/util/Collections$UnmodifiableRandomAccessList -/
def k23 : Class := { plain "java/util/Collections$UnmodifiableRandomAccessList" (some 22) with
  accessFlags := 32
  interfaces := #[8]
  cf := some (fileOf pool23 7 #[.nestHost 47] #[{ accessFlags := 0, nameIndex := 5, descriptorIndex := 6, attributes := #[] }] 32 2 #[20] #[{ accessFlags := 26, nameIndex := 22, descriptorIndex := 23, attributes := #[] }])
  fields := #[{ name := "serialVersionUID", type := .long, accessFlags := 26, slot := 0, constantValue := 0 }]
  methods := #[k23m0]
  instanceTypes := #[(.object "java/util/Collection"), (.object "java/util/List")]
  staticTypes := #[.long]
  resolved := Array.replicate 52 none
  mirror := some 4
  statics := none }

def pool24 : Array CpInfo := pool [(2, .class_ 4), (1, u "java/lang/Object"), (0, u "<init>"), (0, u "()V"), (35, .class_ 44), (1, u "java/util/Objects"), (60, .methodref 106 107), (0, .class_ 108), (0, .nameAndType 109 110), (0, u "jdk/internal/util/Preconditions"), (0, u "checkIndex"), (0, u "(IILjava/util/function/BiFunction;)I"), (60, u "(II)I")] 12

def k24m0 : Method := { name := "<init>", desc := "()V", sig := { parameters := [], returnType := none }, accessFlags := 2, code := none }
def k24c1 : Code := { maxStack := 3, maxLocals := 2, code := jdk_31_method_17_code, exceptionTable := #[], attributes := #[] }
def k24m1 : Method := { name := "checkIndex", desc := "(II)I", sig := { parameters := [.int, .int], returnType := some .int }, accessFlags := 9, code := some k24c1 }
/-- java/util/Objects -/
def k24 : Class := { plain "java/util/Objects" (some 0) with
  accessFlags := 49
  interfaces := #[]
  cf := some (fileOf pool24 42 #[] #[{ accessFlags := 2, nameIndex := 5, descriptorIndex := 6, attributes := #[] }, { accessFlags := 9, nameIndex := 109, descriptorIndex := 171, attributes := #[] }] 49 2 #[] #[])
  fields := #[]
  methods := #[k24m0, k24m1]
  instanceTypes := #[]
  staticTypes := #[]
  resolved := Array.replicate 184 none
  statics := none }

def pool25 : Array CpInfo := pool [(2, .class_ 4), (1, u "java/lang/Object"), (0, u "<init>"), (0, u "()V"), (17, .class_ 26), (1, u "jdk/internal/util/Preconditions"), (6, u "checkIndex"), (21, .class_ 56), (0, u "jdk/internal/util/Preconditions$4"), (57, .class_ 115), (0, u "jdk/internal/util/Preconditions$1"), (7, u "SIOOBE_FORMATTER"), (0, u "Ljava/util/function/BiFunction;"), (0, .class_ 126), (0, u "jdk/internal/util/Preconditions$2"), (3, u "AIOOBE_FORMATTER"), (0, .class_ 132), (0, u "jdk/internal/util/Preconditions$3"), (3, u "IOOBE_FORMATTER"), (41, u "(IILjava/util/function/BiFunction;)I")] 15

def k25m0 : Method := { name := "<init>", desc := "()V", sig := { parameters := [], returnType := none }, accessFlags := 1, code := none }
def k25c1 : Code := { maxStack := 3, maxLocals := 3, code := jdk_41_method_11_code, exceptionTable := #[], attributes := #[] }
def k25m1 : Method := { name := "checkIndex", desc := "(IILjava/util/function/BiFunction;)I", sig := { parameters := [.int, .int, (.object "java/util/function/BiFunction")], returnType := some .int }, accessFlags := 9, code := some k25c1 }
/-- jdk/internal/util/Preconditions -/
def k25 : Class := { plain "jdk/internal/util/Preconditions" (some 0) with
  accessFlags := 33
  interfaces := #[]
  cf := some (fileOf pool25 24 #[.nestMembers #[55, 131, 125, 114]] #[{ accessFlags := 1, nameIndex := 5, descriptorIndex := 6, attributes := #[] }, { accessFlags := 9, nameIndex := 33, descriptorIndex := 178, attributes := #[] }] 33 2 #[] #[{ accessFlags := 25, nameIndex := 123, descriptorIndex := 124, attributes := #[] }, { accessFlags := 25, nameIndex := 130, descriptorIndex := 124, attributes := #[] }, { accessFlags := 25, nameIndex := 136, descriptorIndex := 124, attributes := #[] }])
  fields := #[{ name := "SIOOBE_FORMATTER", type := (.object "java/util/function/BiFunction"), accessFlags := 25, slot := 0, constantValue := 0 }, { name := "AIOOBE_FORMATTER", type := (.object "java/util/function/BiFunction"), accessFlags := 25, slot := 1, constantValue := 0 }, { name := "IOOBE_FORMATTER", type := (.object "java/util/function/BiFunction"), accessFlags := 25, slot := 2, constantValue := 0 }]
  methods := #[k25m0, k25m1]
  instanceTypes := #[]
  staticTypes := #[(.object "java/util/function/BiFunction"), (.object "java/util/function/BiFunction"), (.object "java/util/function/BiFunction")]
  resolved := Array.replicate 194 none
  statics := none }

def pool26 : Array CpInfo := pool [(1, u "java/lang/Class"), (0, .class_ 1), (0, u "java/lang/Object"), (0, .class_ 3)] 0

/-- java/lang/Class -/
def k26 : Class := { plain "java/lang/Class" (some 0) with
  accessFlags := 49
  interfaces := #[]
  cf := some (fileOf pool26 2 #[] #[] 49 4 #[] #[])
  fields := #[]
  methods := #[]
  instanceTypes := #[]
  staticTypes := #[]
  resolved := Array.replicate 5 none
  statics := none }

/-- the primitive byte -/
def k27 : Class := { plain "byte" none with kind := .primitive 'B', accessFlags := 0x411 }
/-- [B -/
def k28 : Class := { plain "[B" (some 0) with kind := .array 27 .byte, interfaces := #[9, 10], accessFlags := 1041 }

/-- the primitive int -/
def k29 : Class := { plain "int" none with kind := .primitive 'I', accessFlags := 0x411 }
/-- [I -/
def k30 : Class := { plain "[I" (some 0) with kind := .array 29 .int, interfaces := #[9, 10], accessFlags := 1041 }

/-- [Ljava/lang/Integer; -/
def k31 : Class := { plain "[Ljava/lang/Integer;" (some 0) with kind := .array 16 (.object "java/lang/Integer"), interfaces := #[9, 10], accessFlags := 1041 }

/-- [Ljava/lang/Object; -/
def k32 : Class := { plain "[Ljava/lang/Object;" (some 0) with kind := .array 0 (.object "java/lang/Object"), interfaces := #[9, 10], accessFlags := 1041 }

def heap : Heap := #[{ cls := 11, slots := #[.long 0, .int 0, .ref 262, .ref 263], vm := .statics 11 },
  { cls := 17, slots := #[.int 0, .int 127, .ref 5, .null, .int 0], vm := .statics 17 },
  { cls := 26, slots := #[], vm := .mirror 11 },
  { cls := 26, slots := #[], vm := .mirror 22 },
  { cls := 26, slots := #[], vm := .mirror 23 },
  { cls := 31, slots := #[.ref 6, .ref 7, .ref 8, .ref 9, .ref 10, .ref 11, .ref 12, .ref 13, .ref 14, .ref 15, .ref 16, .ref 17, .ref 18, .ref 19, .ref 20, .ref 21, .ref 22, .ref 23, .ref 24, .ref 25, .ref 26, .ref 27, .ref 28, .ref 29, .ref 30, .ref 31, .ref 32, .ref 33, .ref 34, .ref 35, .ref 36, .ref 37, .ref 38, .ref 39, .ref 40, .ref 41, .ref 42, .ref 43, .ref 44, .ref 45, .ref 46, .ref 47, .ref 48, .ref 49, .ref 50, .ref 51, .ref 52, .ref 53, .ref 54, .ref 55, .ref 56, .ref 57, .ref 58, .ref 59, .ref 60, .ref 61, .ref 62, .ref 63, .ref 64, .ref 65, .ref 66, .ref 67, .ref 68, .ref 69, .ref 70, .ref 71, .ref 72, .ref 73, .ref 74, .ref 75, .ref 76, .ref 77, .ref 78, .ref 79, .ref 80, .ref 81, .ref 82, .ref 83, .ref 84, .ref 85, .ref 86, .ref 87, .ref 88, .ref 89, .ref 90, .ref 91, .ref 92, .ref 93, .ref 94, .ref 95, .ref 96, .ref 97, .ref 98, .ref 99, .ref 100, .ref 101, .ref 102, .ref 103, .ref 104, .ref 105, .ref 106, .ref 107, .ref 108, .ref 109, .ref 110, .ref 111, .ref 112, .ref 113, .ref 114, .ref 115, .ref 116, .ref 117, .ref 118, .ref 119, .ref 120, .ref 121, .ref 122, .ref 123, .ref 124, .ref 125, .ref 126, .ref 127, .ref 128, .ref 129, .ref 130, .ref 131, .ref 132, .ref 133, .ref 134, .ref 135, .ref 136, .ref 137, .ref 138, .ref 139, .ref 140, .ref 141, .ref 142, .ref 143, .ref 144, .ref 145, .ref 146, .ref 147, .ref 148, .ref 149, .ref 150, .ref 151, .ref 152, .ref 153, .ref 154, .ref 155, .ref 156, .ref 157, .ref 158, .ref 159, .ref 160, .ref 161, .ref 162, .ref 163, .ref 164, .ref 165, .ref 166, .ref 167, .ref 168, .ref 169, .ref 170, .ref 171, .ref 172, .ref 173, .ref 174, .ref 175, .ref 176, .ref 177, .ref 178, .ref 179, .ref 180, .ref 181, .ref 182, .ref 183, .ref 184, .ref 185, .ref 186, .ref 187, .ref 188, .ref 189, .ref 190, .ref 191, .ref 192, .ref 193, .ref 194, .ref 195, .ref 196, .ref 197, .ref 198, .ref 199, .ref 200, .ref 201, .ref 202, .ref 203, .ref 204, .ref 205, .ref 206, .ref 207, .ref 208, .ref 209, .ref 210, .ref 211, .ref 212, .ref 213, .ref 214, .ref 215, .ref 216, .ref 217, .ref 218, .ref 219, .ref 220, .ref 221, .ref 222, .ref 223, .ref 224, .ref 225, .ref 226, .ref 227, .ref 228, .ref 229, .ref 230, .ref 231, .ref 232, .ref 233, .ref 234, .ref 235, .ref 236, .ref 237, .ref 238, .ref 239, .ref 240, .ref 241, .ref 242, .ref 243, .ref 244, .ref 245, .ref 246, .ref 247, .ref 248, .ref 249, .ref 250, .ref 251, .ref 252, .ref 253, .ref 254, .ref 255, .ref 256, .ref 257, .ref 258, .ref 259, .ref 260, .ref 261], vm := .none },
  { cls := 16, slots := #[.int (-128)], vm := .none },
  { cls := 16, slots := #[.int (-127)], vm := .none },
  { cls := 16, slots := #[.int (-126)], vm := .none },
  { cls := 16, slots := #[.int (-125)], vm := .none },
  { cls := 16, slots := #[.int (-124)], vm := .none },
  { cls := 16, slots := #[.int (-123)], vm := .none },
  { cls := 16, slots := #[.int (-122)], vm := .none },
  { cls := 16, slots := #[.int (-121)], vm := .none },
  { cls := 16, slots := #[.int (-120)], vm := .none },
  { cls := 16, slots := #[.int (-119)], vm := .none },
  { cls := 16, slots := #[.int (-118)], vm := .none },
  { cls := 16, slots := #[.int (-117)], vm := .none },
  { cls := 16, slots := #[.int (-116)], vm := .none },
  { cls := 16, slots := #[.int (-115)], vm := .none },
  { cls := 16, slots := #[.int (-114)], vm := .none },
  { cls := 16, slots := #[.int (-113)], vm := .none },
  { cls := 16, slots := #[.int (-112)], vm := .none },
  { cls := 16, slots := #[.int (-111)], vm := .none },
  { cls := 16, slots := #[.int (-110)], vm := .none },
  { cls := 16, slots := #[.int (-109)], vm := .none },
  { cls := 16, slots := #[.int (-108)], vm := .none },
  { cls := 16, slots := #[.int (-107)], vm := .none },
  { cls := 16, slots := #[.int (-106)], vm := .none },
  { cls := 16, slots := #[.int (-105)], vm := .none },
  { cls := 16, slots := #[.int (-104)], vm := .none },
  { cls := 16, slots := #[.int (-103)], vm := .none },
  { cls := 16, slots := #[.int (-102)], vm := .none },
  { cls := 16, slots := #[.int (-101)], vm := .none },
  { cls := 16, slots := #[.int (-100)], vm := .none },
  { cls := 16, slots := #[.int (-99)], vm := .none },
  { cls := 16, slots := #[.int (-98)], vm := .none },
  { cls := 16, slots := #[.int (-97)], vm := .none },
  { cls := 16, slots := #[.int (-96)], vm := .none },
  { cls := 16, slots := #[.int (-95)], vm := .none },
  { cls := 16, slots := #[.int (-94)], vm := .none },
  { cls := 16, slots := #[.int (-93)], vm := .none },
  { cls := 16, slots := #[.int (-92)], vm := .none },
  { cls := 16, slots := #[.int (-91)], vm := .none },
  { cls := 16, slots := #[.int (-90)], vm := .none },
  { cls := 16, slots := #[.int (-89)], vm := .none },
  { cls := 16, slots := #[.int (-88)], vm := .none },
  { cls := 16, slots := #[.int (-87)], vm := .none },
  { cls := 16, slots := #[.int (-86)], vm := .none },
  { cls := 16, slots := #[.int (-85)], vm := .none },
  { cls := 16, slots := #[.int (-84)], vm := .none },
  { cls := 16, slots := #[.int (-83)], vm := .none },
  { cls := 16, slots := #[.int (-82)], vm := .none },
  { cls := 16, slots := #[.int (-81)], vm := .none },
  { cls := 16, slots := #[.int (-80)], vm := .none },
  { cls := 16, slots := #[.int (-79)], vm := .none },
  { cls := 16, slots := #[.int (-78)], vm := .none },
  { cls := 16, slots := #[.int (-77)], vm := .none },
  { cls := 16, slots := #[.int (-76)], vm := .none },
  { cls := 16, slots := #[.int (-75)], vm := .none },
  { cls := 16, slots := #[.int (-74)], vm := .none },
  { cls := 16, slots := #[.int (-73)], vm := .none },
  { cls := 16, slots := #[.int (-72)], vm := .none },
  { cls := 16, slots := #[.int (-71)], vm := .none },
  { cls := 16, slots := #[.int (-70)], vm := .none },
  { cls := 16, slots := #[.int (-69)], vm := .none },
  { cls := 16, slots := #[.int (-68)], vm := .none },
  { cls := 16, slots := #[.int (-67)], vm := .none },
  { cls := 16, slots := #[.int (-66)], vm := .none },
  { cls := 16, slots := #[.int (-65)], vm := .none },
  { cls := 16, slots := #[.int (-64)], vm := .none },
  { cls := 16, slots := #[.int (-63)], vm := .none },
  { cls := 16, slots := #[.int (-62)], vm := .none },
  { cls := 16, slots := #[.int (-61)], vm := .none },
  { cls := 16, slots := #[.int (-60)], vm := .none },
  { cls := 16, slots := #[.int (-59)], vm := .none },
  { cls := 16, slots := #[.int (-58)], vm := .none },
  { cls := 16, slots := #[.int (-57)], vm := .none },
  { cls := 16, slots := #[.int (-56)], vm := .none },
  { cls := 16, slots := #[.int (-55)], vm := .none },
  { cls := 16, slots := #[.int (-54)], vm := .none },
  { cls := 16, slots := #[.int (-53)], vm := .none },
  { cls := 16, slots := #[.int (-52)], vm := .none },
  { cls := 16, slots := #[.int (-51)], vm := .none },
  { cls := 16, slots := #[.int (-50)], vm := .none },
  { cls := 16, slots := #[.int (-49)], vm := .none },
  { cls := 16, slots := #[.int (-48)], vm := .none },
  { cls := 16, slots := #[.int (-47)], vm := .none },
  { cls := 16, slots := #[.int (-46)], vm := .none },
  { cls := 16, slots := #[.int (-45)], vm := .none },
  { cls := 16, slots := #[.int (-44)], vm := .none },
  { cls := 16, slots := #[.int (-43)], vm := .none },
  { cls := 16, slots := #[.int (-42)], vm := .none },
  { cls := 16, slots := #[.int (-41)], vm := .none },
  { cls := 16, slots := #[.int (-40)], vm := .none },
  { cls := 16, slots := #[.int (-39)], vm := .none },
  { cls := 16, slots := #[.int (-38)], vm := .none },
  { cls := 16, slots := #[.int (-37)], vm := .none },
  { cls := 16, slots := #[.int (-36)], vm := .none },
  { cls := 16, slots := #[.int (-35)], vm := .none },
  { cls := 16, slots := #[.int (-34)], vm := .none },
  { cls := 16, slots := #[.int (-33)], vm := .none },
  { cls := 16, slots := #[.int (-32)], vm := .none },
  { cls := 16, slots := #[.int (-31)], vm := .none },
  { cls := 16, slots := #[.int (-30)], vm := .none },
  { cls := 16, slots := #[.int (-29)], vm := .none },
  { cls := 16, slots := #[.int (-28)], vm := .none },
  { cls := 16, slots := #[.int (-27)], vm := .none },
  { cls := 16, slots := #[.int (-26)], vm := .none },
  { cls := 16, slots := #[.int (-25)], vm := .none },
  { cls := 16, slots := #[.int (-24)], vm := .none },
  { cls := 16, slots := #[.int (-23)], vm := .none },
  { cls := 16, slots := #[.int (-22)], vm := .none },
  { cls := 16, slots := #[.int (-21)], vm := .none },
  { cls := 16, slots := #[.int (-20)], vm := .none },
  { cls := 16, slots := #[.int (-19)], vm := .none },
  { cls := 16, slots := #[.int (-18)], vm := .none },
  { cls := 16, slots := #[.int (-17)], vm := .none },
  { cls := 16, slots := #[.int (-16)], vm := .none },
  { cls := 16, slots := #[.int (-15)], vm := .none },
  { cls := 16, slots := #[.int (-14)], vm := .none },
  { cls := 16, slots := #[.int (-13)], vm := .none },
  { cls := 16, slots := #[.int (-12)], vm := .none },
  { cls := 16, slots := #[.int (-11)], vm := .none },
  { cls := 16, slots := #[.int (-10)], vm := .none },
  { cls := 16, slots := #[.int (-9)], vm := .none },
  { cls := 16, slots := #[.int (-8)], vm := .none },
  { cls := 16, slots := #[.int (-7)], vm := .none },
  { cls := 16, slots := #[.int (-6)], vm := .none },
  { cls := 16, slots := #[.int (-5)], vm := .none },
  { cls := 16, slots := #[.int (-4)], vm := .none },
  { cls := 16, slots := #[.int (-3)], vm := .none },
  { cls := 16, slots := #[.int (-2)], vm := .none },
  { cls := 16, slots := #[.int (-1)], vm := .none },
  { cls := 16, slots := #[.int 0], vm := .none },
  { cls := 16, slots := #[.int 1], vm := .none },
  { cls := 16, slots := #[.int 2], vm := .none },
  { cls := 16, slots := #[.int 3], vm := .none },
  { cls := 16, slots := #[.int 4], vm := .none },
  { cls := 16, slots := #[.int 5], vm := .none },
  { cls := 16, slots := #[.int 6], vm := .none },
  { cls := 16, slots := #[.int 7], vm := .none },
  { cls := 16, slots := #[.int 8], vm := .none },
  { cls := 16, slots := #[.int 9], vm := .none },
  { cls := 16, slots := #[.int 10], vm := .none },
  { cls := 16, slots := #[.int 11], vm := .none },
  { cls := 16, slots := #[.int 12], vm := .none },
  { cls := 16, slots := #[.int 13], vm := .none },
  { cls := 16, slots := #[.int 14], vm := .none },
  { cls := 16, slots := #[.int 15], vm := .none },
  { cls := 16, slots := #[.int 16], vm := .none },
  { cls := 16, slots := #[.int 17], vm := .none },
  { cls := 16, slots := #[.int 18], vm := .none },
  { cls := 16, slots := #[.int 19], vm := .none },
  { cls := 16, slots := #[.int 20], vm := .none },
  { cls := 16, slots := #[.int 21], vm := .none },
  { cls := 16, slots := #[.int 22], vm := .none },
  { cls := 16, slots := #[.int 23], vm := .none },
  { cls := 16, slots := #[.int 24], vm := .none },
  { cls := 16, slots := #[.int 25], vm := .none },
  { cls := 16, slots := #[.int 26], vm := .none },
  { cls := 16, slots := #[.int 27], vm := .none },
  { cls := 16, slots := #[.int 28], vm := .none },
  { cls := 16, slots := #[.int 29], vm := .none },
  { cls := 16, slots := #[.int 30], vm := .none },
  { cls := 16, slots := #[.int 31], vm := .none },
  { cls := 16, slots := #[.int 32], vm := .none },
  { cls := 16, slots := #[.int 33], vm := .none },
  { cls := 16, slots := #[.int 34], vm := .none },
  { cls := 16, slots := #[.int 35], vm := .none },
  { cls := 16, slots := #[.int 36], vm := .none },
  { cls := 16, slots := #[.int 37], vm := .none },
  { cls := 16, slots := #[.int 38], vm := .none },
  { cls := 16, slots := #[.int 39], vm := .none },
  { cls := 16, slots := #[.int 40], vm := .none },
  { cls := 16, slots := #[.int 41], vm := .none },
  { cls := 16, slots := #[.int 42], vm := .none },
  { cls := 16, slots := #[.int 43], vm := .none },
  { cls := 16, slots := #[.int 44], vm := .none },
  { cls := 16, slots := #[.int 45], vm := .none },
  { cls := 16, slots := #[.int 46], vm := .none },
  { cls := 16, slots := #[.int 47], vm := .none },
  { cls := 16, slots := #[.int 48], vm := .none },
  { cls := 16, slots := #[.int 49], vm := .none },
  { cls := 16, slots := #[.int 50], vm := .none },
  { cls := 16, slots := #[.int 51], vm := .none },
  { cls := 16, slots := #[.int 52], vm := .none },
  { cls := 16, slots := #[.int 53], vm := .none },
  { cls := 16, slots := #[.int 54], vm := .none },
  { cls := 16, slots := #[.int 55], vm := .none },
  { cls := 16, slots := #[.int 56], vm := .none },
  { cls := 16, slots := #[.int 57], vm := .none },
  { cls := 16, slots := #[.int 58], vm := .none },
  { cls := 16, slots := #[.int 59], vm := .none },
  { cls := 16, slots := #[.int 60], vm := .none },
  { cls := 16, slots := #[.int 61], vm := .none },
  { cls := 16, slots := #[.int 62], vm := .none },
  { cls := 16, slots := #[.int 63], vm := .none },
  { cls := 16, slots := #[.int 64], vm := .none },
  { cls := 16, slots := #[.int 65], vm := .none },
  { cls := 16, slots := #[.int 66], vm := .none },
  { cls := 16, slots := #[.int 67], vm := .none },
  { cls := 16, slots := #[.int 68], vm := .none },
  { cls := 16, slots := #[.int 69], vm := .none },
  { cls := 16, slots := #[.int 70], vm := .none },
  { cls := 16, slots := #[.int 71], vm := .none },
  { cls := 16, slots := #[.int 72], vm := .none },
  { cls := 16, slots := #[.int 73], vm := .none },
  { cls := 16, slots := #[.int 74], vm := .none },
  { cls := 16, slots := #[.int 75], vm := .none },
  { cls := 16, slots := #[.int 76], vm := .none },
  { cls := 16, slots := #[.int 77], vm := .none },
  { cls := 16, slots := #[.int 78], vm := .none },
  { cls := 16, slots := #[.int 79], vm := .none },
  { cls := 16, slots := #[.int 80], vm := .none },
  { cls := 16, slots := #[.int 81], vm := .none },
  { cls := 16, slots := #[.int 82], vm := .none },
  { cls := 16, slots := #[.int 83], vm := .none },
  { cls := 16, slots := #[.int 84], vm := .none },
  { cls := 16, slots := #[.int 85], vm := .none },
  { cls := 16, slots := #[.int 86], vm := .none },
  { cls := 16, slots := #[.int 87], vm := .none },
  { cls := 16, slots := #[.int 88], vm := .none },
  { cls := 16, slots := #[.int 89], vm := .none },
  { cls := 16, slots := #[.int 90], vm := .none },
  { cls := 16, slots := #[.int 91], vm := .none },
  { cls := 16, slots := #[.int 92], vm := .none },
  { cls := 16, slots := #[.int 93], vm := .none },
  { cls := 16, slots := #[.int 94], vm := .none },
  { cls := 16, slots := #[.int 95], vm := .none },
  { cls := 16, slots := #[.int 96], vm := .none },
  { cls := 16, slots := #[.int 97], vm := .none },
  { cls := 16, slots := #[.int 98], vm := .none },
  { cls := 16, slots := #[.int 99], vm := .none },
  { cls := 16, slots := #[.int 100], vm := .none },
  { cls := 16, slots := #[.int 101], vm := .none },
  { cls := 16, slots := #[.int 102], vm := .none },
  { cls := 16, slots := #[.int 103], vm := .none },
  { cls := 16, slots := #[.int 104], vm := .none },
  { cls := 16, slots := #[.int 105], vm := .none },
  { cls := 16, slots := #[.int 106], vm := .none },
  { cls := 16, slots := #[.int 107], vm := .none },
  { cls := 16, slots := #[.int 108], vm := .none },
  { cls := 16, slots := #[.int 109], vm := .none },
  { cls := 16, slots := #[.int 110], vm := .none },
  { cls := 16, slots := #[.int 111], vm := .none },
  { cls := 16, slots := #[.int 112], vm := .none },
  { cls := 16, slots := #[.int 113], vm := .none },
  { cls := 16, slots := #[.int 114], vm := .none },
  { cls := 16, slots := #[.int 115], vm := .none },
  { cls := 16, slots := #[.int 116], vm := .none },
  { cls := 16, slots := #[.int 117], vm := .none },
  { cls := 16, slots := #[.int 118], vm := .none },
  { cls := 16, slots := #[.int 119], vm := .none },
  { cls := 16, slots := #[.int 120], vm := .none },
  { cls := 16, slots := #[.int 121], vm := .none },
  { cls := 16, slots := #[.int 122], vm := .none },
  { cls := 16, slots := #[.int 123], vm := .none },
  { cls := 16, slots := #[.int 124], vm := .none },
  { cls := 16, slots := #[.int 125], vm := .none },
  { cls := 16, slots := #[.int 126], vm := .none },
  { cls := 16, slots := #[.int 127], vm := .none },
  { cls := 32, slots := #[], vm := .none },
  { cls := 32, slots := #[], vm := .none }]
def classes : Array Class := #[k0, k1, k2, k3, k4, k5, k6, k7, k8, k9, k10, k11, k12, k13, k14, k15, k16, k17, k18, k19, k20, k21, k22, k23, k24, k25, k26, k27, k28, k29, k30, k31, k32]
def interned : List (Array UInt16 × Addr) := []
def slotsUsed : Nat := 521
def theMethod : MethodId := ⟨1, 1⟩
def args0 : Array Value := #[.int 2, .int 5, .int 6, .int 7, .int 8, .int 9]
def aboutOver (below : List Frame) : State where
  vm := { classes := classes, interned := interned.toArray }
  heap := heap
  slotsUsed := slotsUsed
  threads := #[{ frames := .invoking theMethod args0 :: below }]
def below0 : List Frame := [.native { method := ⟨0, 0⟩, args := #[] }]
def about1 : State := aboutOver below0
def p0 : Program := .bare "" "" ""
def e0 : Env := launch0.env 0 0 0
theorem w_frames : about1.frames = Frame.invoking theMethod args0 :: below0 := rfl
set_option maxRecDepth 65536 in
theorem w_args : argsFit about1.vm theMethod args0 = true := by decide +kernel
set_option maxRecDepth 65536 in
theorem w_heap : heapFits about1 = true := by decide +kernel
set_option maxRecDepth 65536 in
theorem w_runnable : about1.curStatus? = some .runnable := by decide +kernel
set_option maxRecDepth 65536 in
theorem w_alone : about1.alone = true := by decide +kernel
set_option maxRecDepth 65536 in
theorem w_named : about1.methodNamed? x = some theMethod := by decide +kernel
set_option maxRecDepth 65536 in
theorem w_hears : about1.hears theMethod below0 = true := by decide +kernel
set_option maxRecDepth 65536 in
theorem w_ripe : about1.ripe theMethod args0 below0 = true := by decide +kernel
theorem w_running : about1.status = .running := rfl
set_option maxRecDepth 65536 in
theorem w_room : about1.hasRoom e0.platform room_1 = true :=
  launch0.hasRoom_least _ room_1 (by decide +kernel) (by decide +kernel) (by decide +kernel) (by decide +kernel) (by decide +kernel) (by decide +kernel)
theorem allAtoms_all (ts : List Jvm.Cond) (a : Array Jvm.Value) (st : Jvm.State) : (allAtoms ts).before a st = ts.all (fun c => c.before a st) := by
  induction ts with
  | nil => rfl
  | cons c t ih =>
    show (Jvm.Cond.and c (allAtoms t)).before a st = _
    rw [Jvm.Cond.before_and, ih, List.all_cons]
def words1 : List Jvm.Cond := Jvm.Cond.code x code maxLocals ret :: tables_1
/-- a 'code' word, met by the world's own term for the bytes: nothing is compared byte by byte -/
theorem code_word {y : MethodName} {bytes : ByteArray} {mx : Nat} {rt : Option FieldType} {a : Array Value} {s : State} {m : MethodId} {meth : Method} {c : Code} (h1 : s.methodNamed? y = some m) (h2 : s.vm.method? m = some meth) (h3 : meth.code = some c) (h4 : c.code = bytes)
    (h5 : (c.maxLocals == mx && c.exceptionTable.isEmpty && decide (c.maxStack ≤ mostOperands) && decide (meth.sig.returnType = rt) && !meth.locks && decide (parseMethodDescriptor y.desc = some meth.sig)) = true) : (Jvm.Cond.code y bytes mx rt).before a s = true := by
  simp only [Bool.and_eq_true, beq_iff_eq, Bool.not_eq_true', decide_eq_true_eq] at h5
  obtain ⟨⟨⟨⟨⟨g1, g2⟩, g3⟩, g4⟩, g5⟩, g6⟩ := h5
  simp [Cond.before, Cond.holds, Cond.value, h1, h2, h3, h4, g1, g2, g3, g4, g5, g6]
def isCode : Jvm.Cond → Bool
  | .code _ _ _ _ => true
  | _ => false
theorem all_split {L : List Jvm.Cond} {P : Jvm.Cond → Bool} (h1 : L.all (fun c => isCode c || P c) = true) (h2 : ∀ c ∈ L.filter isCode, P c = true) : L.all P = true := by
  refine List.all_eq_true.mpr fun c hc => ?_
  have h := List.all_eq_true.mp h1 c hc
  rcases Bool.eq_false_or_eq_true (isCode c) with hi | hi
  · exact h2 c (List.mem_filter.mpr ⟨hc, hi⟩)
  · simpa [hi] using h
set_option maxRecDepth 65536 in
theorem w_c0 : (Jvm.Cond.code x code maxLocals ret).before args0 about1 = true := code_word (m := ⟨1, 1⟩) (meth := k1m1) (c := k1c1) (by decide +kernel) rfl rfl rfl (by decide +kernel)
set_option maxRecDepth 65536 in
theorem w_c1 : (Jvm.Cond.code ({ cls := "java/util/ArrayList", name := "<init>", desc := "()V" } : Jvm.MethodName) jdk_38_method_2_code (1 : Nat) (Option.none : Option Jvm.ClassFile.FieldType)).before args0 about1 = true := code_word (m := ⟨11, 0⟩) (meth := k11m0) (c := k11c0) (by decide +kernel) rfl rfl rfl (by decide +kernel)
set_option maxRecDepth 65536 in
theorem w_c2 : (Jvm.Cond.code ({ cls := "java/util/AbstractList", name := "<init>", desc := "()V" } : Jvm.MethodName) jdk_39_method_1_code (1 : Nat) (Option.none : Option Jvm.ClassFile.FieldType)).before args0 about1 = true := code_word (m := ⟨7, 0⟩) (meth := k7m0) (c := k7c0) (by decide +kernel) rfl rfl rfl (by decide +kernel)
set_option maxRecDepth 65536 in
theorem w_c3 : (Jvm.Cond.code ({ cls := "java/util/AbstractCollection", name := "<init>", desc := "()V" } : Jvm.MethodName) jdk_22_method_1_code (1 : Nat) (Option.none : Option Jvm.ClassFile.FieldType)).before args0 about1 = true := code_word (m := ⟨4, 0⟩) (meth := k4m0) (c := k4c0) (by decide +kernel) rfl rfl rfl (by decide +kernel)
set_option maxRecDepth 65536 in
theorem w_c4 : (Jvm.Cond.code ({ cls := "java/lang/Object", name := "<init>", desc := "()V" } : Jvm.MethodName) object_method_1_code (1 : Nat) (Option.none : Option Jvm.ClassFile.FieldType)).before args0 about1 = true := code_word (m := ⟨0, 0⟩) (meth := k0m0) (c := k0c0) (by decide +kernel) rfl rfl rfl (by decide +kernel)
set_option maxRecDepth 65536 in
theorem w_c5 : (Jvm.Cond.code ({ cls := "java/lang/Integer", name := "valueOf", desc := "(I)Ljava/lang/Integer;" } : Jvm.MethodName) jdk_33_method_22_code (1 : Nat) (Option.some (Jvm.ClassFile.FieldType.object "java/lang/Integer"))).before args0 about1 = true := code_word (m := ⟨16, 0⟩) (meth := k16m0) (c := k16c0) (by decide +kernel) rfl rfl rfl (by decide +kernel)
set_option maxRecDepth 65536 in
theorem w_c6 : (Jvm.Cond.code ({ cls := "java/util/ArrayList", name := "add", desc := "(Ljava/lang/Object;)Z" } : Jvm.MethodName) jdk_38_method_25_code (2 : Nat) (Option.some Jvm.ClassFile.FieldType.boolean)).before args0 about1 = true := code_word (m := ⟨11, 7⟩) (meth := k11m7) (c := k11c7) (by decide +kernel) rfl rfl rfl (by decide +kernel)
set_option maxRecDepth 65536 in
theorem w_c7 : (Jvm.Cond.code ({ cls := "java/util/ArrayList", name := "add", desc := "(Ljava/lang/Object;[Ljava/lang/Object;I)V" } : Jvm.MethodName) jdk_38_method_24_code (4 : Nat) (Option.none : Option Jvm.ClassFile.FieldType)).before args0 about1 = true := code_word (m := ⟨11, 6⟩) (meth := k11m6) (c := k11c6) (by decide +kernel) rfl rfl rfl (by decide +kernel)
set_option maxRecDepth 65536 in
theorem w_c8 : (Jvm.Cond.code ({ cls := "java/util/ArrayList", name := "grow", desc := "()[Ljava/lang/Object;" } : Jvm.MethodName) jdk_38_method_7_code (1 : Nat) (Option.some (Jvm.ClassFile.FieldType.array (Jvm.ClassFile.FieldType.object "java/lang/Object")))).before args0 about1 = true := code_word (m := ⟨11, 2⟩) (meth := k11m2) (c := k11c2) (by decide +kernel) rfl rfl rfl (by decide +kernel)
set_option maxRecDepth 65536 in
theorem w_c9 : (Jvm.Cond.code ({ cls := "java/util/ArrayList", name := "grow", desc := "(I)[Ljava/lang/Object;" } : Jvm.MethodName) jdk_38_method_6_code (4 : Nat) (Option.some (Jvm.ClassFile.FieldType.array (Jvm.ClassFile.FieldType.object "java/lang/Object")))).before args0 about1 = true := code_word (m := ⟨11, 1⟩) (meth := k11m1) (c := k11c1) (by decide +kernel) rfl rfl rfl (by decide +kernel)
set_option maxRecDepth 65536 in
theorem w_c10 : (Jvm.Cond.code ({ cls := "java/lang/Math", name := "max", desc := "(II)I" } : Jvm.MethodName) jdk_29_method_65_code (2 : Nat) (Option.some Jvm.ClassFile.FieldType.int)).before args0 about1 = true := code_word (m := ⟨18, 1⟩) (meth := k18m1) (c := k18c1) (by decide +kernel) rfl rfl rfl (by decide +kernel)
set_option maxRecDepth 65536 in
theorem w_c11 : (Jvm.Cond.code ({ cls := "com/example/rationed_session/rationedsession/model/Partition", name := "<init>", desc := "(IILjava/util/List;)V" } : Jvm.MethodName) prog_6_method_1_code (4 : Nat) (Option.none : Option Jvm.ClassFile.FieldType)).before args0 about1 = true := code_word (m := ⟨19, 0⟩) (meth := k19m0) (c := k19c0) (by decide +kernel) rfl rfl rfl (by decide +kernel)
set_option maxRecDepth 65536 in
theorem w_c12 : (Jvm.Cond.code ({ cls := "java/util/Collections", name := "unmodifiableList", desc := "(Ljava/util/List;)Ljava/util/List;" } : Jvm.MethodName) jdk_79_method_35_code (1 : Nat) (Option.some (Jvm.ClassFile.FieldType.object "java/util/List"))).before args0 about1 = true := code_word (m := ⟨20, 1⟩) (meth := k20m1) (c := k20c1) (by decide +kernel) rfl rfl rfl (by decide +kernel)
set_option maxRecDepth 65536 in
theorem w_c13 : (Jvm.Cond.code ({ cls := "java/util/Collections$UnmodifiableRandomAccessList", name := "<init>", desc := "(Ljava/util/List;)V" } : Jvm.MethodName) jdk_121_method_1_code (2 : Nat) (Option.none : Option Jvm.ClassFile.FieldType)).before args0 about1 = true := code_word (m := ⟨23, 0⟩) (meth := k23m0) (c := k23c0) (by decide +kernel) rfl rfl rfl (by decide +kernel)
set_option maxRecDepth 65536 in
theorem w_c14 : (Jvm.Cond.code ({ cls := "java/util/Collections$UnmodifiableList", name := "<init>", desc := "(Ljava/util/List;)V" } : Jvm.MethodName) jdk_120_method_1_code (2 : Nat) (Option.none : Option Jvm.ClassFile.FieldType)).before args0 about1 = true := code_word (m := ⟨22, 0⟩) (meth := k22m0) (c := k22c0) (by decide +kernel) rfl rfl rfl (by decide +kernel)
set_option maxRecDepth 65536 in
theorem w_c15 : (Jvm.Cond.code ({ cls := "java/util/Collections$UnmodifiableCollection", name := "<init>", desc := "(Ljava/util/Collection;)V" } : Jvm.MethodName) jdk_119_method_1_code (2 : Nat) (Option.none : Option Jvm.ClassFile.FieldType)).before args0 about1 = true := code_word (m := ⟨21, 0⟩) (meth := k21m0) (c := k21c0) (by decide +kernel) rfl rfl rfl (by decide +kernel)
set_option maxRecDepth 65536 in
theorem w_c16 : (Jvm.Cond.code ({ cls := "com/example/rationed_session/rationedsession/model/Partition", name := "last", desc := "()Ljava/lang/Object;" } : Jvm.MethodName) prog_6_method_7_code (1 : Nat) (Option.some (Jvm.ClassFile.FieldType.object "java/lang/Object"))).before args0 about1 = true := code_word (m := ⟨19, 1⟩) (meth := k19m1) (c := k19c1) (by decide +kernel) rfl rfl rfl (by decide +kernel)
set_option maxRecDepth 65536 in
theorem w_c17 : (Jvm.Cond.code ({ cls := "java/util/Collections$UnmodifiableCollection", name := "size", desc := "()I" } : Jvm.MethodName) jdk_119_method_2_code (1 : Nat) (Option.some Jvm.ClassFile.FieldType.int)).before args0 about1 = true := code_word (m := ⟨21, 1⟩) (meth := k21m1) (c := k21c1) (by decide +kernel) rfl rfl rfl (by decide +kernel)
set_option maxRecDepth 65536 in
theorem w_c18 : (Jvm.Cond.code ({ cls := "java/util/ArrayList", name := "size", desc := "()I" } : Jvm.MethodName) jdk_38_method_8_code (1 : Nat) (Option.some Jvm.ClassFile.FieldType.int)).before args0 about1 = true := code_word (m := ⟨11, 3⟩) (meth := k11m3) (c := k11c3) (by decide +kernel) rfl rfl rfl (by decide +kernel)
set_option maxRecDepth 65536 in
theorem w_c19 : (Jvm.Cond.code ({ cls := "java/util/Collections$UnmodifiableList", name := "get", desc := "(I)Ljava/lang/Object;" } : Jvm.MethodName) jdk_120_method_4_code (2 : Nat) (Option.some (Jvm.ClassFile.FieldType.object "java/lang/Object"))).before args0 about1 = true := code_word (m := ⟨22, 1⟩) (meth := k22m1) (c := k22c1) (by decide +kernel) rfl rfl rfl (by decide +kernel)
set_option maxRecDepth 65536 in
theorem w_c20 : (Jvm.Cond.code ({ cls := "java/util/ArrayList", name := "get", desc := "(I)Ljava/lang/Object;" } : Jvm.MethodName) jdk_38_method_20_code (2 : Nat) (Option.some (Jvm.ClassFile.FieldType.object "java/lang/Object"))).before args0 about1 = true := code_word (m := ⟨11, 5⟩) (meth := k11m5) (c := k11c5) (by decide +kernel) rfl rfl rfl (by decide +kernel)
set_option maxRecDepth 65536 in
theorem w_c21 : (Jvm.Cond.code ({ cls := "java/util/Objects", name := "checkIndex", desc := "(II)I" } : Jvm.MethodName) jdk_31_method_17_code (2 : Nat) (Option.some Jvm.ClassFile.FieldType.int)).before args0 about1 = true := code_word (m := ⟨24, 1⟩) (meth := k24m1) (c := k24c1) (by decide +kernel) rfl rfl rfl (by decide +kernel)
set_option maxRecDepth 65536 in
theorem w_c22 : (Jvm.Cond.code ({ cls := "jdk/internal/util/Preconditions", name := "checkIndex", desc := "(IILjava/util/function/BiFunction;)I" } : Jvm.MethodName) jdk_41_method_11_code (3 : Nat) (Option.some Jvm.ClassFile.FieldType.int)).before args0 about1 = true := code_word (m := ⟨25, 1⟩) (meth := k25m1) (c := k25c1) (by decide +kernel) rfl rfl rfl (by decide +kernel)
set_option maxRecDepth 65536 in
theorem w_c23 : (Jvm.Cond.code ({ cls := "java/util/ArrayList", name := "elementData", desc := "(I)Ljava/lang/Object;" } : Jvm.MethodName) jdk_38_method_18_code (2 : Nat) (Option.some (Jvm.ClassFile.FieldType.object "java/lang/Object"))).before args0 about1 = true := code_word (m := ⟨11, 4⟩) (meth := k11m4) (c := k11c4) (by decide +kernel) rfl rfl rfl (by decide +kernel)
set_option maxRecDepth 65536 in
theorem w_c24 : (Jvm.Cond.code ({ cls := "java/lang/Integer", name := "intValue", desc := "()I" } : Jvm.MethodName) jdk_33_method_27_code (1 : Nat) (Option.some Jvm.ClassFile.FieldType.int)).before args0 about1 = true := code_word (m := ⟨16, 2⟩) (meth := k16m2) (c := k16c2) (by decide +kernel) rfl rfl rfl (by decide +kernel)
set_option maxRecDepth 65536 in
theorem w_c25 : (Jvm.Cond.code ({ cls := "java/lang/Integer", name := "<init>", desc := "(I)V" } : Jvm.MethodName) jdk_33_method_23_code (2 : Nat) (Option.none : Option Jvm.ClassFile.FieldType)).before args0 about1 = true := code_word (m := ⟨16, 1⟩) (meth := k16m1) (c := k16c1) (by decide +kernel) rfl rfl rfl (by decide +kernel)
set_option maxRecDepth 65536 in
theorem w_c26 : (Jvm.Cond.code ({ cls := "java/lang/Number", name := "<init>", desc := "()V" } : Jvm.MethodName) jdk_18_method_1_code (1 : Nat) (Option.none : Option Jvm.ClassFile.FieldType)).before args0 about1 = true := code_word (m := ⟨12, 0⟩) (meth := k12m0) (c := k12c0) (by decide +kernel) rfl rfl rfl (by decide +kernel)
def codes1 : List Jvm.Cond := [Jvm.Cond.code x code maxLocals ret, Jvm.Cond.code ({ cls := "java/util/ArrayList", name := "<init>", desc := "()V" } : Jvm.MethodName) jdk_38_method_2_code (1 : Nat) (Option.none : Option Jvm.ClassFile.FieldType), Jvm.Cond.code ({ cls := "java/util/AbstractList", name := "<init>", desc := "()V" } : Jvm.MethodName) jdk_39_method_1_code (1 : Nat) (Option.none : Option Jvm.ClassFile.FieldType), Jvm.Cond.code ({ cls := "java/util/AbstractCollection", name := "<init>", desc := "()V" } : Jvm.MethodName) jdk_22_method_1_code (1 : Nat) (Option.none : Option Jvm.ClassFile.FieldType), Jvm.Cond.code ({ cls := "java/lang/Object", name := "<init>", desc := "()V" } : Jvm.MethodName) object_method_1_code (1 : Nat) (Option.none : Option Jvm.ClassFile.FieldType), Jvm.Cond.code ({ cls := "java/lang/Integer", name := "valueOf", desc := "(I)Ljava/lang/Integer;" } : Jvm.MethodName) jdk_33_method_22_code (1 : Nat) (Option.some (Jvm.ClassFile.FieldType.object "java/lang/Integer")), Jvm.Cond.code ({ cls := "java/util/ArrayList", name := "add", desc := "(Ljava/lang/Object;)Z" } : Jvm.MethodName) jdk_38_method_25_code (2 : Nat) (Option.some Jvm.ClassFile.FieldType.boolean), Jvm.Cond.code ({ cls := "java/util/ArrayList", name := "add", desc := "(Ljava/lang/Object;[Ljava/lang/Object;I)V" } : Jvm.MethodName) jdk_38_method_24_code (4 : Nat) (Option.none : Option Jvm.ClassFile.FieldType), Jvm.Cond.code ({ cls := "java/util/ArrayList", name := "grow", desc := "()[Ljava/lang/Object;" } : Jvm.MethodName) jdk_38_method_7_code (1 : Nat) (Option.some (Jvm.ClassFile.FieldType.array (Jvm.ClassFile.FieldType.object "java/lang/Object"))), Jvm.Cond.code ({ cls := "java/util/ArrayList", name := "grow", desc := "(I)[Ljava/lang/Object;" } : Jvm.MethodName) jdk_38_method_6_code (4 : Nat) (Option.some (Jvm.ClassFile.FieldType.array (Jvm.ClassFile.FieldType.object "java/lang/Object"))), Jvm.Cond.code ({ cls := "java/lang/Math", name := "max", desc := "(II)I" } : Jvm.MethodName) jdk_29_method_65_code (2 : Nat) (Option.some Jvm.ClassFile.FieldType.int), Jvm.Cond.code ({ cls := "com/example/rationed_session/rationedsession/model/Partition", name := "<init>", desc := "(IILjava/util/List;)V" } : Jvm.MethodName) prog_6_method_1_code (4 : Nat) (Option.none : Option Jvm.ClassFile.FieldType), Jvm.Cond.code ({ cls := "java/util/Collections", name := "unmodifiableList", desc := "(Ljava/util/List;)Ljava/util/List;" } : Jvm.MethodName) jdk_79_method_35_code (1 : Nat) (Option.some (Jvm.ClassFile.FieldType.object "java/util/List")), Jvm.Cond.code ({ cls := "java/util/Collections$UnmodifiableRandomAccessList", name := "<init>", desc := "(Ljava/util/List;)V" } : Jvm.MethodName) jdk_121_method_1_code (2 : Nat) (Option.none : Option Jvm.ClassFile.FieldType), Jvm.Cond.code ({ cls := "java/util/Collections$UnmodifiableList", name := "<init>", desc := "(Ljava/util/List;)V" } : Jvm.MethodName) jdk_120_method_1_code (2 : Nat) (Option.none : Option Jvm.ClassFile.FieldType), Jvm.Cond.code ({ cls := "java/util/Collections$UnmodifiableCollection", name := "<init>", desc := "(Ljava/util/Collection;)V" } : Jvm.MethodName) jdk_119_method_1_code (2 : Nat) (Option.none : Option Jvm.ClassFile.FieldType), Jvm.Cond.code ({ cls := "com/example/rationed_session/rationedsession/model/Partition", name := "last", desc := "()Ljava/lang/Object;" } : Jvm.MethodName) prog_6_method_7_code (1 : Nat) (Option.some (Jvm.ClassFile.FieldType.object "java/lang/Object")), Jvm.Cond.code ({ cls := "java/util/Collections$UnmodifiableCollection", name := "size", desc := "()I" } : Jvm.MethodName) jdk_119_method_2_code (1 : Nat) (Option.some Jvm.ClassFile.FieldType.int), Jvm.Cond.code ({ cls := "java/util/ArrayList", name := "size", desc := "()I" } : Jvm.MethodName) jdk_38_method_8_code (1 : Nat) (Option.some Jvm.ClassFile.FieldType.int), Jvm.Cond.code ({ cls := "java/util/Collections$UnmodifiableList", name := "get", desc := "(I)Ljava/lang/Object;" } : Jvm.MethodName) jdk_120_method_4_code (2 : Nat) (Option.some (Jvm.ClassFile.FieldType.object "java/lang/Object")), Jvm.Cond.code ({ cls := "java/util/ArrayList", name := "get", desc := "(I)Ljava/lang/Object;" } : Jvm.MethodName) jdk_38_method_20_code (2 : Nat) (Option.some (Jvm.ClassFile.FieldType.object "java/lang/Object")), Jvm.Cond.code ({ cls := "java/util/Objects", name := "checkIndex", desc := "(II)I" } : Jvm.MethodName) jdk_31_method_17_code (2 : Nat) (Option.some Jvm.ClassFile.FieldType.int), Jvm.Cond.code ({ cls := "jdk/internal/util/Preconditions", name := "checkIndex", desc := "(IILjava/util/function/BiFunction;)I" } : Jvm.MethodName) jdk_41_method_11_code (3 : Nat) (Option.some Jvm.ClassFile.FieldType.int), Jvm.Cond.code ({ cls := "java/util/ArrayList", name := "elementData", desc := "(I)Ljava/lang/Object;" } : Jvm.MethodName) jdk_38_method_18_code (2 : Nat) (Option.some (Jvm.ClassFile.FieldType.object "java/lang/Object")), Jvm.Cond.code ({ cls := "java/lang/Integer", name := "intValue", desc := "()I" } : Jvm.MethodName) jdk_33_method_27_code (1 : Nat) (Option.some Jvm.ClassFile.FieldType.int), Jvm.Cond.code ({ cls := "java/lang/Integer", name := "<init>", desc := "(I)V" } : Jvm.MethodName) jdk_33_method_23_code (2 : Nat) (Option.none : Option Jvm.ClassFile.FieldType), Jvm.Cond.code ({ cls := "java/lang/Number", name := "<init>", desc := "()V" } : Jvm.MethodName) jdk_18_method_1_code (1 : Nat) (Option.none : Option Jvm.ClassFile.FieldType)]
set_option maxRecDepth 65536 in
theorem codes_eq : words1.filter isCode = codes1 := rfl
theorem w_codes : ∀ c ∈ words1.filter isCode, c.before args0 about1 = true := by
  rw [codes_eq]
  intro c hc
  simp only [codes1, List.mem_cons, List.not_mem_nil, or_false] at hc
  rcases hc with rfl | rfl | rfl | rfl | rfl | rfl | rfl | rfl | rfl | rfl | rfl | rfl | rfl | rfl | rfl | rfl | rfl | rfl | rfl | rfl | rfl | rfl | rfl | rfl | rfl | rfl | rfl
  · exact w_c0
  · exact w_c1
  · exact w_c2
  · exact w_c3
  · exact w_c4
  · exact w_c5
  · exact w_c6
  · exact w_c7
  · exact w_c8
  · exact w_c9
  · exact w_c10
  · exact w_c11
  · exact w_c12
  · exact w_c13
  · exact w_c14
  · exact w_c15
  · exact w_c16
  · exact w_c17
  · exact w_c18
  · exact w_c19
  · exact w_c20
  · exact w_c21
  · exact w_c22
  · exact w_c23
  · exact w_c24
  · exact w_c25
  · exact w_c26
set_option maxRecDepth 65536 in
theorem w_t1 : (words1.take 24).all (fun c => isCode c || c.before args0 about1) = true := by decide +kernel
set_option maxRecDepth 65536 in
theorem w_t2 : ((words1.drop 24).take 24).all (fun c => isCode c || c.before args0 about1) = true := by decide +kernel
set_option maxRecDepth 65536 in
theorem w_t3 : (((words1.drop 24).drop 24).take 24).all (fun c => isCode c || c.before args0 about1) = true := by decide +kernel
set_option maxRecDepth 65536 in
theorem w_t4 : ((((words1.drop 24).drop 24).drop 24).take 24).all (fun c => isCode c || c.before args0 about1) = true := by decide +kernel
set_option maxRecDepth 65536 in
theorem w_t5 : (((((words1.drop 24).drop 24).drop 24).drop 24).take 24).all (fun c => isCode c || c.before args0 about1) = true := by decide +kernel
set_option maxRecDepth 65536 in
theorem w_t6 : ((((((words1.drop 24).drop 24).drop 24).drop 24).drop 24).take 24).all (fun c => isCode c || c.before args0 about1) = true := by decide +kernel
set_option maxRecDepth 65536 in
theorem w_t7 : (((((((words1.drop 24).drop 24).drop 24).drop 24).drop 24).drop 24).take 24).all (fun c => isCode c || c.before args0 about1) = true := by decide +kernel
set_option maxRecDepth 65536 in
theorem w_t8 : (((((((words1.drop 24).drop 24).drop 24).drop 24).drop 24).drop 24).drop 24).all (fun c => isCode c || c.before args0 about1) = true := by decide +kernel
theorem w_tables : (allAtoms (Jvm.Cond.code x code maxLocals ret :: tables_1)).before args0 about1 = true := by
  rw [allAtoms_all]
  show words1.all (fun c => c.before args0 about1) = true
  refine all_split ?_ w_codes
  rw [← List.take_append_drop 24 words1, List.all_append, w_t1, ← List.take_append_drop 24 (words1.drop 24), List.all_append, w_t2, ← List.take_append_drop 24 ((words1.drop 24).drop 24), List.all_append, w_t3, ← List.take_append_drop 24 (((words1.drop 24).drop 24).drop 24), List.all_append, w_t4, ← List.take_append_drop 24 ((((words1.drop 24).drop 24).drop 24).drop 24), List.all_append, w_t5, ← List.take_append_drop 24 (((((words1.drop 24).drop 24).drop 24).drop 24).drop 24), List.all_append, w_t6, ← List.take_append_drop 24 ((((((words1.drop 24).drop 24).drop 24).drop 24).drop 24).drop 24), List.all_append, w_t7, w_t8]
  rfl
set_option maxRecDepth 65536 in
theorem w_rest : rest_1_c.before args0 about1 = true := by decide +kernel
set_option maxRecDepth 65536 in
theorem w_case : (Jvm.Cond.and given_1 narrow_1).before args0 about1 = true := by decide +kernel
theorem w_applies : (headSpec (Jvm.Cond.code x code maxLocals ret :: tables_1) room_1).applies x e0.platform about1 = true :=
  (Spec.applies_iff w_frames).mpr ⟨w_running, w_runnable, w_alone, w_named, w_hears, w_ripe, w_room, w_tables⟩
set_option maxRecDepth 65536 in
theorem atStart : AtStart classFile x code maxLocals ret World_1 tables_1 room_1 Calls_1 rest_1 Pre_1 launch0 p0 e0 about1 theMethod args0 below0 :=
  ⟨lists_1, trivial, launch0.admits_env _ _ _, launch0.least_env, fairChoices_fair.cas, fairChoices_fair.clock, w_frames, w_args, w_heap, w_applies, ⟨⟨11, k11, 2, by decide +kernel, rfl, rfl, _, rfl, rfl⟩, ⟨⟨22, k22, 3, by decide +kernel, rfl, rfl, _, rfl, rfl⟩, ⟨⟨23, k23, 4, by decide +kernel, rfl, rfl, _, rfl, rfl⟩, trivial⟩⟩⟩, w_rest, w_case⟩
end start1
theorem witness_1 : WitnessClaimed_1 := ⟨start1.p0, start1.e0, start1.about1, start1.theMethod, start1.args0, start1.below0, start1.atStart⟩
end Jvm.Pilot.@@N@@
