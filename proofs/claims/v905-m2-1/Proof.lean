import JvmDerived
import JvmDerived.Pilot.@@N@@Statement
import JvmDerived.Pilot.@@N@@Code
set_option linter.unusedVariables false
set_option linter.unusedSimpArgs false
@@BLOCK:NumsL.lean.txt@@
namespace Jvm.RoadKit
open Sem ClassFile Op Lib Jvm.Stand Jvm.Free Jvm.LawKit
section New
variable {p : Program} {l : Launch} {e : Env} {R : Room} {s : State} {m : MethodId} {args : Array Value} {below : List Frame} {meth : Method} {c : Code} {T : State} {locs : List Loc} {cells slots : Nat}
theorem retI (X : Stand p l e R s m args below meth c T locs cells slots) (hx : p.tables.exec = Jvm.exec) {pc : Nat} {Ls : Array Slot} {z : Int32} {rest : List Value} (hret : meth.sig.returnType = some .int) (hd : decode c.code pc = .ok (.ireturn, 1)) {fs : List Frame}
    (hl : ∀ (f : JFrame) (acts : List Action), f.method = m → f.locked = none → f.entered = [] → (doReturn e (T.setTop f) acts (some (.int z))).1 = T.setFrames fs) : Steps p.tables e below (T.setTop (mkF m pc Ls (.int z :: rest))) (T.setFrames fs) := by
  have hm' : T.vm.method? m = some meth := X.method'
  have hn : narrow .int (.int z) = .int z := rfl
  show Steps p.tables e below (T.setTop { method := m, pc := pc, locals := Ls, stack := _ :: rest, locked := none }) _
  jvm_step X.here [X.here.top, hx, hd, hm', hret, hn]
  first | (intro acts; rw [hl _ acts rfl rfl rfl]) | rw [hl _ _ rfl rfl rfl]
  exact Steps.refl _
end New
section Own
variable {p : Program} {l : Launch} {e : Env} {R : Room} {s : State} {m : MethodId} {args : Array Value} {below : List Frame} {meth : Method} {c : Code} {T A B : State} {locs : List Loc} {cells slots k n : Nat} {Q : Option Value → Heap → List Loc → Prop}
/-- from A the walk comes to its end, and Q holds there -/
def own_Go (p : Program) (e : Env) (below : List Frame) (s : State) (Q : Option Value → Heap → List Loc → Prop) (k n : Nat) (A : State) : Prop :=
  ∃ s₂ o, Steps p.tables e below A s₂ ∧ s₂.status = .running ∧ Ended s₂ below o ∧ ∃ v L, o = .returned v ∧ Q v s₂.heap L ∧ FrameEnd s o s₂ L k n
theorem own_st (h : ∀ t, Steps p.tables e below B t → Steps p.tables e below A t) (g : own_Go p e below s Q k n B) : own_Go p e below s Q k n A := by
  obtain ⟨s₂, o, h1, r⟩ := g
  exact ⟨s₂, o, h _ h1, r⟩
theorem own_tr (h : Steps p.tables e below A B) (g : own_Go p e below s Q k n B) : own_Go p e below s Q k n A := own_st (fun _ q => h.trans q) g
theorem own_end (X : Stand p l e R s m args below meth c T locs cells slots) (hlk : meth.locks = false) {v : Option Value} (hv : meth.sig.returnType = none → v = none) (hk : cells ≤ k) (hn : slots ≤ n) (hQ : Q v T.heap locs) {g : JFrame}
    (hgo : ∀ fs, (∀ (f : JFrame) (acts : List Action), f.method = m → f.locked = none → f.entered = [] → (doReturn e (T.setTop f) acts v).1 = T.setFrames fs) → Steps p.tables e below (T.setTop g) (T.setFrames fs)) : own_Go p e below s Q k n (T.setTop g) := by
  obtain ⟨fs, hr, hrun, hended, hW, hsame⟩ := X.leave hv hlk
  exact ⟨_, _, hgo fs hr, hrun, hended, v, locs, rfl, hQ, ⟨_, rfl⟩, hW, hsame.mono hk hn⟩
theorem own_retI (X : Stand p l e R s m args below meth c T locs cells slots) (hx : p.tables.exec = Jvm.exec) (hlk : meth.locks = false) {pc : Nat} {Ls : Array Slot} {z : Int32} {rest : List Value} (hret : meth.sig.returnType = some .int) (hd : decode c.code pc = .ok (.ireturn, 1)) (hk : cells ≤ k) (hn : slots ≤ n) (hQ : Q (some (.int z)) T.heap locs) :
    own_Go p e below s Q k n (T.setTop (mkF m pc Ls (.int z :: rest))) := own_end X hlk (fun h => by rw [hret] at h; cases h) hk hn hQ fun fs hr => retI X hx hret hd hr
theorem own_retN (X : Stand p l e R s m args below meth c T locs cells slots) (hx : p.tables.exec = Jvm.exec) (hlk : meth.locks = false) {pc : Nat} {Ls : Array Slot} {z z' : Int32} {rest : List Value} {t : FieldType} (hret : meth.sig.returnType = some t) (ht : t = .boolean ∨ t = .byte ∨ t = .char ∨ t = .short) (hz : nar t z = z') (hd : decode c.code pc = .ok (.ireturn, 1)) (hk : cells ≤ k) (hn : slots ≤ n) (hQ : Q (some (.int z')) T.heap locs) :
    own_Go p e below s Q k n (T.setTop (mkF m pc Ls (.int z :: rest))) := own_end X hlk (v := some (.int (nar t z))) (fun h => by rw [hret] at h; cases h) hk hn (hz ▸ hQ) fun fs hr => retN X hx hret ht hd hr
theorem own_retJ (X : Stand p l e R s m args below meth c T locs cells slots) (hx : p.tables.exec = Jvm.exec) (hlk : meth.locks = false) {pc : Nat} {Ls : Array Slot} {z : Int64} {rest : List Value} (hret : meth.sig.returnType = some .long) (hd : decode c.code pc = .ok (.lreturn, 1)) (hk : cells ≤ k) (hn : slots ≤ n) (hQ : Q (some (.long z)) T.heap locs) :
    own_Go p e below s Q k n (T.setTop (mkF m pc Ls (.long z :: rest))) := own_end X hlk (fun h => by rw [hret] at h; cases h) hk hn hQ fun fs hr => retOut X hx hret rfl (Or.inr (Or.inl ⟨rfl, rfl, _, rfl⟩)) hd hr
theorem own_retA (X : Stand p l e R s m args below meth c T locs cells slots) (hx : p.tables.exec = Jvm.exec) (hlk : meth.locks = false) {pc : Nat} {Ls : Array Slot} {w : Value} {t : FieldType} {rest : List Value} (hret : meth.sig.returnType = some t) (hw : w.isRef = true) (hd : decode c.code pc = .ok (.areturn, 1)) (hk : cells ≤ k) (hn : slots ≤ n) (hQ : Q (some w) T.heap locs) (ht : t.isReference = true := by rfl) :
    own_Go p e below s Q k n (T.setTop (mkF m pc Ls (w :: rest))) := own_end X hlk (fun h => by rw [hret] at h; cases h) hk hn hQ fun fs hr => retOut X hx hret (by cases w <;> first | (cases hw; done) | (cases t <;> first | (cases ht; done) | rfl)) (Or.inr (Or.inr (Or.inr (Or.inr ⟨rfl, ht, hw⟩)))) hd hr
theorem own_ret0 (X : Stand p l e R s m args below meth c T locs cells slots) (hx : p.tables.exec = Jvm.exec) (hlk : meth.locks = false) {pc : Nat} {Ls : Array Slot} (hret : meth.sig.returnType = none) (hd : decode c.code pc = .ok (.return_, 1)) (hk : cells ≤ k) (hn : slots ≤ n) (hQ : Q none T.heap locs) :
    own_Go p e below s Q k n (T.setTop (mkF m pc Ls [])) := own_end X hlk (fun _ => rfl) hk hn hQ fun fs hr => X.returnOut hx hret hd hr
end Own
theorem own_narR {C : String} {v : Value} (h : v.isRef = true) : narrow (.object C) v = v := by cases v <;> first | rfl | (cases h; done)
theorem own_fitR {C : String} {v : Value} (h : v.isRef = true) : fits (.object C) v = true := by cases v <;> first | rfl | (cases h; done)
theorem own_hp {T : State} {h : Heap} {a : Addr} {c : Cell} (e : T.heap = h) (q : h[a]? = some c) : T.heap[a]? = some c := e ▸ q
theorem own_pad (n : Nat) (d : Value) (i : Nat) : (List.replicate n d).getD i d = ([] : List Value).getD i d := by
  have h := pad_rep [] d n i
  simpa using h
end Jvm.RoadKit
namespace Jvm.Pilot.@@N@@
open Jvm Jvm.ClassFile Sem Op Lib Jvm.Free Jvm.Stand Jvm.LawKit Jvm.RoadKit Bundle Jvm.Pilot.@@N@@.Jvm.D
theorem own_eqV {args : Array Value} {first s : State} {o : Option Outcome} {idx : List Nat} {t u : Term} {w : Value} (h : (Cond.eq t u).value args first o s idx = some true) (hu : u.eval args first o idx s = some w) : t.eval args first o idx s = some w := by
  simp only [Cond.value, hu] at h
  cases ht : t.eval args first o idx s with
  | none => simp [ht] at h
  | some v => cases v <;> cases w <;> simp_all

theorem own_NSroot {Z : State} {a0 : Array Value} {O K : String} {n : Nat} (w : (Cond.noSuperclass O).before a0 Z = true) (wi : (Cond.instantiable K n).before a0 Z = true) (hn : O ≠ K) : NS Z O K := by
  obtain ⟨c, k, h1, h2, h3, -, -⟩ := Cond.noSuperclass_spec w
  obtain ⟨t, k', g1, -⟩ := Cond.instantiable_spec wi
  have ne := ids_ne h1 g1 hn
  refine ⟨c, t, h1, g1, fun fuel => ?_⟩
  cases fuel with
  | zero => rfl
  | succ f => simp [Vm.isSubclassAux, ne, h2, h3]
theorem own_no {Z : State} {a0 : Array Value} {C S K : String} {n : Nat} (w : (Cond.superclass C S).before a0 Z = true) (wi : (Cond.instantiable K n).before a0 Z = true) (nn : NS Z C K) (hn : C ≠ K) : ∃ c t, Z.vm.findClass C = some c ∧ Z.vm.findClass K = some t ∧ Z.vm.assignable c t = false := by
  obtain ⟨c, t, h0, g0, n3⟩ := nn
  obtain ⟨p, k, kp, h1, h2, h3, h4, h5, -, h7⟩ := Cond.superclass_spec h0 w
  obtain ⟨t', k', g1, g2, g3, g4, -⟩ := Cond.instantiable_spec wi
  cases g0.symm.trans g1
  have g7 : k'.isInterface = false := by
    rw [Bool.or_eq_false_iff] at g4
    exact g4.1
  have ne := ids_ne h0 g0 hn
  refine ⟨c, t, h0, g0, ?_⟩
  show Z.vm.assignableAux (255 + 1) c t = false
  simp [Vm.assignableAux, ne, h2, g2, h5, g3, g7, Vm.isSubclass, n3]
def own_BoxI (Z : State) (aC : Addr) : Prop := ∃ cl : Cell, Arr Z Z.heap aC cl (.object "java/lang/Integer") ∧ cl.slots.size = 256 ∧ ∀ j : Int32, ¬ (j < 0 ∨ 256 ≤ j.toNatClampNeg) → ∃ r, cl.slots[j.toNatClampNeg]? = some (.ref r) ∧ Exa Z Z.heap r "java/lang/Integer" ∧ Fld Z Z.heap r "java/lang/Integer" "value" "I" (.int (j - 128))
theorem own_boxI {args : Array Value} {s : State} {aC : Addr} (ev : (Term.static "java/lang/Integer$IntegerCache" "cache" "[Ljava/lang/Integer;").eval args s none [] s = some (.ref aC)) (h2 : (Cond.arrayOf (Term.static "java/lang/Integer$IntegerCache" "cache" "[Ljava/lang/Integer;") (.object "java/lang/Integer")).before args s = true) (h4 : (Cond.eq (.length (Term.static "java/lang/Integer$IntegerCache" "cache" "[Ljava/lang/Integer;")) (.int 256)).before args s = true)
    (h5 : (Cond.all (Term.static "java/lang/Integer$IntegerCache" "cache" "[Ljava/lang/Integer;") (.and (.exactly (.elem (Term.static "java/lang/Integer$IntegerCache" "cache" "[Ljava/lang/Integer;") (.index 0)) "java/lang/Integer") (.eq (.field (.elem (Term.static "java/lang/Integer$IntegerCache" "cache" "[Ljava/lang/Integer;") (.index 0)) "java/lang/Integer" "value" "I") (.sub (.index 0) (.int 128))))).before args s = true) : own_BoxI s aC := by
  obtain ⟨cl, A⟩ := Arr.start ev (Cond.before_iff.mp h2)
  have hat : s.arrayAt? aC = some cl := IntBox.arrayAt_of A.1 A.2.1 A.2.2
  obtain ⟨hsz, hsize⟩ := IntBox.length_fwd h4 ev A.1 A.2.1 A.2.2
  have h256 : cl.slots.size = 256 := by
    have e := len_toInt hsz
    rw [hsize] at e
    have e2 : (256 : Int32).toInt = 256 := by decide
    omega
  have hall := Cond.all_elim ev hat (Cond.before_iff.mp h5)
  refine ⟨cl, A, h256, fun j hj => ?_⟩
  have hn : ¬ j < 0 := fun q => hj (Or.inl q)
  have hlt : j.toNatClampNeg < cl.slots.size := by rw [h256]; exact Nat.lt_of_not_le fun q => hj (Or.inr q)
  obtain ⟨g1, g2⟩ := and_e (hall _ hlt)
  obtain ⟨r, er⟩ := exa_v g1
  have ev' : (Term.static "java/lang/Integer$IntegerCache" "cache" "[Ljava/lang/Integer;").eval args s none [j.toNatClampNeg] s = some (.ref aC) := ev
  have ei : (Term.index 0).eval args s none [j.toNatClampNeg] s = some (.int j) := idx_at hn
  have el := elem_f (t := (Term.static "java/lang/Integer$IntegerCache" "cache" "[Ljava/lang/Integer;")) (a := .index 0) ev' ei hat hn
  have hr : cl.slots[j.toNatClampNeg]? = some (.ref r) := el.symm.trans er
  have es : (Term.sub (.index 0) (.int 128)).eval args s none [j.toNatClampNeg] s = some (.int (j - 128)) := by simp [Term.eval, (back32 hn).1]
  have ef := own_eqV g2 (w := .int (j - 128)) (es)
  exact ⟨r, hr, exa_at er g1, Fld.start ((fld_at er).symm.trans ef)⟩
theorem own_bkI (w : Int32) : (w + 128) - 128 = w := by simp
theorem own_placeI (w : Int32) (h1 : ¬ w < -128) (h2 : ¬ 127 < w) : ¬ ((w + 128) < 0 ∨ 256 ≤ (w + 128).toNatClampNeg) ∧ (w + 128).toNatClampNeg < 256 := by
  rw [Int32.lt_iff_toInt_lt] at h1 h2
  have e1 : (-128 : Int32).toInt = -128 := by decide
  have e2 : (127 : Int32).toInt = 127 := by decide
  have e3 : (128 : Int32).toInt = 128 := by decide
  have e : (w + 128).toInt = w.toInt + 128 := by
    rw [XT.add32 ⟨by omega, by omega⟩, e3]
  have hn : ¬ (w + 128) < 0 := by rw [XT.negI32]; omega
  have hc := nat_of hn
  refine ⟨fun q => q.elim hn fun q => ?_, ?_⟩ <;> omega
theorem own_mvIM {Z s : State} {a0 args : Array Value} {r o n d : String} (hZ : Z.Warmed39 s.vm) (w : (Cond.interfaceMethod r o n d).before a0 Z = true) : (Cond.interfaceMethod r o n d).before args s = true := by
  obtain ⟨c, k, m, h1, h2, h3, h4, h5⟩ := Cond.interfaceMethod_spec w
  obtain ⟨k', q, ek⟩ := hZ.alike.2.2 _ _ h2
  have g1 : s.vm.findClass r = some c := by rw [hZ.alike.findClass]; exact h1
  have g3 : k'.isInterface = true := by rw [ek]; exact h3
  have g4 : s.methodFound? r n d = some m := by
    have : (Z.setVm s.vm).methodFound? r n d = some m := by rw [State.methodFound?_setVm hZ.alike]; exact h4
    exact this
  have g5 : s.methodNamed? ⟨o, n, d⟩ = some m := by
    have : (Z.setVm s.vm).methodNamed? ⟨o, n, d⟩ = some m := by rw [State.methodNamed?_setVm hZ.alike]; exact h5
    exact this
  simp [Cond.before, Cond.holds, Cond.value, g1, g4, g5, q, g3]
theorem own_mne {Z : State} {C D : String} {c d : ClassId} {a b : Addr} {x y : Cell} (hC : Z.vm.findClass C = some c) (hD : Z.vm.findClass D = some d) (hn : C ≠ D) (ha : Z.heap[a]? = some x) (vx : x.vm = .mirror c) (hb : Z.heap[b]? = some y) (vy : y.vm = .mirror d) : ¬ a = b := by
  rintro rfl
  cases ha.symm.trans hb
  exact ids_ne hC hD hn (VmData.mirror.inj (vx.symm.trans vy))
def own_Mi (Z : State) (C : String) (m : Addr) : Prop := ∃ (c : ClassId) (k : Class), Z.vm.findClass C = some c ∧ Z.vm.classes[c]? = some k ∧ k.mirror = some m
section Mi
variable {p : Program} {l : Launch} {e : Env} {R : Room} {s : State} {m : MethodId} {args : Array Value} {below : List Frame} {meth : Method} {c : Code} {T : State} {locs : List Loc} {cells slots : Nat} {Z : State} {a0 : Array Value} {h : Heap}
theorem own_gclsI (X : Stand p l e R s m args below meth c T locs cells slots) (hx : p.tables.exec = Jvm.exec) (hZ : Z.Warmed39 s.vm) {own C : String} {index count : Nat} (hown : s.vm.findClass own = some m.cls)
    (w1 : (Cond.methodLink own index ⟨"java/util/List", "getClass", "()Ljava/lang/Class;"⟩).before a0 Z = true) (w2 : (Cond.declares ⟨"java/lang/Object", "getClass", "()Ljava/lang/Class;"⟩).before a0 Z = true) (w3 : (Cond.interfaceMethod "java/util/List" "java/lang/Object" "getClass" "()Ljava/lang/Class;").before a0 Z = true) (w4 : (Cond.selects C ⟨"java/util/List", "getClass", "()Ljava/lang/Class;"⟩ ⟨"java/lang/Object", "getClass", "()Ljava/lang/Class;"⟩).before a0 Z = true)
    (w5 : (Cond.instanceMethod ⟨"java/lang/Object", "getClass", "()Ljava/lang/Class;"⟩).before a0 Z = true) (w6 : (Cond.publicMethod ⟨"java/lang/Object", "getClass", "()Ljava/lang/Class;"⟩).before a0 Z = true) (w7 : (Cond.unhidden C "getClass" "()Ljava/lang/Class;").before a0 Z = true) (w8 : (Cond.castable C "java/util/List").before a0 Z = true) (w9 : (Cond.native ⟨"java/lang/Object", "getClass", "()Ljava/lang/Class;"⟩).before a0 Z = true)
    (eT : T.heap = h) {a : Addr} (E : Exa Z h a C) {mr : Addr} (M : own_Mi Z C mr) {g : JFrame} (hg : g.method = m) (hsize : g.locals.size = c.maxLocals) {rest : List Value} (hs : g.stack = .ref a :: rest) (hd : decode c.code g.pc = .ok (.invokeinterface index count, 5)) (hf : 1 ≤ R.frames) {W : Nat} (hW : 2 * g.monitorRoom + (rest.map fun v => v.category).sum ≤ W) (hl : W + (nativeFrameWords "java/lang/Object" "getClass" 1 + 11) ≤ R.locals) :
    ∃ T', Stand p l e R s m args below meth c T' locs cells slots ∧ T'.heap = h ∧ ∀ target, Steps p.tables e below (T'.setTop { g with pc := g.pc + 5, stack := .ref mr :: rest }) target → Steps p.tables e below (T.setTop g) target := by
  obtain ⟨cB, kB, i1, i2, i3⟩ := isOf hZ eT E
  obtain ⟨cc, kc, m1, m2, m3⟩ := M
  have i1' := i1
  rw [hZ.alike.findClass] at i1'
  cases i1'.symm.trans m1
  obtain ⟨k', q, ek⟩ := hZ.alike.2.2 _ _ m2
  cases i2.symm.trans q
  obtain ⟨vm', X', st⟩ := X.getClassOfI hx (xi := ⟨"java/util/List", "getClass", "()Ljava/lang/Class;"⟩) hown (mvT hZ w1) (mvT hZ w2) (own_mvIM hZ w3) (mvT hZ w4) (mvT hZ w5) (mvT hZ w6) (mvT hZ w7) (mvT hZ w8) (mvT hZ w9) (by decide) (by decide) rfl rfl i1 i2 i3 (by rw [ek]; exact m3) hg hsize hs hd hf (by omega)
  exact ⟨_, X', eT, st⟩
theorem own_ldcM (X : Stand p l e R s m args below meth c T locs cells slots) (hx : p.tables.exec = Jvm.exec) (hZ : Z.Warmed39 s.vm) {own C : String} {index : Nat} (hown : s.vm.findClass own = some m.cls) (w : (Cond.classLink own index C).before a0 Z = true) {mr : Addr} (M : own_Mi Z C mr) (eT : T.heap = h) {g : JFrame} (hg : g.method = m) (hd : decode c.code g.pc = .ok (.ldc index, 2)) :
    ∃ T', Stand p l e R s m args below meth c T' locs cells slots ∧ T'.heap = h ∧ ∀ target, Steps p.tables e below (T'.setTop { g with pc := g.pc + 2, stack := .ref mr :: g.stack }) target → Steps p.tables e below (T.setTop g) target := by
  obtain ⟨cc, kc, m1, m2, m3⟩ := M
  obtain ⟨k', q, ek⟩ := hZ.alike.2.2 _ _ m2
  have hev : (Term.mirror C).eval args s none [] s = some (.ref mr) := by
    have h1 : s.vm.findClass C = some cc := by rw [hZ.alike.findClass]; exact m1
    have h2 : k'.mirror = some mr := by rw [ek]; exact m3
    simp [Term.eval, h1, q, h2]
  obtain ⟨vm', X', st⟩ := X.ldcMirror hx hown (mvT hZ w) hev hg hd
  exact ⟨_, X', eT, st⟩
end Mi
theorem own_and3 (x : Int32) : x &&& (3 : Int32) = 0 ∨ x &&& (3 : Int32) = 1 ∨ x &&& (3 : Int32) = 2 ∨ x &&& (3 : Int32) = 3 := by
  have h : (x &&& (3 : Int32)).toInt = x.toInt % 2 ^ 2 := Jvm.Kit.i32_mask x 3 (k := 2) (by decide) (by decide)
  have : (x &&& (3 : Int32)).toInt = 0 ∨ (x &&& (3 : Int32)).toInt = 1 ∨ (x &&& (3 : Int32)).toInt = 2 ∨ (x &&& (3 : Int32)).toInt = 3 := by omega
  have f : ∀ (n : Int32) (k : Int), n.toInt = k → (x &&& (3 : Int32)).toInt = k → x &&& (3 : Int32) = n := fun n k q r => Int32.toInt_inj.mp (r.trans q.symm)
  exact this.imp (f 0 0 (by decide)) fun r => r.imp (f 1 1 (by decide)) fun r => r.imp (f 2 2 (by decide)) (f 3 3 (by decide))
theorem own_lt64 (x y : Int32) : x.toInt64 < y.toInt64 ↔ x < y := by
  rw [Int64.lt_iff_toInt_lt, Int32.lt_iff_toInt_lt, Int32.toInt_toInt64, Int32.toInt_toInt64]
theorem own_hl (idx fi n : Int32) (hfi : 0 ≤ fi.toInt) (hn0 : 0 < n.toInt) (hn : n.toInt ≤ 4) (h : ¬ idx < fi) : idx.toInt64 < fi.toInt64 + n.toInt64 ↔ idx - fi < n := by
  rw [Int32.lt_iff_toInt_lt] at h
  have h1 := Int32.toInt_lt idx
  have h2 := Int32.toInt_lt fi
  have e1 : (fi.toInt64 + n.toInt64).toInt = fi.toInt + n.toInt := by
    rw [Int64.toInt_add, Int32.toInt_toInt64, Int32.toInt_toInt64]
    exact Int.bmod_eq_of_le (by omega) (by omega)
  have e2 : (idx - fi).toInt = idx.toInt - fi.toInt := by
    rw [Int32.toInt_sub]
    exact Int.bmod_eq_of_le (by omega) (by omega)
  rw [Int64.lt_iff_toInt_lt, Int32.lt_iff_toInt_lt, e1, e2, Int32.toInt_toInt64]
  omega
theorem own_fi (x fi : Int32) (h : x &&& (2147483647 : Int32) = fi) : 0 ≤ fi.toInt := by
  have e : (x &&& (2147483647 : Int32)).toInt = x.toInt % 2 ^ 31 := Jvm.Kit.i32_mask x 2147483647 (k := 31) (by decide) (by decide)
  rw [← h, e]
  omega
theorem own_d_jdk_18_method_1_code_0 : decode jdk_18_method_1_code 0 = .ok (.aload_n 0, 1) := by decide +kernel
theorem own_d_jdk_18_method_1_code_1 : decode jdk_18_method_1_code 1 = .ok (.invokespecial 1, 3) := by decide +kernel
theorem own_d_jdk_18_method_1_code_4 : decode jdk_18_method_1_code 4 = .ok (.return_, 1) := by decide +kernel
theorem own_pn0 : plainFor (⟨"java/lang/Number", "<init>", "()V"⟩ : MethodName) = true := by decide +kernel
def own_rm_number_Q (Z : State) (r : Addr) (h0 : Heap) (n0 : Nat) (v : Option Value) (h : Heap) (L : List Loc) : Prop := Fr n0 L ∧ v = none ∧ h = h0
theorem own_rm_number_ef (m : MethodId) (r : Addr)  : entryFrame m #[(.ref r)] 1 = mkF m 0 #[.val (.ref r)] [] := by first | (simp [entryFrame, mkF, argsToLocals, Value.category]; done) | rfl
set_option maxRecDepth 65536 in
set_option maxHeartbeats 40000000 in
theorem own_rm_number (l : Launch) (Z : State) (a0 : Array Value) (hw : ∀ d ∈ tables_1, d.before a0 Z = true) (ws : List Jvm.Cond) (r : Addr) (h0 : Heap) (n0 : Nat) (Z0 : n0 ≤ h0.size)  :
    MetFree l (⟨"java/lang/Number", "<init>", "()V"⟩ : MethodName) (head1 (Jvm.Cond.code (⟨"java/lang/Number", "<init>", "()V"⟩ : MethodName) jdk_18_method_1_code 1 none :: ws) ({ frames := 1, cells := 0, slots := 0, locals := 12 } : Room)) (fun aQ UQ => aQ = #[(.ref r)] ∧ Z.Warmed39 UQ.vm ∧ UQ.heap = h0) (fun _ _ _ _ _ => True) (fun _ UQ oQ U2 => ∃ vQ LQ, oQ = .returned vQ ∧ own_rm_number_Q Z r h0 n0 vQ U2.heap LQ ∧ FrameEnd UQ oQ U2 LQ ({ frames := 1, cells := 0, slots := 0, locals := 12 } : Room).cells ({ frames := 1, cells := 0, slots := 0, locals := 12 } : Room).slots) := by
  refine MetFree.of_bodySF own_pn0 hisR ?_
  intro p e s m args below meth c s₁ Bd hml0 hP hK
  obtain ⟨rfl, hZ, hh⟩ := hP
  have hx := Bd.exec
  have hby := Bd.bytes
  have hml : c.maxLocals = 1 := hml0
  have hlk := BodyLoose.notSynchronized Bd
  have hown : s.vm.findClass "java/lang/Number" = some m.cls := findClass_of_methodNamed Bd.named
  have hnm := (name_of_methodNamed Bd.named Bd.method).1
  have X0 : Stand p l e ({ frames := 1, cells := 0, slots := 0, locals := 12 } : Room) s m #[(.ref r)] below meth c s₁ [] 0 0 := Stand.of_body Bd
  have e0 : s₁.heap = h0 := by rw [← hh, Bd.state]; rfl
  have N0 := Fr.nil n0
  show own_Go p e below s (own_rm_number_Q Z r h0 n0) ({ frames := 1, cells := 0, slots := 0, locals := 12 } : Room).cells ({ frames := 1, cells := 0, slots := 0, locals := 12 } : Room).slots (s₁.setTop (entryFrame m #[(.ref r)] 1))
  rw [own_rm_number_ef]
  show own_Go p e below s _ _ _ (s₁.setTop (mkF m 0 #[.val (.ref r)] []))
  refine own_st (fun _ kQ => XS.aloadN X0.here hx rfl (hb hby own_d_jdk_18_method_1_code_0) rfl rfl kQ) ?_
  show own_Go p e below s _ _ _ (s₁.setTop (mkF m 1 #[.val (.ref r)] [(.ref r)]))
  obtain ⟨T1, X1, e1, st1⟩ := initO X0 hx hZ hown (hw _ (List.mem_of_getElem? (i := 156) rfl)) (hw _ (List.mem_of_getElem? (i := 20) rfl)) (hw _ (List.mem_of_getElem? (i := 21) rfl)) e0 (g := (mkF m 1 #[.val (.ref r)] [(.ref r)])) rfl (by rw [hml]; rfl) rfl (hb hby own_d_jdk_18_method_1_code_1) (by decide) (W := 0) (by show 2 * 0 + _ ≤ _; exact Nat.le_of_eq rfl) (by decide)
  refine own_st st1 ?_
  show own_Go p e below s _ _ _ (T1.setTop (mkF m 4 #[.val (.ref r)] []))
  refine own_ret0 X1 hx hlk Bd.returns (hb hby own_d_jdk_18_method_1_code_4) (by decide) (by decide) ?_
  rw [e1]
  exact ⟨N0, rfl, rfl⟩
theorem own_d_jdk_33_method_23_code_0 : decode jdk_33_method_23_code 0 = .ok (.aload_n 0, 1) := by decide +kernel
theorem own_d_jdk_33_method_23_code_1 : decode jdk_33_method_23_code 1 = .ok (.invokespecial 202, 3) := by decide +kernel
theorem own_d_jdk_33_method_23_code_4 : decode jdk_33_method_23_code 4 = .ok (.aload_n 0, 1) := by decide +kernel
theorem own_d_jdk_33_method_23_code_5 : decode jdk_33_method_23_code 5 = .ok (.iload_n 1, 1) := by decide +kernel
theorem own_d_jdk_33_method_23_code_6 : decode jdk_33_method_23_code 6 = .ok (.putfield 205, 3) := by decide +kernel
theorem own_d_jdk_33_method_23_code_9 : decode jdk_33_method_23_code 9 = .ok (.return_, 1) := by decide +kernel
theorem own_pn1 : plainFor (⟨"java/lang/Integer", "<init>", "(I)V"⟩ : MethodName) = true := by decide +kernel
theorem own_pd0 : parseMethodDescriptor "()V" = some ⟨[], none⟩ := by decide +kernel
def own_rm_boxinitI_Q (Z : State) (r : Addr) (p1 : Int32) (h0 : Heap) (n0 : Nat) (v : Option Value) (h : Heap) (L : List Loc) : Prop := Fr n0 L ∧ v = none ∧ Keep h0 h [r] ∧ Exa Z h r "java/lang/Integer" ∧ Fld Z h r "java/lang/Integer" "value" "I" (.int p1)
theorem own_rm_boxinitI_ef (m : MethodId) (r : Addr) (p1 : Int32)  : entryFrame m #[(.ref r), (.int p1)] 2 = mkF m 0 #[.val (.ref r), .val (.int p1)] [] := by first | (simp [entryFrame, mkF, argsToLocals, Value.category]; done) | rfl
set_option maxRecDepth 65536 in
set_option maxHeartbeats 40000000 in
theorem own_rm_boxinitI (l : Launch) (Z : State) (a0 : Array Value) (hw : ∀ d ∈ tables_1, d.before a0 Z = true) (ws : List Jvm.Cond) (r : Addr) (p1 : Int32) (h0 : Heap) (n0 : Nat) (Z0 : n0 ≤ h0.size) (E1 : Exa Z h0 r "java/lang/Integer") (F1 : Fld Z h0 r "java/lang/Integer" "value" "I" (.int (0 : Int32))) (g1 : n0 ≤ r) :
    MetFree l (⟨"java/lang/Integer", "<init>", "(I)V"⟩ : MethodName) (head1 (Jvm.Cond.code (⟨"java/lang/Integer", "<init>", "(I)V"⟩ : MethodName) jdk_33_method_23_code 2 none :: ws) ({ frames := 2, cells := 0, slots := 0, locals := 24 } : Room)) (fun aQ UQ => aQ = #[(.ref r), (.int p1)] ∧ Z.Warmed39 UQ.vm ∧ UQ.heap = h0) (fun _ _ _ _ _ => True) (fun _ UQ oQ U2 => ∃ vQ LQ, oQ = .returned vQ ∧ own_rm_boxinitI_Q Z r p1 h0 n0 vQ U2.heap LQ ∧ FrameEnd UQ oQ U2 LQ ({ frames := 2, cells := 0, slots := 0, locals := 24 } : Room).cells ({ frames := 2, cells := 0, slots := 0, locals := 24 } : Room).slots) := by
  refine MetFree.of_bodySF own_pn1 hisR ?_
  intro p e s m args below meth c s₁ Bd hml0 hP hK
  obtain ⟨rfl, hZ, hh⟩ := hP
  have hx := Bd.exec
  have hby := Bd.bytes
  have hml : c.maxLocals = 2 := hml0
  have hlk := BodyLoose.notSynchronized Bd
  have hown : s.vm.findClass "java/lang/Integer" = some m.cls := findClass_of_methodNamed Bd.named
  have hnm := (name_of_methodNamed Bd.named Bd.method).1
  have X0 : Stand p l e ({ frames := 2, cells := 0, slots := 0, locals := 24 } : Room) s m #[(.ref r), (.int p1)] below meth c s₁ [] 0 0 := Stand.of_body Bd
  have e0 : s₁.heap = h0 := by rw [← hh, Bd.state]; rfl
  have N0 := Fr.nil n0
  have Kp0 : Keep h0 h0 [r] := Keep.refl _ _
  show own_Go p e below s (own_rm_boxinitI_Q Z r p1 h0 n0) ({ frames := 2, cells := 0, slots := 0, locals := 24 } : Room).cells ({ frames := 2, cells := 0, slots := 0, locals := 24 } : Room).slots (s₁.setTop (entryFrame m #[(.ref r), (.int p1)] 2))
  rw [own_rm_boxinitI_ef]
  show own_Go p e below s _ _ _ (s₁.setTop (mkF m 0 #[.val (.ref r), .val (.int p1)] []))
  refine own_st (fun _ kQ => XS.aloadN X0.here hx rfl (hb hby own_d_jdk_33_method_23_code_0) rfl rfl kQ) ?_
  show own_Go p e below s _ _ _ (s₁.setTop (mkF m 1 #[.val (.ref r), .val (.int p1)] [(.ref r)]))
  obtain ⟨_, _, ⟨T2, L2, k2, n2⟩, -, X2, ⟨Lc2, hQ2, l2, y2, z2⟩, st2⟩ := X0.specialBack hx (y := (⟨"java/lang/Number", "<init>", "()V"⟩ : MethodName)) rfl hown (mvT hZ (hw _ (List.mem_of_getElem? (i := 150) rfl))) (mvT hZ (hw _ (List.mem_of_getElem? (i := 151) rfl))) (mvT hZ (hw _ (List.mem_of_getElem? (i := 155) rfl))) (by decide) (backOf (W := 0) (own_rm_number l Z a0 hw [] r h0 n0 Z0 ) hZ (hw _ (List.mem_of_getElem? (i := 155) rfl)) (hw _ (List.mem_of_getElem? (i := 154) rfl)) (by decide) (by decide)) (g := (mkF m 1 #[.val (.ref r), .val (.int p1)] [(.ref r)])) rfl (by rw [hml]; rfl) (Steps.refl _) (a := r) (argsL := []) (rest := []) (lenOf own_pd0 rfl) rfl (by show 2 * 0 + _ ≤ _; exact Nat.le_of_eq rfl) (hb hby own_d_jdk_33_method_23_code_1) (fun _ _ => ⟨rfl, e0, (by decide : 0 + 0 ≤ _), (by decide : 0 + 0 ≤ _)⟩)
  dsimp only [Pt.U, Pt.locs, Pt.cells, Pt.slots] at X2 l2 y2 z2 st2 hQ2
  subst l2 y2 z2
  obtain ⟨N2q, rfl, eh2⟩ := hQ2
  have N3 := Fr.app N0 N2q
  refine own_tr st2 ?_
  show own_Go p e below s _ _ _ (T2.setTop (mkF m 4 #[.val (.ref r), .val (.int p1)] []))
  refine own_st (fun _ kQ => XS.aloadN X2.here hx rfl (hb hby own_d_jdk_33_method_23_code_4) rfl rfl kQ) ?_
  show own_Go p e below s _ _ _ (T2.setTop (mkF m 5 #[.val (.ref r), .val (.int p1)] [(.ref r)]))
  refine own_st (fun _ kQ => XS.iloadN X2.here hx rfl (hb hby own_d_jdk_33_method_23_code_5) rfl kQ) ?_
  show own_Go p e below s _ _ _ (T2.setTop (mkF m 6 #[.val (.ref r), .val (.int p1)] [(.int p1), (.ref r)]))
  obtain ⟨T4, h4, X4, e4, W4, st4⟩ := putF X2 hx hZ hown (host := "") (Or.inl (hw _ (List.mem_of_getElem? (i := 157) rfl))) Via.refl eh2 F1 E1 (Or.inr ⟨(hw _ (List.mem_of_getElem? (i := 158) rfl)), rfl, hnm⟩) (hw _ (List.mem_of_getElem? (i := 145) rfl)) (ty := .int) (by decide) rfl rfl (g := (mkF m 6 #[.val (.ref r), .val (.int p1)] [(.int p1), (.ref r)])) rfl rfl (hb hby own_d_jdk_33_method_23_code_6)
  refine own_st st4 ?_
  have N5 := Fr.snoc X4 N3 g1
  have F6 : Fld Z h4 r "java/lang/Integer" "value" "I" (.int p1) := F1.same W4
  have lt7 : r < h4.size := Nat.lt_of_lt_of_le F1.lt (Nat.le_of_eq W4.size.symm)
  have Zs8 : n0 ≤ h4.size := Nat.le_trans Z0 (Nat.le_of_eq W4.size.symm)
  have Kp9 : Keep h0 h4 [r] := Kp0.wr W4 (Or.inl (List.mem_of_getElem? (i := 0) rfl))
  show own_Go p e below s _ _ _ (T4.setTop (mkF m 9 #[.val (.ref r), .val (.int p1)] []))
  have F10 : Exa Z h4 r "java/lang/Integer" := (E1.wr W4)
  refine own_ret0 X4 hx hlk Bd.returns (hb hby own_d_jdk_33_method_23_code_9) (by decide) (by decide) ?_
  rw [e4]
  exact ⟨N5, rfl, Kp9, F10, F6⟩
theorem own_d_jdk_33_method_22_code_0 : decode jdk_33_method_22_code 0 = .ok (.iload_n 0, 1) := by decide +kernel
theorem own_d_jdk_33_method_22_code_1 : decode jdk_33_method_22_code 1 = .ok (.bipush (-128), 2) := by decide +kernel
theorem own_d_jdk_33_method_22_code_3 : decode jdk_33_method_22_code 3 = .ok (.if_icmp .lt 20, 3) := by decide +kernel
theorem own_d_jdk_33_method_22_code_6 : decode jdk_33_method_22_code 6 = .ok (.iload_n 0, 1) := by decide +kernel
theorem own_d_jdk_33_method_22_code_7 : decode jdk_33_method_22_code 7 = .ok (.getstatic 191, 3) := by decide +kernel
theorem own_d_jdk_33_method_22_code_10 : decode jdk_33_method_22_code 10 = .ok (.if_icmp .gt 13, 3) := by decide +kernel
theorem own_d_jdk_33_method_22_code_13 : decode jdk_33_method_22_code 13 = .ok (.getstatic 195, 3) := by decide +kernel
theorem own_d_jdk_33_method_22_code_16 : decode jdk_33_method_22_code 16 = .ok (.iload_n 0, 1) := by decide +kernel
theorem own_d_jdk_33_method_22_code_17 : decode jdk_33_method_22_code 17 = .ok (.sipush 128, 3) := by decide +kernel
theorem own_d_jdk_33_method_22_code_20 : decode jdk_33_method_22_code 20 = .ok (.iadd, 1) := by decide +kernel
theorem own_d_jdk_33_method_22_code_21 : decode jdk_33_method_22_code 21 = .ok (.aaload, 1) := by decide +kernel
theorem own_d_jdk_33_method_22_code_22 : decode jdk_33_method_22_code 22 = .ok (.areturn, 1) := by decide +kernel
theorem own_d_jdk_33_method_22_code_23 : decode jdk_33_method_22_code 23 = .ok (.new 1, 3) := by decide +kernel
theorem own_d_jdk_33_method_22_code_26 : decode jdk_33_method_22_code 26 = .ok (.dup, 1) := by decide +kernel
theorem own_d_jdk_33_method_22_code_27 : decode jdk_33_method_22_code 27 = .ok (.iload_n 0, 1) := by decide +kernel
theorem own_d_jdk_33_method_22_code_28 : decode jdk_33_method_22_code 28 = .ok (.invokespecial 199, 3) := by decide +kernel
theorem own_d_jdk_33_method_22_code_31 : decode jdk_33_method_22_code 31 = .ok (.areturn, 1) := by decide +kernel
theorem own_pn2 : plainFor (⟨"java/lang/Integer", "valueOf", "(I)Ljava/lang/Integer;"⟩ : MethodName) = true := by decide +kernel
theorem own_pd1 : parseMethodDescriptor "(I)V" = some ⟨[.int], none⟩ := by decide +kernel
def own_rm_valueOfI_Q (Z : State) (p1 : Int32) (a_cacheI : Addr) (h0 : Heap) (n0 : Nat) (v : Option Value) (h : Heap) (L : List Loc) : Prop := ∃ r : Addr, Fr n0 L ∧ v = some (.ref r) ∧ Keep h0 h [] ∧ Exa Z h r "java/lang/Integer" ∧ Fld Z h r "java/lang/Integer" "value" "I" (.int p1)
theorem own_rm_valueOfI_ef (m : MethodId) (p1 : Int32)  : entryFrame m #[(.int p1)] 1 = mkF m 0 #[.val (.int p1)] [] := by first | (simp [entryFrame, mkF, argsToLocals, Value.category]; done) | rfl
set_option maxRecDepth 65536 in
set_option maxHeartbeats 40000000 in
theorem own_rm_valueOfI (l : Launch) (Z : State) (a0 : Array Value) (hw : ∀ d ∈ tables_1, d.before a0 Z = true) (ws : List Jvm.Cond) (p1 : Int32) (a_cacheI : Addr) (h0 : Heap) (n0 : Nat) (Z0 : n0 ≤ h0.size) (O0 : Old Z n0 h0) (S_cacheI : Sta Z Z.heap "java/lang/Integer$IntegerCache" "cache" "[Ljava/lang/Integer;" (.ref a_cacheI)) (BxI : own_BoxI Z a_cacheI) (S_high : Sta Z Z.heap "java/lang/Integer$IntegerCache" "high" "I" (.int (127 : Int32))) :
    MetFree l (⟨"java/lang/Integer", "valueOf", "(I)Ljava/lang/Integer;"⟩ : MethodName) (head1 (Jvm.Cond.code (⟨"java/lang/Integer", "valueOf", "(I)Ljava/lang/Integer;"⟩ : MethodName) jdk_33_method_22_code 1 (some (.object "java/lang/Integer")) :: ws) ({ frames := 3, cells := 1, slots := 1, locals := 38 } : Room)) (fun aQ UQ => aQ = #[(.int p1)] ∧ Z.Warmed39 UQ.vm ∧ UQ.heap = h0) (fun _ _ _ _ _ => True) (fun _ UQ oQ U2 => ∃ vQ LQ, oQ = .returned vQ ∧ own_rm_valueOfI_Q Z p1 a_cacheI h0 n0 vQ U2.heap LQ ∧ FrameEnd UQ oQ U2 LQ ({ frames := 3, cells := 1, slots := 1, locals := 38 } : Room).cells ({ frames := 3, cells := 1, slots := 1, locals := 38 } : Room).slots) := by
  refine MetFree.of_bodySF own_pn2 hisR ?_
  intro p e s m args below meth c s₁ Bd hml0 hP hK
  obtain ⟨rfl, hZ, hh⟩ := hP
  have hx := Bd.exec
  have hby := Bd.bytes
  have hml : c.maxLocals = 1 := hml0
  have hlk := BodyLoose.notSynchronized Bd
  have hown : s.vm.findClass "java/lang/Integer" = some m.cls := findClass_of_methodNamed Bd.named
  have hnm := (name_of_methodNamed Bd.named Bd.method).1
  have X0 : Stand p l e ({ frames := 3, cells := 1, slots := 1, locals := 38 } : Room) s m #[(.int p1)] below meth c s₁ [] 0 0 := Stand.of_body Bd
  have e0 : s₁.heap = h0 := by rw [← hh, Bd.state]; rfl
  have N0 := Fr.nil n0
  have Kp0 : Keep h0 h0 [] := Keep.refl _ _
  show own_Go p e below s (own_rm_valueOfI_Q Z p1 a_cacheI h0 n0) ({ frames := 3, cells := 1, slots := 1, locals := 38 } : Room).cells ({ frames := 3, cells := 1, slots := 1, locals := 38 } : Room).slots (s₁.setTop (entryFrame m #[(.int p1)] 1))
  rw [own_rm_valueOfI_ef]
  show own_Go p e below s _ _ _ (s₁.setTop (mkF m 0 #[.val (.int p1)] []))
  refine own_st (fun _ kQ => XS.iloadN X0.here hx rfl (hb hby own_d_jdk_33_method_22_code_0) rfl kQ) ?_
  show own_Go p e below s _ _ _ (s₁.setTop (mkF m 1 #[.val (.int p1)] [(.int p1)]))
  refine own_st (fun _ kQ => XT.bipushV X0.here hx rfl (-128 : Int32) (hb hby own_d_jdk_33_method_22_code_1) (by decide) kQ) ?_
  show own_Go p e below s _ _ _ (s₁.setTop (mkF m 3 #[.val (.int p1)] [(.int (-128 : Int32)), (.int p1)]))
  by_cases hc11 : p1 < (-128 : Int32)
  · refine own_st (fun _ kQ => XS.icmpYes X0.here hx rfl (pc0 := 3) (pc' := 23) rfl (hb hby own_d_jdk_33_method_22_code_3) rfl (XT.ii_lt_t hc11) (by decide) (by decide) kQ) ?_
    show own_Go p e below s _ _ _ (s₁.setTop (mkF m 23 #[.val (.int p1)] []))
    obtain ⟨T12, h12, X12, e12, E12, A12, D12, -, st12⟩ := newO X0 hx hZ hown (hw _ (List.mem_of_getElem? (i := 144) rfl)) (hw _ (List.mem_of_getElem? (i := 145) rfl)) (hw _ (List.mem_of_getElem? (i := 29) rfl)) e0 (g := (mkF m 23 #[.val (.int p1)] [])) rfl (hb hby own_d_jdk_33_method_22_code_23) (by decide) (by decide)
    obtain ⟨b12, g12⟩ : ∃ z, z = h0.size := ⟨_, rfl⟩
    rw [← g12] at A12 D12 st12
    refine own_st st12 ?_
    have Zs13 : n0 ≤ h12.size := Nat.le_trans Z0 E12.1
    have Kp14 : Keep h0 h12 [] := Kp0.ext E12
    have g15 : n0 ≤ b12 := Nat.le_trans Z0 (Nat.le_of_eq g12.symm)
    have sz16 : h0.size ≤ b12 := Nat.le_trans Kp0.1 (Nat.le_of_eq g12.symm)
    have F17 : Fld Z h12 b12 "java/lang/Integer" "value" "I" (.int (0 : Int32)) := D12 (Or.inr (hw _ (List.mem_of_getElem? (i := 158) rfl))) (ty := .int) (by decide)
    show own_Go p e below s _ _ _ (T12.setTop (mkF m 26 #[.val (.int p1)] [(.ref b12)]))
    refine own_st (fun _ kQ => XS.dup X12.here hx rfl (hb hby own_d_jdk_33_method_22_code_26) rfl rfl kQ) ?_
    show own_Go p e below s _ _ _ (T12.setTop (mkF m 27 #[.val (.int p1)] [(.ref b12), (.ref b12)]))
    refine own_st (fun _ kQ => XS.iloadN X12.here hx rfl (hb hby own_d_jdk_33_method_22_code_27) rfl kQ) ?_
    show own_Go p e below s _ _ _ (T12.setTop (mkF m 28 #[.val (.int p1)] [(.int p1), (.ref b12), (.ref b12)]))
    obtain ⟨_, _, ⟨T18, L18, k18, n18⟩, -, X18, ⟨Lc18, hQ18, l18, y18, z18⟩, st18⟩ := X12.specialBack hx (y := (⟨"java/lang/Integer", "<init>", "(I)V"⟩ : MethodName)) rfl hown (mvT hZ (hw _ (List.mem_of_getElem? (i := 146) rfl))) (mvT hZ (hw _ (List.mem_of_getElem? (i := 147) rfl))) (mvT hZ (hw _ (List.mem_of_getElem? (i := 149) rfl))) (by decide) (backOf (W := 1) (own_rm_boxinitI l Z a0 hw [] b12 p1 h12 n0 Zs13 A12 F17 g15) hZ (hw _ (List.mem_of_getElem? (i := 149) rfl)) (hw _ (List.mem_of_getElem? (i := 29) rfl)) (by decide) (by decide)) (g := (mkF m 28 #[.val (.int p1)] [(.int p1), (.ref b12), (.ref b12)])) rfl (by rw [hml]; rfl) (Steps.refl _) (a := b12) (argsL := [(.int p1)]) (rest := [(.ref b12)]) (lenOf own_pd1 rfl) rfl (by show 2 * 0 + _ ≤ _; exact Nat.le_of_eq rfl) (hb hby own_d_jdk_33_method_22_code_28) (fun _ _ => ⟨rfl, e12, (by decide : 1 + 0 ≤ _), (by decide : 1 + 0 ≤ _)⟩)
    dsimp only [Pt.U, Pt.locs, Pt.cells, Pt.slots] at X18 l18 y18 z18 st18 hQ18
    subst l18 y18 z18
    obtain ⟨N18q, rfl, K18, q19, q20⟩ := hQ18
    have N21 := Fr.app N0 N18q
    refine own_tr st18 ?_
    have lt22 : b12 < T18.heap.size := Nat.lt_of_lt_of_le A12.lt K18.1
    have Zs23 : n0 ≤ T18.heap.size := Nat.le_trans Zs13 K18.1
    have Kp24 : Keep h0 T18.heap [] := Kp14.trans K18 (allS (Or.inr sz16) all0)
    show own_Go p e below s _ _ _ (T18.setTop (mkF m 31 #[.val (.int p1)] [(.ref b12)]))
    refine own_retA X18 hx hlk Bd.returns rfl (hb hby own_d_jdk_33_method_22_code_31) (by decide) (by decide) ?_
    skip
    exact ⟨b12, N21, rfl, Kp24, q19, q20⟩
  · refine own_st (fun _ kQ => XS.icmpNo X0.here hx rfl (hb hby own_d_jdk_33_method_22_code_3) rfl (XT.ii_lt_f hc11) kQ) ?_
    show own_Go p e below s _ _ _ (s₁.setTop (mkF m 6 #[.val (.int p1)] []))
    refine own_st (fun _ kQ => XS.iloadN X0.here hx rfl (hb hby own_d_jdk_33_method_22_code_6) rfl kQ) ?_
    show own_Go p e below s _ _ _ (s₁.setTop (mkF m 7 #[.val (.int p1)] [(.int p1)]))
    have F25 : Sta Z h0 "java/lang/Integer$IntegerCache" "high" "I" (.int (127 : Int32)) := S_high.ext O0.2
    obtain ⟨T26, X26, e26, st26⟩ := getS2 X0 hx hZ hown (host := "") (Or.inl (hw _ (List.mem_of_getElem? (i := 31) rfl))) Via.refl e0 F25 (g := (mkF m 7 #[.val (.int p1)] [(.int p1)])) rfl (hb hby own_d_jdk_33_method_22_code_7)
    refine own_st st26 ?_
    show own_Go p e below s _ _ _ (T26.setTop (mkF m 10 #[.val (.int p1)] [(.int (127 : Int32)), (.int p1)]))
    by_cases hc27 : (127 : Int32) < p1
    · refine own_st (fun _ kQ => XS.icmpYes X26.here hx rfl (pc0 := 10) (pc' := 23) rfl (hb hby own_d_jdk_33_method_22_code_10) rfl (XT.ii_gt_t hc27) (by decide) (by decide) kQ) ?_
      show own_Go p e below s _ _ _ (T26.setTop (mkF m 23 #[.val (.int p1)] []))
      obtain ⟨T28, h28, X28, e28, E28, A28, D28, -, st28⟩ := newO X26 hx hZ hown (hw _ (List.mem_of_getElem? (i := 144) rfl)) (hw _ (List.mem_of_getElem? (i := 145) rfl)) (hw _ (List.mem_of_getElem? (i := 29) rfl)) e26 (g := (mkF m 23 #[.val (.int p1)] [])) rfl (hb hby own_d_jdk_33_method_22_code_23) (by decide) (by decide)
      obtain ⟨b28, g28⟩ : ∃ z, z = h0.size := ⟨_, rfl⟩
      rw [← g28] at A28 D28 st28
      refine own_st st28 ?_
      have Zs29 : n0 ≤ h28.size := Nat.le_trans Z0 E28.1
      have Kp30 : Keep h0 h28 [] := Kp0.ext E28
      have g31 : n0 ≤ b28 := Nat.le_trans Z0 (Nat.le_of_eq g28.symm)
      have sz32 : h0.size ≤ b28 := Nat.le_trans Kp0.1 (Nat.le_of_eq g28.symm)
      have F33 : Fld Z h28 b28 "java/lang/Integer" "value" "I" (.int (0 : Int32)) := D28 (Or.inr (hw _ (List.mem_of_getElem? (i := 158) rfl))) (ty := .int) (by decide)
      show own_Go p e below s _ _ _ (T28.setTop (mkF m 26 #[.val (.int p1)] [(.ref b28)]))
      refine own_st (fun _ kQ => XS.dup X28.here hx rfl (hb hby own_d_jdk_33_method_22_code_26) rfl rfl kQ) ?_
      show own_Go p e below s _ _ _ (T28.setTop (mkF m 27 #[.val (.int p1)] [(.ref b28), (.ref b28)]))
      refine own_st (fun _ kQ => XS.iloadN X28.here hx rfl (hb hby own_d_jdk_33_method_22_code_27) rfl kQ) ?_
      show own_Go p e below s _ _ _ (T28.setTop (mkF m 28 #[.val (.int p1)] [(.int p1), (.ref b28), (.ref b28)]))
      obtain ⟨_, _, ⟨T34, L34, k34, n34⟩, -, X34, ⟨Lc34, hQ34, l34, y34, z34⟩, st34⟩ := X28.specialBack hx (y := (⟨"java/lang/Integer", "<init>", "(I)V"⟩ : MethodName)) rfl hown (mvT hZ (hw _ (List.mem_of_getElem? (i := 146) rfl))) (mvT hZ (hw _ (List.mem_of_getElem? (i := 147) rfl))) (mvT hZ (hw _ (List.mem_of_getElem? (i := 149) rfl))) (by decide) (backOf (W := 1) (own_rm_boxinitI l Z a0 hw [] b28 p1 h28 n0 Zs29 A28 F33 g31) hZ (hw _ (List.mem_of_getElem? (i := 149) rfl)) (hw _ (List.mem_of_getElem? (i := 29) rfl)) (by decide) (by decide)) (g := (mkF m 28 #[.val (.int p1)] [(.int p1), (.ref b28), (.ref b28)])) rfl (by rw [hml]; rfl) (Steps.refl _) (a := b28) (argsL := [(.int p1)]) (rest := [(.ref b28)]) (lenOf own_pd1 rfl) rfl (by show 2 * 0 + _ ≤ _; exact Nat.le_of_eq rfl) (hb hby own_d_jdk_33_method_22_code_28) (fun _ _ => ⟨rfl, e28, (by decide : 1 + 0 ≤ _), (by decide : 1 + 0 ≤ _)⟩)
      dsimp only [Pt.U, Pt.locs, Pt.cells, Pt.slots] at X34 l34 y34 z34 st34 hQ34
      subst l34 y34 z34
      obtain ⟨N34q, rfl, K34, q35, q36⟩ := hQ34
      have N37 := Fr.app N0 N34q
      refine own_tr st34 ?_
      have lt38 : b28 < T34.heap.size := Nat.lt_of_lt_of_le A28.lt K34.1
      have Zs39 : n0 ≤ T34.heap.size := Nat.le_trans Zs29 K34.1
      have Kp40 : Keep h0 T34.heap [] := Kp30.trans K34 (allS (Or.inr sz32) all0)
      show own_Go p e below s _ _ _ (T34.setTop (mkF m 31 #[.val (.int p1)] [(.ref b28)]))
      refine own_retA X34 hx hlk Bd.returns rfl (hb hby own_d_jdk_33_method_22_code_31) (by decide) (by decide) ?_
      skip
      exact ⟨b28, N37, rfl, Kp40, q35, q36⟩
    · refine own_st (fun _ kQ => XS.icmpNo X26.here hx rfl (hb hby own_d_jdk_33_method_22_code_10) rfl (XT.ii_gt_f hc27) kQ) ?_
      show own_Go p e below s _ _ _ (T26.setTop (mkF m 13 #[.val (.int p1)] []))
      have F41 : Sta Z h0 "java/lang/Integer$IntegerCache" "cache" "[Ljava/lang/Integer;" (.ref a_cacheI) := S_cacheI.ext O0.2
      obtain ⟨T42, X42, e42, st42⟩ := getS2 X26 hx hZ hown (host := "") (Or.inl (hw _ (List.mem_of_getElem? (i := 33) rfl))) Via.refl e26 F41 (g := (mkF m 13 #[.val (.int p1)] [])) rfl (hb hby own_d_jdk_33_method_22_code_13)
      refine own_st st42 ?_
      show own_Go p e below s _ _ _ (T42.setTop (mkF m 16 #[.val (.int p1)] [(.ref a_cacheI)]))
      refine own_st (fun _ kQ => XS.iloadN X42.here hx rfl (hb hby own_d_jdk_33_method_22_code_16) rfl kQ) ?_
      show own_Go p e below s _ _ _ (T42.setTop (mkF m 17 #[.val (.int p1)] [(.int p1), (.ref a_cacheI)]))
      refine own_st (fun _ kQ => XT.sipushV X42.here hx rfl (128 : Int32) (hb hby own_d_jdk_33_method_22_code_17) (by decide) kQ) ?_
      show own_Go p e below s _ _ _ (T42.setTop (mkF m 20 #[.val (.int p1)] [(.int (128 : Int32)), (.int p1), (.ref a_cacheI)]))
      refine own_st (fun _ kQ => XS.iadd X42.here hx rfl (hb hby own_d_jdk_33_method_22_code_20) rfl kQ) ?_
      show own_Go p e below s _ _ _ (T42.setTop (mkF m 21 #[.val (.int p1)] [(.int (p1 + (128 : Int32))), (.ref a_cacheI)]))
      obtain ⟨hin0, hlt0⟩ := own_placeI p1 hc11 hc27
      obtain ⟨cl0, Ar0, Sz0, Hj0⟩ := BxI
      obtain ⟨r0, hat0, Er0, Fr0⟩ := Hj0 _ hin0
      refine own_st (fun _ kQ => X42.aaload hx (j := (p1 + (128 : Int32))) (v := .ref r0) (own_hp e42 (Ar0.ext O0.2).1) (State.isArrayOf_alike hZ.alike Ar0.2.1) rfl Ar0.2.2 (by rw [Sz0]; exact hin0) hat0 (g := (mkF m 21 #[.val (.int p1)] [(.int (p1 + (128 : Int32))), (.ref a_cacheI)])) rfl rfl (hb hby own_d_jdk_33_method_22_code_21) _ kQ) ?_
      have hv1 : Fld Z Z.heap r0 "java/lang/Integer" "value" "I" (.int p1) := by rw [own_bkI p1] at Fr0; exact Fr0
      show own_Go p e below s _ _ _ (T42.setTop (mkF m 22 #[.val (.int p1)] [(.ref r0)]))
      have F43 : Exa Z h0 r0 "java/lang/Integer" := Er0.ext O0.2
      have F44 : Fld Z h0 r0 "java/lang/Integer" "value" "I" (.int p1) := hv1.ext O0.2
      refine own_retA X42 hx hlk Bd.returns rfl (hb hby own_d_jdk_33_method_22_code_22) (by decide) (by decide) ?_
      rw [e42]
      exact ⟨r0, N0, rfl, Kp0, F43, F44⟩
theorem own_d_jdk_22_method_1_code_0 : decode jdk_22_method_1_code 0 = .ok (.aload_n 0, 1) := by decide +kernel
theorem own_d_jdk_22_method_1_code_1 : decode jdk_22_method_1_code 1 = .ok (.invokespecial 1, 3) := by decide +kernel
theorem own_d_jdk_22_method_1_code_4 : decode jdk_22_method_1_code 4 = .ok (.return_, 1) := by decide +kernel
theorem own_pn3 : plainFor (⟨"java/util/AbstractCollection", "<init>", "()V"⟩ : MethodName) = true := by decide +kernel
def own_rm_abc_Q (Z : State) (r : Addr) (h0 : Heap) (n0 : Nat) (v : Option Value) (h : Heap) (L : List Loc) : Prop := Fr n0 L ∧ v = none ∧ h = h0
theorem own_rm_abc_ef (m : MethodId) (r : Addr)  : entryFrame m #[(.ref r)] 1 = mkF m 0 #[.val (.ref r)] [] := by first | (simp [entryFrame, mkF, argsToLocals, Value.category]; done) | rfl
set_option maxRecDepth 65536 in
set_option maxHeartbeats 40000000 in
theorem own_rm_abc (l : Launch) (Z : State) (a0 : Array Value) (hw : ∀ d ∈ tables_1, d.before a0 Z = true) (ws : List Jvm.Cond) (r : Addr) (h0 : Heap) (n0 : Nat) (Z0 : n0 ≤ h0.size)  :
    MetFree l (⟨"java/util/AbstractCollection", "<init>", "()V"⟩ : MethodName) (head1 (Jvm.Cond.code (⟨"java/util/AbstractCollection", "<init>", "()V"⟩ : MethodName) jdk_22_method_1_code 1 none :: ws) ({ frames := 1, cells := 0, slots := 0, locals := 12 } : Room)) (fun aQ UQ => aQ = #[(.ref r)] ∧ Z.Warmed39 UQ.vm ∧ UQ.heap = h0) (fun _ _ _ _ _ => True) (fun _ UQ oQ U2 => ∃ vQ LQ, oQ = .returned vQ ∧ own_rm_abc_Q Z r h0 n0 vQ U2.heap LQ ∧ FrameEnd UQ oQ U2 LQ ({ frames := 1, cells := 0, slots := 0, locals := 12 } : Room).cells ({ frames := 1, cells := 0, slots := 0, locals := 12 } : Room).slots) := by
  refine MetFree.of_bodySF own_pn3 hisR ?_
  intro p e s m args below meth c s₁ Bd hml0 hP hK
  obtain ⟨rfl, hZ, hh⟩ := hP
  have hx := Bd.exec
  have hby := Bd.bytes
  have hml : c.maxLocals = 1 := hml0
  have hlk := BodyLoose.notSynchronized Bd
  have hown : s.vm.findClass "java/util/AbstractCollection" = some m.cls := findClass_of_methodNamed Bd.named
  have hnm := (name_of_methodNamed Bd.named Bd.method).1
  have X0 : Stand p l e ({ frames := 1, cells := 0, slots := 0, locals := 12 } : Room) s m #[(.ref r)] below meth c s₁ [] 0 0 := Stand.of_body Bd
  have e0 : s₁.heap = h0 := by rw [← hh, Bd.state]; rfl
  have N0 := Fr.nil n0
  show own_Go p e below s (own_rm_abc_Q Z r h0 n0) ({ frames := 1, cells := 0, slots := 0, locals := 12 } : Room).cells ({ frames := 1, cells := 0, slots := 0, locals := 12 } : Room).slots (s₁.setTop (entryFrame m #[(.ref r)] 1))
  rw [own_rm_abc_ef]
  show own_Go p e below s _ _ _ (s₁.setTop (mkF m 0 #[.val (.ref r)] []))
  refine own_st (fun _ kQ => XS.aloadN X0.here hx rfl (hb hby own_d_jdk_22_method_1_code_0) rfl rfl kQ) ?_
  show own_Go p e below s _ _ _ (s₁.setTop (mkF m 1 #[.val (.ref r)] [(.ref r)]))
  obtain ⟨T45, X45, e45, st45⟩ := initO X0 hx hZ hown (hw _ (List.mem_of_getElem? (i := 19) rfl)) (hw _ (List.mem_of_getElem? (i := 20) rfl)) (hw _ (List.mem_of_getElem? (i := 21) rfl)) e0 (g := (mkF m 1 #[.val (.ref r)] [(.ref r)])) rfl (by rw [hml]; rfl) rfl (hb hby own_d_jdk_22_method_1_code_1) (by decide) (W := 0) (by show 2 * 0 + _ ≤ _; exact Nat.le_of_eq rfl) (by decide)
  refine own_st st45 ?_
  show own_Go p e below s _ _ _ (T45.setTop (mkF m 4 #[.val (.ref r)] []))
  refine own_ret0 X45 hx hlk Bd.returns (hb hby own_d_jdk_22_method_1_code_4) (by decide) (by decide) ?_
  rw [e45]
  exact ⟨N0, rfl, rfl⟩
theorem own_d_jdk_39_method_1_code_0 : decode jdk_39_method_1_code 0 = .ok (.aload_n 0, 1) := by decide +kernel
theorem own_d_jdk_39_method_1_code_1 : decode jdk_39_method_1_code 1 = .ok (.invokespecial 1, 3) := by decide +kernel
theorem own_d_jdk_39_method_1_code_4 : decode jdk_39_method_1_code 4 = .ok (.aload_n 0, 1) := by decide +kernel
theorem own_d_jdk_39_method_1_code_5 : decode jdk_39_method_1_code 5 = .ok (.iconst 0, 1) := by decide +kernel
theorem own_d_jdk_39_method_1_code_6 : decode jdk_39_method_1_code 6 = .ok (.putfield 7, 3) := by decide +kernel
theorem own_d_jdk_39_method_1_code_9 : decode jdk_39_method_1_code 9 = .ok (.return_, 1) := by decide +kernel
theorem own_pn4 : plainFor (⟨"java/util/AbstractList", "<init>", "()V"⟩ : MethodName) = true := by decide +kernel
def own_rm_abl_Q (Z : State) (r : Addr) (h0 : Heap) (n0 : Nat) (v : Option Value) (h : Heap) (L : List Loc) : Prop := Fr n0 L ∧ v = none ∧ Keep h0 h [r] ∧ Exa Z h r "java/util/ArrayList" ∧ Fld Z h r "java/util/AbstractList" "modCount" "I" (.int (0 : Int32)) ∧ Fld Z h r "java/util/ArrayList" "elementData" "[Ljava/lang/Object;" .null ∧ Fld Z h r "java/util/ArrayList" "size" "I" (.int (0 : Int32))
theorem own_rm_abl_ef (m : MethodId) (r : Addr)  : entryFrame m #[(.ref r)] 1 = mkF m 0 #[.val (.ref r)] [] := by first | (simp [entryFrame, mkF, argsToLocals, Value.category]; done) | rfl
set_option maxRecDepth 65536 in
set_option maxHeartbeats 40000000 in
theorem own_rm_abl (l : Launch) (Z : State) (a0 : Array Value) (hw : ∀ d ∈ tables_1, d.before a0 Z = true) (ws : List Jvm.Cond) (r : Addr) (h0 : Heap) (n0 : Nat) (Z0 : n0 ≤ h0.size) (E1 : Exa Z h0 r "java/util/ArrayList") (F1 : Fld Z h0 r "java/util/AbstractList" "modCount" "I" (.int (0 : Int32))) (F2 : Fld Z h0 r "java/util/ArrayList" "elementData" "[Ljava/lang/Object;" .null) (F3 : Fld Z h0 r "java/util/ArrayList" "size" "I" (.int (0 : Int32))) (g1 : n0 ≤ r) :
    MetFree l (⟨"java/util/AbstractList", "<init>", "()V"⟩ : MethodName) (head1 (Jvm.Cond.code (⟨"java/util/AbstractList", "<init>", "()V"⟩ : MethodName) jdk_39_method_1_code 1 none :: ws) ({ frames := 2, cells := 0, slots := 0, locals := 24 } : Room)) (fun aQ UQ => aQ = #[(.ref r)] ∧ Z.Warmed39 UQ.vm ∧ UQ.heap = h0) (fun _ _ _ _ _ => True) (fun _ UQ oQ U2 => ∃ vQ LQ, oQ = .returned vQ ∧ own_rm_abl_Q Z r h0 n0 vQ U2.heap LQ ∧ FrameEnd UQ oQ U2 LQ ({ frames := 2, cells := 0, slots := 0, locals := 24 } : Room).cells ({ frames := 2, cells := 0, slots := 0, locals := 24 } : Room).slots) := by
  refine MetFree.of_bodySF own_pn4 hisR ?_
  intro p e s m args below meth c s₁ Bd hml0 hP hK
  obtain ⟨rfl, hZ, hh⟩ := hP
  have hx := Bd.exec
  have hby := Bd.bytes
  have hml : c.maxLocals = 1 := hml0
  have hlk := BodyLoose.notSynchronized Bd
  have hown : s.vm.findClass "java/util/AbstractList" = some m.cls := findClass_of_methodNamed Bd.named
  have hnm := (name_of_methodNamed Bd.named Bd.method).1
  have X0 : Stand p l e ({ frames := 2, cells := 0, slots := 0, locals := 24 } : Room) s m #[(.ref r)] below meth c s₁ [] 0 0 := Stand.of_body Bd
  have e0 : s₁.heap = h0 := by rw [← hh, Bd.state]; rfl
  have N0 := Fr.nil n0
  have Kp0 : Keep h0 h0 [r] := Keep.refl _ _
  show own_Go p e below s (own_rm_abl_Q Z r h0 n0) ({ frames := 2, cells := 0, slots := 0, locals := 24 } : Room).cells ({ frames := 2, cells := 0, slots := 0, locals := 24 } : Room).slots (s₁.setTop (entryFrame m #[(.ref r)] 1))
  rw [own_rm_abl_ef]
  show own_Go p e below s _ _ _ (s₁.setTop (mkF m 0 #[.val (.ref r)] []))
  refine own_st (fun _ kQ => XS.aloadN X0.here hx rfl (hb hby own_d_jdk_39_method_1_code_0) rfl rfl kQ) ?_
  show own_Go p e below s _ _ _ (s₁.setTop (mkF m 1 #[.val (.ref r)] [(.ref r)]))
  obtain ⟨_, _, ⟨T46, L46, k46, n46⟩, -, X46, ⟨Lc46, hQ46, l46, y46, z46⟩, st46⟩ := X0.specialBack hx (y := (⟨"java/util/AbstractCollection", "<init>", "()V"⟩ : MethodName)) rfl hown (mvT hZ (hw _ (List.mem_of_getElem? (i := 13) rfl))) (mvT hZ (hw _ (List.mem_of_getElem? (i := 14) rfl))) (mvT hZ (hw _ (List.mem_of_getElem? (i := 18) rfl))) (by decide) (backOf (W := 0) (own_rm_abc l Z a0 hw [] r h0 n0 Z0 ) hZ (hw _ (List.mem_of_getElem? (i := 18) rfl)) (hw _ (List.mem_of_getElem? (i := 17) rfl)) (by decide) (by decide)) (g := (mkF m 1 #[.val (.ref r)] [(.ref r)])) rfl (by rw [hml]; rfl) (Steps.refl _) (a := r) (argsL := []) (rest := []) (lenOf own_pd0 rfl) rfl (by show 2 * 0 + _ ≤ _; exact Nat.le_of_eq rfl) (hb hby own_d_jdk_39_method_1_code_1) (fun _ _ => ⟨rfl, e0, (by decide : 0 + 0 ≤ _), (by decide : 0 + 0 ≤ _)⟩)
  dsimp only [Pt.U, Pt.locs, Pt.cells, Pt.slots] at X46 l46 y46 z46 st46 hQ46
  subst l46 y46 z46
  obtain ⟨N46q, rfl, eh46⟩ := hQ46
  have N47 := Fr.app N0 N46q
  refine own_tr st46 ?_
  show own_Go p e below s _ _ _ (T46.setTop (mkF m 4 #[.val (.ref r)] []))
  refine own_st (fun _ kQ => XS.aloadN X46.here hx rfl (hb hby own_d_jdk_39_method_1_code_4) rfl rfl kQ) ?_
  show own_Go p e below s _ _ _ (T46.setTop (mkF m 5 #[.val (.ref r)] [(.ref r)]))
  refine own_st (fun _ kQ => XT.iconstV X46.here hx rfl (0 : Int32) (hb hby own_d_jdk_39_method_1_code_5) (by decide) kQ) ?_
  show own_Go p e below s _ _ _ (T46.setTop (mkF m 6 #[.val (.ref r)] [(.int (0 : Int32)), (.ref r)]))
  obtain ⟨T48, h48, X48, e48, W48, st48⟩ := putF X46 hx hZ hown (host := "") (Or.inl (hw _ (List.mem_of_getElem? (i := 22) rfl))) Via.refl eh46 F1 E1 (Or.inl (hw _ (List.mem_of_getElem? (i := 23) rfl))) (hw _ (List.mem_of_getElem? (i := 2) rfl)) (ty := .int) (by decide) rfl rfl (g := (mkF m 6 #[.val (.ref r)] [(.int (0 : Int32)), (.ref r)])) rfl rfl (hb hby own_d_jdk_39_method_1_code_6)
  refine own_st st48 ?_
  have N49 := Fr.snoc X48 N47 g1
  have F50 : Fld Z h48 r "java/util/AbstractList" "modCount" "I" (.int (0 : Int32)) := F1.same W48
  have lt51 : r < h48.size := Nat.lt_of_lt_of_le F3.lt (Nat.le_of_eq W48.size.symm)
  have Zs52 : n0 ≤ h48.size := Nat.le_trans Z0 (Nat.le_of_eq W48.size.symm)
  have Kp53 : Keep h0 h48 [r] := Kp0.wr W48 (Or.inl (List.mem_of_getElem? (i := 0) rfl))
  show own_Go p e below s _ _ _ (T48.setTop (mkF m 9 #[.val (.ref r)] []))
  have F54 : Exa Z h48 r "java/util/ArrayList" := (E1.wr W48)
  have F55 : Fld Z h48 r "java/util/ArrayList" "elementData" "[Ljava/lang/Object;" .null := (F2.other W48 (Or.inr (slot_ne (Or.inl (hw _ (List.mem_of_getElem? (i := 26) rfl))) (Or.inl (hw _ (List.mem_of_getElem? (i := 23) rfl))) (by decide) (t := (.array (.object "java/lang/Object"))) (t' := .int) (by decide) (by decide))))
  have F56 : Fld Z h48 r "java/util/ArrayList" "size" "I" (.int (0 : Int32)) := (F3.other W48 (Or.inr (slot_ne (Or.inl (hw _ (List.mem_of_getElem? (i := 42) rfl))) (Or.inl (hw _ (List.mem_of_getElem? (i := 23) rfl))) (by decide) (t := .int) (t' := .int) (by decide) (by decide))))
  refine own_ret0 X48 hx hlk Bd.returns (hb hby own_d_jdk_39_method_1_code_9) (by decide) (by decide) ?_
  rw [e48]
  exact ⟨N49, rfl, Kp53, F54, F50, F55, F56⟩
theorem own_d_jdk_38_method_2_code_0 : decode jdk_38_method_2_code 0 = .ok (.aload_n 0, 1) := by decide +kernel
theorem own_d_jdk_38_method_2_code_1 : decode jdk_38_method_2_code 1 = .ok (.invokespecial 1, 3) := by decide +kernel
theorem own_d_jdk_38_method_2_code_4 : decode jdk_38_method_2_code 4 = .ok (.aload_n 0, 1) := by decide +kernel
theorem own_d_jdk_38_method_2_code_5 : decode jdk_38_method_2_code 5 = .ok (.getstatic 39, 3) := by decide +kernel
theorem own_d_jdk_38_method_2_code_8 : decode jdk_38_method_2_code 8 = .ok (.putfield 9, 3) := by decide +kernel
theorem own_d_jdk_38_method_2_code_11 : decode jdk_38_method_2_code 11 = .ok (.return_, 1) := by decide +kernel
theorem own_pn5 : plainFor (⟨"java/util/ArrayList", "<init>", "()V"⟩ : MethodName) = true := by decide +kernel
def own_rm_alinit_Q (Z : State) (r : Addr) (dflt : Addr) (kd : ClassId) (h0 : Heap) (n0 : Nat) (v : Option Value) (h : Heap) (L : List Loc) : Prop := Fr n0 L ∧ v = none ∧ Keep h0 h [r] ∧ Exa Z h r "java/util/ArrayList" ∧ Fld Z h r "java/util/AbstractList" "modCount" "I" (.int (0 : Int32)) ∧ Fld Z h r "java/util/ArrayList" "elementData" "[Ljava/lang/Object;" (.ref dflt) ∧ Fld Z h r "java/util/ArrayList" "size" "I" (.int (0 : Int32))
theorem own_rm_alinit_ef (m : MethodId) (r : Addr)  : entryFrame m #[(.ref r)] 1 = mkF m 0 #[.val (.ref r)] [] := by first | (simp [entryFrame, mkF, argsToLocals, Value.category]; done) | rfl
set_option maxRecDepth 65536 in
set_option maxHeartbeats 40000000 in
theorem own_rm_alinit (l : Launch) (Z : State) (a0 : Array Value) (hw : ∀ d ∈ tables_1, d.before a0 Z = true) (ws : List Jvm.Cond) (r : Addr) (dflt : Addr) (kd : ClassId) (h0 : Heap) (n0 : Nat) (Z0 : n0 ≤ h0.size) (O0 : Old Z n0 h0) (S_es : Sta Z Z.heap "java/util/ArrayList" "DEFAULTCAPACITY_EMPTY_ELEMENTDATA" "[Ljava/lang/Object;" (.ref dflt)) (V_es : Arv Z Z.heap dflt kd (.object "java/lang/Object") (0 : Int32) [] .null) (E1 : Exa Z h0 r "java/util/ArrayList") (F1 : Fld Z h0 r "java/util/AbstractList" "modCount" "I" (.int (0 : Int32))) (F2 : Fld Z h0 r "java/util/ArrayList" "elementData" "[Ljava/lang/Object;" .null) (F3 : Fld Z h0 r "java/util/ArrayList" "size" "I" (.int (0 : Int32))) (g1 : n0 ≤ r) :
    MetFree l (⟨"java/util/ArrayList", "<init>", "()V"⟩ : MethodName) (head1 (Jvm.Cond.code (⟨"java/util/ArrayList", "<init>", "()V"⟩ : MethodName) jdk_38_method_2_code 1 none :: ws) ({ frames := 3, cells := 0, slots := 0, locals := 36 } : Room)) (fun aQ UQ => aQ = #[(.ref r)] ∧ Z.Warmed39 UQ.vm ∧ UQ.heap = h0) (fun _ _ _ _ _ => True) (fun _ UQ oQ U2 => ∃ vQ LQ, oQ = .returned vQ ∧ own_rm_alinit_Q Z r dflt kd h0 n0 vQ U2.heap LQ ∧ FrameEnd UQ oQ U2 LQ ({ frames := 3, cells := 0, slots := 0, locals := 36 } : Room).cells ({ frames := 3, cells := 0, slots := 0, locals := 36 } : Room).slots) := by
  refine MetFree.of_bodySF own_pn5 hisR ?_
  intro p e s m args below meth c s₁ Bd hml0 hP hK
  obtain ⟨rfl, hZ, hh⟩ := hP
  have hx := Bd.exec
  have hby := Bd.bytes
  have hml : c.maxLocals = 1 := hml0
  have hlk := BodyLoose.notSynchronized Bd
  have hown : s.vm.findClass "java/util/ArrayList" = some m.cls := findClass_of_methodNamed Bd.named
  have hnm := (name_of_methodNamed Bd.named Bd.method).1
  have X0 : Stand p l e ({ frames := 3, cells := 0, slots := 0, locals := 36 } : Room) s m #[(.ref r)] below meth c s₁ [] 0 0 := Stand.of_body Bd
  have e0 : s₁.heap = h0 := by rw [← hh, Bd.state]; rfl
  have N0 := Fr.nil n0
  have Kp0 : Keep h0 h0 [r] := Keep.refl _ _
  show own_Go p e below s (own_rm_alinit_Q Z r dflt kd h0 n0) ({ frames := 3, cells := 0, slots := 0, locals := 36 } : Room).cells ({ frames := 3, cells := 0, slots := 0, locals := 36 } : Room).slots (s₁.setTop (entryFrame m #[(.ref r)] 1))
  rw [own_rm_alinit_ef]
  show own_Go p e below s _ _ _ (s₁.setTop (mkF m 0 #[.val (.ref r)] []))
  refine own_st (fun _ kQ => XS.aloadN X0.here hx rfl (hb hby own_d_jdk_38_method_2_code_0) rfl rfl kQ) ?_
  show own_Go p e below s _ _ _ (s₁.setTop (mkF m 1 #[.val (.ref r)] [(.ref r)]))
  obtain ⟨_, _, ⟨T57, L57, k57, n57⟩, -, X57, ⟨Lc57, hQ57, l57, y57, z57⟩, st57⟩ := X0.specialBack hx (y := (⟨"java/util/AbstractList", "<init>", "()V"⟩ : MethodName)) rfl hown (mvT hZ (hw _ (List.mem_of_getElem? (i := 7) rfl))) (mvT hZ (hw _ (List.mem_of_getElem? (i := 8) rfl))) (mvT hZ (hw _ (List.mem_of_getElem? (i := 12) rfl))) (by decide) (backOf (W := 0) (own_rm_abl l Z a0 hw [] r h0 n0 Z0 E1 F1 F2 F3 g1) hZ (hw _ (List.mem_of_getElem? (i := 12) rfl)) (hw _ (List.mem_of_getElem? (i := 11) rfl)) (by decide) (by decide)) (g := (mkF m 1 #[.val (.ref r)] [(.ref r)])) rfl (by rw [hml]; rfl) (Steps.refl _) (a := r) (argsL := []) (rest := []) (lenOf own_pd0 rfl) rfl (by show 2 * 0 + _ ≤ _; exact Nat.le_of_eq rfl) (hb hby own_d_jdk_38_method_2_code_1) (fun _ _ => ⟨rfl, e0, (by decide : 0 + 0 ≤ _), (by decide : 0 + 0 ≤ _)⟩)
  dsimp only [Pt.U, Pt.locs, Pt.cells, Pt.slots] at X57 l57 y57 z57 st57 hQ57
  subst l57 y57 z57
  obtain ⟨N57q, rfl, K57, q58, q59, q60, q61⟩ := hQ57
  have N62 := Fr.app N0 N57q
  refine own_tr st57 ?_
  have lt63 : r < T57.heap.size := Nat.lt_of_lt_of_le F3.lt K57.1
  have Zs64 : n0 ≤ T57.heap.size := Nat.le_trans Z0 K57.1
  have Kp65 : Keep h0 T57.heap [r] := Kp0.trans K57 (allS (Or.inl (List.mem_of_getElem? (i := 0) rfl)) all0)
  show own_Go p e below s _ _ _ (T57.setTop (mkF m 4 #[.val (.ref r)] []))
  refine own_st (fun _ kQ => XS.aloadN X57.here hx rfl (hb hby own_d_jdk_38_method_2_code_4) rfl rfl kQ) ?_
  show own_Go p e below s _ _ _ (T57.setTop (mkF m 5 #[.val (.ref r)] [(.ref r)]))
  have O66 : Old Z n0 T57.heap := (O0.keep K57 (allS g1 all0))
  have F67 : Sta Z T57.heap "java/util/ArrayList" "DEFAULTCAPACITY_EMPTY_ELEMENTDATA" "[Ljava/lang/Object;" (.ref dflt) := S_es.ext O66.2
  obtain ⟨T68, X68, e68, st68⟩ := getS2 X57 hx hZ hown (host := "") (Or.inl (hw _ (List.mem_of_getElem? (i := 24) rfl))) Via.refl rfl F67 (g := (mkF m 5 #[.val (.ref r)] [(.ref r)])) rfl (hb hby own_d_jdk_38_method_2_code_5)
  refine own_st st68 ?_
  show own_Go p e below s _ _ _ (T68.setTop (mkF m 8 #[.val (.ref r)] [(.ref dflt), (.ref r)]))
  obtain ⟨T69, h69, X69, e69, W69, st69⟩ := putF X68 hx hZ hown (host := "") (Or.inl (hw _ (List.mem_of_getElem? (i := 25) rfl))) Via.refl e68 q60 q58 (Or.inl (hw _ (List.mem_of_getElem? (i := 26) rfl))) (hw _ (List.mem_of_getElem? (i := 2) rfl)) (ty := (.array (.object "java/lang/Object"))) (by decide) rfl rfl (g := (mkF m 8 #[.val (.ref r)] [(.ref dflt), (.ref r)])) rfl rfl (hb hby own_d_jdk_38_method_2_code_8)
  refine own_st st69 ?_
  have N70 := Fr.snoc X69 N62 g1
  have F71 : Fld Z h69 r "java/util/ArrayList" "elementData" "[Ljava/lang/Object;" (.ref dflt) := q60.same W69
  have lt72 : r < h69.size := Nat.lt_of_lt_of_le q61.lt (Nat.le_of_eq W69.size.symm)
  have Zs73 : n0 ≤ h69.size := Nat.le_trans Zs64 (Nat.le_of_eq W69.size.symm)
  have Kp74 : Keep h0 h69 [r] := Kp65.wr W69 (Or.inl (List.mem_of_getElem? (i := 0) rfl))
  show own_Go p e below s _ _ _ (T69.setTop (mkF m 11 #[.val (.ref r)] []))
  have F75 : Exa Z h69 r "java/util/ArrayList" := (q58.wr W69)
  have F76 : Fld Z h69 r "java/util/AbstractList" "modCount" "I" (.int (0 : Int32)) := (q59.other W69 (Or.inr (slot_ne (Or.inl (hw _ (List.mem_of_getElem? (i := 23) rfl))) (Or.inl (hw _ (List.mem_of_getElem? (i := 26) rfl))) (by decide) (t := .int) (t' := (.array (.object "java/lang/Object"))) (by decide) (by decide))))
  have F77 : Fld Z h69 r "java/util/ArrayList" "size" "I" (.int (0 : Int32)) := (q61.other W69 (Or.inr (slot_ne (Or.inl (hw _ (List.mem_of_getElem? (i := 42) rfl))) (Or.inl (hw _ (List.mem_of_getElem? (i := 26) rfl))) (by decide) (t := .int) (t' := (.array (.object "java/lang/Object"))) (by decide) (by decide))))
  refine own_ret0 X69 hx hlk Bd.returns (hb hby own_d_jdk_38_method_2_code_11) (by decide) (by decide) ?_
  rw [e69]
  exact ⟨N70, rfl, Kp74, F75, F76, F71, F77⟩
theorem own_d_jdk_29_method_65_code_0 : decode jdk_29_method_65_code 0 = .ok (.iload_n 0, 1) := by decide +kernel
theorem own_d_jdk_29_method_65_code_1 : decode jdk_29_method_65_code 1 = .ok (.iload_n 1, 1) := by decide +kernel
theorem own_d_jdk_29_method_65_code_2 : decode jdk_29_method_65_code 2 = .ok (.if_icmp .lt 7, 3) := by decide +kernel
theorem own_d_jdk_29_method_65_code_5 : decode jdk_29_method_65_code 5 = .ok (.iload_n 0, 1) := by decide +kernel
theorem own_d_jdk_29_method_65_code_6 : decode jdk_29_method_65_code 6 = .ok (.goto 4, 3) := by decide +kernel
theorem own_d_jdk_29_method_65_code_9 : decode jdk_29_method_65_code 9 = .ok (.iload_n 1, 1) := by decide +kernel
theorem own_d_jdk_29_method_65_code_10 : decode jdk_29_method_65_code 10 = .ok (.ireturn, 1) := by decide +kernel
theorem own_pn6 : plainFor (⟨"java/lang/Math", "max", "(II)I"⟩ : MethodName) = true := by decide +kernel
def own_rm_max10_Q (Z : State)  (h0 : Heap) (n0 : Nat) (v : Option Value) (h : Heap) (L : List Loc) : Prop := Fr n0 L ∧ v = some (.int (10 : Int32)) ∧ h = h0
theorem own_rm_max10_ef (m : MethodId)   : entryFrame m #[(.int (10 : Int32)), (.int (1 : Int32))] 2 = mkF m 0 #[.val (.int (10 : Int32)), .val (.int (1 : Int32))] [] := by first | (simp [entryFrame, mkF, argsToLocals, Value.category]; done) | rfl
set_option maxRecDepth 65536 in
set_option maxHeartbeats 40000000 in
theorem own_rm_max10 (l : Launch) (Z : State) (a0 : Array Value) (hw : ∀ d ∈ tables_1, d.before a0 Z = true) (ws : List Jvm.Cond)  (h0 : Heap) (n0 : Nat) (Z0 : n0 ≤ h0.size)  :
    MetFree l (⟨"java/lang/Math", "max", "(II)I"⟩ : MethodName) (head1 (Jvm.Cond.code (⟨"java/lang/Math", "max", "(II)I"⟩ : MethodName) jdk_29_method_65_code 2 (some .int) :: ws) ({ frames := 0, cells := 0, slots := 0, locals := 0 } : Room)) (fun aQ UQ => aQ = #[(.int (10 : Int32)), (.int (1 : Int32))] ∧ Z.Warmed39 UQ.vm ∧ UQ.heap = h0) (fun _ _ _ _ _ => True) (fun _ UQ oQ U2 => ∃ vQ LQ, oQ = .returned vQ ∧ own_rm_max10_Q Z  h0 n0 vQ U2.heap LQ ∧ FrameEnd UQ oQ U2 LQ ({ frames := 0, cells := 0, slots := 0, locals := 0 } : Room).cells ({ frames := 0, cells := 0, slots := 0, locals := 0 } : Room).slots) := by
  refine MetFree.of_bodySF own_pn6 hisR ?_
  intro p e s m args below meth c s₁ Bd hml0 hP hK
  obtain ⟨rfl, hZ, hh⟩ := hP
  have hx := Bd.exec
  have hby := Bd.bytes
  have hml : c.maxLocals = 2 := hml0
  have hlk := BodyLoose.notSynchronized Bd
  have hown : s.vm.findClass "java/lang/Math" = some m.cls := findClass_of_methodNamed Bd.named
  have hnm := (name_of_methodNamed Bd.named Bd.method).1
  have X0 : Stand p l e ({ frames := 0, cells := 0, slots := 0, locals := 0 } : Room) s m #[(.int (10 : Int32)), (.int (1 : Int32))] below meth c s₁ [] 0 0 := Stand.of_body Bd
  have e0 : s₁.heap = h0 := by rw [← hh, Bd.state]; rfl
  have N0 := Fr.nil n0
  show own_Go p e below s (own_rm_max10_Q Z  h0 n0) ({ frames := 0, cells := 0, slots := 0, locals := 0 } : Room).cells ({ frames := 0, cells := 0, slots := 0, locals := 0 } : Room).slots (s₁.setTop (entryFrame m #[(.int (10 : Int32)), (.int (1 : Int32))] 2))
  rw [own_rm_max10_ef]
  show own_Go p e below s _ _ _ (s₁.setTop (mkF m 0 #[.val (.int (10 : Int32)), .val (.int (1 : Int32))] []))
  refine own_st (fun _ kQ => XS.iloadN X0.here hx rfl (hb hby own_d_jdk_29_method_65_code_0) rfl kQ) ?_
  show own_Go p e below s _ _ _ (s₁.setTop (mkF m 1 #[.val (.int (10 : Int32)), .val (.int (1 : Int32))] [(.int (10 : Int32))]))
  refine own_st (fun _ kQ => XS.iloadN X0.here hx rfl (hb hby own_d_jdk_29_method_65_code_1) rfl kQ) ?_
  show own_Go p e below s _ _ _ (s₁.setTop (mkF m 2 #[.val (.int (10 : Int32)), .val (.int (1 : Int32))] [(.int (1 : Int32)), (.int (10 : Int32))]))
  refine own_st (fun _ kQ => XS.icmpNo X0.here hx rfl (hb hby own_d_jdk_29_method_65_code_2) rfl (XT.ii_lt_f (by decide)) kQ) ?_
  show own_Go p e below s _ _ _ (s₁.setTop (mkF m 5 #[.val (.int (10 : Int32)), .val (.int (1 : Int32))] []))
  refine own_st (fun _ kQ => XS.iloadN X0.here hx rfl (hb hby own_d_jdk_29_method_65_code_5) rfl kQ) ?_
  show own_Go p e below s _ _ _ (s₁.setTop (mkF m 6 #[.val (.int (10 : Int32)), .val (.int (1 : Int32))] [(.int (10 : Int32))]))
  refine own_st (fun _ kQ => XS.goto X0.here hx rfl (pc0 := 6) (pc' := 10) rfl (hb hby own_d_jdk_29_method_65_code_6) (by decide) (by decide) kQ) ?_
  show own_Go p e below s _ _ _ (s₁.setTop (mkF m 10 #[.val (.int (10 : Int32)), .val (.int (1 : Int32))] [(.int (10 : Int32))]))
  refine own_retI X0 hx hlk Bd.returns (hb hby own_d_jdk_29_method_65_code_10) (by decide) (by decide) ?_
  rw [e0]
  exact ⟨N0, rfl, rfl⟩
theorem own_d_jdk_38_method_6_code_0 : decode jdk_38_method_6_code 0 = .ok (.aload_n 0, 1) := by decide +kernel
theorem own_d_jdk_38_method_6_code_1 : decode jdk_38_method_6_code 1 = .ok (.getfield 9, 3) := by decide +kernel
theorem own_d_jdk_38_method_6_code_4 : decode jdk_38_method_6_code 4 = .ok (.arraylength, 1) := by decide +kernel
theorem own_d_jdk_38_method_6_code_5 : decode jdk_38_method_6_code 5 = .ok (.istore_n 2, 1) := by decide +kernel
theorem own_d_jdk_38_method_6_code_6 : decode jdk_38_method_6_code 6 = .ok (.iload_n 2, 1) := by decide +kernel
theorem own_d_jdk_38_method_6_code_7 : decode jdk_38_method_6_code 7 = .ok (.ifCond .gt 13, 3) := by decide +kernel
theorem own_d_jdk_38_method_6_code_10 : decode jdk_38_method_6_code 10 = .ok (.aload_n 0, 1) := by decide +kernel
theorem own_d_jdk_38_method_6_code_11 : decode jdk_38_method_6_code 11 = .ok (.getfield 9, 3) := by decide +kernel
theorem own_d_jdk_38_method_6_code_14 : decode jdk_38_method_6_code 14 = .ok (.getstatic 39, 3) := by decide +kernel
theorem own_d_jdk_38_method_6_code_17 : decode jdk_38_method_6_code 17 = .ok (.if_acmp .eq 28, 3) := by decide +kernel
theorem own_d_jdk_38_method_6_code_20 : decode jdk_38_method_6_code 20 = .ok (.iload_n 2, 1) := by decide +kernel
theorem own_d_jdk_38_method_6_code_21 : decode jdk_38_method_6_code 21 = .ok (.iload_n 1, 1) := by decide +kernel
theorem own_d_jdk_38_method_6_code_22 : decode jdk_38_method_6_code 22 = .ok (.iload_n 2, 1) := by decide +kernel
theorem own_d_jdk_38_method_6_code_23 : decode jdk_38_method_6_code 23 = .ok (.isub, 1) := by decide +kernel
theorem own_d_jdk_38_method_6_code_24 : decode jdk_38_method_6_code 24 = .ok (.iload_n 2, 1) := by decide +kernel
theorem own_d_jdk_38_method_6_code_25 : decode jdk_38_method_6_code 25 = .ok (.iconst 1, 1) := by decide +kernel
theorem own_d_jdk_38_method_6_code_26 : decode jdk_38_method_6_code 26 = .ok (.ishr, 1) := by decide +kernel
theorem own_d_jdk_38_method_6_code_27 : decode jdk_38_method_6_code 27 = .ok (.invokestatic 73, 3) := by decide +kernel
theorem own_d_jdk_38_method_6_code_30 : decode jdk_38_method_6_code 30 = .ok (.istore_n 3, 1) := by decide +kernel
theorem own_d_jdk_38_method_6_code_31 : decode jdk_38_method_6_code 31 = .ok (.aload_n 0, 1) := by decide +kernel
theorem own_d_jdk_38_method_6_code_32 : decode jdk_38_method_6_code 32 = .ok (.aload_n 0, 1) := by decide +kernel
theorem own_d_jdk_38_method_6_code_33 : decode jdk_38_method_6_code 33 = .ok (.getfield 9, 3) := by decide +kernel
theorem own_d_jdk_38_method_6_code_36 : decode jdk_38_method_6_code 36 = .ok (.iload_n 3, 1) := by decide +kernel
theorem own_d_jdk_38_method_6_code_37 : decode jdk_38_method_6_code 37 = .ok (.invokestatic 66, 3) := by decide +kernel
theorem own_d_jdk_38_method_6_code_40 : decode jdk_38_method_6_code 40 = .ok (.dup_x1, 1) := by decide +kernel
theorem own_d_jdk_38_method_6_code_41 : decode jdk_38_method_6_code 41 = .ok (.putfield 9, 3) := by decide +kernel
theorem own_d_jdk_38_method_6_code_44 : decode jdk_38_method_6_code 44 = .ok (.areturn, 1) := by decide +kernel
theorem own_d_jdk_38_method_6_code_45 : decode jdk_38_method_6_code 45 = .ok (.aload_n 0, 1) := by decide +kernel
theorem own_d_jdk_38_method_6_code_46 : decode jdk_38_method_6_code 46 = .ok (.bipush 10, 2) := by decide +kernel
theorem own_d_jdk_38_method_6_code_48 : decode jdk_38_method_6_code 48 = .ok (.iload_n 1, 1) := by decide +kernel
theorem own_d_jdk_38_method_6_code_49 : decode jdk_38_method_6_code 49 = .ok (.invokestatic 79, 3) := by decide +kernel
theorem own_d_jdk_38_method_6_code_52 : decode jdk_38_method_6_code 52 = .ok (.anewarray 7, 3) := by decide +kernel
theorem own_d_jdk_38_method_6_code_55 : decode jdk_38_method_6_code 55 = .ok (.dup_x1, 1) := by decide +kernel
theorem own_d_jdk_38_method_6_code_56 : decode jdk_38_method_6_code 56 = .ok (.putfield 9, 3) := by decide +kernel
theorem own_d_jdk_38_method_6_code_59 : decode jdk_38_method_6_code 59 = .ok (.areturn, 1) := by decide +kernel
theorem own_pn7 : plainFor (⟨"java/util/ArrayList", "grow", "(I)[Ljava/lang/Object;"⟩ : MethodName) = true := by decide +kernel
theorem own_pd2 : parseMethodDescriptor "(II)I" = some ⟨[.int, .int], some .int⟩ := by decide +kernel
def own_rm_growI_Q (Z : State) (r : Addr) (mc : Int32) (dflt : Addr) (kd : ClassId) (h0 : Heap) (n0 : Nat) (v : Option Value) (h : Heap) (L : List Loc) : Prop := ∃ arr : Addr, ∃ kk : ClassId, Fr n0 L ∧ v = some (.ref arr) ∧ Keep h0 h [r] ∧ h0.size ≤ arr ∧ Exa Z h r "java/util/ArrayList" ∧ Fld Z h r "java/util/AbstractList" "modCount" "I" (.int mc) ∧ Fld Z h r "java/util/ArrayList" "elementData" "[Ljava/lang/Object;" (.ref arr) ∧ Fld Z h r "java/util/ArrayList" "size" "I" (.int (0 : Int32)) ∧ Exa Z h arr "[Ljava/lang/Object;" ∧ Arv Z h arr kk (.object "java/lang/Object") (10 : Int32) [.null, .null, .null, .null, .null, .null, .null, .null, .null, .null] .null ∧ Ovr Z kk "java/lang/Object"
theorem own_rm_growI_ef (m : MethodId) (r : Addr)  : entryFrame m #[(.ref r), (.int (1 : Int32))] 4 = mkF m 0 #[.val (.ref r), .val (.int (1 : Int32)), .unset, .unset] [] := by first | (simp [entryFrame, mkF, argsToLocals, Value.category]; done) | rfl
set_option maxRecDepth 65536 in
set_option maxHeartbeats 40000000 in
theorem own_rm_growI (l : Launch) (Z : State) (a0 : Array Value) (hw : ∀ d ∈ tables_1, d.before a0 Z = true) (ws : List Jvm.Cond) (r : Addr) (mc : Int32) (dflt : Addr) (kd : ClassId) (h0 : Heap) (n0 : Nat) (Z0 : n0 ≤ h0.size) (O0 : Old Z n0 h0) (S_es : Sta Z Z.heap "java/util/ArrayList" "DEFAULTCAPACITY_EMPTY_ELEMENTDATA" "[Ljava/lang/Object;" (.ref dflt)) (V_es : Arv Z Z.heap dflt kd (.object "java/lang/Object") (0 : Int32) [] .null) (E1 : Exa Z h0 r "java/util/ArrayList") (F1 : Fld Z h0 r "java/util/AbstractList" "modCount" "I" (.int mc)) (F2 : Fld Z h0 r "java/util/ArrayList" "elementData" "[Ljava/lang/Object;" (.ref dflt)) (F3 : Fld Z h0 r "java/util/ArrayList" "size" "I" (.int (0 : Int32))) (g1 : n0 ≤ r) :
    MetFree l (⟨"java/util/ArrayList", "grow", "(I)[Ljava/lang/Object;"⟩ : MethodName) (head1 (Jvm.Cond.code (⟨"java/util/ArrayList", "grow", "(I)[Ljava/lang/Object;"⟩ : MethodName) jdk_38_method_6_code 4 (some (.array (.object "java/lang/Object"))) :: ws) ({ frames := 1, cells := 1, slots := 10, locals := 14 } : Room)) (fun aQ UQ => aQ = #[(.ref r), (.int (1 : Int32))] ∧ Z.Warmed39 UQ.vm ∧ UQ.heap = h0) (fun _ _ _ _ _ => True) (fun _ UQ oQ U2 => ∃ vQ LQ, oQ = .returned vQ ∧ own_rm_growI_Q Z r mc dflt kd h0 n0 vQ U2.heap LQ ∧ FrameEnd UQ oQ U2 LQ ({ frames := 1, cells := 1, slots := 10, locals := 14 } : Room).cells ({ frames := 1, cells := 1, slots := 10, locals := 14 } : Room).slots) := by
  refine MetFree.of_bodySF own_pn7 hisR ?_
  intro p e s m args below meth c s₁ Bd hml0 hP hK
  obtain ⟨rfl, hZ, hh⟩ := hP
  have hx := Bd.exec
  have hby := Bd.bytes
  have hml : c.maxLocals = 4 := hml0
  have hlk := BodyLoose.notSynchronized Bd
  have hown : s.vm.findClass "java/util/ArrayList" = some m.cls := findClass_of_methodNamed Bd.named
  have hnm := (name_of_methodNamed Bd.named Bd.method).1
  have X0 : Stand p l e ({ frames := 1, cells := 1, slots := 10, locals := 14 } : Room) s m #[(.ref r), (.int (1 : Int32))] below meth c s₁ [] 0 0 := Stand.of_body Bd
  have e0 : s₁.heap = h0 := by rw [← hh, Bd.state]; rfl
  have N0 := Fr.nil n0
  have Kp0 : Keep h0 h0 [r] := Keep.refl _ _
  show own_Go p e below s (own_rm_growI_Q Z r mc dflt kd h0 n0) ({ frames := 1, cells := 1, slots := 10, locals := 14 } : Room).cells ({ frames := 1, cells := 1, slots := 10, locals := 14 } : Room).slots (s₁.setTop (entryFrame m #[(.ref r), (.int (1 : Int32))] 4))
  rw [own_rm_growI_ef]
  show own_Go p e below s _ _ _ (s₁.setTop (mkF m 0 #[.val (.ref r), .val (.int (1 : Int32)), .unset, .unset] []))
  refine own_st (fun _ kQ => XS.aloadN X0.here hx rfl (hb hby own_d_jdk_38_method_6_code_0) rfl rfl kQ) ?_
  show own_Go p e below s _ _ _ (s₁.setTop (mkF m 1 #[.val (.ref r), .val (.int (1 : Int32)), .unset, .unset] [(.ref r)]))
  obtain ⟨T78, X78, e78, st78⟩ := getF X0 hx hZ hown (host := "") (Or.inl (hw _ (List.mem_of_getElem? (i := 25) rfl))) Via.refl e0 F2 (g := (mkF m 1 #[.val (.ref r), .val (.int (1 : Int32)), .unset, .unset] [(.ref r)])) rfl rfl (hb hby own_d_jdk_38_method_6_code_1)
  refine own_st st78 ?_
  show own_Go p e below s _ _ _ (T78.setTop (mkF m 4 #[.val (.ref r), .val (.int (1 : Int32)), .unset, .unset] [(.ref dflt)]))
  have F80 : Arv Z h0 dflt kd (.object "java/lang/Object") (0 : Int32) [] .null := V_es.ext O0.2
  obtain ⟨cl79, Ar79, -, S79, N79, -, -⟩ := id F80
  refine own_st (fun _ kQ => X78.arraylength hx (own_hp e78 Ar79.1) (State.isArrayOf_alike hZ.alike Ar79.2.1) (g := (mkF m 4 #[.val (.ref r), .val (.int (1 : Int32)), .unset, .unset] [(.ref dflt)])) rfl rfl (hb hby own_d_jdk_38_method_6_code_4) _ kQ) ?_
  rw [len_of S79 N79]
  show own_Go p e below s _ _ _ (T78.setTop (mkF m 5 #[.val (.ref r), .val (.int (1 : Int32)), .unset, .unset] [(.int (0 : Int32))]))
  refine own_st (fun _ kQ => XS.istoreN X78.here hx rfl (hb hby own_d_jdk_38_method_6_code_5) rfl (l' := #[.val (.ref r), .val (.int (1 : Int32)), .val (.int (0 : Int32)), .unset]) rfl kQ) ?_
  show own_Go p e below s _ _ _ (T78.setTop (mkF m 6 #[.val (.ref r), .val (.int (1 : Int32)), .val (.int (0 : Int32)), .unset] []))
  refine own_st (fun _ kQ => XS.iloadN X78.here hx rfl (hb hby own_d_jdk_38_method_6_code_6) rfl kQ) ?_
  show own_Go p e below s _ _ _ (T78.setTop (mkF m 7 #[.val (.ref r), .val (.int (1 : Int32)), .val (.int (0 : Int32)), .unset] [(.int (0 : Int32))]))
  refine own_st (fun _ kQ => XS.ifNo X78.here hx rfl (hb hby own_d_jdk_38_method_6_code_7) rfl (XT.i0_gt_f (by decide)) kQ) ?_
  show own_Go p e below s _ _ _ (T78.setTop (mkF m 10 #[.val (.ref r), .val (.int (1 : Int32)), .val (.int (0 : Int32)), .unset] []))
  refine own_st (fun _ kQ => XS.aloadN X78.here hx rfl (hb hby own_d_jdk_38_method_6_code_10) rfl rfl kQ) ?_
  show own_Go p e below s _ _ _ (T78.setTop (mkF m 11 #[.val (.ref r), .val (.int (1 : Int32)), .val (.int (0 : Int32)), .unset] [(.ref r)]))
  obtain ⟨T81, X81, e81, st81⟩ := getF X78 hx hZ hown (host := "") (Or.inl (hw _ (List.mem_of_getElem? (i := 25) rfl))) Via.refl e78 F2 (g := (mkF m 11 #[.val (.ref r), .val (.int (1 : Int32)), .val (.int (0 : Int32)), .unset] [(.ref r)])) rfl rfl (hb hby own_d_jdk_38_method_6_code_11)
  refine own_st st81 ?_
  show own_Go p e below s _ _ _ (T81.setTop (mkF m 14 #[.val (.ref r), .val (.int (1 : Int32)), .val (.int (0 : Int32)), .unset] [(.ref dflt)]))
  have F82 : Sta Z h0 "java/util/ArrayList" "DEFAULTCAPACITY_EMPTY_ELEMENTDATA" "[Ljava/lang/Object;" (.ref dflt) := S_es.ext O0.2
  obtain ⟨T83, X83, e83, st83⟩ := getS2 X81 hx hZ hown (host := "") (Or.inl (hw _ (List.mem_of_getElem? (i := 24) rfl))) Via.refl e81 F82 (g := (mkF m 14 #[.val (.ref r), .val (.int (1 : Int32)), .val (.int (0 : Int32)), .unset] [(.ref dflt)])) rfl (hb hby own_d_jdk_38_method_6_code_14)
  refine own_st st83 ?_
  show own_Go p e below s _ _ _ (T83.setTop (mkF m 17 #[.val (.ref r), .val (.int (1 : Int32)), .val (.int (0 : Int32)), .unset] [(.ref dflt), (.ref dflt)]))
  refine own_st (fun _ kQ => XT.acmpYes X83.here hx rfl (pc0 := 17) (pc' := 45) rfl (hb hby own_d_jdk_38_method_6_code_17) rfl rfl rfl (XT.aa_eq_t (congrArg Value.ref rfl)) (by decide) (by decide) kQ) ?_
  show own_Go p e below s _ _ _ (T83.setTop (mkF m 45 #[.val (.ref r), .val (.int (1 : Int32)), .val (.int (0 : Int32)), .unset] []))
  refine own_st (fun _ kQ => XS.aloadN X83.here hx rfl (hb hby own_d_jdk_38_method_6_code_45) rfl rfl kQ) ?_
  show own_Go p e below s _ _ _ (T83.setTop (mkF m 46 #[.val (.ref r), .val (.int (1 : Int32)), .val (.int (0 : Int32)), .unset] [(.ref r)]))
  refine own_st (fun _ kQ => XT.bipushV X83.here hx rfl (10 : Int32) (hb hby own_d_jdk_38_method_6_code_46) (by decide) kQ) ?_
  show own_Go p e below s _ _ _ (T83.setTop (mkF m 48 #[.val (.ref r), .val (.int (1 : Int32)), .val (.int (0 : Int32)), .unset] [(.int (10 : Int32)), (.ref r)]))
  refine own_st (fun _ kQ => XS.iloadN X83.here hx rfl (hb hby own_d_jdk_38_method_6_code_48) rfl kQ) ?_
  show own_Go p e below s _ _ _ (T83.setTop (mkF m 49 #[.val (.ref r), .val (.int (1 : Int32)), .val (.int (0 : Int32)), .unset] [(.int (1 : Int32)), (.int (10 : Int32)), (.ref r)]))
  obtain ⟨_, _, ⟨T84, L84, k84, n84⟩, -, X84, ⟨Lc84, hQ84, l84, y84, z84⟩, st84⟩ := Jvm.LawKit.callS X83 hx (y := (⟨"java/lang/Math", "max", "(II)I"⟩ : MethodName)) hown (mvT hZ (hw _ (List.mem_of_getElem? (i := 58) rfl))) (mvT hZ (hw _ (List.mem_of_getElem? (i := 59) rfl))) (mvT hZ (hw _ (List.mem_of_getElem? (i := 60) rfl))) (mvT hZ (hw _ (List.mem_of_getElem? (i := 61) rfl))) (by decide) (backOf (W := 1) (own_rm_max10 l Z a0 hw []  h0 n0 Z0 ) hZ (hw _ (List.mem_of_getElem? (i := 61) rfl)) (hw _ (List.mem_of_getElem? (i := 60) rfl)) (by decide) (by decide)) (g := (mkF m 49 #[.val (.ref r), .val (.int (1 : Int32)), .val (.int (0 : Int32)), .unset] [(.int (1 : Int32)), (.int (10 : Int32)), (.ref r)])) rfl (by rw [hml]; rfl) (argsL := [(.int (10 : Int32)), (.int (1 : Int32))]) (rest := [(.ref r)]) (lenOf own_pd2 rfl) rfl (by show 2 * 0 + _ ≤ _; exact Nat.le_of_eq rfl) (hb hby own_d_jdk_38_method_6_code_49) (fun _ _ => ⟨rfl, e83, (by decide : 0 + 0 ≤ _), (by decide : 0 + 0 ≤ _)⟩)
  dsimp only [Pt.U, Pt.locs, Pt.cells, Pt.slots] at X84 l84 y84 z84 st84 hQ84
  subst l84 y84 z84
  obtain ⟨N84q, rfl, eh84⟩ := hQ84
  have N85 := Fr.app N0 N84q
  refine own_st st84 ?_
  show own_Go p e below s _ _ _ (T84.setTop (mkF m 52 #[.val (.ref r), .val (.int (1 : Int32)), .val (.int (0 : Int32)), .unset] [(.int (10 : Int32)), (.ref r)]))
  obtain ⟨T86, h86, k86, X86, e86, E86, A86, Ea86, O86, st86⟩ := newRE X84 hx hZ hown (hw _ (List.mem_of_getElem? (i := 62) rfl)) (hw _ (List.mem_of_getElem? (i := 63) rfl)) eh84 (g := (mkF m 52 #[.val (.ref r), .val (.int (1 : Int32)), .val (.int (0 : Int32)), .unset] [(.int (10 : Int32)), (.ref r)])) rfl (hb hby own_d_jdk_38_method_6_code_52) rfl (by decide) (cap := 10) (by decide) (by decide) (by decide) (by decide) (ad := "[Ljava/lang/Object;") (by decide +kernel)
  obtain ⟨b86, g86⟩ : ∃ z, z = h0.size := ⟨_, rfl⟩
  rw [← g86] at A86 Ea86 st86
  refine own_st st86 ?_
  have lt87 : r < h86.size := Nat.lt_of_lt_of_le F3.lt E86.1
  have Zs88 : n0 ≤ h86.size := Nat.le_trans Z0 E86.1
  have Kp89 : Keep h0 h86 [r] := Kp0.ext E86
  have ne90 : r ≠ b86 := Nat.ne_of_lt (Nat.lt_of_lt_of_le F3.lt (Nat.le_of_eq g86.symm))
  have g91 : n0 ≤ b86 := Nat.le_trans Z0 (Nat.le_of_eq g86.symm)
  have sz92 : h0.size ≤ b86 := Nat.le_trans Kp0.1 (Nat.le_of_eq g86.symm)
  have F93 : Arv Z h86 b86 k86 (.object "java/lang/Object") (10 : Int32) [.null, .null, .null, .null, .null, .null, .null, .null, .null, .null] .null := (Arv.new A86 (by decide)).pad (fun i => own_pad 10 _ i)
  show own_Go p e below s _ _ _ (T86.setTop (mkF m 55 #[.val (.ref r), .val (.int (1 : Int32)), .val (.int (0 : Int32)), .unset] [(.ref b86), (.ref r)]))
  refine own_st (fun _ kQ => XT.dupX1 X86.here hx rfl (hb hby own_d_jdk_38_method_6_code_55) rfl rfl rfl kQ) ?_
  show own_Go p e below s _ _ _ (T86.setTop (mkF m 56 #[.val (.ref r), .val (.int (1 : Int32)), .val (.int (0 : Int32)), .unset] [(.ref b86), (.ref r), (.ref b86)]))
  have F94 : Fld Z h86 r "java/util/ArrayList" "elementData" "[Ljava/lang/Object;" (.ref dflt) := (F2.ext E86)
  have F95 : Exa Z h86 r "java/util/ArrayList" := (E1.ext E86)
  obtain ⟨T96, h96, X96, e96, W96, st96⟩ := putF X86 hx hZ hown (host := "") (Or.inl (hw _ (List.mem_of_getElem? (i := 25) rfl))) Via.refl e86 F94 F95 (Or.inl (hw _ (List.mem_of_getElem? (i := 26) rfl))) (hw _ (List.mem_of_getElem? (i := 2) rfl)) (ty := (.array (.object "java/lang/Object"))) (by decide) rfl rfl (g := (mkF m 56 #[.val (.ref r), .val (.int (1 : Int32)), .val (.int (0 : Int32)), .unset] [(.ref b86), (.ref r), (.ref b86)])) rfl rfl (hb hby own_d_jdk_38_method_6_code_56)
  refine own_st st96 ?_
  have N97 := Fr.snoc X96 N85 g1
  have F98 : Fld Z h96 r "java/util/ArrayList" "elementData" "[Ljava/lang/Object;" (.ref b86) := F94.same W96
  have lt99 : r < h96.size := Nat.lt_of_lt_of_le lt87 (Nat.le_of_eq W96.size.symm)
  have lt100 : b86 < h96.size := Nat.lt_of_lt_of_le A86.lt (Nat.le_of_eq W96.size.symm)
  have Zs101 : n0 ≤ h96.size := Nat.le_trans Zs88 (Nat.le_of_eq W96.size.symm)
  have Kp102 : Keep h0 h96 [r] := Kp89.wr W96 (Or.inl (List.mem_of_getElem? (i := 0) rfl))
  show own_Go p e below s _ _ _ (T96.setTop (mkF m 59 #[.val (.ref r), .val (.int (1 : Int32)), .val (.int (0 : Int32)), .unset] [(.ref b86)]))
  have F103 : Arv Z h96 b86 k86 (.object "java/lang/Object") (10 : Int32) [.null, .null, .null, .null, .null, .null, .null, .null, .null, .null] .null := (F93.other W96 ne90.symm)
  have F104 : Exa Z h96 r "java/util/ArrayList" := (F95.wr W96)
  have F105 : Fld Z h96 r "java/util/AbstractList" "modCount" "I" (.int mc) := ((F1.ext E86).other W96 (Or.inr (slot_ne (Or.inl (hw _ (List.mem_of_getElem? (i := 23) rfl))) (Or.inl (hw _ (List.mem_of_getElem? (i := 26) rfl))) (by decide) (t := .int) (t' := (.array (.object "java/lang/Object"))) (by decide) (by decide))))
  have F106 : Fld Z h96 r "java/util/ArrayList" "size" "I" (.int (0 : Int32)) := ((F3.ext E86).other W96 (Or.inr (slot_ne (Or.inl (hw _ (List.mem_of_getElem? (i := 42) rfl))) (Or.inl (hw _ (List.mem_of_getElem? (i := 26) rfl))) (by decide) (t := .int) (t' := (.array (.object "java/lang/Object"))) (by decide) (by decide))))
  have F107 : Exa Z h96 b86 "[Ljava/lang/Object;" := (Ea86.wr W96)
  refine own_retA X96 hx hlk Bd.returns rfl (hb hby own_d_jdk_38_method_6_code_59) (by decide) (by decide) ?_
  rw [e96]
  exact ⟨b86, k86, N97, rfl, Kp102, sz92, F104, F105, F98, F106, F107, F103, O86⟩
theorem own_d_jdk_38_method_7_code_0 : decode jdk_38_method_7_code 0 = .ok (.aload_n 0, 1) := by decide +kernel
theorem own_d_jdk_38_method_7_code_1 : decode jdk_38_method_7_code 1 = .ok (.aload_n 0, 1) := by decide +kernel
theorem own_d_jdk_38_method_7_code_2 : decode jdk_38_method_7_code 2 = .ok (.getfield 48, 3) := by decide +kernel
theorem own_d_jdk_38_method_7_code_5 : decode jdk_38_method_7_code 5 = .ok (.iconst 1, 1) := by decide +kernel
theorem own_d_jdk_38_method_7_code_6 : decode jdk_38_method_7_code 6 = .ok (.iadd, 1) := by decide +kernel
theorem own_d_jdk_38_method_7_code_7 : decode jdk_38_method_7_code 7 = .ok (.invokevirtual 69, 3) := by decide +kernel
theorem own_d_jdk_38_method_7_code_10 : decode jdk_38_method_7_code 10 = .ok (.areturn, 1) := by decide +kernel
theorem own_pn8 : plainFor (⟨"java/util/ArrayList", "grow", "()[Ljava/lang/Object;"⟩ : MethodName) = true := by decide +kernel
theorem own_pd3 : parseMethodDescriptor "(I)[Ljava/lang/Object;" = some ⟨[.int], some (.array (.object "java/lang/Object"))⟩ := by decide +kernel
def own_rm_grow_Q (Z : State) (r : Addr) (mc : Int32) (dflt : Addr) (kd : ClassId) (h0 : Heap) (n0 : Nat) (v : Option Value) (h : Heap) (L : List Loc) : Prop := ∃ arr : Addr, ∃ kk : ClassId, Fr n0 L ∧ v = some (.ref arr) ∧ Keep h0 h [r] ∧ h0.size ≤ arr ∧ Exa Z h r "java/util/ArrayList" ∧ Fld Z h r "java/util/AbstractList" "modCount" "I" (.int mc) ∧ Fld Z h r "java/util/ArrayList" "elementData" "[Ljava/lang/Object;" (.ref arr) ∧ Fld Z h r "java/util/ArrayList" "size" "I" (.int (0 : Int32)) ∧ Exa Z h arr "[Ljava/lang/Object;" ∧ Arv Z h arr kk (.object "java/lang/Object") (10 : Int32) [.null, .null, .null, .null, .null, .null, .null, .null, .null, .null] .null ∧ Ovr Z kk "java/lang/Object"
theorem own_rm_grow_ef (m : MethodId) (r : Addr)  : entryFrame m #[(.ref r)] 1 = mkF m 0 #[.val (.ref r)] [] := by first | (simp [entryFrame, mkF, argsToLocals, Value.category]; done) | rfl
set_option maxRecDepth 65536 in
set_option maxHeartbeats 40000000 in
theorem own_rm_grow (l : Launch) (Z : State) (a0 : Array Value) (hw : ∀ d ∈ tables_1, d.before a0 Z = true) (ws : List Jvm.Cond) (r : Addr) (mc : Int32) (dflt : Addr) (kd : ClassId) (h0 : Heap) (n0 : Nat) (Z0 : n0 ≤ h0.size) (O0 : Old Z n0 h0) (S_es : Sta Z Z.heap "java/util/ArrayList" "DEFAULTCAPACITY_EMPTY_ELEMENTDATA" "[Ljava/lang/Object;" (.ref dflt)) (V_es : Arv Z Z.heap dflt kd (.object "java/lang/Object") (0 : Int32) [] .null) (E1 : Exa Z h0 r "java/util/ArrayList") (F1 : Fld Z h0 r "java/util/AbstractList" "modCount" "I" (.int mc)) (F2 : Fld Z h0 r "java/util/ArrayList" "elementData" "[Ljava/lang/Object;" (.ref dflt)) (F3 : Fld Z h0 r "java/util/ArrayList" "size" "I" (.int (0 : Int32))) (g1 : n0 ≤ r) :
    MetFree l (⟨"java/util/ArrayList", "grow", "()[Ljava/lang/Object;"⟩ : MethodName) (head1 (Jvm.Cond.code (⟨"java/util/ArrayList", "grow", "()[Ljava/lang/Object;"⟩ : MethodName) jdk_38_method_7_code 1 (some (.array (.object "java/lang/Object"))) :: ws) ({ frames := 2, cells := 1, slots := 10, locals := 29 } : Room)) (fun aQ UQ => aQ = #[(.ref r)] ∧ Z.Warmed39 UQ.vm ∧ UQ.heap = h0) (fun _ _ _ _ _ => True) (fun _ UQ oQ U2 => ∃ vQ LQ, oQ = .returned vQ ∧ own_rm_grow_Q Z r mc dflt kd h0 n0 vQ U2.heap LQ ∧ FrameEnd UQ oQ U2 LQ ({ frames := 2, cells := 1, slots := 10, locals := 29 } : Room).cells ({ frames := 2, cells := 1, slots := 10, locals := 29 } : Room).slots) := by
  refine MetFree.of_bodySF own_pn8 hisR ?_
  intro p e s m args below meth c s₁ Bd hml0 hP hK
  obtain ⟨rfl, hZ, hh⟩ := hP
  have hx := Bd.exec
  have hby := Bd.bytes
  have hml : c.maxLocals = 1 := hml0
  have hlk := BodyLoose.notSynchronized Bd
  have hown : s.vm.findClass "java/util/ArrayList" = some m.cls := findClass_of_methodNamed Bd.named
  have hnm := (name_of_methodNamed Bd.named Bd.method).1
  have X0 : Stand p l e ({ frames := 2, cells := 1, slots := 10, locals := 29 } : Room) s m #[(.ref r)] below meth c s₁ [] 0 0 := Stand.of_body Bd
  have e0 : s₁.heap = h0 := by rw [← hh, Bd.state]; rfl
  have N0 := Fr.nil n0
  have Kp0 : Keep h0 h0 [r] := Keep.refl _ _
  show own_Go p e below s (own_rm_grow_Q Z r mc dflt kd h0 n0) ({ frames := 2, cells := 1, slots := 10, locals := 29 } : Room).cells ({ frames := 2, cells := 1, slots := 10, locals := 29 } : Room).slots (s₁.setTop (entryFrame m #[(.ref r)] 1))
  rw [own_rm_grow_ef]
  show own_Go p e below s _ _ _ (s₁.setTop (mkF m 0 #[.val (.ref r)] []))
  refine own_st (fun _ kQ => XS.aloadN X0.here hx rfl (hb hby own_d_jdk_38_method_7_code_0) rfl rfl kQ) ?_
  show own_Go p e below s _ _ _ (s₁.setTop (mkF m 1 #[.val (.ref r)] [(.ref r)]))
  refine own_st (fun _ kQ => XS.aloadN X0.here hx rfl (hb hby own_d_jdk_38_method_7_code_1) rfl rfl kQ) ?_
  show own_Go p e below s _ _ _ (s₁.setTop (mkF m 2 #[.val (.ref r)] [(.ref r), (.ref r)]))
  obtain ⟨T108, X108, e108, st108⟩ := getF X0 hx hZ hown (host := "") (Or.inl (hw _ (List.mem_of_getElem? (i := 41) rfl))) Via.refl e0 F3 (g := (mkF m 2 #[.val (.ref r)] [(.ref r), (.ref r)])) rfl rfl (hb hby own_d_jdk_38_method_7_code_2)
  refine own_st st108 ?_
  show own_Go p e below s _ _ _ (T108.setTop (mkF m 5 #[.val (.ref r)] [(.int (0 : Int32)), (.ref r)]))
  refine own_st (fun _ kQ => XT.iconstV X108.here hx rfl (1 : Int32) (hb hby own_d_jdk_38_method_7_code_5) (by decide) kQ) ?_
  show own_Go p e below s _ _ _ (T108.setTop (mkF m 6 #[.val (.ref r)] [(.int (1 : Int32)), (.int (0 : Int32)), (.ref r)]))
  refine own_st (fun _ kQ => XS.iadd X108.here hx rfl (hb hby own_d_jdk_38_method_7_code_6) rfl kQ) ?_
  show own_Go p e below s _ _ _ (T108.setTop (mkF m 7 #[.val (.ref r)] [(.int (1 : Int32)), (.ref r)]))
  obtain ⟨cq109, q109, q109'⟩ := E1.cell
  obtain ⟨_, _, ⟨T109, L109, k109, n109⟩, -, X109, ⟨Lc109, hQ109, l109, y109, z109⟩, st109⟩ := X108.privateBack hx (y := (⟨"java/util/ArrayList", "grow", "(I)[Ljava/lang/Object;"⟩ : MethodName)) hown (mvT hZ (hw _ (List.mem_of_getElem? (i := 53) rfl))) (mvT hZ (hw _ (List.mem_of_getElem? (i := 54) rfl))) (mvT hZ (hw _ (List.mem_of_getElem? (i := 56) rfl))) (Cond.privateMethod_at (mvP hZ (hw _ (List.mem_of_getElem? (i := 55) rfl)) (args := #[]))) (mvT hZ (hw _ (List.mem_of_getElem? (i := 57) rfl))) (by decide) (backOf (W := 0) (own_rm_growI l Z a0 hw [] r mc dflt kd h0 n0 Z0 O0 S_es V_es E1 F1 F2 F3 g1) hZ (hw _ (List.mem_of_getElem? (i := 57) rfl)) (hw _ (List.mem_of_getElem? (i := 3) rfl)) (by decide) (by decide)) (g := (mkF m 7 #[.val (.ref r)] [(.int (1 : Int32)), (.ref r)])) rfl (by rw [hml]; rfl) (Steps.refl _) (a := r) (own_hp e108 q109) q109' (argsL := [(.int (1 : Int32))]) (rest := []) (lenOf own_pd3 rfl) rfl (by show 2 * 0 + _ ≤ _; exact Nat.le_of_eq rfl) (hb hby own_d_jdk_38_method_7_code_7) (fun _ _ => ⟨rfl, e108, (by decide : 0 + 1 ≤ _), (by decide : 0 + 10 ≤ _)⟩)
  dsimp only [Pt.U, Pt.locs, Pt.cells, Pt.slots] at X109 l109 y109 z109 st109 hQ109
  subst l109 y109 z109
  obtain ⟨x110, x111, N109q, rfl, K109, q112, q113, q114, q115, q116, q117, q118, q119⟩ := hQ109
  have N120 := Fr.app N0 N109q
  refine own_tr st109 ?_
  have lt121 : r < T109.heap.size := Nat.lt_of_lt_of_le F3.lt K109.1
  have Zs122 : n0 ≤ T109.heap.size := Nat.le_trans Z0 K109.1
  have Kp123 : Keep h0 T109.heap [r] := Kp0.trans K109 (allS (Or.inl (List.mem_of_getElem? (i := 0) rfl)) all0)
  have ne124 : r ≠ x110 := Nat.ne_of_lt (Nat.lt_of_lt_of_le F3.lt q112)
  have g125 : n0 ≤ x110 := Nat.le_trans Z0 q112
  have sz126 : h0.size ≤ x110 := Nat.le_trans Kp0.1 q112
  show own_Go p e below s _ _ _ (T109.setTop (mkF m 10 #[.val (.ref r)] [(.ref x110)]))
  refine own_retA X109 hx hlk Bd.returns rfl (hb hby own_d_jdk_38_method_7_code_10) (by decide) (by decide) ?_
  skip
  exact ⟨x110, x111, N120, rfl, Kp123, sz126, q113, q114, q115, q116, q117, q118, q119⟩
theorem own_d_jdk_38_method_24_code_0 : decode jdk_38_method_24_code 0 = .ok (.iload_n 3, 1) := by decide +kernel
theorem own_d_jdk_38_method_24_code_1 : decode jdk_38_method_24_code 1 = .ok (.aload_n 2, 1) := by decide +kernel
theorem own_d_jdk_38_method_24_code_2 : decode jdk_38_method_24_code 2 = .ok (.arraylength, 1) := by decide +kernel
theorem own_d_jdk_38_method_24_code_3 : decode jdk_38_method_24_code 3 = .ok (.if_icmp .ne 8, 3) := by decide +kernel
theorem own_d_jdk_38_method_24_code_6 : decode jdk_38_method_24_code 6 = .ok (.aload_n 0, 1) := by decide +kernel
theorem own_d_jdk_38_method_24_code_7 : decode jdk_38_method_24_code 7 = .ok (.invokevirtual 129, 3) := by decide +kernel
theorem own_d_jdk_38_method_24_code_10 : decode jdk_38_method_24_code 10 = .ok (.astore_n 2, 1) := by decide +kernel
theorem own_d_jdk_38_method_24_code_11 : decode jdk_38_method_24_code 11 = .ok (.aload_n 2, 1) := by decide +kernel
theorem own_d_jdk_38_method_24_code_12 : decode jdk_38_method_24_code 12 = .ok (.iload_n 3, 1) := by decide +kernel
theorem own_d_jdk_38_method_24_code_13 : decode jdk_38_method_24_code 13 = .ok (.aload_n 1, 1) := by decide +kernel
theorem own_d_jdk_38_method_24_code_14 : decode jdk_38_method_24_code 14 = .ok (.aastore, 1) := by decide +kernel
theorem own_d_jdk_38_method_24_code_15 : decode jdk_38_method_24_code 15 = .ok (.aload_n 0, 1) := by decide +kernel
theorem own_d_jdk_38_method_24_code_16 : decode jdk_38_method_24_code 16 = .ok (.iload_n 3, 1) := by decide +kernel
theorem own_d_jdk_38_method_24_code_17 : decode jdk_38_method_24_code 17 = .ok (.iconst 1, 1) := by decide +kernel
theorem own_d_jdk_38_method_24_code_18 : decode jdk_38_method_24_code 18 = .ok (.iadd, 1) := by decide +kernel
theorem own_d_jdk_38_method_24_code_19 : decode jdk_38_method_24_code 19 = .ok (.putfield 48, 3) := by decide +kernel
theorem own_d_jdk_38_method_24_code_22 : decode jdk_38_method_24_code 22 = .ok (.return_, 1) := by decide +kernel
theorem own_pn9 : plainFor (⟨"java/util/ArrayList", "add", "(Ljava/lang/Object;[Ljava/lang/Object;I)V"⟩ : MethodName) = true := by decide +kernel
theorem own_pd4 : parseMethodDescriptor "()[Ljava/lang/Object;" = some ⟨[], some (.array (.object "java/lang/Object"))⟩ := by decide +kernel
def own_rm_add3_0_Q (Z : State) (r : Addr) (el : Addr) (mc : Int32) (dflt : Addr) (kd : ClassId) (h0 : Heap) (n0 : Nat) (v : Option Value) (h : Heap) (L : List Loc) : Prop := ∃ arr : Addr, ∃ kk : ClassId, Fr n0 L ∧ v = none ∧ Keep h0 h [r] ∧ h0.size ≤ arr ∧ Exa Z h r "java/util/ArrayList" ∧ Fld Z h r "java/util/AbstractList" "modCount" "I" (.int mc) ∧ Fld Z h r "java/util/ArrayList" "elementData" "[Ljava/lang/Object;" (.ref arr) ∧ Fld Z h r "java/util/ArrayList" "size" "I" (.int (1 : Int32)) ∧ Exa Z h arr "[Ljava/lang/Object;" ∧ Arv Z h arr kk (.object "java/lang/Object") (10 : Int32) [(.ref el), .null, .null, .null, .null, .null, .null, .null, .null, .null] .null ∧ Ovr Z kk "java/lang/Object"
theorem own_rm_add3_0_ef (m : MethodId) (r : Addr) (el : Addr) (dflt : Addr)  : entryFrame m #[(.ref r), (.ref el), (.ref dflt), (.int (0 : Int32))] 4 = mkF m 0 #[.val (.ref r), .val (.ref el), .val (.ref dflt), .val (.int (0 : Int32))] [] := by first | (simp [entryFrame, mkF, argsToLocals, Value.category]; done) | rfl
set_option maxRecDepth 65536 in
set_option maxHeartbeats 40000000 in
theorem own_rm_add3_0 (l : Launch) (Z : State) (a0 : Array Value) (hw : ∀ d ∈ tables_1, d.before a0 Z = true) (ws : List Jvm.Cond) (r : Addr) (el : Addr) (mc : Int32) (dflt : Addr) (kd : ClassId) (h0 : Heap) (n0 : Nat) (Z0 : n0 ≤ h0.size) (O0 : Old Z n0 h0) (S_es : Sta Z Z.heap "java/util/ArrayList" "DEFAULTCAPACITY_EMPTY_ELEMENTDATA" "[Ljava/lang/Object;" (.ref dflt)) (V_es : Arv Z Z.heap dflt kd (.object "java/lang/Object") (0 : Int32) [] .null) (E1 : Exa Z h0 r "java/util/ArrayList") (F1 : Fld Z h0 r "java/util/AbstractList" "modCount" "I" (.int mc)) (F2 : Fld Z h0 r "java/util/ArrayList" "elementData" "[Ljava/lang/Object;" (.ref dflt)) (F3 : Fld Z h0 r "java/util/ArrayList" "size" "I" (.int (0 : Int32))) (g1 : n0 ≤ r) (E2 : Exa Z h0 el "java/lang/Integer") :
    MetFree l (⟨"java/util/ArrayList", "add", "(Ljava/lang/Object;[Ljava/lang/Object;I)V"⟩ : MethodName) (head1 (Jvm.Cond.code (⟨"java/util/ArrayList", "add", "(Ljava/lang/Object;[Ljava/lang/Object;I)V"⟩ : MethodName) jdk_38_method_24_code 4 none :: ws) ({ frames := 3, cells := 1, slots := 10, locals := 41 } : Room)) (fun aQ UQ => aQ = #[(.ref r), (.ref el), (.ref dflt), (.int (0 : Int32))] ∧ Z.Warmed39 UQ.vm ∧ UQ.heap = h0) (fun _ _ _ _ _ => True) (fun _ UQ oQ U2 => ∃ vQ LQ, oQ = .returned vQ ∧ own_rm_add3_0_Q Z r el mc dflt kd h0 n0 vQ U2.heap LQ ∧ FrameEnd UQ oQ U2 LQ ({ frames := 3, cells := 1, slots := 10, locals := 41 } : Room).cells ({ frames := 3, cells := 1, slots := 10, locals := 41 } : Room).slots) := by
  refine MetFree.of_bodySF own_pn9 hisR ?_
  intro p e s m args below meth c s₁ Bd hml0 hP hK
  obtain ⟨rfl, hZ, hh⟩ := hP
  have hx := Bd.exec
  have hby := Bd.bytes
  have hml : c.maxLocals = 4 := hml0
  have hlk := BodyLoose.notSynchronized Bd
  have hown : s.vm.findClass "java/util/ArrayList" = some m.cls := findClass_of_methodNamed Bd.named
  have hnm := (name_of_methodNamed Bd.named Bd.method).1
  have X0 : Stand p l e ({ frames := 3, cells := 1, slots := 10, locals := 41 } : Room) s m #[(.ref r), (.ref el), (.ref dflt), (.int (0 : Int32))] below meth c s₁ [] 0 0 := Stand.of_body Bd
  have e0 : s₁.heap = h0 := by rw [← hh, Bd.state]; rfl
  have N0 := Fr.nil n0
  have Kp0 : Keep h0 h0 [r] := Keep.refl _ _
  show own_Go p e below s (own_rm_add3_0_Q Z r el mc dflt kd h0 n0) ({ frames := 3, cells := 1, slots := 10, locals := 41 } : Room).cells ({ frames := 3, cells := 1, slots := 10, locals := 41 } : Room).slots (s₁.setTop (entryFrame m #[(.ref r), (.ref el), (.ref dflt), (.int (0 : Int32))] 4))
  rw [own_rm_add3_0_ef]
  show own_Go p e below s _ _ _ (s₁.setTop (mkF m 0 #[.val (.ref r), .val (.ref el), .val (.ref dflt), .val (.int (0 : Int32))] []))
  refine own_st (fun _ kQ => XS.iloadN X0.here hx rfl (hb hby own_d_jdk_38_method_24_code_0) rfl kQ) ?_
  show own_Go p e below s _ _ _ (s₁.setTop (mkF m 1 #[.val (.ref r), .val (.ref el), .val (.ref dflt), .val (.int (0 : Int32))] [(.int (0 : Int32))]))
  refine own_st (fun _ kQ => XS.aloadN X0.here hx rfl (hb hby own_d_jdk_38_method_24_code_1) rfl rfl kQ) ?_
  show own_Go p e below s _ _ _ (s₁.setTop (mkF m 2 #[.val (.ref r), .val (.ref el), .val (.ref dflt), .val (.int (0 : Int32))] [(.ref dflt), (.int (0 : Int32))]))
  have F128 : Arv Z h0 dflt kd (.object "java/lang/Object") (0 : Int32) [] .null := V_es.ext O0.2
  obtain ⟨cl127, Ar127, -, S127, N127, -, -⟩ := id F128
  refine own_st (fun _ kQ => X0.arraylength hx (own_hp e0 Ar127.1) (State.isArrayOf_alike hZ.alike Ar127.2.1) (g := (mkF m 2 #[.val (.ref r), .val (.ref el), .val (.ref dflt), .val (.int (0 : Int32))] [(.ref dflt), (.int (0 : Int32))])) rfl rfl (hb hby own_d_jdk_38_method_24_code_2) _ kQ) ?_
  rw [len_of S127 N127]
  show own_Go p e below s _ _ _ (s₁.setTop (mkF m 3 #[.val (.ref r), .val (.ref el), .val (.ref dflt), .val (.int (0 : Int32))] [(.int (0 : Int32)), (.int (0 : Int32))]))
  refine own_st (fun _ kQ => XS.icmpNo X0.here hx rfl (hb hby own_d_jdk_38_method_24_code_3) rfl (XT.ii_ne_f rfl) kQ) ?_
  show own_Go p e below s _ _ _ (s₁.setTop (mkF m 6 #[.val (.ref r), .val (.ref el), .val (.ref dflt), .val (.int (0 : Int32))] []))
  refine own_st (fun _ kQ => XS.aloadN X0.here hx rfl (hb hby own_d_jdk_38_method_24_code_6) rfl rfl kQ) ?_
  show own_Go p e below s _ _ _ (s₁.setTop (mkF m 7 #[.val (.ref r), .val (.ref el), .val (.ref dflt), .val (.int (0 : Int32))] [(.ref r)]))
  obtain ⟨cq129, q129, q129'⟩ := E1.cell
  obtain ⟨_, _, ⟨T129, L129, k129, n129⟩, -, X129, ⟨Lc129, hQ129, l129, y129, z129⟩, st129⟩ := X0.privateBack hx (y := (⟨"java/util/ArrayList", "grow", "()[Ljava/lang/Object;"⟩ : MethodName)) hown (mvT hZ (hw _ (List.mem_of_getElem? (i := 48) rfl))) (mvT hZ (hw _ (List.mem_of_getElem? (i := 49) rfl))) (mvT hZ (hw _ (List.mem_of_getElem? (i := 51) rfl))) (Cond.privateMethod_at (mvP hZ (hw _ (List.mem_of_getElem? (i := 50) rfl)) (args := #[]))) (mvT hZ (hw _ (List.mem_of_getElem? (i := 52) rfl))) (by decide) (backOf (W := 0) (own_rm_grow l Z a0 hw [] r mc dflt kd h0 n0 Z0 O0 S_es V_es E1 F1 F2 F3 g1) hZ (hw _ (List.mem_of_getElem? (i := 52) rfl)) (hw _ (List.mem_of_getElem? (i := 3) rfl)) (by decide) (by decide)) (g := (mkF m 7 #[.val (.ref r), .val (.ref el), .val (.ref dflt), .val (.int (0 : Int32))] [(.ref r)])) rfl (by rw [hml]; rfl) (Steps.refl _) (a := r) (own_hp e0 q129) q129' (argsL := []) (rest := []) (lenOf own_pd4 rfl) rfl (by show 2 * 0 + _ ≤ _; exact Nat.le_of_eq rfl) (hb hby own_d_jdk_38_method_24_code_7) (fun _ _ => ⟨rfl, e0, (by decide : 0 + 1 ≤ _), (by decide : 0 + 10 ≤ _)⟩)
  dsimp only [Pt.U, Pt.locs, Pt.cells, Pt.slots] at X129 l129 y129 z129 st129 hQ129
  subst l129 y129 z129
  obtain ⟨x130, x131, N129q, rfl, K129, q132, q133, q134, q135, q136, q137, q138, q139⟩ := hQ129
  have N140 := Fr.app N0 N129q
  refine own_tr st129 ?_
  have lt141 : r < T129.heap.size := Nat.lt_of_lt_of_le F3.lt K129.1
  have lt142 : el < T129.heap.size := Nat.lt_of_lt_of_le E2.lt K129.1
  have Zs143 : n0 ≤ T129.heap.size := Nat.le_trans Z0 K129.1
  have Kp144 : Keep h0 T129.heap [r] := Kp0.trans K129 (allS (Or.inl (List.mem_of_getElem? (i := 0) rfl)) all0)
  have ne145 : r ≠ x130 := Nat.ne_of_lt (Nat.lt_of_lt_of_le F3.lt q132)
  have ne146 : el ≠ x130 := Nat.ne_of_lt (Nat.lt_of_lt_of_le E2.lt q132)
  have g147 : n0 ≤ x130 := Nat.le_trans Z0 q132
  have sz148 : h0.size ≤ x130 := Nat.le_trans Kp0.1 q132
  show own_Go p e below s _ _ _ (T129.setTop (mkF m 10 #[.val (.ref r), .val (.ref el), .val (.ref dflt), .val (.int (0 : Int32))] [(.ref x130)]))
  refine own_st (fun _ kQ => XS.astoreN X129.here hx rfl (hb hby own_d_jdk_38_method_24_code_10) rfl rfl (l' := #[.val (.ref r), .val (.ref el), .val (.ref x130), .val (.int (0 : Int32))]) rfl kQ) ?_
  show own_Go p e below s _ _ _ (T129.setTop (mkF m 11 #[.val (.ref r), .val (.ref el), .val (.ref x130), .val (.int (0 : Int32))] []))
  refine own_st (fun _ kQ => XS.aloadN X129.here hx rfl (hb hby own_d_jdk_38_method_24_code_11) rfl rfl kQ) ?_
  show own_Go p e below s _ _ _ (T129.setTop (mkF m 12 #[.val (.ref r), .val (.ref el), .val (.ref x130), .val (.int (0 : Int32))] [(.ref x130)]))
  refine own_st (fun _ kQ => XS.iloadN X129.here hx rfl (hb hby own_d_jdk_38_method_24_code_12) rfl kQ) ?_
  show own_Go p e below s _ _ _ (T129.setTop (mkF m 13 #[.val (.ref r), .val (.ref el), .val (.ref x130), .val (.int (0 : Int32))] [(.int (0 : Int32)), (.ref x130)]))
  refine own_st (fun _ kQ => XS.aloadN X129.here hx rfl (hb hby own_d_jdk_38_method_24_code_13) rfl rfl kQ) ?_
  show own_Go p e below s _ _ _ (T129.setTop (mkF m 14 #[.val (.ref r), .val (.ref el), .val (.ref x130), .val (.int (0 : Int32))] [(.ref el), (.int (0 : Int32)), (.ref x130)]))
  obtain ⟨cl149, Ar149, kc149, S149, Nn149, H149, G149⟩ := id q138
  have hin149 : ¬ ((0 : Int32) < 0 ∨ cl149.slots.size ≤ ((0 : Int32) : Int32).toNatClampNeg) := inb_of S149 (by decide)
  have F150 : Exa Z T129.heap el "java/lang/Integer" := (E2.keep K129)
  obtain ⟨T149, h149, X149, e149, W149, st149⟩ := stR X129 hx hZ rfl Ar149 (j := (0 : Int32)) hin149 rfl (Sto.ofV Ar149 kc149 q139 (Ins.of_exa F150 (hw _ (List.mem_of_getElem? (i := 64) rfl)))) (g := (mkF m 14 #[.val (.ref r), .val (.ref el), .val (.ref x130), .val (.int (0 : Int32))] [(.ref el), (.int (0 : Int32)), (.ref x130)])) rfl rfl (hb hby own_d_jdk_38_method_24_code_14)
  refine own_st st149 ?_
  have N151 := Fr.snoc X149 N140 g147
  have F152 : Arv Z h149 x130 x131 (.object "java/lang/Object") (10 : Int32) [(.ref el), .null, .null, .null, .null, .null, .null, .null, .null, .null] .null := Arv.set Ar149 kc149 S149 Nn149 H149 G149 rfl W149 0 (by decide) (Nat.le_of_ble_eq_true rfl)
  have lt153 : r < h149.size := Nat.lt_of_lt_of_le q136.lt (Nat.le_of_eq W149.size.symm)
  have lt154 : el < h149.size := Nat.lt_of_lt_of_le lt142 (Nat.le_of_eq W149.size.symm)
  have lt155 : x130 < h149.size := Nat.lt_of_lt_of_le q138.lt (Nat.le_of_eq W149.size.symm)
  have Zs156 : n0 ≤ h149.size := Nat.le_trans Zs143 (Nat.le_of_eq W149.size.symm)
  have Kp157 : Keep h0 h149 [r] := Kp144.wr W149 (Or.inr sz148)
  show own_Go p e below s _ _ _ (T149.setTop (mkF m 15 #[.val (.ref r), .val (.ref el), .val (.ref x130), .val (.int (0 : Int32))] []))
  refine own_st (fun _ kQ => XS.aloadN X149.here hx rfl (hb hby own_d_jdk_38_method_24_code_15) rfl rfl kQ) ?_
  show own_Go p e below s _ _ _ (T149.setTop (mkF m 16 #[.val (.ref r), .val (.ref el), .val (.ref x130), .val (.int (0 : Int32))] [(.ref r)]))
  refine own_st (fun _ kQ => XS.iloadN X149.here hx rfl (hb hby own_d_jdk_38_method_24_code_16) rfl kQ) ?_
  show own_Go p e below s _ _ _ (T149.setTop (mkF m 17 #[.val (.ref r), .val (.ref el), .val (.ref x130), .val (.int (0 : Int32))] [(.int (0 : Int32)), (.ref r)]))
  refine own_st (fun _ kQ => XT.iconstV X149.here hx rfl (1 : Int32) (hb hby own_d_jdk_38_method_24_code_17) (by decide) kQ) ?_
  show own_Go p e below s _ _ _ (T149.setTop (mkF m 18 #[.val (.ref r), .val (.ref el), .val (.ref x130), .val (.int (0 : Int32))] [(.int (1 : Int32)), (.int (0 : Int32)), (.ref r)]))
  refine own_st (fun _ kQ => XS.iadd X149.here hx rfl (hb hby own_d_jdk_38_method_24_code_18) rfl kQ) ?_
  show own_Go p e below s _ _ _ (T149.setTop (mkF m 19 #[.val (.ref r), .val (.ref el), .val (.ref x130), .val (.int (0 : Int32))] [(.int (1 : Int32)), (.ref r)]))
  have F158 : Fld Z h149 r "java/util/ArrayList" "size" "I" (.int (0 : Int32)) := (q136.other W149 (Or.inl ne145))
  have F159 : Exa Z h149 r "java/util/ArrayList" := (q133.wr W149)
  obtain ⟨T160, h160, X160, e160, W160, st160⟩ := putF X149 hx hZ hown (host := "") (Or.inl (hw _ (List.mem_of_getElem? (i := 41) rfl))) Via.refl e149 F158 F159 (Or.inl (hw _ (List.mem_of_getElem? (i := 42) rfl))) (hw _ (List.mem_of_getElem? (i := 2) rfl)) (ty := .int) (by decide) rfl rfl (g := (mkF m 19 #[.val (.ref r), .val (.ref el), .val (.ref x130), .val (.int (0 : Int32))] [(.int (1 : Int32)), (.ref r)])) rfl rfl (hb hby own_d_jdk_38_method_24_code_19)
  refine own_st st160 ?_
  have N161 := Fr.snoc X160 N151 g1
  have F162 : Fld Z h160 r "java/util/ArrayList" "size" "I" (.int (1 : Int32)) := F158.same W160
  have lt163 : r < h160.size := Nat.lt_of_lt_of_le lt153 (Nat.le_of_eq W160.size.symm)
  have lt164 : el < h160.size := Nat.lt_of_lt_of_le lt154 (Nat.le_of_eq W160.size.symm)
  have lt165 : x130 < h160.size := Nat.lt_of_lt_of_le lt155 (Nat.le_of_eq W160.size.symm)
  have Zs166 : n0 ≤ h160.size := Nat.le_trans Zs156 (Nat.le_of_eq W160.size.symm)
  have Kp167 : Keep h0 h160 [r] := Kp157.wr W160 (Or.inl (List.mem_of_getElem? (i := 0) rfl))
  show own_Go p e below s _ _ _ (T160.setTop (mkF m 22 #[.val (.ref r), .val (.ref el), .val (.ref x130), .val (.int (0 : Int32))] []))
  have F168 : Fld Z h160 r "java/util/ArrayList" "elementData" "[Ljava/lang/Object;" (.ref x130) := ((q135.other W149 (Or.inl ne145)).other W160 (Or.inr (slot_ne (Or.inl (hw _ (List.mem_of_getElem? (i := 26) rfl))) (Or.inl (hw _ (List.mem_of_getElem? (i := 42) rfl))) (by decide) (t := (.array (.object "java/lang/Object"))) (t' := .int) (by decide) (by decide))))
  have F169 : Arv Z h160 x130 x131 (.object "java/lang/Object") (10 : Int32) [(.ref el), .null, .null, .null, .null, .null, .null, .null, .null, .null] .null := (F152.other W160 ne145.symm)
  have F170 : Exa Z h160 r "java/util/ArrayList" := (F159.wr W160)
  have F171 : Fld Z h160 r "java/util/AbstractList" "modCount" "I" (.int mc) := ((q134.other W149 (Or.inl ne145)).other W160 (Or.inr (slot_ne (Or.inl (hw _ (List.mem_of_getElem? (i := 23) rfl))) (Or.inl (hw _ (List.mem_of_getElem? (i := 42) rfl))) (by decide) (t := .int) (t' := .int) (by decide) (by decide))))
  have F172 : Exa Z h160 x130 "[Ljava/lang/Object;" := ((q137.wr W149).wr W160)
  refine own_ret0 X160 hx hlk Bd.returns (hb hby own_d_jdk_38_method_24_code_22) (by decide) (by decide) ?_
  rw [e160]
  exact ⟨x130, x131, N161, rfl, Kp167, sz148, F170, F171, F168, F162, F172, F169, q139⟩
theorem own_d_jdk_38_method_25_code_0 : decode jdk_38_method_25_code 0 = .ok (.aload_n 0, 1) := by decide +kernel
theorem own_d_jdk_38_method_25_code_1 : decode jdk_38_method_25_code 1 = .ok (.dup, 1) := by decide +kernel
theorem own_d_jdk_38_method_25_code_2 : decode jdk_38_method_25_code 2 = .ok (.getfield 63, 3) := by decide +kernel
theorem own_d_jdk_38_method_25_code_5 : decode jdk_38_method_25_code 5 = .ok (.iconst 1, 1) := by decide +kernel
theorem own_d_jdk_38_method_25_code_6 : decode jdk_38_method_25_code 6 = .ok (.iadd, 1) := by decide +kernel
theorem own_d_jdk_38_method_25_code_7 : decode jdk_38_method_25_code 7 = .ok (.putfield 63, 3) := by decide +kernel
theorem own_d_jdk_38_method_25_code_10 : decode jdk_38_method_25_code 10 = .ok (.aload_n 0, 1) := by decide +kernel
theorem own_d_jdk_38_method_25_code_11 : decode jdk_38_method_25_code 11 = .ok (.aload_n 1, 1) := by decide +kernel
theorem own_d_jdk_38_method_25_code_12 : decode jdk_38_method_25_code 12 = .ok (.aload_n 0, 1) := by decide +kernel
theorem own_d_jdk_38_method_25_code_13 : decode jdk_38_method_25_code 13 = .ok (.getfield 9, 3) := by decide +kernel
theorem own_d_jdk_38_method_25_code_16 : decode jdk_38_method_25_code 16 = .ok (.aload_n 0, 1) := by decide +kernel
theorem own_d_jdk_38_method_25_code_17 : decode jdk_38_method_25_code 17 = .ok (.getfield 48, 3) := by decide +kernel
theorem own_d_jdk_38_method_25_code_20 : decode jdk_38_method_25_code 20 = .ok (.invokevirtual 131, 3) := by decide +kernel
theorem own_d_jdk_38_method_25_code_23 : decode jdk_38_method_25_code 23 = .ok (.iconst 1, 1) := by decide +kernel
theorem own_d_jdk_38_method_25_code_24 : decode jdk_38_method_25_code 24 = .ok (.ireturn, 1) := by decide +kernel
theorem own_pn10 : plainFor (⟨"java/util/ArrayList", "add", "(Ljava/lang/Object;)Z"⟩ : MethodName) = true := by decide +kernel
theorem own_pd5 : parseMethodDescriptor "(Ljava/lang/Object;[Ljava/lang/Object;I)V" = some ⟨[(.object "java/lang/Object"), (.array (.object "java/lang/Object")), .int], none⟩ := by decide +kernel
def own_rm_add1_0_Q (Z : State) (r : Addr) (el : Addr) (mc : Int32) (dflt : Addr) (kd : ClassId) (h0 : Heap) (n0 : Nat) (v : Option Value) (h : Heap) (L : List Loc) : Prop := ∃ arr : Addr, ∃ kk : ClassId, Fr n0 L ∧ v = some (.int (1 : Int32)) ∧ Keep h0 h [r] ∧ h0.size ≤ arr ∧ Exa Z h r "java/util/ArrayList" ∧ Fld Z h r "java/util/AbstractList" "modCount" "I" (.int (mc + (1 : Int32))) ∧ Fld Z h r "java/util/ArrayList" "elementData" "[Ljava/lang/Object;" (.ref arr) ∧ Fld Z h r "java/util/ArrayList" "size" "I" (.int (1 : Int32)) ∧ Exa Z h arr "[Ljava/lang/Object;" ∧ Arv Z h arr kk (.object "java/lang/Object") (10 : Int32) [(.ref el), .null, .null, .null, .null, .null, .null, .null, .null, .null] .null ∧ Ovr Z kk "java/lang/Object"
theorem own_rm_add1_0_ef (m : MethodId) (r : Addr) (el : Addr)  : entryFrame m #[(.ref r), (.ref el)] 2 = mkF m 0 #[.val (.ref r), .val (.ref el)] [] := by first | (simp [entryFrame, mkF, argsToLocals, Value.category]; done) | rfl
set_option maxRecDepth 65536 in
set_option maxHeartbeats 40000000 in
theorem own_rm_add1_0 (l : Launch) (Z : State) (a0 : Array Value) (hw : ∀ d ∈ tables_1, d.before a0 Z = true) (ws : List Jvm.Cond) (r : Addr) (el : Addr) (mc : Int32) (dflt : Addr) (kd : ClassId) (h0 : Heap) (n0 : Nat) (Z0 : n0 ≤ h0.size) (O0 : Old Z n0 h0) (S_es : Sta Z Z.heap "java/util/ArrayList" "DEFAULTCAPACITY_EMPTY_ELEMENTDATA" "[Ljava/lang/Object;" (.ref dflt)) (V_es : Arv Z Z.heap dflt kd (.object "java/lang/Object") (0 : Int32) [] .null) (E1 : Exa Z h0 r "java/util/ArrayList") (F1 : Fld Z h0 r "java/util/AbstractList" "modCount" "I" (.int mc)) (F2 : Fld Z h0 r "java/util/ArrayList" "elementData" "[Ljava/lang/Object;" (.ref dflt)) (F3 : Fld Z h0 r "java/util/ArrayList" "size" "I" (.int (0 : Int32))) (g1 : n0 ≤ r) (E2 : Exa Z h0 el "java/lang/Integer") :
    MetFree l (⟨"java/util/ArrayList", "add", "(Ljava/lang/Object;)Z"⟩ : MethodName) (head1 (Jvm.Cond.code (⟨"java/util/ArrayList", "add", "(Ljava/lang/Object;)Z"⟩ : MethodName) jdk_38_method_25_code 2 (some .boolean) :: ws) ({ frames := 4, cells := 1, slots := 10, locals := 56 } : Room)) (fun aQ UQ => aQ = #[(.ref r), (.ref el)] ∧ Z.Warmed39 UQ.vm ∧ UQ.heap = h0) (fun _ _ _ _ _ => True) (fun _ UQ oQ U2 => ∃ vQ LQ, oQ = .returned vQ ∧ own_rm_add1_0_Q Z r el mc dflt kd h0 n0 vQ U2.heap LQ ∧ FrameEnd UQ oQ U2 LQ ({ frames := 4, cells := 1, slots := 10, locals := 56 } : Room).cells ({ frames := 4, cells := 1, slots := 10, locals := 56 } : Room).slots) := by
  refine MetFree.of_bodySF own_pn10 hisR ?_
  intro p e s m args below meth c s₁ Bd hml0 hP hK
  obtain ⟨rfl, hZ, hh⟩ := hP
  have hx := Bd.exec
  have hby := Bd.bytes
  have hml : c.maxLocals = 2 := hml0
  have hlk := BodyLoose.notSynchronized Bd
  have hown : s.vm.findClass "java/util/ArrayList" = some m.cls := findClass_of_methodNamed Bd.named
  have hnm := (name_of_methodNamed Bd.named Bd.method).1
  have X0 : Stand p l e ({ frames := 4, cells := 1, slots := 10, locals := 56 } : Room) s m #[(.ref r), (.ref el)] below meth c s₁ [] 0 0 := Stand.of_body Bd
  have e0 : s₁.heap = h0 := by rw [← hh, Bd.state]; rfl
  have N0 := Fr.nil n0
  have Kp0 : Keep h0 h0 [r] := Keep.refl _ _
  show own_Go p e below s (own_rm_add1_0_Q Z r el mc dflt kd h0 n0) ({ frames := 4, cells := 1, slots := 10, locals := 56 } : Room).cells ({ frames := 4, cells := 1, slots := 10, locals := 56 } : Room).slots (s₁.setTop (entryFrame m #[(.ref r), (.ref el)] 2))
  rw [own_rm_add1_0_ef]
  show own_Go p e below s _ _ _ (s₁.setTop (mkF m 0 #[.val (.ref r), .val (.ref el)] []))
  refine own_st (fun _ kQ => XS.aloadN X0.here hx rfl (hb hby own_d_jdk_38_method_25_code_0) rfl rfl kQ) ?_
  show own_Go p e below s _ _ _ (s₁.setTop (mkF m 1 #[.val (.ref r), .val (.ref el)] [(.ref r)]))
  refine own_st (fun _ kQ => XS.dup X0.here hx rfl (hb hby own_d_jdk_38_method_25_code_1) rfl rfl kQ) ?_
  show own_Go p e below s _ _ _ (s₁.setTop (mkF m 2 #[.val (.ref r), .val (.ref el)] [(.ref r), (.ref r)]))
  obtain ⟨T173, X173, e173, st173⟩ := getF X0 hx hZ hown (host := "") (Or.inl (hw _ (List.mem_of_getElem? (i := 39) rfl))) (Via.of (hw _ (List.mem_of_getElem? (i := 40) rfl))) e0 F1 (g := (mkF m 2 #[.val (.ref r), .val (.ref el)] [(.ref r), (.ref r)])) rfl rfl (hb hby own_d_jdk_38_method_25_code_2)
  refine own_st st173 ?_
  show own_Go p e below s _ _ _ (T173.setTop (mkF m 5 #[.val (.ref r), .val (.ref el)] [(.int mc), (.ref r)]))
  refine own_st (fun _ kQ => XT.iconstV X173.here hx rfl (1 : Int32) (hb hby own_d_jdk_38_method_25_code_5) (by decide) kQ) ?_
  show own_Go p e below s _ _ _ (T173.setTop (mkF m 6 #[.val (.ref r), .val (.ref el)] [(.int (1 : Int32)), (.int mc), (.ref r)]))
  refine own_st (fun _ kQ => XS.iadd X173.here hx rfl (hb hby own_d_jdk_38_method_25_code_6) rfl kQ) ?_
  show own_Go p e below s _ _ _ (T173.setTop (mkF m 7 #[.val (.ref r), .val (.ref el)] [(.int (mc + (1 : Int32))), (.ref r)]))
  obtain ⟨T174, h174, X174, e174, W174, st174⟩ := putF X173 hx hZ hown (host := "") (Or.inl (hw _ (List.mem_of_getElem? (i := 39) rfl))) (Via.of (hw _ (List.mem_of_getElem? (i := 40) rfl))) e173 F1 E1 (Or.inl (hw _ (List.mem_of_getElem? (i := 23) rfl))) (hw _ (List.mem_of_getElem? (i := 2) rfl)) (ty := .int) (by decide) rfl rfl (g := (mkF m 7 #[.val (.ref r), .val (.ref el)] [(.int (mc + (1 : Int32))), (.ref r)])) rfl rfl (hb hby own_d_jdk_38_method_25_code_7)
  refine own_st st174 ?_
  have N175 := Fr.snoc X174 N0 g1
  have F176 : Fld Z h174 r "java/util/AbstractList" "modCount" "I" (.int (mc + (1 : Int32))) := F1.same W174
  have lt177 : r < h174.size := Nat.lt_of_lt_of_le F3.lt (Nat.le_of_eq W174.size.symm)
  have lt178 : el < h174.size := Nat.lt_of_lt_of_le E2.lt (Nat.le_of_eq W174.size.symm)
  have Zs179 : n0 ≤ h174.size := Nat.le_trans Z0 (Nat.le_of_eq W174.size.symm)
  have Kp180 : Keep h0 h174 [r] := Kp0.wr W174 (Or.inl (List.mem_of_getElem? (i := 0) rfl))
  show own_Go p e below s _ _ _ (T174.setTop (mkF m 10 #[.val (.ref r), .val (.ref el)] []))
  refine own_st (fun _ kQ => XS.aloadN X174.here hx rfl (hb hby own_d_jdk_38_method_25_code_10) rfl rfl kQ) ?_
  show own_Go p e below s _ _ _ (T174.setTop (mkF m 11 #[.val (.ref r), .val (.ref el)] [(.ref r)]))
  refine own_st (fun _ kQ => XS.aloadN X174.here hx rfl (hb hby own_d_jdk_38_method_25_code_11) rfl rfl kQ) ?_
  show own_Go p e below s _ _ _ (T174.setTop (mkF m 12 #[.val (.ref r), .val (.ref el)] [(.ref el), (.ref r)]))
  refine own_st (fun _ kQ => XS.aloadN X174.here hx rfl (hb hby own_d_jdk_38_method_25_code_12) rfl rfl kQ) ?_
  show own_Go p e below s _ _ _ (T174.setTop (mkF m 13 #[.val (.ref r), .val (.ref el)] [(.ref r), (.ref el), (.ref r)]))
  have F181 : Fld Z h174 r "java/util/ArrayList" "elementData" "[Ljava/lang/Object;" (.ref dflt) := (F2.other W174 (Or.inr (slot_ne (Or.inl (hw _ (List.mem_of_getElem? (i := 26) rfl))) (Or.inl (hw _ (List.mem_of_getElem? (i := 23) rfl))) (by decide) (t := (.array (.object "java/lang/Object"))) (t' := .int) (by decide) (by decide))))
  obtain ⟨T182, X182, e182, st182⟩ := getF X174 hx hZ hown (host := "") (Or.inl (hw _ (List.mem_of_getElem? (i := 25) rfl))) Via.refl e174 F181 (g := (mkF m 13 #[.val (.ref r), .val (.ref el)] [(.ref r), (.ref el), (.ref r)])) rfl rfl (hb hby own_d_jdk_38_method_25_code_13)
  refine own_st st182 ?_
  show own_Go p e below s _ _ _ (T182.setTop (mkF m 16 #[.val (.ref r), .val (.ref el)] [(.ref dflt), (.ref el), (.ref r)]))
  refine own_st (fun _ kQ => XS.aloadN X182.here hx rfl (hb hby own_d_jdk_38_method_25_code_16) rfl rfl kQ) ?_
  show own_Go p e below s _ _ _ (T182.setTop (mkF m 17 #[.val (.ref r), .val (.ref el)] [(.ref r), (.ref dflt), (.ref el), (.ref r)]))
  have F183 : Fld Z h174 r "java/util/ArrayList" "size" "I" (.int (0 : Int32)) := (F3.other W174 (Or.inr (slot_ne (Or.inl (hw _ (List.mem_of_getElem? (i := 42) rfl))) (Or.inl (hw _ (List.mem_of_getElem? (i := 23) rfl))) (by decide) (t := .int) (t' := .int) (by decide) (by decide))))
  obtain ⟨T184, X184, e184, st184⟩ := getF X182 hx hZ hown (host := "") (Or.inl (hw _ (List.mem_of_getElem? (i := 41) rfl))) Via.refl e182 F183 (g := (mkF m 17 #[.val (.ref r), .val (.ref el)] [(.ref r), (.ref dflt), (.ref el), (.ref r)])) rfl rfl (hb hby own_d_jdk_38_method_25_code_17)
  refine own_st st184 ?_
  show own_Go p e below s _ _ _ (T184.setTop (mkF m 20 #[.val (.ref r), .val (.ref el)] [(.int (0 : Int32)), (.ref dflt), (.ref el), (.ref r)]))
  have F186 : Exa Z h174 r "java/util/ArrayList" := (E1.wr W174)
  have F187 : Exa Z h174 el "java/lang/Integer" := (E2.wr W174)
  have O188 : Old Z n0 h174 := (O0.wr W174 g1)
  obtain ⟨cq185, q185, q185'⟩ := F186.cell
  obtain ⟨_, _, ⟨T185, L185, k185, n185⟩, -, X185, ⟨Lc185, hQ185, l185, y185, z185⟩, st185⟩ := X184.privateBack hx (y := (⟨"java/util/ArrayList", "add", "(Ljava/lang/Object;[Ljava/lang/Object;I)V"⟩ : MethodName)) hown (mvT hZ (hw _ (List.mem_of_getElem? (i := 43) rfl))) (mvT hZ (hw _ (List.mem_of_getElem? (i := 44) rfl))) (mvT hZ (hw _ (List.mem_of_getElem? (i := 46) rfl))) (Cond.privateMethod_at (mvP hZ (hw _ (List.mem_of_getElem? (i := 45) rfl)) (args := #[]))) (mvT hZ (hw _ (List.mem_of_getElem? (i := 47) rfl))) (by decide) (backOf (W := 0) (own_rm_add3_0 l Z a0 hw [] r el (mc + (1 : Int32)) dflt kd h174 n0 Zs179 O188 S_es V_es F186 F176 F181 F183 g1 F187) hZ (hw _ (List.mem_of_getElem? (i := 47) rfl)) (hw _ (List.mem_of_getElem? (i := 3) rfl)) (by decide) (by decide)) (g := (mkF m 20 #[.val (.ref r), .val (.ref el)] [(.int (0 : Int32)), (.ref dflt), (.ref el), (.ref r)])) rfl (by rw [hml]; rfl) (Steps.refl _) (a := r) (own_hp e184 q185) q185' (argsL := [(.ref el), (.ref dflt), (.int (0 : Int32))]) (rest := []) (lenOf own_pd5 rfl) rfl (by show 2 * 0 + _ ≤ _; exact Nat.le_of_eq rfl) (hb hby own_d_jdk_38_method_25_code_20) (fun _ _ => ⟨rfl, e184, (by decide : 0 + 1 ≤ _), (by decide : 0 + 10 ≤ _)⟩)
  dsimp only [Pt.U, Pt.locs, Pt.cells, Pt.slots] at X185 l185 y185 z185 st185 hQ185
  subst l185 y185 z185
  obtain ⟨x189, x190, N185q, rfl, K185, q191, q192, q193, q194, q195, q196, q197, q198⟩ := hQ185
  have N199 := Fr.app N175 N185q
  refine own_tr st185 ?_
  have lt200 : r < T185.heap.size := Nat.lt_of_lt_of_le lt177 K185.1
  have lt201 : el < T185.heap.size := Nat.lt_of_lt_of_le lt178 K185.1
  have Zs202 : n0 ≤ T185.heap.size := Nat.le_trans Zs179 K185.1
  have Kp203 : Keep h0 T185.heap [r] := Kp180.trans K185 (allS (Or.inl (List.mem_of_getElem? (i := 0) rfl)) all0)
  have ne204 : r ≠ x189 := Nat.ne_of_lt (Nat.lt_of_lt_of_le lt177 q191)
  have ne205 : el ≠ x189 := Nat.ne_of_lt (Nat.lt_of_lt_of_le lt178 q191)
  have g206 : n0 ≤ x189 := Nat.le_trans Zs179 q191
  have sz207 : h0.size ≤ x189 := Nat.le_trans Kp180.1 q191
  show own_Go p e below s _ _ _ (T185.setTop (mkF m 23 #[.val (.ref r), .val (.ref el)] []))
  refine own_st (fun _ kQ => XT.iconstV X185.here hx rfl (1 : Int32) (hb hby own_d_jdk_38_method_25_code_23) (by decide) kQ) ?_
  show own_Go p e below s _ _ _ (T185.setTop (mkF m 24 #[.val (.ref r), .val (.ref el)] [(.int (1 : Int32))]))
  refine own_retN X185 hx hlk Bd.returns (t := .boolean) (z' := (1 : Int32)) (by simp) (by decide) (hb hby own_d_jdk_38_method_25_code_24) (by decide) (by decide) ?_
  skip
  exact ⟨x189, x190, N199, rfl, Kp203, sz207, q192, q193, q194, q195, q196, q197, q198⟩
def own_rm_add3_1_Q (Z : State) (r : Addr) (el : Addr) (arr : Addr) (kk : ClassId) (mc : Int32) (v0 : Addr) (h0 : Heap) (n0 : Nat) (v : Option Value) (h : Heap) (L : List Loc) : Prop := Fr n0 L ∧ v = none ∧ Keep h0 h [r, arr] ∧ Exa Z h r "java/util/ArrayList" ∧ Fld Z h r "java/util/AbstractList" "modCount" "I" (.int mc) ∧ Fld Z h r "java/util/ArrayList" "elementData" "[Ljava/lang/Object;" (.ref arr) ∧ Fld Z h r "java/util/ArrayList" "size" "I" (.int (2 : Int32)) ∧ Arv Z h arr kk (.object "java/lang/Object") (10 : Int32) [(.ref v0), (.ref el), .null, .null, .null, .null, .null, .null, .null, .null] .null
theorem own_rm_add3_1_ef (m : MethodId) (r : Addr) (el : Addr) (arr : Addr)  : entryFrame m #[(.ref r), (.ref el), (.ref arr), (.int (1 : Int32))] 4 = mkF m 0 #[.val (.ref r), .val (.ref el), .val (.ref arr), .val (.int (1 : Int32))] [] := by first | (simp [entryFrame, mkF, argsToLocals, Value.category]; done) | rfl
set_option maxRecDepth 65536 in
set_option maxHeartbeats 40000000 in
theorem own_rm_add3_1 (l : Launch) (Z : State) (a0 : Array Value) (hw : ∀ d ∈ tables_1, d.before a0 Z = true) (ws : List Jvm.Cond) (r : Addr) (el : Addr) (arr : Addr) (kk : ClassId) (mc : Int32) (v0 : Addr) (h0 : Heap) (n0 : Nat) (Z0 : n0 ≤ h0.size) (E1 : Exa Z h0 r "java/util/ArrayList") (F1 : Fld Z h0 r "java/util/AbstractList" "modCount" "I" (.int mc)) (F2 : Fld Z h0 r "java/util/ArrayList" "elementData" "[Ljava/lang/Object;" (.ref arr)) (F3 : Fld Z h0 r "java/util/ArrayList" "size" "I" (.int (1 : Int32))) (V1 : Arv Z h0 arr kk (.object "java/lang/Object") (10 : Int32) [(.ref v0), .null, .null, .null, .null, .null, .null, .null, .null, .null] .null) (ov : Ovr Z kk "java/lang/Object") (g1 : n0 ≤ r) (g2 : n0 ≤ arr) (n1 : r ≠ arr) (E2 : Exa Z h0 el "java/lang/Integer") :
    MetFree l (⟨"java/util/ArrayList", "add", "(Ljava/lang/Object;[Ljava/lang/Object;I)V"⟩ : MethodName) (head1 (Jvm.Cond.code (⟨"java/util/ArrayList", "add", "(Ljava/lang/Object;[Ljava/lang/Object;I)V"⟩ : MethodName) jdk_38_method_24_code 4 none :: ws) ({ frames := 0, cells := 0, slots := 0, locals := 0 } : Room)) (fun aQ UQ => aQ = #[(.ref r), (.ref el), (.ref arr), (.int (1 : Int32))] ∧ Z.Warmed39 UQ.vm ∧ UQ.heap = h0) (fun _ _ _ _ _ => True) (fun _ UQ oQ U2 => ∃ vQ LQ, oQ = .returned vQ ∧ own_rm_add3_1_Q Z r el arr kk mc v0 h0 n0 vQ U2.heap LQ ∧ FrameEnd UQ oQ U2 LQ ({ frames := 0, cells := 0, slots := 0, locals := 0 } : Room).cells ({ frames := 0, cells := 0, slots := 0, locals := 0 } : Room).slots) := by
  refine MetFree.of_bodySF own_pn9 hisR ?_
  intro p e s m args below meth c s₁ Bd hml0 hP hK
  obtain ⟨rfl, hZ, hh⟩ := hP
  have hx := Bd.exec
  have hby := Bd.bytes
  have hml : c.maxLocals = 4 := hml0
  have hlk := BodyLoose.notSynchronized Bd
  have hown : s.vm.findClass "java/util/ArrayList" = some m.cls := findClass_of_methodNamed Bd.named
  have hnm := (name_of_methodNamed Bd.named Bd.method).1
  have X0 : Stand p l e ({ frames := 0, cells := 0, slots := 0, locals := 0 } : Room) s m #[(.ref r), (.ref el), (.ref arr), (.int (1 : Int32))] below meth c s₁ [] 0 0 := Stand.of_body Bd
  have e0 : s₁.heap = h0 := by rw [← hh, Bd.state]; rfl
  have N0 := Fr.nil n0
  have Kp0 : Keep h0 h0 [r, arr] := Keep.refl _ _
  show own_Go p e below s (own_rm_add3_1_Q Z r el arr kk mc v0 h0 n0) ({ frames := 0, cells := 0, slots := 0, locals := 0 } : Room).cells ({ frames := 0, cells := 0, slots := 0, locals := 0 } : Room).slots (s₁.setTop (entryFrame m #[(.ref r), (.ref el), (.ref arr), (.int (1 : Int32))] 4))
  rw [own_rm_add3_1_ef]
  show own_Go p e below s _ _ _ (s₁.setTop (mkF m 0 #[.val (.ref r), .val (.ref el), .val (.ref arr), .val (.int (1 : Int32))] []))
  refine own_st (fun _ kQ => XS.iloadN X0.here hx rfl (hb hby own_d_jdk_38_method_24_code_0) rfl kQ) ?_
  show own_Go p e below s _ _ _ (s₁.setTop (mkF m 1 #[.val (.ref r), .val (.ref el), .val (.ref arr), .val (.int (1 : Int32))] [(.int (1 : Int32))]))
  refine own_st (fun _ kQ => XS.aloadN X0.here hx rfl (hb hby own_d_jdk_38_method_24_code_1) rfl rfl kQ) ?_
  show own_Go p e below s _ _ _ (s₁.setTop (mkF m 2 #[.val (.ref r), .val (.ref el), .val (.ref arr), .val (.int (1 : Int32))] [(.ref arr), (.int (1 : Int32))]))
  obtain ⟨cl208, Ar208, -, S208, N208, -, -⟩ := id V1
  refine own_st (fun _ kQ => X0.arraylength hx (own_hp e0 Ar208.1) (State.isArrayOf_alike hZ.alike Ar208.2.1) (g := (mkF m 2 #[.val (.ref r), .val (.ref el), .val (.ref arr), .val (.int (1 : Int32))] [(.ref arr), (.int (1 : Int32))])) rfl rfl (hb hby own_d_jdk_38_method_24_code_2) _ kQ) ?_
  rw [len_of S208 N208]
  show own_Go p e below s _ _ _ (s₁.setTop (mkF m 3 #[.val (.ref r), .val (.ref el), .val (.ref arr), .val (.int (1 : Int32))] [(.int (10 : Int32)), (.int (1 : Int32))]))
  refine own_st (fun _ kQ => XS.icmpYes X0.here hx rfl (pc0 := 3) (pc' := 11) rfl (hb hby own_d_jdk_38_method_24_code_3) rfl (XT.ii_ne_t (by decide)) (by decide) (by decide) kQ) ?_
  show own_Go p e below s _ _ _ (s₁.setTop (mkF m 11 #[.val (.ref r), .val (.ref el), .val (.ref arr), .val (.int (1 : Int32))] []))
  refine own_st (fun _ kQ => XS.aloadN X0.here hx rfl (hb hby own_d_jdk_38_method_24_code_11) rfl rfl kQ) ?_
  show own_Go p e below s _ _ _ (s₁.setTop (mkF m 12 #[.val (.ref r), .val (.ref el), .val (.ref arr), .val (.int (1 : Int32))] [(.ref arr)]))
  refine own_st (fun _ kQ => XS.iloadN X0.here hx rfl (hb hby own_d_jdk_38_method_24_code_12) rfl kQ) ?_
  show own_Go p e below s _ _ _ (s₁.setTop (mkF m 13 #[.val (.ref r), .val (.ref el), .val (.ref arr), .val (.int (1 : Int32))] [(.int (1 : Int32)), (.ref arr)]))
  refine own_st (fun _ kQ => XS.aloadN X0.here hx rfl (hb hby own_d_jdk_38_method_24_code_13) rfl rfl kQ) ?_
  show own_Go p e below s _ _ _ (s₁.setTop (mkF m 14 #[.val (.ref r), .val (.ref el), .val (.ref arr), .val (.int (1 : Int32))] [(.ref el), (.int (1 : Int32)), (.ref arr)]))
  obtain ⟨cl209, Ar209, kc209, S209, Nn209, H209, G209⟩ := id V1
  have hin209 : ¬ ((1 : Int32) < 0 ∨ cl209.slots.size ≤ ((1 : Int32) : Int32).toNatClampNeg) := inb_of S209 (by decide)
  obtain ⟨T209, h209, X209, e209, W209, st209⟩ := stR X0 hx hZ e0 Ar209 (j := (1 : Int32)) hin209 rfl (Sto.ofV Ar209 kc209 ov (Ins.of_exa E2 (hw _ (List.mem_of_getElem? (i := 64) rfl)))) (g := (mkF m 14 #[.val (.ref r), .val (.ref el), .val (.ref arr), .val (.int (1 : Int32))] [(.ref el), (.int (1 : Int32)), (.ref arr)])) rfl rfl (hb hby own_d_jdk_38_method_24_code_14)
  refine own_st st209 ?_
  have N210 := Fr.snoc X209 N0 g2
  have F211 : Arv Z h209 arr kk (.object "java/lang/Object") (10 : Int32) [(.ref v0), (.ref el), .null, .null, .null, .null, .null, .null, .null, .null] .null := Arv.set Ar209 kc209 S209 Nn209 H209 G209 rfl W209 1 (by decide) (Nat.le_of_ble_eq_true rfl)
  have lt212 : r < h209.size := Nat.lt_of_lt_of_le F3.lt (Nat.le_of_eq W209.size.symm)
  have lt213 : arr < h209.size := Nat.lt_of_lt_of_le V1.lt (Nat.le_of_eq W209.size.symm)
  have lt214 : el < h209.size := Nat.lt_of_lt_of_le E2.lt (Nat.le_of_eq W209.size.symm)
  have Zs215 : n0 ≤ h209.size := Nat.le_trans Z0 (Nat.le_of_eq W209.size.symm)
  have Kp216 : Keep h0 h209 [r, arr] := Kp0.wr W209 (Or.inl (List.mem_of_getElem? (i := 1) rfl))
  show own_Go p e below s _ _ _ (T209.setTop (mkF m 15 #[.val (.ref r), .val (.ref el), .val (.ref arr), .val (.int (1 : Int32))] []))
  refine own_st (fun _ kQ => XS.aloadN X209.here hx rfl (hb hby own_d_jdk_38_method_24_code_15) rfl rfl kQ) ?_
  show own_Go p e below s _ _ _ (T209.setTop (mkF m 16 #[.val (.ref r), .val (.ref el), .val (.ref arr), .val (.int (1 : Int32))] [(.ref r)]))
  refine own_st (fun _ kQ => XS.iloadN X209.here hx rfl (hb hby own_d_jdk_38_method_24_code_16) rfl kQ) ?_
  show own_Go p e below s _ _ _ (T209.setTop (mkF m 17 #[.val (.ref r), .val (.ref el), .val (.ref arr), .val (.int (1 : Int32))] [(.int (1 : Int32)), (.ref r)]))
  refine own_st (fun _ kQ => XT.iconstV X209.here hx rfl (1 : Int32) (hb hby own_d_jdk_38_method_24_code_17) (by decide) kQ) ?_
  show own_Go p e below s _ _ _ (T209.setTop (mkF m 18 #[.val (.ref r), .val (.ref el), .val (.ref arr), .val (.int (1 : Int32))] [(.int (1 : Int32)), (.int (1 : Int32)), (.ref r)]))
  refine own_st (fun _ kQ => XS.iadd X209.here hx rfl (hb hby own_d_jdk_38_method_24_code_18) rfl kQ) ?_
  show own_Go p e below s _ _ _ (T209.setTop (mkF m 19 #[.val (.ref r), .val (.ref el), .val (.ref arr), .val (.int (1 : Int32))] [(.int (2 : Int32)), (.ref r)]))
  have F217 : Fld Z h209 r "java/util/ArrayList" "size" "I" (.int (1 : Int32)) := (F3.other W209 (Or.inl n1))
  have F218 : Exa Z h209 r "java/util/ArrayList" := (E1.wr W209)
  obtain ⟨T219, h219, X219, e219, W219, st219⟩ := putF X209 hx hZ hown (host := "") (Or.inl (hw _ (List.mem_of_getElem? (i := 41) rfl))) Via.refl e209 F217 F218 (Or.inl (hw _ (List.mem_of_getElem? (i := 42) rfl))) (hw _ (List.mem_of_getElem? (i := 2) rfl)) (ty := .int) (by decide) rfl rfl (g := (mkF m 19 #[.val (.ref r), .val (.ref el), .val (.ref arr), .val (.int (1 : Int32))] [(.int (2 : Int32)), (.ref r)])) rfl rfl (hb hby own_d_jdk_38_method_24_code_19)
  refine own_st st219 ?_
  have N220 := Fr.snoc X219 N210 g1
  have F221 : Fld Z h219 r "java/util/ArrayList" "size" "I" (.int (2 : Int32)) := F217.same W219
  have lt222 : r < h219.size := Nat.lt_of_lt_of_le lt212 (Nat.le_of_eq W219.size.symm)
  have lt223 : arr < h219.size := Nat.lt_of_lt_of_le lt213 (Nat.le_of_eq W219.size.symm)
  have lt224 : el < h219.size := Nat.lt_of_lt_of_le lt214 (Nat.le_of_eq W219.size.symm)
  have Zs225 : n0 ≤ h219.size := Nat.le_trans Zs215 (Nat.le_of_eq W219.size.symm)
  have Kp226 : Keep h0 h219 [r, arr] := Kp216.wr W219 (Or.inl (List.mem_of_getElem? (i := 0) rfl))
  show own_Go p e below s _ _ _ (T219.setTop (mkF m 22 #[.val (.ref r), .val (.ref el), .val (.ref arr), .val (.int (1 : Int32))] []))
  have F227 : Exa Z h219 r "java/util/ArrayList" := (F218.wr W219)
  have F228 : Fld Z h219 r "java/util/AbstractList" "modCount" "I" (.int mc) := ((F1.other W209 (Or.inl n1)).other W219 (Or.inr (slot_ne (Or.inl (hw _ (List.mem_of_getElem? (i := 23) rfl))) (Or.inl (hw _ (List.mem_of_getElem? (i := 42) rfl))) (by decide) (t := .int) (t' := .int) (by decide) (by decide))))
  have F229 : Fld Z h219 r "java/util/ArrayList" "elementData" "[Ljava/lang/Object;" (.ref arr) := ((F2.other W209 (Or.inl n1)).other W219 (Or.inr (slot_ne (Or.inl (hw _ (List.mem_of_getElem? (i := 26) rfl))) (Or.inl (hw _ (List.mem_of_getElem? (i := 42) rfl))) (by decide) (t := (.array (.object "java/lang/Object"))) (t' := .int) (by decide) (by decide))))
  have F230 : Arv Z h219 arr kk (.object "java/lang/Object") (10 : Int32) [(.ref v0), (.ref el), .null, .null, .null, .null, .null, .null, .null, .null] .null := (F211.other W219 n1.symm)
  refine own_ret0 X219 hx hlk Bd.returns (hb hby own_d_jdk_38_method_24_code_22) (by decide) (by decide) ?_
  rw [e219]
  exact ⟨N220, rfl, Kp226, F227, F228, F229, F221, F230⟩
def own_rm_add1_1_Q (Z : State) (r : Addr) (el : Addr) (arr : Addr) (kk : ClassId) (mc : Int32) (v0 : Addr) (h0 : Heap) (n0 : Nat) (v : Option Value) (h : Heap) (L : List Loc) : Prop := Fr n0 L ∧ v = some (.int (1 : Int32)) ∧ Keep h0 h [r, arr] ∧ Exa Z h r "java/util/ArrayList" ∧ Fld Z h r "java/util/AbstractList" "modCount" "I" (.int (mc + (1 : Int32))) ∧ Fld Z h r "java/util/ArrayList" "elementData" "[Ljava/lang/Object;" (.ref arr) ∧ Fld Z h r "java/util/ArrayList" "size" "I" (.int (2 : Int32)) ∧ Arv Z h arr kk (.object "java/lang/Object") (10 : Int32) [(.ref v0), (.ref el), .null, .null, .null, .null, .null, .null, .null, .null] .null
theorem own_rm_add1_1_ef (m : MethodId) (r : Addr) (el : Addr)  : entryFrame m #[(.ref r), (.ref el)] 2 = mkF m 0 #[.val (.ref r), .val (.ref el)] [] := by first | (simp [entryFrame, mkF, argsToLocals, Value.category]; done) | rfl
set_option maxRecDepth 65536 in
set_option maxHeartbeats 40000000 in
theorem own_rm_add1_1 (l : Launch) (Z : State) (a0 : Array Value) (hw : ∀ d ∈ tables_1, d.before a0 Z = true) (ws : List Jvm.Cond) (r : Addr) (el : Addr) (arr : Addr) (kk : ClassId) (mc : Int32) (v0 : Addr) (h0 : Heap) (n0 : Nat) (Z0 : n0 ≤ h0.size) (E1 : Exa Z h0 r "java/util/ArrayList") (F1 : Fld Z h0 r "java/util/AbstractList" "modCount" "I" (.int mc)) (F2 : Fld Z h0 r "java/util/ArrayList" "elementData" "[Ljava/lang/Object;" (.ref arr)) (F3 : Fld Z h0 r "java/util/ArrayList" "size" "I" (.int (1 : Int32))) (V1 : Arv Z h0 arr kk (.object "java/lang/Object") (10 : Int32) [(.ref v0), .null, .null, .null, .null, .null, .null, .null, .null, .null] .null) (ov : Ovr Z kk "java/lang/Object") (g1 : n0 ≤ r) (g2 : n0 ≤ arr) (n1 : r ≠ arr) (E2 : Exa Z h0 el "java/lang/Integer") :
    MetFree l (⟨"java/util/ArrayList", "add", "(Ljava/lang/Object;)Z"⟩ : MethodName) (head1 (Jvm.Cond.code (⟨"java/util/ArrayList", "add", "(Ljava/lang/Object;)Z"⟩ : MethodName) jdk_38_method_25_code 2 (some .boolean) :: ws) ({ frames := 1, cells := 0, slots := 0, locals := 15 } : Room)) (fun aQ UQ => aQ = #[(.ref r), (.ref el)] ∧ Z.Warmed39 UQ.vm ∧ UQ.heap = h0) (fun _ _ _ _ _ => True) (fun _ UQ oQ U2 => ∃ vQ LQ, oQ = .returned vQ ∧ own_rm_add1_1_Q Z r el arr kk mc v0 h0 n0 vQ U2.heap LQ ∧ FrameEnd UQ oQ U2 LQ ({ frames := 1, cells := 0, slots := 0, locals := 15 } : Room).cells ({ frames := 1, cells := 0, slots := 0, locals := 15 } : Room).slots) := by
  refine MetFree.of_bodySF own_pn10 hisR ?_
  intro p e s m args below meth c s₁ Bd hml0 hP hK
  obtain ⟨rfl, hZ, hh⟩ := hP
  have hx := Bd.exec
  have hby := Bd.bytes
  have hml : c.maxLocals = 2 := hml0
  have hlk := BodyLoose.notSynchronized Bd
  have hown : s.vm.findClass "java/util/ArrayList" = some m.cls := findClass_of_methodNamed Bd.named
  have hnm := (name_of_methodNamed Bd.named Bd.method).1
  have X0 : Stand p l e ({ frames := 1, cells := 0, slots := 0, locals := 15 } : Room) s m #[(.ref r), (.ref el)] below meth c s₁ [] 0 0 := Stand.of_body Bd
  have e0 : s₁.heap = h0 := by rw [← hh, Bd.state]; rfl
  have N0 := Fr.nil n0
  have Kp0 : Keep h0 h0 [r, arr] := Keep.refl _ _
  show own_Go p e below s (own_rm_add1_1_Q Z r el arr kk mc v0 h0 n0) ({ frames := 1, cells := 0, slots := 0, locals := 15 } : Room).cells ({ frames := 1, cells := 0, slots := 0, locals := 15 } : Room).slots (s₁.setTop (entryFrame m #[(.ref r), (.ref el)] 2))
  rw [own_rm_add1_1_ef]
  show own_Go p e below s _ _ _ (s₁.setTop (mkF m 0 #[.val (.ref r), .val (.ref el)] []))
  refine own_st (fun _ kQ => XS.aloadN X0.here hx rfl (hb hby own_d_jdk_38_method_25_code_0) rfl rfl kQ) ?_
  show own_Go p e below s _ _ _ (s₁.setTop (mkF m 1 #[.val (.ref r), .val (.ref el)] [(.ref r)]))
  refine own_st (fun _ kQ => XS.dup X0.here hx rfl (hb hby own_d_jdk_38_method_25_code_1) rfl rfl kQ) ?_
  show own_Go p e below s _ _ _ (s₁.setTop (mkF m 2 #[.val (.ref r), .val (.ref el)] [(.ref r), (.ref r)]))
  obtain ⟨T231, X231, e231, st231⟩ := getF X0 hx hZ hown (host := "") (Or.inl (hw _ (List.mem_of_getElem? (i := 39) rfl))) (Via.of (hw _ (List.mem_of_getElem? (i := 40) rfl))) e0 F1 (g := (mkF m 2 #[.val (.ref r), .val (.ref el)] [(.ref r), (.ref r)])) rfl rfl (hb hby own_d_jdk_38_method_25_code_2)
  refine own_st st231 ?_
  show own_Go p e below s _ _ _ (T231.setTop (mkF m 5 #[.val (.ref r), .val (.ref el)] [(.int mc), (.ref r)]))
  refine own_st (fun _ kQ => XT.iconstV X231.here hx rfl (1 : Int32) (hb hby own_d_jdk_38_method_25_code_5) (by decide) kQ) ?_
  show own_Go p e below s _ _ _ (T231.setTop (mkF m 6 #[.val (.ref r), .val (.ref el)] [(.int (1 : Int32)), (.int mc), (.ref r)]))
  refine own_st (fun _ kQ => XS.iadd X231.here hx rfl (hb hby own_d_jdk_38_method_25_code_6) rfl kQ) ?_
  show own_Go p e below s _ _ _ (T231.setTop (mkF m 7 #[.val (.ref r), .val (.ref el)] [(.int (mc + (1 : Int32))), (.ref r)]))
  obtain ⟨T232, h232, X232, e232, W232, st232⟩ := putF X231 hx hZ hown (host := "") (Or.inl (hw _ (List.mem_of_getElem? (i := 39) rfl))) (Via.of (hw _ (List.mem_of_getElem? (i := 40) rfl))) e231 F1 E1 (Or.inl (hw _ (List.mem_of_getElem? (i := 23) rfl))) (hw _ (List.mem_of_getElem? (i := 2) rfl)) (ty := .int) (by decide) rfl rfl (g := (mkF m 7 #[.val (.ref r), .val (.ref el)] [(.int (mc + (1 : Int32))), (.ref r)])) rfl rfl (hb hby own_d_jdk_38_method_25_code_7)
  refine own_st st232 ?_
  have N233 := Fr.snoc X232 N0 g1
  have F234 : Fld Z h232 r "java/util/AbstractList" "modCount" "I" (.int (mc + (1 : Int32))) := F1.same W232
  have lt235 : r < h232.size := Nat.lt_of_lt_of_le F3.lt (Nat.le_of_eq W232.size.symm)
  have lt236 : arr < h232.size := Nat.lt_of_lt_of_le V1.lt (Nat.le_of_eq W232.size.symm)
  have lt237 : el < h232.size := Nat.lt_of_lt_of_le E2.lt (Nat.le_of_eq W232.size.symm)
  have Zs238 : n0 ≤ h232.size := Nat.le_trans Z0 (Nat.le_of_eq W232.size.symm)
  have Kp239 : Keep h0 h232 [r, arr] := Kp0.wr W232 (Or.inl (List.mem_of_getElem? (i := 0) rfl))
  show own_Go p e below s _ _ _ (T232.setTop (mkF m 10 #[.val (.ref r), .val (.ref el)] []))
  refine own_st (fun _ kQ => XS.aloadN X232.here hx rfl (hb hby own_d_jdk_38_method_25_code_10) rfl rfl kQ) ?_
  show own_Go p e below s _ _ _ (T232.setTop (mkF m 11 #[.val (.ref r), .val (.ref el)] [(.ref r)]))
  refine own_st (fun _ kQ => XS.aloadN X232.here hx rfl (hb hby own_d_jdk_38_method_25_code_11) rfl rfl kQ) ?_
  show own_Go p e below s _ _ _ (T232.setTop (mkF m 12 #[.val (.ref r), .val (.ref el)] [(.ref el), (.ref r)]))
  refine own_st (fun _ kQ => XS.aloadN X232.here hx rfl (hb hby own_d_jdk_38_method_25_code_12) rfl rfl kQ) ?_
  show own_Go p e below s _ _ _ (T232.setTop (mkF m 13 #[.val (.ref r), .val (.ref el)] [(.ref r), (.ref el), (.ref r)]))
  have F240 : Fld Z h232 r "java/util/ArrayList" "elementData" "[Ljava/lang/Object;" (.ref arr) := (F2.other W232 (Or.inr (slot_ne (Or.inl (hw _ (List.mem_of_getElem? (i := 26) rfl))) (Or.inl (hw _ (List.mem_of_getElem? (i := 23) rfl))) (by decide) (t := (.array (.object "java/lang/Object"))) (t' := .int) (by decide) (by decide))))
  obtain ⟨T241, X241, e241, st241⟩ := getF X232 hx hZ hown (host := "") (Or.inl (hw _ (List.mem_of_getElem? (i := 25) rfl))) Via.refl e232 F240 (g := (mkF m 13 #[.val (.ref r), .val (.ref el)] [(.ref r), (.ref el), (.ref r)])) rfl rfl (hb hby own_d_jdk_38_method_25_code_13)
  refine own_st st241 ?_
  show own_Go p e below s _ _ _ (T241.setTop (mkF m 16 #[.val (.ref r), .val (.ref el)] [(.ref arr), (.ref el), (.ref r)]))
  refine own_st (fun _ kQ => XS.aloadN X241.here hx rfl (hb hby own_d_jdk_38_method_25_code_16) rfl rfl kQ) ?_
  show own_Go p e below s _ _ _ (T241.setTop (mkF m 17 #[.val (.ref r), .val (.ref el)] [(.ref r), (.ref arr), (.ref el), (.ref r)]))
  have F242 : Fld Z h232 r "java/util/ArrayList" "size" "I" (.int (1 : Int32)) := (F3.other W232 (Or.inr (slot_ne (Or.inl (hw _ (List.mem_of_getElem? (i := 42) rfl))) (Or.inl (hw _ (List.mem_of_getElem? (i := 23) rfl))) (by decide) (t := .int) (t' := .int) (by decide) (by decide))))
  obtain ⟨T243, X243, e243, st243⟩ := getF X241 hx hZ hown (host := "") (Or.inl (hw _ (List.mem_of_getElem? (i := 41) rfl))) Via.refl e241 F242 (g := (mkF m 17 #[.val (.ref r), .val (.ref el)] [(.ref r), (.ref arr), (.ref el), (.ref r)])) rfl rfl (hb hby own_d_jdk_38_method_25_code_17)
  refine own_st st243 ?_
  show own_Go p e below s _ _ _ (T243.setTop (mkF m 20 #[.val (.ref r), .val (.ref el)] [(.int (1 : Int32)), (.ref arr), (.ref el), (.ref r)]))
  have F245 : Exa Z h232 r "java/util/ArrayList" := (E1.wr W232)
  have F246 : Arv Z h232 arr kk (.object "java/lang/Object") (10 : Int32) [(.ref v0), .null, .null, .null, .null, .null, .null, .null, .null, .null] .null := (V1.other W232 n1.symm)
  have F247 : Exa Z h232 el "java/lang/Integer" := (E2.wr W232)
  obtain ⟨cq244, q244, q244'⟩ := F245.cell
  obtain ⟨_, _, ⟨T244, L244, k244, n244⟩, -, X244, ⟨Lc244, hQ244, l244, y244, z244⟩, st244⟩ := X243.privateBack hx (y := (⟨"java/util/ArrayList", "add", "(Ljava/lang/Object;[Ljava/lang/Object;I)V"⟩ : MethodName)) hown (mvT hZ (hw _ (List.mem_of_getElem? (i := 43) rfl))) (mvT hZ (hw _ (List.mem_of_getElem? (i := 44) rfl))) (mvT hZ (hw _ (List.mem_of_getElem? (i := 46) rfl))) (Cond.privateMethod_at (mvP hZ (hw _ (List.mem_of_getElem? (i := 45) rfl)) (args := #[]))) (mvT hZ (hw _ (List.mem_of_getElem? (i := 47) rfl))) (by decide) (backOf (W := 0) (own_rm_add3_1 l Z a0 hw [] r el arr kk (mc + (1 : Int32)) v0 h232 n0 Zs238 F245 F234 F240 F242 F246 ov g1 g2 n1 F247) hZ (hw _ (List.mem_of_getElem? (i := 47) rfl)) (hw _ (List.mem_of_getElem? (i := 3) rfl)) (by decide) (by decide)) (g := (mkF m 20 #[.val (.ref r), .val (.ref el)] [(.int (1 : Int32)), (.ref arr), (.ref el), (.ref r)])) rfl (by rw [hml]; rfl) (Steps.refl _) (a := r) (own_hp e243 q244) q244' (argsL := [(.ref el), (.ref arr), (.int (1 : Int32))]) (rest := []) (lenOf own_pd5 rfl) rfl (by show 2 * 0 + _ ≤ _; exact Nat.le_of_eq rfl) (hb hby own_d_jdk_38_method_25_code_20) (fun _ _ => ⟨rfl, e243, (by decide : 0 + 0 ≤ _), (by decide : 0 + 0 ≤ _)⟩)
  dsimp only [Pt.U, Pt.locs, Pt.cells, Pt.slots] at X244 l244 y244 z244 st244 hQ244
  subst l244 y244 z244
  obtain ⟨N244q, rfl, K244, q248, q249, q250, q251, q252⟩ := hQ244
  have N253 := Fr.app N233 N244q
  refine own_tr st244 ?_
  have lt254 : r < T244.heap.size := Nat.lt_of_lt_of_le lt235 K244.1
  have lt255 : arr < T244.heap.size := Nat.lt_of_lt_of_le lt236 K244.1
  have lt256 : el < T244.heap.size := Nat.lt_of_lt_of_le lt237 K244.1
  have Zs257 : n0 ≤ T244.heap.size := Nat.le_trans Zs238 K244.1
  have Kp258 : Keep h0 T244.heap [r, arr] := Kp239.trans K244 (allS (Or.inl (List.mem_of_getElem? (i := 0) rfl)) (allS (Or.inl (List.mem_of_getElem? (i := 1) rfl)) all0))
  show own_Go p e below s _ _ _ (T244.setTop (mkF m 23 #[.val (.ref r), .val (.ref el)] []))
  refine own_st (fun _ kQ => XT.iconstV X244.here hx rfl (1 : Int32) (hb hby own_d_jdk_38_method_25_code_23) (by decide) kQ) ?_
  show own_Go p e below s _ _ _ (T244.setTop (mkF m 24 #[.val (.ref r), .val (.ref el)] [(.int (1 : Int32))]))
  refine own_retN X244 hx hlk Bd.returns (t := .boolean) (z' := (1 : Int32)) (by simp) (by decide) (hb hby own_d_jdk_38_method_25_code_24) (by decide) (by decide) ?_
  skip
  exact ⟨N253, rfl, Kp258, q248, q249, q250, q251, q252⟩
def own_rm_add3_2_Q (Z : State) (r : Addr) (el : Addr) (arr : Addr) (kk : ClassId) (mc : Int32) (v0 : Addr) (v1 : Addr) (h0 : Heap) (n0 : Nat) (v : Option Value) (h : Heap) (L : List Loc) : Prop := Fr n0 L ∧ v = none ∧ Keep h0 h [r, arr] ∧ Exa Z h r "java/util/ArrayList" ∧ Fld Z h r "java/util/AbstractList" "modCount" "I" (.int mc) ∧ Fld Z h r "java/util/ArrayList" "elementData" "[Ljava/lang/Object;" (.ref arr) ∧ Fld Z h r "java/util/ArrayList" "size" "I" (.int (3 : Int32)) ∧ Arv Z h arr kk (.object "java/lang/Object") (10 : Int32) [(.ref v0), (.ref v1), (.ref el), .null, .null, .null, .null, .null, .null, .null] .null
theorem own_rm_add3_2_ef (m : MethodId) (r : Addr) (el : Addr) (arr : Addr)  : entryFrame m #[(.ref r), (.ref el), (.ref arr), (.int (2 : Int32))] 4 = mkF m 0 #[.val (.ref r), .val (.ref el), .val (.ref arr), .val (.int (2 : Int32))] [] := by first | (simp [entryFrame, mkF, argsToLocals, Value.category]; done) | rfl
set_option maxRecDepth 65536 in
set_option maxHeartbeats 40000000 in
theorem own_rm_add3_2 (l : Launch) (Z : State) (a0 : Array Value) (hw : ∀ d ∈ tables_1, d.before a0 Z = true) (ws : List Jvm.Cond) (r : Addr) (el : Addr) (arr : Addr) (kk : ClassId) (mc : Int32) (v0 : Addr) (v1 : Addr) (h0 : Heap) (n0 : Nat) (Z0 : n0 ≤ h0.size) (E1 : Exa Z h0 r "java/util/ArrayList") (F1 : Fld Z h0 r "java/util/AbstractList" "modCount" "I" (.int mc)) (F2 : Fld Z h0 r "java/util/ArrayList" "elementData" "[Ljava/lang/Object;" (.ref arr)) (F3 : Fld Z h0 r "java/util/ArrayList" "size" "I" (.int (2 : Int32))) (V1 : Arv Z h0 arr kk (.object "java/lang/Object") (10 : Int32) [(.ref v0), (.ref v1), .null, .null, .null, .null, .null, .null, .null, .null] .null) (ov : Ovr Z kk "java/lang/Object") (g1 : n0 ≤ r) (g2 : n0 ≤ arr) (n1 : r ≠ arr) (E2 : Exa Z h0 el "java/lang/Integer") :
    MetFree l (⟨"java/util/ArrayList", "add", "(Ljava/lang/Object;[Ljava/lang/Object;I)V"⟩ : MethodName) (head1 (Jvm.Cond.code (⟨"java/util/ArrayList", "add", "(Ljava/lang/Object;[Ljava/lang/Object;I)V"⟩ : MethodName) jdk_38_method_24_code 4 none :: ws) ({ frames := 0, cells := 0, slots := 0, locals := 0 } : Room)) (fun aQ UQ => aQ = #[(.ref r), (.ref el), (.ref arr), (.int (2 : Int32))] ∧ Z.Warmed39 UQ.vm ∧ UQ.heap = h0) (fun _ _ _ _ _ => True) (fun _ UQ oQ U2 => ∃ vQ LQ, oQ = .returned vQ ∧ own_rm_add3_2_Q Z r el arr kk mc v0 v1 h0 n0 vQ U2.heap LQ ∧ FrameEnd UQ oQ U2 LQ ({ frames := 0, cells := 0, slots := 0, locals := 0 } : Room).cells ({ frames := 0, cells := 0, slots := 0, locals := 0 } : Room).slots) := by
  refine MetFree.of_bodySF own_pn9 hisR ?_
  intro p e s m args below meth c s₁ Bd hml0 hP hK
  obtain ⟨rfl, hZ, hh⟩ := hP
  have hx := Bd.exec
  have hby := Bd.bytes
  have hml : c.maxLocals = 4 := hml0
  have hlk := BodyLoose.notSynchronized Bd
  have hown : s.vm.findClass "java/util/ArrayList" = some m.cls := findClass_of_methodNamed Bd.named
  have hnm := (name_of_methodNamed Bd.named Bd.method).1
  have X0 : Stand p l e ({ frames := 0, cells := 0, slots := 0, locals := 0 } : Room) s m #[(.ref r), (.ref el), (.ref arr), (.int (2 : Int32))] below meth c s₁ [] 0 0 := Stand.of_body Bd
  have e0 : s₁.heap = h0 := by rw [← hh, Bd.state]; rfl
  have N0 := Fr.nil n0
  have Kp0 : Keep h0 h0 [r, arr] := Keep.refl _ _
  show own_Go p e below s (own_rm_add3_2_Q Z r el arr kk mc v0 v1 h0 n0) ({ frames := 0, cells := 0, slots := 0, locals := 0 } : Room).cells ({ frames := 0, cells := 0, slots := 0, locals := 0 } : Room).slots (s₁.setTop (entryFrame m #[(.ref r), (.ref el), (.ref arr), (.int (2 : Int32))] 4))
  rw [own_rm_add3_2_ef]
  show own_Go p e below s _ _ _ (s₁.setTop (mkF m 0 #[.val (.ref r), .val (.ref el), .val (.ref arr), .val (.int (2 : Int32))] []))
  refine own_st (fun _ kQ => XS.iloadN X0.here hx rfl (hb hby own_d_jdk_38_method_24_code_0) rfl kQ) ?_
  show own_Go p e below s _ _ _ (s₁.setTop (mkF m 1 #[.val (.ref r), .val (.ref el), .val (.ref arr), .val (.int (2 : Int32))] [(.int (2 : Int32))]))
  refine own_st (fun _ kQ => XS.aloadN X0.here hx rfl (hb hby own_d_jdk_38_method_24_code_1) rfl rfl kQ) ?_
  show own_Go p e below s _ _ _ (s₁.setTop (mkF m 2 #[.val (.ref r), .val (.ref el), .val (.ref arr), .val (.int (2 : Int32))] [(.ref arr), (.int (2 : Int32))]))
  obtain ⟨cl259, Ar259, -, S259, N259, -, -⟩ := id V1
  refine own_st (fun _ kQ => X0.arraylength hx (own_hp e0 Ar259.1) (State.isArrayOf_alike hZ.alike Ar259.2.1) (g := (mkF m 2 #[.val (.ref r), .val (.ref el), .val (.ref arr), .val (.int (2 : Int32))] [(.ref arr), (.int (2 : Int32))])) rfl rfl (hb hby own_d_jdk_38_method_24_code_2) _ kQ) ?_
  rw [len_of S259 N259]
  show own_Go p e below s _ _ _ (s₁.setTop (mkF m 3 #[.val (.ref r), .val (.ref el), .val (.ref arr), .val (.int (2 : Int32))] [(.int (10 : Int32)), (.int (2 : Int32))]))
  refine own_st (fun _ kQ => XS.icmpYes X0.here hx rfl (pc0 := 3) (pc' := 11) rfl (hb hby own_d_jdk_38_method_24_code_3) rfl (XT.ii_ne_t (by decide)) (by decide) (by decide) kQ) ?_
  show own_Go p e below s _ _ _ (s₁.setTop (mkF m 11 #[.val (.ref r), .val (.ref el), .val (.ref arr), .val (.int (2 : Int32))] []))
  refine own_st (fun _ kQ => XS.aloadN X0.here hx rfl (hb hby own_d_jdk_38_method_24_code_11) rfl rfl kQ) ?_
  show own_Go p e below s _ _ _ (s₁.setTop (mkF m 12 #[.val (.ref r), .val (.ref el), .val (.ref arr), .val (.int (2 : Int32))] [(.ref arr)]))
  refine own_st (fun _ kQ => XS.iloadN X0.here hx rfl (hb hby own_d_jdk_38_method_24_code_12) rfl kQ) ?_
  show own_Go p e below s _ _ _ (s₁.setTop (mkF m 13 #[.val (.ref r), .val (.ref el), .val (.ref arr), .val (.int (2 : Int32))] [(.int (2 : Int32)), (.ref arr)]))
  refine own_st (fun _ kQ => XS.aloadN X0.here hx rfl (hb hby own_d_jdk_38_method_24_code_13) rfl rfl kQ) ?_
  show own_Go p e below s _ _ _ (s₁.setTop (mkF m 14 #[.val (.ref r), .val (.ref el), .val (.ref arr), .val (.int (2 : Int32))] [(.ref el), (.int (2 : Int32)), (.ref arr)]))
  obtain ⟨cl260, Ar260, kc260, S260, Nn260, H260, G260⟩ := id V1
  have hin260 : ¬ ((2 : Int32) < 0 ∨ cl260.slots.size ≤ ((2 : Int32) : Int32).toNatClampNeg) := inb_of S260 (by decide)
  obtain ⟨T260, h260, X260, e260, W260, st260⟩ := stR X0 hx hZ e0 Ar260 (j := (2 : Int32)) hin260 rfl (Sto.ofV Ar260 kc260 ov (Ins.of_exa E2 (hw _ (List.mem_of_getElem? (i := 64) rfl)))) (g := (mkF m 14 #[.val (.ref r), .val (.ref el), .val (.ref arr), .val (.int (2 : Int32))] [(.ref el), (.int (2 : Int32)), (.ref arr)])) rfl rfl (hb hby own_d_jdk_38_method_24_code_14)
  refine own_st st260 ?_
  have N261 := Fr.snoc X260 N0 g2
  have F262 : Arv Z h260 arr kk (.object "java/lang/Object") (10 : Int32) [(.ref v0), (.ref v1), (.ref el), .null, .null, .null, .null, .null, .null, .null] .null := Arv.set Ar260 kc260 S260 Nn260 H260 G260 rfl W260 2 (by decide) (Nat.le_of_ble_eq_true rfl)
  have lt263 : r < h260.size := Nat.lt_of_lt_of_le F3.lt (Nat.le_of_eq W260.size.symm)
  have lt264 : arr < h260.size := Nat.lt_of_lt_of_le V1.lt (Nat.le_of_eq W260.size.symm)
  have lt265 : el < h260.size := Nat.lt_of_lt_of_le E2.lt (Nat.le_of_eq W260.size.symm)
  have Zs266 : n0 ≤ h260.size := Nat.le_trans Z0 (Nat.le_of_eq W260.size.symm)
  have Kp267 : Keep h0 h260 [r, arr] := Kp0.wr W260 (Or.inl (List.mem_of_getElem? (i := 1) rfl))
  show own_Go p e below s _ _ _ (T260.setTop (mkF m 15 #[.val (.ref r), .val (.ref el), .val (.ref arr), .val (.int (2 : Int32))] []))
  refine own_st (fun _ kQ => XS.aloadN X260.here hx rfl (hb hby own_d_jdk_38_method_24_code_15) rfl rfl kQ) ?_
  show own_Go p e below s _ _ _ (T260.setTop (mkF m 16 #[.val (.ref r), .val (.ref el), .val (.ref arr), .val (.int (2 : Int32))] [(.ref r)]))
  refine own_st (fun _ kQ => XS.iloadN X260.here hx rfl (hb hby own_d_jdk_38_method_24_code_16) rfl kQ) ?_
  show own_Go p e below s _ _ _ (T260.setTop (mkF m 17 #[.val (.ref r), .val (.ref el), .val (.ref arr), .val (.int (2 : Int32))] [(.int (2 : Int32)), (.ref r)]))
  refine own_st (fun _ kQ => XT.iconstV X260.here hx rfl (1 : Int32) (hb hby own_d_jdk_38_method_24_code_17) (by decide) kQ) ?_
  show own_Go p e below s _ _ _ (T260.setTop (mkF m 18 #[.val (.ref r), .val (.ref el), .val (.ref arr), .val (.int (2 : Int32))] [(.int (1 : Int32)), (.int (2 : Int32)), (.ref r)]))
  refine own_st (fun _ kQ => XS.iadd X260.here hx rfl (hb hby own_d_jdk_38_method_24_code_18) rfl kQ) ?_
  show own_Go p e below s _ _ _ (T260.setTop (mkF m 19 #[.val (.ref r), .val (.ref el), .val (.ref arr), .val (.int (2 : Int32))] [(.int (3 : Int32)), (.ref r)]))
  have F268 : Fld Z h260 r "java/util/ArrayList" "size" "I" (.int (2 : Int32)) := (F3.other W260 (Or.inl n1))
  have F269 : Exa Z h260 r "java/util/ArrayList" := (E1.wr W260)
  obtain ⟨T270, h270, X270, e270, W270, st270⟩ := putF X260 hx hZ hown (host := "") (Or.inl (hw _ (List.mem_of_getElem? (i := 41) rfl))) Via.refl e260 F268 F269 (Or.inl (hw _ (List.mem_of_getElem? (i := 42) rfl))) (hw _ (List.mem_of_getElem? (i := 2) rfl)) (ty := .int) (by decide) rfl rfl (g := (mkF m 19 #[.val (.ref r), .val (.ref el), .val (.ref arr), .val (.int (2 : Int32))] [(.int (3 : Int32)), (.ref r)])) rfl rfl (hb hby own_d_jdk_38_method_24_code_19)
  refine own_st st270 ?_
  have N271 := Fr.snoc X270 N261 g1
  have F272 : Fld Z h270 r "java/util/ArrayList" "size" "I" (.int (3 : Int32)) := F268.same W270
  have lt273 : r < h270.size := Nat.lt_of_lt_of_le lt263 (Nat.le_of_eq W270.size.symm)
  have lt274 : arr < h270.size := Nat.lt_of_lt_of_le lt264 (Nat.le_of_eq W270.size.symm)
  have lt275 : el < h270.size := Nat.lt_of_lt_of_le lt265 (Nat.le_of_eq W270.size.symm)
  have Zs276 : n0 ≤ h270.size := Nat.le_trans Zs266 (Nat.le_of_eq W270.size.symm)
  have Kp277 : Keep h0 h270 [r, arr] := Kp267.wr W270 (Or.inl (List.mem_of_getElem? (i := 0) rfl))
  show own_Go p e below s _ _ _ (T270.setTop (mkF m 22 #[.val (.ref r), .val (.ref el), .val (.ref arr), .val (.int (2 : Int32))] []))
  have F278 : Exa Z h270 r "java/util/ArrayList" := (F269.wr W270)
  have F279 : Fld Z h270 r "java/util/AbstractList" "modCount" "I" (.int mc) := ((F1.other W260 (Or.inl n1)).other W270 (Or.inr (slot_ne (Or.inl (hw _ (List.mem_of_getElem? (i := 23) rfl))) (Or.inl (hw _ (List.mem_of_getElem? (i := 42) rfl))) (by decide) (t := .int) (t' := .int) (by decide) (by decide))))
  have F280 : Fld Z h270 r "java/util/ArrayList" "elementData" "[Ljava/lang/Object;" (.ref arr) := ((F2.other W260 (Or.inl n1)).other W270 (Or.inr (slot_ne (Or.inl (hw _ (List.mem_of_getElem? (i := 26) rfl))) (Or.inl (hw _ (List.mem_of_getElem? (i := 42) rfl))) (by decide) (t := (.array (.object "java/lang/Object"))) (t' := .int) (by decide) (by decide))))
  have F281 : Arv Z h270 arr kk (.object "java/lang/Object") (10 : Int32) [(.ref v0), (.ref v1), (.ref el), .null, .null, .null, .null, .null, .null, .null] .null := (F262.other W270 n1.symm)
  refine own_ret0 X270 hx hlk Bd.returns (hb hby own_d_jdk_38_method_24_code_22) (by decide) (by decide) ?_
  rw [e270]
  exact ⟨N271, rfl, Kp277, F278, F279, F280, F272, F281⟩
def own_rm_add1_2_Q (Z : State) (r : Addr) (el : Addr) (arr : Addr) (kk : ClassId) (mc : Int32) (v0 : Addr) (v1 : Addr) (h0 : Heap) (n0 : Nat) (v : Option Value) (h : Heap) (L : List Loc) : Prop := Fr n0 L ∧ v = some (.int (1 : Int32)) ∧ Keep h0 h [r, arr] ∧ Exa Z h r "java/util/ArrayList" ∧ Fld Z h r "java/util/AbstractList" "modCount" "I" (.int (mc + (1 : Int32))) ∧ Fld Z h r "java/util/ArrayList" "elementData" "[Ljava/lang/Object;" (.ref arr) ∧ Fld Z h r "java/util/ArrayList" "size" "I" (.int (3 : Int32)) ∧ Arv Z h arr kk (.object "java/lang/Object") (10 : Int32) [(.ref v0), (.ref v1), (.ref el), .null, .null, .null, .null, .null, .null, .null] .null
theorem own_rm_add1_2_ef (m : MethodId) (r : Addr) (el : Addr)  : entryFrame m #[(.ref r), (.ref el)] 2 = mkF m 0 #[.val (.ref r), .val (.ref el)] [] := by first | (simp [entryFrame, mkF, argsToLocals, Value.category]; done) | rfl
set_option maxRecDepth 65536 in
set_option maxHeartbeats 40000000 in
theorem own_rm_add1_2 (l : Launch) (Z : State) (a0 : Array Value) (hw : ∀ d ∈ tables_1, d.before a0 Z = true) (ws : List Jvm.Cond) (r : Addr) (el : Addr) (arr : Addr) (kk : ClassId) (mc : Int32) (v0 : Addr) (v1 : Addr) (h0 : Heap) (n0 : Nat) (Z0 : n0 ≤ h0.size) (E1 : Exa Z h0 r "java/util/ArrayList") (F1 : Fld Z h0 r "java/util/AbstractList" "modCount" "I" (.int mc)) (F2 : Fld Z h0 r "java/util/ArrayList" "elementData" "[Ljava/lang/Object;" (.ref arr)) (F3 : Fld Z h0 r "java/util/ArrayList" "size" "I" (.int (2 : Int32))) (V1 : Arv Z h0 arr kk (.object "java/lang/Object") (10 : Int32) [(.ref v0), (.ref v1), .null, .null, .null, .null, .null, .null, .null, .null] .null) (ov : Ovr Z kk "java/lang/Object") (g1 : n0 ≤ r) (g2 : n0 ≤ arr) (n1 : r ≠ arr) (E2 : Exa Z h0 el "java/lang/Integer") :
    MetFree l (⟨"java/util/ArrayList", "add", "(Ljava/lang/Object;)Z"⟩ : MethodName) (head1 (Jvm.Cond.code (⟨"java/util/ArrayList", "add", "(Ljava/lang/Object;)Z"⟩ : MethodName) jdk_38_method_25_code 2 (some .boolean) :: ws) ({ frames := 1, cells := 0, slots := 0, locals := 15 } : Room)) (fun aQ UQ => aQ = #[(.ref r), (.ref el)] ∧ Z.Warmed39 UQ.vm ∧ UQ.heap = h0) (fun _ _ _ _ _ => True) (fun _ UQ oQ U2 => ∃ vQ LQ, oQ = .returned vQ ∧ own_rm_add1_2_Q Z r el arr kk mc v0 v1 h0 n0 vQ U2.heap LQ ∧ FrameEnd UQ oQ U2 LQ ({ frames := 1, cells := 0, slots := 0, locals := 15 } : Room).cells ({ frames := 1, cells := 0, slots := 0, locals := 15 } : Room).slots) := by
  refine MetFree.of_bodySF own_pn10 hisR ?_
  intro p e s m args below meth c s₁ Bd hml0 hP hK
  obtain ⟨rfl, hZ, hh⟩ := hP
  have hx := Bd.exec
  have hby := Bd.bytes
  have hml : c.maxLocals = 2 := hml0
  have hlk := BodyLoose.notSynchronized Bd
  have hown : s.vm.findClass "java/util/ArrayList" = some m.cls := findClass_of_methodNamed Bd.named
  have hnm := (name_of_methodNamed Bd.named Bd.method).1
  have X0 : Stand p l e ({ frames := 1, cells := 0, slots := 0, locals := 15 } : Room) s m #[(.ref r), (.ref el)] below meth c s₁ [] 0 0 := Stand.of_body Bd
  have e0 : s₁.heap = h0 := by rw [← hh, Bd.state]; rfl
  have N0 := Fr.nil n0
  have Kp0 : Keep h0 h0 [r, arr] := Keep.refl _ _
  show own_Go p e below s (own_rm_add1_2_Q Z r el arr kk mc v0 v1 h0 n0) ({ frames := 1, cells := 0, slots := 0, locals := 15 } : Room).cells ({ frames := 1, cells := 0, slots := 0, locals := 15 } : Room).slots (s₁.setTop (entryFrame m #[(.ref r), (.ref el)] 2))
  rw [own_rm_add1_2_ef]
  show own_Go p e below s _ _ _ (s₁.setTop (mkF m 0 #[.val (.ref r), .val (.ref el)] []))
  refine own_st (fun _ kQ => XS.aloadN X0.here hx rfl (hb hby own_d_jdk_38_method_25_code_0) rfl rfl kQ) ?_
  show own_Go p e below s _ _ _ (s₁.setTop (mkF m 1 #[.val (.ref r), .val (.ref el)] [(.ref r)]))
  refine own_st (fun _ kQ => XS.dup X0.here hx rfl (hb hby own_d_jdk_38_method_25_code_1) rfl rfl kQ) ?_
  show own_Go p e below s _ _ _ (s₁.setTop (mkF m 2 #[.val (.ref r), .val (.ref el)] [(.ref r), (.ref r)]))
  obtain ⟨T282, X282, e282, st282⟩ := getF X0 hx hZ hown (host := "") (Or.inl (hw _ (List.mem_of_getElem? (i := 39) rfl))) (Via.of (hw _ (List.mem_of_getElem? (i := 40) rfl))) e0 F1 (g := (mkF m 2 #[.val (.ref r), .val (.ref el)] [(.ref r), (.ref r)])) rfl rfl (hb hby own_d_jdk_38_method_25_code_2)
  refine own_st st282 ?_
  show own_Go p e below s _ _ _ (T282.setTop (mkF m 5 #[.val (.ref r), .val (.ref el)] [(.int mc), (.ref r)]))
  refine own_st (fun _ kQ => XT.iconstV X282.here hx rfl (1 : Int32) (hb hby own_d_jdk_38_method_25_code_5) (by decide) kQ) ?_
  show own_Go p e below s _ _ _ (T282.setTop (mkF m 6 #[.val (.ref r), .val (.ref el)] [(.int (1 : Int32)), (.int mc), (.ref r)]))
  refine own_st (fun _ kQ => XS.iadd X282.here hx rfl (hb hby own_d_jdk_38_method_25_code_6) rfl kQ) ?_
  show own_Go p e below s _ _ _ (T282.setTop (mkF m 7 #[.val (.ref r), .val (.ref el)] [(.int (mc + (1 : Int32))), (.ref r)]))
  obtain ⟨T283, h283, X283, e283, W283, st283⟩ := putF X282 hx hZ hown (host := "") (Or.inl (hw _ (List.mem_of_getElem? (i := 39) rfl))) (Via.of (hw _ (List.mem_of_getElem? (i := 40) rfl))) e282 F1 E1 (Or.inl (hw _ (List.mem_of_getElem? (i := 23) rfl))) (hw _ (List.mem_of_getElem? (i := 2) rfl)) (ty := .int) (by decide) rfl rfl (g := (mkF m 7 #[.val (.ref r), .val (.ref el)] [(.int (mc + (1 : Int32))), (.ref r)])) rfl rfl (hb hby own_d_jdk_38_method_25_code_7)
  refine own_st st283 ?_
  have N284 := Fr.snoc X283 N0 g1
  have F285 : Fld Z h283 r "java/util/AbstractList" "modCount" "I" (.int (mc + (1 : Int32))) := F1.same W283
  have lt286 : r < h283.size := Nat.lt_of_lt_of_le F3.lt (Nat.le_of_eq W283.size.symm)
  have lt287 : arr < h283.size := Nat.lt_of_lt_of_le V1.lt (Nat.le_of_eq W283.size.symm)
  have lt288 : el < h283.size := Nat.lt_of_lt_of_le E2.lt (Nat.le_of_eq W283.size.symm)
  have Zs289 : n0 ≤ h283.size := Nat.le_trans Z0 (Nat.le_of_eq W283.size.symm)
  have Kp290 : Keep h0 h283 [r, arr] := Kp0.wr W283 (Or.inl (List.mem_of_getElem? (i := 0) rfl))
  show own_Go p e below s _ _ _ (T283.setTop (mkF m 10 #[.val (.ref r), .val (.ref el)] []))
  refine own_st (fun _ kQ => XS.aloadN X283.here hx rfl (hb hby own_d_jdk_38_method_25_code_10) rfl rfl kQ) ?_
  show own_Go p e below s _ _ _ (T283.setTop (mkF m 11 #[.val (.ref r), .val (.ref el)] [(.ref r)]))
  refine own_st (fun _ kQ => XS.aloadN X283.here hx rfl (hb hby own_d_jdk_38_method_25_code_11) rfl rfl kQ) ?_
  show own_Go p e below s _ _ _ (T283.setTop (mkF m 12 #[.val (.ref r), .val (.ref el)] [(.ref el), (.ref r)]))
  refine own_st (fun _ kQ => XS.aloadN X283.here hx rfl (hb hby own_d_jdk_38_method_25_code_12) rfl rfl kQ) ?_
  show own_Go p e below s _ _ _ (T283.setTop (mkF m 13 #[.val (.ref r), .val (.ref el)] [(.ref r), (.ref el), (.ref r)]))
  have F291 : Fld Z h283 r "java/util/ArrayList" "elementData" "[Ljava/lang/Object;" (.ref arr) := (F2.other W283 (Or.inr (slot_ne (Or.inl (hw _ (List.mem_of_getElem? (i := 26) rfl))) (Or.inl (hw _ (List.mem_of_getElem? (i := 23) rfl))) (by decide) (t := (.array (.object "java/lang/Object"))) (t' := .int) (by decide) (by decide))))
  obtain ⟨T292, X292, e292, st292⟩ := getF X283 hx hZ hown (host := "") (Or.inl (hw _ (List.mem_of_getElem? (i := 25) rfl))) Via.refl e283 F291 (g := (mkF m 13 #[.val (.ref r), .val (.ref el)] [(.ref r), (.ref el), (.ref r)])) rfl rfl (hb hby own_d_jdk_38_method_25_code_13)
  refine own_st st292 ?_
  show own_Go p e below s _ _ _ (T292.setTop (mkF m 16 #[.val (.ref r), .val (.ref el)] [(.ref arr), (.ref el), (.ref r)]))
  refine own_st (fun _ kQ => XS.aloadN X292.here hx rfl (hb hby own_d_jdk_38_method_25_code_16) rfl rfl kQ) ?_
  show own_Go p e below s _ _ _ (T292.setTop (mkF m 17 #[.val (.ref r), .val (.ref el)] [(.ref r), (.ref arr), (.ref el), (.ref r)]))
  have F293 : Fld Z h283 r "java/util/ArrayList" "size" "I" (.int (2 : Int32)) := (F3.other W283 (Or.inr (slot_ne (Or.inl (hw _ (List.mem_of_getElem? (i := 42) rfl))) (Or.inl (hw _ (List.mem_of_getElem? (i := 23) rfl))) (by decide) (t := .int) (t' := .int) (by decide) (by decide))))
  obtain ⟨T294, X294, e294, st294⟩ := getF X292 hx hZ hown (host := "") (Or.inl (hw _ (List.mem_of_getElem? (i := 41) rfl))) Via.refl e292 F293 (g := (mkF m 17 #[.val (.ref r), .val (.ref el)] [(.ref r), (.ref arr), (.ref el), (.ref r)])) rfl rfl (hb hby own_d_jdk_38_method_25_code_17)
  refine own_st st294 ?_
  show own_Go p e below s _ _ _ (T294.setTop (mkF m 20 #[.val (.ref r), .val (.ref el)] [(.int (2 : Int32)), (.ref arr), (.ref el), (.ref r)]))
  have F296 : Exa Z h283 r "java/util/ArrayList" := (E1.wr W283)
  have F297 : Arv Z h283 arr kk (.object "java/lang/Object") (10 : Int32) [(.ref v0), (.ref v1), .null, .null, .null, .null, .null, .null, .null, .null] .null := (V1.other W283 n1.symm)
  have F298 : Exa Z h283 el "java/lang/Integer" := (E2.wr W283)
  obtain ⟨cq295, q295, q295'⟩ := F296.cell
  obtain ⟨_, _, ⟨T295, L295, k295, n295⟩, -, X295, ⟨Lc295, hQ295, l295, y295, z295⟩, st295⟩ := X294.privateBack hx (y := (⟨"java/util/ArrayList", "add", "(Ljava/lang/Object;[Ljava/lang/Object;I)V"⟩ : MethodName)) hown (mvT hZ (hw _ (List.mem_of_getElem? (i := 43) rfl))) (mvT hZ (hw _ (List.mem_of_getElem? (i := 44) rfl))) (mvT hZ (hw _ (List.mem_of_getElem? (i := 46) rfl))) (Cond.privateMethod_at (mvP hZ (hw _ (List.mem_of_getElem? (i := 45) rfl)) (args := #[]))) (mvT hZ (hw _ (List.mem_of_getElem? (i := 47) rfl))) (by decide) (backOf (W := 0) (own_rm_add3_2 l Z a0 hw [] r el arr kk (mc + (1 : Int32)) v0 v1 h283 n0 Zs289 F296 F285 F291 F293 F297 ov g1 g2 n1 F298) hZ (hw _ (List.mem_of_getElem? (i := 47) rfl)) (hw _ (List.mem_of_getElem? (i := 3) rfl)) (by decide) (by decide)) (g := (mkF m 20 #[.val (.ref r), .val (.ref el)] [(.int (2 : Int32)), (.ref arr), (.ref el), (.ref r)])) rfl (by rw [hml]; rfl) (Steps.refl _) (a := r) (own_hp e294 q295) q295' (argsL := [(.ref el), (.ref arr), (.int (2 : Int32))]) (rest := []) (lenOf own_pd5 rfl) rfl (by show 2 * 0 + _ ≤ _; exact Nat.le_of_eq rfl) (hb hby own_d_jdk_38_method_25_code_20) (fun _ _ => ⟨rfl, e294, (by decide : 0 + 0 ≤ _), (by decide : 0 + 0 ≤ _)⟩)
  dsimp only [Pt.U, Pt.locs, Pt.cells, Pt.slots] at X295 l295 y295 z295 st295 hQ295
  subst l295 y295 z295
  obtain ⟨N295q, rfl, K295, q299, q300, q301, q302, q303⟩ := hQ295
  have N304 := Fr.app N284 N295q
  refine own_tr st295 ?_
  have lt305 : r < T295.heap.size := Nat.lt_of_lt_of_le lt286 K295.1
  have lt306 : arr < T295.heap.size := Nat.lt_of_lt_of_le lt287 K295.1
  have lt307 : el < T295.heap.size := Nat.lt_of_lt_of_le lt288 K295.1
  have Zs308 : n0 ≤ T295.heap.size := Nat.le_trans Zs289 K295.1
  have Kp309 : Keep h0 T295.heap [r, arr] := Kp290.trans K295 (allS (Or.inl (List.mem_of_getElem? (i := 0) rfl)) (allS (Or.inl (List.mem_of_getElem? (i := 1) rfl)) all0))
  show own_Go p e below s _ _ _ (T295.setTop (mkF m 23 #[.val (.ref r), .val (.ref el)] []))
  refine own_st (fun _ kQ => XT.iconstV X295.here hx rfl (1 : Int32) (hb hby own_d_jdk_38_method_25_code_23) (by decide) kQ) ?_
  show own_Go p e below s _ _ _ (T295.setTop (mkF m 24 #[.val (.ref r), .val (.ref el)] [(.int (1 : Int32))]))
  refine own_retN X295 hx hlk Bd.returns (t := .boolean) (z' := (1 : Int32)) (by simp) (by decide) (hb hby own_d_jdk_38_method_25_code_24) (by decide) (by decide) ?_
  skip
  exact ⟨N304, rfl, Kp309, q299, q300, q301, q302, q303⟩
def own_rm_add3_3_Q (Z : State) (r : Addr) (el : Addr) (arr : Addr) (kk : ClassId) (mc : Int32) (v0 : Addr) (v1 : Addr) (v2 : Addr) (h0 : Heap) (n0 : Nat) (v : Option Value) (h : Heap) (L : List Loc) : Prop := Fr n0 L ∧ v = none ∧ Keep h0 h [r, arr] ∧ Exa Z h r "java/util/ArrayList" ∧ Fld Z h r "java/util/AbstractList" "modCount" "I" (.int mc) ∧ Fld Z h r "java/util/ArrayList" "elementData" "[Ljava/lang/Object;" (.ref arr) ∧ Fld Z h r "java/util/ArrayList" "size" "I" (.int (4 : Int32)) ∧ Arv Z h arr kk (.object "java/lang/Object") (10 : Int32) [(.ref v0), (.ref v1), (.ref v2), (.ref el), .null, .null, .null, .null, .null, .null] .null
theorem own_rm_add3_3_ef (m : MethodId) (r : Addr) (el : Addr) (arr : Addr)  : entryFrame m #[(.ref r), (.ref el), (.ref arr), (.int (3 : Int32))] 4 = mkF m 0 #[.val (.ref r), .val (.ref el), .val (.ref arr), .val (.int (3 : Int32))] [] := by first | (simp [entryFrame, mkF, argsToLocals, Value.category]; done) | rfl
set_option maxRecDepth 65536 in
set_option maxHeartbeats 40000000 in
theorem own_rm_add3_3 (l : Launch) (Z : State) (a0 : Array Value) (hw : ∀ d ∈ tables_1, d.before a0 Z = true) (ws : List Jvm.Cond) (r : Addr) (el : Addr) (arr : Addr) (kk : ClassId) (mc : Int32) (v0 : Addr) (v1 : Addr) (v2 : Addr) (h0 : Heap) (n0 : Nat) (Z0 : n0 ≤ h0.size) (E1 : Exa Z h0 r "java/util/ArrayList") (F1 : Fld Z h0 r "java/util/AbstractList" "modCount" "I" (.int mc)) (F2 : Fld Z h0 r "java/util/ArrayList" "elementData" "[Ljava/lang/Object;" (.ref arr)) (F3 : Fld Z h0 r "java/util/ArrayList" "size" "I" (.int (3 : Int32))) (V1 : Arv Z h0 arr kk (.object "java/lang/Object") (10 : Int32) [(.ref v0), (.ref v1), (.ref v2), .null, .null, .null, .null, .null, .null, .null] .null) (ov : Ovr Z kk "java/lang/Object") (g1 : n0 ≤ r) (g2 : n0 ≤ arr) (n1 : r ≠ arr) (E2 : Exa Z h0 el "java/lang/Integer") :
    MetFree l (⟨"java/util/ArrayList", "add", "(Ljava/lang/Object;[Ljava/lang/Object;I)V"⟩ : MethodName) (head1 (Jvm.Cond.code (⟨"java/util/ArrayList", "add", "(Ljava/lang/Object;[Ljava/lang/Object;I)V"⟩ : MethodName) jdk_38_method_24_code 4 none :: ws) ({ frames := 0, cells := 0, slots := 0, locals := 0 } : Room)) (fun aQ UQ => aQ = #[(.ref r), (.ref el), (.ref arr), (.int (3 : Int32))] ∧ Z.Warmed39 UQ.vm ∧ UQ.heap = h0) (fun _ _ _ _ _ => True) (fun _ UQ oQ U2 => ∃ vQ LQ, oQ = .returned vQ ∧ own_rm_add3_3_Q Z r el arr kk mc v0 v1 v2 h0 n0 vQ U2.heap LQ ∧ FrameEnd UQ oQ U2 LQ ({ frames := 0, cells := 0, slots := 0, locals := 0 } : Room).cells ({ frames := 0, cells := 0, slots := 0, locals := 0 } : Room).slots) := by
  refine MetFree.of_bodySF own_pn9 hisR ?_
  intro p e s m args below meth c s₁ Bd hml0 hP hK
  obtain ⟨rfl, hZ, hh⟩ := hP
  have hx := Bd.exec
  have hby := Bd.bytes
  have hml : c.maxLocals = 4 := hml0
  have hlk := BodyLoose.notSynchronized Bd
  have hown : s.vm.findClass "java/util/ArrayList" = some m.cls := findClass_of_methodNamed Bd.named
  have hnm := (name_of_methodNamed Bd.named Bd.method).1
  have X0 : Stand p l e ({ frames := 0, cells := 0, slots := 0, locals := 0 } : Room) s m #[(.ref r), (.ref el), (.ref arr), (.int (3 : Int32))] below meth c s₁ [] 0 0 := Stand.of_body Bd
  have e0 : s₁.heap = h0 := by rw [← hh, Bd.state]; rfl
  have N0 := Fr.nil n0
  have Kp0 : Keep h0 h0 [r, arr] := Keep.refl _ _
  show own_Go p e below s (own_rm_add3_3_Q Z r el arr kk mc v0 v1 v2 h0 n0) ({ frames := 0, cells := 0, slots := 0, locals := 0 } : Room).cells ({ frames := 0, cells := 0, slots := 0, locals := 0 } : Room).slots (s₁.setTop (entryFrame m #[(.ref r), (.ref el), (.ref arr), (.int (3 : Int32))] 4))
  rw [own_rm_add3_3_ef]
  show own_Go p e below s _ _ _ (s₁.setTop (mkF m 0 #[.val (.ref r), .val (.ref el), .val (.ref arr), .val (.int (3 : Int32))] []))
  refine own_st (fun _ kQ => XS.iloadN X0.here hx rfl (hb hby own_d_jdk_38_method_24_code_0) rfl kQ) ?_
  show own_Go p e below s _ _ _ (s₁.setTop (mkF m 1 #[.val (.ref r), .val (.ref el), .val (.ref arr), .val (.int (3 : Int32))] [(.int (3 : Int32))]))
  refine own_st (fun _ kQ => XS.aloadN X0.here hx rfl (hb hby own_d_jdk_38_method_24_code_1) rfl rfl kQ) ?_
  show own_Go p e below s _ _ _ (s₁.setTop (mkF m 2 #[.val (.ref r), .val (.ref el), .val (.ref arr), .val (.int (3 : Int32))] [(.ref arr), (.int (3 : Int32))]))
  obtain ⟨cl310, Ar310, -, S310, N310, -, -⟩ := id V1
  refine own_st (fun _ kQ => X0.arraylength hx (own_hp e0 Ar310.1) (State.isArrayOf_alike hZ.alike Ar310.2.1) (g := (mkF m 2 #[.val (.ref r), .val (.ref el), .val (.ref arr), .val (.int (3 : Int32))] [(.ref arr), (.int (3 : Int32))])) rfl rfl (hb hby own_d_jdk_38_method_24_code_2) _ kQ) ?_
  rw [len_of S310 N310]
  show own_Go p e below s _ _ _ (s₁.setTop (mkF m 3 #[.val (.ref r), .val (.ref el), .val (.ref arr), .val (.int (3 : Int32))] [(.int (10 : Int32)), (.int (3 : Int32))]))
  refine own_st (fun _ kQ => XS.icmpYes X0.here hx rfl (pc0 := 3) (pc' := 11) rfl (hb hby own_d_jdk_38_method_24_code_3) rfl (XT.ii_ne_t (by decide)) (by decide) (by decide) kQ) ?_
  show own_Go p e below s _ _ _ (s₁.setTop (mkF m 11 #[.val (.ref r), .val (.ref el), .val (.ref arr), .val (.int (3 : Int32))] []))
  refine own_st (fun _ kQ => XS.aloadN X0.here hx rfl (hb hby own_d_jdk_38_method_24_code_11) rfl rfl kQ) ?_
  show own_Go p e below s _ _ _ (s₁.setTop (mkF m 12 #[.val (.ref r), .val (.ref el), .val (.ref arr), .val (.int (3 : Int32))] [(.ref arr)]))
  refine own_st (fun _ kQ => XS.iloadN X0.here hx rfl (hb hby own_d_jdk_38_method_24_code_12) rfl kQ) ?_
  show own_Go p e below s _ _ _ (s₁.setTop (mkF m 13 #[.val (.ref r), .val (.ref el), .val (.ref arr), .val (.int (3 : Int32))] [(.int (3 : Int32)), (.ref arr)]))
  refine own_st (fun _ kQ => XS.aloadN X0.here hx rfl (hb hby own_d_jdk_38_method_24_code_13) rfl rfl kQ) ?_
  show own_Go p e below s _ _ _ (s₁.setTop (mkF m 14 #[.val (.ref r), .val (.ref el), .val (.ref arr), .val (.int (3 : Int32))] [(.ref el), (.int (3 : Int32)), (.ref arr)]))
  obtain ⟨cl311, Ar311, kc311, S311, Nn311, H311, G311⟩ := id V1
  have hin311 : ¬ ((3 : Int32) < 0 ∨ cl311.slots.size ≤ ((3 : Int32) : Int32).toNatClampNeg) := inb_of S311 (by decide)
  obtain ⟨T311, h311, X311, e311, W311, st311⟩ := stR X0 hx hZ e0 Ar311 (j := (3 : Int32)) hin311 rfl (Sto.ofV Ar311 kc311 ov (Ins.of_exa E2 (hw _ (List.mem_of_getElem? (i := 64) rfl)))) (g := (mkF m 14 #[.val (.ref r), .val (.ref el), .val (.ref arr), .val (.int (3 : Int32))] [(.ref el), (.int (3 : Int32)), (.ref arr)])) rfl rfl (hb hby own_d_jdk_38_method_24_code_14)
  refine own_st st311 ?_
  have N312 := Fr.snoc X311 N0 g2
  have F313 : Arv Z h311 arr kk (.object "java/lang/Object") (10 : Int32) [(.ref v0), (.ref v1), (.ref v2), (.ref el), .null, .null, .null, .null, .null, .null] .null := Arv.set Ar311 kc311 S311 Nn311 H311 G311 rfl W311 3 (by decide) (Nat.le_of_ble_eq_true rfl)
  have lt314 : r < h311.size := Nat.lt_of_lt_of_le F3.lt (Nat.le_of_eq W311.size.symm)
  have lt315 : arr < h311.size := Nat.lt_of_lt_of_le V1.lt (Nat.le_of_eq W311.size.symm)
  have lt316 : el < h311.size := Nat.lt_of_lt_of_le E2.lt (Nat.le_of_eq W311.size.symm)
  have Zs317 : n0 ≤ h311.size := Nat.le_trans Z0 (Nat.le_of_eq W311.size.symm)
  have Kp318 : Keep h0 h311 [r, arr] := Kp0.wr W311 (Or.inl (List.mem_of_getElem? (i := 1) rfl))
  show own_Go p e below s _ _ _ (T311.setTop (mkF m 15 #[.val (.ref r), .val (.ref el), .val (.ref arr), .val (.int (3 : Int32))] []))
  refine own_st (fun _ kQ => XS.aloadN X311.here hx rfl (hb hby own_d_jdk_38_method_24_code_15) rfl rfl kQ) ?_
  show own_Go p e below s _ _ _ (T311.setTop (mkF m 16 #[.val (.ref r), .val (.ref el), .val (.ref arr), .val (.int (3 : Int32))] [(.ref r)]))
  refine own_st (fun _ kQ => XS.iloadN X311.here hx rfl (hb hby own_d_jdk_38_method_24_code_16) rfl kQ) ?_
  show own_Go p e below s _ _ _ (T311.setTop (mkF m 17 #[.val (.ref r), .val (.ref el), .val (.ref arr), .val (.int (3 : Int32))] [(.int (3 : Int32)), (.ref r)]))
  refine own_st (fun _ kQ => XT.iconstV X311.here hx rfl (1 : Int32) (hb hby own_d_jdk_38_method_24_code_17) (by decide) kQ) ?_
  show own_Go p e below s _ _ _ (T311.setTop (mkF m 18 #[.val (.ref r), .val (.ref el), .val (.ref arr), .val (.int (3 : Int32))] [(.int (1 : Int32)), (.int (3 : Int32)), (.ref r)]))
  refine own_st (fun _ kQ => XS.iadd X311.here hx rfl (hb hby own_d_jdk_38_method_24_code_18) rfl kQ) ?_
  show own_Go p e below s _ _ _ (T311.setTop (mkF m 19 #[.val (.ref r), .val (.ref el), .val (.ref arr), .val (.int (3 : Int32))] [(.int (4 : Int32)), (.ref r)]))
  have F319 : Fld Z h311 r "java/util/ArrayList" "size" "I" (.int (3 : Int32)) := (F3.other W311 (Or.inl n1))
  have F320 : Exa Z h311 r "java/util/ArrayList" := (E1.wr W311)
  obtain ⟨T321, h321, X321, e321, W321, st321⟩ := putF X311 hx hZ hown (host := "") (Or.inl (hw _ (List.mem_of_getElem? (i := 41) rfl))) Via.refl e311 F319 F320 (Or.inl (hw _ (List.mem_of_getElem? (i := 42) rfl))) (hw _ (List.mem_of_getElem? (i := 2) rfl)) (ty := .int) (by decide) rfl rfl (g := (mkF m 19 #[.val (.ref r), .val (.ref el), .val (.ref arr), .val (.int (3 : Int32))] [(.int (4 : Int32)), (.ref r)])) rfl rfl (hb hby own_d_jdk_38_method_24_code_19)
  refine own_st st321 ?_
  have N322 := Fr.snoc X321 N312 g1
  have F323 : Fld Z h321 r "java/util/ArrayList" "size" "I" (.int (4 : Int32)) := F319.same W321
  have lt324 : r < h321.size := Nat.lt_of_lt_of_le lt314 (Nat.le_of_eq W321.size.symm)
  have lt325 : arr < h321.size := Nat.lt_of_lt_of_le lt315 (Nat.le_of_eq W321.size.symm)
  have lt326 : el < h321.size := Nat.lt_of_lt_of_le lt316 (Nat.le_of_eq W321.size.symm)
  have Zs327 : n0 ≤ h321.size := Nat.le_trans Zs317 (Nat.le_of_eq W321.size.symm)
  have Kp328 : Keep h0 h321 [r, arr] := Kp318.wr W321 (Or.inl (List.mem_of_getElem? (i := 0) rfl))
  show own_Go p e below s _ _ _ (T321.setTop (mkF m 22 #[.val (.ref r), .val (.ref el), .val (.ref arr), .val (.int (3 : Int32))] []))
  have F329 : Exa Z h321 r "java/util/ArrayList" := (F320.wr W321)
  have F330 : Fld Z h321 r "java/util/AbstractList" "modCount" "I" (.int mc) := ((F1.other W311 (Or.inl n1)).other W321 (Or.inr (slot_ne (Or.inl (hw _ (List.mem_of_getElem? (i := 23) rfl))) (Or.inl (hw _ (List.mem_of_getElem? (i := 42) rfl))) (by decide) (t := .int) (t' := .int) (by decide) (by decide))))
  have F331 : Fld Z h321 r "java/util/ArrayList" "elementData" "[Ljava/lang/Object;" (.ref arr) := ((F2.other W311 (Or.inl n1)).other W321 (Or.inr (slot_ne (Or.inl (hw _ (List.mem_of_getElem? (i := 26) rfl))) (Or.inl (hw _ (List.mem_of_getElem? (i := 42) rfl))) (by decide) (t := (.array (.object "java/lang/Object"))) (t' := .int) (by decide) (by decide))))
  have F332 : Arv Z h321 arr kk (.object "java/lang/Object") (10 : Int32) [(.ref v0), (.ref v1), (.ref v2), (.ref el), .null, .null, .null, .null, .null, .null] .null := (F313.other W321 n1.symm)
  refine own_ret0 X321 hx hlk Bd.returns (hb hby own_d_jdk_38_method_24_code_22) (by decide) (by decide) ?_
  rw [e321]
  exact ⟨N322, rfl, Kp328, F329, F330, F331, F323, F332⟩
def own_rm_add1_3_Q (Z : State) (r : Addr) (el : Addr) (arr : Addr) (kk : ClassId) (mc : Int32) (v0 : Addr) (v1 : Addr) (v2 : Addr) (h0 : Heap) (n0 : Nat) (v : Option Value) (h : Heap) (L : List Loc) : Prop := Fr n0 L ∧ v = some (.int (1 : Int32)) ∧ Keep h0 h [r, arr] ∧ Exa Z h r "java/util/ArrayList" ∧ Fld Z h r "java/util/AbstractList" "modCount" "I" (.int (mc + (1 : Int32))) ∧ Fld Z h r "java/util/ArrayList" "elementData" "[Ljava/lang/Object;" (.ref arr) ∧ Fld Z h r "java/util/ArrayList" "size" "I" (.int (4 : Int32)) ∧ Arv Z h arr kk (.object "java/lang/Object") (10 : Int32) [(.ref v0), (.ref v1), (.ref v2), (.ref el), .null, .null, .null, .null, .null, .null] .null
theorem own_rm_add1_3_ef (m : MethodId) (r : Addr) (el : Addr)  : entryFrame m #[(.ref r), (.ref el)] 2 = mkF m 0 #[.val (.ref r), .val (.ref el)] [] := by first | (simp [entryFrame, mkF, argsToLocals, Value.category]; done) | rfl
set_option maxRecDepth 65536 in
set_option maxHeartbeats 40000000 in
theorem own_rm_add1_3 (l : Launch) (Z : State) (a0 : Array Value) (hw : ∀ d ∈ tables_1, d.before a0 Z = true) (ws : List Jvm.Cond) (r : Addr) (el : Addr) (arr : Addr) (kk : ClassId) (mc : Int32) (v0 : Addr) (v1 : Addr) (v2 : Addr) (h0 : Heap) (n0 : Nat) (Z0 : n0 ≤ h0.size) (E1 : Exa Z h0 r "java/util/ArrayList") (F1 : Fld Z h0 r "java/util/AbstractList" "modCount" "I" (.int mc)) (F2 : Fld Z h0 r "java/util/ArrayList" "elementData" "[Ljava/lang/Object;" (.ref arr)) (F3 : Fld Z h0 r "java/util/ArrayList" "size" "I" (.int (3 : Int32))) (V1 : Arv Z h0 arr kk (.object "java/lang/Object") (10 : Int32) [(.ref v0), (.ref v1), (.ref v2), .null, .null, .null, .null, .null, .null, .null] .null) (ov : Ovr Z kk "java/lang/Object") (g1 : n0 ≤ r) (g2 : n0 ≤ arr) (n1 : r ≠ arr) (E2 : Exa Z h0 el "java/lang/Integer") :
    MetFree l (⟨"java/util/ArrayList", "add", "(Ljava/lang/Object;)Z"⟩ : MethodName) (head1 (Jvm.Cond.code (⟨"java/util/ArrayList", "add", "(Ljava/lang/Object;)Z"⟩ : MethodName) jdk_38_method_25_code 2 (some .boolean) :: ws) ({ frames := 1, cells := 0, slots := 0, locals := 15 } : Room)) (fun aQ UQ => aQ = #[(.ref r), (.ref el)] ∧ Z.Warmed39 UQ.vm ∧ UQ.heap = h0) (fun _ _ _ _ _ => True) (fun _ UQ oQ U2 => ∃ vQ LQ, oQ = .returned vQ ∧ own_rm_add1_3_Q Z r el arr kk mc v0 v1 v2 h0 n0 vQ U2.heap LQ ∧ FrameEnd UQ oQ U2 LQ ({ frames := 1, cells := 0, slots := 0, locals := 15 } : Room).cells ({ frames := 1, cells := 0, slots := 0, locals := 15 } : Room).slots) := by
  refine MetFree.of_bodySF own_pn10 hisR ?_
  intro p e s m args below meth c s₁ Bd hml0 hP hK
  obtain ⟨rfl, hZ, hh⟩ := hP
  have hx := Bd.exec
  have hby := Bd.bytes
  have hml : c.maxLocals = 2 := hml0
  have hlk := BodyLoose.notSynchronized Bd
  have hown : s.vm.findClass "java/util/ArrayList" = some m.cls := findClass_of_methodNamed Bd.named
  have hnm := (name_of_methodNamed Bd.named Bd.method).1
  have X0 : Stand p l e ({ frames := 1, cells := 0, slots := 0, locals := 15 } : Room) s m #[(.ref r), (.ref el)] below meth c s₁ [] 0 0 := Stand.of_body Bd
  have e0 : s₁.heap = h0 := by rw [← hh, Bd.state]; rfl
  have N0 := Fr.nil n0
  have Kp0 : Keep h0 h0 [r, arr] := Keep.refl _ _
  show own_Go p e below s (own_rm_add1_3_Q Z r el arr kk mc v0 v1 v2 h0 n0) ({ frames := 1, cells := 0, slots := 0, locals := 15 } : Room).cells ({ frames := 1, cells := 0, slots := 0, locals := 15 } : Room).slots (s₁.setTop (entryFrame m #[(.ref r), (.ref el)] 2))
  rw [own_rm_add1_3_ef]
  show own_Go p e below s _ _ _ (s₁.setTop (mkF m 0 #[.val (.ref r), .val (.ref el)] []))
  refine own_st (fun _ kQ => XS.aloadN X0.here hx rfl (hb hby own_d_jdk_38_method_25_code_0) rfl rfl kQ) ?_
  show own_Go p e below s _ _ _ (s₁.setTop (mkF m 1 #[.val (.ref r), .val (.ref el)] [(.ref r)]))
  refine own_st (fun _ kQ => XS.dup X0.here hx rfl (hb hby own_d_jdk_38_method_25_code_1) rfl rfl kQ) ?_
  show own_Go p e below s _ _ _ (s₁.setTop (mkF m 2 #[.val (.ref r), .val (.ref el)] [(.ref r), (.ref r)]))
  obtain ⟨T333, X333, e333, st333⟩ := getF X0 hx hZ hown (host := "") (Or.inl (hw _ (List.mem_of_getElem? (i := 39) rfl))) (Via.of (hw _ (List.mem_of_getElem? (i := 40) rfl))) e0 F1 (g := (mkF m 2 #[.val (.ref r), .val (.ref el)] [(.ref r), (.ref r)])) rfl rfl (hb hby own_d_jdk_38_method_25_code_2)
  refine own_st st333 ?_
  show own_Go p e below s _ _ _ (T333.setTop (mkF m 5 #[.val (.ref r), .val (.ref el)] [(.int mc), (.ref r)]))
  refine own_st (fun _ kQ => XT.iconstV X333.here hx rfl (1 : Int32) (hb hby own_d_jdk_38_method_25_code_5) (by decide) kQ) ?_
  show own_Go p e below s _ _ _ (T333.setTop (mkF m 6 #[.val (.ref r), .val (.ref el)] [(.int (1 : Int32)), (.int mc), (.ref r)]))
  refine own_st (fun _ kQ => XS.iadd X333.here hx rfl (hb hby own_d_jdk_38_method_25_code_6) rfl kQ) ?_
  show own_Go p e below s _ _ _ (T333.setTop (mkF m 7 #[.val (.ref r), .val (.ref el)] [(.int (mc + (1 : Int32))), (.ref r)]))
  obtain ⟨T334, h334, X334, e334, W334, st334⟩ := putF X333 hx hZ hown (host := "") (Or.inl (hw _ (List.mem_of_getElem? (i := 39) rfl))) (Via.of (hw _ (List.mem_of_getElem? (i := 40) rfl))) e333 F1 E1 (Or.inl (hw _ (List.mem_of_getElem? (i := 23) rfl))) (hw _ (List.mem_of_getElem? (i := 2) rfl)) (ty := .int) (by decide) rfl rfl (g := (mkF m 7 #[.val (.ref r), .val (.ref el)] [(.int (mc + (1 : Int32))), (.ref r)])) rfl rfl (hb hby own_d_jdk_38_method_25_code_7)
  refine own_st st334 ?_
  have N335 := Fr.snoc X334 N0 g1
  have F336 : Fld Z h334 r "java/util/AbstractList" "modCount" "I" (.int (mc + (1 : Int32))) := F1.same W334
  have lt337 : r < h334.size := Nat.lt_of_lt_of_le F3.lt (Nat.le_of_eq W334.size.symm)
  have lt338 : arr < h334.size := Nat.lt_of_lt_of_le V1.lt (Nat.le_of_eq W334.size.symm)
  have lt339 : el < h334.size := Nat.lt_of_lt_of_le E2.lt (Nat.le_of_eq W334.size.symm)
  have Zs340 : n0 ≤ h334.size := Nat.le_trans Z0 (Nat.le_of_eq W334.size.symm)
  have Kp341 : Keep h0 h334 [r, arr] := Kp0.wr W334 (Or.inl (List.mem_of_getElem? (i := 0) rfl))
  show own_Go p e below s _ _ _ (T334.setTop (mkF m 10 #[.val (.ref r), .val (.ref el)] []))
  refine own_st (fun _ kQ => XS.aloadN X334.here hx rfl (hb hby own_d_jdk_38_method_25_code_10) rfl rfl kQ) ?_
  show own_Go p e below s _ _ _ (T334.setTop (mkF m 11 #[.val (.ref r), .val (.ref el)] [(.ref r)]))
  refine own_st (fun _ kQ => XS.aloadN X334.here hx rfl (hb hby own_d_jdk_38_method_25_code_11) rfl rfl kQ) ?_
  show own_Go p e below s _ _ _ (T334.setTop (mkF m 12 #[.val (.ref r), .val (.ref el)] [(.ref el), (.ref r)]))
  refine own_st (fun _ kQ => XS.aloadN X334.here hx rfl (hb hby own_d_jdk_38_method_25_code_12) rfl rfl kQ) ?_
  show own_Go p e below s _ _ _ (T334.setTop (mkF m 13 #[.val (.ref r), .val (.ref el)] [(.ref r), (.ref el), (.ref r)]))
  have F342 : Fld Z h334 r "java/util/ArrayList" "elementData" "[Ljava/lang/Object;" (.ref arr) := (F2.other W334 (Or.inr (slot_ne (Or.inl (hw _ (List.mem_of_getElem? (i := 26) rfl))) (Or.inl (hw _ (List.mem_of_getElem? (i := 23) rfl))) (by decide) (t := (.array (.object "java/lang/Object"))) (t' := .int) (by decide) (by decide))))
  obtain ⟨T343, X343, e343, st343⟩ := getF X334 hx hZ hown (host := "") (Or.inl (hw _ (List.mem_of_getElem? (i := 25) rfl))) Via.refl e334 F342 (g := (mkF m 13 #[.val (.ref r), .val (.ref el)] [(.ref r), (.ref el), (.ref r)])) rfl rfl (hb hby own_d_jdk_38_method_25_code_13)
  refine own_st st343 ?_
  show own_Go p e below s _ _ _ (T343.setTop (mkF m 16 #[.val (.ref r), .val (.ref el)] [(.ref arr), (.ref el), (.ref r)]))
  refine own_st (fun _ kQ => XS.aloadN X343.here hx rfl (hb hby own_d_jdk_38_method_25_code_16) rfl rfl kQ) ?_
  show own_Go p e below s _ _ _ (T343.setTop (mkF m 17 #[.val (.ref r), .val (.ref el)] [(.ref r), (.ref arr), (.ref el), (.ref r)]))
  have F344 : Fld Z h334 r "java/util/ArrayList" "size" "I" (.int (3 : Int32)) := (F3.other W334 (Or.inr (slot_ne (Or.inl (hw _ (List.mem_of_getElem? (i := 42) rfl))) (Or.inl (hw _ (List.mem_of_getElem? (i := 23) rfl))) (by decide) (t := .int) (t' := .int) (by decide) (by decide))))
  obtain ⟨T345, X345, e345, st345⟩ := getF X343 hx hZ hown (host := "") (Or.inl (hw _ (List.mem_of_getElem? (i := 41) rfl))) Via.refl e343 F344 (g := (mkF m 17 #[.val (.ref r), .val (.ref el)] [(.ref r), (.ref arr), (.ref el), (.ref r)])) rfl rfl (hb hby own_d_jdk_38_method_25_code_17)
  refine own_st st345 ?_
  show own_Go p e below s _ _ _ (T345.setTop (mkF m 20 #[.val (.ref r), .val (.ref el)] [(.int (3 : Int32)), (.ref arr), (.ref el), (.ref r)]))
  have F347 : Exa Z h334 r "java/util/ArrayList" := (E1.wr W334)
  have F348 : Arv Z h334 arr kk (.object "java/lang/Object") (10 : Int32) [(.ref v0), (.ref v1), (.ref v2), .null, .null, .null, .null, .null, .null, .null] .null := (V1.other W334 n1.symm)
  have F349 : Exa Z h334 el "java/lang/Integer" := (E2.wr W334)
  obtain ⟨cq346, q346, q346'⟩ := F347.cell
  obtain ⟨_, _, ⟨T346, L346, k346, n346⟩, -, X346, ⟨Lc346, hQ346, l346, y346, z346⟩, st346⟩ := X345.privateBack hx (y := (⟨"java/util/ArrayList", "add", "(Ljava/lang/Object;[Ljava/lang/Object;I)V"⟩ : MethodName)) hown (mvT hZ (hw _ (List.mem_of_getElem? (i := 43) rfl))) (mvT hZ (hw _ (List.mem_of_getElem? (i := 44) rfl))) (mvT hZ (hw _ (List.mem_of_getElem? (i := 46) rfl))) (Cond.privateMethod_at (mvP hZ (hw _ (List.mem_of_getElem? (i := 45) rfl)) (args := #[]))) (mvT hZ (hw _ (List.mem_of_getElem? (i := 47) rfl))) (by decide) (backOf (W := 0) (own_rm_add3_3 l Z a0 hw [] r el arr kk (mc + (1 : Int32)) v0 v1 v2 h334 n0 Zs340 F347 F336 F342 F344 F348 ov g1 g2 n1 F349) hZ (hw _ (List.mem_of_getElem? (i := 47) rfl)) (hw _ (List.mem_of_getElem? (i := 3) rfl)) (by decide) (by decide)) (g := (mkF m 20 #[.val (.ref r), .val (.ref el)] [(.int (3 : Int32)), (.ref arr), (.ref el), (.ref r)])) rfl (by rw [hml]; rfl) (Steps.refl _) (a := r) (own_hp e345 q346) q346' (argsL := [(.ref el), (.ref arr), (.int (3 : Int32))]) (rest := []) (lenOf own_pd5 rfl) rfl (by show 2 * 0 + _ ≤ _; exact Nat.le_of_eq rfl) (hb hby own_d_jdk_38_method_25_code_20) (fun _ _ => ⟨rfl, e345, (by decide : 0 + 0 ≤ _), (by decide : 0 + 0 ≤ _)⟩)
  dsimp only [Pt.U, Pt.locs, Pt.cells, Pt.slots] at X346 l346 y346 z346 st346 hQ346
  subst l346 y346 z346
  obtain ⟨N346q, rfl, K346, q350, q351, q352, q353, q354⟩ := hQ346
  have N355 := Fr.app N335 N346q
  refine own_tr st346 ?_
  have lt356 : r < T346.heap.size := Nat.lt_of_lt_of_le lt337 K346.1
  have lt357 : arr < T346.heap.size := Nat.lt_of_lt_of_le lt338 K346.1
  have lt358 : el < T346.heap.size := Nat.lt_of_lt_of_le lt339 K346.1
  have Zs359 : n0 ≤ T346.heap.size := Nat.le_trans Zs340 K346.1
  have Kp360 : Keep h0 T346.heap [r, arr] := Kp341.trans K346 (allS (Or.inl (List.mem_of_getElem? (i := 0) rfl)) (allS (Or.inl (List.mem_of_getElem? (i := 1) rfl)) all0))
  show own_Go p e below s _ _ _ (T346.setTop (mkF m 23 #[.val (.ref r), .val (.ref el)] []))
  refine own_st (fun _ kQ => XT.iconstV X346.here hx rfl (1 : Int32) (hb hby own_d_jdk_38_method_25_code_23) (by decide) kQ) ?_
  show own_Go p e below s _ _ _ (T346.setTop (mkF m 24 #[.val (.ref r), .val (.ref el)] [(.int (1 : Int32))]))
  refine own_retN X346 hx hlk Bd.returns (t := .boolean) (z' := (1 : Int32)) (by simp) (by decide) (hb hby own_d_jdk_38_method_25_code_24) (by decide) (by decide) ?_
  skip
  exact ⟨N355, rfl, Kp360, q350, q351, q352, q353, q354⟩
theorem own_d_jdk_38_method_8_code_0 : decode jdk_38_method_8_code 0 = .ok (.aload_n 0, 1) := by decide +kernel
theorem own_d_jdk_38_method_8_code_1 : decode jdk_38_method_8_code 1 = .ok (.getfield 48, 3) := by decide +kernel
theorem own_d_jdk_38_method_8_code_4 : decode jdk_38_method_8_code 4 = .ok (.ireturn, 1) := by decide +kernel
theorem own_pn11 : plainFor (⟨"java/util/ArrayList", "size", "()I"⟩ : MethodName) = true := by decide +kernel
def own_rm_alsize_Q (Z : State) (r : Addr) (n : Int32) (h0 : Heap) (n0 : Nat) (v : Option Value) (h : Heap) (L : List Loc) : Prop := Fr n0 L ∧ v = some (.int n) ∧ h = h0
theorem own_rm_alsize_ef (m : MethodId) (r : Addr)  : entryFrame m #[(.ref r)] 1 = mkF m 0 #[.val (.ref r)] [] := by first | (simp [entryFrame, mkF, argsToLocals, Value.category]; done) | rfl
set_option maxRecDepth 65536 in
set_option maxHeartbeats 40000000 in
theorem own_rm_alsize (l : Launch) (Z : State) (a0 : Array Value) (hw : ∀ d ∈ tables_1, d.before a0 Z = true) (ws : List Jvm.Cond) (r : Addr) (n : Int32) (h0 : Heap) (n0 : Nat) (Z0 : n0 ≤ h0.size) (F1 : Fld Z h0 r "java/util/ArrayList" "size" "I" (.int n)) :
    MetFree l (⟨"java/util/ArrayList", "size", "()I"⟩ : MethodName) (head1 (Jvm.Cond.code (⟨"java/util/ArrayList", "size", "()I"⟩ : MethodName) jdk_38_method_8_code 1 (some .int) :: ws) ({ frames := 0, cells := 0, slots := 0, locals := 0 } : Room)) (fun aQ UQ => aQ = #[(.ref r)] ∧ Z.Warmed39 UQ.vm ∧ UQ.heap = h0) (fun _ _ _ _ _ => True) (fun _ UQ oQ U2 => ∃ vQ LQ, oQ = .returned vQ ∧ own_rm_alsize_Q Z r n h0 n0 vQ U2.heap LQ ∧ FrameEnd UQ oQ U2 LQ ({ frames := 0, cells := 0, slots := 0, locals := 0 } : Room).cells ({ frames := 0, cells := 0, slots := 0, locals := 0 } : Room).slots) := by
  refine MetFree.of_bodySF own_pn11 hisR ?_
  intro p e s m args below meth c s₁ Bd hml0 hP hK
  obtain ⟨rfl, hZ, hh⟩ := hP
  have hx := Bd.exec
  have hby := Bd.bytes
  have hml : c.maxLocals = 1 := hml0
  have hlk := BodyLoose.notSynchronized Bd
  have hown : s.vm.findClass "java/util/ArrayList" = some m.cls := findClass_of_methodNamed Bd.named
  have hnm := (name_of_methodNamed Bd.named Bd.method).1
  have X0 : Stand p l e ({ frames := 0, cells := 0, slots := 0, locals := 0 } : Room) s m #[(.ref r)] below meth c s₁ [] 0 0 := Stand.of_body Bd
  have e0 : s₁.heap = h0 := by rw [← hh, Bd.state]; rfl
  have N0 := Fr.nil n0
  show own_Go p e below s (own_rm_alsize_Q Z r n h0 n0) ({ frames := 0, cells := 0, slots := 0, locals := 0 } : Room).cells ({ frames := 0, cells := 0, slots := 0, locals := 0 } : Room).slots (s₁.setTop (entryFrame m #[(.ref r)] 1))
  rw [own_rm_alsize_ef]
  show own_Go p e below s _ _ _ (s₁.setTop (mkF m 0 #[.val (.ref r)] []))
  refine own_st (fun _ kQ => XS.aloadN X0.here hx rfl (hb hby own_d_jdk_38_method_8_code_0) rfl rfl kQ) ?_
  show own_Go p e below s _ _ _ (s₁.setTop (mkF m 1 #[.val (.ref r)] [(.ref r)]))
  obtain ⟨T361, X361, e361, st361⟩ := getF X0 hx hZ hown (host := "") (Or.inl (hw _ (List.mem_of_getElem? (i := 41) rfl))) Via.refl e0 F1 (g := (mkF m 1 #[.val (.ref r)] [(.ref r)])) rfl rfl (hb hby own_d_jdk_38_method_8_code_1)
  refine own_st st361 ?_
  show own_Go p e below s _ _ _ (T361.setTop (mkF m 4 #[.val (.ref r)] [(.int n)]))
  refine own_retI X361 hx hlk Bd.returns (hb hby own_d_jdk_38_method_8_code_4) (by decide) (by decide) ?_
  rw [e361]
  exact ⟨N0, rfl, rfl⟩
theorem own_d_jdk_119_method_2_code_0 : decode jdk_119_method_2_code 0 = .ok (.aload_n 0, 1) := by decide +kernel
theorem own_d_jdk_119_method_2_code_1 : decode jdk_119_method_2_code 1 = .ok (.getfield 10, 3) := by decide +kernel
theorem own_d_jdk_119_method_2_code_4 : decode jdk_119_method_2_code 4 = .ok (.invokeinterface 16 1, 5) := by decide +kernel
theorem own_d_jdk_119_method_2_code_9 : decode jdk_119_method_2_code 9 = .ok (.ireturn, 1) := by decide +kernel
theorem own_pn12 : plainFor (⟨"java/util/Collections$UnmodifiableCollection", "size", "()I"⟩ : MethodName) = true := by decide +kernel
theorem own_pd6 : parseMethodDescriptor "()I" = some ⟨[], some .int⟩ := by decide +kernel
def own_rm_ucsize_Q (Z : State) (u : Addr) (r : Addr) (n : Int32) (h0 : Heap) (n0 : Nat) (v : Option Value) (h : Heap) (L : List Loc) : Prop := Fr n0 L ∧ v = some (.int n) ∧ h = h0
theorem own_rm_ucsize_ef (m : MethodId) (u : Addr)  : entryFrame m #[(.ref u)] 1 = mkF m 0 #[.val (.ref u)] [] := by first | (simp [entryFrame, mkF, argsToLocals, Value.category]; done) | rfl
set_option maxRecDepth 65536 in
set_option maxHeartbeats 40000000 in
theorem own_rm_ucsize (l : Launch) (Z : State) (a0 : Array Value) (hw : ∀ d ∈ tables_1, d.before a0 Z = true) (ws : List Jvm.Cond) (u : Addr) (r : Addr) (n : Int32) (h0 : Heap) (n0 : Nat) (Z0 : n0 ≤ h0.size) (F1 : Fld Z h0 u "java/util/Collections$UnmodifiableCollection" "c" "Ljava/util/Collection;" (.ref r)) (E1 : Exa Z h0 r "java/util/ArrayList") (F2 : Fld Z h0 r "java/util/ArrayList" "size" "I" (.int n)) :
    MetFree l (⟨"java/util/Collections$UnmodifiableCollection", "size", "()I"⟩ : MethodName) (head1 (Jvm.Cond.code (⟨"java/util/Collections$UnmodifiableCollection", "size", "()I"⟩ : MethodName) jdk_119_method_2_code 1 (some .int) :: ws) ({ frames := 1, cells := 0, slots := 0, locals := 12 } : Room)) (fun aQ UQ => aQ = #[(.ref u)] ∧ Z.Warmed39 UQ.vm ∧ UQ.heap = h0) (fun _ _ _ _ _ => True) (fun _ UQ oQ U2 => ∃ vQ LQ, oQ = .returned vQ ∧ own_rm_ucsize_Q Z u r n h0 n0 vQ U2.heap LQ ∧ FrameEnd UQ oQ U2 LQ ({ frames := 1, cells := 0, slots := 0, locals := 12 } : Room).cells ({ frames := 1, cells := 0, slots := 0, locals := 12 } : Room).slots) := by
  refine MetFree.of_bodySF own_pn12 hisR ?_
  intro p e s m args below meth c s₁ Bd hml0 hP hK
  obtain ⟨rfl, hZ, hh⟩ := hP
  have hx := Bd.exec
  have hby := Bd.bytes
  have hml : c.maxLocals = 1 := hml0
  have hlk := BodyLoose.notSynchronized Bd
  have hown : s.vm.findClass "java/util/Collections$UnmodifiableCollection" = some m.cls := findClass_of_methodNamed Bd.named
  have hnm := (name_of_methodNamed Bd.named Bd.method).1
  have X0 : Stand p l e ({ frames := 1, cells := 0, slots := 0, locals := 12 } : Room) s m #[(.ref u)] below meth c s₁ [] 0 0 := Stand.of_body Bd
  have e0 : s₁.heap = h0 := by rw [← hh, Bd.state]; rfl
  have N0 := Fr.nil n0
  show own_Go p e below s (own_rm_ucsize_Q Z u r n h0 n0) ({ frames := 1, cells := 0, slots := 0, locals := 12 } : Room).cells ({ frames := 1, cells := 0, slots := 0, locals := 12 } : Room).slots (s₁.setTop (entryFrame m #[(.ref u)] 1))
  rw [own_rm_ucsize_ef]
  show own_Go p e below s _ _ _ (s₁.setTop (mkF m 0 #[.val (.ref u)] []))
  refine own_st (fun _ kQ => XS.aloadN X0.here hx rfl (hb hby own_d_jdk_119_method_2_code_0) rfl rfl kQ) ?_
  show own_Go p e below s _ _ _ (s₁.setTop (mkF m 1 #[.val (.ref u)] [(.ref u)]))
  obtain ⟨T362, X362, e362, st362⟩ := getF X0 hx hZ hown (host := "") (Or.inl (hw _ (List.mem_of_getElem? (i := 115) rfl))) Via.refl e0 F1 (g := (mkF m 1 #[.val (.ref u)] [(.ref u)])) rfl rfl (hb hby own_d_jdk_119_method_2_code_1)
  refine own_st st362 ?_
  show own_Go p e below s _ _ _ (T362.setTop (mkF m 4 #[.val (.ref u)] [(.ref r)]))
  obtain ⟨cq363, kq363, q363a, q363b, q363c⟩ := isOf hZ e362 E1
  obtain ⟨_, _, ⟨T363, L363, k363, n363⟩, -, X363, ⟨Lc363, hQ363, l363, y363, z363⟩, st363⟩ := X362.interfaceBack hx (xi := (⟨"java/util/Collection", "size", "()I"⟩ : MethodName)) (y := (⟨"java/util/ArrayList", "size", "()I"⟩ : MethodName)) hown (mvT hZ (hw _ (List.mem_of_getElem? (i := 135) rfl))) (mvT hZ (hw _ (List.mem_of_getElem? (i := 136) rfl))) (mvT hZ (hw _ (List.mem_of_getElem? (i := 137) rfl))) (mvT hZ (hw _ (List.mem_of_getElem? (i := 138) rfl))) (mvT hZ (hw _ (List.mem_of_getElem? (i := 139) rfl))) (mvT hZ (hw _ (List.mem_of_getElem? (i := 140) rfl))) (mvT hZ (hw _ (List.mem_of_getElem? (i := 141) rfl))) (mvT hZ (hw _ (List.mem_of_getElem? (i := 142) rfl))) (by decide) (backOf (W := 0) (own_rm_alsize l Z a0 hw [] r n h0 n0 Z0 F2) hZ (hw _ (List.mem_of_getElem? (i := 143) rfl)) (hw _ (List.mem_of_getElem? (i := 3) rfl)) (by decide) (by decide)) q363a q363b q363c (g := (mkF m 4 #[.val (.ref u)] [(.ref r)])) rfl (by rw [hml]; rfl) (Steps.refl _) (argsL := []) (rest := []) (lenOf own_pd6 rfl) rfl (by show 2 * 0 + _ ≤ _; exact Nat.le_of_eq rfl) (hb hby own_d_jdk_119_method_2_code_4) (fun _ _ => ⟨rfl, e362, (by decide : 0 + 0 ≤ _), (by decide : 0 + 0 ≤ _)⟩)
  dsimp only [Pt.U, Pt.locs, Pt.cells, Pt.slots] at X363 l363 y363 z363 st363 hQ363
  subst l363 y363 z363
  obtain ⟨N363q, rfl, eh363⟩ := hQ363
  have N364 := Fr.app N0 N363q
  refine own_tr st363 ?_
  show own_Go p e below s _ _ _ (T363.setTop (mkF m 9 #[.val (.ref u)] [(.int n)]))
  refine own_retI X363 hx hlk Bd.returns (hb hby own_d_jdk_119_method_2_code_9) (by decide) (by decide) ?_
  rw [eh363]
  exact ⟨N364, rfl, rfl⟩
theorem own_d_jdk_119_method_1_code_0 : decode jdk_119_method_1_code 0 = .ok (.aload_n 0, 1) := by decide +kernel
theorem own_d_jdk_119_method_1_code_1 : decode jdk_119_method_1_code 1 = .ok (.invokespecial 1, 3) := by decide +kernel
theorem own_d_jdk_119_method_1_code_4 : decode jdk_119_method_1_code 4 = .ok (.aload_n 1, 1) := by decide +kernel
theorem own_d_jdk_119_method_1_code_5 : decode jdk_119_method_1_code 5 = .ok (.ifnonnull 11, 3) := by decide +kernel
theorem own_d_jdk_119_method_1_code_8 : decode jdk_119_method_1_code 8 = .ok (.new 7, 3) := by decide +kernel
theorem own_d_jdk_119_method_1_code_11 : decode jdk_119_method_1_code 11 = .ok (.dup, 1) := by decide +kernel
theorem own_d_jdk_119_method_1_code_12 : decode jdk_119_method_1_code 12 = .ok (.invokespecial 9, 3) := by decide +kernel
theorem own_d_jdk_119_method_1_code_15 : decode jdk_119_method_1_code 15 = .ok (.athrow, 1) := by decide +kernel
theorem own_d_jdk_119_method_1_code_16 : decode jdk_119_method_1_code 16 = .ok (.aload_n 0, 1) := by decide +kernel
theorem own_d_jdk_119_method_1_code_17 : decode jdk_119_method_1_code 17 = .ok (.aload_n 1, 1) := by decide +kernel
theorem own_d_jdk_119_method_1_code_18 : decode jdk_119_method_1_code 18 = .ok (.putfield 10, 3) := by decide +kernel
theorem own_d_jdk_119_method_1_code_21 : decode jdk_119_method_1_code 21 = .ok (.return_, 1) := by decide +kernel
theorem own_pn13 : plainFor (⟨"java/util/Collections$UnmodifiableCollection", "<init>", "(Ljava/util/Collection;)V"⟩ : MethodName) = true := by decide +kernel
def own_rm_ucinit_Q (Z : State) (u : Addr) (r : Addr) (h0 : Heap) (n0 : Nat) (v : Option Value) (h : Heap) (L : List Loc) : Prop := Fr n0 L ∧ v = none ∧ Keep h0 h [u] ∧ Exa Z h u "java/util/Collections$UnmodifiableRandomAccessList" ∧ Fld Z h u "java/util/Collections$UnmodifiableCollection" "c" "Ljava/util/Collection;" (.ref r) ∧ Fld Z h u "java/util/Collections$UnmodifiableList" "list" "Ljava/util/List;" .null
theorem own_rm_ucinit_ef (m : MethodId) (u : Addr) (r : Addr)  : entryFrame m #[(.ref u), (.ref r)] 2 = mkF m 0 #[.val (.ref u), .val (.ref r)] [] := by first | (simp [entryFrame, mkF, argsToLocals, Value.category]; done) | rfl
set_option maxRecDepth 65536 in
set_option maxHeartbeats 40000000 in
theorem own_rm_ucinit (l : Launch) (Z : State) (a0 : Array Value) (hw : ∀ d ∈ tables_1, d.before a0 Z = true) (ws : List Jvm.Cond) (u : Addr) (r : Addr) (h0 : Heap) (n0 : Nat) (Z0 : n0 ≤ h0.size) (E1 : Exa Z h0 u "java/util/Collections$UnmodifiableRandomAccessList") (F0 : Fld Z h0 u "java/util/Collections$UnmodifiableCollection" "c" "Ljava/util/Collection;" .null) (F1 : Fld Z h0 u "java/util/Collections$UnmodifiableList" "list" "Ljava/util/List;" .null) (g1 : n0 ≤ u) :
    MetFree l (⟨"java/util/Collections$UnmodifiableCollection", "<init>", "(Ljava/util/Collection;)V"⟩ : MethodName) (head1 (Jvm.Cond.code (⟨"java/util/Collections$UnmodifiableCollection", "<init>", "(Ljava/util/Collection;)V"⟩ : MethodName) jdk_119_method_1_code 2 none :: ws) ({ frames := 1, cells := 0, slots := 0, locals := 12 } : Room)) (fun aQ UQ => aQ = #[(.ref u), (.ref r)] ∧ Z.Warmed39 UQ.vm ∧ UQ.heap = h0) (fun _ _ _ _ _ => True) (fun _ UQ oQ U2 => ∃ vQ LQ, oQ = .returned vQ ∧ own_rm_ucinit_Q Z u r h0 n0 vQ U2.heap LQ ∧ FrameEnd UQ oQ U2 LQ ({ frames := 1, cells := 0, slots := 0, locals := 12 } : Room).cells ({ frames := 1, cells := 0, slots := 0, locals := 12 } : Room).slots) := by
  refine MetFree.of_bodySF own_pn13 hisR ?_
  intro p e s m args below meth c s₁ Bd hml0 hP hK
  obtain ⟨rfl, hZ, hh⟩ := hP
  have hx := Bd.exec
  have hby := Bd.bytes
  have hml : c.maxLocals = 2 := hml0
  have hlk := BodyLoose.notSynchronized Bd
  have hown : s.vm.findClass "java/util/Collections$UnmodifiableCollection" = some m.cls := findClass_of_methodNamed Bd.named
  have hnm := (name_of_methodNamed Bd.named Bd.method).1
  have X0 : Stand p l e ({ frames := 1, cells := 0, slots := 0, locals := 12 } : Room) s m #[(.ref u), (.ref r)] below meth c s₁ [] 0 0 := Stand.of_body Bd
  have e0 : s₁.heap = h0 := by rw [← hh, Bd.state]; rfl
  have N0 := Fr.nil n0
  have Kp0 : Keep h0 h0 [u] := Keep.refl _ _
  show own_Go p e below s (own_rm_ucinit_Q Z u r h0 n0) ({ frames := 1, cells := 0, slots := 0, locals := 12 } : Room).cells ({ frames := 1, cells := 0, slots := 0, locals := 12 } : Room).slots (s₁.setTop (entryFrame m #[(.ref u), (.ref r)] 2))
  rw [own_rm_ucinit_ef]
  show own_Go p e below s _ _ _ (s₁.setTop (mkF m 0 #[.val (.ref u), .val (.ref r)] []))
  refine own_st (fun _ kQ => XS.aloadN X0.here hx rfl (hb hby own_d_jdk_119_method_1_code_0) rfl rfl kQ) ?_
  show own_Go p e below s _ _ _ (s₁.setTop (mkF m 1 #[.val (.ref u), .val (.ref r)] [(.ref u)]))
  obtain ⟨T365, X365, e365, st365⟩ := initO X0 hx hZ hown (hw _ (List.mem_of_getElem? (i := 114) rfl)) (hw _ (List.mem_of_getElem? (i := 20) rfl)) (hw _ (List.mem_of_getElem? (i := 21) rfl)) e0 (g := (mkF m 1 #[.val (.ref u), .val (.ref r)] [(.ref u)])) rfl (by rw [hml]; rfl) rfl (hb hby own_d_jdk_119_method_1_code_1) (by decide) (W := 0) (by show 2 * 0 + _ ≤ _; exact Nat.le_of_eq rfl) (by decide)
  refine own_st st365 ?_
  show own_Go p e below s _ _ _ (T365.setTop (mkF m 4 #[.val (.ref u), .val (.ref r)] []))
  refine own_st (fun _ kQ => XS.aloadN X365.here hx rfl (hb hby own_d_jdk_119_method_1_code_4) rfl rfl kQ) ?_
  show own_Go p e below s _ _ _ (T365.setTop (mkF m 5 #[.val (.ref u), .val (.ref r)] [(.ref r)]))
  refine own_st (fun _ kQ => XT.ifnonnullYes X365.here hx rfl (pc0 := 5) (pc' := 16) rfl (hb hby own_d_jdk_119_method_1_code_5) rfl (by decide) (by decide) kQ) ?_
  show own_Go p e below s _ _ _ (T365.setTop (mkF m 16 #[.val (.ref u), .val (.ref r)] []))
  refine own_st (fun _ kQ => XS.aloadN X365.here hx rfl (hb hby own_d_jdk_119_method_1_code_16) rfl rfl kQ) ?_
  show own_Go p e below s _ _ _ (T365.setTop (mkF m 17 #[.val (.ref u), .val (.ref r)] [(.ref u)]))
  refine own_st (fun _ kQ => XS.aloadN X365.here hx rfl (hb hby own_d_jdk_119_method_1_code_17) rfl rfl kQ) ?_
  show own_Go p e below s _ _ _ (T365.setTop (mkF m 18 #[.val (.ref u), .val (.ref r)] [(.ref r), (.ref u)]))
  obtain ⟨T366, h366, X366, e366, W366, st366⟩ := putF X365 hx hZ hown (host := "") (Or.inl (hw _ (List.mem_of_getElem? (i := 115) rfl))) Via.refl e365 F0 E1 (Or.inr ⟨(hw _ (List.mem_of_getElem? (i := 116) rfl)), rfl, hnm⟩) (hw _ (List.mem_of_getElem? (i := 97) rfl)) (ty := (.object "java/util/Collection")) (by decide) rfl rfl (g := (mkF m 18 #[.val (.ref u), .val (.ref r)] [(.ref r), (.ref u)])) rfl rfl (hb hby own_d_jdk_119_method_1_code_18)
  refine own_st st366 ?_
  have N367 := Fr.snoc X366 N0 g1
  have F368 : Fld Z h366 u "java/util/Collections$UnmodifiableCollection" "c" "Ljava/util/Collection;" (.ref r) := F0.same W366
  have lt369 : u < h366.size := Nat.lt_of_lt_of_le F1.lt (Nat.le_of_eq W366.size.symm)
  have Zs370 : n0 ≤ h366.size := Nat.le_trans Z0 (Nat.le_of_eq W366.size.symm)
  have Kp371 : Keep h0 h366 [u] := Kp0.wr W366 (Or.inl (List.mem_of_getElem? (i := 0) rfl))
  show own_Go p e below s _ _ _ (T366.setTop (mkF m 21 #[.val (.ref u), .val (.ref r)] []))
  have F372 : Exa Z h366 u "java/util/Collections$UnmodifiableRandomAccessList" := (E1.wr W366)
  have F373 : Fld Z h366 u "java/util/Collections$UnmodifiableList" "list" "Ljava/util/List;" .null := (F1.other W366 (Or.inr (slot_ne (Or.inr (hw _ (List.mem_of_getElem? (i := 118) rfl))) (Or.inr (hw _ (List.mem_of_getElem? (i := 116) rfl))) (by decide) (t := (.object "java/util/List")) (t' := (.object "java/util/Collection")) (by decide) (by decide))))
  refine own_ret0 X366 hx hlk Bd.returns (hb hby own_d_jdk_119_method_1_code_21) (by decide) (by decide) ?_
  rw [e366]
  exact ⟨N367, rfl, Kp371, F372, F368, F373⟩
theorem own_d_jdk_120_method_1_code_0 : decode jdk_120_method_1_code 0 = .ok (.aload_n 0, 1) := by decide +kernel
theorem own_d_jdk_120_method_1_code_1 : decode jdk_120_method_1_code 1 = .ok (.aload_n 1, 1) := by decide +kernel
theorem own_d_jdk_120_method_1_code_2 : decode jdk_120_method_1_code 2 = .ok (.invokespecial 1, 3) := by decide +kernel
theorem own_d_jdk_120_method_1_code_5 : decode jdk_120_method_1_code 5 = .ok (.aload_n 0, 1) := by decide +kernel
theorem own_d_jdk_120_method_1_code_6 : decode jdk_120_method_1_code 6 = .ok (.aload_n 1, 1) := by decide +kernel
theorem own_d_jdk_120_method_1_code_7 : decode jdk_120_method_1_code 7 = .ok (.putfield 7, 3) := by decide +kernel
theorem own_d_jdk_120_method_1_code_10 : decode jdk_120_method_1_code 10 = .ok (.return_, 1) := by decide +kernel
theorem own_pn14 : plainFor (⟨"java/util/Collections$UnmodifiableList", "<init>", "(Ljava/util/List;)V"⟩ : MethodName) = true := by decide +kernel
theorem own_pd7 : parseMethodDescriptor "(Ljava/util/Collection;)V" = some ⟨[(.object "java/util/Collection")], none⟩ := by decide +kernel
def own_rm_ulinit_Q (Z : State) (u : Addr) (r : Addr) (h0 : Heap) (n0 : Nat) (v : Option Value) (h : Heap) (L : List Loc) : Prop := Fr n0 L ∧ v = none ∧ Keep h0 h [u] ∧ Exa Z h u "java/util/Collections$UnmodifiableRandomAccessList" ∧ Fld Z h u "java/util/Collections$UnmodifiableCollection" "c" "Ljava/util/Collection;" (.ref r) ∧ Fld Z h u "java/util/Collections$UnmodifiableList" "list" "Ljava/util/List;" (.ref r)
theorem own_rm_ulinit_ef (m : MethodId) (u : Addr) (r : Addr)  : entryFrame m #[(.ref u), (.ref r)] 2 = mkF m 0 #[.val (.ref u), .val (.ref r)] [] := by first | (simp [entryFrame, mkF, argsToLocals, Value.category]; done) | rfl
set_option maxRecDepth 65536 in
set_option maxHeartbeats 40000000 in
theorem own_rm_ulinit (l : Launch) (Z : State) (a0 : Array Value) (hw : ∀ d ∈ tables_1, d.before a0 Z = true) (ws : List Jvm.Cond) (u : Addr) (r : Addr) (h0 : Heap) (n0 : Nat) (Z0 : n0 ≤ h0.size) (E1 : Exa Z h0 u "java/util/Collections$UnmodifiableRandomAccessList") (F0 : Fld Z h0 u "java/util/Collections$UnmodifiableCollection" "c" "Ljava/util/Collection;" .null) (F1 : Fld Z h0 u "java/util/Collections$UnmodifiableList" "list" "Ljava/util/List;" .null) (g1 : n0 ≤ u) :
    MetFree l (⟨"java/util/Collections$UnmodifiableList", "<init>", "(Ljava/util/List;)V"⟩ : MethodName) (head1 (Jvm.Cond.code (⟨"java/util/Collections$UnmodifiableList", "<init>", "(Ljava/util/List;)V"⟩ : MethodName) jdk_120_method_1_code 2 none :: ws) ({ frames := 2, cells := 0, slots := 0, locals := 25 } : Room)) (fun aQ UQ => aQ = #[(.ref u), (.ref r)] ∧ Z.Warmed39 UQ.vm ∧ UQ.heap = h0) (fun _ _ _ _ _ => True) (fun _ UQ oQ U2 => ∃ vQ LQ, oQ = .returned vQ ∧ own_rm_ulinit_Q Z u r h0 n0 vQ U2.heap LQ ∧ FrameEnd UQ oQ U2 LQ ({ frames := 2, cells := 0, slots := 0, locals := 25 } : Room).cells ({ frames := 2, cells := 0, slots := 0, locals := 25 } : Room).slots) := by
  refine MetFree.of_bodySF own_pn14 hisR ?_
  intro p e s m args below meth c s₁ Bd hml0 hP hK
  obtain ⟨rfl, hZ, hh⟩ := hP
  have hx := Bd.exec
  have hby := Bd.bytes
  have hml : c.maxLocals = 2 := hml0
  have hlk := BodyLoose.notSynchronized Bd
  have hown : s.vm.findClass "java/util/Collections$UnmodifiableList" = some m.cls := findClass_of_methodNamed Bd.named
  have hnm := (name_of_methodNamed Bd.named Bd.method).1
  have X0 : Stand p l e ({ frames := 2, cells := 0, slots := 0, locals := 25 } : Room) s m #[(.ref u), (.ref r)] below meth c s₁ [] 0 0 := Stand.of_body Bd
  have e0 : s₁.heap = h0 := by rw [← hh, Bd.state]; rfl
  have N0 := Fr.nil n0
  have Kp0 : Keep h0 h0 [u] := Keep.refl _ _
  show own_Go p e below s (own_rm_ulinit_Q Z u r h0 n0) ({ frames := 2, cells := 0, slots := 0, locals := 25 } : Room).cells ({ frames := 2, cells := 0, slots := 0, locals := 25 } : Room).slots (s₁.setTop (entryFrame m #[(.ref u), (.ref r)] 2))
  rw [own_rm_ulinit_ef]
  show own_Go p e below s _ _ _ (s₁.setTop (mkF m 0 #[.val (.ref u), .val (.ref r)] []))
  refine own_st (fun _ kQ => XS.aloadN X0.here hx rfl (hb hby own_d_jdk_120_method_1_code_0) rfl rfl kQ) ?_
  show own_Go p e below s _ _ _ (s₁.setTop (mkF m 1 #[.val (.ref u), .val (.ref r)] [(.ref u)]))
  refine own_st (fun _ kQ => XS.aloadN X0.here hx rfl (hb hby own_d_jdk_120_method_1_code_1) rfl rfl kQ) ?_
  show own_Go p e below s _ _ _ (s₁.setTop (mkF m 2 #[.val (.ref u), .val (.ref r)] [(.ref r), (.ref u)]))
  obtain ⟨_, _, ⟨T374, L374, k374, n374⟩, -, X374, ⟨Lc374, hQ374, l374, y374, z374⟩, st374⟩ := X0.specialBack hx (y := (⟨"java/util/Collections$UnmodifiableCollection", "<init>", "(Ljava/util/Collection;)V"⟩ : MethodName)) rfl hown (mvT hZ (hw _ (List.mem_of_getElem? (i := 108) rfl))) (mvT hZ (hw _ (List.mem_of_getElem? (i := 109) rfl))) (mvT hZ (hw _ (List.mem_of_getElem? (i := 113) rfl))) (by decide) (backOf (W := 0) (own_rm_ucinit l Z a0 hw [] u r h0 n0 Z0 E1 F0 F1 g1) hZ (hw _ (List.mem_of_getElem? (i := 113) rfl)) (hw _ (List.mem_of_getElem? (i := 112) rfl)) (by decide) (by decide)) (g := (mkF m 2 #[.val (.ref u), .val (.ref r)] [(.ref r), (.ref u)])) rfl (by rw [hml]; rfl) (Steps.refl _) (a := u) (argsL := [(.ref r)]) (rest := []) (lenOf own_pd7 rfl) rfl (by show 2 * 0 + _ ≤ _; exact Nat.le_of_eq rfl) (hb hby own_d_jdk_120_method_1_code_2) (fun _ _ => ⟨rfl, e0, (by decide : 0 + 0 ≤ _), (by decide : 0 + 0 ≤ _)⟩)
  dsimp only [Pt.U, Pt.locs, Pt.cells, Pt.slots] at X374 l374 y374 z374 st374 hQ374
  subst l374 y374 z374
  obtain ⟨N374q, rfl, K374, q375, q376, q377⟩ := hQ374
  have N378 := Fr.app N0 N374q
  refine own_tr st374 ?_
  have lt379 : u < T374.heap.size := Nat.lt_of_lt_of_le F1.lt K374.1
  have Zs380 : n0 ≤ T374.heap.size := Nat.le_trans Z0 K374.1
  have Kp381 : Keep h0 T374.heap [u] := Kp0.trans K374 (allS (Or.inl (List.mem_of_getElem? (i := 0) rfl)) all0)
  show own_Go p e below s _ _ _ (T374.setTop (mkF m 5 #[.val (.ref u), .val (.ref r)] []))
  refine own_st (fun _ kQ => XS.aloadN X374.here hx rfl (hb hby own_d_jdk_120_method_1_code_5) rfl rfl kQ) ?_
  show own_Go p e below s _ _ _ (T374.setTop (mkF m 6 #[.val (.ref u), .val (.ref r)] [(.ref u)]))
  refine own_st (fun _ kQ => XS.aloadN X374.here hx rfl (hb hby own_d_jdk_120_method_1_code_6) rfl rfl kQ) ?_
  show own_Go p e below s _ _ _ (T374.setTop (mkF m 7 #[.val (.ref u), .val (.ref r)] [(.ref r), (.ref u)]))
  obtain ⟨T382, h382, X382, e382, W382, st382⟩ := putF X374 hx hZ hown (host := "") (Or.inl (hw _ (List.mem_of_getElem? (i := 117) rfl))) Via.refl rfl q377 q375 (Or.inr ⟨(hw _ (List.mem_of_getElem? (i := 118) rfl)), rfl, hnm⟩) (hw _ (List.mem_of_getElem? (i := 97) rfl)) (ty := (.object "java/util/List")) (by decide) rfl rfl (g := (mkF m 7 #[.val (.ref u), .val (.ref r)] [(.ref r), (.ref u)])) rfl rfl (hb hby own_d_jdk_120_method_1_code_7)
  refine own_st st382 ?_
  have N383 := Fr.snoc X382 N378 g1
  have F384 : Fld Z h382 u "java/util/Collections$UnmodifiableList" "list" "Ljava/util/List;" (.ref r) := q377.same W382
  have lt385 : u < h382.size := Nat.lt_of_lt_of_le q377.lt (Nat.le_of_eq W382.size.symm)
  have Zs386 : n0 ≤ h382.size := Nat.le_trans Zs380 (Nat.le_of_eq W382.size.symm)
  have Kp387 : Keep h0 h382 [u] := Kp381.wr W382 (Or.inl (List.mem_of_getElem? (i := 0) rfl))
  show own_Go p e below s _ _ _ (T382.setTop (mkF m 10 #[.val (.ref u), .val (.ref r)] []))
  have F388 : Exa Z h382 u "java/util/Collections$UnmodifiableRandomAccessList" := (q375.wr W382)
  have F389 : Fld Z h382 u "java/util/Collections$UnmodifiableCollection" "c" "Ljava/util/Collection;" (.ref r) := (q376.other W382 (Or.inr (slot_ne (Or.inr (hw _ (List.mem_of_getElem? (i := 116) rfl))) (Or.inr (hw _ (List.mem_of_getElem? (i := 118) rfl))) (by decide) (t := (.object "java/util/Collection")) (t' := (.object "java/util/List")) (by decide) (by decide))))
  refine own_ret0 X382 hx hlk Bd.returns (hb hby own_d_jdk_120_method_1_code_10) (by decide) (by decide) ?_
  rw [e382]
  exact ⟨N383, rfl, Kp387, F388, F389, F384⟩
theorem own_d_jdk_121_method_1_code_0 : decode jdk_121_method_1_code 0 = .ok (.aload_n 0, 1) := by decide +kernel
theorem own_d_jdk_121_method_1_code_1 : decode jdk_121_method_1_code 1 = .ok (.aload_n 1, 1) := by decide +kernel
theorem own_d_jdk_121_method_1_code_2 : decode jdk_121_method_1_code 2 = .ok (.invokespecial 1, 3) := by decide +kernel
theorem own_d_jdk_121_method_1_code_5 : decode jdk_121_method_1_code 5 = .ok (.return_, 1) := by decide +kernel
theorem own_pn15 : plainFor (⟨"java/util/Collections$UnmodifiableRandomAccessList", "<init>", "(Ljava/util/List;)V"⟩ : MethodName) = true := by decide +kernel
theorem own_pd8 : parseMethodDescriptor "(Ljava/util/List;)V" = some ⟨[(.object "java/util/List")], none⟩ := by decide +kernel
def own_rm_urinit_Q (Z : State) (u : Addr) (r : Addr) (h0 : Heap) (n0 : Nat) (v : Option Value) (h : Heap) (L : List Loc) : Prop := Fr n0 L ∧ v = none ∧ Keep h0 h [u] ∧ Exa Z h u "java/util/Collections$UnmodifiableRandomAccessList" ∧ Fld Z h u "java/util/Collections$UnmodifiableCollection" "c" "Ljava/util/Collection;" (.ref r) ∧ Fld Z h u "java/util/Collections$UnmodifiableList" "list" "Ljava/util/List;" (.ref r)
theorem own_rm_urinit_ef (m : MethodId) (u : Addr) (r : Addr)  : entryFrame m #[(.ref u), (.ref r)] 2 = mkF m 0 #[.val (.ref u), .val (.ref r)] [] := by first | (simp [entryFrame, mkF, argsToLocals, Value.category]; done) | rfl
set_option maxRecDepth 65536 in
set_option maxHeartbeats 40000000 in
theorem own_rm_urinit (l : Launch) (Z : State) (a0 : Array Value) (hw : ∀ d ∈ tables_1, d.before a0 Z = true) (ws : List Jvm.Cond) (u : Addr) (r : Addr) (h0 : Heap) (n0 : Nat) (Z0 : n0 ≤ h0.size) (E1 : Exa Z h0 u "java/util/Collections$UnmodifiableRandomAccessList") (F0 : Fld Z h0 u "java/util/Collections$UnmodifiableCollection" "c" "Ljava/util/Collection;" .null) (F1 : Fld Z h0 u "java/util/Collections$UnmodifiableList" "list" "Ljava/util/List;" .null) (g1 : n0 ≤ u) :
    MetFree l (⟨"java/util/Collections$UnmodifiableRandomAccessList", "<init>", "(Ljava/util/List;)V"⟩ : MethodName) (head1 (Jvm.Cond.code (⟨"java/util/Collections$UnmodifiableRandomAccessList", "<init>", "(Ljava/util/List;)V"⟩ : MethodName) jdk_121_method_1_code 2 none :: ws) ({ frames := 3, cells := 0, slots := 0, locals := 38 } : Room)) (fun aQ UQ => aQ = #[(.ref u), (.ref r)] ∧ Z.Warmed39 UQ.vm ∧ UQ.heap = h0) (fun _ _ _ _ _ => True) (fun _ UQ oQ U2 => ∃ vQ LQ, oQ = .returned vQ ∧ own_rm_urinit_Q Z u r h0 n0 vQ U2.heap LQ ∧ FrameEnd UQ oQ U2 LQ ({ frames := 3, cells := 0, slots := 0, locals := 38 } : Room).cells ({ frames := 3, cells := 0, slots := 0, locals := 38 } : Room).slots) := by
  refine MetFree.of_bodySF own_pn15 hisR ?_
  intro p e s m args below meth c s₁ Bd hml0 hP hK
  obtain ⟨rfl, hZ, hh⟩ := hP
  have hx := Bd.exec
  have hby := Bd.bytes
  have hml : c.maxLocals = 2 := hml0
  have hlk := BodyLoose.notSynchronized Bd
  have hown : s.vm.findClass "java/util/Collections$UnmodifiableRandomAccessList" = some m.cls := findClass_of_methodNamed Bd.named
  have hnm := (name_of_methodNamed Bd.named Bd.method).1
  have X0 : Stand p l e ({ frames := 3, cells := 0, slots := 0, locals := 38 } : Room) s m #[(.ref u), (.ref r)] below meth c s₁ [] 0 0 := Stand.of_body Bd
  have e0 : s₁.heap = h0 := by rw [← hh, Bd.state]; rfl
  have N0 := Fr.nil n0
  have Kp0 : Keep h0 h0 [u] := Keep.refl _ _
  show own_Go p e below s (own_rm_urinit_Q Z u r h0 n0) ({ frames := 3, cells := 0, slots := 0, locals := 38 } : Room).cells ({ frames := 3, cells := 0, slots := 0, locals := 38 } : Room).slots (s₁.setTop (entryFrame m #[(.ref u), (.ref r)] 2))
  rw [own_rm_urinit_ef]
  show own_Go p e below s _ _ _ (s₁.setTop (mkF m 0 #[.val (.ref u), .val (.ref r)] []))
  refine own_st (fun _ kQ => XS.aloadN X0.here hx rfl (hb hby own_d_jdk_121_method_1_code_0) rfl rfl kQ) ?_
  show own_Go p e below s _ _ _ (s₁.setTop (mkF m 1 #[.val (.ref u), .val (.ref r)] [(.ref u)]))
  refine own_st (fun _ kQ => XS.aloadN X0.here hx rfl (hb hby own_d_jdk_121_method_1_code_1) rfl rfl kQ) ?_
  show own_Go p e below s _ _ _ (s₁.setTop (mkF m 2 #[.val (.ref u), .val (.ref r)] [(.ref r), (.ref u)]))
  obtain ⟨_, _, ⟨T390, L390, k390, n390⟩, -, X390, ⟨Lc390, hQ390, l390, y390, z390⟩, st390⟩ := X0.specialBack hx (y := (⟨"java/util/Collections$UnmodifiableList", "<init>", "(Ljava/util/List;)V"⟩ : MethodName)) rfl hown (mvT hZ (hw _ (List.mem_of_getElem? (i := 102) rfl))) (mvT hZ (hw _ (List.mem_of_getElem? (i := 103) rfl))) (mvT hZ (hw _ (List.mem_of_getElem? (i := 107) rfl))) (by decide) (backOf (W := 0) (own_rm_ulinit l Z a0 hw [] u r h0 n0 Z0 E1 F0 F1 g1) hZ (hw _ (List.mem_of_getElem? (i := 107) rfl)) (hw _ (List.mem_of_getElem? (i := 106) rfl)) (by decide) (by decide)) (g := (mkF m 2 #[.val (.ref u), .val (.ref r)] [(.ref r), (.ref u)])) rfl (by rw [hml]; rfl) (Steps.refl _) (a := u) (argsL := [(.ref r)]) (rest := []) (lenOf own_pd8 rfl) rfl (by show 2 * 0 + _ ≤ _; exact Nat.le_of_eq rfl) (hb hby own_d_jdk_121_method_1_code_2) (fun _ _ => ⟨rfl, e0, (by decide : 0 + 0 ≤ _), (by decide : 0 + 0 ≤ _)⟩)
  dsimp only [Pt.U, Pt.locs, Pt.cells, Pt.slots] at X390 l390 y390 z390 st390 hQ390
  subst l390 y390 z390
  obtain ⟨N390q, rfl, K390, q391, q392, q393⟩ := hQ390
  have N394 := Fr.app N0 N390q
  refine own_tr st390 ?_
  have lt395 : u < T390.heap.size := Nat.lt_of_lt_of_le F1.lt K390.1
  have Zs396 : n0 ≤ T390.heap.size := Nat.le_trans Z0 K390.1
  have Kp397 : Keep h0 T390.heap [u] := Kp0.trans K390 (allS (Or.inl (List.mem_of_getElem? (i := 0) rfl)) all0)
  show own_Go p e below s _ _ _ (T390.setTop (mkF m 5 #[.val (.ref u), .val (.ref r)] []))
  refine own_ret0 X390 hx hlk Bd.returns (hb hby own_d_jdk_121_method_1_code_5) (by decide) (by decide) ?_
  skip
  exact ⟨N394, rfl, Kp397, q391, q392, q393⟩
theorem own_d_jdk_79_method_35_code_0 : decode jdk_79_method_35_code 0 = .ok (.aload_n 0, 1) := by decide +kernel
theorem own_d_jdk_79_method_35_code_1 : decode jdk_79_method_35_code 1 = .ok (.invokeinterface 211 1, 5) := by decide +kernel
theorem own_d_jdk_79_method_35_code_6 : decode jdk_79_method_35_code 6 = .ok (.ldc 212, 2) := by decide +kernel
theorem own_d_jdk_79_method_35_code_8 : decode jdk_79_method_35_code 8 = .ok (.if_acmp .eq 14, 3) := by decide +kernel
theorem own_d_jdk_79_method_35_code_11 : decode jdk_79_method_35_code 11 = .ok (.aload_n 0, 1) := by decide +kernel
theorem own_d_jdk_79_method_35_code_12 : decode jdk_79_method_35_code 12 = .ok (.invokeinterface 214 1, 5) := by decide +kernel
theorem own_d_jdk_79_method_35_code_17 : decode jdk_79_method_35_code 17 = .ok (.ldc 215, 2) := by decide +kernel
theorem own_d_jdk_79_method_35_code_19 : decode jdk_79_method_35_code 19 = .ok (.if_acmp .ne 5, 3) := by decide +kernel
theorem own_d_jdk_79_method_35_code_22 : decode jdk_79_method_35_code 22 = .ok (.aload_n 0, 1) := by decide +kernel
theorem own_d_jdk_79_method_35_code_23 : decode jdk_79_method_35_code 23 = .ok (.areturn, 1) := by decide +kernel
theorem own_d_jdk_79_method_35_code_24 : decode jdk_79_method_35_code 24 = .ok (.aload_n 0, 1) := by decide +kernel
theorem own_d_jdk_79_method_35_code_25 : decode jdk_79_method_35_code 25 = .ok (.instanceof 13, 3) := by decide +kernel
theorem own_d_jdk_79_method_35_code_28 : decode jdk_79_method_35_code 28 = .ok (.ifCond .eq 14, 3) := by decide +kernel
theorem own_d_jdk_79_method_35_code_31 : decode jdk_79_method_35_code 31 = .ok (.new 215, 3) := by decide +kernel
theorem own_d_jdk_79_method_35_code_34 : decode jdk_79_method_35_code 34 = .ok (.dup, 1) := by decide +kernel
theorem own_d_jdk_79_method_35_code_35 : decode jdk_79_method_35_code 35 = .ok (.aload_n 0, 1) := by decide +kernel
theorem own_d_jdk_79_method_35_code_36 : decode jdk_79_method_35_code 36 = .ok (.invokespecial 217, 3) := by decide +kernel
theorem own_d_jdk_79_method_35_code_39 : decode jdk_79_method_35_code 39 = .ok (.goto 11, 3) := by decide +kernel
theorem own_d_jdk_79_method_35_code_42 : decode jdk_79_method_35_code 42 = .ok (.new 212, 3) := by decide +kernel
theorem own_d_jdk_79_method_35_code_45 : decode jdk_79_method_35_code 45 = .ok (.dup, 1) := by decide +kernel
theorem own_d_jdk_79_method_35_code_46 : decode jdk_79_method_35_code 46 = .ok (.aload_n 0, 1) := by decide +kernel
theorem own_d_jdk_79_method_35_code_47 : decode jdk_79_method_35_code 47 = .ok (.invokespecial 219, 3) := by decide +kernel
theorem own_d_jdk_79_method_35_code_50 : decode jdk_79_method_35_code 50 = .ok (.areturn, 1) := by decide +kernel
theorem own_pn16 : plainFor (⟨"java/util/Collections", "unmodifiableList", "(Ljava/util/List;)Ljava/util/List;"⟩ : MethodName) = true := by decide +kernel
def own_rm_unmU_Q (Z : State) (r : Addr) (mA : Addr) (mL : Addr) (mR : Addr) (h0 : Heap) (n0 : Nat) (v : Option Value) (h : Heap) (L : List Loc) : Prop := ∃ u : Addr, Fr n0 L ∧ v = some (.ref u) ∧ Keep h0 h [] ∧ h0.size ≤ u ∧ Exa Z h u "java/util/Collections$UnmodifiableRandomAccessList" ∧ Fld Z h u "java/util/Collections$UnmodifiableCollection" "c" "Ljava/util/Collection;" (.ref r) ∧ Fld Z h u "java/util/Collections$UnmodifiableList" "list" "Ljava/util/List;" (.ref r)
theorem own_rm_unmU_ef (m : MethodId) (r : Addr)  : entryFrame m #[(.ref r)] 1 = mkF m 0 #[.val (.ref r)] [] := by first | (simp [entryFrame, mkF, argsToLocals, Value.category]; done) | rfl
set_option maxRecDepth 65536 in
set_option maxHeartbeats 40000000 in
theorem own_rm_unmU (l : Launch) (Z : State) (a0 : Array Value) (hw : ∀ d ∈ tables_1, d.before a0 Z = true) (ws : List Jvm.Cond) (r : Addr) (mA : Addr) (mL : Addr) (mR : Addr) (h0 : Heap) (n0 : Nat) (Z0 : n0 ≤ h0.size) (M_AL : own_Mi Z "java/util/ArrayList" mA) (M_UL : own_Mi Z "java/util/Collections$UnmodifiableList" mL) (M_UR : own_Mi Z "java/util/Collections$UnmodifiableRandomAccessList" mR) (h1 : ¬ mA = mL) (h2 : ¬ mA = mR) (E1 : Exa Z h0 r "java/util/ArrayList") :
    MetFree l (⟨"java/util/Collections", "unmodifiableList", "(Ljava/util/List;)Ljava/util/List;"⟩ : MethodName) (head1 (Jvm.Cond.code (⟨"java/util/Collections", "unmodifiableList", "(Ljava/util/List;)Ljava/util/List;"⟩ : MethodName) jdk_79_method_35_code 1 (some (.object "java/util/List")) :: ws) ({ frames := 4, cells := 1, slots := 2, locals := 52 } : Room)) (fun aQ UQ => aQ = #[(.ref r)] ∧ Z.Warmed39 UQ.vm ∧ UQ.heap = h0) (fun _ _ _ _ _ => True) (fun _ UQ oQ U2 => ∃ vQ LQ, oQ = .returned vQ ∧ own_rm_unmU_Q Z r mA mL mR h0 n0 vQ U2.heap LQ ∧ FrameEnd UQ oQ U2 LQ ({ frames := 4, cells := 1, slots := 2, locals := 52 } : Room).cells ({ frames := 4, cells := 1, slots := 2, locals := 52 } : Room).slots) := by
  refine MetFree.of_bodySF own_pn16 hisR ?_
  intro p e s m args below meth c s₁ Bd hml0 hP hK
  obtain ⟨rfl, hZ, hh⟩ := hP
  have hx := Bd.exec
  have hby := Bd.bytes
  have hml : c.maxLocals = 1 := hml0
  have hlk := BodyLoose.notSynchronized Bd
  have hown : s.vm.findClass "java/util/Collections" = some m.cls := findClass_of_methodNamed Bd.named
  have hnm := (name_of_methodNamed Bd.named Bd.method).1
  have X0 : Stand p l e ({ frames := 4, cells := 1, slots := 2, locals := 52 } : Room) s m #[(.ref r)] below meth c s₁ [] 0 0 := Stand.of_body Bd
  have e0 : s₁.heap = h0 := by rw [← hh, Bd.state]; rfl
  have N0 := Fr.nil n0
  have Kp0 : Keep h0 h0 [] := Keep.refl _ _
  show own_Go p e below s (own_rm_unmU_Q Z r mA mL mR h0 n0) ({ frames := 4, cells := 1, slots := 2, locals := 52 } : Room).cells ({ frames := 4, cells := 1, slots := 2, locals := 52 } : Room).slots (s₁.setTop (entryFrame m #[(.ref r)] 1))
  rw [own_rm_unmU_ef]
  show own_Go p e below s _ _ _ (s₁.setTop (mkF m 0 #[.val (.ref r)] []))
  refine own_st (fun _ kQ => XS.aloadN X0.here hx rfl (hb hby own_d_jdk_79_method_35_code_0) rfl rfl kQ) ?_
  show own_Go p e below s _ _ _ (s₁.setTop (mkF m 1 #[.val (.ref r)] [(.ref r)]))
  obtain ⟨T398, X398, e398, st398⟩ := own_gclsI X0 hx hZ hown (hw _ (List.mem_of_getElem? (i := 80) rfl)) (hw _ (List.mem_of_getElem? (i := 81) rfl)) (hw _ (List.mem_of_getElem? (i := 82) rfl)) (hw _ (List.mem_of_getElem? (i := 83) rfl)) (hw _ (List.mem_of_getElem? (i := 84) rfl)) (hw _ (List.mem_of_getElem? (i := 85) rfl)) (hw _ (List.mem_of_getElem? (i := 86) rfl)) (hw _ (List.mem_of_getElem? (i := 87) rfl)) (hw _ (List.mem_of_getElem? (i := 88) rfl)) e0 E1 M_AL (g := (mkF m 1 #[.val (.ref r)] [(.ref r)])) rfl (by rw [hml]; rfl) rfl (hb hby own_d_jdk_79_method_35_code_1) (by decide) (W := 0) (by show 2 * 0 + _ ≤ _; exact Nat.le_of_eq rfl) (by decide)
  refine own_st st398 ?_
  show own_Go p e below s _ _ _ (T398.setTop (mkF m 6 #[.val (.ref r)] [(.ref mA)]))
  obtain ⟨T399, X399, e399, st399⟩ := own_ldcM X398 hx hZ hown (hw _ (List.mem_of_getElem? (i := 90) rfl)) M_UL e398 (g := (mkF m 6 #[.val (.ref r)] [(.ref mA)])) rfl (hb hby own_d_jdk_79_method_35_code_6)
  refine own_st st399 ?_
  show own_Go p e below s _ _ _ (T399.setTop (mkF m 8 #[.val (.ref r)] [(.ref mL), (.ref mA)]))
  refine own_st (fun _ kQ => XT.acmpNo X399.here hx rfl (hb hby own_d_jdk_79_method_35_code_8) rfl rfl rfl (XT.aa_eq_f (fun q => h1 (Value.ref.inj q))) kQ) ?_
  show own_Go p e below s _ _ _ (T399.setTop (mkF m 11 #[.val (.ref r)] []))
  refine own_st (fun _ kQ => XS.aloadN X399.here hx rfl (hb hby own_d_jdk_79_method_35_code_11) rfl rfl kQ) ?_
  show own_Go p e below s _ _ _ (T399.setTop (mkF m 12 #[.val (.ref r)] [(.ref r)]))
  obtain ⟨T400, X400, e400, st400⟩ := own_gclsI X399 hx hZ hown (hw _ (List.mem_of_getElem? (i := 92) rfl)) (hw _ (List.mem_of_getElem? (i := 81) rfl)) (hw _ (List.mem_of_getElem? (i := 82) rfl)) (hw _ (List.mem_of_getElem? (i := 83) rfl)) (hw _ (List.mem_of_getElem? (i := 84) rfl)) (hw _ (List.mem_of_getElem? (i := 85) rfl)) (hw _ (List.mem_of_getElem? (i := 86) rfl)) (hw _ (List.mem_of_getElem? (i := 87) rfl)) (hw _ (List.mem_of_getElem? (i := 88) rfl)) e399 E1 M_AL (g := (mkF m 12 #[.val (.ref r)] [(.ref r)])) rfl (by rw [hml]; rfl) rfl (hb hby own_d_jdk_79_method_35_code_12) (by decide) (W := 0) (by show 2 * 0 + _ ≤ _; exact Nat.le_of_eq rfl) (by decide)
  refine own_st st400 ?_
  show own_Go p e below s _ _ _ (T400.setTop (mkF m 17 #[.val (.ref r)] [(.ref mA)]))
  obtain ⟨T401, X401, e401, st401⟩ := own_ldcM X400 hx hZ hown (hw _ (List.mem_of_getElem? (i := 93) rfl)) M_UR e400 (g := (mkF m 17 #[.val (.ref r)] [(.ref mA)])) rfl (hb hby own_d_jdk_79_method_35_code_17)
  refine own_st st401 ?_
  show own_Go p e below s _ _ _ (T401.setTop (mkF m 19 #[.val (.ref r)] [(.ref mR), (.ref mA)]))
  refine own_st (fun _ kQ => XT.acmpYes X401.here hx rfl (pc0 := 19) (pc' := 24) rfl (hb hby own_d_jdk_79_method_35_code_19) rfl rfl rfl (XT.aa_ne_t (fun q => h2 (Value.ref.inj q))) (by decide) (by decide) kQ) ?_
  show own_Go p e below s _ _ _ (T401.setTop (mkF m 24 #[.val (.ref r)] []))
  refine own_st (fun _ kQ => XS.aloadN X401.here hx rfl (hb hby own_d_jdk_79_method_35_code_24) rfl rfl kQ) ?_
  show own_Go p e below s _ _ _ (T401.setTop (mkF m 25 #[.val (.ref r)] [(.ref r)]))
  obtain ⟨T402, X402, e402, st402⟩ := instY X401 hx hZ hown (hw _ (List.mem_of_getElem? (i := 95) rfl)) e401 (Ins.of_exa E1 (hw _ (List.mem_of_getElem? (i := 96) rfl))) (g := (mkF m 25 #[.val (.ref r)] [(.ref r)])) rfl rfl (hb hby own_d_jdk_79_method_35_code_25)
  refine own_st st402 ?_
  show own_Go p e below s _ _ _ (T402.setTop (mkF m 28 #[.val (.ref r)] [(.int (1 : Int32))]))
  refine own_st (fun _ kQ => XS.ifNo X402.here hx rfl (hb hby own_d_jdk_79_method_35_code_28) rfl (XT.i0_eq_f (by decide)) kQ) ?_
  show own_Go p e below s _ _ _ (T402.setTop (mkF m 31 #[.val (.ref r)] []))
  obtain ⟨T403, h403, X403, e403, E403, A403, D403, -, st403⟩ := newO X402 hx hZ hown (hw _ (List.mem_of_getElem? (i := 93) rfl)) (hw _ (List.mem_of_getElem? (i := 97) rfl)) (hw _ (List.mem_of_getElem? (i := 98) rfl)) e402 (g := (mkF m 31 #[.val (.ref r)] [])) rfl (hb hby own_d_jdk_79_method_35_code_31) (by decide) (by decide)
  obtain ⟨b403, g403⟩ : ∃ z, z = h0.size := ⟨_, rfl⟩
  rw [← g403] at A403 D403 st403
  refine own_st st403 ?_
  have lt404 : r < h403.size := Nat.lt_of_lt_of_le E1.lt E403.1
  have Zs405 : n0 ≤ h403.size := Nat.le_trans Z0 E403.1
  have Kp406 : Keep h0 h403 [] := Kp0.ext E403
  have ne407 : r ≠ b403 := Nat.ne_of_lt (Nat.lt_of_lt_of_le E1.lt (Nat.le_of_eq g403.symm))
  have g408 : n0 ≤ b403 := Nat.le_trans Z0 (Nat.le_of_eq g403.symm)
  have sz409 : h0.size ≤ b403 := Nat.le_trans Kp0.1 (Nat.le_of_eq g403.symm)
  have F410 : Fld Z h403 b403 "java/util/Collections$UnmodifiableCollection" "c" "Ljava/util/Collection;" .null := D403 (Or.inr (hw _ (List.mem_of_getElem? (i := 116) rfl))) (ty := (.object "java/util/Collection")) (by decide)
  have F411 : Fld Z h403 b403 "java/util/Collections$UnmodifiableList" "list" "Ljava/util/List;" .null := D403 (Or.inr (hw _ (List.mem_of_getElem? (i := 118) rfl))) (ty := (.object "java/util/List")) (by decide)
  show own_Go p e below s _ _ _ (T403.setTop (mkF m 34 #[.val (.ref r)] [(.ref b403)]))
  refine own_st (fun _ kQ => XS.dup X403.here hx rfl (hb hby own_d_jdk_79_method_35_code_34) rfl rfl kQ) ?_
  show own_Go p e below s _ _ _ (T403.setTop (mkF m 35 #[.val (.ref r)] [(.ref b403), (.ref b403)]))
  refine own_st (fun _ kQ => XS.aloadN X403.here hx rfl (hb hby own_d_jdk_79_method_35_code_35) rfl rfl kQ) ?_
  show own_Go p e below s _ _ _ (T403.setTop (mkF m 36 #[.val (.ref r)] [(.ref r), (.ref b403), (.ref b403)]))
  obtain ⟨_, _, ⟨T412, L412, k412, n412⟩, -, X412, ⟨Lc412, hQ412, l412, y412, z412⟩, st412⟩ := X403.specialBack hx (y := (⟨"java/util/Collections$UnmodifiableRandomAccessList", "<init>", "(Ljava/util/List;)V"⟩ : MethodName)) rfl hown (mvT hZ (hw _ (List.mem_of_getElem? (i := 99) rfl))) (mvT hZ (hw _ (List.mem_of_getElem? (i := 100) rfl))) (mvT hZ (hw _ (List.mem_of_getElem? (i := 101) rfl))) (by decide) (backOf (W := 1) (own_rm_urinit l Z a0 hw [] b403 r h403 n0 Zs405 A403 F410 F411 g408) hZ (hw _ (List.mem_of_getElem? (i := 101) rfl)) (hw _ (List.mem_of_getElem? (i := 98) rfl)) (by decide) (by decide)) (g := (mkF m 36 #[.val (.ref r)] [(.ref r), (.ref b403), (.ref b403)])) rfl (by rw [hml]; rfl) (Steps.refl _) (a := b403) (argsL := [(.ref r)]) (rest := [(.ref b403)]) (lenOf own_pd8 rfl) rfl (by show 2 * 0 + _ ≤ _; exact Nat.le_of_eq rfl) (hb hby own_d_jdk_79_method_35_code_36) (fun _ _ => ⟨rfl, e403, (by decide : 1 + 0 ≤ _), (by decide : 2 + 0 ≤ _)⟩)
  dsimp only [Pt.U, Pt.locs, Pt.cells, Pt.slots] at X412 l412 y412 z412 st412 hQ412
  subst l412 y412 z412
  obtain ⟨N412q, rfl, K412, q413, q414, q415⟩ := hQ412
  have N416 := Fr.app N0 N412q
  refine own_tr st412 ?_
  have lt417 : r < T412.heap.size := Nat.lt_of_lt_of_le lt404 K412.1
  have lt418 : b403 < T412.heap.size := Nat.lt_of_lt_of_le A403.lt K412.1
  have Zs419 : n0 ≤ T412.heap.size := Nat.le_trans Zs405 K412.1
  have Kp420 : Keep h0 T412.heap [] := Kp406.trans K412 (allS (Or.inr sz409) all0)
  show own_Go p e below s _ _ _ (T412.setTop (mkF m 39 #[.val (.ref r)] [(.ref b403)]))
  refine own_st (fun _ kQ => XS.goto X412.here hx rfl (pc0 := 39) (pc' := 50) rfl (hb hby own_d_jdk_79_method_35_code_39) (by decide) (by decide) kQ) ?_
  show own_Go p e below s _ _ _ (T412.setTop (mkF m 50 #[.val (.ref r)] [(.ref b403)]))
  refine own_retA X412 hx hlk Bd.returns rfl (hb hby own_d_jdk_79_method_35_code_50) (by decide) (by decide) ?_
  skip
  exact ⟨b403, N416, rfl, Kp420, sz409, q413, q414, q415⟩
theorem own_d_prog_6_method_1_code_0 : decode prog_6_method_1_code 0 = .ok (.aload_n 0, 1) := by decide +kernel
theorem own_d_prog_6_method_1_code_1 : decode prog_6_method_1_code 1 = .ok (.invokespecial 1, 3) := by decide +kernel
theorem own_d_prog_6_method_1_code_4 : decode prog_6_method_1_code 4 = .ok (.aload_n 0, 1) := by decide +kernel
theorem own_d_prog_6_method_1_code_5 : decode prog_6_method_1_code 5 = .ok (.iload_n 1, 1) := by decide +kernel
theorem own_d_prog_6_method_1_code_6 : decode prog_6_method_1_code 6 = .ok (.putfield 7, 3) := by decide +kernel
theorem own_d_prog_6_method_1_code_9 : decode prog_6_method_1_code 9 = .ok (.aload_n 0, 1) := by decide +kernel
theorem own_d_prog_6_method_1_code_10 : decode prog_6_method_1_code 10 = .ok (.iload_n 2, 1) := by decide +kernel
theorem own_d_prog_6_method_1_code_11 : decode prog_6_method_1_code 11 = .ok (.putfield 13, 3) := by decide +kernel
theorem own_d_prog_6_method_1_code_14 : decode prog_6_method_1_code 14 = .ok (.aload_n 0, 1) := by decide +kernel
theorem own_d_prog_6_method_1_code_15 : decode prog_6_method_1_code 15 = .ok (.aload_n 3, 1) := by decide +kernel
theorem own_d_prog_6_method_1_code_16 : decode prog_6_method_1_code 16 = .ok (.invokestatic 16, 3) := by decide +kernel
theorem own_d_prog_6_method_1_code_19 : decode prog_6_method_1_code 19 = .ok (.putfield 22, 3) := by decide +kernel
theorem own_d_prog_6_method_1_code_22 : decode prog_6_method_1_code 22 = .ok (.return_, 1) := by decide +kernel
theorem own_pn17 : plainFor (⟨"com/example/rationed_session/rationedsession/model/Partition", "<init>", "(IILjava/util/List;)V"⟩ : MethodName) = true := by decide +kernel
theorem own_pd9 : parseMethodDescriptor "(Ljava/util/List;)Ljava/util/List;" = some ⟨[(.object "java/util/List")], some (.object "java/util/List")⟩ := by decide +kernel
def own_rm_pinitU_Q (Z : State) (q : Addr) (x1 : Int32) (x2 : Int32) (r : Addr) (mA : Addr) (mL : Addr) (mR : Addr) (h0 : Heap) (n0 : Nat) (v : Option Value) (h : Heap) (L : List Loc) : Prop := ∃ u : Addr, Fr n0 L ∧ v = none ∧ Keep h0 h [q] ∧ Exa Z h q "com/example/rationed_session/rationedsession/model/Partition" ∧ Fld Z h q "com/example/rationed_session/rationedsession/model/Partition" "number" "I" (.int x1) ∧ Fld Z h q "com/example/rationed_session/rationedsession/model/Partition" "firstIndex" "I" (.int x2) ∧ Fld Z h q "com/example/rationed_session/rationedsession/model/Partition" "inputs" "Ljava/util/List;" (.ref u) ∧ h0.size ≤ u ∧ Exa Z h u "java/util/Collections$UnmodifiableRandomAccessList" ∧ Fld Z h u "java/util/Collections$UnmodifiableCollection" "c" "Ljava/util/Collection;" (.ref r) ∧ Fld Z h u "java/util/Collections$UnmodifiableList" "list" "Ljava/util/List;" (.ref r)
theorem own_rm_pinitU_ef (m : MethodId) (q : Addr) (x1 : Int32) (x2 : Int32) (r : Addr)  : entryFrame m #[(.ref q), (.int x1), (.int x2), (.ref r)] 4 = mkF m 0 #[.val (.ref q), .val (.int x1), .val (.int x2), .val (.ref r)] [] := by first | (simp [entryFrame, mkF, argsToLocals, Value.category]; done) | rfl
set_option maxRecDepth 65536 in
set_option maxHeartbeats 40000000 in
theorem own_rm_pinitU (l : Launch) (Z : State) (a0 : Array Value) (hw : ∀ d ∈ tables_1, d.before a0 Z = true) (ws : List Jvm.Cond) (q : Addr) (x1 : Int32) (x2 : Int32) (r : Addr) (mA : Addr) (mL : Addr) (mR : Addr) (h0 : Heap) (n0 : Nat) (Z0 : n0 ≤ h0.size) (M_AL : own_Mi Z "java/util/ArrayList" mA) (M_UL : own_Mi Z "java/util/Collections$UnmodifiableList" mL) (M_UR : own_Mi Z "java/util/Collections$UnmodifiableRandomAccessList" mR) (h1 : ¬ mA = mL) (h2 : ¬ mA = mR) (E1 : Exa Z h0 q "com/example/rationed_session/rationedsession/model/Partition") (E2 : Exa Z h0 r "java/util/ArrayList") (F0 : Fld Z h0 q "com/example/rationed_session/rationedsession/model/Partition" "number" "I" (.int (0 : Int32))) (F1 : Fld Z h0 q "com/example/rationed_session/rationedsession/model/Partition" "firstIndex" "I" (.int (0 : Int32))) (F2 : Fld Z h0 q "com/example/rationed_session/rationedsession/model/Partition" "inputs" "Ljava/util/List;" .null) (g1 : n0 ≤ q) :
    MetFree l (⟨"com/example/rationed_session/rationedsession/model/Partition", "<init>", "(IILjava/util/List;)V"⟩ : MethodName) (head1 (Jvm.Cond.code (⟨"com/example/rationed_session/rationedsession/model/Partition", "<init>", "(IILjava/util/List;)V"⟩ : MethodName) prog_6_method_1_code 4 none :: ws) ({ frames := 5, cells := 1, slots := 2, locals := 65 } : Room)) (fun aQ UQ => aQ = #[(.ref q), (.int x1), (.int x2), (.ref r)] ∧ Z.Warmed39 UQ.vm ∧ UQ.heap = h0) (fun _ _ _ _ _ => True) (fun _ UQ oQ U2 => ∃ vQ LQ, oQ = .returned vQ ∧ own_rm_pinitU_Q Z q x1 x2 r mA mL mR h0 n0 vQ U2.heap LQ ∧ FrameEnd UQ oQ U2 LQ ({ frames := 5, cells := 1, slots := 2, locals := 65 } : Room).cells ({ frames := 5, cells := 1, slots := 2, locals := 65 } : Room).slots) := by
  refine MetFree.of_bodySF own_pn17 hisR ?_
  intro p e s m args below meth c s₁ Bd hml0 hP hK
  obtain ⟨rfl, hZ, hh⟩ := hP
  have hx := Bd.exec
  have hby := Bd.bytes
  have hml : c.maxLocals = 4 := hml0
  have hlk := BodyLoose.notSynchronized Bd
  have hown : s.vm.findClass "com/example/rationed_session/rationedsession/model/Partition" = some m.cls := findClass_of_methodNamed Bd.named
  have hnm := (name_of_methodNamed Bd.named Bd.method).1
  have X0 : Stand p l e ({ frames := 5, cells := 1, slots := 2, locals := 65 } : Room) s m #[(.ref q), (.int x1), (.int x2), (.ref r)] below meth c s₁ [] 0 0 := Stand.of_body Bd
  have e0 : s₁.heap = h0 := by rw [← hh, Bd.state]; rfl
  have N0 := Fr.nil n0
  have Kp0 : Keep h0 h0 [q] := Keep.refl _ _
  show own_Go p e below s (own_rm_pinitU_Q Z q x1 x2 r mA mL mR h0 n0) ({ frames := 5, cells := 1, slots := 2, locals := 65 } : Room).cells ({ frames := 5, cells := 1, slots := 2, locals := 65 } : Room).slots (s₁.setTop (entryFrame m #[(.ref q), (.int x1), (.int x2), (.ref r)] 4))
  rw [own_rm_pinitU_ef]
  show own_Go p e below s _ _ _ (s₁.setTop (mkF m 0 #[.val (.ref q), .val (.int x1), .val (.int x2), .val (.ref r)] []))
  refine own_st (fun _ kQ => XS.aloadN X0.here hx rfl (hb hby own_d_prog_6_method_1_code_0) rfl rfl kQ) ?_
  show own_Go p e below s _ _ _ (s₁.setTop (mkF m 1 #[.val (.ref q), .val (.int x1), .val (.int x2), .val (.ref r)] [(.ref q)]))
  obtain ⟨T421, X421, e421, st421⟩ := initO X0 hx hZ hown (hw _ (List.mem_of_getElem? (i := 71) rfl)) (hw _ (List.mem_of_getElem? (i := 20) rfl)) (hw _ (List.mem_of_getElem? (i := 21) rfl)) e0 (g := (mkF m 1 #[.val (.ref q), .val (.int x1), .val (.int x2), .val (.ref r)] [(.ref q)])) rfl (by rw [hml]; rfl) rfl (hb hby own_d_prog_6_method_1_code_1) (by decide) (W := 0) (by show 2 * 0 + _ ≤ _; exact Nat.le_of_eq rfl) (by decide)
  refine own_st st421 ?_
  show own_Go p e below s _ _ _ (T421.setTop (mkF m 4 #[.val (.ref q), .val (.int x1), .val (.int x2), .val (.ref r)] []))
  refine own_st (fun _ kQ => XS.aloadN X421.here hx rfl (hb hby own_d_prog_6_method_1_code_4) rfl rfl kQ) ?_
  show own_Go p e below s _ _ _ (T421.setTop (mkF m 5 #[.val (.ref q), .val (.int x1), .val (.int x2), .val (.ref r)] [(.ref q)]))
  refine own_st (fun _ kQ => XS.iloadN X421.here hx rfl (hb hby own_d_prog_6_method_1_code_5) rfl kQ) ?_
  show own_Go p e below s _ _ _ (T421.setTop (mkF m 6 #[.val (.ref q), .val (.int x1), .val (.int x2), .val (.ref r)] [(.int x1), (.ref q)]))
  obtain ⟨T422, h422, X422, e422, W422, st422⟩ := putF X421 hx hZ hown (host := "") (Or.inl (hw _ (List.mem_of_getElem? (i := 72) rfl))) Via.refl e421 F0 E1 (Or.inr ⟨(hw _ (List.mem_of_getElem? (i := 73) rfl)), rfl, hnm⟩) (hw _ (List.mem_of_getElem? (i := 66) rfl)) (ty := .int) (by decide) rfl rfl (g := (mkF m 6 #[.val (.ref q), .val (.int x1), .val (.int x2), .val (.ref r)] [(.int x1), (.ref q)])) rfl rfl (hb hby own_d_prog_6_method_1_code_6)
  refine own_st st422 ?_
  have N423 := Fr.snoc X422 N0 g1
  have F424 : Fld Z h422 q "com/example/rationed_session/rationedsession/model/Partition" "number" "I" (.int x1) := F0.same W422
  have lt425 : q < h422.size := Nat.lt_of_lt_of_le F2.lt (Nat.le_of_eq W422.size.symm)
  have lt426 : r < h422.size := Nat.lt_of_lt_of_le E2.lt (Nat.le_of_eq W422.size.symm)
  have Zs427 : n0 ≤ h422.size := Nat.le_trans Z0 (Nat.le_of_eq W422.size.symm)
  have Kp428 : Keep h0 h422 [q] := Kp0.wr W422 (Or.inl (List.mem_of_getElem? (i := 0) rfl))
  show own_Go p e below s _ _ _ (T422.setTop (mkF m 9 #[.val (.ref q), .val (.int x1), .val (.int x2), .val (.ref r)] []))
  refine own_st (fun _ kQ => XS.aloadN X422.here hx rfl (hb hby own_d_prog_6_method_1_code_9) rfl rfl kQ) ?_
  show own_Go p e below s _ _ _ (T422.setTop (mkF m 10 #[.val (.ref q), .val (.int x1), .val (.int x2), .val (.ref r)] [(.ref q)]))
  refine own_st (fun _ kQ => XS.iloadN X422.here hx rfl (hb hby own_d_prog_6_method_1_code_10) rfl kQ) ?_
  show own_Go p e below s _ _ _ (T422.setTop (mkF m 11 #[.val (.ref q), .val (.int x1), .val (.int x2), .val (.ref r)] [(.int x2), (.ref q)]))
  have F429 : Fld Z h422 q "com/example/rationed_session/rationedsession/model/Partition" "firstIndex" "I" (.int (0 : Int32)) := (F1.other W422 (Or.inr (slot_ne (Or.inr (hw _ (List.mem_of_getElem? (i := 75) rfl))) (Or.inr (hw _ (List.mem_of_getElem? (i := 73) rfl))) (by decide) (t := .int) (t' := .int) (by decide) (by decide))))
  have F430 : Exa Z h422 q "com/example/rationed_session/rationedsession/model/Partition" := (E1.wr W422)
  obtain ⟨T431, h431, X431, e431, W431, st431⟩ := putF X422 hx hZ hown (host := "") (Or.inl (hw _ (List.mem_of_getElem? (i := 74) rfl))) Via.refl e422 F429 F430 (Or.inr ⟨(hw _ (List.mem_of_getElem? (i := 75) rfl)), rfl, hnm⟩) (hw _ (List.mem_of_getElem? (i := 66) rfl)) (ty := .int) (by decide) rfl rfl (g := (mkF m 11 #[.val (.ref q), .val (.int x1), .val (.int x2), .val (.ref r)] [(.int x2), (.ref q)])) rfl rfl (hb hby own_d_prog_6_method_1_code_11)
  refine own_st st431 ?_
  have N432 := Fr.snoc X431 N423 g1
  have F433 : Fld Z h431 q "com/example/rationed_session/rationedsession/model/Partition" "firstIndex" "I" (.int x2) := F429.same W431
  have lt434 : q < h431.size := Nat.lt_of_lt_of_le lt425 (Nat.le_of_eq W431.size.symm)
  have lt435 : r < h431.size := Nat.lt_of_lt_of_le lt426 (Nat.le_of_eq W431.size.symm)
  have Zs436 : n0 ≤ h431.size := Nat.le_trans Zs427 (Nat.le_of_eq W431.size.symm)
  have Kp437 : Keep h0 h431 [q] := Kp428.wr W431 (Or.inl (List.mem_of_getElem? (i := 0) rfl))
  show own_Go p e below s _ _ _ (T431.setTop (mkF m 14 #[.val (.ref q), .val (.int x1), .val (.int x2), .val (.ref r)] []))
  refine own_st (fun _ kQ => XS.aloadN X431.here hx rfl (hb hby own_d_prog_6_method_1_code_14) rfl rfl kQ) ?_
  show own_Go p e below s _ _ _ (T431.setTop (mkF m 15 #[.val (.ref q), .val (.int x1), .val (.int x2), .val (.ref r)] [(.ref q)]))
  refine own_st (fun _ kQ => XS.aloadN X431.here hx rfl (hb hby own_d_prog_6_method_1_code_15) rfl rfl kQ) ?_
  show own_Go p e below s _ _ _ (T431.setTop (mkF m 16 #[.val (.ref q), .val (.int x1), .val (.int x2), .val (.ref r)] [(.ref r), (.ref q)]))
  have F439 : Exa Z h431 r "java/util/ArrayList" := ((E2.wr W422).wr W431)
  obtain ⟨_, _, ⟨T438, L438, k438, n438⟩, -, X438, ⟨Lc438, hQ438, l438, y438, z438⟩, st438⟩ := Jvm.LawKit.callS X431 hx (y := (⟨"java/util/Collections", "unmodifiableList", "(Ljava/util/List;)Ljava/util/List;"⟩ : MethodName)) hown (mvT hZ (hw _ (List.mem_of_getElem? (i := 76) rfl))) (mvT hZ (hw _ (List.mem_of_getElem? (i := 77) rfl))) (mvT hZ (hw _ (List.mem_of_getElem? (i := 78) rfl))) (mvT hZ (hw _ (List.mem_of_getElem? (i := 79) rfl))) (by decide) (backOf (W := 1) (own_rm_unmU l Z a0 hw [] r mA mL mR h431 n0 Zs436 M_AL M_UL M_UR h1 h2 F439) hZ (hw _ (List.mem_of_getElem? (i := 79) rfl)) (hw _ (List.mem_of_getElem? (i := 78) rfl)) (by decide) (by decide)) (g := (mkF m 16 #[.val (.ref q), .val (.int x1), .val (.int x2), .val (.ref r)] [(.ref r), (.ref q)])) rfl (by rw [hml]; rfl) (argsL := [(.ref r)]) (rest := [(.ref q)]) (lenOf own_pd9 rfl) rfl (by show 2 * 0 + _ ≤ _; exact Nat.le_of_eq rfl) (hb hby own_d_prog_6_method_1_code_16) (fun _ _ => ⟨rfl, e431, (by decide : 0 + 1 ≤ _), (by decide : 0 + 2 ≤ _)⟩)
  dsimp only [Pt.U, Pt.locs, Pt.cells, Pt.slots] at X438 l438 y438 z438 st438 hQ438
  subst l438 y438 z438
  obtain ⟨x440, N438q, rfl, K438, q441, q442, q443, q444⟩ := hQ438
  have N445 := Fr.app N432 N438q
  refine own_st st438 ?_
  have lt446 : q < T438.heap.size := Nat.lt_of_lt_of_le lt434 K438.1
  have lt447 : r < T438.heap.size := Nat.lt_of_lt_of_le lt435 K438.1
  have Zs448 : n0 ≤ T438.heap.size := Nat.le_trans Zs436 K438.1
  have Kp449 : Keep h0 T438.heap [q] := Kp437.trans K438 all0
  have ne450 : q ≠ x440 := Nat.ne_of_lt (Nat.lt_of_lt_of_le lt434 q441)
  have ne451 : r ≠ x440 := Nat.ne_of_lt (Nat.lt_of_lt_of_le lt435 q441)
  have g452 : n0 ≤ x440 := Nat.le_trans Zs436 q441
  have sz453 : h0.size ≤ x440 := Nat.le_trans Kp437.1 q441
  show own_Go p e below s _ _ _ (T438.setTop (mkF m 19 #[.val (.ref q), .val (.int x1), .val (.int x2), .val (.ref r)] [(.ref x440), (.ref q)]))
  have F454 : Fld Z T438.heap q "com/example/rationed_session/rationedsession/model/Partition" "inputs" "Ljava/util/List;" .null := (((F2.other W422 (Or.inr (slot_ne (Or.inr (hw _ (List.mem_of_getElem? (i := 120) rfl))) (Or.inr (hw _ (List.mem_of_getElem? (i := 73) rfl))) (by decide) (t := (.object "java/util/List")) (t' := .int) (by decide) (by decide)))).other W431 (Or.inr (slot_ne (Or.inr (hw _ (List.mem_of_getElem? (i := 120) rfl))) (Or.inr (hw _ (List.mem_of_getElem? (i := 75) rfl))) (by decide) (t := (.object "java/util/List")) (t' := .int) (by decide) (by decide)))).keep K438 nin0)
  have F455 : Exa Z T438.heap q "com/example/rationed_session/rationedsession/model/Partition" := ((F430.wr W431).keep K438)
  obtain ⟨T456, h456, X456, e456, W456, st456⟩ := putF X438 hx hZ hown (host := "") (Or.inl (hw _ (List.mem_of_getElem? (i := 119) rfl))) Via.refl rfl F454 F455 (Or.inr ⟨(hw _ (List.mem_of_getElem? (i := 120) rfl)), rfl, hnm⟩) (hw _ (List.mem_of_getElem? (i := 66) rfl)) (ty := (.object "java/util/List")) (by decide) rfl rfl (g := (mkF m 19 #[.val (.ref q), .val (.int x1), .val (.int x2), .val (.ref r)] [(.ref x440), (.ref q)])) rfl rfl (hb hby own_d_prog_6_method_1_code_19)
  refine own_st st456 ?_
  have N457 := Fr.snoc X456 N445 g1
  have F458 : Fld Z h456 q "com/example/rationed_session/rationedsession/model/Partition" "inputs" "Ljava/util/List;" (.ref x440) := F454.same W456
  have lt459 : q < h456.size := Nat.lt_of_lt_of_le lt446 (Nat.le_of_eq W456.size.symm)
  have lt460 : r < h456.size := Nat.lt_of_lt_of_le lt447 (Nat.le_of_eq W456.size.symm)
  have lt461 : x440 < h456.size := Nat.lt_of_lt_of_le q444.lt (Nat.le_of_eq W456.size.symm)
  have Zs462 : n0 ≤ h456.size := Nat.le_trans Zs448 (Nat.le_of_eq W456.size.symm)
  have Kp463 : Keep h0 h456 [q] := Kp449.wr W456 (Or.inl (List.mem_of_getElem? (i := 0) rfl))
  obtain ⟨Lp464, Xp464, Np464⟩ : ∃ L, Stand p l e ({ frames := 5, cells := 1, slots := 2, locals := 65 } : Room) s m #[(.ref q), (.int x1), (.int x2), (.ref r)] below meth c T456 L 1 2 ∧ Fr n0 L := ⟨_, X456, N457⟩
  show own_Go p e below s _ _ _ (T456.setTop (mkF m 22 #[.val (.ref q), .val (.int x1), .val (.int x2), .val (.ref r)] []))
  have F465 : Exa Z h456 q "com/example/rationed_session/rationedsession/model/Partition" := (F455.wr W456)
  have F466 : Fld Z h456 q "com/example/rationed_session/rationedsession/model/Partition" "number" "I" (.int x1) := (((F424.other W431 (Or.inr (slot_ne (Or.inr (hw _ (List.mem_of_getElem? (i := 73) rfl))) (Or.inr (hw _ (List.mem_of_getElem? (i := 75) rfl))) (by decide) (t := .int) (t' := .int) (by decide) (by decide)))).keep K438 nin0).other W456 (Or.inr (slot_ne (Or.inr (hw _ (List.mem_of_getElem? (i := 73) rfl))) (Or.inr (hw _ (List.mem_of_getElem? (i := 120) rfl))) (by decide) (t := .int) (t' := (.object "java/util/List")) (by decide) (by decide))))
  have F467 : Fld Z h456 q "com/example/rationed_session/rationedsession/model/Partition" "firstIndex" "I" (.int x2) := ((F433.keep K438 nin0).other W456 (Or.inr (slot_ne (Or.inr (hw _ (List.mem_of_getElem? (i := 75) rfl))) (Or.inr (hw _ (List.mem_of_getElem? (i := 120) rfl))) (by decide) (t := .int) (t' := (.object "java/util/List")) (by decide) (by decide))))
  have F468 : Exa Z h456 x440 "java/util/Collections$UnmodifiableRandomAccessList" := (q442.wr W456)
  have F469 : Fld Z h456 x440 "java/util/Collections$UnmodifiableCollection" "c" "Ljava/util/Collection;" (.ref r) := (q443.other W456 (Or.inl ne450.symm))
  have F470 : Fld Z h456 x440 "java/util/Collections$UnmodifiableList" "list" "Ljava/util/List;" (.ref r) := (q444.other W456 (Or.inl ne450.symm))
  refine own_ret0 Xp464 hx hlk Bd.returns (hb hby own_d_prog_6_method_1_code_22) (by decide) (by decide) ?_
  rw [e456]
  exact ⟨x440, Np464, rfl, Kp463, F465, F466, F467, F458, sz453, F468, F469, F470⟩
theorem own_d_prog_6_method_4_code_0 : decode prog_6_method_4_code 0 = .ok (.iload_n 1, 1) := by decide +kernel
theorem own_d_prog_6_method_4_code_1 : decode prog_6_method_4_code 1 = .ok (.aload_n 0, 1) := by decide +kernel
theorem own_d_prog_6_method_4_code_2 : decode prog_6_method_4_code 2 = .ok (.getfield 13, 3) := by decide +kernel
theorem own_d_prog_6_method_4_code_5 : decode prog_6_method_4_code 5 = .ok (.if_icmp .lt 25, 3) := by decide +kernel
theorem own_d_prog_6_method_4_code_8 : decode prog_6_method_4_code 8 = .ok (.iload_n 1, 1) := by decide +kernel
theorem own_d_prog_6_method_4_code_9 : decode prog_6_method_4_code 9 = .ok (.aload_n 0, 1) := by decide +kernel
theorem own_d_prog_6_method_4_code_10 : decode prog_6_method_4_code 10 = .ok (.getfield 13, 3) := by decide +kernel
theorem own_d_prog_6_method_4_code_13 : decode prog_6_method_4_code 13 = .ok (.isub, 1) := by decide +kernel
theorem own_d_prog_6_method_4_code_14 : decode prog_6_method_4_code 14 = .ok (.aload_n 0, 1) := by decide +kernel
theorem own_d_prog_6_method_4_code_15 : decode prog_6_method_4_code 15 = .ok (.getfield 22, 3) := by decide +kernel
theorem own_d_prog_6_method_4_code_18 : decode prog_6_method_4_code 18 = .ok (.invokeinterface 26 1, 5) := by decide +kernel
theorem own_d_prog_6_method_4_code_23 : decode prog_6_method_4_code 23 = .ok (.if_icmp .ge 7, 3) := by decide +kernel
theorem own_d_prog_6_method_4_code_26 : decode prog_6_method_4_code 26 = .ok (.iconst 1, 1) := by decide +kernel
theorem own_d_prog_6_method_4_code_27 : decode prog_6_method_4_code 27 = .ok (.goto 4, 3) := by decide +kernel
theorem own_d_prog_6_method_4_code_30 : decode prog_6_method_4_code 30 = .ok (.iconst 0, 1) := by decide +kernel
theorem own_d_prog_6_method_4_code_31 : decode prog_6_method_4_code 31 = .ok (.ireturn, 1) := by decide +kernel
theorem own_pn18 : plainFor (⟨"com/example/rationed_session/rationedsession/model/Partition", "holds", "(I)Z"⟩ : MethodName) = true := by decide +kernel
def own_rm_holdsU_Q (Z : State) (u : Addr) (q : Addr) (r : Addr) (p1 : Int32) (f : Int32) (n : Int32) (h0 : Heap) (n0 : Nat) (v : Option Value) (h : Heap) (L : List Loc) : Prop := Fr n0 L ∧ v = some (.int (if p1 < f then (0 : Int32) else if p1 - f < n then 1 else 0)) ∧ h = h0
theorem own_rm_holdsU_ef (m : MethodId) (q : Addr) (p1 : Int32)  : entryFrame m #[(.ref q), (.int p1)] 2 = mkF m 0 #[.val (.ref q), .val (.int p1)] [] := by first | (simp [entryFrame, mkF, argsToLocals, Value.category]; done) | rfl
set_option maxRecDepth 65536 in
set_option maxHeartbeats 40000000 in
theorem own_rm_holdsU (l : Launch) (Z : State) (a0 : Array Value) (hw : ∀ d ∈ tables_1, d.before a0 Z = true) (ws : List Jvm.Cond) (u : Addr) (q : Addr) (r : Addr) (p1 : Int32) (f : Int32) (n : Int32) (h0 : Heap) (n0 : Nat) (Z0 : n0 ≤ h0.size) (F0 : Fld Z h0 q "com/example/rationed_session/rationedsession/model/Partition" "inputs" "Ljava/util/List;" (.ref u)) (E2 : Exa Z h0 u "java/util/Collections$UnmodifiableRandomAccessList") (F4 : Fld Z h0 u "java/util/Collections$UnmodifiableCollection" "c" "Ljava/util/Collection;" (.ref r)) (E1 : Exa Z h0 r "java/util/ArrayList") (F1 : Fld Z h0 q "com/example/rationed_session/rationedsession/model/Partition" "firstIndex" "I" (.int f)) (F3 : Fld Z h0 r "java/util/ArrayList" "size" "I" (.int n)) :
    MetFree l (⟨"com/example/rationed_session/rationedsession/model/Partition", "holds", "(I)Z"⟩ : MethodName) (head1 (Jvm.Cond.code (⟨"com/example/rationed_session/rationedsession/model/Partition", "holds", "(I)Z"⟩ : MethodName) prog_6_method_4_code 2 (some .boolean) :: ws) ({ frames := 2, cells := 0, slots := 0, locals := 25 } : Room)) (fun aQ UQ => aQ = #[(.ref q), (.int p1)] ∧ Z.Warmed39 UQ.vm ∧ UQ.heap = h0) (fun _ _ _ _ _ => True) (fun _ UQ oQ U2 => ∃ vQ LQ, oQ = .returned vQ ∧ own_rm_holdsU_Q Z u q r p1 f n h0 n0 vQ U2.heap LQ ∧ FrameEnd UQ oQ U2 LQ ({ frames := 2, cells := 0, slots := 0, locals := 25 } : Room).cells ({ frames := 2, cells := 0, slots := 0, locals := 25 } : Room).slots) := by
  refine MetFree.of_bodySF own_pn18 hisR ?_
  intro p e s m args below meth c s₁ Bd hml0 hP hK
  obtain ⟨rfl, hZ, hh⟩ := hP
  have hx := Bd.exec
  have hby := Bd.bytes
  have hml : c.maxLocals = 2 := hml0
  have hlk := BodyLoose.notSynchronized Bd
  have hown : s.vm.findClass "com/example/rationed_session/rationedsession/model/Partition" = some m.cls := findClass_of_methodNamed Bd.named
  have hnm := (name_of_methodNamed Bd.named Bd.method).1
  have X0 : Stand p l e ({ frames := 2, cells := 0, slots := 0, locals := 25 } : Room) s m #[(.ref q), (.int p1)] below meth c s₁ [] 0 0 := Stand.of_body Bd
  have e0 : s₁.heap = h0 := by rw [← hh, Bd.state]; rfl
  have N0 := Fr.nil n0
  show own_Go p e below s (own_rm_holdsU_Q Z u q r p1 f n h0 n0) ({ frames := 2, cells := 0, slots := 0, locals := 25 } : Room).cells ({ frames := 2, cells := 0, slots := 0, locals := 25 } : Room).slots (s₁.setTop (entryFrame m #[(.ref q), (.int p1)] 2))
  rw [own_rm_holdsU_ef]
  show own_Go p e below s _ _ _ (s₁.setTop (mkF m 0 #[.val (.ref q), .val (.int p1)] []))
  refine own_st (fun _ kQ => XS.iloadN X0.here hx rfl (hb hby own_d_prog_6_method_4_code_0) rfl kQ) ?_
  show own_Go p e below s _ _ _ (s₁.setTop (mkF m 1 #[.val (.ref q), .val (.int p1)] [(.int p1)]))
  refine own_st (fun _ kQ => XS.aloadN X0.here hx rfl (hb hby own_d_prog_6_method_4_code_1) rfl rfl kQ) ?_
  show own_Go p e below s _ _ _ (s₁.setTop (mkF m 2 #[.val (.ref q), .val (.int p1)] [(.ref q), (.int p1)]))
  obtain ⟨T471, X471, e471, st471⟩ := getF X0 hx hZ hown (host := "") (Or.inl (hw _ (List.mem_of_getElem? (i := 74) rfl))) Via.refl e0 F1 (g := (mkF m 2 #[.val (.ref q), .val (.int p1)] [(.ref q), (.int p1)])) rfl rfl (hb hby own_d_prog_6_method_4_code_2)
  refine own_st st471 ?_
  show own_Go p e below s _ _ _ (T471.setTop (mkF m 5 #[.val (.ref q), .val (.int p1)] [(.int f), (.int p1)]))
  by_cases hc472 : p1 < f
  · refine own_st (fun _ kQ => XS.icmpYes X471.here hx rfl (pc0 := 5) (pc' := 30) rfl (hb hby own_d_prog_6_method_4_code_5) rfl (XT.ii_lt_t hc472) (by decide) (by decide) kQ) ?_
    show own_Go p e below s _ _ _ (T471.setTop (mkF m 30 #[.val (.ref q), .val (.int p1)] []))
    refine own_st (fun _ kQ => XT.iconstV X471.here hx rfl (0 : Int32) (hb hby own_d_prog_6_method_4_code_30) (by decide) kQ) ?_
    show own_Go p e below s _ _ _ (T471.setTop (mkF m 31 #[.val (.ref q), .val (.int p1)] [(.int (0 : Int32))]))
    refine own_retN X471 hx hlk Bd.returns (t := .boolean) (z' := (0 : Int32)) (by simp) (by decide) (hb hby own_d_prog_6_method_4_code_31) (by decide) (by decide) ?_
    rw [e471]
    exact ⟨N0, (by rw [if_pos hc472]), rfl⟩
  · refine own_st (fun _ kQ => XS.icmpNo X471.here hx rfl (hb hby own_d_prog_6_method_4_code_5) rfl (XT.ii_lt_f hc472) kQ) ?_
    show own_Go p e below s _ _ _ (T471.setTop (mkF m 8 #[.val (.ref q), .val (.int p1)] []))
    refine own_st (fun _ kQ => XS.iloadN X471.here hx rfl (hb hby own_d_prog_6_method_4_code_8) rfl kQ) ?_
    show own_Go p e below s _ _ _ (T471.setTop (mkF m 9 #[.val (.ref q), .val (.int p1)] [(.int p1)]))
    refine own_st (fun _ kQ => XS.aloadN X471.here hx rfl (hb hby own_d_prog_6_method_4_code_9) rfl rfl kQ) ?_
    show own_Go p e below s _ _ _ (T471.setTop (mkF m 10 #[.val (.ref q), .val (.int p1)] [(.ref q), (.int p1)]))
    obtain ⟨T473, X473, e473, st473⟩ := getF X471 hx hZ hown (host := "") (Or.inl (hw _ (List.mem_of_getElem? (i := 74) rfl))) Via.refl e471 F1 (g := (mkF m 10 #[.val (.ref q), .val (.int p1)] [(.ref q), (.int p1)])) rfl rfl (hb hby own_d_prog_6_method_4_code_10)
    refine own_st st473 ?_
    show own_Go p e below s _ _ _ (T473.setTop (mkF m 13 #[.val (.ref q), .val (.int p1)] [(.int f), (.int p1)]))
    refine own_st (fun _ kQ => XS.isub X473.here hx rfl (hb hby own_d_prog_6_method_4_code_13) rfl kQ) ?_
    show own_Go p e below s _ _ _ (T473.setTop (mkF m 14 #[.val (.ref q), .val (.int p1)] [(.int (p1 - f))]))
    refine own_st (fun _ kQ => XS.aloadN X473.here hx rfl (hb hby own_d_prog_6_method_4_code_14) rfl rfl kQ) ?_
    show own_Go p e below s _ _ _ (T473.setTop (mkF m 15 #[.val (.ref q), .val (.int p1)] [(.ref q), (.int (p1 - f))]))
    obtain ⟨T474, X474, e474, st474⟩ := getF X473 hx hZ hown (host := "") (Or.inl (hw _ (List.mem_of_getElem? (i := 119) rfl))) Via.refl e473 F0 (g := (mkF m 15 #[.val (.ref q), .val (.int p1)] [(.ref q), (.int (p1 - f))])) rfl rfl (hb hby own_d_prog_6_method_4_code_15)
    refine own_st st474 ?_
    show own_Go p e below s _ _ _ (T474.setTop (mkF m 18 #[.val (.ref q), .val (.int p1)] [(.ref u), (.int (p1 - f))]))
    obtain ⟨cq475, kq475, q475a, q475b, q475c⟩ := isOf hZ e474 E2
    obtain ⟨_, _, ⟨T475, L475, k475, n475⟩, -, X475, ⟨Lc475, hQ475, l475, y475, z475⟩, st475⟩ := X474.interfaceBack hx (xi := (⟨"java/util/List", "size", "()I"⟩ : MethodName)) (y := (⟨"java/util/Collections$UnmodifiableCollection", "size", "()I"⟩ : MethodName)) hown (mvT hZ (hw _ (List.mem_of_getElem? (i := 126) rfl))) (mvT hZ (hw _ (List.mem_of_getElem? (i := 127) rfl))) (mvT hZ (hw _ (List.mem_of_getElem? (i := 128) rfl))) (mvT hZ (hw _ (List.mem_of_getElem? (i := 129) rfl))) (mvT hZ (hw _ (List.mem_of_getElem? (i := 130) rfl))) (mvT hZ (hw _ (List.mem_of_getElem? (i := 131) rfl))) (mvT hZ (hw _ (List.mem_of_getElem? (i := 132) rfl))) (mvT hZ (hw _ (List.mem_of_getElem? (i := 133) rfl))) (by decide) (backOf (W := 1) (own_rm_ucsize l Z a0 hw [] u r n h0 n0 Z0 F4 E1 F3) hZ (hw _ (List.mem_of_getElem? (i := 134) rfl)) (hw _ (List.mem_of_getElem? (i := 112) rfl)) (by decide) (by decide)) q475a q475b q475c (g := (mkF m 18 #[.val (.ref q), .val (.int p1)] [(.ref u), (.int (p1 - f))])) rfl (by rw [hml]; rfl) (Steps.refl _) (argsL := []) (rest := [(.int (p1 - f))]) (lenOf own_pd6 rfl) rfl (by show 2 * 0 + _ ≤ _; exact Nat.le_of_eq rfl) (hb hby own_d_prog_6_method_4_code_18) (fun _ _ => ⟨rfl, e474, (by decide : 0 + 0 ≤ _), (by decide : 0 + 0 ≤ _)⟩)
    dsimp only [Pt.U, Pt.locs, Pt.cells, Pt.slots] at X475 l475 y475 z475 st475 hQ475
    subst l475 y475 z475
    obtain ⟨N475q, rfl, eh475⟩ := hQ475
    have N476 := Fr.app N0 N475q
    refine own_tr st475 ?_
    show own_Go p e below s _ _ _ (T475.setTop (mkF m 23 #[.val (.ref q), .val (.int p1)] [(.int n), (.int (p1 - f))]))
    by_cases hc477 : (p1 - f) < n
    · refine own_st (fun _ kQ => XS.icmpNo X475.here hx rfl (hb hby own_d_prog_6_method_4_code_23) rfl (XT.ii_ge_f hc477) kQ) ?_
      show own_Go p e below s _ _ _ (T475.setTop (mkF m 26 #[.val (.ref q), .val (.int p1)] []))
      refine own_st (fun _ kQ => XT.iconstV X475.here hx rfl (1 : Int32) (hb hby own_d_prog_6_method_4_code_26) (by decide) kQ) ?_
      show own_Go p e below s _ _ _ (T475.setTop (mkF m 27 #[.val (.ref q), .val (.int p1)] [(.int (1 : Int32))]))
      refine own_st (fun _ kQ => XS.goto X475.here hx rfl (pc0 := 27) (pc' := 31) rfl (hb hby own_d_prog_6_method_4_code_27) (by decide) (by decide) kQ) ?_
      show own_Go p e below s _ _ _ (T475.setTop (mkF m 31 #[.val (.ref q), .val (.int p1)] [(.int (1 : Int32))]))
      refine own_retN X475 hx hlk Bd.returns (t := .boolean) (z' := (1 : Int32)) (by simp) (by decide) (hb hby own_d_prog_6_method_4_code_31) (by decide) (by decide) ?_
      rw [eh475]
      exact ⟨N476, (by rw [if_neg hc472, if_pos hc477]), rfl⟩
    · refine own_st (fun _ kQ => XS.icmpYes X475.here hx rfl (pc0 := 23) (pc' := 30) rfl (hb hby own_d_prog_6_method_4_code_23) rfl (XT.ii_ge_t hc477) (by decide) (by decide) kQ) ?_
      show own_Go p e below s _ _ _ (T475.setTop (mkF m 30 #[.val (.ref q), .val (.int p1)] []))
      refine own_st (fun _ kQ => XT.iconstV X475.here hx rfl (0 : Int32) (hb hby own_d_prog_6_method_4_code_30) (by decide) kQ) ?_
      show own_Go p e below s _ _ _ (T475.setTop (mkF m 31 #[.val (.ref q), .val (.int p1)] [(.int (0 : Int32))]))
      refine own_retN X475 hx hlk Bd.returns (t := .boolean) (z' := (0 : Int32)) (by simp) (by decide) (hb hby own_d_prog_6_method_4_code_31) (by decide) (by decide) ?_
      rw [eh475]
      exact ⟨N476, (by rw [if_neg hc472, if_neg hc477]), rfl⟩
theorem own_pn19 : plainFor (⟨"com/example/rationed_session/rationedsession/model/PartitionHoldsPinLaw", "law", "(IIIII)Z"⟩ : MethodName) = true := by decide +kernel
theorem own_pd10 : parseMethodDescriptor "(I)Ljava/lang/Integer;" = some ⟨[.int], some (.object "java/lang/Integer")⟩ := by decide +kernel
theorem own_pd11 : parseMethodDescriptor "(Ljava/lang/Object;)Z" = some ⟨[(.object "java/lang/Object")], some .boolean⟩ := by decide +kernel
theorem own_pd12 : parseMethodDescriptor "(IILjava/util/List;)V" = some ⟨[.int, .int, (.object "java/util/List")], none⟩ := by decide +kernel
theorem own_pd13 : parseMethodDescriptor "(I)Z" = some ⟨[.int], some .boolean⟩ := by decide +kernel
def own_law_Q (Z : State) (n0 : Nat) (v : Option Value) (h : Heap) (L : List Loc) : Prop := Fr n0 L ∧ v = some (.int 1)
theorem own_law_ef (m : MethodId) (p1 : Int32) (p2 : Int32) (p3 : Int32) (p4 : Int32) (p5 : Int32) : entryFrame m #[(.int p1), (.int p2), (.int p3), (.int p4), (.int p5)] maxLocals = mkF m 0 #[.val (.int p1), .val (.int p2), .val (.int p3), .val (.int p4), .val (.int p5), .unset, .unset, .unset, .unset, .unset, .unset, .unset, .unset, .unset, .unset] [] := by first | (simp [entryFrame, mkF, argsToLocals, Value.category, maxLocals]; done) | rfl
set_option maxRecDepth 65536 in
set_option maxHeartbeats 40000000 in
theorem own_law (l : Launch) (Z : State) (a0 : Array Value) (hw : ∀ d ∈ tables_1, d.before a0 Z = true) (ws : List Jvm.Cond) (p1 : Int32) (p2 : Int32) (p3 : Int32) (p4 : Int32) (p5 : Int32) (a_cacheI : Addr) (dflt : Addr) (kd : ClassId) (mA : Addr) (mL : Addr) (mR : Addr) (h0 : Heap) (n0 : Nat) (Z0 : n0 ≤ h0.size) (O0 : Old Z n0 h0) (S_cacheI : Sta Z Z.heap "java/lang/Integer$IntegerCache" "cache" "[Ljava/lang/Integer;" (.ref a_cacheI)) (BxI : own_BoxI Z a_cacheI) (S_high : Sta Z Z.heap "java/lang/Integer$IntegerCache" "high" "I" (.int (127 : Int32))) (S_es : Sta Z Z.heap "java/util/ArrayList" "DEFAULTCAPACITY_EMPTY_ELEMENTDATA" "[Ljava/lang/Object;" (.ref dflt)) (V_es : Arv Z Z.heap dflt kd (.object "java/lang/Object") (0 : Int32) [] .null) (M_AL : own_Mi Z "java/util/ArrayList" mA) (M_UL : own_Mi Z "java/util/Collections$UnmodifiableList" mL) (M_UR : own_Mi Z "java/util/Collections$UnmodifiableRandomAccessList" mR) (h1 : ¬ mA = mL) (h2 : ¬ mA = mR) :
    MetFree l x (head1 (Jvm.Cond.code x code maxLocals ret :: ws) room_1) (fun a U => a = #[(.int p1), (.int p2), (.int p3), (.int p4), (.int p5)] ∧ Z.Warmed39 U.vm ∧ U.heap = h0) (fun _ _ _ _ _ => True) (fun _ U o U' => ∃ v L, o = .returned v ∧ own_law_Q Z n0 v U'.heap L ∧ FrameEnd U o U' L 24 128) := by
  refine MetFree.of_bodySF own_pn19 hisR ?_
  intro p e s m args below meth c s₁ Bd hml0 hP hK
  obtain ⟨rfl, hZ, hh⟩ := hP
  have hx := Bd.exec
  have hby := Bd.bytes
  have hml : c.maxLocals = 15 := hml0
  have hlk := BodyLoose.notSynchronized Bd
  have hown : s.vm.findClass "com/example/rationed_session/rationedsession/model/PartitionHoldsPinLaw" = some m.cls := findClass_of_methodNamed Bd.named
  have hnm := (name_of_methodNamed Bd.named Bd.method).1
  have X0 : Stand p l e room_1 s m #[(.int p1), (.int p2), (.int p3), (.int p4), (.int p5)] below meth c s₁ [] 0 0 := Stand.of_body Bd
  have e0 : s₁.heap = h0 := by rw [← hh, Bd.state]; rfl
  have N0 := Fr.nil n0
  show own_Go p e below s (own_law_Q Z n0) 24 128 (s₁.setTop (entryFrame m #[(.int p1), (.int p2), (.int p3), (.int p4), (.int p5)] maxLocals))
  rw [own_law_ef]
  show own_Go p e below s _ _ _ (s₁.setTop (mkF m 0 #[.val (.int p1), .val (.int p2), .val (.int p3), .val (.int p4), .val (.int p5), .unset, .unset, .unset, .unset, .unset, .unset, .unset, .unset, .unset, .unset] []))
  refine own_st (fun _ kQ => XS.iloadN X0.here hx rfl (hb hby at_0) rfl kQ) ?_
  show own_Go p e below s _ _ _ (s₁.setTop (mkF m 1 #[.val (.int p1), .val (.int p2), .val (.int p3), .val (.int p4), .val (.int p5), .unset, .unset, .unset, .unset, .unset, .unset, .unset, .unset, .unset, .unset] [(.int p2)]))
  refine own_st (fun _ kQ => X0.ldcI hx hown (mvT hZ (hw _ (List.mem_of_getElem? (i := 0) rfl))) rfl (hb hby at_1) kQ) ?_
  show own_Go p e below s _ _ _ (s₁.setTop (mkF m 3 #[.val (.int p1), .val (.int p2), .val (.int p3), .val (.int p4), .val (.int p5), .unset, .unset, .unset, .unset, .unset, .unset, .unset, .unset, .unset, .unset] [(.int (2147483647 : Int32)), (.int p2)]))
  refine own_st (fun _ kQ => XS.iand X0.here hx rfl (hb hby at_3) rfl kQ) ?_
  show own_Go p e below s _ _ _ (s₁.setTop (mkF m 4 #[.val (.int p1), .val (.int p2), .val (.int p3), .val (.int p4), .val (.int p5), .unset, .unset, .unset, .unset, .unset, .unset, .unset, .unset, .unset, .unset] [(.int (p2 &&& (2147483647 : Int32)))]))
  generalize hk_fi : (p2 &&& (2147483647 : Int32)) = fi
  have hfi := own_fi _ _ hk_fi
  show own_Go p e below s _ _ _ (s₁.setTop (mkF m 4 #[.val (.int p1), .val (.int p2), .val (.int p3), .val (.int p4), .val (.int p5), .unset, .unset, .unset, .unset, .unset, .unset, .unset, .unset, .unset, .unset] [(.int fi)]))
  refine own_st (fun _ kQ => XS.istore X0.here hx rfl (hb hby at_4) rfl (l' := #[.val (.int p1), .val (.int p2), .val (.int p3), .val (.int p4), .val (.int p5), .val (.int fi), .unset, .unset, .unset, .unset, .unset, .unset, .unset, .unset, .unset]) rfl kQ) ?_
  show own_Go p e below s _ _ _ (s₁.setTop (mkF m 6 #[.val (.int p1), .val (.int p2), .val (.int p3), .val (.int p4), .val (.int p5), .val (.int fi), .unset, .unset, .unset, .unset, .unset, .unset, .unset, .unset, .unset] []))
  refine own_st (fun _ kQ => XT.iconstV X0.here hx rfl (1 : Int32) (hb hby at_6) (by decide) kQ) ?_
  show own_Go p e below s _ _ _ (s₁.setTop (mkF m 7 #[.val (.int p1), .val (.int p2), .val (.int p3), .val (.int p4), .val (.int p5), .val (.int fi), .unset, .unset, .unset, .unset, .unset, .unset, .unset, .unset, .unset] [(.int (1 : Int32))]))
  refine own_st (fun _ kQ => XS.iloadN X0.here hx rfl (hb hby at_7) rfl kQ) ?_
  show own_Go p e below s _ _ _ (s₁.setTop (mkF m 8 #[.val (.int p1), .val (.int p2), .val (.int p3), .val (.int p4), .val (.int p5), .val (.int fi), .unset, .unset, .unset, .unset, .unset, .unset, .unset, .unset, .unset] [(.int p3), (.int (1 : Int32))]))
  refine own_st (fun _ kQ => XT.iconstV X0.here hx rfl (3 : Int32) (hb hby at_8) (by decide) kQ) ?_
  show own_Go p e below s _ _ _ (s₁.setTop (mkF m 9 #[.val (.int p1), .val (.int p2), .val (.int p3), .val (.int p4), .val (.int p5), .val (.int fi), .unset, .unset, .unset, .unset, .unset, .unset, .unset, .unset, .unset] [(.int (3 : Int32)), (.int p3), (.int (1 : Int32))]))
  refine own_st (fun _ kQ => XS.iand X0.here hx rfl (hb hby at_9) rfl kQ) ?_
  show own_Go p e below s _ _ _ (s₁.setTop (mkF m 10 #[.val (.int p1), .val (.int p2), .val (.int p3), .val (.int p4), .val (.int p5), .val (.int fi), .unset, .unset, .unset, .unset, .unset, .unset, .unset, .unset, .unset] [(.int (p3 &&& (3 : Int32))), (.int (1 : Int32))]))
  rcases own_and3 p3 with hi | hi | hi | hi
  · rw [hi]
    show own_Go p e below s _ _ _ (s₁.setTop (mkF m 10 #[.val (.int p1), .val (.int p2), .val (.int p3), .val (.int p4), .val (.int p5), .val (.int fi), .unset, .unset, .unset, .unset, .unset, .unset, .unset, .unset, .unset] [(.int (0 : Int32)), (.int (1 : Int32))]))
    refine own_st (fun _ kQ => XS.iadd X0.here hx rfl (hb hby at_10) rfl kQ) ?_
    show own_Go p e below s _ _ _ (s₁.setTop (mkF m 11 #[.val (.int p1), .val (.int p2), .val (.int p3), .val (.int p4), .val (.int p5), .val (.int fi), .unset, .unset, .unset, .unset, .unset, .unset, .unset, .unset, .unset] [(.int (1 : Int32))]))
    refine own_st (fun _ kQ => XS.istore X0.here hx rfl (hb hby at_11) rfl (l' := #[.val (.int p1), .val (.int p2), .val (.int p3), .val (.int p4), .val (.int p5), .val (.int fi), .val (.int (1 : Int32)), .unset, .unset, .unset, .unset, .unset, .unset, .unset, .unset]) rfl kQ) ?_
    show own_Go p e below s _ _ _ (s₁.setTop (mkF m 13 #[.val (.int p1), .val (.int p2), .val (.int p3), .val (.int p4), .val (.int p5), .val (.int fi), .val (.int (1 : Int32)), .unset, .unset, .unset, .unset, .unset, .unset, .unset, .unset] []))
    obtain ⟨T478, h478, X478, e478, E478, A478, D478, -, st478⟩ := newO X0 hx hZ hown (hw _ (List.mem_of_getElem? (i := 1) rfl)) (hw _ (List.mem_of_getElem? (i := 2) rfl)) (hw _ (List.mem_of_getElem? (i := 3) rfl)) e0 (g := (mkF m 13 #[.val (.int p1), .val (.int p2), .val (.int p3), .val (.int p4), .val (.int p5), .val (.int fi), .val (.int (1 : Int32)), .unset, .unset, .unset, .unset, .unset, .unset, .unset, .unset] [])) rfl (hb hby at_13) (by decide) (by decide)
    obtain ⟨b478, g478⟩ : ∃ z, z = h0.size := ⟨_, rfl⟩
    rw [← g478] at A478 D478 st478
    refine own_st st478 ?_
    have Zs479 : n0 ≤ h478.size := Nat.le_trans Z0 E478.1
    have g480 : n0 ≤ b478 := Nat.le_trans Z0 (Nat.le_of_eq g478.symm)
    have F481 : Fld Z h478 b478 "java/util/AbstractList" "modCount" "I" (.int (0 : Int32)) := D478 (Or.inl (hw _ (List.mem_of_getElem? (i := 23) rfl))) (ty := .int) (by decide)
    have F482 : Fld Z h478 b478 "java/util/ArrayList" "elementData" "[Ljava/lang/Object;" .null := D478 (Or.inl (hw _ (List.mem_of_getElem? (i := 26) rfl))) (ty := (.array (.object "java/lang/Object"))) (by decide)
    have F483 : Fld Z h478 b478 "java/util/ArrayList" "size" "I" (.int (0 : Int32)) := D478 (Or.inl (hw _ (List.mem_of_getElem? (i := 42) rfl))) (ty := .int) (by decide)
    show own_Go p e below s _ _ _ (T478.setTop (mkF m 16 #[.val (.int p1), .val (.int p2), .val (.int p3), .val (.int p4), .val (.int p5), .val (.int fi), .val (.int (1 : Int32)), .unset, .unset, .unset, .unset, .unset, .unset, .unset, .unset] [(.ref b478)]))
    refine own_st (fun _ kQ => XS.dup X478.here hx rfl (hb hby at_16) rfl rfl kQ) ?_
    show own_Go p e below s _ _ _ (T478.setTop (mkF m 17 #[.val (.int p1), .val (.int p2), .val (.int p3), .val (.int p4), .val (.int p5), .val (.int fi), .val (.int (1 : Int32)), .unset, .unset, .unset, .unset, .unset, .unset, .unset, .unset] [(.ref b478), (.ref b478)]))
    have O485 : Old Z n0 h478 := (O0.ext E478)
    obtain ⟨_, _, ⟨T484, L484, k484, n484⟩, -, X484, ⟨Lc484, hQ484, l484, y484, z484⟩, st484⟩ := X478.specialBack hx (y := (⟨"java/util/ArrayList", "<init>", "()V"⟩ : MethodName)) rfl hown (mvT hZ (hw _ (List.mem_of_getElem? (i := 4) rfl))) (mvT hZ (hw _ (List.mem_of_getElem? (i := 5) rfl))) (mvT hZ (hw _ (List.mem_of_getElem? (i := 6) rfl))) (by decide) (backOf (W := 1) (own_rm_alinit l Z a0 hw [] b478 dflt kd h478 n0 Zs479 O485 S_es V_es A478 F481 F482 F483 g480) hZ (hw _ (List.mem_of_getElem? (i := 6) rfl)) (hw _ (List.mem_of_getElem? (i := 3) rfl)) (by decide) (by decide)) (g := (mkF m 17 #[.val (.int p1), .val (.int p2), .val (.int p3), .val (.int p4), .val (.int p5), .val (.int fi), .val (.int (1 : Int32)), .unset, .unset, .unset, .unset, .unset, .unset, .unset, .unset] [(.ref b478), (.ref b478)])) rfl (by rw [hml]; rfl) (Steps.refl _) (a := b478) (argsL := []) (rest := [(.ref b478)]) (lenOf own_pd0 rfl) rfl (by show 2 * 0 + _ ≤ _; exact Nat.le_of_eq rfl) (hb hby at_17) (fun _ _ => ⟨rfl, e478, (by decide : 1 + 0 ≤ _), (by decide : 3 + 0 ≤ _)⟩)
    dsimp only [Pt.U, Pt.locs, Pt.cells, Pt.slots] at X484 l484 y484 z484 st484 hQ484
    subst l484 y484 z484
    obtain ⟨N484q, rfl, K484, q486, q487, q488, q489⟩ := hQ484
    have N490 := Fr.app N0 N484q
    refine own_tr st484 ?_
    have lt491 : b478 < T484.heap.size := Nat.lt_of_lt_of_le A478.lt K484.1
    have Zs492 : n0 ≤ T484.heap.size := Nat.le_trans Zs479 K484.1
    show own_Go p e below s _ _ _ (T484.setTop (mkF m 20 #[.val (.int p1), .val (.int p2), .val (.int p3), .val (.int p4), .val (.int p5), .val (.int fi), .val (.int (1 : Int32)), .unset, .unset, .unset, .unset, .unset, .unset, .unset, .unset] [(.ref b478)]))
    refine own_st (fun _ kQ => XS.astore X484.here hx rfl (hb hby at_20) rfl rfl (l' := #[.val (.int p1), .val (.int p2), .val (.int p3), .val (.int p4), .val (.int p5), .val (.int fi), .val (.int (1 : Int32)), .val (.ref b478), .unset, .unset, .unset, .unset, .unset, .unset, .unset]) rfl kQ) ?_
    show own_Go p e below s _ _ _ (T484.setTop (mkF m 22 #[.val (.int p1), .val (.int p2), .val (.int p3), .val (.int p4), .val (.int p5), .val (.int fi), .val (.int (1 : Int32)), .val (.ref b478), .unset, .unset, .unset, .unset, .unset, .unset, .unset] []))
    refine own_st (fun _ kQ => XS.aload X484.here hx rfl (hb hby at_22) rfl rfl kQ) ?_
    show own_Go p e below s _ _ _ (T484.setTop (mkF m 24 #[.val (.int p1), .val (.int p2), .val (.int p3), .val (.int p4), .val (.int p5), .val (.int fi), .val (.int (1 : Int32)), .val (.ref b478), .unset, .unset, .unset, .unset, .unset, .unset, .unset] [(.ref b478)]))
    refine own_st (fun _ kQ => XS.iloadN X484.here hx rfl (hb hby at_24) rfl kQ) ?_
    show own_Go p e below s _ _ _ (T484.setTop (mkF m 25 #[.val (.int p1), .val (.int p2), .val (.int p3), .val (.int p4), .val (.int p5), .val (.int fi), .val (.int (1 : Int32)), .val (.ref b478), .unset, .unset, .unset, .unset, .unset, .unset, .unset] [(.int p3), (.ref b478)]))
    have O494 : Old Z n0 T484.heap := (O485.keep K484 (allS g480 all0))
    obtain ⟨_, _, ⟨T493, L493, k493, n493⟩, -, X493, ⟨Lc493, hQ493, l493, y493, z493⟩, st493⟩ := Jvm.LawKit.callS X484 hx (y := (⟨"java/lang/Integer", "valueOf", "(I)Ljava/lang/Integer;"⟩ : MethodName)) hown (mvT hZ (hw _ (List.mem_of_getElem? (i := 27) rfl))) (mvT hZ (hw _ (List.mem_of_getElem? (i := 28) rfl))) (mvT hZ (hw _ (List.mem_of_getElem? (i := 29) rfl))) (mvT hZ (hw _ (List.mem_of_getElem? (i := 30) rfl))) (by decide) (backOf (W := 1) (own_rm_valueOfI l Z a0 hw [] p3 a_cacheI T484.heap n0 Zs492 O494 S_cacheI BxI S_high) hZ (hw _ (List.mem_of_getElem? (i := 30) rfl)) (hw _ (List.mem_of_getElem? (i := 29) rfl)) (by decide) (by decide)) (g := (mkF m 25 #[.val (.int p1), .val (.int p2), .val (.int p3), .val (.int p4), .val (.int p5), .val (.int fi), .val (.int (1 : Int32)), .val (.ref b478), .unset, .unset, .unset, .unset, .unset, .unset, .unset] [(.int p3), (.ref b478)])) rfl (by rw [hml]; rfl) (argsL := [(.int p3)]) (rest := [(.ref b478)]) (lenOf own_pd10 rfl) rfl (by show 2 * 0 + _ ≤ _; exact Nat.le_of_eq rfl) (hb hby at_25) (fun _ _ => ⟨rfl, rfl, (by decide : 1 + 1 ≤ _), (by decide : 3 + 1 ≤ _)⟩)
    dsimp only [Pt.U, Pt.locs, Pt.cells, Pt.slots] at X493 l493 y493 z493 st493 hQ493
    subst l493 y493 z493
    obtain ⟨x495, N493q, rfl, K493, q496, q497⟩ := hQ493
    have N498 := Fr.app N490 N493q
    refine own_st st493 ?_
    have lt499 : b478 < T493.heap.size := Nat.lt_of_lt_of_le q489.lt K493.1
    have Zs500 : n0 ≤ T493.heap.size := Nat.le_trans Zs492 K493.1
    show own_Go p e below s _ _ _ (T493.setTop (mkF m 28 #[.val (.int p1), .val (.int p2), .val (.int p3), .val (.int p4), .val (.int p5), .val (.int fi), .val (.int (1 : Int32)), .val (.ref b478), .unset, .unset, .unset, .unset, .unset, .unset, .unset] [(.ref x495), (.ref b478)]))
    have F502 : Exa Z T493.heap b478 "java/util/ArrayList" := (q486.keep K493)
    have F503 : Fld Z T493.heap b478 "java/util/AbstractList" "modCount" "I" (.int (0 : Int32)) := (q487.keep K493 nin0)
    have F504 : Fld Z T493.heap b478 "java/util/ArrayList" "elementData" "[Ljava/lang/Object;" (.ref dflt) := (q488.keep K493 nin0)
    have F505 : Fld Z T493.heap b478 "java/util/ArrayList" "size" "I" (.int (0 : Int32)) := (q489.keep K493 nin0)
    have O506 : Old Z n0 T493.heap := (O494.keep K493 all0)
    obtain ⟨cq501, kq501, q501a, q501b, q501c⟩ := isOf hZ rfl F502
    obtain ⟨_, _, ⟨T501, L501, k501, n501⟩, -, X501, ⟨Lc501, hQ501, l501, y501, z501⟩, st501⟩ := X493.virtualBack hx (y := (⟨"java/util/ArrayList", "add", "(Ljava/lang/Object;)Z"⟩ : MethodName)) (z := (⟨"java/util/ArrayList", "add", "(Ljava/lang/Object;)Z"⟩ : MethodName)) hown (mvT hZ (hw _ (List.mem_of_getElem? (i := 34) rfl))) (mvT hZ (hw _ (List.mem_of_getElem? (i := 35) rfl))) (notFace_of_selects (args := #[]) (mvT hZ (hw _ (List.mem_of_getElem? (i := 37) rfl)))) (mvT hZ (hw _ (List.mem_of_getElem? (i := 37) rfl))) (mvT hZ (hw _ (List.mem_of_getElem? (i := 36) rfl))) (by decide) (backOf (W := 0) (own_rm_add1_0 l Z a0 hw [] b478 x495 (0 : Int32) dflt kd T493.heap n0 Zs500 O506 S_es V_es F502 F503 F504 F505 g480 q496) hZ (hw _ (List.mem_of_getElem? (i := 38) rfl)) (hw _ (List.mem_of_getElem? (i := 3) rfl)) (by decide) (by decide)) q501a q501c (g := (mkF m 28 #[.val (.int p1), .val (.int p2), .val (.int p3), .val (.int p4), .val (.int p5), .val (.int fi), .val (.int (1 : Int32)), .val (.ref b478), .unset, .unset, .unset, .unset, .unset, .unset, .unset] [(.ref x495), (.ref b478)])) rfl (by rw [hml]; rfl) (Steps.refl _) (argsL := [(.ref x495)]) (rest := []) (lenOf own_pd11 rfl) rfl (by show 2 * 0 + _ ≤ _; exact Nat.le_of_eq rfl) (hb hby at_28) (fun _ _ => ⟨rfl, rfl, (by decide : 2 + 1 ≤ _), (by decide : 4 + 10 ≤ _)⟩)
    dsimp only [Pt.U, Pt.locs, Pt.cells, Pt.slots] at X501 l501 y501 z501 st501 hQ501
    subst l501 y501 z501
    obtain ⟨x507, x508, N501q, rfl, K501, q509, q510, q511, q512, q513, q514, q515, q516⟩ := hQ501
    have N517 := Fr.app N498 N501q
    refine own_tr st501 ?_
    have lt518 : b478 < T501.heap.size := Nat.lt_of_lt_of_le lt499 K501.1
    have lt519 : x495 < T501.heap.size := Nat.lt_of_lt_of_le q497.lt K501.1
    have Zs520 : n0 ≤ T501.heap.size := Nat.le_trans Zs500 K501.1
    have ne521 : b478 ≠ x507 := Nat.ne_of_lt (Nat.lt_of_lt_of_le lt499 q509)
    have ne522 : x495 ≠ x507 := Nat.ne_of_lt (Nat.lt_of_lt_of_le q497.lt q509)
    have g523 : n0 ≤ x507 := Nat.le_trans Zs500 q509
    show own_Go p e below s _ _ _ (T501.setTop (mkF m 31 #[.val (.int p1), .val (.int p2), .val (.int p3), .val (.int p4), .val (.int p5), .val (.int fi), .val (.int (1 : Int32)), .val (.ref b478), .unset, .unset, .unset, .unset, .unset, .unset, .unset] [(.int (1 : Int32))]))
    refine own_st (fun _ kQ => XT.pop X501.here hx rfl (hb hby at_31) rfl rfl kQ) ?_
    show own_Go p e below s _ _ _ (T501.setTop (mkF m 32 #[.val (.int p1), .val (.int p2), .val (.int p3), .val (.int p4), .val (.int p5), .val (.int fi), .val (.int (1 : Int32)), .val (.ref b478), .unset, .unset, .unset, .unset, .unset, .unset, .unset] []))
    refine own_st (fun _ kQ => XS.iload X501.here hx rfl (hb hby at_32) rfl kQ) ?_
    show own_Go p e below s _ _ _ (T501.setTop (mkF m 34 #[.val (.int p1), .val (.int p2), .val (.int p3), .val (.int p4), .val (.int p5), .val (.int fi), .val (.int (1 : Int32)), .val (.ref b478), .unset, .unset, .unset, .unset, .unset, .unset, .unset] [(.int (1 : Int32))]))
    refine own_st (fun _ kQ => XT.iconstV X501.here hx rfl (2 : Int32) (hb hby at_34) (by decide) kQ) ?_
    show own_Go p e below s _ _ _ (T501.setTop (mkF m 35 #[.val (.int p1), .val (.int p2), .val (.int p3), .val (.int p4), .val (.int p5), .val (.int fi), .val (.int (1 : Int32)), .val (.ref b478), .unset, .unset, .unset, .unset, .unset, .unset, .unset] [(.int (2 : Int32)), (.int (1 : Int32))]))
    refine own_st (fun _ kQ => XS.icmpYes X501.here hx rfl (pc0 := 35) (pc' := 48) rfl (hb hby at_35) rfl (XT.ii_lt_t (by decide)) (by decide) (by decide) kQ) ?_
    show own_Go p e below s _ _ _ (T501.setTop (mkF m 48 #[.val (.int p1), .val (.int p2), .val (.int p3), .val (.int p4), .val (.int p5), .val (.int fi), .val (.int (1 : Int32)), .val (.ref b478), .unset, .unset, .unset, .unset, .unset, .unset, .unset] []))
    refine own_st (fun _ kQ => XS.iload X501.here hx rfl (hb hby at_48) rfl kQ) ?_
    show own_Go p e below s _ _ _ (T501.setTop (mkF m 50 #[.val (.int p1), .val (.int p2), .val (.int p3), .val (.int p4), .val (.int p5), .val (.int fi), .val (.int (1 : Int32)), .val (.ref b478), .unset, .unset, .unset, .unset, .unset, .unset, .unset] [(.int (1 : Int32))]))
    refine own_st (fun _ kQ => XT.iconstV X501.here hx rfl (3 : Int32) (hb hby at_50) (by decide) kQ) ?_
    show own_Go p e below s _ _ _ (T501.setTop (mkF m 51 #[.val (.int p1), .val (.int p2), .val (.int p3), .val (.int p4), .val (.int p5), .val (.int fi), .val (.int (1 : Int32)), .val (.ref b478), .unset, .unset, .unset, .unset, .unset, .unset, .unset] [(.int (3 : Int32)), (.int (1 : Int32))]))
    refine own_st (fun _ kQ => XS.icmpYes X501.here hx rfl (pc0 := 51) (pc' := 64) rfl (hb hby at_51) rfl (XT.ii_lt_t (by decide)) (by decide) (by decide) kQ) ?_
    show own_Go p e below s _ _ _ (T501.setTop (mkF m 64 #[.val (.int p1), .val (.int p2), .val (.int p3), .val (.int p4), .val (.int p5), .val (.int fi), .val (.int (1 : Int32)), .val (.ref b478), .unset, .unset, .unset, .unset, .unset, .unset, .unset] []))
    refine own_st (fun _ kQ => XS.iload X501.here hx rfl (hb hby at_64) rfl kQ) ?_
    show own_Go p e below s _ _ _ (T501.setTop (mkF m 66 #[.val (.int p1), .val (.int p2), .val (.int p3), .val (.int p4), .val (.int p5), .val (.int fi), .val (.int (1 : Int32)), .val (.ref b478), .unset, .unset, .unset, .unset, .unset, .unset, .unset] [(.int (1 : Int32))]))
    refine own_st (fun _ kQ => XT.iconstV X501.here hx rfl (4 : Int32) (hb hby at_66) (by decide) kQ) ?_
    show own_Go p e below s _ _ _ (T501.setTop (mkF m 67 #[.val (.int p1), .val (.int p2), .val (.int p3), .val (.int p4), .val (.int p5), .val (.int fi), .val (.int (1 : Int32)), .val (.ref b478), .unset, .unset, .unset, .unset, .unset, .unset, .unset] [(.int (4 : Int32)), (.int (1 : Int32))]))
    refine own_st (fun _ kQ => XS.icmpYes X501.here hx rfl (pc0 := 67) (pc' := 81) rfl (hb hby at_67) rfl (XT.ii_lt_t (by decide)) (by decide) (by decide) kQ) ?_
    show own_Go p e below s _ _ _ (T501.setTop (mkF m 81 #[.val (.int p1), .val (.int p2), .val (.int p3), .val (.int p4), .val (.int p5), .val (.int fi), .val (.int (1 : Int32)), .val (.ref b478), .unset, .unset, .unset, .unset, .unset, .unset, .unset] []))
    refine own_st (fun _ kQ => XS.iload X501.here hx rfl (hb hby at_81) rfl kQ) ?_
    show own_Go p e below s _ _ _ (T501.setTop (mkF m 83 #[.val (.int p1), .val (.int p2), .val (.int p3), .val (.int p4), .val (.int p5), .val (.int fi), .val (.int (1 : Int32)), .val (.ref b478), .unset, .unset, .unset, .unset, .unset, .unset, .unset] [(.int p5)]))
    refine own_st (fun _ kQ => XT.iconstV X501.here hx rfl (1 : Int32) (hb hby at_83) (by decide) kQ) ?_
    show own_Go p e below s _ _ _ (T501.setTop (mkF m 84 #[.val (.int p1), .val (.int p2), .val (.int p3), .val (.int p4), .val (.int p5), .val (.int fi), .val (.int (1 : Int32)), .val (.ref b478), .unset, .unset, .unset, .unset, .unset, .unset, .unset] [(.int (1 : Int32)), (.int p5)]))
    refine own_st (fun _ kQ => XS.iand X501.here hx rfl (hb hby at_84) rfl kQ) ?_
    show own_Go p e below s _ _ _ (T501.setTop (mkF m 85 #[.val (.int p1), .val (.int p2), .val (.int p3), .val (.int p4), .val (.int p5), .val (.int fi), .val (.int (1 : Int32)), .val (.ref b478), .unset, .unset, .unset, .unset, .unset, .unset, .unset] [(.int (p5 &&& (1 : Int32)))]))
    by_cases hc524 : (p5 &&& (1 : Int32)) = 0
    · refine own_st (fun _ kQ => XS.ifNo X501.here hx rfl (hb hby at_85) rfl (XT.i0_ne_f hc524) kQ) ?_
      show own_Go p e below s _ _ _ (T501.setTop (mkF m 88 #[.val (.int p1), .val (.int p2), .val (.int p3), .val (.int p4), .val (.int p5), .val (.int fi), .val (.int (1 : Int32)), .val (.ref b478), .unset, .unset, .unset, .unset, .unset, .unset, .unset] []))
      refine own_st (fun _ kQ => XS.iloadN X501.here hx rfl (hb hby at_88) rfl kQ) ?_
      show own_Go p e below s _ _ _ (T501.setTop (mkF m 89 #[.val (.int p1), .val (.int p2), .val (.int p3), .val (.int p4), .val (.int p5), .val (.int fi), .val (.int (1 : Int32)), .val (.ref b478), .unset, .unset, .unset, .unset, .unset, .unset, .unset] [(.int p4)]))
      refine own_st (fun _ kQ => XS.goto X501.here hx rfl (pc0 := 89) (pc' := 101) rfl (hb hby at_89) (by decide) (by decide) kQ) ?_
      show own_Go p e below s _ _ _ (T501.setTop (mkF m 101 #[.val (.int p1), .val (.int p2), .val (.int p3), .val (.int p4), .val (.int p5), .val (.int fi), .val (.int (1 : Int32)), .val (.ref b478), .unset, .unset, .unset, .unset, .unset, .unset, .unset] [(.int p4)]))
      generalize hk_ix : p4 = ix
      show own_Go p e below s _ _ _ (T501.setTop (mkF m 101 #[.val (.int p1), .val (.int p2), .val (.int p3), .val (.int ix), .val (.int p5), .val (.int fi), .val (.int (1 : Int32)), .val (.ref b478), .unset, .unset, .unset, .unset, .unset, .unset, .unset] [(.int ix)]))
      refine own_st (fun _ kQ => XS.istore X501.here hx rfl (hb hby at_101) rfl (l' := #[.val (.int p1), .val (.int p2), .val (.int p3), .val (.int ix), .val (.int p5), .val (.int fi), .val (.int (1 : Int32)), .val (.ref b478), .val (.int ix), .unset, .unset, .unset, .unset, .unset, .unset]) rfl kQ) ?_
      show own_Go p e below s _ _ _ (T501.setTop (mkF m 103 #[.val (.int p1), .val (.int p2), .val (.int p3), .val (.int ix), .val (.int p5), .val (.int fi), .val (.int (1 : Int32)), .val (.ref b478), .val (.int ix), .unset, .unset, .unset, .unset, .unset, .unset] []))
      obtain ⟨T525, h525, X525, e525, E525, A525, D525, -, st525⟩ := newO X501 hx hZ hown (hw _ (List.mem_of_getElem? (i := 65) rfl)) (hw _ (List.mem_of_getElem? (i := 66) rfl)) (hw _ (List.mem_of_getElem? (i := 67) rfl)) rfl (g := (mkF m 103 #[.val (.int p1), .val (.int p2), .val (.int p3), .val (.int ix), .val (.int p5), .val (.int fi), .val (.int (1 : Int32)), .val (.ref b478), .val (.int ix), .unset, .unset, .unset, .unset, .unset, .unset] [])) rfl (hb hby at_103) (by decide) (by decide)
      obtain ⟨b525, g525⟩ : ∃ z, z = T501.heap.size := ⟨_, rfl⟩
      rw [← g525] at A525 D525 st525
      refine own_st st525 ?_
      have lt526 : b478 < h525.size := Nat.lt_of_lt_of_le q513.lt E525.1
      have lt527 : x495 < h525.size := Nat.lt_of_lt_of_le lt519 E525.1
      have lt528 : x507 < h525.size := Nat.lt_of_lt_of_le q515.lt E525.1
      have Zs529 : n0 ≤ h525.size := Nat.le_trans Zs520 E525.1
      have ne530 : b478 ≠ b525 := Nat.ne_of_lt (Nat.lt_of_lt_of_le q513.lt (Nat.le_of_eq g525.symm))
      have ne531 : x495 ≠ b525 := Nat.ne_of_lt (Nat.lt_of_lt_of_le lt519 (Nat.le_of_eq g525.symm))
      have ne532 : x507 ≠ b525 := Nat.ne_of_lt (Nat.lt_of_lt_of_le q515.lt (Nat.le_of_eq g525.symm))
      have g533 : n0 ≤ b525 := Nat.le_trans Zs520 (Nat.le_of_eq g525.symm)
      have F534 : Fld Z h525 b525 "com/example/rationed_session/rationedsession/model/Partition" "number" "I" (.int (0 : Int32)) := D525 (Or.inr (hw _ (List.mem_of_getElem? (i := 73) rfl))) (ty := .int) (by decide)
      have F535 : Fld Z h525 b525 "com/example/rationed_session/rationedsession/model/Partition" "firstIndex" "I" (.int (0 : Int32)) := D525 (Or.inr (hw _ (List.mem_of_getElem? (i := 75) rfl))) (ty := .int) (by decide)
      have F536 : Fld Z h525 b525 "com/example/rationed_session/rationedsession/model/Partition" "inputs" "Ljava/util/List;" .null := D525 (Or.inr (hw _ (List.mem_of_getElem? (i := 120) rfl))) (ty := (.object "java/util/List")) (by decide)
      show own_Go p e below s _ _ _ (T525.setTop (mkF m 106 #[.val (.int p1), .val (.int p2), .val (.int p3), .val (.int ix), .val (.int p5), .val (.int fi), .val (.int (1 : Int32)), .val (.ref b478), .val (.int ix), .unset, .unset, .unset, .unset, .unset, .unset] [(.ref b525)]))
      refine own_st (fun _ kQ => XS.dup X525.here hx rfl (hb hby at_106) rfl rfl kQ) ?_
      show own_Go p e below s _ _ _ (T525.setTop (mkF m 107 #[.val (.int p1), .val (.int p2), .val (.int p3), .val (.int ix), .val (.int p5), .val (.int fi), .val (.int (1 : Int32)), .val (.ref b478), .val (.int ix), .unset, .unset, .unset, .unset, .unset, .unset] [(.ref b525), (.ref b525)]))
      refine own_st (fun _ kQ => XS.iloadN X525.here hx rfl (hb hby at_107) rfl kQ) ?_
      show own_Go p e below s _ _ _ (T525.setTop (mkF m 108 #[.val (.int p1), .val (.int p2), .val (.int p3), .val (.int ix), .val (.int p5), .val (.int fi), .val (.int (1 : Int32)), .val (.ref b478), .val (.int ix), .unset, .unset, .unset, .unset, .unset, .unset] [(.int p1), (.ref b525), (.ref b525)]))
      refine own_st (fun _ kQ => XS.iload X525.here hx rfl (hb hby at_108) rfl kQ) ?_
      show own_Go p e below s _ _ _ (T525.setTop (mkF m 110 #[.val (.int p1), .val (.int p2), .val (.int p3), .val (.int ix), .val (.int p5), .val (.int fi), .val (.int (1 : Int32)), .val (.ref b478), .val (.int ix), .unset, .unset, .unset, .unset, .unset, .unset] [(.int fi), (.int p1), (.ref b525), (.ref b525)]))
      refine own_st (fun _ kQ => XS.aload X525.here hx rfl (hb hby at_110) rfl rfl kQ) ?_
      show own_Go p e below s _ _ _ (T525.setTop (mkF m 112 #[.val (.int p1), .val (.int p2), .val (.int p3), .val (.int ix), .val (.int p5), .val (.int fi), .val (.int (1 : Int32)), .val (.ref b478), .val (.int ix), .unset, .unset, .unset, .unset, .unset, .unset] [(.ref b478), (.int fi), (.int p1), (.ref b525), (.ref b525)]))
      have F538 : Exa Z h525 b478 "java/util/ArrayList" := (q510.ext E525)
      obtain ⟨_, _, ⟨T537, L537, k537, n537⟩, -, X537, ⟨Lc537, hQ537, l537, y537, z537⟩, st537⟩ := X525.specialBack hx (y := (⟨"com/example/rationed_session/rationedsession/model/Partition", "<init>", "(IILjava/util/List;)V"⟩ : MethodName)) rfl hown (mvT hZ (hw _ (List.mem_of_getElem? (i := 68) rfl))) (mvT hZ (hw _ (List.mem_of_getElem? (i := 69) rfl))) (mvT hZ (hw _ (List.mem_of_getElem? (i := 70) rfl))) (by decide) (backOf (W := 1) (own_rm_pinitU l Z a0 hw [] b525 p1 fi b478 mA mL mR h525 n0 Zs529 M_AL M_UL M_UR h1 h2 A525 F538 F534 F535 F536 g533) hZ (hw _ (List.mem_of_getElem? (i := 70) rfl)) (hw _ (List.mem_of_getElem? (i := 67) rfl)) (by decide) (by decide)) (g := (mkF m 112 #[.val (.int p1), .val (.int p2), .val (.int p3), .val (.int ix), .val (.int p5), .val (.int fi), .val (.int (1 : Int32)), .val (.ref b478), .val (.int ix), .unset, .unset, .unset, .unset, .unset, .unset] [(.ref b478), (.int fi), (.int p1), (.ref b525), (.ref b525)])) rfl (by rw [hml]; rfl) (Steps.refl _) (a := b525) (argsL := [(.int p1), (.int fi), (.ref b478)]) (rest := [(.ref b525)]) (lenOf own_pd12 rfl) rfl (by show 2 * 0 + _ ≤ _; exact Nat.le_of_eq rfl) (hb hby at_112) (fun _ _ => ⟨rfl, e525, (by decide : 4 + 1 ≤ _), (by decide : 17 + 2 ≤ _)⟩)
      dsimp only [Pt.U, Pt.locs, Pt.cells, Pt.slots] at X537 l537 y537 z537 st537 hQ537
      subst l537 y537 z537
      obtain ⟨x539, N537q, rfl, K537, q540, q541, q542, q543, q544, q545, q546, q547⟩ := hQ537
      have N548 := Fr.app N517 N537q
      refine own_tr st537 ?_
      have lt549 : b478 < T537.heap.size := Nat.lt_of_lt_of_le lt526 K537.1
      have lt550 : x495 < T537.heap.size := Nat.lt_of_lt_of_le lt527 K537.1
      have lt551 : x507 < T537.heap.size := Nat.lt_of_lt_of_le lt528 K537.1
      have lt552 : b525 < T537.heap.size := Nat.lt_of_lt_of_le A525.lt K537.1
      have Zs553 : n0 ≤ T537.heap.size := Nat.le_trans Zs529 K537.1
      have ne554 : b478 ≠ x539 := Nat.ne_of_lt (Nat.lt_of_lt_of_le lt526 q544)
      have ne555 : x495 ≠ x539 := Nat.ne_of_lt (Nat.lt_of_lt_of_le lt527 q544)
      have ne556 : x507 ≠ x539 := Nat.ne_of_lt (Nat.lt_of_lt_of_le lt528 q544)
      have ne557 : b525 ≠ x539 := Nat.ne_of_lt (Nat.lt_of_lt_of_le A525.lt q544)
      have g558 : n0 ≤ x539 := Nat.le_trans Zs529 q544
      obtain ⟨Lp559, Xp559, Np559⟩ : ∃ L, Stand p l e room_1 s m #[(.int p1), (.int p2), (.int p3), (.int p4), (.int p5)] below meth c T537 L 5 19 ∧ Fr n0 L := ⟨_, X537, N548⟩
      show own_Go p e below s _ _ _ (T537.setTop (mkF m 115 #[.val (.int p1), .val (.int p2), .val (.int p3), .val (.int ix), .val (.int p5), .val (.int fi), .val (.int (1 : Int32)), .val (.ref b478), .val (.int ix), .unset, .unset, .unset, .unset, .unset, .unset] [(.ref b525)]))
      refine own_st (fun _ kQ => XS.astore Xp559.here hx rfl (hb hby at_115) rfl rfl (l' := #[.val (.int p1), .val (.int p2), .val (.int p3), .val (.int ix), .val (.int p5), .val (.int fi), .val (.int (1 : Int32)), .val (.ref b478), .val (.int ix), .val (.ref b525), .unset, .unset, .unset, .unset, .unset]) rfl kQ) ?_
      show own_Go p e below s _ _ _ (T537.setTop (mkF m 117 #[.val (.int p1), .val (.int p2), .val (.int p3), .val (.int ix), .val (.int p5), .val (.int fi), .val (.int (1 : Int32)), .val (.ref b478), .val (.int ix), .val (.ref b525), .unset, .unset, .unset, .unset, .unset] []))
      refine own_st (fun _ kQ => XS.iload Xp559.here hx rfl (hb hby at_117) rfl kQ) ?_
      show own_Go p e below s _ _ _ (T537.setTop (mkF m 119 #[.val (.int p1), .val (.int p2), .val (.int p3), .val (.int ix), .val (.int p5), .val (.int fi), .val (.int (1 : Int32)), .val (.ref b478), .val (.int ix), .val (.ref b525), .unset, .unset, .unset, .unset, .unset] [(.int fi)]))
      refine own_st (fun _ kQ => XT.i2l Xp559.here hx rfl (hb hby at_119) rfl kQ) ?_
      show own_Go p e below s _ _ _ (T537.setTop (mkF m 120 #[.val (.int p1), .val (.int p2), .val (.int p3), .val (.int ix), .val (.int p5), .val (.int fi), .val (.int (1 : Int32)), .val (.ref b478), .val (.int ix), .val (.ref b525), .unset, .unset, .unset, .unset, .unset] [(.long (fi.toInt64))]))
      refine own_st (fun _ kQ => XT.lstore Xp559.here hx rfl (hb hby at_120) rfl (l' := #[.val (.int p1), .val (.int p2), .val (.int p3), .val (.int ix), .val (.int p5), .val (.int fi), .val (.int (1 : Int32)), .val (.ref b478), .val (.int ix), .val (.ref b525), .val (.long (fi.toInt64)), .second, .unset, .unset, .unset]) rfl kQ) ?_
      show own_Go p e below s _ _ _ (T537.setTop (mkF m 122 #[.val (.int p1), .val (.int p2), .val (.int p3), .val (.int ix), .val (.int p5), .val (.int fi), .val (.int (1 : Int32)), .val (.ref b478), .val (.int ix), .val (.ref b525), .val (.long (fi.toInt64)), .second, .unset, .unset, .unset] []))
      refine own_st (fun _ kQ => XS.iload Xp559.here hx rfl (hb hby at_122) rfl kQ) ?_
      show own_Go p e below s _ _ _ (T537.setTop (mkF m 124 #[.val (.int p1), .val (.int p2), .val (.int p3), .val (.int ix), .val (.int p5), .val (.int fi), .val (.int (1 : Int32)), .val (.ref b478), .val (.int ix), .val (.ref b525), .val (.long (fi.toInt64)), .second, .unset, .unset, .unset] [(.int fi)]))
      refine own_st (fun _ kQ => XT.i2l Xp559.here hx rfl (hb hby at_124) rfl kQ) ?_
      show own_Go p e below s _ _ _ (T537.setTop (mkF m 125 #[.val (.int p1), .val (.int p2), .val (.int p3), .val (.int ix), .val (.int p5), .val (.int fi), .val (.int (1 : Int32)), .val (.ref b478), .val (.int ix), .val (.ref b525), .val (.long (fi.toInt64)), .second, .unset, .unset, .unset] [(.long (fi.toInt64))]))
      refine own_st (fun _ kQ => XS.iload Xp559.here hx rfl (hb hby at_125) rfl kQ) ?_
      show own_Go p e below s _ _ _ (T537.setTop (mkF m 127 #[.val (.int p1), .val (.int p2), .val (.int p3), .val (.int ix), .val (.int p5), .val (.int fi), .val (.int (1 : Int32)), .val (.ref b478), .val (.int ix), .val (.ref b525), .val (.long (fi.toInt64)), .second, .unset, .unset, .unset] [(.int (1 : Int32)), (.long (fi.toInt64))]))
      refine own_st (fun _ kQ => XT.i2l Xp559.here hx rfl (hb hby at_127) rfl kQ) ?_
      show own_Go p e below s _ _ _ (T537.setTop (mkF m 128 #[.val (.int p1), .val (.int p2), .val (.int p3), .val (.int ix), .val (.int p5), .val (.int fi), .val (.int (1 : Int32)), .val (.ref b478), .val (.int ix), .val (.ref b525), .val (.long (fi.toInt64)), .second, .unset, .unset, .unset] [(.long ((1 : Int32).toInt64)), (.long (fi.toInt64))]))
      refine own_st (fun _ kQ => XT.ladd Xp559.here hx rfl (hb hby at_128) rfl kQ) ?_
      show own_Go p e below s _ _ _ (T537.setTop (mkF m 129 #[.val (.int p1), .val (.int p2), .val (.int p3), .val (.int ix), .val (.int p5), .val (.int fi), .val (.int (1 : Int32)), .val (.ref b478), .val (.int ix), .val (.ref b525), .val (.long (fi.toInt64)), .second, .unset, .unset, .unset] [(.long ((fi.toInt64) + ((1 : Int32).toInt64)))]))
      refine own_st (fun _ kQ => XT.lstore Xp559.here hx rfl (hb hby at_129) rfl (l' := #[.val (.int p1), .val (.int p2), .val (.int p3), .val (.int ix), .val (.int p5), .val (.int fi), .val (.int (1 : Int32)), .val (.ref b478), .val (.int ix), .val (.ref b525), .val (.long (fi.toInt64)), .second, .val (.long ((fi.toInt64) + ((1 : Int32).toInt64))), .second, .unset]) rfl kQ) ?_
      show own_Go p e below s _ _ _ (T537.setTop (mkF m 131 #[.val (.int p1), .val (.int p2), .val (.int p3), .val (.int ix), .val (.int p5), .val (.int fi), .val (.int (1 : Int32)), .val (.ref b478), .val (.int ix), .val (.ref b525), .val (.long (fi.toInt64)), .second, .val (.long ((fi.toInt64) + ((1 : Int32).toInt64))), .second, .unset] []))
      refine own_st (fun _ kQ => XS.iload Xp559.here hx rfl (hb hby at_131) rfl kQ) ?_
      show own_Go p e below s _ _ _ (T537.setTop (mkF m 133 #[.val (.int p1), .val (.int p2), .val (.int p3), .val (.int ix), .val (.int p5), .val (.int fi), .val (.int (1 : Int32)), .val (.ref b478), .val (.int ix), .val (.ref b525), .val (.long (fi.toInt64)), .second, .val (.long ((fi.toInt64) + ((1 : Int32).toInt64))), .second, .unset] [(.int ix)]))
      refine own_st (fun _ kQ => XT.i2l Xp559.here hx rfl (hb hby at_133) rfl kQ) ?_
      show own_Go p e below s _ _ _ (T537.setTop (mkF m 134 #[.val (.int p1), .val (.int p2), .val (.int p3), .val (.int ix), .val (.int p5), .val (.int fi), .val (.int (1 : Int32)), .val (.ref b478), .val (.int ix), .val (.ref b525), .val (.long (fi.toInt64)), .second, .val (.long ((fi.toInt64) + ((1 : Int32).toInt64))), .second, .unset] [(.long (ix.toInt64))]))
      refine own_st (fun _ kQ => XT.lload Xp559.here hx rfl (hb hby at_134) rfl kQ) ?_
      show own_Go p e below s _ _ _ (T537.setTop (mkF m 136 #[.val (.int p1), .val (.int p2), .val (.int p3), .val (.int ix), .val (.int p5), .val (.int fi), .val (.int (1 : Int32)), .val (.ref b478), .val (.int ix), .val (.ref b525), .val (.long (fi.toInt64)), .second, .val (.long ((fi.toInt64) + ((1 : Int32).toInt64))), .second, .unset] [(.long (fi.toInt64)), (.long (ix.toInt64))]))
      refine own_st (fun _ kQ => XT.lcmp Xp559.here hx rfl (hb hby at_136) rfl kQ) ?_
      show own_Go p e below s _ _ _ (T537.setTop (mkF m 137 #[.val (.int p1), .val (.int p2), .val (.int p3), .val (.int ix), .val (.int p5), .val (.int fi), .val (.int (1 : Int32)), .val (.ref b478), .val (.int ix), .val (.ref b525), .val (.long (fi.toInt64)), .second, .val (.long ((fi.toInt64) + ((1 : Int32).toInt64))), .second, .unset] [(.int (XT.cmpL (ix.toInt64) (fi.toInt64)))]))
      by_cases hc560 : (ix.toInt64) < (fi.toInt64)
      · refine own_st (fun _ kQ => XS.ifYes Xp559.here hx rfl (pc0 := 137) (pc' := 153) rfl (hb hby at_137) rfl (XT.ll_lt_t hc560) (by decide) (by decide) kQ) ?_
        show own_Go p e below s _ _ _ (T537.setTop (mkF m 153 #[.val (.int p1), .val (.int p2), .val (.int p3), .val (.int ix), .val (.int p5), .val (.int fi), .val (.int (1 : Int32)), .val (.ref b478), .val (.int ix), .val (.ref b525), .val (.long (fi.toInt64)), .second, .val (.long ((fi.toInt64) + ((1 : Int32).toInt64))), .second, .unset] []))
        refine own_st (fun _ kQ => XT.iconstV Xp559.here hx rfl (0 : Int32) (hb hby at_153) (by decide) kQ) ?_
        show own_Go p e below s _ _ _ (T537.setTop (mkF m 154 #[.val (.int p1), .val (.int p2), .val (.int p3), .val (.int ix), .val (.int p5), .val (.int fi), .val (.int (1 : Int32)), .val (.ref b478), .val (.int ix), .val (.ref b525), .val (.long (fi.toInt64)), .second, .val (.long ((fi.toInt64) + ((1 : Int32).toInt64))), .second, .unset] [(.int (0 : Int32))]))
        refine own_st (fun _ kQ => XS.istore Xp559.here hx rfl (hb hby at_154) rfl (l' := #[.val (.int p1), .val (.int p2), .val (.int p3), .val (.int ix), .val (.int p5), .val (.int fi), .val (.int (1 : Int32)), .val (.ref b478), .val (.int ix), .val (.ref b525), .val (.long (fi.toInt64)), .second, .val (.long ((fi.toInt64) + ((1 : Int32).toInt64))), .second, .val (.int (0 : Int32))]) rfl kQ) ?_
        show own_Go p e below s _ _ _ (T537.setTop (mkF m 156 #[.val (.int p1), .val (.int p2), .val (.int p3), .val (.int ix), .val (.int p5), .val (.int fi), .val (.int (1 : Int32)), .val (.ref b478), .val (.int ix), .val (.ref b525), .val (.long (fi.toInt64)), .second, .val (.long ((fi.toInt64) + ((1 : Int32).toInt64))), .second, .val (.int (0 : Int32))] []))
        refine own_st (fun _ kQ => XS.aload Xp559.here hx rfl (hb hby at_156) rfl rfl kQ) ?_
        show own_Go p e below s _ _ _ (T537.setTop (mkF m 158 #[.val (.int p1), .val (.int p2), .val (.int p3), .val (.int ix), .val (.int p5), .val (.int fi), .val (.int (1 : Int32)), .val (.ref b478), .val (.int ix), .val (.ref b525), .val (.long (fi.toInt64)), .second, .val (.long ((fi.toInt64) + ((1 : Int32).toInt64))), .second, .val (.int (0 : Int32))] [(.ref b525)]))
        refine own_st (fun _ kQ => XS.iload Xp559.here hx rfl (hb hby at_158) rfl kQ) ?_
        show own_Go p e below s _ _ _ (T537.setTop (mkF m 160 #[.val (.int p1), .val (.int p2), .val (.int p3), .val (.int ix), .val (.int p5), .val (.int fi), .val (.int (1 : Int32)), .val (.ref b478), .val (.int ix), .val (.ref b525), .val (.long (fi.toInt64)), .second, .val (.long ((fi.toInt64) + ((1 : Int32).toInt64))), .second, .val (.int (0 : Int32))] [(.int ix), (.ref b525)]))
        have F562 : Exa Z T537.heap b478 "java/util/ArrayList" := (F538.keep K537)
        have F563 : Fld Z T537.heap b478 "java/util/ArrayList" "size" "I" (.int (1 : Int32)) := ((q513.ext E525).keep K537 (ninS ne530 nin0))
        obtain ⟨cq561, kq561, q561a, q561b, q561c⟩ := isOf hZ rfl q540
        obtain ⟨_, _, ⟨T561, L561, k561, n561⟩, -, X561, ⟨Lc561, hQ561, l561, y561, z561⟩, st561⟩ := Xp559.virtualBack hx (y := (⟨"com/example/rationed_session/rationedsession/model/Partition", "holds", "(I)Z"⟩ : MethodName)) (z := (⟨"com/example/rationed_session/rationedsession/model/Partition", "holds", "(I)Z"⟩ : MethodName)) hown (mvT hZ (hw _ (List.mem_of_getElem? (i := 121) rfl))) (mvT hZ (hw _ (List.mem_of_getElem? (i := 122) rfl))) (notFace_of_selects (args := #[]) (mvT hZ (hw _ (List.mem_of_getElem? (i := 124) rfl)))) (mvT hZ (hw _ (List.mem_of_getElem? (i := 124) rfl))) (mvT hZ (hw _ (List.mem_of_getElem? (i := 123) rfl))) (by decide) (backOf (W := 0) (own_rm_holdsU l Z a0 hw [] x539 b525 b478 ix fi (1 : Int32) T537.heap n0 Zs553 q543 q545 q546 F562 q542 F563) hZ (hw _ (List.mem_of_getElem? (i := 125) rfl)) (hw _ (List.mem_of_getElem? (i := 67) rfl)) (by decide) (by decide)) q561a q561c (g := (mkF m 160 #[.val (.int p1), .val (.int p2), .val (.int p3), .val (.int ix), .val (.int p5), .val (.int fi), .val (.int (1 : Int32)), .val (.ref b478), .val (.int ix), .val (.ref b525), .val (.long (fi.toInt64)), .second, .val (.long ((fi.toInt64) + ((1 : Int32).toInt64))), .second, .val (.int (0 : Int32))] [(.int ix), (.ref b525)])) rfl (by rw [hml]; rfl) (Steps.refl _) (argsL := [(.int ix)]) (rest := []) (lenOf own_pd13 rfl) rfl (by show 2 * 0 + _ ≤ _; exact Nat.le_of_eq rfl) (hb hby at_160) (fun _ _ => ⟨rfl, rfl, (by decide : 5 + 0 ≤ _), (by decide : 19 + 0 ≤ _)⟩)
        dsimp only [Pt.U, Pt.locs, Pt.cells, Pt.slots] at X561 l561 y561 z561 st561 hQ561
        subst l561 y561 z561
        obtain ⟨N561q, rfl, eh561⟩ := hQ561
        have N564 := Fr.app Np559 N561q
        refine own_tr st561 ?_
        show own_Go p e below s _ _ _ (T561.setTop (mkF m 163 #[.val (.int p1), .val (.int p2), .val (.int p3), .val (.int ix), .val (.int p5), .val (.int fi), .val (.int (1 : Int32)), .val (.ref b478), .val (.int ix), .val (.ref b525), .val (.long (fi.toInt64)), .second, .val (.long ((fi.toInt64) + ((1 : Int32).toInt64))), .second, .val (.int (0 : Int32))] [(.int (if ix < fi then (0 : Int32) else if ix - fi < (1 : Int32) then 1 else 0))]))
        refine own_st (fun _ kQ => XS.iload X561.here hx rfl (hb hby at_163) rfl kQ) ?_
        show own_Go p e below s _ _ _ (T561.setTop (mkF m 165 #[.val (.int p1), .val (.int p2), .val (.int p3), .val (.int ix), .val (.int p5), .val (.int fi), .val (.int (1 : Int32)), .val (.ref b478), .val (.int ix), .val (.ref b525), .val (.long (fi.toInt64)), .second, .val (.long ((fi.toInt64) + ((1 : Int32).toInt64))), .second, .val (.int (0 : Int32))] [(.int (0 : Int32)), (.int (if ix < fi then (0 : Int32) else if ix - fi < (1 : Int32) then 1 else 0))]))
        refine own_st (fun _ kQ => XS.icmpNo X561.here hx rfl (hb hby at_165) rfl (XT.ii_ne_f (by rw [if_pos ((own_lt64 _ _).mp hc560)])) kQ) ?_
        show own_Go p e below s _ _ _ (T561.setTop (mkF m 168 #[.val (.int p1), .val (.int p2), .val (.int p3), .val (.int ix), .val (.int p5), .val (.int fi), .val (.int (1 : Int32)), .val (.ref b478), .val (.int ix), .val (.ref b525), .val (.long (fi.toInt64)), .second, .val (.long ((fi.toInt64) + ((1 : Int32).toInt64))), .second, .val (.int (0 : Int32))] []))
        refine own_st (fun _ kQ => XT.iconstV X561.here hx rfl (1 : Int32) (hb hby at_168) (by decide) kQ) ?_
        show own_Go p e below s _ _ _ (T561.setTop (mkF m 169 #[.val (.int p1), .val (.int p2), .val (.int p3), .val (.int ix), .val (.int p5), .val (.int fi), .val (.int (1 : Int32)), .val (.ref b478), .val (.int ix), .val (.ref b525), .val (.long (fi.toInt64)), .second, .val (.long ((fi.toInt64) + ((1 : Int32).toInt64))), .second, .val (.int (0 : Int32))] [(.int (1 : Int32))]))
        refine own_st (fun _ kQ => XS.goto X561.here hx rfl (pc0 := 169) (pc' := 173) rfl (hb hby at_169) (by decide) (by decide) kQ) ?_
        show own_Go p e below s _ _ _ (T561.setTop (mkF m 173 #[.val (.int p1), .val (.int p2), .val (.int p3), .val (.int ix), .val (.int p5), .val (.int fi), .val (.int (1 : Int32)), .val (.ref b478), .val (.int ix), .val (.ref b525), .val (.long (fi.toInt64)), .second, .val (.long ((fi.toInt64) + ((1 : Int32).toInt64))), .second, .val (.int (0 : Int32))] [(.int (1 : Int32))]))
        refine own_retN X561 hx hlk Bd.returns (t := .boolean) (z' := (1 : Int32)) (by simp) (by decide) (hb hby at_173) (by decide) (by decide) ?_
        rw [eh561]
        exact ⟨N564, rfl⟩
      · refine own_st (fun _ kQ => XS.ifNo Xp559.here hx rfl (hb hby at_137) rfl (XT.ll_lt_f hc560) kQ) ?_
        show own_Go p e below s _ _ _ (T537.setTop (mkF m 140 #[.val (.int p1), .val (.int p2), .val (.int p3), .val (.int ix), .val (.int p5), .val (.int fi), .val (.int (1 : Int32)), .val (.ref b478), .val (.int ix), .val (.ref b525), .val (.long (fi.toInt64)), .second, .val (.long ((fi.toInt64) + ((1 : Int32).toInt64))), .second, .unset] []))
        refine own_st (fun _ kQ => XS.iload Xp559.here hx rfl (hb hby at_140) rfl kQ) ?_
        show own_Go p e below s _ _ _ (T537.setTop (mkF m 142 #[.val (.int p1), .val (.int p2), .val (.int p3), .val (.int ix), .val (.int p5), .val (.int fi), .val (.int (1 : Int32)), .val (.ref b478), .val (.int ix), .val (.ref b525), .val (.long (fi.toInt64)), .second, .val (.long ((fi.toInt64) + ((1 : Int32).toInt64))), .second, .unset] [(.int ix)]))
        refine own_st (fun _ kQ => XT.i2l Xp559.here hx rfl (hb hby at_142) rfl kQ) ?_
        show own_Go p e below s _ _ _ (T537.setTop (mkF m 143 #[.val (.int p1), .val (.int p2), .val (.int p3), .val (.int ix), .val (.int p5), .val (.int fi), .val (.int (1 : Int32)), .val (.ref b478), .val (.int ix), .val (.ref b525), .val (.long (fi.toInt64)), .second, .val (.long ((fi.toInt64) + ((1 : Int32).toInt64))), .second, .unset] [(.long (ix.toInt64))]))
        refine own_st (fun _ kQ => XT.lload Xp559.here hx rfl (hb hby at_143) rfl kQ) ?_
        show own_Go p e below s _ _ _ (T537.setTop (mkF m 145 #[.val (.int p1), .val (.int p2), .val (.int p3), .val (.int ix), .val (.int p5), .val (.int fi), .val (.int (1 : Int32)), .val (.ref b478), .val (.int ix), .val (.ref b525), .val (.long (fi.toInt64)), .second, .val (.long ((fi.toInt64) + ((1 : Int32).toInt64))), .second, .unset] [(.long ((fi.toInt64) + ((1 : Int32).toInt64))), (.long (ix.toInt64))]))
        refine own_st (fun _ kQ => XT.lcmp Xp559.here hx rfl (hb hby at_145) rfl kQ) ?_
        show own_Go p e below s _ _ _ (T537.setTop (mkF m 146 #[.val (.int p1), .val (.int p2), .val (.int p3), .val (.int ix), .val (.int p5), .val (.int fi), .val (.int (1 : Int32)), .val (.ref b478), .val (.int ix), .val (.ref b525), .val (.long (fi.toInt64)), .second, .val (.long ((fi.toInt64) + ((1 : Int32).toInt64))), .second, .unset] [(.int (XT.cmpL (ix.toInt64) ((fi.toInt64) + ((1 : Int32).toInt64))))]))
        by_cases hc565 : (ix.toInt64) < ((fi.toInt64) + ((1 : Int32).toInt64))
        · refine own_st (fun _ kQ => XS.ifNo Xp559.here hx rfl (hb hby at_146) rfl (XT.ll_ge_f hc565) kQ) ?_
          show own_Go p e below s _ _ _ (T537.setTop (mkF m 149 #[.val (.int p1), .val (.int p2), .val (.int p3), .val (.int ix), .val (.int p5), .val (.int fi), .val (.int (1 : Int32)), .val (.ref b478), .val (.int ix), .val (.ref b525), .val (.long (fi.toInt64)), .second, .val (.long ((fi.toInt64) + ((1 : Int32).toInt64))), .second, .unset] []))
          refine own_st (fun _ kQ => XT.iconstV Xp559.here hx rfl (1 : Int32) (hb hby at_149) (by decide) kQ) ?_
          show own_Go p e below s _ _ _ (T537.setTop (mkF m 150 #[.val (.int p1), .val (.int p2), .val (.int p3), .val (.int ix), .val (.int p5), .val (.int fi), .val (.int (1 : Int32)), .val (.ref b478), .val (.int ix), .val (.ref b525), .val (.long (fi.toInt64)), .second, .val (.long ((fi.toInt64) + ((1 : Int32).toInt64))), .second, .unset] [(.int (1 : Int32))]))
          refine own_st (fun _ kQ => XS.goto Xp559.here hx rfl (pc0 := 150) (pc' := 154) rfl (hb hby at_150) (by decide) (by decide) kQ) ?_
          show own_Go p e below s _ _ _ (T537.setTop (mkF m 154 #[.val (.int p1), .val (.int p2), .val (.int p3), .val (.int ix), .val (.int p5), .val (.int fi), .val (.int (1 : Int32)), .val (.ref b478), .val (.int ix), .val (.ref b525), .val (.long (fi.toInt64)), .second, .val (.long ((fi.toInt64) + ((1 : Int32).toInt64))), .second, .unset] [(.int (1 : Int32))]))
          refine own_st (fun _ kQ => XS.istore Xp559.here hx rfl (hb hby at_154) rfl (l' := #[.val (.int p1), .val (.int p2), .val (.int p3), .val (.int ix), .val (.int p5), .val (.int fi), .val (.int (1 : Int32)), .val (.ref b478), .val (.int ix), .val (.ref b525), .val (.long (fi.toInt64)), .second, .val (.long ((fi.toInt64) + ((1 : Int32).toInt64))), .second, .val (.int (1 : Int32))]) rfl kQ) ?_
          show own_Go p e below s _ _ _ (T537.setTop (mkF m 156 #[.val (.int p1), .val (.int p2), .val (.int p3), .val (.int ix), .val (.int p5), .val (.int fi), .val (.int (1 : Int32)), .val (.ref b478), .val (.int ix), .val (.ref b525), .val (.long (fi.toInt64)), .second, .val (.long ((fi.toInt64) + ((1 : Int32).toInt64))), .second, .val (.int (1 : Int32))] []))
          refine own_st (fun _ kQ => XS.aload Xp559.here hx rfl (hb hby at_156) rfl rfl kQ) ?_
          show own_Go p e below s _ _ _ (T537.setTop (mkF m 158 #[.val (.int p1), .val (.int p2), .val (.int p3), .val (.int ix), .val (.int p5), .val (.int fi), .val (.int (1 : Int32)), .val (.ref b478), .val (.int ix), .val (.ref b525), .val (.long (fi.toInt64)), .second, .val (.long ((fi.toInt64) + ((1 : Int32).toInt64))), .second, .val (.int (1 : Int32))] [(.ref b525)]))
          refine own_st (fun _ kQ => XS.iload Xp559.here hx rfl (hb hby at_158) rfl kQ) ?_
          show own_Go p e below s _ _ _ (T537.setTop (mkF m 160 #[.val (.int p1), .val (.int p2), .val (.int p3), .val (.int ix), .val (.int p5), .val (.int fi), .val (.int (1 : Int32)), .val (.ref b478), .val (.int ix), .val (.ref b525), .val (.long (fi.toInt64)), .second, .val (.long ((fi.toInt64) + ((1 : Int32).toInt64))), .second, .val (.int (1 : Int32))] [(.int ix), (.ref b525)]))
          have F567 : Exa Z T537.heap b478 "java/util/ArrayList" := (F538.keep K537)
          have F568 : Fld Z T537.heap b478 "java/util/ArrayList" "size" "I" (.int (1 : Int32)) := ((q513.ext E525).keep K537 (ninS ne530 nin0))
          obtain ⟨cq566, kq566, q566a, q566b, q566c⟩ := isOf hZ rfl q540
          obtain ⟨_, _, ⟨T566, L566, k566, n566⟩, -, X566, ⟨Lc566, hQ566, l566, y566, z566⟩, st566⟩ := Xp559.virtualBack hx (y := (⟨"com/example/rationed_session/rationedsession/model/Partition", "holds", "(I)Z"⟩ : MethodName)) (z := (⟨"com/example/rationed_session/rationedsession/model/Partition", "holds", "(I)Z"⟩ : MethodName)) hown (mvT hZ (hw _ (List.mem_of_getElem? (i := 121) rfl))) (mvT hZ (hw _ (List.mem_of_getElem? (i := 122) rfl))) (notFace_of_selects (args := #[]) (mvT hZ (hw _ (List.mem_of_getElem? (i := 124) rfl)))) (mvT hZ (hw _ (List.mem_of_getElem? (i := 124) rfl))) (mvT hZ (hw _ (List.mem_of_getElem? (i := 123) rfl))) (by decide) (backOf (W := 0) (own_rm_holdsU l Z a0 hw [] x539 b525 b478 ix fi (1 : Int32) T537.heap n0 Zs553 q543 q545 q546 F567 q542 F568) hZ (hw _ (List.mem_of_getElem? (i := 125) rfl)) (hw _ (List.mem_of_getElem? (i := 67) rfl)) (by decide) (by decide)) q566a q566c (g := (mkF m 160 #[.val (.int p1), .val (.int p2), .val (.int p3), .val (.int ix), .val (.int p5), .val (.int fi), .val (.int (1 : Int32)), .val (.ref b478), .val (.int ix), .val (.ref b525), .val (.long (fi.toInt64)), .second, .val (.long ((fi.toInt64) + ((1 : Int32).toInt64))), .second, .val (.int (1 : Int32))] [(.int ix), (.ref b525)])) rfl (by rw [hml]; rfl) (Steps.refl _) (argsL := [(.int ix)]) (rest := []) (lenOf own_pd13 rfl) rfl (by show 2 * 0 + _ ≤ _; exact Nat.le_of_eq rfl) (hb hby at_160) (fun _ _ => ⟨rfl, rfl, (by decide : 5 + 0 ≤ _), (by decide : 19 + 0 ≤ _)⟩)
          dsimp only [Pt.U, Pt.locs, Pt.cells, Pt.slots] at X566 l566 y566 z566 st566 hQ566
          subst l566 y566 z566
          obtain ⟨N566q, rfl, eh566⟩ := hQ566
          have N569 := Fr.app Np559 N566q
          refine own_tr st566 ?_
          show own_Go p e below s _ _ _ (T566.setTop (mkF m 163 #[.val (.int p1), .val (.int p2), .val (.int p3), .val (.int ix), .val (.int p5), .val (.int fi), .val (.int (1 : Int32)), .val (.ref b478), .val (.int ix), .val (.ref b525), .val (.long (fi.toInt64)), .second, .val (.long ((fi.toInt64) + ((1 : Int32).toInt64))), .second, .val (.int (1 : Int32))] [(.int (if ix < fi then (0 : Int32) else if ix - fi < (1 : Int32) then 1 else 0))]))
          refine own_st (fun _ kQ => XS.iload X566.here hx rfl (hb hby at_163) rfl kQ) ?_
          show own_Go p e below s _ _ _ (T566.setTop (mkF m 165 #[.val (.int p1), .val (.int p2), .val (.int p3), .val (.int ix), .val (.int p5), .val (.int fi), .val (.int (1 : Int32)), .val (.ref b478), .val (.int ix), .val (.ref b525), .val (.long (fi.toInt64)), .second, .val (.long ((fi.toInt64) + ((1 : Int32).toInt64))), .second, .val (.int (1 : Int32))] [(.int (1 : Int32)), (.int (if ix < fi then (0 : Int32) else if ix - fi < (1 : Int32) then 1 else 0))]))
          refine own_st (fun _ kQ => XS.icmpNo X566.here hx rfl (hb hby at_165) rfl (XT.ii_ne_f (by rw [if_neg (fun q => hc560 ((own_lt64 _ _).mpr q)), if_pos ((own_hl _ _ (1 : Int32) hfi (by decide) (by decide) (fun q => hc560 ((own_lt64 _ _).mpr q))).mp hc565)])) kQ) ?_
          show own_Go p e below s _ _ _ (T566.setTop (mkF m 168 #[.val (.int p1), .val (.int p2), .val (.int p3), .val (.int ix), .val (.int p5), .val (.int fi), .val (.int (1 : Int32)), .val (.ref b478), .val (.int ix), .val (.ref b525), .val (.long (fi.toInt64)), .second, .val (.long ((fi.toInt64) + ((1 : Int32).toInt64))), .second, .val (.int (1 : Int32))] []))
          refine own_st (fun _ kQ => XT.iconstV X566.here hx rfl (1 : Int32) (hb hby at_168) (by decide) kQ) ?_
          show own_Go p e below s _ _ _ (T566.setTop (mkF m 169 #[.val (.int p1), .val (.int p2), .val (.int p3), .val (.int ix), .val (.int p5), .val (.int fi), .val (.int (1 : Int32)), .val (.ref b478), .val (.int ix), .val (.ref b525), .val (.long (fi.toInt64)), .second, .val (.long ((fi.toInt64) + ((1 : Int32).toInt64))), .second, .val (.int (1 : Int32))] [(.int (1 : Int32))]))
          refine own_st (fun _ kQ => XS.goto X566.here hx rfl (pc0 := 169) (pc' := 173) rfl (hb hby at_169) (by decide) (by decide) kQ) ?_
          show own_Go p e below s _ _ _ (T566.setTop (mkF m 173 #[.val (.int p1), .val (.int p2), .val (.int p3), .val (.int ix), .val (.int p5), .val (.int fi), .val (.int (1 : Int32)), .val (.ref b478), .val (.int ix), .val (.ref b525), .val (.long (fi.toInt64)), .second, .val (.long ((fi.toInt64) + ((1 : Int32).toInt64))), .second, .val (.int (1 : Int32))] [(.int (1 : Int32))]))
          refine own_retN X566 hx hlk Bd.returns (t := .boolean) (z' := (1 : Int32)) (by simp) (by decide) (hb hby at_173) (by decide) (by decide) ?_
          rw [eh566]
          exact ⟨N569, rfl⟩
        · refine own_st (fun _ kQ => XS.ifYes Xp559.here hx rfl (pc0 := 146) (pc' := 153) rfl (hb hby at_146) rfl (XT.ll_ge_t hc565) (by decide) (by decide) kQ) ?_
          show own_Go p e below s _ _ _ (T537.setTop (mkF m 153 #[.val (.int p1), .val (.int p2), .val (.int p3), .val (.int ix), .val (.int p5), .val (.int fi), .val (.int (1 : Int32)), .val (.ref b478), .val (.int ix), .val (.ref b525), .val (.long (fi.toInt64)), .second, .val (.long ((fi.toInt64) + ((1 : Int32).toInt64))), .second, .unset] []))
          refine own_st (fun _ kQ => XT.iconstV Xp559.here hx rfl (0 : Int32) (hb hby at_153) (by decide) kQ) ?_
          show own_Go p e below s _ _ _ (T537.setTop (mkF m 154 #[.val (.int p1), .val (.int p2), .val (.int p3), .val (.int ix), .val (.int p5), .val (.int fi), .val (.int (1 : Int32)), .val (.ref b478), .val (.int ix), .val (.ref b525), .val (.long (fi.toInt64)), .second, .val (.long ((fi.toInt64) + ((1 : Int32).toInt64))), .second, .unset] [(.int (0 : Int32))]))
          refine own_st (fun _ kQ => XS.istore Xp559.here hx rfl (hb hby at_154) rfl (l' := #[.val (.int p1), .val (.int p2), .val (.int p3), .val (.int ix), .val (.int p5), .val (.int fi), .val (.int (1 : Int32)), .val (.ref b478), .val (.int ix), .val (.ref b525), .val (.long (fi.toInt64)), .second, .val (.long ((fi.toInt64) + ((1 : Int32).toInt64))), .second, .val (.int (0 : Int32))]) rfl kQ) ?_
          show own_Go p e below s _ _ _ (T537.setTop (mkF m 156 #[.val (.int p1), .val (.int p2), .val (.int p3), .val (.int ix), .val (.int p5), .val (.int fi), .val (.int (1 : Int32)), .val (.ref b478), .val (.int ix), .val (.ref b525), .val (.long (fi.toInt64)), .second, .val (.long ((fi.toInt64) + ((1 : Int32).toInt64))), .second, .val (.int (0 : Int32))] []))
          refine own_st (fun _ kQ => XS.aload Xp559.here hx rfl (hb hby at_156) rfl rfl kQ) ?_
          show own_Go p e below s _ _ _ (T537.setTop (mkF m 158 #[.val (.int p1), .val (.int p2), .val (.int p3), .val (.int ix), .val (.int p5), .val (.int fi), .val (.int (1 : Int32)), .val (.ref b478), .val (.int ix), .val (.ref b525), .val (.long (fi.toInt64)), .second, .val (.long ((fi.toInt64) + ((1 : Int32).toInt64))), .second, .val (.int (0 : Int32))] [(.ref b525)]))
          refine own_st (fun _ kQ => XS.iload Xp559.here hx rfl (hb hby at_158) rfl kQ) ?_
          show own_Go p e below s _ _ _ (T537.setTop (mkF m 160 #[.val (.int p1), .val (.int p2), .val (.int p3), .val (.int ix), .val (.int p5), .val (.int fi), .val (.int (1 : Int32)), .val (.ref b478), .val (.int ix), .val (.ref b525), .val (.long (fi.toInt64)), .second, .val (.long ((fi.toInt64) + ((1 : Int32).toInt64))), .second, .val (.int (0 : Int32))] [(.int ix), (.ref b525)]))
          have F571 : Exa Z T537.heap b478 "java/util/ArrayList" := (F538.keep K537)
          have F572 : Fld Z T537.heap b478 "java/util/ArrayList" "size" "I" (.int (1 : Int32)) := ((q513.ext E525).keep K537 (ninS ne530 nin0))
          obtain ⟨cq570, kq570, q570a, q570b, q570c⟩ := isOf hZ rfl q540
          obtain ⟨_, _, ⟨T570, L570, k570, n570⟩, -, X570, ⟨Lc570, hQ570, l570, y570, z570⟩, st570⟩ := Xp559.virtualBack hx (y := (⟨"com/example/rationed_session/rationedsession/model/Partition", "holds", "(I)Z"⟩ : MethodName)) (z := (⟨"com/example/rationed_session/rationedsession/model/Partition", "holds", "(I)Z"⟩ : MethodName)) hown (mvT hZ (hw _ (List.mem_of_getElem? (i := 121) rfl))) (mvT hZ (hw _ (List.mem_of_getElem? (i := 122) rfl))) (notFace_of_selects (args := #[]) (mvT hZ (hw _ (List.mem_of_getElem? (i := 124) rfl)))) (mvT hZ (hw _ (List.mem_of_getElem? (i := 124) rfl))) (mvT hZ (hw _ (List.mem_of_getElem? (i := 123) rfl))) (by decide) (backOf (W := 0) (own_rm_holdsU l Z a0 hw [] x539 b525 b478 ix fi (1 : Int32) T537.heap n0 Zs553 q543 q545 q546 F571 q542 F572) hZ (hw _ (List.mem_of_getElem? (i := 125) rfl)) (hw _ (List.mem_of_getElem? (i := 67) rfl)) (by decide) (by decide)) q570a q570c (g := (mkF m 160 #[.val (.int p1), .val (.int p2), .val (.int p3), .val (.int ix), .val (.int p5), .val (.int fi), .val (.int (1 : Int32)), .val (.ref b478), .val (.int ix), .val (.ref b525), .val (.long (fi.toInt64)), .second, .val (.long ((fi.toInt64) + ((1 : Int32).toInt64))), .second, .val (.int (0 : Int32))] [(.int ix), (.ref b525)])) rfl (by rw [hml]; rfl) (Steps.refl _) (argsL := [(.int ix)]) (rest := []) (lenOf own_pd13 rfl) rfl (by show 2 * 0 + _ ≤ _; exact Nat.le_of_eq rfl) (hb hby at_160) (fun _ _ => ⟨rfl, rfl, (by decide : 5 + 0 ≤ _), (by decide : 19 + 0 ≤ _)⟩)
          dsimp only [Pt.U, Pt.locs, Pt.cells, Pt.slots] at X570 l570 y570 z570 st570 hQ570
          subst l570 y570 z570
          obtain ⟨N570q, rfl, eh570⟩ := hQ570
          have N573 := Fr.app Np559 N570q
          refine own_tr st570 ?_
          show own_Go p e below s _ _ _ (T570.setTop (mkF m 163 #[.val (.int p1), .val (.int p2), .val (.int p3), .val (.int ix), .val (.int p5), .val (.int fi), .val (.int (1 : Int32)), .val (.ref b478), .val (.int ix), .val (.ref b525), .val (.long (fi.toInt64)), .second, .val (.long ((fi.toInt64) + ((1 : Int32).toInt64))), .second, .val (.int (0 : Int32))] [(.int (if ix < fi then (0 : Int32) else if ix - fi < (1 : Int32) then 1 else 0))]))
          refine own_st (fun _ kQ => XS.iload X570.here hx rfl (hb hby at_163) rfl kQ) ?_
          show own_Go p e below s _ _ _ (T570.setTop (mkF m 165 #[.val (.int p1), .val (.int p2), .val (.int p3), .val (.int ix), .val (.int p5), .val (.int fi), .val (.int (1 : Int32)), .val (.ref b478), .val (.int ix), .val (.ref b525), .val (.long (fi.toInt64)), .second, .val (.long ((fi.toInt64) + ((1 : Int32).toInt64))), .second, .val (.int (0 : Int32))] [(.int (0 : Int32)), (.int (if ix < fi then (0 : Int32) else if ix - fi < (1 : Int32) then 1 else 0))]))
          refine own_st (fun _ kQ => XS.icmpNo X570.here hx rfl (hb hby at_165) rfl (XT.ii_ne_f (by rw [if_neg (fun q => hc560 ((own_lt64 _ _).mpr q)), if_neg (fun q => hc565 ((own_hl _ _ (1 : Int32) hfi (by decide) (by decide) (fun q => hc560 ((own_lt64 _ _).mpr q))).mpr q))])) kQ) ?_
          show own_Go p e below s _ _ _ (T570.setTop (mkF m 168 #[.val (.int p1), .val (.int p2), .val (.int p3), .val (.int ix), .val (.int p5), .val (.int fi), .val (.int (1 : Int32)), .val (.ref b478), .val (.int ix), .val (.ref b525), .val (.long (fi.toInt64)), .second, .val (.long ((fi.toInt64) + ((1 : Int32).toInt64))), .second, .val (.int (0 : Int32))] []))
          refine own_st (fun _ kQ => XT.iconstV X570.here hx rfl (1 : Int32) (hb hby at_168) (by decide) kQ) ?_
          show own_Go p e below s _ _ _ (T570.setTop (mkF m 169 #[.val (.int p1), .val (.int p2), .val (.int p3), .val (.int ix), .val (.int p5), .val (.int fi), .val (.int (1 : Int32)), .val (.ref b478), .val (.int ix), .val (.ref b525), .val (.long (fi.toInt64)), .second, .val (.long ((fi.toInt64) + ((1 : Int32).toInt64))), .second, .val (.int (0 : Int32))] [(.int (1 : Int32))]))
          refine own_st (fun _ kQ => XS.goto X570.here hx rfl (pc0 := 169) (pc' := 173) rfl (hb hby at_169) (by decide) (by decide) kQ) ?_
          show own_Go p e below s _ _ _ (T570.setTop (mkF m 173 #[.val (.int p1), .val (.int p2), .val (.int p3), .val (.int ix), .val (.int p5), .val (.int fi), .val (.int (1 : Int32)), .val (.ref b478), .val (.int ix), .val (.ref b525), .val (.long (fi.toInt64)), .second, .val (.long ((fi.toInt64) + ((1 : Int32).toInt64))), .second, .val (.int (0 : Int32))] [(.int (1 : Int32))]))
          refine own_retN X570 hx hlk Bd.returns (t := .boolean) (z' := (1 : Int32)) (by simp) (by decide) (hb hby at_173) (by decide) (by decide) ?_
          rw [eh570]
          exact ⟨N573, rfl⟩
    · refine own_st (fun _ kQ => XS.ifYes X501.here hx rfl (pc0 := 85) (pc' := 92) rfl (hb hby at_85) rfl (XT.i0_ne_t hc524) (by decide) (by decide) kQ) ?_
      show own_Go p e below s _ _ _ (T501.setTop (mkF m 92 #[.val (.int p1), .val (.int p2), .val (.int p3), .val (.int p4), .val (.int p5), .val (.int fi), .val (.int (1 : Int32)), .val (.ref b478), .unset, .unset, .unset, .unset, .unset, .unset, .unset] []))
      refine own_st (fun _ kQ => XS.iload X501.here hx rfl (hb hby at_92) rfl kQ) ?_
      show own_Go p e below s _ _ _ (T501.setTop (mkF m 94 #[.val (.int p1), .val (.int p2), .val (.int p3), .val (.int p4), .val (.int p5), .val (.int fi), .val (.int (1 : Int32)), .val (.ref b478), .unset, .unset, .unset, .unset, .unset, .unset, .unset] [(.int fi)]))
      refine own_st (fun _ kQ => XS.iloadN X501.here hx rfl (hb hby at_94) rfl kQ) ?_
      show own_Go p e below s _ _ _ (T501.setTop (mkF m 95 #[.val (.int p1), .val (.int p2), .val (.int p3), .val (.int p4), .val (.int p5), .val (.int fi), .val (.int (1 : Int32)), .val (.ref b478), .unset, .unset, .unset, .unset, .unset, .unset, .unset] [(.int p4), (.int fi)]))
      refine own_st (fun _ kQ => XT.bipushV X501.here hx rfl (8 : Int32) (hb hby at_95) (by decide) kQ) ?_
      show own_Go p e below s _ _ _ (T501.setTop (mkF m 97 #[.val (.int p1), .val (.int p2), .val (.int p3), .val (.int p4), .val (.int p5), .val (.int fi), .val (.int (1 : Int32)), .val (.ref b478), .unset, .unset, .unset, .unset, .unset, .unset, .unset] [(.int (8 : Int32)), (.int p4), (.int fi)]))
      refine own_st (fun _ kQ => iremM X501 hx rfl (hb hby at_97) rfl (by decide) kQ) ?_
      show own_Go p e below s _ _ _ (T501.setTop (mkF m 98 #[.val (.int p1), .val (.int p2), .val (.int p3), .val (.int p4), .val (.int p5), .val (.int fi), .val (.int (1 : Int32)), .val (.ref b478), .unset, .unset, .unset, .unset, .unset, .unset, .unset] [(.int (p4 % (8 : Int32))), (.int fi)]))
      refine own_st (fun _ kQ => XS.iadd X501.here hx rfl (hb hby at_98) rfl kQ) ?_
      show own_Go p e below s _ _ _ (T501.setTop (mkF m 99 #[.val (.int p1), .val (.int p2), .val (.int p3), .val (.int p4), .val (.int p5), .val (.int fi), .val (.int (1 : Int32)), .val (.ref b478), .unset, .unset, .unset, .unset, .unset, .unset, .unset] [(.int (fi + (p4 % (8 : Int32))))]))
      refine own_st (fun _ kQ => XT.iconstV X501.here hx rfl (3 : Int32) (hb hby at_99) (by decide) kQ) ?_
      show own_Go p e below s _ _ _ (T501.setTop (mkF m 100 #[.val (.int p1), .val (.int p2), .val (.int p3), .val (.int p4), .val (.int p5), .val (.int fi), .val (.int (1 : Int32)), .val (.ref b478), .unset, .unset, .unset, .unset, .unset, .unset, .unset] [(.int (3 : Int32)), (.int (fi + (p4 % (8 : Int32))))]))
      refine own_st (fun _ kQ => XS.isub X501.here hx rfl (hb hby at_100) rfl kQ) ?_
      show own_Go p e below s _ _ _ (T501.setTop (mkF m 101 #[.val (.int p1), .val (.int p2), .val (.int p3), .val (.int p4), .val (.int p5), .val (.int fi), .val (.int (1 : Int32)), .val (.ref b478), .unset, .unset, .unset, .unset, .unset, .unset, .unset] [(.int ((fi + (p4 % (8 : Int32))) - (3 : Int32)))]))
      generalize hk_ix : ((fi + (p4 % (8 : Int32))) - (3 : Int32)) = ix
      show own_Go p e below s _ _ _ (T501.setTop (mkF m 101 #[.val (.int p1), .val (.int p2), .val (.int p3), .val (.int p4), .val (.int p5), .val (.int fi), .val (.int (1 : Int32)), .val (.ref b478), .unset, .unset, .unset, .unset, .unset, .unset, .unset] [(.int ix)]))
      refine own_st (fun _ kQ => XS.istore X501.here hx rfl (hb hby at_101) rfl (l' := #[.val (.int p1), .val (.int p2), .val (.int p3), .val (.int p4), .val (.int p5), .val (.int fi), .val (.int (1 : Int32)), .val (.ref b478), .val (.int ix), .unset, .unset, .unset, .unset, .unset, .unset]) rfl kQ) ?_
      show own_Go p e below s _ _ _ (T501.setTop (mkF m 103 #[.val (.int p1), .val (.int p2), .val (.int p3), .val (.int p4), .val (.int p5), .val (.int fi), .val (.int (1 : Int32)), .val (.ref b478), .val (.int ix), .unset, .unset, .unset, .unset, .unset, .unset] []))
      obtain ⟨T574, h574, X574, e574, E574, A574, D574, -, st574⟩ := newO X501 hx hZ hown (hw _ (List.mem_of_getElem? (i := 65) rfl)) (hw _ (List.mem_of_getElem? (i := 66) rfl)) (hw _ (List.mem_of_getElem? (i := 67) rfl)) rfl (g := (mkF m 103 #[.val (.int p1), .val (.int p2), .val (.int p3), .val (.int p4), .val (.int p5), .val (.int fi), .val (.int (1 : Int32)), .val (.ref b478), .val (.int ix), .unset, .unset, .unset, .unset, .unset, .unset] [])) rfl (hb hby at_103) (by decide) (by decide)
      obtain ⟨b574, g574⟩ : ∃ z, z = T501.heap.size := ⟨_, rfl⟩
      rw [← g574] at A574 D574 st574
      refine own_st st574 ?_
      have lt575 : b478 < h574.size := Nat.lt_of_lt_of_le q513.lt E574.1
      have lt576 : x495 < h574.size := Nat.lt_of_lt_of_le lt519 E574.1
      have lt577 : x507 < h574.size := Nat.lt_of_lt_of_le q515.lt E574.1
      have Zs578 : n0 ≤ h574.size := Nat.le_trans Zs520 E574.1
      have ne579 : b478 ≠ b574 := Nat.ne_of_lt (Nat.lt_of_lt_of_le q513.lt (Nat.le_of_eq g574.symm))
      have ne580 : x495 ≠ b574 := Nat.ne_of_lt (Nat.lt_of_lt_of_le lt519 (Nat.le_of_eq g574.symm))
      have ne581 : x507 ≠ b574 := Nat.ne_of_lt (Nat.lt_of_lt_of_le q515.lt (Nat.le_of_eq g574.symm))
      have g582 : n0 ≤ b574 := Nat.le_trans Zs520 (Nat.le_of_eq g574.symm)
      have F583 : Fld Z h574 b574 "com/example/rationed_session/rationedsession/model/Partition" "number" "I" (.int (0 : Int32)) := D574 (Or.inr (hw _ (List.mem_of_getElem? (i := 73) rfl))) (ty := .int) (by decide)
      have F584 : Fld Z h574 b574 "com/example/rationed_session/rationedsession/model/Partition" "firstIndex" "I" (.int (0 : Int32)) := D574 (Or.inr (hw _ (List.mem_of_getElem? (i := 75) rfl))) (ty := .int) (by decide)
      have F585 : Fld Z h574 b574 "com/example/rationed_session/rationedsession/model/Partition" "inputs" "Ljava/util/List;" .null := D574 (Or.inr (hw _ (List.mem_of_getElem? (i := 120) rfl))) (ty := (.object "java/util/List")) (by decide)
      show own_Go p e below s _ _ _ (T574.setTop (mkF m 106 #[.val (.int p1), .val (.int p2), .val (.int p3), .val (.int p4), .val (.int p5), .val (.int fi), .val (.int (1 : Int32)), .val (.ref b478), .val (.int ix), .unset, .unset, .unset, .unset, .unset, .unset] [(.ref b574)]))
      refine own_st (fun _ kQ => XS.dup X574.here hx rfl (hb hby at_106) rfl rfl kQ) ?_
      show own_Go p e below s _ _ _ (T574.setTop (mkF m 107 #[.val (.int p1), .val (.int p2), .val (.int p3), .val (.int p4), .val (.int p5), .val (.int fi), .val (.int (1 : Int32)), .val (.ref b478), .val (.int ix), .unset, .unset, .unset, .unset, .unset, .unset] [(.ref b574), (.ref b574)]))
      refine own_st (fun _ kQ => XS.iloadN X574.here hx rfl (hb hby at_107) rfl kQ) ?_
      show own_Go p e below s _ _ _ (T574.setTop (mkF m 108 #[.val (.int p1), .val (.int p2), .val (.int p3), .val (.int p4), .val (.int p5), .val (.int fi), .val (.int (1 : Int32)), .val (.ref b478), .val (.int ix), .unset, .unset, .unset, .unset, .unset, .unset] [(.int p1), (.ref b574), (.ref b574)]))
      refine own_st (fun _ kQ => XS.iload X574.here hx rfl (hb hby at_108) rfl kQ) ?_
      show own_Go p e below s _ _ _ (T574.setTop (mkF m 110 #[.val (.int p1), .val (.int p2), .val (.int p3), .val (.int p4), .val (.int p5), .val (.int fi), .val (.int (1 : Int32)), .val (.ref b478), .val (.int ix), .unset, .unset, .unset, .unset, .unset, .unset] [(.int fi), (.int p1), (.ref b574), (.ref b574)]))
      refine own_st (fun _ kQ => XS.aload X574.here hx rfl (hb hby at_110) rfl rfl kQ) ?_
      show own_Go p e below s _ _ _ (T574.setTop (mkF m 112 #[.val (.int p1), .val (.int p2), .val (.int p3), .val (.int p4), .val (.int p5), .val (.int fi), .val (.int (1 : Int32)), .val (.ref b478), .val (.int ix), .unset, .unset, .unset, .unset, .unset, .unset] [(.ref b478), (.int fi), (.int p1), (.ref b574), (.ref b574)]))
      have F587 : Exa Z h574 b478 "java/util/ArrayList" := (q510.ext E574)
      obtain ⟨_, _, ⟨T586, L586, k586, n586⟩, -, X586, ⟨Lc586, hQ586, l586, y586, z586⟩, st586⟩ := X574.specialBack hx (y := (⟨"com/example/rationed_session/rationedsession/model/Partition", "<init>", "(IILjava/util/List;)V"⟩ : MethodName)) rfl hown (mvT hZ (hw _ (List.mem_of_getElem? (i := 68) rfl))) (mvT hZ (hw _ (List.mem_of_getElem? (i := 69) rfl))) (mvT hZ (hw _ (List.mem_of_getElem? (i := 70) rfl))) (by decide) (backOf (W := 1) (own_rm_pinitU l Z a0 hw [] b574 p1 fi b478 mA mL mR h574 n0 Zs578 M_AL M_UL M_UR h1 h2 A574 F587 F583 F584 F585 g582) hZ (hw _ (List.mem_of_getElem? (i := 70) rfl)) (hw _ (List.mem_of_getElem? (i := 67) rfl)) (by decide) (by decide)) (g := (mkF m 112 #[.val (.int p1), .val (.int p2), .val (.int p3), .val (.int p4), .val (.int p5), .val (.int fi), .val (.int (1 : Int32)), .val (.ref b478), .val (.int ix), .unset, .unset, .unset, .unset, .unset, .unset] [(.ref b478), (.int fi), (.int p1), (.ref b574), (.ref b574)])) rfl (by rw [hml]; rfl) (Steps.refl _) (a := b574) (argsL := [(.int p1), (.int fi), (.ref b478)]) (rest := [(.ref b574)]) (lenOf own_pd12 rfl) rfl (by show 2 * 0 + _ ≤ _; exact Nat.le_of_eq rfl) (hb hby at_112) (fun _ _ => ⟨rfl, e574, (by decide : 4 + 1 ≤ _), (by decide : 17 + 2 ≤ _)⟩)
      dsimp only [Pt.U, Pt.locs, Pt.cells, Pt.slots] at X586 l586 y586 z586 st586 hQ586
      subst l586 y586 z586
      obtain ⟨x588, N586q, rfl, K586, q589, q590, q591, q592, q593, q594, q595, q596⟩ := hQ586
      have N597 := Fr.app N517 N586q
      refine own_tr st586 ?_
      have lt598 : b478 < T586.heap.size := Nat.lt_of_lt_of_le lt575 K586.1
      have lt599 : x495 < T586.heap.size := Nat.lt_of_lt_of_le lt576 K586.1
      have lt600 : x507 < T586.heap.size := Nat.lt_of_lt_of_le lt577 K586.1
      have lt601 : b574 < T586.heap.size := Nat.lt_of_lt_of_le A574.lt K586.1
      have Zs602 : n0 ≤ T586.heap.size := Nat.le_trans Zs578 K586.1
      have ne603 : b478 ≠ x588 := Nat.ne_of_lt (Nat.lt_of_lt_of_le lt575 q593)
      have ne604 : x495 ≠ x588 := Nat.ne_of_lt (Nat.lt_of_lt_of_le lt576 q593)
      have ne605 : x507 ≠ x588 := Nat.ne_of_lt (Nat.lt_of_lt_of_le lt577 q593)
      have ne606 : b574 ≠ x588 := Nat.ne_of_lt (Nat.lt_of_lt_of_le A574.lt q593)
      have g607 : n0 ≤ x588 := Nat.le_trans Zs578 q593
      obtain ⟨Lp608, Xp608, Np608⟩ : ∃ L, Stand p l e room_1 s m #[(.int p1), (.int p2), (.int p3), (.int p4), (.int p5)] below meth c T586 L 5 19 ∧ Fr n0 L := ⟨_, X586, N597⟩
      show own_Go p e below s _ _ _ (T586.setTop (mkF m 115 #[.val (.int p1), .val (.int p2), .val (.int p3), .val (.int p4), .val (.int p5), .val (.int fi), .val (.int (1 : Int32)), .val (.ref b478), .val (.int ix), .unset, .unset, .unset, .unset, .unset, .unset] [(.ref b574)]))
      refine own_st (fun _ kQ => XS.astore Xp608.here hx rfl (hb hby at_115) rfl rfl (l' := #[.val (.int p1), .val (.int p2), .val (.int p3), .val (.int p4), .val (.int p5), .val (.int fi), .val (.int (1 : Int32)), .val (.ref b478), .val (.int ix), .val (.ref b574), .unset, .unset, .unset, .unset, .unset]) rfl kQ) ?_
      show own_Go p e below s _ _ _ (T586.setTop (mkF m 117 #[.val (.int p1), .val (.int p2), .val (.int p3), .val (.int p4), .val (.int p5), .val (.int fi), .val (.int (1 : Int32)), .val (.ref b478), .val (.int ix), .val (.ref b574), .unset, .unset, .unset, .unset, .unset] []))
      refine own_st (fun _ kQ => XS.iload Xp608.here hx rfl (hb hby at_117) rfl kQ) ?_
      show own_Go p e below s _ _ _ (T586.setTop (mkF m 119 #[.val (.int p1), .val (.int p2), .val (.int p3), .val (.int p4), .val (.int p5), .val (.int fi), .val (.int (1 : Int32)), .val (.ref b478), .val (.int ix), .val (.ref b574), .unset, .unset, .unset, .unset, .unset] [(.int fi)]))
      refine own_st (fun _ kQ => XT.i2l Xp608.here hx rfl (hb hby at_119) rfl kQ) ?_
      show own_Go p e below s _ _ _ (T586.setTop (mkF m 120 #[.val (.int p1), .val (.int p2), .val (.int p3), .val (.int p4), .val (.int p5), .val (.int fi), .val (.int (1 : Int32)), .val (.ref b478), .val (.int ix), .val (.ref b574), .unset, .unset, .unset, .unset, .unset] [(.long (fi.toInt64))]))
      refine own_st (fun _ kQ => XT.lstore Xp608.here hx rfl (hb hby at_120) rfl (l' := #[.val (.int p1), .val (.int p2), .val (.int p3), .val (.int p4), .val (.int p5), .val (.int fi), .val (.int (1 : Int32)), .val (.ref b478), .val (.int ix), .val (.ref b574), .val (.long (fi.toInt64)), .second, .unset, .unset, .unset]) rfl kQ) ?_
      show own_Go p e below s _ _ _ (T586.setTop (mkF m 122 #[.val (.int p1), .val (.int p2), .val (.int p3), .val (.int p4), .val (.int p5), .val (.int fi), .val (.int (1 : Int32)), .val (.ref b478), .val (.int ix), .val (.ref b574), .val (.long (fi.toInt64)), .second, .unset, .unset, .unset] []))
      refine own_st (fun _ kQ => XS.iload Xp608.here hx rfl (hb hby at_122) rfl kQ) ?_
      show own_Go p e below s _ _ _ (T586.setTop (mkF m 124 #[.val (.int p1), .val (.int p2), .val (.int p3), .val (.int p4), .val (.int p5), .val (.int fi), .val (.int (1 : Int32)), .val (.ref b478), .val (.int ix), .val (.ref b574), .val (.long (fi.toInt64)), .second, .unset, .unset, .unset] [(.int fi)]))
      refine own_st (fun _ kQ => XT.i2l Xp608.here hx rfl (hb hby at_124) rfl kQ) ?_
      show own_Go p e below s _ _ _ (T586.setTop (mkF m 125 #[.val (.int p1), .val (.int p2), .val (.int p3), .val (.int p4), .val (.int p5), .val (.int fi), .val (.int (1 : Int32)), .val (.ref b478), .val (.int ix), .val (.ref b574), .val (.long (fi.toInt64)), .second, .unset, .unset, .unset] [(.long (fi.toInt64))]))
      refine own_st (fun _ kQ => XS.iload Xp608.here hx rfl (hb hby at_125) rfl kQ) ?_
      show own_Go p e below s _ _ _ (T586.setTop (mkF m 127 #[.val (.int p1), .val (.int p2), .val (.int p3), .val (.int p4), .val (.int p5), .val (.int fi), .val (.int (1 : Int32)), .val (.ref b478), .val (.int ix), .val (.ref b574), .val (.long (fi.toInt64)), .second, .unset, .unset, .unset] [(.int (1 : Int32)), (.long (fi.toInt64))]))
      refine own_st (fun _ kQ => XT.i2l Xp608.here hx rfl (hb hby at_127) rfl kQ) ?_
      show own_Go p e below s _ _ _ (T586.setTop (mkF m 128 #[.val (.int p1), .val (.int p2), .val (.int p3), .val (.int p4), .val (.int p5), .val (.int fi), .val (.int (1 : Int32)), .val (.ref b478), .val (.int ix), .val (.ref b574), .val (.long (fi.toInt64)), .second, .unset, .unset, .unset] [(.long ((1 : Int32).toInt64)), (.long (fi.toInt64))]))
      refine own_st (fun _ kQ => XT.ladd Xp608.here hx rfl (hb hby at_128) rfl kQ) ?_
      show own_Go p e below s _ _ _ (T586.setTop (mkF m 129 #[.val (.int p1), .val (.int p2), .val (.int p3), .val (.int p4), .val (.int p5), .val (.int fi), .val (.int (1 : Int32)), .val (.ref b478), .val (.int ix), .val (.ref b574), .val (.long (fi.toInt64)), .second, .unset, .unset, .unset] [(.long ((fi.toInt64) + ((1 : Int32).toInt64)))]))
      refine own_st (fun _ kQ => XT.lstore Xp608.here hx rfl (hb hby at_129) rfl (l' := #[.val (.int p1), .val (.int p2), .val (.int p3), .val (.int p4), .val (.int p5), .val (.int fi), .val (.int (1 : Int32)), .val (.ref b478), .val (.int ix), .val (.ref b574), .val (.long (fi.toInt64)), .second, .val (.long ((fi.toInt64) + ((1 : Int32).toInt64))), .second, .unset]) rfl kQ) ?_
      show own_Go p e below s _ _ _ (T586.setTop (mkF m 131 #[.val (.int p1), .val (.int p2), .val (.int p3), .val (.int p4), .val (.int p5), .val (.int fi), .val (.int (1 : Int32)), .val (.ref b478), .val (.int ix), .val (.ref b574), .val (.long (fi.toInt64)), .second, .val (.long ((fi.toInt64) + ((1 : Int32).toInt64))), .second, .unset] []))
      refine own_st (fun _ kQ => XS.iload Xp608.here hx rfl (hb hby at_131) rfl kQ) ?_
      show own_Go p e below s _ _ _ (T586.setTop (mkF m 133 #[.val (.int p1), .val (.int p2), .val (.int p3), .val (.int p4), .val (.int p5), .val (.int fi), .val (.int (1 : Int32)), .val (.ref b478), .val (.int ix), .val (.ref b574), .val (.long (fi.toInt64)), .second, .val (.long ((fi.toInt64) + ((1 : Int32).toInt64))), .second, .unset] [(.int ix)]))
      refine own_st (fun _ kQ => XT.i2l Xp608.here hx rfl (hb hby at_133) rfl kQ) ?_
      show own_Go p e below s _ _ _ (T586.setTop (mkF m 134 #[.val (.int p1), .val (.int p2), .val (.int p3), .val (.int p4), .val (.int p5), .val (.int fi), .val (.int (1 : Int32)), .val (.ref b478), .val (.int ix), .val (.ref b574), .val (.long (fi.toInt64)), .second, .val (.long ((fi.toInt64) + ((1 : Int32).toInt64))), .second, .unset] [(.long (ix.toInt64))]))
      refine own_st (fun _ kQ => XT.lload Xp608.here hx rfl (hb hby at_134) rfl kQ) ?_
      show own_Go p e below s _ _ _ (T586.setTop (mkF m 136 #[.val (.int p1), .val (.int p2), .val (.int p3), .val (.int p4), .val (.int p5), .val (.int fi), .val (.int (1 : Int32)), .val (.ref b478), .val (.int ix), .val (.ref b574), .val (.long (fi.toInt64)), .second, .val (.long ((fi.toInt64) + ((1 : Int32).toInt64))), .second, .unset] [(.long (fi.toInt64)), (.long (ix.toInt64))]))
      refine own_st (fun _ kQ => XT.lcmp Xp608.here hx rfl (hb hby at_136) rfl kQ) ?_
      show own_Go p e below s _ _ _ (T586.setTop (mkF m 137 #[.val (.int p1), .val (.int p2), .val (.int p3), .val (.int p4), .val (.int p5), .val (.int fi), .val (.int (1 : Int32)), .val (.ref b478), .val (.int ix), .val (.ref b574), .val (.long (fi.toInt64)), .second, .val (.long ((fi.toInt64) + ((1 : Int32).toInt64))), .second, .unset] [(.int (XT.cmpL (ix.toInt64) (fi.toInt64)))]))
      by_cases hc609 : (ix.toInt64) < (fi.toInt64)
      · refine own_st (fun _ kQ => XS.ifYes Xp608.here hx rfl (pc0 := 137) (pc' := 153) rfl (hb hby at_137) rfl (XT.ll_lt_t hc609) (by decide) (by decide) kQ) ?_
        show own_Go p e below s _ _ _ (T586.setTop (mkF m 153 #[.val (.int p1), .val (.int p2), .val (.int p3), .val (.int p4), .val (.int p5), .val (.int fi), .val (.int (1 : Int32)), .val (.ref b478), .val (.int ix), .val (.ref b574), .val (.long (fi.toInt64)), .second, .val (.long ((fi.toInt64) + ((1 : Int32).toInt64))), .second, .unset] []))
        refine own_st (fun _ kQ => XT.iconstV Xp608.here hx rfl (0 : Int32) (hb hby at_153) (by decide) kQ) ?_
        show own_Go p e below s _ _ _ (T586.setTop (mkF m 154 #[.val (.int p1), .val (.int p2), .val (.int p3), .val (.int p4), .val (.int p5), .val (.int fi), .val (.int (1 : Int32)), .val (.ref b478), .val (.int ix), .val (.ref b574), .val (.long (fi.toInt64)), .second, .val (.long ((fi.toInt64) + ((1 : Int32).toInt64))), .second, .unset] [(.int (0 : Int32))]))
        refine own_st (fun _ kQ => XS.istore Xp608.here hx rfl (hb hby at_154) rfl (l' := #[.val (.int p1), .val (.int p2), .val (.int p3), .val (.int p4), .val (.int p5), .val (.int fi), .val (.int (1 : Int32)), .val (.ref b478), .val (.int ix), .val (.ref b574), .val (.long (fi.toInt64)), .second, .val (.long ((fi.toInt64) + ((1 : Int32).toInt64))), .second, .val (.int (0 : Int32))]) rfl kQ) ?_
        show own_Go p e below s _ _ _ (T586.setTop (mkF m 156 #[.val (.int p1), .val (.int p2), .val (.int p3), .val (.int p4), .val (.int p5), .val (.int fi), .val (.int (1 : Int32)), .val (.ref b478), .val (.int ix), .val (.ref b574), .val (.long (fi.toInt64)), .second, .val (.long ((fi.toInt64) + ((1 : Int32).toInt64))), .second, .val (.int (0 : Int32))] []))
        refine own_st (fun _ kQ => XS.aload Xp608.here hx rfl (hb hby at_156) rfl rfl kQ) ?_
        show own_Go p e below s _ _ _ (T586.setTop (mkF m 158 #[.val (.int p1), .val (.int p2), .val (.int p3), .val (.int p4), .val (.int p5), .val (.int fi), .val (.int (1 : Int32)), .val (.ref b478), .val (.int ix), .val (.ref b574), .val (.long (fi.toInt64)), .second, .val (.long ((fi.toInt64) + ((1 : Int32).toInt64))), .second, .val (.int (0 : Int32))] [(.ref b574)]))
        refine own_st (fun _ kQ => XS.iload Xp608.here hx rfl (hb hby at_158) rfl kQ) ?_
        show own_Go p e below s _ _ _ (T586.setTop (mkF m 160 #[.val (.int p1), .val (.int p2), .val (.int p3), .val (.int p4), .val (.int p5), .val (.int fi), .val (.int (1 : Int32)), .val (.ref b478), .val (.int ix), .val (.ref b574), .val (.long (fi.toInt64)), .second, .val (.long ((fi.toInt64) + ((1 : Int32).toInt64))), .second, .val (.int (0 : Int32))] [(.int ix), (.ref b574)]))
        have F611 : Exa Z T586.heap b478 "java/util/ArrayList" := (F587.keep K586)
        have F612 : Fld Z T586.heap b478 "java/util/ArrayList" "size" "I" (.int (1 : Int32)) := ((q513.ext E574).keep K586 (ninS ne579 nin0))
        obtain ⟨cq610, kq610, q610a, q610b, q610c⟩ := isOf hZ rfl q589
        obtain ⟨_, _, ⟨T610, L610, k610, n610⟩, -, X610, ⟨Lc610, hQ610, l610, y610, z610⟩, st610⟩ := Xp608.virtualBack hx (y := (⟨"com/example/rationed_session/rationedsession/model/Partition", "holds", "(I)Z"⟩ : MethodName)) (z := (⟨"com/example/rationed_session/rationedsession/model/Partition", "holds", "(I)Z"⟩ : MethodName)) hown (mvT hZ (hw _ (List.mem_of_getElem? (i := 121) rfl))) (mvT hZ (hw _ (List.mem_of_getElem? (i := 122) rfl))) (notFace_of_selects (args := #[]) (mvT hZ (hw _ (List.mem_of_getElem? (i := 124) rfl)))) (mvT hZ (hw _ (List.mem_of_getElem? (i := 124) rfl))) (mvT hZ (hw _ (List.mem_of_getElem? (i := 123) rfl))) (by decide) (backOf (W := 0) (own_rm_holdsU l Z a0 hw [] x588 b574 b478 ix fi (1 : Int32) T586.heap n0 Zs602 q592 q594 q595 F611 q591 F612) hZ (hw _ (List.mem_of_getElem? (i := 125) rfl)) (hw _ (List.mem_of_getElem? (i := 67) rfl)) (by decide) (by decide)) q610a q610c (g := (mkF m 160 #[.val (.int p1), .val (.int p2), .val (.int p3), .val (.int p4), .val (.int p5), .val (.int fi), .val (.int (1 : Int32)), .val (.ref b478), .val (.int ix), .val (.ref b574), .val (.long (fi.toInt64)), .second, .val (.long ((fi.toInt64) + ((1 : Int32).toInt64))), .second, .val (.int (0 : Int32))] [(.int ix), (.ref b574)])) rfl (by rw [hml]; rfl) (Steps.refl _) (argsL := [(.int ix)]) (rest := []) (lenOf own_pd13 rfl) rfl (by show 2 * 0 + _ ≤ _; exact Nat.le_of_eq rfl) (hb hby at_160) (fun _ _ => ⟨rfl, rfl, (by decide : 5 + 0 ≤ _), (by decide : 19 + 0 ≤ _)⟩)
        dsimp only [Pt.U, Pt.locs, Pt.cells, Pt.slots] at X610 l610 y610 z610 st610 hQ610
        subst l610 y610 z610
        obtain ⟨N610q, rfl, eh610⟩ := hQ610
        have N613 := Fr.app Np608 N610q
        refine own_tr st610 ?_
        show own_Go p e below s _ _ _ (T610.setTop (mkF m 163 #[.val (.int p1), .val (.int p2), .val (.int p3), .val (.int p4), .val (.int p5), .val (.int fi), .val (.int (1 : Int32)), .val (.ref b478), .val (.int ix), .val (.ref b574), .val (.long (fi.toInt64)), .second, .val (.long ((fi.toInt64) + ((1 : Int32).toInt64))), .second, .val (.int (0 : Int32))] [(.int (if ix < fi then (0 : Int32) else if ix - fi < (1 : Int32) then 1 else 0))]))
        refine own_st (fun _ kQ => XS.iload X610.here hx rfl (hb hby at_163) rfl kQ) ?_
        show own_Go p e below s _ _ _ (T610.setTop (mkF m 165 #[.val (.int p1), .val (.int p2), .val (.int p3), .val (.int p4), .val (.int p5), .val (.int fi), .val (.int (1 : Int32)), .val (.ref b478), .val (.int ix), .val (.ref b574), .val (.long (fi.toInt64)), .second, .val (.long ((fi.toInt64) + ((1 : Int32).toInt64))), .second, .val (.int (0 : Int32))] [(.int (0 : Int32)), (.int (if ix < fi then (0 : Int32) else if ix - fi < (1 : Int32) then 1 else 0))]))
        refine own_st (fun _ kQ => XS.icmpNo X610.here hx rfl (hb hby at_165) rfl (XT.ii_ne_f (by rw [if_pos ((own_lt64 _ _).mp hc609)])) kQ) ?_
        show own_Go p e below s _ _ _ (T610.setTop (mkF m 168 #[.val (.int p1), .val (.int p2), .val (.int p3), .val (.int p4), .val (.int p5), .val (.int fi), .val (.int (1 : Int32)), .val (.ref b478), .val (.int ix), .val (.ref b574), .val (.long (fi.toInt64)), .second, .val (.long ((fi.toInt64) + ((1 : Int32).toInt64))), .second, .val (.int (0 : Int32))] []))
        refine own_st (fun _ kQ => XT.iconstV X610.here hx rfl (1 : Int32) (hb hby at_168) (by decide) kQ) ?_
        show own_Go p e below s _ _ _ (T610.setTop (mkF m 169 #[.val (.int p1), .val (.int p2), .val (.int p3), .val (.int p4), .val (.int p5), .val (.int fi), .val (.int (1 : Int32)), .val (.ref b478), .val (.int ix), .val (.ref b574), .val (.long (fi.toInt64)), .second, .val (.long ((fi.toInt64) + ((1 : Int32).toInt64))), .second, .val (.int (0 : Int32))] [(.int (1 : Int32))]))
        refine own_st (fun _ kQ => XS.goto X610.here hx rfl (pc0 := 169) (pc' := 173) rfl (hb hby at_169) (by decide) (by decide) kQ) ?_
        show own_Go p e below s _ _ _ (T610.setTop (mkF m 173 #[.val (.int p1), .val (.int p2), .val (.int p3), .val (.int p4), .val (.int p5), .val (.int fi), .val (.int (1 : Int32)), .val (.ref b478), .val (.int ix), .val (.ref b574), .val (.long (fi.toInt64)), .second, .val (.long ((fi.toInt64) + ((1 : Int32).toInt64))), .second, .val (.int (0 : Int32))] [(.int (1 : Int32))]))
        refine own_retN X610 hx hlk Bd.returns (t := .boolean) (z' := (1 : Int32)) (by simp) (by decide) (hb hby at_173) (by decide) (by decide) ?_
        rw [eh610]
        exact ⟨N613, rfl⟩
      · refine own_st (fun _ kQ => XS.ifNo Xp608.here hx rfl (hb hby at_137) rfl (XT.ll_lt_f hc609) kQ) ?_
        show own_Go p e below s _ _ _ (T586.setTop (mkF m 140 #[.val (.int p1), .val (.int p2), .val (.int p3), .val (.int p4), .val (.int p5), .val (.int fi), .val (.int (1 : Int32)), .val (.ref b478), .val (.int ix), .val (.ref b574), .val (.long (fi.toInt64)), .second, .val (.long ((fi.toInt64) + ((1 : Int32).toInt64))), .second, .unset] []))
        refine own_st (fun _ kQ => XS.iload Xp608.here hx rfl (hb hby at_140) rfl kQ) ?_
        show own_Go p e below s _ _ _ (T586.setTop (mkF m 142 #[.val (.int p1), .val (.int p2), .val (.int p3), .val (.int p4), .val (.int p5), .val (.int fi), .val (.int (1 : Int32)), .val (.ref b478), .val (.int ix), .val (.ref b574), .val (.long (fi.toInt64)), .second, .val (.long ((fi.toInt64) + ((1 : Int32).toInt64))), .second, .unset] [(.int ix)]))
        refine own_st (fun _ kQ => XT.i2l Xp608.here hx rfl (hb hby at_142) rfl kQ) ?_
        show own_Go p e below s _ _ _ (T586.setTop (mkF m 143 #[.val (.int p1), .val (.int p2), .val (.int p3), .val (.int p4), .val (.int p5), .val (.int fi), .val (.int (1 : Int32)), .val (.ref b478), .val (.int ix), .val (.ref b574), .val (.long (fi.toInt64)), .second, .val (.long ((fi.toInt64) + ((1 : Int32).toInt64))), .second, .unset] [(.long (ix.toInt64))]))
        refine own_st (fun _ kQ => XT.lload Xp608.here hx rfl (hb hby at_143) rfl kQ) ?_
        show own_Go p e below s _ _ _ (T586.setTop (mkF m 145 #[.val (.int p1), .val (.int p2), .val (.int p3), .val (.int p4), .val (.int p5), .val (.int fi), .val (.int (1 : Int32)), .val (.ref b478), .val (.int ix), .val (.ref b574), .val (.long (fi.toInt64)), .second, .val (.long ((fi.toInt64) + ((1 : Int32).toInt64))), .second, .unset] [(.long ((fi.toInt64) + ((1 : Int32).toInt64))), (.long (ix.toInt64))]))
        refine own_st (fun _ kQ => XT.lcmp Xp608.here hx rfl (hb hby at_145) rfl kQ) ?_
        show own_Go p e below s _ _ _ (T586.setTop (mkF m 146 #[.val (.int p1), .val (.int p2), .val (.int p3), .val (.int p4), .val (.int p5), .val (.int fi), .val (.int (1 : Int32)), .val (.ref b478), .val (.int ix), .val (.ref b574), .val (.long (fi.toInt64)), .second, .val (.long ((fi.toInt64) + ((1 : Int32).toInt64))), .second, .unset] [(.int (XT.cmpL (ix.toInt64) ((fi.toInt64) + ((1 : Int32).toInt64))))]))
        by_cases hc614 : (ix.toInt64) < ((fi.toInt64) + ((1 : Int32).toInt64))
        · refine own_st (fun _ kQ => XS.ifNo Xp608.here hx rfl (hb hby at_146) rfl (XT.ll_ge_f hc614) kQ) ?_
          show own_Go p e below s _ _ _ (T586.setTop (mkF m 149 #[.val (.int p1), .val (.int p2), .val (.int p3), .val (.int p4), .val (.int p5), .val (.int fi), .val (.int (1 : Int32)), .val (.ref b478), .val (.int ix), .val (.ref b574), .val (.long (fi.toInt64)), .second, .val (.long ((fi.toInt64) + ((1 : Int32).toInt64))), .second, .unset] []))
          refine own_st (fun _ kQ => XT.iconstV Xp608.here hx rfl (1 : Int32) (hb hby at_149) (by decide) kQ) ?_
          show own_Go p e below s _ _ _ (T586.setTop (mkF m 150 #[.val (.int p1), .val (.int p2), .val (.int p3), .val (.int p4), .val (.int p5), .val (.int fi), .val (.int (1 : Int32)), .val (.ref b478), .val (.int ix), .val (.ref b574), .val (.long (fi.toInt64)), .second, .val (.long ((fi.toInt64) + ((1 : Int32).toInt64))), .second, .unset] [(.int (1 : Int32))]))
          refine own_st (fun _ kQ => XS.goto Xp608.here hx rfl (pc0 := 150) (pc' := 154) rfl (hb hby at_150) (by decide) (by decide) kQ) ?_
          show own_Go p e below s _ _ _ (T586.setTop (mkF m 154 #[.val (.int p1), .val (.int p2), .val (.int p3), .val (.int p4), .val (.int p5), .val (.int fi), .val (.int (1 : Int32)), .val (.ref b478), .val (.int ix), .val (.ref b574), .val (.long (fi.toInt64)), .second, .val (.long ((fi.toInt64) + ((1 : Int32).toInt64))), .second, .unset] [(.int (1 : Int32))]))
          refine own_st (fun _ kQ => XS.istore Xp608.here hx rfl (hb hby at_154) rfl (l' := #[.val (.int p1), .val (.int p2), .val (.int p3), .val (.int p4), .val (.int p5), .val (.int fi), .val (.int (1 : Int32)), .val (.ref b478), .val (.int ix), .val (.ref b574), .val (.long (fi.toInt64)), .second, .val (.long ((fi.toInt64) + ((1 : Int32).toInt64))), .second, .val (.int (1 : Int32))]) rfl kQ) ?_
          show own_Go p e below s _ _ _ (T586.setTop (mkF m 156 #[.val (.int p1), .val (.int p2), .val (.int p3), .val (.int p4), .val (.int p5), .val (.int fi), .val (.int (1 : Int32)), .val (.ref b478), .val (.int ix), .val (.ref b574), .val (.long (fi.toInt64)), .second, .val (.long ((fi.toInt64) + ((1 : Int32).toInt64))), .second, .val (.int (1 : Int32))] []))
          refine own_st (fun _ kQ => XS.aload Xp608.here hx rfl (hb hby at_156) rfl rfl kQ) ?_
          show own_Go p e below s _ _ _ (T586.setTop (mkF m 158 #[.val (.int p1), .val (.int p2), .val (.int p3), .val (.int p4), .val (.int p5), .val (.int fi), .val (.int (1 : Int32)), .val (.ref b478), .val (.int ix), .val (.ref b574), .val (.long (fi.toInt64)), .second, .val (.long ((fi.toInt64) + ((1 : Int32).toInt64))), .second, .val (.int (1 : Int32))] [(.ref b574)]))
          refine own_st (fun _ kQ => XS.iload Xp608.here hx rfl (hb hby at_158) rfl kQ) ?_
          show own_Go p e below s _ _ _ (T586.setTop (mkF m 160 #[.val (.int p1), .val (.int p2), .val (.int p3), .val (.int p4), .val (.int p5), .val (.int fi), .val (.int (1 : Int32)), .val (.ref b478), .val (.int ix), .val (.ref b574), .val (.long (fi.toInt64)), .second, .val (.long ((fi.toInt64) + ((1 : Int32).toInt64))), .second, .val (.int (1 : Int32))] [(.int ix), (.ref b574)]))
          have F616 : Exa Z T586.heap b478 "java/util/ArrayList" := (F587.keep K586)
          have F617 : Fld Z T586.heap b478 "java/util/ArrayList" "size" "I" (.int (1 : Int32)) := ((q513.ext E574).keep K586 (ninS ne579 nin0))
          obtain ⟨cq615, kq615, q615a, q615b, q615c⟩ := isOf hZ rfl q589
          obtain ⟨_, _, ⟨T615, L615, k615, n615⟩, -, X615, ⟨Lc615, hQ615, l615, y615, z615⟩, st615⟩ := Xp608.virtualBack hx (y := (⟨"com/example/rationed_session/rationedsession/model/Partition", "holds", "(I)Z"⟩ : MethodName)) (z := (⟨"com/example/rationed_session/rationedsession/model/Partition", "holds", "(I)Z"⟩ : MethodName)) hown (mvT hZ (hw _ (List.mem_of_getElem? (i := 121) rfl))) (mvT hZ (hw _ (List.mem_of_getElem? (i := 122) rfl))) (notFace_of_selects (args := #[]) (mvT hZ (hw _ (List.mem_of_getElem? (i := 124) rfl)))) (mvT hZ (hw _ (List.mem_of_getElem? (i := 124) rfl))) (mvT hZ (hw _ (List.mem_of_getElem? (i := 123) rfl))) (by decide) (backOf (W := 0) (own_rm_holdsU l Z a0 hw [] x588 b574 b478 ix fi (1 : Int32) T586.heap n0 Zs602 q592 q594 q595 F616 q591 F617) hZ (hw _ (List.mem_of_getElem? (i := 125) rfl)) (hw _ (List.mem_of_getElem? (i := 67) rfl)) (by decide) (by decide)) q615a q615c (g := (mkF m 160 #[.val (.int p1), .val (.int p2), .val (.int p3), .val (.int p4), .val (.int p5), .val (.int fi), .val (.int (1 : Int32)), .val (.ref b478), .val (.int ix), .val (.ref b574), .val (.long (fi.toInt64)), .second, .val (.long ((fi.toInt64) + ((1 : Int32).toInt64))), .second, .val (.int (1 : Int32))] [(.int ix), (.ref b574)])) rfl (by rw [hml]; rfl) (Steps.refl _) (argsL := [(.int ix)]) (rest := []) (lenOf own_pd13 rfl) rfl (by show 2 * 0 + _ ≤ _; exact Nat.le_of_eq rfl) (hb hby at_160) (fun _ _ => ⟨rfl, rfl, (by decide : 5 + 0 ≤ _), (by decide : 19 + 0 ≤ _)⟩)
          dsimp only [Pt.U, Pt.locs, Pt.cells, Pt.slots] at X615 l615 y615 z615 st615 hQ615
          subst l615 y615 z615
          obtain ⟨N615q, rfl, eh615⟩ := hQ615
          have N618 := Fr.app Np608 N615q
          refine own_tr st615 ?_
          show own_Go p e below s _ _ _ (T615.setTop (mkF m 163 #[.val (.int p1), .val (.int p2), .val (.int p3), .val (.int p4), .val (.int p5), .val (.int fi), .val (.int (1 : Int32)), .val (.ref b478), .val (.int ix), .val (.ref b574), .val (.long (fi.toInt64)), .second, .val (.long ((fi.toInt64) + ((1 : Int32).toInt64))), .second, .val (.int (1 : Int32))] [(.int (if ix < fi then (0 : Int32) else if ix - fi < (1 : Int32) then 1 else 0))]))
          refine own_st (fun _ kQ => XS.iload X615.here hx rfl (hb hby at_163) rfl kQ) ?_
          show own_Go p e below s _ _ _ (T615.setTop (mkF m 165 #[.val (.int p1), .val (.int p2), .val (.int p3), .val (.int p4), .val (.int p5), .val (.int fi), .val (.int (1 : Int32)), .val (.ref b478), .val (.int ix), .val (.ref b574), .val (.long (fi.toInt64)), .second, .val (.long ((fi.toInt64) + ((1 : Int32).toInt64))), .second, .val (.int (1 : Int32))] [(.int (1 : Int32)), (.int (if ix < fi then (0 : Int32) else if ix - fi < (1 : Int32) then 1 else 0))]))
          refine own_st (fun _ kQ => XS.icmpNo X615.here hx rfl (hb hby at_165) rfl (XT.ii_ne_f (by rw [if_neg (fun q => hc609 ((own_lt64 _ _).mpr q)), if_pos ((own_hl _ _ (1 : Int32) hfi (by decide) (by decide) (fun q => hc609 ((own_lt64 _ _).mpr q))).mp hc614)])) kQ) ?_
          show own_Go p e below s _ _ _ (T615.setTop (mkF m 168 #[.val (.int p1), .val (.int p2), .val (.int p3), .val (.int p4), .val (.int p5), .val (.int fi), .val (.int (1 : Int32)), .val (.ref b478), .val (.int ix), .val (.ref b574), .val (.long (fi.toInt64)), .second, .val (.long ((fi.toInt64) + ((1 : Int32).toInt64))), .second, .val (.int (1 : Int32))] []))
          refine own_st (fun _ kQ => XT.iconstV X615.here hx rfl (1 : Int32) (hb hby at_168) (by decide) kQ) ?_
          show own_Go p e below s _ _ _ (T615.setTop (mkF m 169 #[.val (.int p1), .val (.int p2), .val (.int p3), .val (.int p4), .val (.int p5), .val (.int fi), .val (.int (1 : Int32)), .val (.ref b478), .val (.int ix), .val (.ref b574), .val (.long (fi.toInt64)), .second, .val (.long ((fi.toInt64) + ((1 : Int32).toInt64))), .second, .val (.int (1 : Int32))] [(.int (1 : Int32))]))
          refine own_st (fun _ kQ => XS.goto X615.here hx rfl (pc0 := 169) (pc' := 173) rfl (hb hby at_169) (by decide) (by decide) kQ) ?_
          show own_Go p e below s _ _ _ (T615.setTop (mkF m 173 #[.val (.int p1), .val (.int p2), .val (.int p3), .val (.int p4), .val (.int p5), .val (.int fi), .val (.int (1 : Int32)), .val (.ref b478), .val (.int ix), .val (.ref b574), .val (.long (fi.toInt64)), .second, .val (.long ((fi.toInt64) + ((1 : Int32).toInt64))), .second, .val (.int (1 : Int32))] [(.int (1 : Int32))]))
          refine own_retN X615 hx hlk Bd.returns (t := .boolean) (z' := (1 : Int32)) (by simp) (by decide) (hb hby at_173) (by decide) (by decide) ?_
          rw [eh615]
          exact ⟨N618, rfl⟩
        · refine own_st (fun _ kQ => XS.ifYes Xp608.here hx rfl (pc0 := 146) (pc' := 153) rfl (hb hby at_146) rfl (XT.ll_ge_t hc614) (by decide) (by decide) kQ) ?_
          show own_Go p e below s _ _ _ (T586.setTop (mkF m 153 #[.val (.int p1), .val (.int p2), .val (.int p3), .val (.int p4), .val (.int p5), .val (.int fi), .val (.int (1 : Int32)), .val (.ref b478), .val (.int ix), .val (.ref b574), .val (.long (fi.toInt64)), .second, .val (.long ((fi.toInt64) + ((1 : Int32).toInt64))), .second, .unset] []))
          refine own_st (fun _ kQ => XT.iconstV Xp608.here hx rfl (0 : Int32) (hb hby at_153) (by decide) kQ) ?_
          show own_Go p e below s _ _ _ (T586.setTop (mkF m 154 #[.val (.int p1), .val (.int p2), .val (.int p3), .val (.int p4), .val (.int p5), .val (.int fi), .val (.int (1 : Int32)), .val (.ref b478), .val (.int ix), .val (.ref b574), .val (.long (fi.toInt64)), .second, .val (.long ((fi.toInt64) + ((1 : Int32).toInt64))), .second, .unset] [(.int (0 : Int32))]))
          refine own_st (fun _ kQ => XS.istore Xp608.here hx rfl (hb hby at_154) rfl (l' := #[.val (.int p1), .val (.int p2), .val (.int p3), .val (.int p4), .val (.int p5), .val (.int fi), .val (.int (1 : Int32)), .val (.ref b478), .val (.int ix), .val (.ref b574), .val (.long (fi.toInt64)), .second, .val (.long ((fi.toInt64) + ((1 : Int32).toInt64))), .second, .val (.int (0 : Int32))]) rfl kQ) ?_
          show own_Go p e below s _ _ _ (T586.setTop (mkF m 156 #[.val (.int p1), .val (.int p2), .val (.int p3), .val (.int p4), .val (.int p5), .val (.int fi), .val (.int (1 : Int32)), .val (.ref b478), .val (.int ix), .val (.ref b574), .val (.long (fi.toInt64)), .second, .val (.long ((fi.toInt64) + ((1 : Int32).toInt64))), .second, .val (.int (0 : Int32))] []))
          refine own_st (fun _ kQ => XS.aload Xp608.here hx rfl (hb hby at_156) rfl rfl kQ) ?_
          show own_Go p e below s _ _ _ (T586.setTop (mkF m 158 #[.val (.int p1), .val (.int p2), .val (.int p3), .val (.int p4), .val (.int p5), .val (.int fi), .val (.int (1 : Int32)), .val (.ref b478), .val (.int ix), .val (.ref b574), .val (.long (fi.toInt64)), .second, .val (.long ((fi.toInt64) + ((1 : Int32).toInt64))), .second, .val (.int (0 : Int32))] [(.ref b574)]))
          refine own_st (fun _ kQ => XS.iload Xp608.here hx rfl (hb hby at_158) rfl kQ) ?_
          show own_Go p e below s _ _ _ (T586.setTop (mkF m 160 #[.val (.int p1), .val (.int p2), .val (.int p3), .val (.int p4), .val (.int p5), .val (.int fi), .val (.int (1 : Int32)), .val (.ref b478), .val (.int ix), .val (.ref b574), .val (.long (fi.toInt64)), .second, .val (.long ((fi.toInt64) + ((1 : Int32).toInt64))), .second, .val (.int (0 : Int32))] [(.int ix), (.ref b574)]))
          have F620 : Exa Z T586.heap b478 "java/util/ArrayList" := (F587.keep K586)
          have F621 : Fld Z T586.heap b478 "java/util/ArrayList" "size" "I" (.int (1 : Int32)) := ((q513.ext E574).keep K586 (ninS ne579 nin0))
          obtain ⟨cq619, kq619, q619a, q619b, q619c⟩ := isOf hZ rfl q589
          obtain ⟨_, _, ⟨T619, L619, k619, n619⟩, -, X619, ⟨Lc619, hQ619, l619, y619, z619⟩, st619⟩ := Xp608.virtualBack hx (y := (⟨"com/example/rationed_session/rationedsession/model/Partition", "holds", "(I)Z"⟩ : MethodName)) (z := (⟨"com/example/rationed_session/rationedsession/model/Partition", "holds", "(I)Z"⟩ : MethodName)) hown (mvT hZ (hw _ (List.mem_of_getElem? (i := 121) rfl))) (mvT hZ (hw _ (List.mem_of_getElem? (i := 122) rfl))) (notFace_of_selects (args := #[]) (mvT hZ (hw _ (List.mem_of_getElem? (i := 124) rfl)))) (mvT hZ (hw _ (List.mem_of_getElem? (i := 124) rfl))) (mvT hZ (hw _ (List.mem_of_getElem? (i := 123) rfl))) (by decide) (backOf (W := 0) (own_rm_holdsU l Z a0 hw [] x588 b574 b478 ix fi (1 : Int32) T586.heap n0 Zs602 q592 q594 q595 F620 q591 F621) hZ (hw _ (List.mem_of_getElem? (i := 125) rfl)) (hw _ (List.mem_of_getElem? (i := 67) rfl)) (by decide) (by decide)) q619a q619c (g := (mkF m 160 #[.val (.int p1), .val (.int p2), .val (.int p3), .val (.int p4), .val (.int p5), .val (.int fi), .val (.int (1 : Int32)), .val (.ref b478), .val (.int ix), .val (.ref b574), .val (.long (fi.toInt64)), .second, .val (.long ((fi.toInt64) + ((1 : Int32).toInt64))), .second, .val (.int (0 : Int32))] [(.int ix), (.ref b574)])) rfl (by rw [hml]; rfl) (Steps.refl _) (argsL := [(.int ix)]) (rest := []) (lenOf own_pd13 rfl) rfl (by show 2 * 0 + _ ≤ _; exact Nat.le_of_eq rfl) (hb hby at_160) (fun _ _ => ⟨rfl, rfl, (by decide : 5 + 0 ≤ _), (by decide : 19 + 0 ≤ _)⟩)
          dsimp only [Pt.U, Pt.locs, Pt.cells, Pt.slots] at X619 l619 y619 z619 st619 hQ619
          subst l619 y619 z619
          obtain ⟨N619q, rfl, eh619⟩ := hQ619
          have N622 := Fr.app Np608 N619q
          refine own_tr st619 ?_
          show own_Go p e below s _ _ _ (T619.setTop (mkF m 163 #[.val (.int p1), .val (.int p2), .val (.int p3), .val (.int p4), .val (.int p5), .val (.int fi), .val (.int (1 : Int32)), .val (.ref b478), .val (.int ix), .val (.ref b574), .val (.long (fi.toInt64)), .second, .val (.long ((fi.toInt64) + ((1 : Int32).toInt64))), .second, .val (.int (0 : Int32))] [(.int (if ix < fi then (0 : Int32) else if ix - fi < (1 : Int32) then 1 else 0))]))
          refine own_st (fun _ kQ => XS.iload X619.here hx rfl (hb hby at_163) rfl kQ) ?_
          show own_Go p e below s _ _ _ (T619.setTop (mkF m 165 #[.val (.int p1), .val (.int p2), .val (.int p3), .val (.int p4), .val (.int p5), .val (.int fi), .val (.int (1 : Int32)), .val (.ref b478), .val (.int ix), .val (.ref b574), .val (.long (fi.toInt64)), .second, .val (.long ((fi.toInt64) + ((1 : Int32).toInt64))), .second, .val (.int (0 : Int32))] [(.int (0 : Int32)), (.int (if ix < fi then (0 : Int32) else if ix - fi < (1 : Int32) then 1 else 0))]))
          refine own_st (fun _ kQ => XS.icmpNo X619.here hx rfl (hb hby at_165) rfl (XT.ii_ne_f (by rw [if_neg (fun q => hc609 ((own_lt64 _ _).mpr q)), if_neg (fun q => hc614 ((own_hl _ _ (1 : Int32) hfi (by decide) (by decide) (fun q => hc609 ((own_lt64 _ _).mpr q))).mpr q))])) kQ) ?_
          show own_Go p e below s _ _ _ (T619.setTop (mkF m 168 #[.val (.int p1), .val (.int p2), .val (.int p3), .val (.int p4), .val (.int p5), .val (.int fi), .val (.int (1 : Int32)), .val (.ref b478), .val (.int ix), .val (.ref b574), .val (.long (fi.toInt64)), .second, .val (.long ((fi.toInt64) + ((1 : Int32).toInt64))), .second, .val (.int (0 : Int32))] []))
          refine own_st (fun _ kQ => XT.iconstV X619.here hx rfl (1 : Int32) (hb hby at_168) (by decide) kQ) ?_
          show own_Go p e below s _ _ _ (T619.setTop (mkF m 169 #[.val (.int p1), .val (.int p2), .val (.int p3), .val (.int p4), .val (.int p5), .val (.int fi), .val (.int (1 : Int32)), .val (.ref b478), .val (.int ix), .val (.ref b574), .val (.long (fi.toInt64)), .second, .val (.long ((fi.toInt64) + ((1 : Int32).toInt64))), .second, .val (.int (0 : Int32))] [(.int (1 : Int32))]))
          refine own_st (fun _ kQ => XS.goto X619.here hx rfl (pc0 := 169) (pc' := 173) rfl (hb hby at_169) (by decide) (by decide) kQ) ?_
          show own_Go p e below s _ _ _ (T619.setTop (mkF m 173 #[.val (.int p1), .val (.int p2), .val (.int p3), .val (.int p4), .val (.int p5), .val (.int fi), .val (.int (1 : Int32)), .val (.ref b478), .val (.int ix), .val (.ref b574), .val (.long (fi.toInt64)), .second, .val (.long ((fi.toInt64) + ((1 : Int32).toInt64))), .second, .val (.int (0 : Int32))] [(.int (1 : Int32))]))
          refine own_retN X619 hx hlk Bd.returns (t := .boolean) (z' := (1 : Int32)) (by simp) (by decide) (hb hby at_173) (by decide) (by decide) ?_
          rw [eh619]
          exact ⟨N622, rfl⟩
  · rw [hi]
    show own_Go p e below s _ _ _ (s₁.setTop (mkF m 10 #[.val (.int p1), .val (.int p2), .val (.int p3), .val (.int p4), .val (.int p5), .val (.int fi), .unset, .unset, .unset, .unset, .unset, .unset, .unset, .unset, .unset] [(.int (1 : Int32)), (.int (1 : Int32))]))
    refine own_st (fun _ kQ => XS.iadd X0.here hx rfl (hb hby at_10) rfl kQ) ?_
    show own_Go p e below s _ _ _ (s₁.setTop (mkF m 11 #[.val (.int p1), .val (.int p2), .val (.int p3), .val (.int p4), .val (.int p5), .val (.int fi), .unset, .unset, .unset, .unset, .unset, .unset, .unset, .unset, .unset] [(.int (2 : Int32))]))
    refine own_st (fun _ kQ => XS.istore X0.here hx rfl (hb hby at_11) rfl (l' := #[.val (.int p1), .val (.int p2), .val (.int p3), .val (.int p4), .val (.int p5), .val (.int fi), .val (.int (2 : Int32)), .unset, .unset, .unset, .unset, .unset, .unset, .unset, .unset]) rfl kQ) ?_
    show own_Go p e below s _ _ _ (s₁.setTop (mkF m 13 #[.val (.int p1), .val (.int p2), .val (.int p3), .val (.int p4), .val (.int p5), .val (.int fi), .val (.int (2 : Int32)), .unset, .unset, .unset, .unset, .unset, .unset, .unset, .unset] []))
    obtain ⟨T623, h623, X623, e623, E623, A623, D623, -, st623⟩ := newO X0 hx hZ hown (hw _ (List.mem_of_getElem? (i := 1) rfl)) (hw _ (List.mem_of_getElem? (i := 2) rfl)) (hw _ (List.mem_of_getElem? (i := 3) rfl)) e0 (g := (mkF m 13 #[.val (.int p1), .val (.int p2), .val (.int p3), .val (.int p4), .val (.int p5), .val (.int fi), .val (.int (2 : Int32)), .unset, .unset, .unset, .unset, .unset, .unset, .unset, .unset] [])) rfl (hb hby at_13) (by decide) (by decide)
    obtain ⟨b623, g623⟩ : ∃ z, z = h0.size := ⟨_, rfl⟩
    rw [← g623] at A623 D623 st623
    refine own_st st623 ?_
    have Zs624 : n0 ≤ h623.size := Nat.le_trans Z0 E623.1
    have g625 : n0 ≤ b623 := Nat.le_trans Z0 (Nat.le_of_eq g623.symm)
    have F626 : Fld Z h623 b623 "java/util/AbstractList" "modCount" "I" (.int (0 : Int32)) := D623 (Or.inl (hw _ (List.mem_of_getElem? (i := 23) rfl))) (ty := .int) (by decide)
    have F627 : Fld Z h623 b623 "java/util/ArrayList" "elementData" "[Ljava/lang/Object;" .null := D623 (Or.inl (hw _ (List.mem_of_getElem? (i := 26) rfl))) (ty := (.array (.object "java/lang/Object"))) (by decide)
    have F628 : Fld Z h623 b623 "java/util/ArrayList" "size" "I" (.int (0 : Int32)) := D623 (Or.inl (hw _ (List.mem_of_getElem? (i := 42) rfl))) (ty := .int) (by decide)
    show own_Go p e below s _ _ _ (T623.setTop (mkF m 16 #[.val (.int p1), .val (.int p2), .val (.int p3), .val (.int p4), .val (.int p5), .val (.int fi), .val (.int (2 : Int32)), .unset, .unset, .unset, .unset, .unset, .unset, .unset, .unset] [(.ref b623)]))
    refine own_st (fun _ kQ => XS.dup X623.here hx rfl (hb hby at_16) rfl rfl kQ) ?_
    show own_Go p e below s _ _ _ (T623.setTop (mkF m 17 #[.val (.int p1), .val (.int p2), .val (.int p3), .val (.int p4), .val (.int p5), .val (.int fi), .val (.int (2 : Int32)), .unset, .unset, .unset, .unset, .unset, .unset, .unset, .unset] [(.ref b623), (.ref b623)]))
    have O630 : Old Z n0 h623 := (O0.ext E623)
    obtain ⟨_, _, ⟨T629, L629, k629, n629⟩, -, X629, ⟨Lc629, hQ629, l629, y629, z629⟩, st629⟩ := X623.specialBack hx (y := (⟨"java/util/ArrayList", "<init>", "()V"⟩ : MethodName)) rfl hown (mvT hZ (hw _ (List.mem_of_getElem? (i := 4) rfl))) (mvT hZ (hw _ (List.mem_of_getElem? (i := 5) rfl))) (mvT hZ (hw _ (List.mem_of_getElem? (i := 6) rfl))) (by decide) (backOf (W := 1) (own_rm_alinit l Z a0 hw [] b623 dflt kd h623 n0 Zs624 O630 S_es V_es A623 F626 F627 F628 g625) hZ (hw _ (List.mem_of_getElem? (i := 6) rfl)) (hw _ (List.mem_of_getElem? (i := 3) rfl)) (by decide) (by decide)) (g := (mkF m 17 #[.val (.int p1), .val (.int p2), .val (.int p3), .val (.int p4), .val (.int p5), .val (.int fi), .val (.int (2 : Int32)), .unset, .unset, .unset, .unset, .unset, .unset, .unset, .unset] [(.ref b623), (.ref b623)])) rfl (by rw [hml]; rfl) (Steps.refl _) (a := b623) (argsL := []) (rest := [(.ref b623)]) (lenOf own_pd0 rfl) rfl (by show 2 * 0 + _ ≤ _; exact Nat.le_of_eq rfl) (hb hby at_17) (fun _ _ => ⟨rfl, e623, (by decide : 1 + 0 ≤ _), (by decide : 3 + 0 ≤ _)⟩)
    dsimp only [Pt.U, Pt.locs, Pt.cells, Pt.slots] at X629 l629 y629 z629 st629 hQ629
    subst l629 y629 z629
    obtain ⟨N629q, rfl, K629, q631, q632, q633, q634⟩ := hQ629
    have N635 := Fr.app N0 N629q
    refine own_tr st629 ?_
    have lt636 : b623 < T629.heap.size := Nat.lt_of_lt_of_le A623.lt K629.1
    have Zs637 : n0 ≤ T629.heap.size := Nat.le_trans Zs624 K629.1
    show own_Go p e below s _ _ _ (T629.setTop (mkF m 20 #[.val (.int p1), .val (.int p2), .val (.int p3), .val (.int p4), .val (.int p5), .val (.int fi), .val (.int (2 : Int32)), .unset, .unset, .unset, .unset, .unset, .unset, .unset, .unset] [(.ref b623)]))
    refine own_st (fun _ kQ => XS.astore X629.here hx rfl (hb hby at_20) rfl rfl (l' := #[.val (.int p1), .val (.int p2), .val (.int p3), .val (.int p4), .val (.int p5), .val (.int fi), .val (.int (2 : Int32)), .val (.ref b623), .unset, .unset, .unset, .unset, .unset, .unset, .unset]) rfl kQ) ?_
    show own_Go p e below s _ _ _ (T629.setTop (mkF m 22 #[.val (.int p1), .val (.int p2), .val (.int p3), .val (.int p4), .val (.int p5), .val (.int fi), .val (.int (2 : Int32)), .val (.ref b623), .unset, .unset, .unset, .unset, .unset, .unset, .unset] []))
    refine own_st (fun _ kQ => XS.aload X629.here hx rfl (hb hby at_22) rfl rfl kQ) ?_
    show own_Go p e below s _ _ _ (T629.setTop (mkF m 24 #[.val (.int p1), .val (.int p2), .val (.int p3), .val (.int p4), .val (.int p5), .val (.int fi), .val (.int (2 : Int32)), .val (.ref b623), .unset, .unset, .unset, .unset, .unset, .unset, .unset] [(.ref b623)]))
    refine own_st (fun _ kQ => XS.iloadN X629.here hx rfl (hb hby at_24) rfl kQ) ?_
    show own_Go p e below s _ _ _ (T629.setTop (mkF m 25 #[.val (.int p1), .val (.int p2), .val (.int p3), .val (.int p4), .val (.int p5), .val (.int fi), .val (.int (2 : Int32)), .val (.ref b623), .unset, .unset, .unset, .unset, .unset, .unset, .unset] [(.int p3), (.ref b623)]))
    have O639 : Old Z n0 T629.heap := (O630.keep K629 (allS g625 all0))
    obtain ⟨_, _, ⟨T638, L638, k638, n638⟩, -, X638, ⟨Lc638, hQ638, l638, y638, z638⟩, st638⟩ := Jvm.LawKit.callS X629 hx (y := (⟨"java/lang/Integer", "valueOf", "(I)Ljava/lang/Integer;"⟩ : MethodName)) hown (mvT hZ (hw _ (List.mem_of_getElem? (i := 27) rfl))) (mvT hZ (hw _ (List.mem_of_getElem? (i := 28) rfl))) (mvT hZ (hw _ (List.mem_of_getElem? (i := 29) rfl))) (mvT hZ (hw _ (List.mem_of_getElem? (i := 30) rfl))) (by decide) (backOf (W := 1) (own_rm_valueOfI l Z a0 hw [] p3 a_cacheI T629.heap n0 Zs637 O639 S_cacheI BxI S_high) hZ (hw _ (List.mem_of_getElem? (i := 30) rfl)) (hw _ (List.mem_of_getElem? (i := 29) rfl)) (by decide) (by decide)) (g := (mkF m 25 #[.val (.int p1), .val (.int p2), .val (.int p3), .val (.int p4), .val (.int p5), .val (.int fi), .val (.int (2 : Int32)), .val (.ref b623), .unset, .unset, .unset, .unset, .unset, .unset, .unset] [(.int p3), (.ref b623)])) rfl (by rw [hml]; rfl) (argsL := [(.int p3)]) (rest := [(.ref b623)]) (lenOf own_pd10 rfl) rfl (by show 2 * 0 + _ ≤ _; exact Nat.le_of_eq rfl) (hb hby at_25) (fun _ _ => ⟨rfl, rfl, (by decide : 1 + 1 ≤ _), (by decide : 3 + 1 ≤ _)⟩)
    dsimp only [Pt.U, Pt.locs, Pt.cells, Pt.slots] at X638 l638 y638 z638 st638 hQ638
    subst l638 y638 z638
    obtain ⟨x640, N638q, rfl, K638, q641, q642⟩ := hQ638
    have N643 := Fr.app N635 N638q
    refine own_st st638 ?_
    have lt644 : b623 < T638.heap.size := Nat.lt_of_lt_of_le q634.lt K638.1
    have Zs645 : n0 ≤ T638.heap.size := Nat.le_trans Zs637 K638.1
    show own_Go p e below s _ _ _ (T638.setTop (mkF m 28 #[.val (.int p1), .val (.int p2), .val (.int p3), .val (.int p4), .val (.int p5), .val (.int fi), .val (.int (2 : Int32)), .val (.ref b623), .unset, .unset, .unset, .unset, .unset, .unset, .unset] [(.ref x640), (.ref b623)]))
    have F647 : Exa Z T638.heap b623 "java/util/ArrayList" := (q631.keep K638)
    have F648 : Fld Z T638.heap b623 "java/util/AbstractList" "modCount" "I" (.int (0 : Int32)) := (q632.keep K638 nin0)
    have F649 : Fld Z T638.heap b623 "java/util/ArrayList" "elementData" "[Ljava/lang/Object;" (.ref dflt) := (q633.keep K638 nin0)
    have F650 : Fld Z T638.heap b623 "java/util/ArrayList" "size" "I" (.int (0 : Int32)) := (q634.keep K638 nin0)
    have O651 : Old Z n0 T638.heap := (O639.keep K638 all0)
    obtain ⟨cq646, kq646, q646a, q646b, q646c⟩ := isOf hZ rfl F647
    obtain ⟨_, _, ⟨T646, L646, k646, n646⟩, -, X646, ⟨Lc646, hQ646, l646, y646, z646⟩, st646⟩ := X638.virtualBack hx (y := (⟨"java/util/ArrayList", "add", "(Ljava/lang/Object;)Z"⟩ : MethodName)) (z := (⟨"java/util/ArrayList", "add", "(Ljava/lang/Object;)Z"⟩ : MethodName)) hown (mvT hZ (hw _ (List.mem_of_getElem? (i := 34) rfl))) (mvT hZ (hw _ (List.mem_of_getElem? (i := 35) rfl))) (notFace_of_selects (args := #[]) (mvT hZ (hw _ (List.mem_of_getElem? (i := 37) rfl)))) (mvT hZ (hw _ (List.mem_of_getElem? (i := 37) rfl))) (mvT hZ (hw _ (List.mem_of_getElem? (i := 36) rfl))) (by decide) (backOf (W := 0) (own_rm_add1_0 l Z a0 hw [] b623 x640 (0 : Int32) dflt kd T638.heap n0 Zs645 O651 S_es V_es F647 F648 F649 F650 g625 q641) hZ (hw _ (List.mem_of_getElem? (i := 38) rfl)) (hw _ (List.mem_of_getElem? (i := 3) rfl)) (by decide) (by decide)) q646a q646c (g := (mkF m 28 #[.val (.int p1), .val (.int p2), .val (.int p3), .val (.int p4), .val (.int p5), .val (.int fi), .val (.int (2 : Int32)), .val (.ref b623), .unset, .unset, .unset, .unset, .unset, .unset, .unset] [(.ref x640), (.ref b623)])) rfl (by rw [hml]; rfl) (Steps.refl _) (argsL := [(.ref x640)]) (rest := []) (lenOf own_pd11 rfl) rfl (by show 2 * 0 + _ ≤ _; exact Nat.le_of_eq rfl) (hb hby at_28) (fun _ _ => ⟨rfl, rfl, (by decide : 2 + 1 ≤ _), (by decide : 4 + 10 ≤ _)⟩)
    dsimp only [Pt.U, Pt.locs, Pt.cells, Pt.slots] at X646 l646 y646 z646 st646 hQ646
    subst l646 y646 z646
    obtain ⟨x652, x653, N646q, rfl, K646, q654, q655, q656, q657, q658, q659, q660, q661⟩ := hQ646
    have N662 := Fr.app N643 N646q
    refine own_tr st646 ?_
    have lt663 : b623 < T646.heap.size := Nat.lt_of_lt_of_le lt644 K646.1
    have lt664 : x640 < T646.heap.size := Nat.lt_of_lt_of_le q642.lt K646.1
    have Zs665 : n0 ≤ T646.heap.size := Nat.le_trans Zs645 K646.1
    have ne666 : b623 ≠ x652 := Nat.ne_of_lt (Nat.lt_of_lt_of_le lt644 q654)
    have ne667 : x640 ≠ x652 := Nat.ne_of_lt (Nat.lt_of_lt_of_le q642.lt q654)
    have g668 : n0 ≤ x652 := Nat.le_trans Zs645 q654
    show own_Go p e below s _ _ _ (T646.setTop (mkF m 31 #[.val (.int p1), .val (.int p2), .val (.int p3), .val (.int p4), .val (.int p5), .val (.int fi), .val (.int (2 : Int32)), .val (.ref b623), .unset, .unset, .unset, .unset, .unset, .unset, .unset] [(.int (1 : Int32))]))
    refine own_st (fun _ kQ => XT.pop X646.here hx rfl (hb hby at_31) rfl rfl kQ) ?_
    show own_Go p e below s _ _ _ (T646.setTop (mkF m 32 #[.val (.int p1), .val (.int p2), .val (.int p3), .val (.int p4), .val (.int p5), .val (.int fi), .val (.int (2 : Int32)), .val (.ref b623), .unset, .unset, .unset, .unset, .unset, .unset, .unset] []))
    refine own_st (fun _ kQ => XS.iload X646.here hx rfl (hb hby at_32) rfl kQ) ?_
    show own_Go p e below s _ _ _ (T646.setTop (mkF m 34 #[.val (.int p1), .val (.int p2), .val (.int p3), .val (.int p4), .val (.int p5), .val (.int fi), .val (.int (2 : Int32)), .val (.ref b623), .unset, .unset, .unset, .unset, .unset, .unset, .unset] [(.int (2 : Int32))]))
    refine own_st (fun _ kQ => XT.iconstV X646.here hx rfl (2 : Int32) (hb hby at_34) (by decide) kQ) ?_
    show own_Go p e below s _ _ _ (T646.setTop (mkF m 35 #[.val (.int p1), .val (.int p2), .val (.int p3), .val (.int p4), .val (.int p5), .val (.int fi), .val (.int (2 : Int32)), .val (.ref b623), .unset, .unset, .unset, .unset, .unset, .unset, .unset] [(.int (2 : Int32)), (.int (2 : Int32))]))
    refine own_st (fun _ kQ => XS.icmpNo X646.here hx rfl (hb hby at_35) rfl (XT.ii_lt_f (by decide)) kQ) ?_
    show own_Go p e below s _ _ _ (T646.setTop (mkF m 38 #[.val (.int p1), .val (.int p2), .val (.int p3), .val (.int p4), .val (.int p5), .val (.int fi), .val (.int (2 : Int32)), .val (.ref b623), .unset, .unset, .unset, .unset, .unset, .unset, .unset] []))
    refine own_st (fun _ kQ => XS.aload X646.here hx rfl (hb hby at_38) rfl rfl kQ) ?_
    show own_Go p e below s _ _ _ (T646.setTop (mkF m 40 #[.val (.int p1), .val (.int p2), .val (.int p3), .val (.int p4), .val (.int p5), .val (.int fi), .val (.int (2 : Int32)), .val (.ref b623), .unset, .unset, .unset, .unset, .unset, .unset, .unset] [(.ref b623)]))
    refine own_st (fun _ kQ => XS.iloadN X646.here hx rfl (hb hby at_40) rfl kQ) ?_
    show own_Go p e below s _ _ _ (T646.setTop (mkF m 41 #[.val (.int p1), .val (.int p2), .val (.int p3), .val (.int p4), .val (.int p5), .val (.int fi), .val (.int (2 : Int32)), .val (.ref b623), .unset, .unset, .unset, .unset, .unset, .unset, .unset] [(.int p4), (.ref b623)]))
    have O670 : Old Z n0 T646.heap := (O651.keep K646 (allS g625 all0))
    obtain ⟨_, _, ⟨T669, L669, k669, n669⟩, -, X669, ⟨Lc669, hQ669, l669, y669, z669⟩, st669⟩ := Jvm.LawKit.callS X646 hx (y := (⟨"java/lang/Integer", "valueOf", "(I)Ljava/lang/Integer;"⟩ : MethodName)) hown (mvT hZ (hw _ (List.mem_of_getElem? (i := 27) rfl))) (mvT hZ (hw _ (List.mem_of_getElem? (i := 28) rfl))) (mvT hZ (hw _ (List.mem_of_getElem? (i := 29) rfl))) (mvT hZ (hw _ (List.mem_of_getElem? (i := 30) rfl))) (by decide) (backOf (W := 1) (own_rm_valueOfI l Z a0 hw [] p4 a_cacheI T646.heap n0 Zs665 O670 S_cacheI BxI S_high) hZ (hw _ (List.mem_of_getElem? (i := 30) rfl)) (hw _ (List.mem_of_getElem? (i := 29) rfl)) (by decide) (by decide)) (g := (mkF m 41 #[.val (.int p1), .val (.int p2), .val (.int p3), .val (.int p4), .val (.int p5), .val (.int fi), .val (.int (2 : Int32)), .val (.ref b623), .unset, .unset, .unset, .unset, .unset, .unset, .unset] [(.int p4), (.ref b623)])) rfl (by rw [hml]; rfl) (argsL := [(.int p4)]) (rest := [(.ref b623)]) (lenOf own_pd10 rfl) rfl (by show 2 * 0 + _ ≤ _; exact Nat.le_of_eq rfl) (hb hby at_41) (fun _ _ => ⟨rfl, rfl, (by decide : 3 + 1 ≤ _), (by decide : 14 + 1 ≤ _)⟩)
    dsimp only [Pt.U, Pt.locs, Pt.cells, Pt.slots] at X669 l669 y669 z669 st669 hQ669
    subst l669 y669 z669
    obtain ⟨x671, N669q, rfl, K669, q672, q673⟩ := hQ669
    have N674 := Fr.app N662 N669q
    refine own_st st669 ?_
    have lt675 : b623 < T669.heap.size := Nat.lt_of_lt_of_le q658.lt K669.1
    have lt676 : x640 < T669.heap.size := Nat.lt_of_lt_of_le lt664 K669.1
    have lt677 : x652 < T669.heap.size := Nat.lt_of_lt_of_le q660.lt K669.1
    have Zs678 : n0 ≤ T669.heap.size := Nat.le_trans Zs665 K669.1
    obtain ⟨Lp679, Xp679, Np679⟩ : ∃ L, Stand p l e room_1 s m #[(.int p1), (.int p2), (.int p3), (.int p4), (.int p5)] below meth c T669 L 4 15 ∧ Fr n0 L := ⟨_, X669, N674⟩
    show own_Go p e below s _ _ _ (T669.setTop (mkF m 44 #[.val (.int p1), .val (.int p2), .val (.int p3), .val (.int p4), .val (.int p5), .val (.int fi), .val (.int (2 : Int32)), .val (.ref b623), .unset, .unset, .unset, .unset, .unset, .unset, .unset] [(.ref x671), (.ref b623)]))
    have F681 : Exa Z T669.heap b623 "java/util/ArrayList" := (q655.keep K669)
    have F682 : Fld Z T669.heap b623 "java/util/AbstractList" "modCount" "I" (.int ((0 : Int32) + (1 : Int32))) := (q656.keep K669 nin0)
    have F683 : Fld Z T669.heap b623 "java/util/ArrayList" "elementData" "[Ljava/lang/Object;" (.ref x652) := (q657.keep K669 nin0)
    have F684 : Fld Z T669.heap b623 "java/util/ArrayList" "size" "I" (.int (1 : Int32)) := (q658.keep K669 nin0)
    have F685 : Arv Z T669.heap x652 x653 (.object "java/lang/Object") (10 : Int32) [(.ref x640), .null, .null, .null, .null, .null, .null, .null, .null, .null] .null := (q660.keep K669 nin0)
    obtain ⟨cq680, kq680, q680a, q680b, q680c⟩ := isOf hZ rfl F681
    obtain ⟨_, _, ⟨T680, L680, k680, n680⟩, -, X680, ⟨Lc680, hQ680, l680, y680, z680⟩, st680⟩ := Xp679.virtualBack hx (y := (⟨"java/util/ArrayList", "add", "(Ljava/lang/Object;)Z"⟩ : MethodName)) (z := (⟨"java/util/ArrayList", "add", "(Ljava/lang/Object;)Z"⟩ : MethodName)) hown (mvT hZ (hw _ (List.mem_of_getElem? (i := 34) rfl))) (mvT hZ (hw _ (List.mem_of_getElem? (i := 35) rfl))) (notFace_of_selects (args := #[]) (mvT hZ (hw _ (List.mem_of_getElem? (i := 37) rfl)))) (mvT hZ (hw _ (List.mem_of_getElem? (i := 37) rfl))) (mvT hZ (hw _ (List.mem_of_getElem? (i := 36) rfl))) (by decide) (backOf (W := 0) (own_rm_add1_1 l Z a0 hw [] b623 x671 x652 x653 ((0 : Int32) + (1 : Int32)) x640 T669.heap n0 Zs678 F681 F682 F683 F684 F685 q661 g625 g668 ne666 q672) hZ (hw _ (List.mem_of_getElem? (i := 38) rfl)) (hw _ (List.mem_of_getElem? (i := 3) rfl)) (by decide) (by decide)) q680a q680c (g := (mkF m 44 #[.val (.int p1), .val (.int p2), .val (.int p3), .val (.int p4), .val (.int p5), .val (.int fi), .val (.int (2 : Int32)), .val (.ref b623), .unset, .unset, .unset, .unset, .unset, .unset, .unset] [(.ref x671), (.ref b623)])) rfl (by rw [hml]; rfl) (Steps.refl _) (argsL := [(.ref x671)]) (rest := []) (lenOf own_pd11 rfl) rfl (by show 2 * 0 + _ ≤ _; exact Nat.le_of_eq rfl) (hb hby at_44) (fun _ _ => ⟨rfl, rfl, (by decide : 4 + 0 ≤ _), (by decide : 15 + 0 ≤ _)⟩)
    dsimp only [Pt.U, Pt.locs, Pt.cells, Pt.slots] at X680 l680 y680 z680 st680 hQ680
    subst l680 y680 z680
    obtain ⟨N680q, rfl, K680, q686, q687, q688, q689, q690⟩ := hQ680
    have N691 := Fr.app Np679 N680q
    refine own_tr st680 ?_
    have lt692 : b623 < T680.heap.size := Nat.lt_of_lt_of_le lt675 K680.1
    have lt693 : x640 < T680.heap.size := Nat.lt_of_lt_of_le lt676 K680.1
    have lt694 : x652 < T680.heap.size := Nat.lt_of_lt_of_le lt677 K680.1
    have lt695 : x671 < T680.heap.size := Nat.lt_of_lt_of_le q673.lt K680.1
    have Zs696 : n0 ≤ T680.heap.size := Nat.le_trans Zs678 K680.1
    show own_Go p e below s _ _ _ (T680.setTop (mkF m 47 #[.val (.int p1), .val (.int p2), .val (.int p3), .val (.int p4), .val (.int p5), .val (.int fi), .val (.int (2 : Int32)), .val (.ref b623), .unset, .unset, .unset, .unset, .unset, .unset, .unset] [(.int (1 : Int32))]))
    refine own_st (fun _ kQ => XT.pop X680.here hx rfl (hb hby at_47) rfl rfl kQ) ?_
    show own_Go p e below s _ _ _ (T680.setTop (mkF m 48 #[.val (.int p1), .val (.int p2), .val (.int p3), .val (.int p4), .val (.int p5), .val (.int fi), .val (.int (2 : Int32)), .val (.ref b623), .unset, .unset, .unset, .unset, .unset, .unset, .unset] []))
    refine own_st (fun _ kQ => XS.iload X680.here hx rfl (hb hby at_48) rfl kQ) ?_
    show own_Go p e below s _ _ _ (T680.setTop (mkF m 50 #[.val (.int p1), .val (.int p2), .val (.int p3), .val (.int p4), .val (.int p5), .val (.int fi), .val (.int (2 : Int32)), .val (.ref b623), .unset, .unset, .unset, .unset, .unset, .unset, .unset] [(.int (2 : Int32))]))
    refine own_st (fun _ kQ => XT.iconstV X680.here hx rfl (3 : Int32) (hb hby at_50) (by decide) kQ) ?_
    show own_Go p e below s _ _ _ (T680.setTop (mkF m 51 #[.val (.int p1), .val (.int p2), .val (.int p3), .val (.int p4), .val (.int p5), .val (.int fi), .val (.int (2 : Int32)), .val (.ref b623), .unset, .unset, .unset, .unset, .unset, .unset, .unset] [(.int (3 : Int32)), (.int (2 : Int32))]))
    refine own_st (fun _ kQ => XS.icmpYes X680.here hx rfl (pc0 := 51) (pc' := 64) rfl (hb hby at_51) rfl (XT.ii_lt_t (by decide)) (by decide) (by decide) kQ) ?_
    show own_Go p e below s _ _ _ (T680.setTop (mkF m 64 #[.val (.int p1), .val (.int p2), .val (.int p3), .val (.int p4), .val (.int p5), .val (.int fi), .val (.int (2 : Int32)), .val (.ref b623), .unset, .unset, .unset, .unset, .unset, .unset, .unset] []))
    refine own_st (fun _ kQ => XS.iload X680.here hx rfl (hb hby at_64) rfl kQ) ?_
    show own_Go p e below s _ _ _ (T680.setTop (mkF m 66 #[.val (.int p1), .val (.int p2), .val (.int p3), .val (.int p4), .val (.int p5), .val (.int fi), .val (.int (2 : Int32)), .val (.ref b623), .unset, .unset, .unset, .unset, .unset, .unset, .unset] [(.int (2 : Int32))]))
    refine own_st (fun _ kQ => XT.iconstV X680.here hx rfl (4 : Int32) (hb hby at_66) (by decide) kQ) ?_
    show own_Go p e below s _ _ _ (T680.setTop (mkF m 67 #[.val (.int p1), .val (.int p2), .val (.int p3), .val (.int p4), .val (.int p5), .val (.int fi), .val (.int (2 : Int32)), .val (.ref b623), .unset, .unset, .unset, .unset, .unset, .unset, .unset] [(.int (4 : Int32)), (.int (2 : Int32))]))
    refine own_st (fun _ kQ => XS.icmpYes X680.here hx rfl (pc0 := 67) (pc' := 81) rfl (hb hby at_67) rfl (XT.ii_lt_t (by decide)) (by decide) (by decide) kQ) ?_
    show own_Go p e below s _ _ _ (T680.setTop (mkF m 81 #[.val (.int p1), .val (.int p2), .val (.int p3), .val (.int p4), .val (.int p5), .val (.int fi), .val (.int (2 : Int32)), .val (.ref b623), .unset, .unset, .unset, .unset, .unset, .unset, .unset] []))
    refine own_st (fun _ kQ => XS.iload X680.here hx rfl (hb hby at_81) rfl kQ) ?_
    show own_Go p e below s _ _ _ (T680.setTop (mkF m 83 #[.val (.int p1), .val (.int p2), .val (.int p3), .val (.int p4), .val (.int p5), .val (.int fi), .val (.int (2 : Int32)), .val (.ref b623), .unset, .unset, .unset, .unset, .unset, .unset, .unset] [(.int p5)]))
    refine own_st (fun _ kQ => XT.iconstV X680.here hx rfl (1 : Int32) (hb hby at_83) (by decide) kQ) ?_
    show own_Go p e below s _ _ _ (T680.setTop (mkF m 84 #[.val (.int p1), .val (.int p2), .val (.int p3), .val (.int p4), .val (.int p5), .val (.int fi), .val (.int (2 : Int32)), .val (.ref b623), .unset, .unset, .unset, .unset, .unset, .unset, .unset] [(.int (1 : Int32)), (.int p5)]))
    refine own_st (fun _ kQ => XS.iand X680.here hx rfl (hb hby at_84) rfl kQ) ?_
    show own_Go p e below s _ _ _ (T680.setTop (mkF m 85 #[.val (.int p1), .val (.int p2), .val (.int p3), .val (.int p4), .val (.int p5), .val (.int fi), .val (.int (2 : Int32)), .val (.ref b623), .unset, .unset, .unset, .unset, .unset, .unset, .unset] [(.int (p5 &&& (1 : Int32)))]))
    by_cases hc697 : (p5 &&& (1 : Int32)) = 0
    · refine own_st (fun _ kQ => XS.ifNo X680.here hx rfl (hb hby at_85) rfl (XT.i0_ne_f hc697) kQ) ?_
      show own_Go p e below s _ _ _ (T680.setTop (mkF m 88 #[.val (.int p1), .val (.int p2), .val (.int p3), .val (.int p4), .val (.int p5), .val (.int fi), .val (.int (2 : Int32)), .val (.ref b623), .unset, .unset, .unset, .unset, .unset, .unset, .unset] []))
      refine own_st (fun _ kQ => XS.iloadN X680.here hx rfl (hb hby at_88) rfl kQ) ?_
      show own_Go p e below s _ _ _ (T680.setTop (mkF m 89 #[.val (.int p1), .val (.int p2), .val (.int p3), .val (.int p4), .val (.int p5), .val (.int fi), .val (.int (2 : Int32)), .val (.ref b623), .unset, .unset, .unset, .unset, .unset, .unset, .unset] [(.int p4)]))
      refine own_st (fun _ kQ => XS.goto X680.here hx rfl (pc0 := 89) (pc' := 101) rfl (hb hby at_89) (by decide) (by decide) kQ) ?_
      show own_Go p e below s _ _ _ (T680.setTop (mkF m 101 #[.val (.int p1), .val (.int p2), .val (.int p3), .val (.int p4), .val (.int p5), .val (.int fi), .val (.int (2 : Int32)), .val (.ref b623), .unset, .unset, .unset, .unset, .unset, .unset, .unset] [(.int p4)]))
      generalize hk_ix : p4 = ix
      show own_Go p e below s _ _ _ (T680.setTop (mkF m 101 #[.val (.int p1), .val (.int p2), .val (.int p3), .val (.int ix), .val (.int p5), .val (.int fi), .val (.int (2 : Int32)), .val (.ref b623), .unset, .unset, .unset, .unset, .unset, .unset, .unset] [(.int ix)]))
      refine own_st (fun _ kQ => XS.istore X680.here hx rfl (hb hby at_101) rfl (l' := #[.val (.int p1), .val (.int p2), .val (.int p3), .val (.int ix), .val (.int p5), .val (.int fi), .val (.int (2 : Int32)), .val (.ref b623), .val (.int ix), .unset, .unset, .unset, .unset, .unset, .unset]) rfl kQ) ?_
      show own_Go p e below s _ _ _ (T680.setTop (mkF m 103 #[.val (.int p1), .val (.int p2), .val (.int p3), .val (.int ix), .val (.int p5), .val (.int fi), .val (.int (2 : Int32)), .val (.ref b623), .val (.int ix), .unset, .unset, .unset, .unset, .unset, .unset] []))
      obtain ⟨T698, h698, X698, e698, E698, A698, D698, -, st698⟩ := newO X680 hx hZ hown (hw _ (List.mem_of_getElem? (i := 65) rfl)) (hw _ (List.mem_of_getElem? (i := 66) rfl)) (hw _ (List.mem_of_getElem? (i := 67) rfl)) rfl (g := (mkF m 103 #[.val (.int p1), .val (.int p2), .val (.int p3), .val (.int ix), .val (.int p5), .val (.int fi), .val (.int (2 : Int32)), .val (.ref b623), .val (.int ix), .unset, .unset, .unset, .unset, .unset, .unset] [])) rfl (hb hby at_103) (by decide) (by decide)
      obtain ⟨b698, g698⟩ : ∃ z, z = T680.heap.size := ⟨_, rfl⟩
      rw [← g698] at A698 D698 st698
      refine own_st st698 ?_
      have lt699 : b623 < h698.size := Nat.lt_of_lt_of_le q689.lt E698.1
      have lt700 : x640 < h698.size := Nat.lt_of_lt_of_le lt693 E698.1
      have lt701 : x652 < h698.size := Nat.lt_of_lt_of_le q690.lt E698.1
      have lt702 : x671 < h698.size := Nat.lt_of_lt_of_le lt695 E698.1
      have Zs703 : n0 ≤ h698.size := Nat.le_trans Zs696 E698.1
      have ne704 : b623 ≠ b698 := Nat.ne_of_lt (Nat.lt_of_lt_of_le q689.lt (Nat.le_of_eq g698.symm))
      have ne705 : x640 ≠ b698 := Nat.ne_of_lt (Nat.lt_of_lt_of_le lt693 (Nat.le_of_eq g698.symm))
      have ne706 : x652 ≠ b698 := Nat.ne_of_lt (Nat.lt_of_lt_of_le q690.lt (Nat.le_of_eq g698.symm))
      have ne707 : x671 ≠ b698 := Nat.ne_of_lt (Nat.lt_of_lt_of_le lt695 (Nat.le_of_eq g698.symm))
      have g708 : n0 ≤ b698 := Nat.le_trans Zs696 (Nat.le_of_eq g698.symm)
      have F709 : Fld Z h698 b698 "com/example/rationed_session/rationedsession/model/Partition" "number" "I" (.int (0 : Int32)) := D698 (Or.inr (hw _ (List.mem_of_getElem? (i := 73) rfl))) (ty := .int) (by decide)
      have F710 : Fld Z h698 b698 "com/example/rationed_session/rationedsession/model/Partition" "firstIndex" "I" (.int (0 : Int32)) := D698 (Or.inr (hw _ (List.mem_of_getElem? (i := 75) rfl))) (ty := .int) (by decide)
      have F711 : Fld Z h698 b698 "com/example/rationed_session/rationedsession/model/Partition" "inputs" "Ljava/util/List;" .null := D698 (Or.inr (hw _ (List.mem_of_getElem? (i := 120) rfl))) (ty := (.object "java/util/List")) (by decide)
      show own_Go p e below s _ _ _ (T698.setTop (mkF m 106 #[.val (.int p1), .val (.int p2), .val (.int p3), .val (.int ix), .val (.int p5), .val (.int fi), .val (.int (2 : Int32)), .val (.ref b623), .val (.int ix), .unset, .unset, .unset, .unset, .unset, .unset] [(.ref b698)]))
      refine own_st (fun _ kQ => XS.dup X698.here hx rfl (hb hby at_106) rfl rfl kQ) ?_
      show own_Go p e below s _ _ _ (T698.setTop (mkF m 107 #[.val (.int p1), .val (.int p2), .val (.int p3), .val (.int ix), .val (.int p5), .val (.int fi), .val (.int (2 : Int32)), .val (.ref b623), .val (.int ix), .unset, .unset, .unset, .unset, .unset, .unset] [(.ref b698), (.ref b698)]))
      refine own_st (fun _ kQ => XS.iloadN X698.here hx rfl (hb hby at_107) rfl kQ) ?_
      show own_Go p e below s _ _ _ (T698.setTop (mkF m 108 #[.val (.int p1), .val (.int p2), .val (.int p3), .val (.int ix), .val (.int p5), .val (.int fi), .val (.int (2 : Int32)), .val (.ref b623), .val (.int ix), .unset, .unset, .unset, .unset, .unset, .unset] [(.int p1), (.ref b698), (.ref b698)]))
      refine own_st (fun _ kQ => XS.iload X698.here hx rfl (hb hby at_108) rfl kQ) ?_
      show own_Go p e below s _ _ _ (T698.setTop (mkF m 110 #[.val (.int p1), .val (.int p2), .val (.int p3), .val (.int ix), .val (.int p5), .val (.int fi), .val (.int (2 : Int32)), .val (.ref b623), .val (.int ix), .unset, .unset, .unset, .unset, .unset, .unset] [(.int fi), (.int p1), (.ref b698), (.ref b698)]))
      refine own_st (fun _ kQ => XS.aload X698.here hx rfl (hb hby at_110) rfl rfl kQ) ?_
      show own_Go p e below s _ _ _ (T698.setTop (mkF m 112 #[.val (.int p1), .val (.int p2), .val (.int p3), .val (.int ix), .val (.int p5), .val (.int fi), .val (.int (2 : Int32)), .val (.ref b623), .val (.int ix), .unset, .unset, .unset, .unset, .unset, .unset] [(.ref b623), (.int fi), (.int p1), (.ref b698), (.ref b698)]))
      have F713 : Exa Z h698 b623 "java/util/ArrayList" := (q686.ext E698)
      obtain ⟨_, _, ⟨T712, L712, k712, n712⟩, -, X712, ⟨Lc712, hQ712, l712, y712, z712⟩, st712⟩ := X698.specialBack hx (y := (⟨"com/example/rationed_session/rationedsession/model/Partition", "<init>", "(IILjava/util/List;)V"⟩ : MethodName)) rfl hown (mvT hZ (hw _ (List.mem_of_getElem? (i := 68) rfl))) (mvT hZ (hw _ (List.mem_of_getElem? (i := 69) rfl))) (mvT hZ (hw _ (List.mem_of_getElem? (i := 70) rfl))) (by decide) (backOf (W := 1) (own_rm_pinitU l Z a0 hw [] b698 p1 fi b623 mA mL mR h698 n0 Zs703 M_AL M_UL M_UR h1 h2 A698 F713 F709 F710 F711 g708) hZ (hw _ (List.mem_of_getElem? (i := 70) rfl)) (hw _ (List.mem_of_getElem? (i := 67) rfl)) (by decide) (by decide)) (g := (mkF m 112 #[.val (.int p1), .val (.int p2), .val (.int p3), .val (.int ix), .val (.int p5), .val (.int fi), .val (.int (2 : Int32)), .val (.ref b623), .val (.int ix), .unset, .unset, .unset, .unset, .unset, .unset] [(.ref b623), (.int fi), (.int p1), (.ref b698), (.ref b698)])) rfl (by rw [hml]; rfl) (Steps.refl _) (a := b698) (argsL := [(.int p1), (.int fi), (.ref b623)]) (rest := [(.ref b698)]) (lenOf own_pd12 rfl) rfl (by show 2 * 0 + _ ≤ _; exact Nat.le_of_eq rfl) (hb hby at_112) (fun _ _ => ⟨rfl, e698, (by decide : 5 + 1 ≤ _), (by decide : 18 + 2 ≤ _)⟩)
      dsimp only [Pt.U, Pt.locs, Pt.cells, Pt.slots] at X712 l712 y712 z712 st712 hQ712
      subst l712 y712 z712
      obtain ⟨x714, N712q, rfl, K712, q715, q716, q717, q718, q719, q720, q721, q722⟩ := hQ712
      have N723 := Fr.app N691 N712q
      refine own_tr st712 ?_
      have lt724 : b623 < T712.heap.size := Nat.lt_of_lt_of_le lt699 K712.1
      have lt725 : x640 < T712.heap.size := Nat.lt_of_lt_of_le lt700 K712.1
      have lt726 : x652 < T712.heap.size := Nat.lt_of_lt_of_le lt701 K712.1
      have lt727 : x671 < T712.heap.size := Nat.lt_of_lt_of_le lt702 K712.1
      have lt728 : b698 < T712.heap.size := Nat.lt_of_lt_of_le A698.lt K712.1
      have Zs729 : n0 ≤ T712.heap.size := Nat.le_trans Zs703 K712.1
      have ne730 : b623 ≠ x714 := Nat.ne_of_lt (Nat.lt_of_lt_of_le lt699 q719)
      have ne731 : x640 ≠ x714 := Nat.ne_of_lt (Nat.lt_of_lt_of_le lt700 q719)
      have ne732 : x652 ≠ x714 := Nat.ne_of_lt (Nat.lt_of_lt_of_le lt701 q719)
      have ne733 : x671 ≠ x714 := Nat.ne_of_lt (Nat.lt_of_lt_of_le lt702 q719)
      have ne734 : b698 ≠ x714 := Nat.ne_of_lt (Nat.lt_of_lt_of_le A698.lt q719)
      have g735 : n0 ≤ x714 := Nat.le_trans Zs703 q719
      show own_Go p e below s _ _ _ (T712.setTop (mkF m 115 #[.val (.int p1), .val (.int p2), .val (.int p3), .val (.int ix), .val (.int p5), .val (.int fi), .val (.int (2 : Int32)), .val (.ref b623), .val (.int ix), .unset, .unset, .unset, .unset, .unset, .unset] [(.ref b698)]))
      refine own_st (fun _ kQ => XS.astore X712.here hx rfl (hb hby at_115) rfl rfl (l' := #[.val (.int p1), .val (.int p2), .val (.int p3), .val (.int ix), .val (.int p5), .val (.int fi), .val (.int (2 : Int32)), .val (.ref b623), .val (.int ix), .val (.ref b698), .unset, .unset, .unset, .unset, .unset]) rfl kQ) ?_
      show own_Go p e below s _ _ _ (T712.setTop (mkF m 117 #[.val (.int p1), .val (.int p2), .val (.int p3), .val (.int ix), .val (.int p5), .val (.int fi), .val (.int (2 : Int32)), .val (.ref b623), .val (.int ix), .val (.ref b698), .unset, .unset, .unset, .unset, .unset] []))
      refine own_st (fun _ kQ => XS.iload X712.here hx rfl (hb hby at_117) rfl kQ) ?_
      show own_Go p e below s _ _ _ (T712.setTop (mkF m 119 #[.val (.int p1), .val (.int p2), .val (.int p3), .val (.int ix), .val (.int p5), .val (.int fi), .val (.int (2 : Int32)), .val (.ref b623), .val (.int ix), .val (.ref b698), .unset, .unset, .unset, .unset, .unset] [(.int fi)]))
      refine own_st (fun _ kQ => XT.i2l X712.here hx rfl (hb hby at_119) rfl kQ) ?_
      show own_Go p e below s _ _ _ (T712.setTop (mkF m 120 #[.val (.int p1), .val (.int p2), .val (.int p3), .val (.int ix), .val (.int p5), .val (.int fi), .val (.int (2 : Int32)), .val (.ref b623), .val (.int ix), .val (.ref b698), .unset, .unset, .unset, .unset, .unset] [(.long (fi.toInt64))]))
      refine own_st (fun _ kQ => XT.lstore X712.here hx rfl (hb hby at_120) rfl (l' := #[.val (.int p1), .val (.int p2), .val (.int p3), .val (.int ix), .val (.int p5), .val (.int fi), .val (.int (2 : Int32)), .val (.ref b623), .val (.int ix), .val (.ref b698), .val (.long (fi.toInt64)), .second, .unset, .unset, .unset]) rfl kQ) ?_
      show own_Go p e below s _ _ _ (T712.setTop (mkF m 122 #[.val (.int p1), .val (.int p2), .val (.int p3), .val (.int ix), .val (.int p5), .val (.int fi), .val (.int (2 : Int32)), .val (.ref b623), .val (.int ix), .val (.ref b698), .val (.long (fi.toInt64)), .second, .unset, .unset, .unset] []))
      refine own_st (fun _ kQ => XS.iload X712.here hx rfl (hb hby at_122) rfl kQ) ?_
      show own_Go p e below s _ _ _ (T712.setTop (mkF m 124 #[.val (.int p1), .val (.int p2), .val (.int p3), .val (.int ix), .val (.int p5), .val (.int fi), .val (.int (2 : Int32)), .val (.ref b623), .val (.int ix), .val (.ref b698), .val (.long (fi.toInt64)), .second, .unset, .unset, .unset] [(.int fi)]))
      refine own_st (fun _ kQ => XT.i2l X712.here hx rfl (hb hby at_124) rfl kQ) ?_
      show own_Go p e below s _ _ _ (T712.setTop (mkF m 125 #[.val (.int p1), .val (.int p2), .val (.int p3), .val (.int ix), .val (.int p5), .val (.int fi), .val (.int (2 : Int32)), .val (.ref b623), .val (.int ix), .val (.ref b698), .val (.long (fi.toInt64)), .second, .unset, .unset, .unset] [(.long (fi.toInt64))]))
      refine own_st (fun _ kQ => XS.iload X712.here hx rfl (hb hby at_125) rfl kQ) ?_
      show own_Go p e below s _ _ _ (T712.setTop (mkF m 127 #[.val (.int p1), .val (.int p2), .val (.int p3), .val (.int ix), .val (.int p5), .val (.int fi), .val (.int (2 : Int32)), .val (.ref b623), .val (.int ix), .val (.ref b698), .val (.long (fi.toInt64)), .second, .unset, .unset, .unset] [(.int (2 : Int32)), (.long (fi.toInt64))]))
      refine own_st (fun _ kQ => XT.i2l X712.here hx rfl (hb hby at_127) rfl kQ) ?_
      show own_Go p e below s _ _ _ (T712.setTop (mkF m 128 #[.val (.int p1), .val (.int p2), .val (.int p3), .val (.int ix), .val (.int p5), .val (.int fi), .val (.int (2 : Int32)), .val (.ref b623), .val (.int ix), .val (.ref b698), .val (.long (fi.toInt64)), .second, .unset, .unset, .unset] [(.long ((2 : Int32).toInt64)), (.long (fi.toInt64))]))
      refine own_st (fun _ kQ => XT.ladd X712.here hx rfl (hb hby at_128) rfl kQ) ?_
      show own_Go p e below s _ _ _ (T712.setTop (mkF m 129 #[.val (.int p1), .val (.int p2), .val (.int p3), .val (.int ix), .val (.int p5), .val (.int fi), .val (.int (2 : Int32)), .val (.ref b623), .val (.int ix), .val (.ref b698), .val (.long (fi.toInt64)), .second, .unset, .unset, .unset] [(.long ((fi.toInt64) + ((2 : Int32).toInt64)))]))
      refine own_st (fun _ kQ => XT.lstore X712.here hx rfl (hb hby at_129) rfl (l' := #[.val (.int p1), .val (.int p2), .val (.int p3), .val (.int ix), .val (.int p5), .val (.int fi), .val (.int (2 : Int32)), .val (.ref b623), .val (.int ix), .val (.ref b698), .val (.long (fi.toInt64)), .second, .val (.long ((fi.toInt64) + ((2 : Int32).toInt64))), .second, .unset]) rfl kQ) ?_
      show own_Go p e below s _ _ _ (T712.setTop (mkF m 131 #[.val (.int p1), .val (.int p2), .val (.int p3), .val (.int ix), .val (.int p5), .val (.int fi), .val (.int (2 : Int32)), .val (.ref b623), .val (.int ix), .val (.ref b698), .val (.long (fi.toInt64)), .second, .val (.long ((fi.toInt64) + ((2 : Int32).toInt64))), .second, .unset] []))
      refine own_st (fun _ kQ => XS.iload X712.here hx rfl (hb hby at_131) rfl kQ) ?_
      show own_Go p e below s _ _ _ (T712.setTop (mkF m 133 #[.val (.int p1), .val (.int p2), .val (.int p3), .val (.int ix), .val (.int p5), .val (.int fi), .val (.int (2 : Int32)), .val (.ref b623), .val (.int ix), .val (.ref b698), .val (.long (fi.toInt64)), .second, .val (.long ((fi.toInt64) + ((2 : Int32).toInt64))), .second, .unset] [(.int ix)]))
      refine own_st (fun _ kQ => XT.i2l X712.here hx rfl (hb hby at_133) rfl kQ) ?_
      show own_Go p e below s _ _ _ (T712.setTop (mkF m 134 #[.val (.int p1), .val (.int p2), .val (.int p3), .val (.int ix), .val (.int p5), .val (.int fi), .val (.int (2 : Int32)), .val (.ref b623), .val (.int ix), .val (.ref b698), .val (.long (fi.toInt64)), .second, .val (.long ((fi.toInt64) + ((2 : Int32).toInt64))), .second, .unset] [(.long (ix.toInt64))]))
      refine own_st (fun _ kQ => XT.lload X712.here hx rfl (hb hby at_134) rfl kQ) ?_
      show own_Go p e below s _ _ _ (T712.setTop (mkF m 136 #[.val (.int p1), .val (.int p2), .val (.int p3), .val (.int ix), .val (.int p5), .val (.int fi), .val (.int (2 : Int32)), .val (.ref b623), .val (.int ix), .val (.ref b698), .val (.long (fi.toInt64)), .second, .val (.long ((fi.toInt64) + ((2 : Int32).toInt64))), .second, .unset] [(.long (fi.toInt64)), (.long (ix.toInt64))]))
      refine own_st (fun _ kQ => XT.lcmp X712.here hx rfl (hb hby at_136) rfl kQ) ?_
      show own_Go p e below s _ _ _ (T712.setTop (mkF m 137 #[.val (.int p1), .val (.int p2), .val (.int p3), .val (.int ix), .val (.int p5), .val (.int fi), .val (.int (2 : Int32)), .val (.ref b623), .val (.int ix), .val (.ref b698), .val (.long (fi.toInt64)), .second, .val (.long ((fi.toInt64) + ((2 : Int32).toInt64))), .second, .unset] [(.int (XT.cmpL (ix.toInt64) (fi.toInt64)))]))
      by_cases hc736 : (ix.toInt64) < (fi.toInt64)
      · refine own_st (fun _ kQ => XS.ifYes X712.here hx rfl (pc0 := 137) (pc' := 153) rfl (hb hby at_137) rfl (XT.ll_lt_t hc736) (by decide) (by decide) kQ) ?_
        show own_Go p e below s _ _ _ (T712.setTop (mkF m 153 #[.val (.int p1), .val (.int p2), .val (.int p3), .val (.int ix), .val (.int p5), .val (.int fi), .val (.int (2 : Int32)), .val (.ref b623), .val (.int ix), .val (.ref b698), .val (.long (fi.toInt64)), .second, .val (.long ((fi.toInt64) + ((2 : Int32).toInt64))), .second, .unset] []))
        refine own_st (fun _ kQ => XT.iconstV X712.here hx rfl (0 : Int32) (hb hby at_153) (by decide) kQ) ?_
        show own_Go p e below s _ _ _ (T712.setTop (mkF m 154 #[.val (.int p1), .val (.int p2), .val (.int p3), .val (.int ix), .val (.int p5), .val (.int fi), .val (.int (2 : Int32)), .val (.ref b623), .val (.int ix), .val (.ref b698), .val (.long (fi.toInt64)), .second, .val (.long ((fi.toInt64) + ((2 : Int32).toInt64))), .second, .unset] [(.int (0 : Int32))]))
        refine own_st (fun _ kQ => XS.istore X712.here hx rfl (hb hby at_154) rfl (l' := #[.val (.int p1), .val (.int p2), .val (.int p3), .val (.int ix), .val (.int p5), .val (.int fi), .val (.int (2 : Int32)), .val (.ref b623), .val (.int ix), .val (.ref b698), .val (.long (fi.toInt64)), .second, .val (.long ((fi.toInt64) + ((2 : Int32).toInt64))), .second, .val (.int (0 : Int32))]) rfl kQ) ?_
        show own_Go p e below s _ _ _ (T712.setTop (mkF m 156 #[.val (.int p1), .val (.int p2), .val (.int p3), .val (.int ix), .val (.int p5), .val (.int fi), .val (.int (2 : Int32)), .val (.ref b623), .val (.int ix), .val (.ref b698), .val (.long (fi.toInt64)), .second, .val (.long ((fi.toInt64) + ((2 : Int32).toInt64))), .second, .val (.int (0 : Int32))] []))
        refine own_st (fun _ kQ => XS.aload X712.here hx rfl (hb hby at_156) rfl rfl kQ) ?_
        show own_Go p e below s _ _ _ (T712.setTop (mkF m 158 #[.val (.int p1), .val (.int p2), .val (.int p3), .val (.int ix), .val (.int p5), .val (.int fi), .val (.int (2 : Int32)), .val (.ref b623), .val (.int ix), .val (.ref b698), .val (.long (fi.toInt64)), .second, .val (.long ((fi.toInt64) + ((2 : Int32).toInt64))), .second, .val (.int (0 : Int32))] [(.ref b698)]))
        refine own_st (fun _ kQ => XS.iload X712.here hx rfl (hb hby at_158) rfl kQ) ?_
        show own_Go p e below s _ _ _ (T712.setTop (mkF m 160 #[.val (.int p1), .val (.int p2), .val (.int p3), .val (.int ix), .val (.int p5), .val (.int fi), .val (.int (2 : Int32)), .val (.ref b623), .val (.int ix), .val (.ref b698), .val (.long (fi.toInt64)), .second, .val (.long ((fi.toInt64) + ((2 : Int32).toInt64))), .second, .val (.int (0 : Int32))] [(.int ix), (.ref b698)]))
        have F738 : Exa Z T712.heap b623 "java/util/ArrayList" := (F713.keep K712)
        have F739 : Fld Z T712.heap b623 "java/util/ArrayList" "size" "I" (.int (2 : Int32)) := ((q689.ext E698).keep K712 (ninS ne704 nin0))
        obtain ⟨cq737, kq737, q737a, q737b, q737c⟩ := isOf hZ rfl q715
        obtain ⟨_, _, ⟨T737, L737, k737, n737⟩, -, X737, ⟨Lc737, hQ737, l737, y737, z737⟩, st737⟩ := X712.virtualBack hx (y := (⟨"com/example/rationed_session/rationedsession/model/Partition", "holds", "(I)Z"⟩ : MethodName)) (z := (⟨"com/example/rationed_session/rationedsession/model/Partition", "holds", "(I)Z"⟩ : MethodName)) hown (mvT hZ (hw _ (List.mem_of_getElem? (i := 121) rfl))) (mvT hZ (hw _ (List.mem_of_getElem? (i := 122) rfl))) (notFace_of_selects (args := #[]) (mvT hZ (hw _ (List.mem_of_getElem? (i := 124) rfl)))) (mvT hZ (hw _ (List.mem_of_getElem? (i := 124) rfl))) (mvT hZ (hw _ (List.mem_of_getElem? (i := 123) rfl))) (by decide) (backOf (W := 0) (own_rm_holdsU l Z a0 hw [] x714 b698 b623 ix fi (2 : Int32) T712.heap n0 Zs729 q718 q720 q721 F738 q717 F739) hZ (hw _ (List.mem_of_getElem? (i := 125) rfl)) (hw _ (List.mem_of_getElem? (i := 67) rfl)) (by decide) (by decide)) q737a q737c (g := (mkF m 160 #[.val (.int p1), .val (.int p2), .val (.int p3), .val (.int ix), .val (.int p5), .val (.int fi), .val (.int (2 : Int32)), .val (.ref b623), .val (.int ix), .val (.ref b698), .val (.long (fi.toInt64)), .second, .val (.long ((fi.toInt64) + ((2 : Int32).toInt64))), .second, .val (.int (0 : Int32))] [(.int ix), (.ref b698)])) rfl (by rw [hml]; rfl) (Steps.refl _) (argsL := [(.int ix)]) (rest := []) (lenOf own_pd13 rfl) rfl (by show 2 * 0 + _ ≤ _; exact Nat.le_of_eq rfl) (hb hby at_160) (fun _ _ => ⟨rfl, rfl, (by decide : 6 + 0 ≤ _), (by decide : 20 + 0 ≤ _)⟩)
        dsimp only [Pt.U, Pt.locs, Pt.cells, Pt.slots] at X737 l737 y737 z737 st737 hQ737
        subst l737 y737 z737
        obtain ⟨N737q, rfl, eh737⟩ := hQ737
        have N740 := Fr.app N723 N737q
        refine own_tr st737 ?_
        show own_Go p e below s _ _ _ (T737.setTop (mkF m 163 #[.val (.int p1), .val (.int p2), .val (.int p3), .val (.int ix), .val (.int p5), .val (.int fi), .val (.int (2 : Int32)), .val (.ref b623), .val (.int ix), .val (.ref b698), .val (.long (fi.toInt64)), .second, .val (.long ((fi.toInt64) + ((2 : Int32).toInt64))), .second, .val (.int (0 : Int32))] [(.int (if ix < fi then (0 : Int32) else if ix - fi < (2 : Int32) then 1 else 0))]))
        refine own_st (fun _ kQ => XS.iload X737.here hx rfl (hb hby at_163) rfl kQ) ?_
        show own_Go p e below s _ _ _ (T737.setTop (mkF m 165 #[.val (.int p1), .val (.int p2), .val (.int p3), .val (.int ix), .val (.int p5), .val (.int fi), .val (.int (2 : Int32)), .val (.ref b623), .val (.int ix), .val (.ref b698), .val (.long (fi.toInt64)), .second, .val (.long ((fi.toInt64) + ((2 : Int32).toInt64))), .second, .val (.int (0 : Int32))] [(.int (0 : Int32)), (.int (if ix < fi then (0 : Int32) else if ix - fi < (2 : Int32) then 1 else 0))]))
        refine own_st (fun _ kQ => XS.icmpNo X737.here hx rfl (hb hby at_165) rfl (XT.ii_ne_f (by rw [if_pos ((own_lt64 _ _).mp hc736)])) kQ) ?_
        show own_Go p e below s _ _ _ (T737.setTop (mkF m 168 #[.val (.int p1), .val (.int p2), .val (.int p3), .val (.int ix), .val (.int p5), .val (.int fi), .val (.int (2 : Int32)), .val (.ref b623), .val (.int ix), .val (.ref b698), .val (.long (fi.toInt64)), .second, .val (.long ((fi.toInt64) + ((2 : Int32).toInt64))), .second, .val (.int (0 : Int32))] []))
        refine own_st (fun _ kQ => XT.iconstV X737.here hx rfl (1 : Int32) (hb hby at_168) (by decide) kQ) ?_
        show own_Go p e below s _ _ _ (T737.setTop (mkF m 169 #[.val (.int p1), .val (.int p2), .val (.int p3), .val (.int ix), .val (.int p5), .val (.int fi), .val (.int (2 : Int32)), .val (.ref b623), .val (.int ix), .val (.ref b698), .val (.long (fi.toInt64)), .second, .val (.long ((fi.toInt64) + ((2 : Int32).toInt64))), .second, .val (.int (0 : Int32))] [(.int (1 : Int32))]))
        refine own_st (fun _ kQ => XS.goto X737.here hx rfl (pc0 := 169) (pc' := 173) rfl (hb hby at_169) (by decide) (by decide) kQ) ?_
        show own_Go p e below s _ _ _ (T737.setTop (mkF m 173 #[.val (.int p1), .val (.int p2), .val (.int p3), .val (.int ix), .val (.int p5), .val (.int fi), .val (.int (2 : Int32)), .val (.ref b623), .val (.int ix), .val (.ref b698), .val (.long (fi.toInt64)), .second, .val (.long ((fi.toInt64) + ((2 : Int32).toInt64))), .second, .val (.int (0 : Int32))] [(.int (1 : Int32))]))
        refine own_retN X737 hx hlk Bd.returns (t := .boolean) (z' := (1 : Int32)) (by simp) (by decide) (hb hby at_173) (by decide) (by decide) ?_
        rw [eh737]
        exact ⟨N740, rfl⟩
      · refine own_st (fun _ kQ => XS.ifNo X712.here hx rfl (hb hby at_137) rfl (XT.ll_lt_f hc736) kQ) ?_
        show own_Go p e below s _ _ _ (T712.setTop (mkF m 140 #[.val (.int p1), .val (.int p2), .val (.int p3), .val (.int ix), .val (.int p5), .val (.int fi), .val (.int (2 : Int32)), .val (.ref b623), .val (.int ix), .val (.ref b698), .val (.long (fi.toInt64)), .second, .val (.long ((fi.toInt64) + ((2 : Int32).toInt64))), .second, .unset] []))
        refine own_st (fun _ kQ => XS.iload X712.here hx rfl (hb hby at_140) rfl kQ) ?_
        show own_Go p e below s _ _ _ (T712.setTop (mkF m 142 #[.val (.int p1), .val (.int p2), .val (.int p3), .val (.int ix), .val (.int p5), .val (.int fi), .val (.int (2 : Int32)), .val (.ref b623), .val (.int ix), .val (.ref b698), .val (.long (fi.toInt64)), .second, .val (.long ((fi.toInt64) + ((2 : Int32).toInt64))), .second, .unset] [(.int ix)]))
        refine own_st (fun _ kQ => XT.i2l X712.here hx rfl (hb hby at_142) rfl kQ) ?_
        show own_Go p e below s _ _ _ (T712.setTop (mkF m 143 #[.val (.int p1), .val (.int p2), .val (.int p3), .val (.int ix), .val (.int p5), .val (.int fi), .val (.int (2 : Int32)), .val (.ref b623), .val (.int ix), .val (.ref b698), .val (.long (fi.toInt64)), .second, .val (.long ((fi.toInt64) + ((2 : Int32).toInt64))), .second, .unset] [(.long (ix.toInt64))]))
        refine own_st (fun _ kQ => XT.lload X712.here hx rfl (hb hby at_143) rfl kQ) ?_
        show own_Go p e below s _ _ _ (T712.setTop (mkF m 145 #[.val (.int p1), .val (.int p2), .val (.int p3), .val (.int ix), .val (.int p5), .val (.int fi), .val (.int (2 : Int32)), .val (.ref b623), .val (.int ix), .val (.ref b698), .val (.long (fi.toInt64)), .second, .val (.long ((fi.toInt64) + ((2 : Int32).toInt64))), .second, .unset] [(.long ((fi.toInt64) + ((2 : Int32).toInt64))), (.long (ix.toInt64))]))
        refine own_st (fun _ kQ => XT.lcmp X712.here hx rfl (hb hby at_145) rfl kQ) ?_
        show own_Go p e below s _ _ _ (T712.setTop (mkF m 146 #[.val (.int p1), .val (.int p2), .val (.int p3), .val (.int ix), .val (.int p5), .val (.int fi), .val (.int (2 : Int32)), .val (.ref b623), .val (.int ix), .val (.ref b698), .val (.long (fi.toInt64)), .second, .val (.long ((fi.toInt64) + ((2 : Int32).toInt64))), .second, .unset] [(.int (XT.cmpL (ix.toInt64) ((fi.toInt64) + ((2 : Int32).toInt64))))]))
        by_cases hc741 : (ix.toInt64) < ((fi.toInt64) + ((2 : Int32).toInt64))
        · refine own_st (fun _ kQ => XS.ifNo X712.here hx rfl (hb hby at_146) rfl (XT.ll_ge_f hc741) kQ) ?_
          show own_Go p e below s _ _ _ (T712.setTop (mkF m 149 #[.val (.int p1), .val (.int p2), .val (.int p3), .val (.int ix), .val (.int p5), .val (.int fi), .val (.int (2 : Int32)), .val (.ref b623), .val (.int ix), .val (.ref b698), .val (.long (fi.toInt64)), .second, .val (.long ((fi.toInt64) + ((2 : Int32).toInt64))), .second, .unset] []))
          refine own_st (fun _ kQ => XT.iconstV X712.here hx rfl (1 : Int32) (hb hby at_149) (by decide) kQ) ?_
          show own_Go p e below s _ _ _ (T712.setTop (mkF m 150 #[.val (.int p1), .val (.int p2), .val (.int p3), .val (.int ix), .val (.int p5), .val (.int fi), .val (.int (2 : Int32)), .val (.ref b623), .val (.int ix), .val (.ref b698), .val (.long (fi.toInt64)), .second, .val (.long ((fi.toInt64) + ((2 : Int32).toInt64))), .second, .unset] [(.int (1 : Int32))]))
          refine own_st (fun _ kQ => XS.goto X712.here hx rfl (pc0 := 150) (pc' := 154) rfl (hb hby at_150) (by decide) (by decide) kQ) ?_
          show own_Go p e below s _ _ _ (T712.setTop (mkF m 154 #[.val (.int p1), .val (.int p2), .val (.int p3), .val (.int ix), .val (.int p5), .val (.int fi), .val (.int (2 : Int32)), .val (.ref b623), .val (.int ix), .val (.ref b698), .val (.long (fi.toInt64)), .second, .val (.long ((fi.toInt64) + ((2 : Int32).toInt64))), .second, .unset] [(.int (1 : Int32))]))
          refine own_st (fun _ kQ => XS.istore X712.here hx rfl (hb hby at_154) rfl (l' := #[.val (.int p1), .val (.int p2), .val (.int p3), .val (.int ix), .val (.int p5), .val (.int fi), .val (.int (2 : Int32)), .val (.ref b623), .val (.int ix), .val (.ref b698), .val (.long (fi.toInt64)), .second, .val (.long ((fi.toInt64) + ((2 : Int32).toInt64))), .second, .val (.int (1 : Int32))]) rfl kQ) ?_
          show own_Go p e below s _ _ _ (T712.setTop (mkF m 156 #[.val (.int p1), .val (.int p2), .val (.int p3), .val (.int ix), .val (.int p5), .val (.int fi), .val (.int (2 : Int32)), .val (.ref b623), .val (.int ix), .val (.ref b698), .val (.long (fi.toInt64)), .second, .val (.long ((fi.toInt64) + ((2 : Int32).toInt64))), .second, .val (.int (1 : Int32))] []))
          refine own_st (fun _ kQ => XS.aload X712.here hx rfl (hb hby at_156) rfl rfl kQ) ?_
          show own_Go p e below s _ _ _ (T712.setTop (mkF m 158 #[.val (.int p1), .val (.int p2), .val (.int p3), .val (.int ix), .val (.int p5), .val (.int fi), .val (.int (2 : Int32)), .val (.ref b623), .val (.int ix), .val (.ref b698), .val (.long (fi.toInt64)), .second, .val (.long ((fi.toInt64) + ((2 : Int32).toInt64))), .second, .val (.int (1 : Int32))] [(.ref b698)]))
          refine own_st (fun _ kQ => XS.iload X712.here hx rfl (hb hby at_158) rfl kQ) ?_
          show own_Go p e below s _ _ _ (T712.setTop (mkF m 160 #[.val (.int p1), .val (.int p2), .val (.int p3), .val (.int ix), .val (.int p5), .val (.int fi), .val (.int (2 : Int32)), .val (.ref b623), .val (.int ix), .val (.ref b698), .val (.long (fi.toInt64)), .second, .val (.long ((fi.toInt64) + ((2 : Int32).toInt64))), .second, .val (.int (1 : Int32))] [(.int ix), (.ref b698)]))
          have F743 : Exa Z T712.heap b623 "java/util/ArrayList" := (F713.keep K712)
          have F744 : Fld Z T712.heap b623 "java/util/ArrayList" "size" "I" (.int (2 : Int32)) := ((q689.ext E698).keep K712 (ninS ne704 nin0))
          obtain ⟨cq742, kq742, q742a, q742b, q742c⟩ := isOf hZ rfl q715
          obtain ⟨_, _, ⟨T742, L742, k742, n742⟩, -, X742, ⟨Lc742, hQ742, l742, y742, z742⟩, st742⟩ := X712.virtualBack hx (y := (⟨"com/example/rationed_session/rationedsession/model/Partition", "holds", "(I)Z"⟩ : MethodName)) (z := (⟨"com/example/rationed_session/rationedsession/model/Partition", "holds", "(I)Z"⟩ : MethodName)) hown (mvT hZ (hw _ (List.mem_of_getElem? (i := 121) rfl))) (mvT hZ (hw _ (List.mem_of_getElem? (i := 122) rfl))) (notFace_of_selects (args := #[]) (mvT hZ (hw _ (List.mem_of_getElem? (i := 124) rfl)))) (mvT hZ (hw _ (List.mem_of_getElem? (i := 124) rfl))) (mvT hZ (hw _ (List.mem_of_getElem? (i := 123) rfl))) (by decide) (backOf (W := 0) (own_rm_holdsU l Z a0 hw [] x714 b698 b623 ix fi (2 : Int32) T712.heap n0 Zs729 q718 q720 q721 F743 q717 F744) hZ (hw _ (List.mem_of_getElem? (i := 125) rfl)) (hw _ (List.mem_of_getElem? (i := 67) rfl)) (by decide) (by decide)) q742a q742c (g := (mkF m 160 #[.val (.int p1), .val (.int p2), .val (.int p3), .val (.int ix), .val (.int p5), .val (.int fi), .val (.int (2 : Int32)), .val (.ref b623), .val (.int ix), .val (.ref b698), .val (.long (fi.toInt64)), .second, .val (.long ((fi.toInt64) + ((2 : Int32).toInt64))), .second, .val (.int (1 : Int32))] [(.int ix), (.ref b698)])) rfl (by rw [hml]; rfl) (Steps.refl _) (argsL := [(.int ix)]) (rest := []) (lenOf own_pd13 rfl) rfl (by show 2 * 0 + _ ≤ _; exact Nat.le_of_eq rfl) (hb hby at_160) (fun _ _ => ⟨rfl, rfl, (by decide : 6 + 0 ≤ _), (by decide : 20 + 0 ≤ _)⟩)
          dsimp only [Pt.U, Pt.locs, Pt.cells, Pt.slots] at X742 l742 y742 z742 st742 hQ742
          subst l742 y742 z742
          obtain ⟨N742q, rfl, eh742⟩ := hQ742
          have N745 := Fr.app N723 N742q
          refine own_tr st742 ?_
          show own_Go p e below s _ _ _ (T742.setTop (mkF m 163 #[.val (.int p1), .val (.int p2), .val (.int p3), .val (.int ix), .val (.int p5), .val (.int fi), .val (.int (2 : Int32)), .val (.ref b623), .val (.int ix), .val (.ref b698), .val (.long (fi.toInt64)), .second, .val (.long ((fi.toInt64) + ((2 : Int32).toInt64))), .second, .val (.int (1 : Int32))] [(.int (if ix < fi then (0 : Int32) else if ix - fi < (2 : Int32) then 1 else 0))]))
          refine own_st (fun _ kQ => XS.iload X742.here hx rfl (hb hby at_163) rfl kQ) ?_
          show own_Go p e below s _ _ _ (T742.setTop (mkF m 165 #[.val (.int p1), .val (.int p2), .val (.int p3), .val (.int ix), .val (.int p5), .val (.int fi), .val (.int (2 : Int32)), .val (.ref b623), .val (.int ix), .val (.ref b698), .val (.long (fi.toInt64)), .second, .val (.long ((fi.toInt64) + ((2 : Int32).toInt64))), .second, .val (.int (1 : Int32))] [(.int (1 : Int32)), (.int (if ix < fi then (0 : Int32) else if ix - fi < (2 : Int32) then 1 else 0))]))
          refine own_st (fun _ kQ => XS.icmpNo X742.here hx rfl (hb hby at_165) rfl (XT.ii_ne_f (by rw [if_neg (fun q => hc736 ((own_lt64 _ _).mpr q)), if_pos ((own_hl _ _ (2 : Int32) hfi (by decide) (by decide) (fun q => hc736 ((own_lt64 _ _).mpr q))).mp hc741)])) kQ) ?_
          show own_Go p e below s _ _ _ (T742.setTop (mkF m 168 #[.val (.int p1), .val (.int p2), .val (.int p3), .val (.int ix), .val (.int p5), .val (.int fi), .val (.int (2 : Int32)), .val (.ref b623), .val (.int ix), .val (.ref b698), .val (.long (fi.toInt64)), .second, .val (.long ((fi.toInt64) + ((2 : Int32).toInt64))), .second, .val (.int (1 : Int32))] []))
          refine own_st (fun _ kQ => XT.iconstV X742.here hx rfl (1 : Int32) (hb hby at_168) (by decide) kQ) ?_
          show own_Go p e below s _ _ _ (T742.setTop (mkF m 169 #[.val (.int p1), .val (.int p2), .val (.int p3), .val (.int ix), .val (.int p5), .val (.int fi), .val (.int (2 : Int32)), .val (.ref b623), .val (.int ix), .val (.ref b698), .val (.long (fi.toInt64)), .second, .val (.long ((fi.toInt64) + ((2 : Int32).toInt64))), .second, .val (.int (1 : Int32))] [(.int (1 : Int32))]))
          refine own_st (fun _ kQ => XS.goto X742.here hx rfl (pc0 := 169) (pc' := 173) rfl (hb hby at_169) (by decide) (by decide) kQ) ?_
          show own_Go p e below s _ _ _ (T742.setTop (mkF m 173 #[.val (.int p1), .val (.int p2), .val (.int p3), .val (.int ix), .val (.int p5), .val (.int fi), .val (.int (2 : Int32)), .val (.ref b623), .val (.int ix), .val (.ref b698), .val (.long (fi.toInt64)), .second, .val (.long ((fi.toInt64) + ((2 : Int32).toInt64))), .second, .val (.int (1 : Int32))] [(.int (1 : Int32))]))
          refine own_retN X742 hx hlk Bd.returns (t := .boolean) (z' := (1 : Int32)) (by simp) (by decide) (hb hby at_173) (by decide) (by decide) ?_
          rw [eh742]
          exact ⟨N745, rfl⟩
        · refine own_st (fun _ kQ => XS.ifYes X712.here hx rfl (pc0 := 146) (pc' := 153) rfl (hb hby at_146) rfl (XT.ll_ge_t hc741) (by decide) (by decide) kQ) ?_
          show own_Go p e below s _ _ _ (T712.setTop (mkF m 153 #[.val (.int p1), .val (.int p2), .val (.int p3), .val (.int ix), .val (.int p5), .val (.int fi), .val (.int (2 : Int32)), .val (.ref b623), .val (.int ix), .val (.ref b698), .val (.long (fi.toInt64)), .second, .val (.long ((fi.toInt64) + ((2 : Int32).toInt64))), .second, .unset] []))
          refine own_st (fun _ kQ => XT.iconstV X712.here hx rfl (0 : Int32) (hb hby at_153) (by decide) kQ) ?_
          show own_Go p e below s _ _ _ (T712.setTop (mkF m 154 #[.val (.int p1), .val (.int p2), .val (.int p3), .val (.int ix), .val (.int p5), .val (.int fi), .val (.int (2 : Int32)), .val (.ref b623), .val (.int ix), .val (.ref b698), .val (.long (fi.toInt64)), .second, .val (.long ((fi.toInt64) + ((2 : Int32).toInt64))), .second, .unset] [(.int (0 : Int32))]))
          refine own_st (fun _ kQ => XS.istore X712.here hx rfl (hb hby at_154) rfl (l' := #[.val (.int p1), .val (.int p2), .val (.int p3), .val (.int ix), .val (.int p5), .val (.int fi), .val (.int (2 : Int32)), .val (.ref b623), .val (.int ix), .val (.ref b698), .val (.long (fi.toInt64)), .second, .val (.long ((fi.toInt64) + ((2 : Int32).toInt64))), .second, .val (.int (0 : Int32))]) rfl kQ) ?_
          show own_Go p e below s _ _ _ (T712.setTop (mkF m 156 #[.val (.int p1), .val (.int p2), .val (.int p3), .val (.int ix), .val (.int p5), .val (.int fi), .val (.int (2 : Int32)), .val (.ref b623), .val (.int ix), .val (.ref b698), .val (.long (fi.toInt64)), .second, .val (.long ((fi.toInt64) + ((2 : Int32).toInt64))), .second, .val (.int (0 : Int32))] []))
          refine own_st (fun _ kQ => XS.aload X712.here hx rfl (hb hby at_156) rfl rfl kQ) ?_
          show own_Go p e below s _ _ _ (T712.setTop (mkF m 158 #[.val (.int p1), .val (.int p2), .val (.int p3), .val (.int ix), .val (.int p5), .val (.int fi), .val (.int (2 : Int32)), .val (.ref b623), .val (.int ix), .val (.ref b698), .val (.long (fi.toInt64)), .second, .val (.long ((fi.toInt64) + ((2 : Int32).toInt64))), .second, .val (.int (0 : Int32))] [(.ref b698)]))
          refine own_st (fun _ kQ => XS.iload X712.here hx rfl (hb hby at_158) rfl kQ) ?_
          show own_Go p e below s _ _ _ (T712.setTop (mkF m 160 #[.val (.int p1), .val (.int p2), .val (.int p3), .val (.int ix), .val (.int p5), .val (.int fi), .val (.int (2 : Int32)), .val (.ref b623), .val (.int ix), .val (.ref b698), .val (.long (fi.toInt64)), .second, .val (.long ((fi.toInt64) + ((2 : Int32).toInt64))), .second, .val (.int (0 : Int32))] [(.int ix), (.ref b698)]))
          have F747 : Exa Z T712.heap b623 "java/util/ArrayList" := (F713.keep K712)
          have F748 : Fld Z T712.heap b623 "java/util/ArrayList" "size" "I" (.int (2 : Int32)) := ((q689.ext E698).keep K712 (ninS ne704 nin0))
          obtain ⟨cq746, kq746, q746a, q746b, q746c⟩ := isOf hZ rfl q715
          obtain ⟨_, _, ⟨T746, L746, k746, n746⟩, -, X746, ⟨Lc746, hQ746, l746, y746, z746⟩, st746⟩ := X712.virtualBack hx (y := (⟨"com/example/rationed_session/rationedsession/model/Partition", "holds", "(I)Z"⟩ : MethodName)) (z := (⟨"com/example/rationed_session/rationedsession/model/Partition", "holds", "(I)Z"⟩ : MethodName)) hown (mvT hZ (hw _ (List.mem_of_getElem? (i := 121) rfl))) (mvT hZ (hw _ (List.mem_of_getElem? (i := 122) rfl))) (notFace_of_selects (args := #[]) (mvT hZ (hw _ (List.mem_of_getElem? (i := 124) rfl)))) (mvT hZ (hw _ (List.mem_of_getElem? (i := 124) rfl))) (mvT hZ (hw _ (List.mem_of_getElem? (i := 123) rfl))) (by decide) (backOf (W := 0) (own_rm_holdsU l Z a0 hw [] x714 b698 b623 ix fi (2 : Int32) T712.heap n0 Zs729 q718 q720 q721 F747 q717 F748) hZ (hw _ (List.mem_of_getElem? (i := 125) rfl)) (hw _ (List.mem_of_getElem? (i := 67) rfl)) (by decide) (by decide)) q746a q746c (g := (mkF m 160 #[.val (.int p1), .val (.int p2), .val (.int p3), .val (.int ix), .val (.int p5), .val (.int fi), .val (.int (2 : Int32)), .val (.ref b623), .val (.int ix), .val (.ref b698), .val (.long (fi.toInt64)), .second, .val (.long ((fi.toInt64) + ((2 : Int32).toInt64))), .second, .val (.int (0 : Int32))] [(.int ix), (.ref b698)])) rfl (by rw [hml]; rfl) (Steps.refl _) (argsL := [(.int ix)]) (rest := []) (lenOf own_pd13 rfl) rfl (by show 2 * 0 + _ ≤ _; exact Nat.le_of_eq rfl) (hb hby at_160) (fun _ _ => ⟨rfl, rfl, (by decide : 6 + 0 ≤ _), (by decide : 20 + 0 ≤ _)⟩)
          dsimp only [Pt.U, Pt.locs, Pt.cells, Pt.slots] at X746 l746 y746 z746 st746 hQ746
          subst l746 y746 z746
          obtain ⟨N746q, rfl, eh746⟩ := hQ746
          have N749 := Fr.app N723 N746q
          refine own_tr st746 ?_
          show own_Go p e below s _ _ _ (T746.setTop (mkF m 163 #[.val (.int p1), .val (.int p2), .val (.int p3), .val (.int ix), .val (.int p5), .val (.int fi), .val (.int (2 : Int32)), .val (.ref b623), .val (.int ix), .val (.ref b698), .val (.long (fi.toInt64)), .second, .val (.long ((fi.toInt64) + ((2 : Int32).toInt64))), .second, .val (.int (0 : Int32))] [(.int (if ix < fi then (0 : Int32) else if ix - fi < (2 : Int32) then 1 else 0))]))
          refine own_st (fun _ kQ => XS.iload X746.here hx rfl (hb hby at_163) rfl kQ) ?_
          show own_Go p e below s _ _ _ (T746.setTop (mkF m 165 #[.val (.int p1), .val (.int p2), .val (.int p3), .val (.int ix), .val (.int p5), .val (.int fi), .val (.int (2 : Int32)), .val (.ref b623), .val (.int ix), .val (.ref b698), .val (.long (fi.toInt64)), .second, .val (.long ((fi.toInt64) + ((2 : Int32).toInt64))), .second, .val (.int (0 : Int32))] [(.int (0 : Int32)), (.int (if ix < fi then (0 : Int32) else if ix - fi < (2 : Int32) then 1 else 0))]))
          refine own_st (fun _ kQ => XS.icmpNo X746.here hx rfl (hb hby at_165) rfl (XT.ii_ne_f (by rw [if_neg (fun q => hc736 ((own_lt64 _ _).mpr q)), if_neg (fun q => hc741 ((own_hl _ _ (2 : Int32) hfi (by decide) (by decide) (fun q => hc736 ((own_lt64 _ _).mpr q))).mpr q))])) kQ) ?_
          show own_Go p e below s _ _ _ (T746.setTop (mkF m 168 #[.val (.int p1), .val (.int p2), .val (.int p3), .val (.int ix), .val (.int p5), .val (.int fi), .val (.int (2 : Int32)), .val (.ref b623), .val (.int ix), .val (.ref b698), .val (.long (fi.toInt64)), .second, .val (.long ((fi.toInt64) + ((2 : Int32).toInt64))), .second, .val (.int (0 : Int32))] []))
          refine own_st (fun _ kQ => XT.iconstV X746.here hx rfl (1 : Int32) (hb hby at_168) (by decide) kQ) ?_
          show own_Go p e below s _ _ _ (T746.setTop (mkF m 169 #[.val (.int p1), .val (.int p2), .val (.int p3), .val (.int ix), .val (.int p5), .val (.int fi), .val (.int (2 : Int32)), .val (.ref b623), .val (.int ix), .val (.ref b698), .val (.long (fi.toInt64)), .second, .val (.long ((fi.toInt64) + ((2 : Int32).toInt64))), .second, .val (.int (0 : Int32))] [(.int (1 : Int32))]))
          refine own_st (fun _ kQ => XS.goto X746.here hx rfl (pc0 := 169) (pc' := 173) rfl (hb hby at_169) (by decide) (by decide) kQ) ?_
          show own_Go p e below s _ _ _ (T746.setTop (mkF m 173 #[.val (.int p1), .val (.int p2), .val (.int p3), .val (.int ix), .val (.int p5), .val (.int fi), .val (.int (2 : Int32)), .val (.ref b623), .val (.int ix), .val (.ref b698), .val (.long (fi.toInt64)), .second, .val (.long ((fi.toInt64) + ((2 : Int32).toInt64))), .second, .val (.int (0 : Int32))] [(.int (1 : Int32))]))
          refine own_retN X746 hx hlk Bd.returns (t := .boolean) (z' := (1 : Int32)) (by simp) (by decide) (hb hby at_173) (by decide) (by decide) ?_
          rw [eh746]
          exact ⟨N749, rfl⟩
    · refine own_st (fun _ kQ => XS.ifYes X680.here hx rfl (pc0 := 85) (pc' := 92) rfl (hb hby at_85) rfl (XT.i0_ne_t hc697) (by decide) (by decide) kQ) ?_
      show own_Go p e below s _ _ _ (T680.setTop (mkF m 92 #[.val (.int p1), .val (.int p2), .val (.int p3), .val (.int p4), .val (.int p5), .val (.int fi), .val (.int (2 : Int32)), .val (.ref b623), .unset, .unset, .unset, .unset, .unset, .unset, .unset] []))
      refine own_st (fun _ kQ => XS.iload X680.here hx rfl (hb hby at_92) rfl kQ) ?_
      show own_Go p e below s _ _ _ (T680.setTop (mkF m 94 #[.val (.int p1), .val (.int p2), .val (.int p3), .val (.int p4), .val (.int p5), .val (.int fi), .val (.int (2 : Int32)), .val (.ref b623), .unset, .unset, .unset, .unset, .unset, .unset, .unset] [(.int fi)]))
      refine own_st (fun _ kQ => XS.iloadN X680.here hx rfl (hb hby at_94) rfl kQ) ?_
      show own_Go p e below s _ _ _ (T680.setTop (mkF m 95 #[.val (.int p1), .val (.int p2), .val (.int p3), .val (.int p4), .val (.int p5), .val (.int fi), .val (.int (2 : Int32)), .val (.ref b623), .unset, .unset, .unset, .unset, .unset, .unset, .unset] [(.int p4), (.int fi)]))
      refine own_st (fun _ kQ => XT.bipushV X680.here hx rfl (8 : Int32) (hb hby at_95) (by decide) kQ) ?_
      show own_Go p e below s _ _ _ (T680.setTop (mkF m 97 #[.val (.int p1), .val (.int p2), .val (.int p3), .val (.int p4), .val (.int p5), .val (.int fi), .val (.int (2 : Int32)), .val (.ref b623), .unset, .unset, .unset, .unset, .unset, .unset, .unset] [(.int (8 : Int32)), (.int p4), (.int fi)]))
      refine own_st (fun _ kQ => iremM X680 hx rfl (hb hby at_97) rfl (by decide) kQ) ?_
      show own_Go p e below s _ _ _ (T680.setTop (mkF m 98 #[.val (.int p1), .val (.int p2), .val (.int p3), .val (.int p4), .val (.int p5), .val (.int fi), .val (.int (2 : Int32)), .val (.ref b623), .unset, .unset, .unset, .unset, .unset, .unset, .unset] [(.int (p4 % (8 : Int32))), (.int fi)]))
      refine own_st (fun _ kQ => XS.iadd X680.here hx rfl (hb hby at_98) rfl kQ) ?_
      show own_Go p e below s _ _ _ (T680.setTop (mkF m 99 #[.val (.int p1), .val (.int p2), .val (.int p3), .val (.int p4), .val (.int p5), .val (.int fi), .val (.int (2 : Int32)), .val (.ref b623), .unset, .unset, .unset, .unset, .unset, .unset, .unset] [(.int (fi + (p4 % (8 : Int32))))]))
      refine own_st (fun _ kQ => XT.iconstV X680.here hx rfl (3 : Int32) (hb hby at_99) (by decide) kQ) ?_
      show own_Go p e below s _ _ _ (T680.setTop (mkF m 100 #[.val (.int p1), .val (.int p2), .val (.int p3), .val (.int p4), .val (.int p5), .val (.int fi), .val (.int (2 : Int32)), .val (.ref b623), .unset, .unset, .unset, .unset, .unset, .unset, .unset] [(.int (3 : Int32)), (.int (fi + (p4 % (8 : Int32))))]))
      refine own_st (fun _ kQ => XS.isub X680.here hx rfl (hb hby at_100) rfl kQ) ?_
      show own_Go p e below s _ _ _ (T680.setTop (mkF m 101 #[.val (.int p1), .val (.int p2), .val (.int p3), .val (.int p4), .val (.int p5), .val (.int fi), .val (.int (2 : Int32)), .val (.ref b623), .unset, .unset, .unset, .unset, .unset, .unset, .unset] [(.int ((fi + (p4 % (8 : Int32))) - (3 : Int32)))]))
      generalize hk_ix : ((fi + (p4 % (8 : Int32))) - (3 : Int32)) = ix
      show own_Go p e below s _ _ _ (T680.setTop (mkF m 101 #[.val (.int p1), .val (.int p2), .val (.int p3), .val (.int p4), .val (.int p5), .val (.int fi), .val (.int (2 : Int32)), .val (.ref b623), .unset, .unset, .unset, .unset, .unset, .unset, .unset] [(.int ix)]))
      refine own_st (fun _ kQ => XS.istore X680.here hx rfl (hb hby at_101) rfl (l' := #[.val (.int p1), .val (.int p2), .val (.int p3), .val (.int p4), .val (.int p5), .val (.int fi), .val (.int (2 : Int32)), .val (.ref b623), .val (.int ix), .unset, .unset, .unset, .unset, .unset, .unset]) rfl kQ) ?_
      show own_Go p e below s _ _ _ (T680.setTop (mkF m 103 #[.val (.int p1), .val (.int p2), .val (.int p3), .val (.int p4), .val (.int p5), .val (.int fi), .val (.int (2 : Int32)), .val (.ref b623), .val (.int ix), .unset, .unset, .unset, .unset, .unset, .unset] []))
      obtain ⟨T750, h750, X750, e750, E750, A750, D750, -, st750⟩ := newO X680 hx hZ hown (hw _ (List.mem_of_getElem? (i := 65) rfl)) (hw _ (List.mem_of_getElem? (i := 66) rfl)) (hw _ (List.mem_of_getElem? (i := 67) rfl)) rfl (g := (mkF m 103 #[.val (.int p1), .val (.int p2), .val (.int p3), .val (.int p4), .val (.int p5), .val (.int fi), .val (.int (2 : Int32)), .val (.ref b623), .val (.int ix), .unset, .unset, .unset, .unset, .unset, .unset] [])) rfl (hb hby at_103) (by decide) (by decide)
      obtain ⟨b750, g750⟩ : ∃ z, z = T680.heap.size := ⟨_, rfl⟩
      rw [← g750] at A750 D750 st750
      refine own_st st750 ?_
      have lt751 : b623 < h750.size := Nat.lt_of_lt_of_le q689.lt E750.1
      have lt752 : x640 < h750.size := Nat.lt_of_lt_of_le lt693 E750.1
      have lt753 : x652 < h750.size := Nat.lt_of_lt_of_le q690.lt E750.1
      have lt754 : x671 < h750.size := Nat.lt_of_lt_of_le lt695 E750.1
      have Zs755 : n0 ≤ h750.size := Nat.le_trans Zs696 E750.1
      have ne756 : b623 ≠ b750 := Nat.ne_of_lt (Nat.lt_of_lt_of_le q689.lt (Nat.le_of_eq g750.symm))
      have ne757 : x640 ≠ b750 := Nat.ne_of_lt (Nat.lt_of_lt_of_le lt693 (Nat.le_of_eq g750.symm))
      have ne758 : x652 ≠ b750 := Nat.ne_of_lt (Nat.lt_of_lt_of_le q690.lt (Nat.le_of_eq g750.symm))
      have ne759 : x671 ≠ b750 := Nat.ne_of_lt (Nat.lt_of_lt_of_le lt695 (Nat.le_of_eq g750.symm))
      have g760 : n0 ≤ b750 := Nat.le_trans Zs696 (Nat.le_of_eq g750.symm)
      have F761 : Fld Z h750 b750 "com/example/rationed_session/rationedsession/model/Partition" "number" "I" (.int (0 : Int32)) := D750 (Or.inr (hw _ (List.mem_of_getElem? (i := 73) rfl))) (ty := .int) (by decide)
      have F762 : Fld Z h750 b750 "com/example/rationed_session/rationedsession/model/Partition" "firstIndex" "I" (.int (0 : Int32)) := D750 (Or.inr (hw _ (List.mem_of_getElem? (i := 75) rfl))) (ty := .int) (by decide)
      have F763 : Fld Z h750 b750 "com/example/rationed_session/rationedsession/model/Partition" "inputs" "Ljava/util/List;" .null := D750 (Or.inr (hw _ (List.mem_of_getElem? (i := 120) rfl))) (ty := (.object "java/util/List")) (by decide)
      show own_Go p e below s _ _ _ (T750.setTop (mkF m 106 #[.val (.int p1), .val (.int p2), .val (.int p3), .val (.int p4), .val (.int p5), .val (.int fi), .val (.int (2 : Int32)), .val (.ref b623), .val (.int ix), .unset, .unset, .unset, .unset, .unset, .unset] [(.ref b750)]))
      refine own_st (fun _ kQ => XS.dup X750.here hx rfl (hb hby at_106) rfl rfl kQ) ?_
      show own_Go p e below s _ _ _ (T750.setTop (mkF m 107 #[.val (.int p1), .val (.int p2), .val (.int p3), .val (.int p4), .val (.int p5), .val (.int fi), .val (.int (2 : Int32)), .val (.ref b623), .val (.int ix), .unset, .unset, .unset, .unset, .unset, .unset] [(.ref b750), (.ref b750)]))
      refine own_st (fun _ kQ => XS.iloadN X750.here hx rfl (hb hby at_107) rfl kQ) ?_
      show own_Go p e below s _ _ _ (T750.setTop (mkF m 108 #[.val (.int p1), .val (.int p2), .val (.int p3), .val (.int p4), .val (.int p5), .val (.int fi), .val (.int (2 : Int32)), .val (.ref b623), .val (.int ix), .unset, .unset, .unset, .unset, .unset, .unset] [(.int p1), (.ref b750), (.ref b750)]))
      refine own_st (fun _ kQ => XS.iload X750.here hx rfl (hb hby at_108) rfl kQ) ?_
      show own_Go p e below s _ _ _ (T750.setTop (mkF m 110 #[.val (.int p1), .val (.int p2), .val (.int p3), .val (.int p4), .val (.int p5), .val (.int fi), .val (.int (2 : Int32)), .val (.ref b623), .val (.int ix), .unset, .unset, .unset, .unset, .unset, .unset] [(.int fi), (.int p1), (.ref b750), (.ref b750)]))
      refine own_st (fun _ kQ => XS.aload X750.here hx rfl (hb hby at_110) rfl rfl kQ) ?_
      show own_Go p e below s _ _ _ (T750.setTop (mkF m 112 #[.val (.int p1), .val (.int p2), .val (.int p3), .val (.int p4), .val (.int p5), .val (.int fi), .val (.int (2 : Int32)), .val (.ref b623), .val (.int ix), .unset, .unset, .unset, .unset, .unset, .unset] [(.ref b623), (.int fi), (.int p1), (.ref b750), (.ref b750)]))
      have F765 : Exa Z h750 b623 "java/util/ArrayList" := (q686.ext E750)
      obtain ⟨_, _, ⟨T764, L764, k764, n764⟩, -, X764, ⟨Lc764, hQ764, l764, y764, z764⟩, st764⟩ := X750.specialBack hx (y := (⟨"com/example/rationed_session/rationedsession/model/Partition", "<init>", "(IILjava/util/List;)V"⟩ : MethodName)) rfl hown (mvT hZ (hw _ (List.mem_of_getElem? (i := 68) rfl))) (mvT hZ (hw _ (List.mem_of_getElem? (i := 69) rfl))) (mvT hZ (hw _ (List.mem_of_getElem? (i := 70) rfl))) (by decide) (backOf (W := 1) (own_rm_pinitU l Z a0 hw [] b750 p1 fi b623 mA mL mR h750 n0 Zs755 M_AL M_UL M_UR h1 h2 A750 F765 F761 F762 F763 g760) hZ (hw _ (List.mem_of_getElem? (i := 70) rfl)) (hw _ (List.mem_of_getElem? (i := 67) rfl)) (by decide) (by decide)) (g := (mkF m 112 #[.val (.int p1), .val (.int p2), .val (.int p3), .val (.int p4), .val (.int p5), .val (.int fi), .val (.int (2 : Int32)), .val (.ref b623), .val (.int ix), .unset, .unset, .unset, .unset, .unset, .unset] [(.ref b623), (.int fi), (.int p1), (.ref b750), (.ref b750)])) rfl (by rw [hml]; rfl) (Steps.refl _) (a := b750) (argsL := [(.int p1), (.int fi), (.ref b623)]) (rest := [(.ref b750)]) (lenOf own_pd12 rfl) rfl (by show 2 * 0 + _ ≤ _; exact Nat.le_of_eq rfl) (hb hby at_112) (fun _ _ => ⟨rfl, e750, (by decide : 5 + 1 ≤ _), (by decide : 18 + 2 ≤ _)⟩)
      dsimp only [Pt.U, Pt.locs, Pt.cells, Pt.slots] at X764 l764 y764 z764 st764 hQ764
      subst l764 y764 z764
      obtain ⟨x766, N764q, rfl, K764, q767, q768, q769, q770, q771, q772, q773, q774⟩ := hQ764
      have N775 := Fr.app N691 N764q
      refine own_tr st764 ?_
      have lt776 : b623 < T764.heap.size := Nat.lt_of_lt_of_le lt751 K764.1
      have lt777 : x640 < T764.heap.size := Nat.lt_of_lt_of_le lt752 K764.1
      have lt778 : x652 < T764.heap.size := Nat.lt_of_lt_of_le lt753 K764.1
      have lt779 : x671 < T764.heap.size := Nat.lt_of_lt_of_le lt754 K764.1
      have lt780 : b750 < T764.heap.size := Nat.lt_of_lt_of_le A750.lt K764.1
      have Zs781 : n0 ≤ T764.heap.size := Nat.le_trans Zs755 K764.1
      have ne782 : b623 ≠ x766 := Nat.ne_of_lt (Nat.lt_of_lt_of_le lt751 q771)
      have ne783 : x640 ≠ x766 := Nat.ne_of_lt (Nat.lt_of_lt_of_le lt752 q771)
      have ne784 : x652 ≠ x766 := Nat.ne_of_lt (Nat.lt_of_lt_of_le lt753 q771)
      have ne785 : x671 ≠ x766 := Nat.ne_of_lt (Nat.lt_of_lt_of_le lt754 q771)
      have ne786 : b750 ≠ x766 := Nat.ne_of_lt (Nat.lt_of_lt_of_le A750.lt q771)
      have g787 : n0 ≤ x766 := Nat.le_trans Zs755 q771
      show own_Go p e below s _ _ _ (T764.setTop (mkF m 115 #[.val (.int p1), .val (.int p2), .val (.int p3), .val (.int p4), .val (.int p5), .val (.int fi), .val (.int (2 : Int32)), .val (.ref b623), .val (.int ix), .unset, .unset, .unset, .unset, .unset, .unset] [(.ref b750)]))
      refine own_st (fun _ kQ => XS.astore X764.here hx rfl (hb hby at_115) rfl rfl (l' := #[.val (.int p1), .val (.int p2), .val (.int p3), .val (.int p4), .val (.int p5), .val (.int fi), .val (.int (2 : Int32)), .val (.ref b623), .val (.int ix), .val (.ref b750), .unset, .unset, .unset, .unset, .unset]) rfl kQ) ?_
      show own_Go p e below s _ _ _ (T764.setTop (mkF m 117 #[.val (.int p1), .val (.int p2), .val (.int p3), .val (.int p4), .val (.int p5), .val (.int fi), .val (.int (2 : Int32)), .val (.ref b623), .val (.int ix), .val (.ref b750), .unset, .unset, .unset, .unset, .unset] []))
      refine own_st (fun _ kQ => XS.iload X764.here hx rfl (hb hby at_117) rfl kQ) ?_
      show own_Go p e below s _ _ _ (T764.setTop (mkF m 119 #[.val (.int p1), .val (.int p2), .val (.int p3), .val (.int p4), .val (.int p5), .val (.int fi), .val (.int (2 : Int32)), .val (.ref b623), .val (.int ix), .val (.ref b750), .unset, .unset, .unset, .unset, .unset] [(.int fi)]))
      refine own_st (fun _ kQ => XT.i2l X764.here hx rfl (hb hby at_119) rfl kQ) ?_
      show own_Go p e below s _ _ _ (T764.setTop (mkF m 120 #[.val (.int p1), .val (.int p2), .val (.int p3), .val (.int p4), .val (.int p5), .val (.int fi), .val (.int (2 : Int32)), .val (.ref b623), .val (.int ix), .val (.ref b750), .unset, .unset, .unset, .unset, .unset] [(.long (fi.toInt64))]))
      refine own_st (fun _ kQ => XT.lstore X764.here hx rfl (hb hby at_120) rfl (l' := #[.val (.int p1), .val (.int p2), .val (.int p3), .val (.int p4), .val (.int p5), .val (.int fi), .val (.int (2 : Int32)), .val (.ref b623), .val (.int ix), .val (.ref b750), .val (.long (fi.toInt64)), .second, .unset, .unset, .unset]) rfl kQ) ?_
      show own_Go p e below s _ _ _ (T764.setTop (mkF m 122 #[.val (.int p1), .val (.int p2), .val (.int p3), .val (.int p4), .val (.int p5), .val (.int fi), .val (.int (2 : Int32)), .val (.ref b623), .val (.int ix), .val (.ref b750), .val (.long (fi.toInt64)), .second, .unset, .unset, .unset] []))
      refine own_st (fun _ kQ => XS.iload X764.here hx rfl (hb hby at_122) rfl kQ) ?_
      show own_Go p e below s _ _ _ (T764.setTop (mkF m 124 #[.val (.int p1), .val (.int p2), .val (.int p3), .val (.int p4), .val (.int p5), .val (.int fi), .val (.int (2 : Int32)), .val (.ref b623), .val (.int ix), .val (.ref b750), .val (.long (fi.toInt64)), .second, .unset, .unset, .unset] [(.int fi)]))
      refine own_st (fun _ kQ => XT.i2l X764.here hx rfl (hb hby at_124) rfl kQ) ?_
      show own_Go p e below s _ _ _ (T764.setTop (mkF m 125 #[.val (.int p1), .val (.int p2), .val (.int p3), .val (.int p4), .val (.int p5), .val (.int fi), .val (.int (2 : Int32)), .val (.ref b623), .val (.int ix), .val (.ref b750), .val (.long (fi.toInt64)), .second, .unset, .unset, .unset] [(.long (fi.toInt64))]))
      refine own_st (fun _ kQ => XS.iload X764.here hx rfl (hb hby at_125) rfl kQ) ?_
      show own_Go p e below s _ _ _ (T764.setTop (mkF m 127 #[.val (.int p1), .val (.int p2), .val (.int p3), .val (.int p4), .val (.int p5), .val (.int fi), .val (.int (2 : Int32)), .val (.ref b623), .val (.int ix), .val (.ref b750), .val (.long (fi.toInt64)), .second, .unset, .unset, .unset] [(.int (2 : Int32)), (.long (fi.toInt64))]))
      refine own_st (fun _ kQ => XT.i2l X764.here hx rfl (hb hby at_127) rfl kQ) ?_
      show own_Go p e below s _ _ _ (T764.setTop (mkF m 128 #[.val (.int p1), .val (.int p2), .val (.int p3), .val (.int p4), .val (.int p5), .val (.int fi), .val (.int (2 : Int32)), .val (.ref b623), .val (.int ix), .val (.ref b750), .val (.long (fi.toInt64)), .second, .unset, .unset, .unset] [(.long ((2 : Int32).toInt64)), (.long (fi.toInt64))]))
      refine own_st (fun _ kQ => XT.ladd X764.here hx rfl (hb hby at_128) rfl kQ) ?_
      show own_Go p e below s _ _ _ (T764.setTop (mkF m 129 #[.val (.int p1), .val (.int p2), .val (.int p3), .val (.int p4), .val (.int p5), .val (.int fi), .val (.int (2 : Int32)), .val (.ref b623), .val (.int ix), .val (.ref b750), .val (.long (fi.toInt64)), .second, .unset, .unset, .unset] [(.long ((fi.toInt64) + ((2 : Int32).toInt64)))]))
      refine own_st (fun _ kQ => XT.lstore X764.here hx rfl (hb hby at_129) rfl (l' := #[.val (.int p1), .val (.int p2), .val (.int p3), .val (.int p4), .val (.int p5), .val (.int fi), .val (.int (2 : Int32)), .val (.ref b623), .val (.int ix), .val (.ref b750), .val (.long (fi.toInt64)), .second, .val (.long ((fi.toInt64) + ((2 : Int32).toInt64))), .second, .unset]) rfl kQ) ?_
      show own_Go p e below s _ _ _ (T764.setTop (mkF m 131 #[.val (.int p1), .val (.int p2), .val (.int p3), .val (.int p4), .val (.int p5), .val (.int fi), .val (.int (2 : Int32)), .val (.ref b623), .val (.int ix), .val (.ref b750), .val (.long (fi.toInt64)), .second, .val (.long ((fi.toInt64) + ((2 : Int32).toInt64))), .second, .unset] []))
      refine own_st (fun _ kQ => XS.iload X764.here hx rfl (hb hby at_131) rfl kQ) ?_
      show own_Go p e below s _ _ _ (T764.setTop (mkF m 133 #[.val (.int p1), .val (.int p2), .val (.int p3), .val (.int p4), .val (.int p5), .val (.int fi), .val (.int (2 : Int32)), .val (.ref b623), .val (.int ix), .val (.ref b750), .val (.long (fi.toInt64)), .second, .val (.long ((fi.toInt64) + ((2 : Int32).toInt64))), .second, .unset] [(.int ix)]))
      refine own_st (fun _ kQ => XT.i2l X764.here hx rfl (hb hby at_133) rfl kQ) ?_
      show own_Go p e below s _ _ _ (T764.setTop (mkF m 134 #[.val (.int p1), .val (.int p2), .val (.int p3), .val (.int p4), .val (.int p5), .val (.int fi), .val (.int (2 : Int32)), .val (.ref b623), .val (.int ix), .val (.ref b750), .val (.long (fi.toInt64)), .second, .val (.long ((fi.toInt64) + ((2 : Int32).toInt64))), .second, .unset] [(.long (ix.toInt64))]))
      refine own_st (fun _ kQ => XT.lload X764.here hx rfl (hb hby at_134) rfl kQ) ?_
      show own_Go p e below s _ _ _ (T764.setTop (mkF m 136 #[.val (.int p1), .val (.int p2), .val (.int p3), .val (.int p4), .val (.int p5), .val (.int fi), .val (.int (2 : Int32)), .val (.ref b623), .val (.int ix), .val (.ref b750), .val (.long (fi.toInt64)), .second, .val (.long ((fi.toInt64) + ((2 : Int32).toInt64))), .second, .unset] [(.long (fi.toInt64)), (.long (ix.toInt64))]))
      refine own_st (fun _ kQ => XT.lcmp X764.here hx rfl (hb hby at_136) rfl kQ) ?_
      show own_Go p e below s _ _ _ (T764.setTop (mkF m 137 #[.val (.int p1), .val (.int p2), .val (.int p3), .val (.int p4), .val (.int p5), .val (.int fi), .val (.int (2 : Int32)), .val (.ref b623), .val (.int ix), .val (.ref b750), .val (.long (fi.toInt64)), .second, .val (.long ((fi.toInt64) + ((2 : Int32).toInt64))), .second, .unset] [(.int (XT.cmpL (ix.toInt64) (fi.toInt64)))]))
      by_cases hc788 : (ix.toInt64) < (fi.toInt64)
      · refine own_st (fun _ kQ => XS.ifYes X764.here hx rfl (pc0 := 137) (pc' := 153) rfl (hb hby at_137) rfl (XT.ll_lt_t hc788) (by decide) (by decide) kQ) ?_
        show own_Go p e below s _ _ _ (T764.setTop (mkF m 153 #[.val (.int p1), .val (.int p2), .val (.int p3), .val (.int p4), .val (.int p5), .val (.int fi), .val (.int (2 : Int32)), .val (.ref b623), .val (.int ix), .val (.ref b750), .val (.long (fi.toInt64)), .second, .val (.long ((fi.toInt64) + ((2 : Int32).toInt64))), .second, .unset] []))
        refine own_st (fun _ kQ => XT.iconstV X764.here hx rfl (0 : Int32) (hb hby at_153) (by decide) kQ) ?_
        show own_Go p e below s _ _ _ (T764.setTop (mkF m 154 #[.val (.int p1), .val (.int p2), .val (.int p3), .val (.int p4), .val (.int p5), .val (.int fi), .val (.int (2 : Int32)), .val (.ref b623), .val (.int ix), .val (.ref b750), .val (.long (fi.toInt64)), .second, .val (.long ((fi.toInt64) + ((2 : Int32).toInt64))), .second, .unset] [(.int (0 : Int32))]))
        refine own_st (fun _ kQ => XS.istore X764.here hx rfl (hb hby at_154) rfl (l' := #[.val (.int p1), .val (.int p2), .val (.int p3), .val (.int p4), .val (.int p5), .val (.int fi), .val (.int (2 : Int32)), .val (.ref b623), .val (.int ix), .val (.ref b750), .val (.long (fi.toInt64)), .second, .val (.long ((fi.toInt64) + ((2 : Int32).toInt64))), .second, .val (.int (0 : Int32))]) rfl kQ) ?_
        show own_Go p e below s _ _ _ (T764.setTop (mkF m 156 #[.val (.int p1), .val (.int p2), .val (.int p3), .val (.int p4), .val (.int p5), .val (.int fi), .val (.int (2 : Int32)), .val (.ref b623), .val (.int ix), .val (.ref b750), .val (.long (fi.toInt64)), .second, .val (.long ((fi.toInt64) + ((2 : Int32).toInt64))), .second, .val (.int (0 : Int32))] []))
        refine own_st (fun _ kQ => XS.aload X764.here hx rfl (hb hby at_156) rfl rfl kQ) ?_
        show own_Go p e below s _ _ _ (T764.setTop (mkF m 158 #[.val (.int p1), .val (.int p2), .val (.int p3), .val (.int p4), .val (.int p5), .val (.int fi), .val (.int (2 : Int32)), .val (.ref b623), .val (.int ix), .val (.ref b750), .val (.long (fi.toInt64)), .second, .val (.long ((fi.toInt64) + ((2 : Int32).toInt64))), .second, .val (.int (0 : Int32))] [(.ref b750)]))
        refine own_st (fun _ kQ => XS.iload X764.here hx rfl (hb hby at_158) rfl kQ) ?_
        show own_Go p e below s _ _ _ (T764.setTop (mkF m 160 #[.val (.int p1), .val (.int p2), .val (.int p3), .val (.int p4), .val (.int p5), .val (.int fi), .val (.int (2 : Int32)), .val (.ref b623), .val (.int ix), .val (.ref b750), .val (.long (fi.toInt64)), .second, .val (.long ((fi.toInt64) + ((2 : Int32).toInt64))), .second, .val (.int (0 : Int32))] [(.int ix), (.ref b750)]))
        have F790 : Exa Z T764.heap b623 "java/util/ArrayList" := (F765.keep K764)
        have F791 : Fld Z T764.heap b623 "java/util/ArrayList" "size" "I" (.int (2 : Int32)) := ((q689.ext E750).keep K764 (ninS ne756 nin0))
        obtain ⟨cq789, kq789, q789a, q789b, q789c⟩ := isOf hZ rfl q767
        obtain ⟨_, _, ⟨T789, L789, k789, n789⟩, -, X789, ⟨Lc789, hQ789, l789, y789, z789⟩, st789⟩ := X764.virtualBack hx (y := (⟨"com/example/rationed_session/rationedsession/model/Partition", "holds", "(I)Z"⟩ : MethodName)) (z := (⟨"com/example/rationed_session/rationedsession/model/Partition", "holds", "(I)Z"⟩ : MethodName)) hown (mvT hZ (hw _ (List.mem_of_getElem? (i := 121) rfl))) (mvT hZ (hw _ (List.mem_of_getElem? (i := 122) rfl))) (notFace_of_selects (args := #[]) (mvT hZ (hw _ (List.mem_of_getElem? (i := 124) rfl)))) (mvT hZ (hw _ (List.mem_of_getElem? (i := 124) rfl))) (mvT hZ (hw _ (List.mem_of_getElem? (i := 123) rfl))) (by decide) (backOf (W := 0) (own_rm_holdsU l Z a0 hw [] x766 b750 b623 ix fi (2 : Int32) T764.heap n0 Zs781 q770 q772 q773 F790 q769 F791) hZ (hw _ (List.mem_of_getElem? (i := 125) rfl)) (hw _ (List.mem_of_getElem? (i := 67) rfl)) (by decide) (by decide)) q789a q789c (g := (mkF m 160 #[.val (.int p1), .val (.int p2), .val (.int p3), .val (.int p4), .val (.int p5), .val (.int fi), .val (.int (2 : Int32)), .val (.ref b623), .val (.int ix), .val (.ref b750), .val (.long (fi.toInt64)), .second, .val (.long ((fi.toInt64) + ((2 : Int32).toInt64))), .second, .val (.int (0 : Int32))] [(.int ix), (.ref b750)])) rfl (by rw [hml]; rfl) (Steps.refl _) (argsL := [(.int ix)]) (rest := []) (lenOf own_pd13 rfl) rfl (by show 2 * 0 + _ ≤ _; exact Nat.le_of_eq rfl) (hb hby at_160) (fun _ _ => ⟨rfl, rfl, (by decide : 6 + 0 ≤ _), (by decide : 20 + 0 ≤ _)⟩)
        dsimp only [Pt.U, Pt.locs, Pt.cells, Pt.slots] at X789 l789 y789 z789 st789 hQ789
        subst l789 y789 z789
        obtain ⟨N789q, rfl, eh789⟩ := hQ789
        have N792 := Fr.app N775 N789q
        refine own_tr st789 ?_
        show own_Go p e below s _ _ _ (T789.setTop (mkF m 163 #[.val (.int p1), .val (.int p2), .val (.int p3), .val (.int p4), .val (.int p5), .val (.int fi), .val (.int (2 : Int32)), .val (.ref b623), .val (.int ix), .val (.ref b750), .val (.long (fi.toInt64)), .second, .val (.long ((fi.toInt64) + ((2 : Int32).toInt64))), .second, .val (.int (0 : Int32))] [(.int (if ix < fi then (0 : Int32) else if ix - fi < (2 : Int32) then 1 else 0))]))
        refine own_st (fun _ kQ => XS.iload X789.here hx rfl (hb hby at_163) rfl kQ) ?_
        show own_Go p e below s _ _ _ (T789.setTop (mkF m 165 #[.val (.int p1), .val (.int p2), .val (.int p3), .val (.int p4), .val (.int p5), .val (.int fi), .val (.int (2 : Int32)), .val (.ref b623), .val (.int ix), .val (.ref b750), .val (.long (fi.toInt64)), .second, .val (.long ((fi.toInt64) + ((2 : Int32).toInt64))), .second, .val (.int (0 : Int32))] [(.int (0 : Int32)), (.int (if ix < fi then (0 : Int32) else if ix - fi < (2 : Int32) then 1 else 0))]))
        refine own_st (fun _ kQ => XS.icmpNo X789.here hx rfl (hb hby at_165) rfl (XT.ii_ne_f (by rw [if_pos ((own_lt64 _ _).mp hc788)])) kQ) ?_
        show own_Go p e below s _ _ _ (T789.setTop (mkF m 168 #[.val (.int p1), .val (.int p2), .val (.int p3), .val (.int p4), .val (.int p5), .val (.int fi), .val (.int (2 : Int32)), .val (.ref b623), .val (.int ix), .val (.ref b750), .val (.long (fi.toInt64)), .second, .val (.long ((fi.toInt64) + ((2 : Int32).toInt64))), .second, .val (.int (0 : Int32))] []))
        refine own_st (fun _ kQ => XT.iconstV X789.here hx rfl (1 : Int32) (hb hby at_168) (by decide) kQ) ?_
        show own_Go p e below s _ _ _ (T789.setTop (mkF m 169 #[.val (.int p1), .val (.int p2), .val (.int p3), .val (.int p4), .val (.int p5), .val (.int fi), .val (.int (2 : Int32)), .val (.ref b623), .val (.int ix), .val (.ref b750), .val (.long (fi.toInt64)), .second, .val (.long ((fi.toInt64) + ((2 : Int32).toInt64))), .second, .val (.int (0 : Int32))] [(.int (1 : Int32))]))
        refine own_st (fun _ kQ => XS.goto X789.here hx rfl (pc0 := 169) (pc' := 173) rfl (hb hby at_169) (by decide) (by decide) kQ) ?_
        show own_Go p e below s _ _ _ (T789.setTop (mkF m 173 #[.val (.int p1), .val (.int p2), .val (.int p3), .val (.int p4), .val (.int p5), .val (.int fi), .val (.int (2 : Int32)), .val (.ref b623), .val (.int ix), .val (.ref b750), .val (.long (fi.toInt64)), .second, .val (.long ((fi.toInt64) + ((2 : Int32).toInt64))), .second, .val (.int (0 : Int32))] [(.int (1 : Int32))]))
        refine own_retN X789 hx hlk Bd.returns (t := .boolean) (z' := (1 : Int32)) (by simp) (by decide) (hb hby at_173) (by decide) (by decide) ?_
        rw [eh789]
        exact ⟨N792, rfl⟩
      · refine own_st (fun _ kQ => XS.ifNo X764.here hx rfl (hb hby at_137) rfl (XT.ll_lt_f hc788) kQ) ?_
        show own_Go p e below s _ _ _ (T764.setTop (mkF m 140 #[.val (.int p1), .val (.int p2), .val (.int p3), .val (.int p4), .val (.int p5), .val (.int fi), .val (.int (2 : Int32)), .val (.ref b623), .val (.int ix), .val (.ref b750), .val (.long (fi.toInt64)), .second, .val (.long ((fi.toInt64) + ((2 : Int32).toInt64))), .second, .unset] []))
        refine own_st (fun _ kQ => XS.iload X764.here hx rfl (hb hby at_140) rfl kQ) ?_
        show own_Go p e below s _ _ _ (T764.setTop (mkF m 142 #[.val (.int p1), .val (.int p2), .val (.int p3), .val (.int p4), .val (.int p5), .val (.int fi), .val (.int (2 : Int32)), .val (.ref b623), .val (.int ix), .val (.ref b750), .val (.long (fi.toInt64)), .second, .val (.long ((fi.toInt64) + ((2 : Int32).toInt64))), .second, .unset] [(.int ix)]))
        refine own_st (fun _ kQ => XT.i2l X764.here hx rfl (hb hby at_142) rfl kQ) ?_
        show own_Go p e below s _ _ _ (T764.setTop (mkF m 143 #[.val (.int p1), .val (.int p2), .val (.int p3), .val (.int p4), .val (.int p5), .val (.int fi), .val (.int (2 : Int32)), .val (.ref b623), .val (.int ix), .val (.ref b750), .val (.long (fi.toInt64)), .second, .val (.long ((fi.toInt64) + ((2 : Int32).toInt64))), .second, .unset] [(.long (ix.toInt64))]))
        refine own_st (fun _ kQ => XT.lload X764.here hx rfl (hb hby at_143) rfl kQ) ?_
        show own_Go p e below s _ _ _ (T764.setTop (mkF m 145 #[.val (.int p1), .val (.int p2), .val (.int p3), .val (.int p4), .val (.int p5), .val (.int fi), .val (.int (2 : Int32)), .val (.ref b623), .val (.int ix), .val (.ref b750), .val (.long (fi.toInt64)), .second, .val (.long ((fi.toInt64) + ((2 : Int32).toInt64))), .second, .unset] [(.long ((fi.toInt64) + ((2 : Int32).toInt64))), (.long (ix.toInt64))]))
        refine own_st (fun _ kQ => XT.lcmp X764.here hx rfl (hb hby at_145) rfl kQ) ?_
        show own_Go p e below s _ _ _ (T764.setTop (mkF m 146 #[.val (.int p1), .val (.int p2), .val (.int p3), .val (.int p4), .val (.int p5), .val (.int fi), .val (.int (2 : Int32)), .val (.ref b623), .val (.int ix), .val (.ref b750), .val (.long (fi.toInt64)), .second, .val (.long ((fi.toInt64) + ((2 : Int32).toInt64))), .second, .unset] [(.int (XT.cmpL (ix.toInt64) ((fi.toInt64) + ((2 : Int32).toInt64))))]))
        by_cases hc793 : (ix.toInt64) < ((fi.toInt64) + ((2 : Int32).toInt64))
        · refine own_st (fun _ kQ => XS.ifNo X764.here hx rfl (hb hby at_146) rfl (XT.ll_ge_f hc793) kQ) ?_
          show own_Go p e below s _ _ _ (T764.setTop (mkF m 149 #[.val (.int p1), .val (.int p2), .val (.int p3), .val (.int p4), .val (.int p5), .val (.int fi), .val (.int (2 : Int32)), .val (.ref b623), .val (.int ix), .val (.ref b750), .val (.long (fi.toInt64)), .second, .val (.long ((fi.toInt64) + ((2 : Int32).toInt64))), .second, .unset] []))
          refine own_st (fun _ kQ => XT.iconstV X764.here hx rfl (1 : Int32) (hb hby at_149) (by decide) kQ) ?_
          show own_Go p e below s _ _ _ (T764.setTop (mkF m 150 #[.val (.int p1), .val (.int p2), .val (.int p3), .val (.int p4), .val (.int p5), .val (.int fi), .val (.int (2 : Int32)), .val (.ref b623), .val (.int ix), .val (.ref b750), .val (.long (fi.toInt64)), .second, .val (.long ((fi.toInt64) + ((2 : Int32).toInt64))), .second, .unset] [(.int (1 : Int32))]))
          refine own_st (fun _ kQ => XS.goto X764.here hx rfl (pc0 := 150) (pc' := 154) rfl (hb hby at_150) (by decide) (by decide) kQ) ?_
          show own_Go p e below s _ _ _ (T764.setTop (mkF m 154 #[.val (.int p1), .val (.int p2), .val (.int p3), .val (.int p4), .val (.int p5), .val (.int fi), .val (.int (2 : Int32)), .val (.ref b623), .val (.int ix), .val (.ref b750), .val (.long (fi.toInt64)), .second, .val (.long ((fi.toInt64) + ((2 : Int32).toInt64))), .second, .unset] [(.int (1 : Int32))]))
          refine own_st (fun _ kQ => XS.istore X764.here hx rfl (hb hby at_154) rfl (l' := #[.val (.int p1), .val (.int p2), .val (.int p3), .val (.int p4), .val (.int p5), .val (.int fi), .val (.int (2 : Int32)), .val (.ref b623), .val (.int ix), .val (.ref b750), .val (.long (fi.toInt64)), .second, .val (.long ((fi.toInt64) + ((2 : Int32).toInt64))), .second, .val (.int (1 : Int32))]) rfl kQ) ?_
          show own_Go p e below s _ _ _ (T764.setTop (mkF m 156 #[.val (.int p1), .val (.int p2), .val (.int p3), .val (.int p4), .val (.int p5), .val (.int fi), .val (.int (2 : Int32)), .val (.ref b623), .val (.int ix), .val (.ref b750), .val (.long (fi.toInt64)), .second, .val (.long ((fi.toInt64) + ((2 : Int32).toInt64))), .second, .val (.int (1 : Int32))] []))
          refine own_st (fun _ kQ => XS.aload X764.here hx rfl (hb hby at_156) rfl rfl kQ) ?_
          show own_Go p e below s _ _ _ (T764.setTop (mkF m 158 #[.val (.int p1), .val (.int p2), .val (.int p3), .val (.int p4), .val (.int p5), .val (.int fi), .val (.int (2 : Int32)), .val (.ref b623), .val (.int ix), .val (.ref b750), .val (.long (fi.toInt64)), .second, .val (.long ((fi.toInt64) + ((2 : Int32).toInt64))), .second, .val (.int (1 : Int32))] [(.ref b750)]))
          refine own_st (fun _ kQ => XS.iload X764.here hx rfl (hb hby at_158) rfl kQ) ?_
          show own_Go p e below s _ _ _ (T764.setTop (mkF m 160 #[.val (.int p1), .val (.int p2), .val (.int p3), .val (.int p4), .val (.int p5), .val (.int fi), .val (.int (2 : Int32)), .val (.ref b623), .val (.int ix), .val (.ref b750), .val (.long (fi.toInt64)), .second, .val (.long ((fi.toInt64) + ((2 : Int32).toInt64))), .second, .val (.int (1 : Int32))] [(.int ix), (.ref b750)]))
          have F795 : Exa Z T764.heap b623 "java/util/ArrayList" := (F765.keep K764)
          have F796 : Fld Z T764.heap b623 "java/util/ArrayList" "size" "I" (.int (2 : Int32)) := ((q689.ext E750).keep K764 (ninS ne756 nin0))
          obtain ⟨cq794, kq794, q794a, q794b, q794c⟩ := isOf hZ rfl q767
          obtain ⟨_, _, ⟨T794, L794, k794, n794⟩, -, X794, ⟨Lc794, hQ794, l794, y794, z794⟩, st794⟩ := X764.virtualBack hx (y := (⟨"com/example/rationed_session/rationedsession/model/Partition", "holds", "(I)Z"⟩ : MethodName)) (z := (⟨"com/example/rationed_session/rationedsession/model/Partition", "holds", "(I)Z"⟩ : MethodName)) hown (mvT hZ (hw _ (List.mem_of_getElem? (i := 121) rfl))) (mvT hZ (hw _ (List.mem_of_getElem? (i := 122) rfl))) (notFace_of_selects (args := #[]) (mvT hZ (hw _ (List.mem_of_getElem? (i := 124) rfl)))) (mvT hZ (hw _ (List.mem_of_getElem? (i := 124) rfl))) (mvT hZ (hw _ (List.mem_of_getElem? (i := 123) rfl))) (by decide) (backOf (W := 0) (own_rm_holdsU l Z a0 hw [] x766 b750 b623 ix fi (2 : Int32) T764.heap n0 Zs781 q770 q772 q773 F795 q769 F796) hZ (hw _ (List.mem_of_getElem? (i := 125) rfl)) (hw _ (List.mem_of_getElem? (i := 67) rfl)) (by decide) (by decide)) q794a q794c (g := (mkF m 160 #[.val (.int p1), .val (.int p2), .val (.int p3), .val (.int p4), .val (.int p5), .val (.int fi), .val (.int (2 : Int32)), .val (.ref b623), .val (.int ix), .val (.ref b750), .val (.long (fi.toInt64)), .second, .val (.long ((fi.toInt64) + ((2 : Int32).toInt64))), .second, .val (.int (1 : Int32))] [(.int ix), (.ref b750)])) rfl (by rw [hml]; rfl) (Steps.refl _) (argsL := [(.int ix)]) (rest := []) (lenOf own_pd13 rfl) rfl (by show 2 * 0 + _ ≤ _; exact Nat.le_of_eq rfl) (hb hby at_160) (fun _ _ => ⟨rfl, rfl, (by decide : 6 + 0 ≤ _), (by decide : 20 + 0 ≤ _)⟩)
          dsimp only [Pt.U, Pt.locs, Pt.cells, Pt.slots] at X794 l794 y794 z794 st794 hQ794
          subst l794 y794 z794
          obtain ⟨N794q, rfl, eh794⟩ := hQ794
          have N797 := Fr.app N775 N794q
          refine own_tr st794 ?_
          show own_Go p e below s _ _ _ (T794.setTop (mkF m 163 #[.val (.int p1), .val (.int p2), .val (.int p3), .val (.int p4), .val (.int p5), .val (.int fi), .val (.int (2 : Int32)), .val (.ref b623), .val (.int ix), .val (.ref b750), .val (.long (fi.toInt64)), .second, .val (.long ((fi.toInt64) + ((2 : Int32).toInt64))), .second, .val (.int (1 : Int32))] [(.int (if ix < fi then (0 : Int32) else if ix - fi < (2 : Int32) then 1 else 0))]))
          refine own_st (fun _ kQ => XS.iload X794.here hx rfl (hb hby at_163) rfl kQ) ?_
          show own_Go p e below s _ _ _ (T794.setTop (mkF m 165 #[.val (.int p1), .val (.int p2), .val (.int p3), .val (.int p4), .val (.int p5), .val (.int fi), .val (.int (2 : Int32)), .val (.ref b623), .val (.int ix), .val (.ref b750), .val (.long (fi.toInt64)), .second, .val (.long ((fi.toInt64) + ((2 : Int32).toInt64))), .second, .val (.int (1 : Int32))] [(.int (1 : Int32)), (.int (if ix < fi then (0 : Int32) else if ix - fi < (2 : Int32) then 1 else 0))]))
          refine own_st (fun _ kQ => XS.icmpNo X794.here hx rfl (hb hby at_165) rfl (XT.ii_ne_f (by rw [if_neg (fun q => hc788 ((own_lt64 _ _).mpr q)), if_pos ((own_hl _ _ (2 : Int32) hfi (by decide) (by decide) (fun q => hc788 ((own_lt64 _ _).mpr q))).mp hc793)])) kQ) ?_
          show own_Go p e below s _ _ _ (T794.setTop (mkF m 168 #[.val (.int p1), .val (.int p2), .val (.int p3), .val (.int p4), .val (.int p5), .val (.int fi), .val (.int (2 : Int32)), .val (.ref b623), .val (.int ix), .val (.ref b750), .val (.long (fi.toInt64)), .second, .val (.long ((fi.toInt64) + ((2 : Int32).toInt64))), .second, .val (.int (1 : Int32))] []))
          refine own_st (fun _ kQ => XT.iconstV X794.here hx rfl (1 : Int32) (hb hby at_168) (by decide) kQ) ?_
          show own_Go p e below s _ _ _ (T794.setTop (mkF m 169 #[.val (.int p1), .val (.int p2), .val (.int p3), .val (.int p4), .val (.int p5), .val (.int fi), .val (.int (2 : Int32)), .val (.ref b623), .val (.int ix), .val (.ref b750), .val (.long (fi.toInt64)), .second, .val (.long ((fi.toInt64) + ((2 : Int32).toInt64))), .second, .val (.int (1 : Int32))] [(.int (1 : Int32))]))
          refine own_st (fun _ kQ => XS.goto X794.here hx rfl (pc0 := 169) (pc' := 173) rfl (hb hby at_169) (by decide) (by decide) kQ) ?_
          show own_Go p e below s _ _ _ (T794.setTop (mkF m 173 #[.val (.int p1), .val (.int p2), .val (.int p3), .val (.int p4), .val (.int p5), .val (.int fi), .val (.int (2 : Int32)), .val (.ref b623), .val (.int ix), .val (.ref b750), .val (.long (fi.toInt64)), .second, .val (.long ((fi.toInt64) + ((2 : Int32).toInt64))), .second, .val (.int (1 : Int32))] [(.int (1 : Int32))]))
          refine own_retN X794 hx hlk Bd.returns (t := .boolean) (z' := (1 : Int32)) (by simp) (by decide) (hb hby at_173) (by decide) (by decide) ?_
          rw [eh794]
          exact ⟨N797, rfl⟩
        · refine own_st (fun _ kQ => XS.ifYes X764.here hx rfl (pc0 := 146) (pc' := 153) rfl (hb hby at_146) rfl (XT.ll_ge_t hc793) (by decide) (by decide) kQ) ?_
          show own_Go p e below s _ _ _ (T764.setTop (mkF m 153 #[.val (.int p1), .val (.int p2), .val (.int p3), .val (.int p4), .val (.int p5), .val (.int fi), .val (.int (2 : Int32)), .val (.ref b623), .val (.int ix), .val (.ref b750), .val (.long (fi.toInt64)), .second, .val (.long ((fi.toInt64) + ((2 : Int32).toInt64))), .second, .unset] []))
          refine own_st (fun _ kQ => XT.iconstV X764.here hx rfl (0 : Int32) (hb hby at_153) (by decide) kQ) ?_
          show own_Go p e below s _ _ _ (T764.setTop (mkF m 154 #[.val (.int p1), .val (.int p2), .val (.int p3), .val (.int p4), .val (.int p5), .val (.int fi), .val (.int (2 : Int32)), .val (.ref b623), .val (.int ix), .val (.ref b750), .val (.long (fi.toInt64)), .second, .val (.long ((fi.toInt64) + ((2 : Int32).toInt64))), .second, .unset] [(.int (0 : Int32))]))
          refine own_st (fun _ kQ => XS.istore X764.here hx rfl (hb hby at_154) rfl (l' := #[.val (.int p1), .val (.int p2), .val (.int p3), .val (.int p4), .val (.int p5), .val (.int fi), .val (.int (2 : Int32)), .val (.ref b623), .val (.int ix), .val (.ref b750), .val (.long (fi.toInt64)), .second, .val (.long ((fi.toInt64) + ((2 : Int32).toInt64))), .second, .val (.int (0 : Int32))]) rfl kQ) ?_
          show own_Go p e below s _ _ _ (T764.setTop (mkF m 156 #[.val (.int p1), .val (.int p2), .val (.int p3), .val (.int p4), .val (.int p5), .val (.int fi), .val (.int (2 : Int32)), .val (.ref b623), .val (.int ix), .val (.ref b750), .val (.long (fi.toInt64)), .second, .val (.long ((fi.toInt64) + ((2 : Int32).toInt64))), .second, .val (.int (0 : Int32))] []))
          refine own_st (fun _ kQ => XS.aload X764.here hx rfl (hb hby at_156) rfl rfl kQ) ?_
          show own_Go p e below s _ _ _ (T764.setTop (mkF m 158 #[.val (.int p1), .val (.int p2), .val (.int p3), .val (.int p4), .val (.int p5), .val (.int fi), .val (.int (2 : Int32)), .val (.ref b623), .val (.int ix), .val (.ref b750), .val (.long (fi.toInt64)), .second, .val (.long ((fi.toInt64) + ((2 : Int32).toInt64))), .second, .val (.int (0 : Int32))] [(.ref b750)]))
          refine own_st (fun _ kQ => XS.iload X764.here hx rfl (hb hby at_158) rfl kQ) ?_
          show own_Go p e below s _ _ _ (T764.setTop (mkF m 160 #[.val (.int p1), .val (.int p2), .val (.int p3), .val (.int p4), .val (.int p5), .val (.int fi), .val (.int (2 : Int32)), .val (.ref b623), .val (.int ix), .val (.ref b750), .val (.long (fi.toInt64)), .second, .val (.long ((fi.toInt64) + ((2 : Int32).toInt64))), .second, .val (.int (0 : Int32))] [(.int ix), (.ref b750)]))
          have F799 : Exa Z T764.heap b623 "java/util/ArrayList" := (F765.keep K764)
          have F800 : Fld Z T764.heap b623 "java/util/ArrayList" "size" "I" (.int (2 : Int32)) := ((q689.ext E750).keep K764 (ninS ne756 nin0))
          obtain ⟨cq798, kq798, q798a, q798b, q798c⟩ := isOf hZ rfl q767
          obtain ⟨_, _, ⟨T798, L798, k798, n798⟩, -, X798, ⟨Lc798, hQ798, l798, y798, z798⟩, st798⟩ := X764.virtualBack hx (y := (⟨"com/example/rationed_session/rationedsession/model/Partition", "holds", "(I)Z"⟩ : MethodName)) (z := (⟨"com/example/rationed_session/rationedsession/model/Partition", "holds", "(I)Z"⟩ : MethodName)) hown (mvT hZ (hw _ (List.mem_of_getElem? (i := 121) rfl))) (mvT hZ (hw _ (List.mem_of_getElem? (i := 122) rfl))) (notFace_of_selects (args := #[]) (mvT hZ (hw _ (List.mem_of_getElem? (i := 124) rfl)))) (mvT hZ (hw _ (List.mem_of_getElem? (i := 124) rfl))) (mvT hZ (hw _ (List.mem_of_getElem? (i := 123) rfl))) (by decide) (backOf (W := 0) (own_rm_holdsU l Z a0 hw [] x766 b750 b623 ix fi (2 : Int32) T764.heap n0 Zs781 q770 q772 q773 F799 q769 F800) hZ (hw _ (List.mem_of_getElem? (i := 125) rfl)) (hw _ (List.mem_of_getElem? (i := 67) rfl)) (by decide) (by decide)) q798a q798c (g := (mkF m 160 #[.val (.int p1), .val (.int p2), .val (.int p3), .val (.int p4), .val (.int p5), .val (.int fi), .val (.int (2 : Int32)), .val (.ref b623), .val (.int ix), .val (.ref b750), .val (.long (fi.toInt64)), .second, .val (.long ((fi.toInt64) + ((2 : Int32).toInt64))), .second, .val (.int (0 : Int32))] [(.int ix), (.ref b750)])) rfl (by rw [hml]; rfl) (Steps.refl _) (argsL := [(.int ix)]) (rest := []) (lenOf own_pd13 rfl) rfl (by show 2 * 0 + _ ≤ _; exact Nat.le_of_eq rfl) (hb hby at_160) (fun _ _ => ⟨rfl, rfl, (by decide : 6 + 0 ≤ _), (by decide : 20 + 0 ≤ _)⟩)
          dsimp only [Pt.U, Pt.locs, Pt.cells, Pt.slots] at X798 l798 y798 z798 st798 hQ798
          subst l798 y798 z798
          obtain ⟨N798q, rfl, eh798⟩ := hQ798
          have N801 := Fr.app N775 N798q
          refine own_tr st798 ?_
          show own_Go p e below s _ _ _ (T798.setTop (mkF m 163 #[.val (.int p1), .val (.int p2), .val (.int p3), .val (.int p4), .val (.int p5), .val (.int fi), .val (.int (2 : Int32)), .val (.ref b623), .val (.int ix), .val (.ref b750), .val (.long (fi.toInt64)), .second, .val (.long ((fi.toInt64) + ((2 : Int32).toInt64))), .second, .val (.int (0 : Int32))] [(.int (if ix < fi then (0 : Int32) else if ix - fi < (2 : Int32) then 1 else 0))]))
          refine own_st (fun _ kQ => XS.iload X798.here hx rfl (hb hby at_163) rfl kQ) ?_
          show own_Go p e below s _ _ _ (T798.setTop (mkF m 165 #[.val (.int p1), .val (.int p2), .val (.int p3), .val (.int p4), .val (.int p5), .val (.int fi), .val (.int (2 : Int32)), .val (.ref b623), .val (.int ix), .val (.ref b750), .val (.long (fi.toInt64)), .second, .val (.long ((fi.toInt64) + ((2 : Int32).toInt64))), .second, .val (.int (0 : Int32))] [(.int (0 : Int32)), (.int (if ix < fi then (0 : Int32) else if ix - fi < (2 : Int32) then 1 else 0))]))
          refine own_st (fun _ kQ => XS.icmpNo X798.here hx rfl (hb hby at_165) rfl (XT.ii_ne_f (by rw [if_neg (fun q => hc788 ((own_lt64 _ _).mpr q)), if_neg (fun q => hc793 ((own_hl _ _ (2 : Int32) hfi (by decide) (by decide) (fun q => hc788 ((own_lt64 _ _).mpr q))).mpr q))])) kQ) ?_
          show own_Go p e below s _ _ _ (T798.setTop (mkF m 168 #[.val (.int p1), .val (.int p2), .val (.int p3), .val (.int p4), .val (.int p5), .val (.int fi), .val (.int (2 : Int32)), .val (.ref b623), .val (.int ix), .val (.ref b750), .val (.long (fi.toInt64)), .second, .val (.long ((fi.toInt64) + ((2 : Int32).toInt64))), .second, .val (.int (0 : Int32))] []))
          refine own_st (fun _ kQ => XT.iconstV X798.here hx rfl (1 : Int32) (hb hby at_168) (by decide) kQ) ?_
          show own_Go p e below s _ _ _ (T798.setTop (mkF m 169 #[.val (.int p1), .val (.int p2), .val (.int p3), .val (.int p4), .val (.int p5), .val (.int fi), .val (.int (2 : Int32)), .val (.ref b623), .val (.int ix), .val (.ref b750), .val (.long (fi.toInt64)), .second, .val (.long ((fi.toInt64) + ((2 : Int32).toInt64))), .second, .val (.int (0 : Int32))] [(.int (1 : Int32))]))
          refine own_st (fun _ kQ => XS.goto X798.here hx rfl (pc0 := 169) (pc' := 173) rfl (hb hby at_169) (by decide) (by decide) kQ) ?_
          show own_Go p e below s _ _ _ (T798.setTop (mkF m 173 #[.val (.int p1), .val (.int p2), .val (.int p3), .val (.int p4), .val (.int p5), .val (.int fi), .val (.int (2 : Int32)), .val (.ref b623), .val (.int ix), .val (.ref b750), .val (.long (fi.toInt64)), .second, .val (.long ((fi.toInt64) + ((2 : Int32).toInt64))), .second, .val (.int (0 : Int32))] [(.int (1 : Int32))]))
          refine own_retN X798 hx hlk Bd.returns (t := .boolean) (z' := (1 : Int32)) (by simp) (by decide) (hb hby at_173) (by decide) (by decide) ?_
          rw [eh798]
          exact ⟨N801, rfl⟩
  · rw [hi]
    show own_Go p e below s _ _ _ (s₁.setTop (mkF m 10 #[.val (.int p1), .val (.int p2), .val (.int p3), .val (.int p4), .val (.int p5), .val (.int fi), .unset, .unset, .unset, .unset, .unset, .unset, .unset, .unset, .unset] [(.int (2 : Int32)), (.int (1 : Int32))]))
    refine own_st (fun _ kQ => XS.iadd X0.here hx rfl (hb hby at_10) rfl kQ) ?_
    show own_Go p e below s _ _ _ (s₁.setTop (mkF m 11 #[.val (.int p1), .val (.int p2), .val (.int p3), .val (.int p4), .val (.int p5), .val (.int fi), .unset, .unset, .unset, .unset, .unset, .unset, .unset, .unset, .unset] [(.int (3 : Int32))]))
    refine own_st (fun _ kQ => XS.istore X0.here hx rfl (hb hby at_11) rfl (l' := #[.val (.int p1), .val (.int p2), .val (.int p3), .val (.int p4), .val (.int p5), .val (.int fi), .val (.int (3 : Int32)), .unset, .unset, .unset, .unset, .unset, .unset, .unset, .unset]) rfl kQ) ?_
    show own_Go p e below s _ _ _ (s₁.setTop (mkF m 13 #[.val (.int p1), .val (.int p2), .val (.int p3), .val (.int p4), .val (.int p5), .val (.int fi), .val (.int (3 : Int32)), .unset, .unset, .unset, .unset, .unset, .unset, .unset, .unset] []))
    obtain ⟨T802, h802, X802, e802, E802, A802, D802, -, st802⟩ := newO X0 hx hZ hown (hw _ (List.mem_of_getElem? (i := 1) rfl)) (hw _ (List.mem_of_getElem? (i := 2) rfl)) (hw _ (List.mem_of_getElem? (i := 3) rfl)) e0 (g := (mkF m 13 #[.val (.int p1), .val (.int p2), .val (.int p3), .val (.int p4), .val (.int p5), .val (.int fi), .val (.int (3 : Int32)), .unset, .unset, .unset, .unset, .unset, .unset, .unset, .unset] [])) rfl (hb hby at_13) (by decide) (by decide)
    obtain ⟨b802, g802⟩ : ∃ z, z = h0.size := ⟨_, rfl⟩
    rw [← g802] at A802 D802 st802
    refine own_st st802 ?_
    have Zs803 : n0 ≤ h802.size := Nat.le_trans Z0 E802.1
    have g804 : n0 ≤ b802 := Nat.le_trans Z0 (Nat.le_of_eq g802.symm)
    have F805 : Fld Z h802 b802 "java/util/AbstractList" "modCount" "I" (.int (0 : Int32)) := D802 (Or.inl (hw _ (List.mem_of_getElem? (i := 23) rfl))) (ty := .int) (by decide)
    have F806 : Fld Z h802 b802 "java/util/ArrayList" "elementData" "[Ljava/lang/Object;" .null := D802 (Or.inl (hw _ (List.mem_of_getElem? (i := 26) rfl))) (ty := (.array (.object "java/lang/Object"))) (by decide)
    have F807 : Fld Z h802 b802 "java/util/ArrayList" "size" "I" (.int (0 : Int32)) := D802 (Or.inl (hw _ (List.mem_of_getElem? (i := 42) rfl))) (ty := .int) (by decide)
    show own_Go p e below s _ _ _ (T802.setTop (mkF m 16 #[.val (.int p1), .val (.int p2), .val (.int p3), .val (.int p4), .val (.int p5), .val (.int fi), .val (.int (3 : Int32)), .unset, .unset, .unset, .unset, .unset, .unset, .unset, .unset] [(.ref b802)]))
    refine own_st (fun _ kQ => XS.dup X802.here hx rfl (hb hby at_16) rfl rfl kQ) ?_
    show own_Go p e below s _ _ _ (T802.setTop (mkF m 17 #[.val (.int p1), .val (.int p2), .val (.int p3), .val (.int p4), .val (.int p5), .val (.int fi), .val (.int (3 : Int32)), .unset, .unset, .unset, .unset, .unset, .unset, .unset, .unset] [(.ref b802), (.ref b802)]))
    have O809 : Old Z n0 h802 := (O0.ext E802)
    obtain ⟨_, _, ⟨T808, L808, k808, n808⟩, -, X808, ⟨Lc808, hQ808, l808, y808, z808⟩, st808⟩ := X802.specialBack hx (y := (⟨"java/util/ArrayList", "<init>", "()V"⟩ : MethodName)) rfl hown (mvT hZ (hw _ (List.mem_of_getElem? (i := 4) rfl))) (mvT hZ (hw _ (List.mem_of_getElem? (i := 5) rfl))) (mvT hZ (hw _ (List.mem_of_getElem? (i := 6) rfl))) (by decide) (backOf (W := 1) (own_rm_alinit l Z a0 hw [] b802 dflt kd h802 n0 Zs803 O809 S_es V_es A802 F805 F806 F807 g804) hZ (hw _ (List.mem_of_getElem? (i := 6) rfl)) (hw _ (List.mem_of_getElem? (i := 3) rfl)) (by decide) (by decide)) (g := (mkF m 17 #[.val (.int p1), .val (.int p2), .val (.int p3), .val (.int p4), .val (.int p5), .val (.int fi), .val (.int (3 : Int32)), .unset, .unset, .unset, .unset, .unset, .unset, .unset, .unset] [(.ref b802), (.ref b802)])) rfl (by rw [hml]; rfl) (Steps.refl _) (a := b802) (argsL := []) (rest := [(.ref b802)]) (lenOf own_pd0 rfl) rfl (by show 2 * 0 + _ ≤ _; exact Nat.le_of_eq rfl) (hb hby at_17) (fun _ _ => ⟨rfl, e802, (by decide : 1 + 0 ≤ _), (by decide : 3 + 0 ≤ _)⟩)
    dsimp only [Pt.U, Pt.locs, Pt.cells, Pt.slots] at X808 l808 y808 z808 st808 hQ808
    subst l808 y808 z808
    obtain ⟨N808q, rfl, K808, q810, q811, q812, q813⟩ := hQ808
    have N814 := Fr.app N0 N808q
    refine own_tr st808 ?_
    have lt815 : b802 < T808.heap.size := Nat.lt_of_lt_of_le A802.lt K808.1
    have Zs816 : n0 ≤ T808.heap.size := Nat.le_trans Zs803 K808.1
    show own_Go p e below s _ _ _ (T808.setTop (mkF m 20 #[.val (.int p1), .val (.int p2), .val (.int p3), .val (.int p4), .val (.int p5), .val (.int fi), .val (.int (3 : Int32)), .unset, .unset, .unset, .unset, .unset, .unset, .unset, .unset] [(.ref b802)]))
    refine own_st (fun _ kQ => XS.astore X808.here hx rfl (hb hby at_20) rfl rfl (l' := #[.val (.int p1), .val (.int p2), .val (.int p3), .val (.int p4), .val (.int p5), .val (.int fi), .val (.int (3 : Int32)), .val (.ref b802), .unset, .unset, .unset, .unset, .unset, .unset, .unset]) rfl kQ) ?_
    show own_Go p e below s _ _ _ (T808.setTop (mkF m 22 #[.val (.int p1), .val (.int p2), .val (.int p3), .val (.int p4), .val (.int p5), .val (.int fi), .val (.int (3 : Int32)), .val (.ref b802), .unset, .unset, .unset, .unset, .unset, .unset, .unset] []))
    refine own_st (fun _ kQ => XS.aload X808.here hx rfl (hb hby at_22) rfl rfl kQ) ?_
    show own_Go p e below s _ _ _ (T808.setTop (mkF m 24 #[.val (.int p1), .val (.int p2), .val (.int p3), .val (.int p4), .val (.int p5), .val (.int fi), .val (.int (3 : Int32)), .val (.ref b802), .unset, .unset, .unset, .unset, .unset, .unset, .unset] [(.ref b802)]))
    refine own_st (fun _ kQ => XS.iloadN X808.here hx rfl (hb hby at_24) rfl kQ) ?_
    show own_Go p e below s _ _ _ (T808.setTop (mkF m 25 #[.val (.int p1), .val (.int p2), .val (.int p3), .val (.int p4), .val (.int p5), .val (.int fi), .val (.int (3 : Int32)), .val (.ref b802), .unset, .unset, .unset, .unset, .unset, .unset, .unset] [(.int p3), (.ref b802)]))
    have O818 : Old Z n0 T808.heap := (O809.keep K808 (allS g804 all0))
    obtain ⟨_, _, ⟨T817, L817, k817, n817⟩, -, X817, ⟨Lc817, hQ817, l817, y817, z817⟩, st817⟩ := Jvm.LawKit.callS X808 hx (y := (⟨"java/lang/Integer", "valueOf", "(I)Ljava/lang/Integer;"⟩ : MethodName)) hown (mvT hZ (hw _ (List.mem_of_getElem? (i := 27) rfl))) (mvT hZ (hw _ (List.mem_of_getElem? (i := 28) rfl))) (mvT hZ (hw _ (List.mem_of_getElem? (i := 29) rfl))) (mvT hZ (hw _ (List.mem_of_getElem? (i := 30) rfl))) (by decide) (backOf (W := 1) (own_rm_valueOfI l Z a0 hw [] p3 a_cacheI T808.heap n0 Zs816 O818 S_cacheI BxI S_high) hZ (hw _ (List.mem_of_getElem? (i := 30) rfl)) (hw _ (List.mem_of_getElem? (i := 29) rfl)) (by decide) (by decide)) (g := (mkF m 25 #[.val (.int p1), .val (.int p2), .val (.int p3), .val (.int p4), .val (.int p5), .val (.int fi), .val (.int (3 : Int32)), .val (.ref b802), .unset, .unset, .unset, .unset, .unset, .unset, .unset] [(.int p3), (.ref b802)])) rfl (by rw [hml]; rfl) (argsL := [(.int p3)]) (rest := [(.ref b802)]) (lenOf own_pd10 rfl) rfl (by show 2 * 0 + _ ≤ _; exact Nat.le_of_eq rfl) (hb hby at_25) (fun _ _ => ⟨rfl, rfl, (by decide : 1 + 1 ≤ _), (by decide : 3 + 1 ≤ _)⟩)
    dsimp only [Pt.U, Pt.locs, Pt.cells, Pt.slots] at X817 l817 y817 z817 st817 hQ817
    subst l817 y817 z817
    obtain ⟨x819, N817q, rfl, K817, q820, q821⟩ := hQ817
    have N822 := Fr.app N814 N817q
    refine own_st st817 ?_
    have lt823 : b802 < T817.heap.size := Nat.lt_of_lt_of_le q813.lt K817.1
    have Zs824 : n0 ≤ T817.heap.size := Nat.le_trans Zs816 K817.1
    show own_Go p e below s _ _ _ (T817.setTop (mkF m 28 #[.val (.int p1), .val (.int p2), .val (.int p3), .val (.int p4), .val (.int p5), .val (.int fi), .val (.int (3 : Int32)), .val (.ref b802), .unset, .unset, .unset, .unset, .unset, .unset, .unset] [(.ref x819), (.ref b802)]))
    have F826 : Exa Z T817.heap b802 "java/util/ArrayList" := (q810.keep K817)
    have F827 : Fld Z T817.heap b802 "java/util/AbstractList" "modCount" "I" (.int (0 : Int32)) := (q811.keep K817 nin0)
    have F828 : Fld Z T817.heap b802 "java/util/ArrayList" "elementData" "[Ljava/lang/Object;" (.ref dflt) := (q812.keep K817 nin0)
    have F829 : Fld Z T817.heap b802 "java/util/ArrayList" "size" "I" (.int (0 : Int32)) := (q813.keep K817 nin0)
    have O830 : Old Z n0 T817.heap := (O818.keep K817 all0)
    obtain ⟨cq825, kq825, q825a, q825b, q825c⟩ := isOf hZ rfl F826
    obtain ⟨_, _, ⟨T825, L825, k825, n825⟩, -, X825, ⟨Lc825, hQ825, l825, y825, z825⟩, st825⟩ := X817.virtualBack hx (y := (⟨"java/util/ArrayList", "add", "(Ljava/lang/Object;)Z"⟩ : MethodName)) (z := (⟨"java/util/ArrayList", "add", "(Ljava/lang/Object;)Z"⟩ : MethodName)) hown (mvT hZ (hw _ (List.mem_of_getElem? (i := 34) rfl))) (mvT hZ (hw _ (List.mem_of_getElem? (i := 35) rfl))) (notFace_of_selects (args := #[]) (mvT hZ (hw _ (List.mem_of_getElem? (i := 37) rfl)))) (mvT hZ (hw _ (List.mem_of_getElem? (i := 37) rfl))) (mvT hZ (hw _ (List.mem_of_getElem? (i := 36) rfl))) (by decide) (backOf (W := 0) (own_rm_add1_0 l Z a0 hw [] b802 x819 (0 : Int32) dflt kd T817.heap n0 Zs824 O830 S_es V_es F826 F827 F828 F829 g804 q820) hZ (hw _ (List.mem_of_getElem? (i := 38) rfl)) (hw _ (List.mem_of_getElem? (i := 3) rfl)) (by decide) (by decide)) q825a q825c (g := (mkF m 28 #[.val (.int p1), .val (.int p2), .val (.int p3), .val (.int p4), .val (.int p5), .val (.int fi), .val (.int (3 : Int32)), .val (.ref b802), .unset, .unset, .unset, .unset, .unset, .unset, .unset] [(.ref x819), (.ref b802)])) rfl (by rw [hml]; rfl) (Steps.refl _) (argsL := [(.ref x819)]) (rest := []) (lenOf own_pd11 rfl) rfl (by show 2 * 0 + _ ≤ _; exact Nat.le_of_eq rfl) (hb hby at_28) (fun _ _ => ⟨rfl, rfl, (by decide : 2 + 1 ≤ _), (by decide : 4 + 10 ≤ _)⟩)
    dsimp only [Pt.U, Pt.locs, Pt.cells, Pt.slots] at X825 l825 y825 z825 st825 hQ825
    subst l825 y825 z825
    obtain ⟨x831, x832, N825q, rfl, K825, q833, q834, q835, q836, q837, q838, q839, q840⟩ := hQ825
    have N841 := Fr.app N822 N825q
    refine own_tr st825 ?_
    have lt842 : b802 < T825.heap.size := Nat.lt_of_lt_of_le lt823 K825.1
    have lt843 : x819 < T825.heap.size := Nat.lt_of_lt_of_le q821.lt K825.1
    have Zs844 : n0 ≤ T825.heap.size := Nat.le_trans Zs824 K825.1
    have ne845 : b802 ≠ x831 := Nat.ne_of_lt (Nat.lt_of_lt_of_le lt823 q833)
    have ne846 : x819 ≠ x831 := Nat.ne_of_lt (Nat.lt_of_lt_of_le q821.lt q833)
    have g847 : n0 ≤ x831 := Nat.le_trans Zs824 q833
    show own_Go p e below s _ _ _ (T825.setTop (mkF m 31 #[.val (.int p1), .val (.int p2), .val (.int p3), .val (.int p4), .val (.int p5), .val (.int fi), .val (.int (3 : Int32)), .val (.ref b802), .unset, .unset, .unset, .unset, .unset, .unset, .unset] [(.int (1 : Int32))]))
    refine own_st (fun _ kQ => XT.pop X825.here hx rfl (hb hby at_31) rfl rfl kQ) ?_
    show own_Go p e below s _ _ _ (T825.setTop (mkF m 32 #[.val (.int p1), .val (.int p2), .val (.int p3), .val (.int p4), .val (.int p5), .val (.int fi), .val (.int (3 : Int32)), .val (.ref b802), .unset, .unset, .unset, .unset, .unset, .unset, .unset] []))
    refine own_st (fun _ kQ => XS.iload X825.here hx rfl (hb hby at_32) rfl kQ) ?_
    show own_Go p e below s _ _ _ (T825.setTop (mkF m 34 #[.val (.int p1), .val (.int p2), .val (.int p3), .val (.int p4), .val (.int p5), .val (.int fi), .val (.int (3 : Int32)), .val (.ref b802), .unset, .unset, .unset, .unset, .unset, .unset, .unset] [(.int (3 : Int32))]))
    refine own_st (fun _ kQ => XT.iconstV X825.here hx rfl (2 : Int32) (hb hby at_34) (by decide) kQ) ?_
    show own_Go p e below s _ _ _ (T825.setTop (mkF m 35 #[.val (.int p1), .val (.int p2), .val (.int p3), .val (.int p4), .val (.int p5), .val (.int fi), .val (.int (3 : Int32)), .val (.ref b802), .unset, .unset, .unset, .unset, .unset, .unset, .unset] [(.int (2 : Int32)), (.int (3 : Int32))]))
    refine own_st (fun _ kQ => XS.icmpNo X825.here hx rfl (hb hby at_35) rfl (XT.ii_lt_f (by decide)) kQ) ?_
    show own_Go p e below s _ _ _ (T825.setTop (mkF m 38 #[.val (.int p1), .val (.int p2), .val (.int p3), .val (.int p4), .val (.int p5), .val (.int fi), .val (.int (3 : Int32)), .val (.ref b802), .unset, .unset, .unset, .unset, .unset, .unset, .unset] []))
    refine own_st (fun _ kQ => XS.aload X825.here hx rfl (hb hby at_38) rfl rfl kQ) ?_
    show own_Go p e below s _ _ _ (T825.setTop (mkF m 40 #[.val (.int p1), .val (.int p2), .val (.int p3), .val (.int p4), .val (.int p5), .val (.int fi), .val (.int (3 : Int32)), .val (.ref b802), .unset, .unset, .unset, .unset, .unset, .unset, .unset] [(.ref b802)]))
    refine own_st (fun _ kQ => XS.iloadN X825.here hx rfl (hb hby at_40) rfl kQ) ?_
    show own_Go p e below s _ _ _ (T825.setTop (mkF m 41 #[.val (.int p1), .val (.int p2), .val (.int p3), .val (.int p4), .val (.int p5), .val (.int fi), .val (.int (3 : Int32)), .val (.ref b802), .unset, .unset, .unset, .unset, .unset, .unset, .unset] [(.int p4), (.ref b802)]))
    have O849 : Old Z n0 T825.heap := (O830.keep K825 (allS g804 all0))
    obtain ⟨_, _, ⟨T848, L848, k848, n848⟩, -, X848, ⟨Lc848, hQ848, l848, y848, z848⟩, st848⟩ := Jvm.LawKit.callS X825 hx (y := (⟨"java/lang/Integer", "valueOf", "(I)Ljava/lang/Integer;"⟩ : MethodName)) hown (mvT hZ (hw _ (List.mem_of_getElem? (i := 27) rfl))) (mvT hZ (hw _ (List.mem_of_getElem? (i := 28) rfl))) (mvT hZ (hw _ (List.mem_of_getElem? (i := 29) rfl))) (mvT hZ (hw _ (List.mem_of_getElem? (i := 30) rfl))) (by decide) (backOf (W := 1) (own_rm_valueOfI l Z a0 hw [] p4 a_cacheI T825.heap n0 Zs844 O849 S_cacheI BxI S_high) hZ (hw _ (List.mem_of_getElem? (i := 30) rfl)) (hw _ (List.mem_of_getElem? (i := 29) rfl)) (by decide) (by decide)) (g := (mkF m 41 #[.val (.int p1), .val (.int p2), .val (.int p3), .val (.int p4), .val (.int p5), .val (.int fi), .val (.int (3 : Int32)), .val (.ref b802), .unset, .unset, .unset, .unset, .unset, .unset, .unset] [(.int p4), (.ref b802)])) rfl (by rw [hml]; rfl) (argsL := [(.int p4)]) (rest := [(.ref b802)]) (lenOf own_pd10 rfl) rfl (by show 2 * 0 + _ ≤ _; exact Nat.le_of_eq rfl) (hb hby at_41) (fun _ _ => ⟨rfl, rfl, (by decide : 3 + 1 ≤ _), (by decide : 14 + 1 ≤ _)⟩)
    dsimp only [Pt.U, Pt.locs, Pt.cells, Pt.slots] at X848 l848 y848 z848 st848 hQ848
    subst l848 y848 z848
    obtain ⟨x850, N848q, rfl, K848, q851, q852⟩ := hQ848
    have N853 := Fr.app N841 N848q
    refine own_st st848 ?_
    have lt854 : b802 < T848.heap.size := Nat.lt_of_lt_of_le q837.lt K848.1
    have lt855 : x819 < T848.heap.size := Nat.lt_of_lt_of_le lt843 K848.1
    have lt856 : x831 < T848.heap.size := Nat.lt_of_lt_of_le q839.lt K848.1
    have Zs857 : n0 ≤ T848.heap.size := Nat.le_trans Zs844 K848.1
    obtain ⟨Lp858, Xp858, Np858⟩ : ∃ L, Stand p l e room_1 s m #[(.int p1), (.int p2), (.int p3), (.int p4), (.int p5)] below meth c T848 L 4 15 ∧ Fr n0 L := ⟨_, X848, N853⟩
    show own_Go p e below s _ _ _ (T848.setTop (mkF m 44 #[.val (.int p1), .val (.int p2), .val (.int p3), .val (.int p4), .val (.int p5), .val (.int fi), .val (.int (3 : Int32)), .val (.ref b802), .unset, .unset, .unset, .unset, .unset, .unset, .unset] [(.ref x850), (.ref b802)]))
    have F860 : Exa Z T848.heap b802 "java/util/ArrayList" := (q834.keep K848)
    have F861 : Fld Z T848.heap b802 "java/util/AbstractList" "modCount" "I" (.int ((0 : Int32) + (1 : Int32))) := (q835.keep K848 nin0)
    have F862 : Fld Z T848.heap b802 "java/util/ArrayList" "elementData" "[Ljava/lang/Object;" (.ref x831) := (q836.keep K848 nin0)
    have F863 : Fld Z T848.heap b802 "java/util/ArrayList" "size" "I" (.int (1 : Int32)) := (q837.keep K848 nin0)
    have F864 : Arv Z T848.heap x831 x832 (.object "java/lang/Object") (10 : Int32) [(.ref x819), .null, .null, .null, .null, .null, .null, .null, .null, .null] .null := (q839.keep K848 nin0)
    obtain ⟨cq859, kq859, q859a, q859b, q859c⟩ := isOf hZ rfl F860
    obtain ⟨_, _, ⟨T859, L859, k859, n859⟩, -, X859, ⟨Lc859, hQ859, l859, y859, z859⟩, st859⟩ := Xp858.virtualBack hx (y := (⟨"java/util/ArrayList", "add", "(Ljava/lang/Object;)Z"⟩ : MethodName)) (z := (⟨"java/util/ArrayList", "add", "(Ljava/lang/Object;)Z"⟩ : MethodName)) hown (mvT hZ (hw _ (List.mem_of_getElem? (i := 34) rfl))) (mvT hZ (hw _ (List.mem_of_getElem? (i := 35) rfl))) (notFace_of_selects (args := #[]) (mvT hZ (hw _ (List.mem_of_getElem? (i := 37) rfl)))) (mvT hZ (hw _ (List.mem_of_getElem? (i := 37) rfl))) (mvT hZ (hw _ (List.mem_of_getElem? (i := 36) rfl))) (by decide) (backOf (W := 0) (own_rm_add1_1 l Z a0 hw [] b802 x850 x831 x832 ((0 : Int32) + (1 : Int32)) x819 T848.heap n0 Zs857 F860 F861 F862 F863 F864 q840 g804 g847 ne845 q851) hZ (hw _ (List.mem_of_getElem? (i := 38) rfl)) (hw _ (List.mem_of_getElem? (i := 3) rfl)) (by decide) (by decide)) q859a q859c (g := (mkF m 44 #[.val (.int p1), .val (.int p2), .val (.int p3), .val (.int p4), .val (.int p5), .val (.int fi), .val (.int (3 : Int32)), .val (.ref b802), .unset, .unset, .unset, .unset, .unset, .unset, .unset] [(.ref x850), (.ref b802)])) rfl (by rw [hml]; rfl) (Steps.refl _) (argsL := [(.ref x850)]) (rest := []) (lenOf own_pd11 rfl) rfl (by show 2 * 0 + _ ≤ _; exact Nat.le_of_eq rfl) (hb hby at_44) (fun _ _ => ⟨rfl, rfl, (by decide : 4 + 0 ≤ _), (by decide : 15 + 0 ≤ _)⟩)
    dsimp only [Pt.U, Pt.locs, Pt.cells, Pt.slots] at X859 l859 y859 z859 st859 hQ859
    subst l859 y859 z859
    obtain ⟨N859q, rfl, K859, q865, q866, q867, q868, q869⟩ := hQ859
    have N870 := Fr.app Np858 N859q
    refine own_tr st859 ?_
    have lt871 : b802 < T859.heap.size := Nat.lt_of_lt_of_le lt854 K859.1
    have lt872 : x819 < T859.heap.size := Nat.lt_of_lt_of_le lt855 K859.1
    have lt873 : x831 < T859.heap.size := Nat.lt_of_lt_of_le lt856 K859.1
    have lt874 : x850 < T859.heap.size := Nat.lt_of_lt_of_le q852.lt K859.1
    have Zs875 : n0 ≤ T859.heap.size := Nat.le_trans Zs857 K859.1
    show own_Go p e below s _ _ _ (T859.setTop (mkF m 47 #[.val (.int p1), .val (.int p2), .val (.int p3), .val (.int p4), .val (.int p5), .val (.int fi), .val (.int (3 : Int32)), .val (.ref b802), .unset, .unset, .unset, .unset, .unset, .unset, .unset] [(.int (1 : Int32))]))
    refine own_st (fun _ kQ => XT.pop X859.here hx rfl (hb hby at_47) rfl rfl kQ) ?_
    show own_Go p e below s _ _ _ (T859.setTop (mkF m 48 #[.val (.int p1), .val (.int p2), .val (.int p3), .val (.int p4), .val (.int p5), .val (.int fi), .val (.int (3 : Int32)), .val (.ref b802), .unset, .unset, .unset, .unset, .unset, .unset, .unset] []))
    refine own_st (fun _ kQ => XS.iload X859.here hx rfl (hb hby at_48) rfl kQ) ?_
    show own_Go p e below s _ _ _ (T859.setTop (mkF m 50 #[.val (.int p1), .val (.int p2), .val (.int p3), .val (.int p4), .val (.int p5), .val (.int fi), .val (.int (3 : Int32)), .val (.ref b802), .unset, .unset, .unset, .unset, .unset, .unset, .unset] [(.int (3 : Int32))]))
    refine own_st (fun _ kQ => XT.iconstV X859.here hx rfl (3 : Int32) (hb hby at_50) (by decide) kQ) ?_
    show own_Go p e below s _ _ _ (T859.setTop (mkF m 51 #[.val (.int p1), .val (.int p2), .val (.int p3), .val (.int p4), .val (.int p5), .val (.int fi), .val (.int (3 : Int32)), .val (.ref b802), .unset, .unset, .unset, .unset, .unset, .unset, .unset] [(.int (3 : Int32)), (.int (3 : Int32))]))
    refine own_st (fun _ kQ => XS.icmpNo X859.here hx rfl (hb hby at_51) rfl (XT.ii_lt_f (by decide)) kQ) ?_
    show own_Go p e below s _ _ _ (T859.setTop (mkF m 54 #[.val (.int p1), .val (.int p2), .val (.int p3), .val (.int p4), .val (.int p5), .val (.int fi), .val (.int (3 : Int32)), .val (.ref b802), .unset, .unset, .unset, .unset, .unset, .unset, .unset] []))
    refine own_st (fun _ kQ => XS.aload X859.here hx rfl (hb hby at_54) rfl rfl kQ) ?_
    show own_Go p e below s _ _ _ (T859.setTop (mkF m 56 #[.val (.int p1), .val (.int p2), .val (.int p3), .val (.int p4), .val (.int p5), .val (.int fi), .val (.int (3 : Int32)), .val (.ref b802), .unset, .unset, .unset, .unset, .unset, .unset, .unset] [(.ref b802)]))
    refine own_st (fun _ kQ => XS.iloadN X859.here hx rfl (hb hby at_56) rfl kQ) ?_
    show own_Go p e below s _ _ _ (T859.setTop (mkF m 57 #[.val (.int p1), .val (.int p2), .val (.int p3), .val (.int p4), .val (.int p5), .val (.int fi), .val (.int (3 : Int32)), .val (.ref b802), .unset, .unset, .unset, .unset, .unset, .unset, .unset] [(.int p1), (.ref b802)]))
    have O877 : Old Z n0 T859.heap := ((O849.keep K848 all0).keep K859 (allS g804 (allS g847 all0)))
    obtain ⟨_, _, ⟨T876, L876, k876, n876⟩, -, X876, ⟨Lc876, hQ876, l876, y876, z876⟩, st876⟩ := Jvm.LawKit.callS X859 hx (y := (⟨"java/lang/Integer", "valueOf", "(I)Ljava/lang/Integer;"⟩ : MethodName)) hown (mvT hZ (hw _ (List.mem_of_getElem? (i := 27) rfl))) (mvT hZ (hw _ (List.mem_of_getElem? (i := 28) rfl))) (mvT hZ (hw _ (List.mem_of_getElem? (i := 29) rfl))) (mvT hZ (hw _ (List.mem_of_getElem? (i := 30) rfl))) (by decide) (backOf (W := 1) (own_rm_valueOfI l Z a0 hw [] p1 a_cacheI T859.heap n0 Zs875 O877 S_cacheI BxI S_high) hZ (hw _ (List.mem_of_getElem? (i := 30) rfl)) (hw _ (List.mem_of_getElem? (i := 29) rfl)) (by decide) (by decide)) (g := (mkF m 57 #[.val (.int p1), .val (.int p2), .val (.int p3), .val (.int p4), .val (.int p5), .val (.int fi), .val (.int (3 : Int32)), .val (.ref b802), .unset, .unset, .unset, .unset, .unset, .unset, .unset] [(.int p1), (.ref b802)])) rfl (by rw [hml]; rfl) (argsL := [(.int p1)]) (rest := [(.ref b802)]) (lenOf own_pd10 rfl) rfl (by show 2 * 0 + _ ≤ _; exact Nat.le_of_eq rfl) (hb hby at_57) (fun _ _ => ⟨rfl, rfl, (by decide : 4 + 1 ≤ _), (by decide : 15 + 1 ≤ _)⟩)
    dsimp only [Pt.U, Pt.locs, Pt.cells, Pt.slots] at X876 l876 y876 z876 st876 hQ876
    subst l876 y876 z876
    obtain ⟨x878, N876q, rfl, K876, q879, q880⟩ := hQ876
    have N881 := Fr.app N870 N876q
    refine own_st st876 ?_
    have lt882 : b802 < T876.heap.size := Nat.lt_of_lt_of_le q868.lt K876.1
    have lt883 : x819 < T876.heap.size := Nat.lt_of_lt_of_le lt872 K876.1
    have lt884 : x831 < T876.heap.size := Nat.lt_of_lt_of_le q869.lt K876.1
    have lt885 : x850 < T876.heap.size := Nat.lt_of_lt_of_le lt874 K876.1
    have Zs886 : n0 ≤ T876.heap.size := Nat.le_trans Zs875 K876.1
    show own_Go p e below s _ _ _ (T876.setTop (mkF m 60 #[.val (.int p1), .val (.int p2), .val (.int p3), .val (.int p4), .val (.int p5), .val (.int fi), .val (.int (3 : Int32)), .val (.ref b802), .unset, .unset, .unset, .unset, .unset, .unset, .unset] [(.ref x878), (.ref b802)]))
    have F888 : Exa Z T876.heap b802 "java/util/ArrayList" := (q865.keep K876)
    have F889 : Fld Z T876.heap b802 "java/util/AbstractList" "modCount" "I" (.int (((0 : Int32) + (1 : Int32)) + (1 : Int32))) := (q866.keep K876 nin0)
    have F890 : Fld Z T876.heap b802 "java/util/ArrayList" "elementData" "[Ljava/lang/Object;" (.ref x831) := (q867.keep K876 nin0)
    have F891 : Fld Z T876.heap b802 "java/util/ArrayList" "size" "I" (.int (2 : Int32)) := (q868.keep K876 nin0)
    have F892 : Arv Z T876.heap x831 x832 (.object "java/lang/Object") (10 : Int32) [(.ref x819), (.ref x850), .null, .null, .null, .null, .null, .null, .null, .null] .null := (q869.keep K876 nin0)
    obtain ⟨cq887, kq887, q887a, q887b, q887c⟩ := isOf hZ rfl F888
    obtain ⟨_, _, ⟨T887, L887, k887, n887⟩, -, X887, ⟨Lc887, hQ887, l887, y887, z887⟩, st887⟩ := X876.virtualBack hx (y := (⟨"java/util/ArrayList", "add", "(Ljava/lang/Object;)Z"⟩ : MethodName)) (z := (⟨"java/util/ArrayList", "add", "(Ljava/lang/Object;)Z"⟩ : MethodName)) hown (mvT hZ (hw _ (List.mem_of_getElem? (i := 34) rfl))) (mvT hZ (hw _ (List.mem_of_getElem? (i := 35) rfl))) (notFace_of_selects (args := #[]) (mvT hZ (hw _ (List.mem_of_getElem? (i := 37) rfl)))) (mvT hZ (hw _ (List.mem_of_getElem? (i := 37) rfl))) (mvT hZ (hw _ (List.mem_of_getElem? (i := 36) rfl))) (by decide) (backOf (W := 0) (own_rm_add1_2 l Z a0 hw [] b802 x878 x831 x832 (((0 : Int32) + (1 : Int32)) + (1 : Int32)) x819 x850 T876.heap n0 Zs886 F888 F889 F890 F891 F892 q840 g804 g847 ne845 q879) hZ (hw _ (List.mem_of_getElem? (i := 38) rfl)) (hw _ (List.mem_of_getElem? (i := 3) rfl)) (by decide) (by decide)) q887a q887c (g := (mkF m 60 #[.val (.int p1), .val (.int p2), .val (.int p3), .val (.int p4), .val (.int p5), .val (.int fi), .val (.int (3 : Int32)), .val (.ref b802), .unset, .unset, .unset, .unset, .unset, .unset, .unset] [(.ref x878), (.ref b802)])) rfl (by rw [hml]; rfl) (Steps.refl _) (argsL := [(.ref x878)]) (rest := []) (lenOf own_pd11 rfl) rfl (by show 2 * 0 + _ ≤ _; exact Nat.le_of_eq rfl) (hb hby at_60) (fun _ _ => ⟨rfl, rfl, (by decide : 5 + 0 ≤ _), (by decide : 16 + 0 ≤ _)⟩)
    dsimp only [Pt.U, Pt.locs, Pt.cells, Pt.slots] at X887 l887 y887 z887 st887 hQ887
    subst l887 y887 z887
    obtain ⟨N887q, rfl, K887, q893, q894, q895, q896, q897⟩ := hQ887
    have N898 := Fr.app N881 N887q
    refine own_tr st887 ?_
    have lt899 : b802 < T887.heap.size := Nat.lt_of_lt_of_le lt882 K887.1
    have lt900 : x819 < T887.heap.size := Nat.lt_of_lt_of_le lt883 K887.1
    have lt901 : x831 < T887.heap.size := Nat.lt_of_lt_of_le lt884 K887.1
    have lt902 : x850 < T887.heap.size := Nat.lt_of_lt_of_le lt885 K887.1
    have lt903 : x878 < T887.heap.size := Nat.lt_of_lt_of_le q880.lt K887.1
    have Zs904 : n0 ≤ T887.heap.size := Nat.le_trans Zs886 K887.1
    show own_Go p e below s _ _ _ (T887.setTop (mkF m 63 #[.val (.int p1), .val (.int p2), .val (.int p3), .val (.int p4), .val (.int p5), .val (.int fi), .val (.int (3 : Int32)), .val (.ref b802), .unset, .unset, .unset, .unset, .unset, .unset, .unset] [(.int (1 : Int32))]))
    refine own_st (fun _ kQ => XT.pop X887.here hx rfl (hb hby at_63) rfl rfl kQ) ?_
    show own_Go p e below s _ _ _ (T887.setTop (mkF m 64 #[.val (.int p1), .val (.int p2), .val (.int p3), .val (.int p4), .val (.int p5), .val (.int fi), .val (.int (3 : Int32)), .val (.ref b802), .unset, .unset, .unset, .unset, .unset, .unset, .unset] []))
    refine own_st (fun _ kQ => XS.iload X887.here hx rfl (hb hby at_64) rfl kQ) ?_
    show own_Go p e below s _ _ _ (T887.setTop (mkF m 66 #[.val (.int p1), .val (.int p2), .val (.int p3), .val (.int p4), .val (.int p5), .val (.int fi), .val (.int (3 : Int32)), .val (.ref b802), .unset, .unset, .unset, .unset, .unset, .unset, .unset] [(.int (3 : Int32))]))
    refine own_st (fun _ kQ => XT.iconstV X887.here hx rfl (4 : Int32) (hb hby at_66) (by decide) kQ) ?_
    show own_Go p e below s _ _ _ (T887.setTop (mkF m 67 #[.val (.int p1), .val (.int p2), .val (.int p3), .val (.int p4), .val (.int p5), .val (.int fi), .val (.int (3 : Int32)), .val (.ref b802), .unset, .unset, .unset, .unset, .unset, .unset, .unset] [(.int (4 : Int32)), (.int (3 : Int32))]))
    refine own_st (fun _ kQ => XS.icmpYes X887.here hx rfl (pc0 := 67) (pc' := 81) rfl (hb hby at_67) rfl (XT.ii_lt_t (by decide)) (by decide) (by decide) kQ) ?_
    show own_Go p e below s _ _ _ (T887.setTop (mkF m 81 #[.val (.int p1), .val (.int p2), .val (.int p3), .val (.int p4), .val (.int p5), .val (.int fi), .val (.int (3 : Int32)), .val (.ref b802), .unset, .unset, .unset, .unset, .unset, .unset, .unset] []))
    refine own_st (fun _ kQ => XS.iload X887.here hx rfl (hb hby at_81) rfl kQ) ?_
    show own_Go p e below s _ _ _ (T887.setTop (mkF m 83 #[.val (.int p1), .val (.int p2), .val (.int p3), .val (.int p4), .val (.int p5), .val (.int fi), .val (.int (3 : Int32)), .val (.ref b802), .unset, .unset, .unset, .unset, .unset, .unset, .unset] [(.int p5)]))
    refine own_st (fun _ kQ => XT.iconstV X887.here hx rfl (1 : Int32) (hb hby at_83) (by decide) kQ) ?_
    show own_Go p e below s _ _ _ (T887.setTop (mkF m 84 #[.val (.int p1), .val (.int p2), .val (.int p3), .val (.int p4), .val (.int p5), .val (.int fi), .val (.int (3 : Int32)), .val (.ref b802), .unset, .unset, .unset, .unset, .unset, .unset, .unset] [(.int (1 : Int32)), (.int p5)]))
    refine own_st (fun _ kQ => XS.iand X887.here hx rfl (hb hby at_84) rfl kQ) ?_
    show own_Go p e below s _ _ _ (T887.setTop (mkF m 85 #[.val (.int p1), .val (.int p2), .val (.int p3), .val (.int p4), .val (.int p5), .val (.int fi), .val (.int (3 : Int32)), .val (.ref b802), .unset, .unset, .unset, .unset, .unset, .unset, .unset] [(.int (p5 &&& (1 : Int32)))]))
    by_cases hc905 : (p5 &&& (1 : Int32)) = 0
    · refine own_st (fun _ kQ => XS.ifNo X887.here hx rfl (hb hby at_85) rfl (XT.i0_ne_f hc905) kQ) ?_
      show own_Go p e below s _ _ _ (T887.setTop (mkF m 88 #[.val (.int p1), .val (.int p2), .val (.int p3), .val (.int p4), .val (.int p5), .val (.int fi), .val (.int (3 : Int32)), .val (.ref b802), .unset, .unset, .unset, .unset, .unset, .unset, .unset] []))
      refine own_st (fun _ kQ => XS.iloadN X887.here hx rfl (hb hby at_88) rfl kQ) ?_
      show own_Go p e below s _ _ _ (T887.setTop (mkF m 89 #[.val (.int p1), .val (.int p2), .val (.int p3), .val (.int p4), .val (.int p5), .val (.int fi), .val (.int (3 : Int32)), .val (.ref b802), .unset, .unset, .unset, .unset, .unset, .unset, .unset] [(.int p4)]))
      refine own_st (fun _ kQ => XS.goto X887.here hx rfl (pc0 := 89) (pc' := 101) rfl (hb hby at_89) (by decide) (by decide) kQ) ?_
      show own_Go p e below s _ _ _ (T887.setTop (mkF m 101 #[.val (.int p1), .val (.int p2), .val (.int p3), .val (.int p4), .val (.int p5), .val (.int fi), .val (.int (3 : Int32)), .val (.ref b802), .unset, .unset, .unset, .unset, .unset, .unset, .unset] [(.int p4)]))
      generalize hk_ix : p4 = ix
      show own_Go p e below s _ _ _ (T887.setTop (mkF m 101 #[.val (.int p1), .val (.int p2), .val (.int p3), .val (.int ix), .val (.int p5), .val (.int fi), .val (.int (3 : Int32)), .val (.ref b802), .unset, .unset, .unset, .unset, .unset, .unset, .unset] [(.int ix)]))
      refine own_st (fun _ kQ => XS.istore X887.here hx rfl (hb hby at_101) rfl (l' := #[.val (.int p1), .val (.int p2), .val (.int p3), .val (.int ix), .val (.int p5), .val (.int fi), .val (.int (3 : Int32)), .val (.ref b802), .val (.int ix), .unset, .unset, .unset, .unset, .unset, .unset]) rfl kQ) ?_
      show own_Go p e below s _ _ _ (T887.setTop (mkF m 103 #[.val (.int p1), .val (.int p2), .val (.int p3), .val (.int ix), .val (.int p5), .val (.int fi), .val (.int (3 : Int32)), .val (.ref b802), .val (.int ix), .unset, .unset, .unset, .unset, .unset, .unset] []))
      obtain ⟨T906, h906, X906, e906, E906, A906, D906, -, st906⟩ := newO X887 hx hZ hown (hw _ (List.mem_of_getElem? (i := 65) rfl)) (hw _ (List.mem_of_getElem? (i := 66) rfl)) (hw _ (List.mem_of_getElem? (i := 67) rfl)) rfl (g := (mkF m 103 #[.val (.int p1), .val (.int p2), .val (.int p3), .val (.int ix), .val (.int p5), .val (.int fi), .val (.int (3 : Int32)), .val (.ref b802), .val (.int ix), .unset, .unset, .unset, .unset, .unset, .unset] [])) rfl (hb hby at_103) (by decide) (by decide)
      obtain ⟨b906, g906⟩ : ∃ z, z = T887.heap.size := ⟨_, rfl⟩
      rw [← g906] at A906 D906 st906
      refine own_st st906 ?_
      have lt907 : b802 < h906.size := Nat.lt_of_lt_of_le q896.lt E906.1
      have lt908 : x819 < h906.size := Nat.lt_of_lt_of_le lt900 E906.1
      have lt909 : x831 < h906.size := Nat.lt_of_lt_of_le q897.lt E906.1
      have lt910 : x850 < h906.size := Nat.lt_of_lt_of_le lt902 E906.1
      have lt911 : x878 < h906.size := Nat.lt_of_lt_of_le lt903 E906.1
      have Zs912 : n0 ≤ h906.size := Nat.le_trans Zs904 E906.1
      have ne913 : b802 ≠ b906 := Nat.ne_of_lt (Nat.lt_of_lt_of_le q896.lt (Nat.le_of_eq g906.symm))
      have ne914 : x819 ≠ b906 := Nat.ne_of_lt (Nat.lt_of_lt_of_le lt900 (Nat.le_of_eq g906.symm))
      have ne915 : x831 ≠ b906 := Nat.ne_of_lt (Nat.lt_of_lt_of_le q897.lt (Nat.le_of_eq g906.symm))
      have ne916 : x850 ≠ b906 := Nat.ne_of_lt (Nat.lt_of_lt_of_le lt902 (Nat.le_of_eq g906.symm))
      have ne917 : x878 ≠ b906 := Nat.ne_of_lt (Nat.lt_of_lt_of_le lt903 (Nat.le_of_eq g906.symm))
      have g918 : n0 ≤ b906 := Nat.le_trans Zs904 (Nat.le_of_eq g906.symm)
      have F919 : Fld Z h906 b906 "com/example/rationed_session/rationedsession/model/Partition" "number" "I" (.int (0 : Int32)) := D906 (Or.inr (hw _ (List.mem_of_getElem? (i := 73) rfl))) (ty := .int) (by decide)
      have F920 : Fld Z h906 b906 "com/example/rationed_session/rationedsession/model/Partition" "firstIndex" "I" (.int (0 : Int32)) := D906 (Or.inr (hw _ (List.mem_of_getElem? (i := 75) rfl))) (ty := .int) (by decide)
      have F921 : Fld Z h906 b906 "com/example/rationed_session/rationedsession/model/Partition" "inputs" "Ljava/util/List;" .null := D906 (Or.inr (hw _ (List.mem_of_getElem? (i := 120) rfl))) (ty := (.object "java/util/List")) (by decide)
      show own_Go p e below s _ _ _ (T906.setTop (mkF m 106 #[.val (.int p1), .val (.int p2), .val (.int p3), .val (.int ix), .val (.int p5), .val (.int fi), .val (.int (3 : Int32)), .val (.ref b802), .val (.int ix), .unset, .unset, .unset, .unset, .unset, .unset] [(.ref b906)]))
      refine own_st (fun _ kQ => XS.dup X906.here hx rfl (hb hby at_106) rfl rfl kQ) ?_
      show own_Go p e below s _ _ _ (T906.setTop (mkF m 107 #[.val (.int p1), .val (.int p2), .val (.int p3), .val (.int ix), .val (.int p5), .val (.int fi), .val (.int (3 : Int32)), .val (.ref b802), .val (.int ix), .unset, .unset, .unset, .unset, .unset, .unset] [(.ref b906), (.ref b906)]))
      refine own_st (fun _ kQ => XS.iloadN X906.here hx rfl (hb hby at_107) rfl kQ) ?_
      show own_Go p e below s _ _ _ (T906.setTop (mkF m 108 #[.val (.int p1), .val (.int p2), .val (.int p3), .val (.int ix), .val (.int p5), .val (.int fi), .val (.int (3 : Int32)), .val (.ref b802), .val (.int ix), .unset, .unset, .unset, .unset, .unset, .unset] [(.int p1), (.ref b906), (.ref b906)]))
      refine own_st (fun _ kQ => XS.iload X906.here hx rfl (hb hby at_108) rfl kQ) ?_
      show own_Go p e below s _ _ _ (T906.setTop (mkF m 110 #[.val (.int p1), .val (.int p2), .val (.int p3), .val (.int ix), .val (.int p5), .val (.int fi), .val (.int (3 : Int32)), .val (.ref b802), .val (.int ix), .unset, .unset, .unset, .unset, .unset, .unset] [(.int fi), (.int p1), (.ref b906), (.ref b906)]))
      refine own_st (fun _ kQ => XS.aload X906.here hx rfl (hb hby at_110) rfl rfl kQ) ?_
      show own_Go p e below s _ _ _ (T906.setTop (mkF m 112 #[.val (.int p1), .val (.int p2), .val (.int p3), .val (.int ix), .val (.int p5), .val (.int fi), .val (.int (3 : Int32)), .val (.ref b802), .val (.int ix), .unset, .unset, .unset, .unset, .unset, .unset] [(.ref b802), (.int fi), (.int p1), (.ref b906), (.ref b906)]))
      have F923 : Exa Z h906 b802 "java/util/ArrayList" := (q893.ext E906)
      obtain ⟨_, _, ⟨T922, L922, k922, n922⟩, -, X922, ⟨Lc922, hQ922, l922, y922, z922⟩, st922⟩ := X906.specialBack hx (y := (⟨"com/example/rationed_session/rationedsession/model/Partition", "<init>", "(IILjava/util/List;)V"⟩ : MethodName)) rfl hown (mvT hZ (hw _ (List.mem_of_getElem? (i := 68) rfl))) (mvT hZ (hw _ (List.mem_of_getElem? (i := 69) rfl))) (mvT hZ (hw _ (List.mem_of_getElem? (i := 70) rfl))) (by decide) (backOf (W := 1) (own_rm_pinitU l Z a0 hw [] b906 p1 fi b802 mA mL mR h906 n0 Zs912 M_AL M_UL M_UR h1 h2 A906 F923 F919 F920 F921 g918) hZ (hw _ (List.mem_of_getElem? (i := 70) rfl)) (hw _ (List.mem_of_getElem? (i := 67) rfl)) (by decide) (by decide)) (g := (mkF m 112 #[.val (.int p1), .val (.int p2), .val (.int p3), .val (.int ix), .val (.int p5), .val (.int fi), .val (.int (3 : Int32)), .val (.ref b802), .val (.int ix), .unset, .unset, .unset, .unset, .unset, .unset] [(.ref b802), (.int fi), (.int p1), (.ref b906), (.ref b906)])) rfl (by rw [hml]; rfl) (Steps.refl _) (a := b906) (argsL := [(.int p1), (.int fi), (.ref b802)]) (rest := [(.ref b906)]) (lenOf own_pd12 rfl) rfl (by show 2 * 0 + _ ≤ _; exact Nat.le_of_eq rfl) (hb hby at_112) (fun _ _ => ⟨rfl, e906, (by decide : 6 + 1 ≤ _), (by decide : 19 + 2 ≤ _)⟩)
      dsimp only [Pt.U, Pt.locs, Pt.cells, Pt.slots] at X922 l922 y922 z922 st922 hQ922
      subst l922 y922 z922
      obtain ⟨x924, N922q, rfl, K922, q925, q926, q927, q928, q929, q930, q931, q932⟩ := hQ922
      have N933 := Fr.app N898 N922q
      refine own_tr st922 ?_
      have lt934 : b802 < T922.heap.size := Nat.lt_of_lt_of_le lt907 K922.1
      have lt935 : x819 < T922.heap.size := Nat.lt_of_lt_of_le lt908 K922.1
      have lt936 : x831 < T922.heap.size := Nat.lt_of_lt_of_le lt909 K922.1
      have lt937 : x850 < T922.heap.size := Nat.lt_of_lt_of_le lt910 K922.1
      have lt938 : x878 < T922.heap.size := Nat.lt_of_lt_of_le lt911 K922.1
      have lt939 : b906 < T922.heap.size := Nat.lt_of_lt_of_le A906.lt K922.1
      have Zs940 : n0 ≤ T922.heap.size := Nat.le_trans Zs912 K922.1
      have ne941 : b802 ≠ x924 := Nat.ne_of_lt (Nat.lt_of_lt_of_le lt907 q929)
      have ne942 : x819 ≠ x924 := Nat.ne_of_lt (Nat.lt_of_lt_of_le lt908 q929)
      have ne943 : x831 ≠ x924 := Nat.ne_of_lt (Nat.lt_of_lt_of_le lt909 q929)
      have ne944 : x850 ≠ x924 := Nat.ne_of_lt (Nat.lt_of_lt_of_le lt910 q929)
      have ne945 : x878 ≠ x924 := Nat.ne_of_lt (Nat.lt_of_lt_of_le lt911 q929)
      have ne946 : b906 ≠ x924 := Nat.ne_of_lt (Nat.lt_of_lt_of_le A906.lt q929)
      have g947 : n0 ≤ x924 := Nat.le_trans Zs912 q929
      obtain ⟨Lp948, Xp948, Np948⟩ : ∃ L, Stand p l e room_1 s m #[(.int p1), (.int p2), (.int p3), (.int p4), (.int p5)] below meth c T922 L 7 21 ∧ Fr n0 L := ⟨_, X922, N933⟩
      show own_Go p e below s _ _ _ (T922.setTop (mkF m 115 #[.val (.int p1), .val (.int p2), .val (.int p3), .val (.int ix), .val (.int p5), .val (.int fi), .val (.int (3 : Int32)), .val (.ref b802), .val (.int ix), .unset, .unset, .unset, .unset, .unset, .unset] [(.ref b906)]))
      refine own_st (fun _ kQ => XS.astore Xp948.here hx rfl (hb hby at_115) rfl rfl (l' := #[.val (.int p1), .val (.int p2), .val (.int p3), .val (.int ix), .val (.int p5), .val (.int fi), .val (.int (3 : Int32)), .val (.ref b802), .val (.int ix), .val (.ref b906), .unset, .unset, .unset, .unset, .unset]) rfl kQ) ?_
      show own_Go p e below s _ _ _ (T922.setTop (mkF m 117 #[.val (.int p1), .val (.int p2), .val (.int p3), .val (.int ix), .val (.int p5), .val (.int fi), .val (.int (3 : Int32)), .val (.ref b802), .val (.int ix), .val (.ref b906), .unset, .unset, .unset, .unset, .unset] []))
      refine own_st (fun _ kQ => XS.iload Xp948.here hx rfl (hb hby at_117) rfl kQ) ?_
      show own_Go p e below s _ _ _ (T922.setTop (mkF m 119 #[.val (.int p1), .val (.int p2), .val (.int p3), .val (.int ix), .val (.int p5), .val (.int fi), .val (.int (3 : Int32)), .val (.ref b802), .val (.int ix), .val (.ref b906), .unset, .unset, .unset, .unset, .unset] [(.int fi)]))
      refine own_st (fun _ kQ => XT.i2l Xp948.here hx rfl (hb hby at_119) rfl kQ) ?_
      show own_Go p e below s _ _ _ (T922.setTop (mkF m 120 #[.val (.int p1), .val (.int p2), .val (.int p3), .val (.int ix), .val (.int p5), .val (.int fi), .val (.int (3 : Int32)), .val (.ref b802), .val (.int ix), .val (.ref b906), .unset, .unset, .unset, .unset, .unset] [(.long (fi.toInt64))]))
      refine own_st (fun _ kQ => XT.lstore Xp948.here hx rfl (hb hby at_120) rfl (l' := #[.val (.int p1), .val (.int p2), .val (.int p3), .val (.int ix), .val (.int p5), .val (.int fi), .val (.int (3 : Int32)), .val (.ref b802), .val (.int ix), .val (.ref b906), .val (.long (fi.toInt64)), .second, .unset, .unset, .unset]) rfl kQ) ?_
      show own_Go p e below s _ _ _ (T922.setTop (mkF m 122 #[.val (.int p1), .val (.int p2), .val (.int p3), .val (.int ix), .val (.int p5), .val (.int fi), .val (.int (3 : Int32)), .val (.ref b802), .val (.int ix), .val (.ref b906), .val (.long (fi.toInt64)), .second, .unset, .unset, .unset] []))
      refine own_st (fun _ kQ => XS.iload Xp948.here hx rfl (hb hby at_122) rfl kQ) ?_
      show own_Go p e below s _ _ _ (T922.setTop (mkF m 124 #[.val (.int p1), .val (.int p2), .val (.int p3), .val (.int ix), .val (.int p5), .val (.int fi), .val (.int (3 : Int32)), .val (.ref b802), .val (.int ix), .val (.ref b906), .val (.long (fi.toInt64)), .second, .unset, .unset, .unset] [(.int fi)]))
      refine own_st (fun _ kQ => XT.i2l Xp948.here hx rfl (hb hby at_124) rfl kQ) ?_
      show own_Go p e below s _ _ _ (T922.setTop (mkF m 125 #[.val (.int p1), .val (.int p2), .val (.int p3), .val (.int ix), .val (.int p5), .val (.int fi), .val (.int (3 : Int32)), .val (.ref b802), .val (.int ix), .val (.ref b906), .val (.long (fi.toInt64)), .second, .unset, .unset, .unset] [(.long (fi.toInt64))]))
      refine own_st (fun _ kQ => XS.iload Xp948.here hx rfl (hb hby at_125) rfl kQ) ?_
      show own_Go p e below s _ _ _ (T922.setTop (mkF m 127 #[.val (.int p1), .val (.int p2), .val (.int p3), .val (.int ix), .val (.int p5), .val (.int fi), .val (.int (3 : Int32)), .val (.ref b802), .val (.int ix), .val (.ref b906), .val (.long (fi.toInt64)), .second, .unset, .unset, .unset] [(.int (3 : Int32)), (.long (fi.toInt64))]))
      refine own_st (fun _ kQ => XT.i2l Xp948.here hx rfl (hb hby at_127) rfl kQ) ?_
      show own_Go p e below s _ _ _ (T922.setTop (mkF m 128 #[.val (.int p1), .val (.int p2), .val (.int p3), .val (.int ix), .val (.int p5), .val (.int fi), .val (.int (3 : Int32)), .val (.ref b802), .val (.int ix), .val (.ref b906), .val (.long (fi.toInt64)), .second, .unset, .unset, .unset] [(.long ((3 : Int32).toInt64)), (.long (fi.toInt64))]))
      refine own_st (fun _ kQ => XT.ladd Xp948.here hx rfl (hb hby at_128) rfl kQ) ?_
      show own_Go p e below s _ _ _ (T922.setTop (mkF m 129 #[.val (.int p1), .val (.int p2), .val (.int p3), .val (.int ix), .val (.int p5), .val (.int fi), .val (.int (3 : Int32)), .val (.ref b802), .val (.int ix), .val (.ref b906), .val (.long (fi.toInt64)), .second, .unset, .unset, .unset] [(.long ((fi.toInt64) + ((3 : Int32).toInt64)))]))
      refine own_st (fun _ kQ => XT.lstore Xp948.here hx rfl (hb hby at_129) rfl (l' := #[.val (.int p1), .val (.int p2), .val (.int p3), .val (.int ix), .val (.int p5), .val (.int fi), .val (.int (3 : Int32)), .val (.ref b802), .val (.int ix), .val (.ref b906), .val (.long (fi.toInt64)), .second, .val (.long ((fi.toInt64) + ((3 : Int32).toInt64))), .second, .unset]) rfl kQ) ?_
      show own_Go p e below s _ _ _ (T922.setTop (mkF m 131 #[.val (.int p1), .val (.int p2), .val (.int p3), .val (.int ix), .val (.int p5), .val (.int fi), .val (.int (3 : Int32)), .val (.ref b802), .val (.int ix), .val (.ref b906), .val (.long (fi.toInt64)), .second, .val (.long ((fi.toInt64) + ((3 : Int32).toInt64))), .second, .unset] []))
      refine own_st (fun _ kQ => XS.iload Xp948.here hx rfl (hb hby at_131) rfl kQ) ?_
      show own_Go p e below s _ _ _ (T922.setTop (mkF m 133 #[.val (.int p1), .val (.int p2), .val (.int p3), .val (.int ix), .val (.int p5), .val (.int fi), .val (.int (3 : Int32)), .val (.ref b802), .val (.int ix), .val (.ref b906), .val (.long (fi.toInt64)), .second, .val (.long ((fi.toInt64) + ((3 : Int32).toInt64))), .second, .unset] [(.int ix)]))
      refine own_st (fun _ kQ => XT.i2l Xp948.here hx rfl (hb hby at_133) rfl kQ) ?_
      show own_Go p e below s _ _ _ (T922.setTop (mkF m 134 #[.val (.int p1), .val (.int p2), .val (.int p3), .val (.int ix), .val (.int p5), .val (.int fi), .val (.int (3 : Int32)), .val (.ref b802), .val (.int ix), .val (.ref b906), .val (.long (fi.toInt64)), .second, .val (.long ((fi.toInt64) + ((3 : Int32).toInt64))), .second, .unset] [(.long (ix.toInt64))]))
      refine own_st (fun _ kQ => XT.lload Xp948.here hx rfl (hb hby at_134) rfl kQ) ?_
      show own_Go p e below s _ _ _ (T922.setTop (mkF m 136 #[.val (.int p1), .val (.int p2), .val (.int p3), .val (.int ix), .val (.int p5), .val (.int fi), .val (.int (3 : Int32)), .val (.ref b802), .val (.int ix), .val (.ref b906), .val (.long (fi.toInt64)), .second, .val (.long ((fi.toInt64) + ((3 : Int32).toInt64))), .second, .unset] [(.long (fi.toInt64)), (.long (ix.toInt64))]))
      refine own_st (fun _ kQ => XT.lcmp Xp948.here hx rfl (hb hby at_136) rfl kQ) ?_
      show own_Go p e below s _ _ _ (T922.setTop (mkF m 137 #[.val (.int p1), .val (.int p2), .val (.int p3), .val (.int ix), .val (.int p5), .val (.int fi), .val (.int (3 : Int32)), .val (.ref b802), .val (.int ix), .val (.ref b906), .val (.long (fi.toInt64)), .second, .val (.long ((fi.toInt64) + ((3 : Int32).toInt64))), .second, .unset] [(.int (XT.cmpL (ix.toInt64) (fi.toInt64)))]))
      by_cases hc949 : (ix.toInt64) < (fi.toInt64)
      · refine own_st (fun _ kQ => XS.ifYes Xp948.here hx rfl (pc0 := 137) (pc' := 153) rfl (hb hby at_137) rfl (XT.ll_lt_t hc949) (by decide) (by decide) kQ) ?_
        show own_Go p e below s _ _ _ (T922.setTop (mkF m 153 #[.val (.int p1), .val (.int p2), .val (.int p3), .val (.int ix), .val (.int p5), .val (.int fi), .val (.int (3 : Int32)), .val (.ref b802), .val (.int ix), .val (.ref b906), .val (.long (fi.toInt64)), .second, .val (.long ((fi.toInt64) + ((3 : Int32).toInt64))), .second, .unset] []))
        refine own_st (fun _ kQ => XT.iconstV Xp948.here hx rfl (0 : Int32) (hb hby at_153) (by decide) kQ) ?_
        show own_Go p e below s _ _ _ (T922.setTop (mkF m 154 #[.val (.int p1), .val (.int p2), .val (.int p3), .val (.int ix), .val (.int p5), .val (.int fi), .val (.int (3 : Int32)), .val (.ref b802), .val (.int ix), .val (.ref b906), .val (.long (fi.toInt64)), .second, .val (.long ((fi.toInt64) + ((3 : Int32).toInt64))), .second, .unset] [(.int (0 : Int32))]))
        refine own_st (fun _ kQ => XS.istore Xp948.here hx rfl (hb hby at_154) rfl (l' := #[.val (.int p1), .val (.int p2), .val (.int p3), .val (.int ix), .val (.int p5), .val (.int fi), .val (.int (3 : Int32)), .val (.ref b802), .val (.int ix), .val (.ref b906), .val (.long (fi.toInt64)), .second, .val (.long ((fi.toInt64) + ((3 : Int32).toInt64))), .second, .val (.int (0 : Int32))]) rfl kQ) ?_
        show own_Go p e below s _ _ _ (T922.setTop (mkF m 156 #[.val (.int p1), .val (.int p2), .val (.int p3), .val (.int ix), .val (.int p5), .val (.int fi), .val (.int (3 : Int32)), .val (.ref b802), .val (.int ix), .val (.ref b906), .val (.long (fi.toInt64)), .second, .val (.long ((fi.toInt64) + ((3 : Int32).toInt64))), .second, .val (.int (0 : Int32))] []))
        refine own_st (fun _ kQ => XS.aload Xp948.here hx rfl (hb hby at_156) rfl rfl kQ) ?_
        show own_Go p e below s _ _ _ (T922.setTop (mkF m 158 #[.val (.int p1), .val (.int p2), .val (.int p3), .val (.int ix), .val (.int p5), .val (.int fi), .val (.int (3 : Int32)), .val (.ref b802), .val (.int ix), .val (.ref b906), .val (.long (fi.toInt64)), .second, .val (.long ((fi.toInt64) + ((3 : Int32).toInt64))), .second, .val (.int (0 : Int32))] [(.ref b906)]))
        refine own_st (fun _ kQ => XS.iload Xp948.here hx rfl (hb hby at_158) rfl kQ) ?_
        show own_Go p e below s _ _ _ (T922.setTop (mkF m 160 #[.val (.int p1), .val (.int p2), .val (.int p3), .val (.int ix), .val (.int p5), .val (.int fi), .val (.int (3 : Int32)), .val (.ref b802), .val (.int ix), .val (.ref b906), .val (.long (fi.toInt64)), .second, .val (.long ((fi.toInt64) + ((3 : Int32).toInt64))), .second, .val (.int (0 : Int32))] [(.int ix), (.ref b906)]))
        have F951 : Exa Z T922.heap b802 "java/util/ArrayList" := (F923.keep K922)
        have F952 : Fld Z T922.heap b802 "java/util/ArrayList" "size" "I" (.int (3 : Int32)) := ((q896.ext E906).keep K922 (ninS ne913 nin0))
        obtain ⟨cq950, kq950, q950a, q950b, q950c⟩ := isOf hZ rfl q925
        obtain ⟨_, _, ⟨T950, L950, k950, n950⟩, -, X950, ⟨Lc950, hQ950, l950, y950, z950⟩, st950⟩ := Xp948.virtualBack hx (y := (⟨"com/example/rationed_session/rationedsession/model/Partition", "holds", "(I)Z"⟩ : MethodName)) (z := (⟨"com/example/rationed_session/rationedsession/model/Partition", "holds", "(I)Z"⟩ : MethodName)) hown (mvT hZ (hw _ (List.mem_of_getElem? (i := 121) rfl))) (mvT hZ (hw _ (List.mem_of_getElem? (i := 122) rfl))) (notFace_of_selects (args := #[]) (mvT hZ (hw _ (List.mem_of_getElem? (i := 124) rfl)))) (mvT hZ (hw _ (List.mem_of_getElem? (i := 124) rfl))) (mvT hZ (hw _ (List.mem_of_getElem? (i := 123) rfl))) (by decide) (backOf (W := 0) (own_rm_holdsU l Z a0 hw [] x924 b906 b802 ix fi (3 : Int32) T922.heap n0 Zs940 q928 q930 q931 F951 q927 F952) hZ (hw _ (List.mem_of_getElem? (i := 125) rfl)) (hw _ (List.mem_of_getElem? (i := 67) rfl)) (by decide) (by decide)) q950a q950c (g := (mkF m 160 #[.val (.int p1), .val (.int p2), .val (.int p3), .val (.int ix), .val (.int p5), .val (.int fi), .val (.int (3 : Int32)), .val (.ref b802), .val (.int ix), .val (.ref b906), .val (.long (fi.toInt64)), .second, .val (.long ((fi.toInt64) + ((3 : Int32).toInt64))), .second, .val (.int (0 : Int32))] [(.int ix), (.ref b906)])) rfl (by rw [hml]; rfl) (Steps.refl _) (argsL := [(.int ix)]) (rest := []) (lenOf own_pd13 rfl) rfl (by show 2 * 0 + _ ≤ _; exact Nat.le_of_eq rfl) (hb hby at_160) (fun _ _ => ⟨rfl, rfl, (by decide : 7 + 0 ≤ _), (by decide : 21 + 0 ≤ _)⟩)
        dsimp only [Pt.U, Pt.locs, Pt.cells, Pt.slots] at X950 l950 y950 z950 st950 hQ950
        subst l950 y950 z950
        obtain ⟨N950q, rfl, eh950⟩ := hQ950
        have N953 := Fr.app Np948 N950q
        refine own_tr st950 ?_
        show own_Go p e below s _ _ _ (T950.setTop (mkF m 163 #[.val (.int p1), .val (.int p2), .val (.int p3), .val (.int ix), .val (.int p5), .val (.int fi), .val (.int (3 : Int32)), .val (.ref b802), .val (.int ix), .val (.ref b906), .val (.long (fi.toInt64)), .second, .val (.long ((fi.toInt64) + ((3 : Int32).toInt64))), .second, .val (.int (0 : Int32))] [(.int (if ix < fi then (0 : Int32) else if ix - fi < (3 : Int32) then 1 else 0))]))
        refine own_st (fun _ kQ => XS.iload X950.here hx rfl (hb hby at_163) rfl kQ) ?_
        show own_Go p e below s _ _ _ (T950.setTop (mkF m 165 #[.val (.int p1), .val (.int p2), .val (.int p3), .val (.int ix), .val (.int p5), .val (.int fi), .val (.int (3 : Int32)), .val (.ref b802), .val (.int ix), .val (.ref b906), .val (.long (fi.toInt64)), .second, .val (.long ((fi.toInt64) + ((3 : Int32).toInt64))), .second, .val (.int (0 : Int32))] [(.int (0 : Int32)), (.int (if ix < fi then (0 : Int32) else if ix - fi < (3 : Int32) then 1 else 0))]))
        refine own_st (fun _ kQ => XS.icmpNo X950.here hx rfl (hb hby at_165) rfl (XT.ii_ne_f (by rw [if_pos ((own_lt64 _ _).mp hc949)])) kQ) ?_
        show own_Go p e below s _ _ _ (T950.setTop (mkF m 168 #[.val (.int p1), .val (.int p2), .val (.int p3), .val (.int ix), .val (.int p5), .val (.int fi), .val (.int (3 : Int32)), .val (.ref b802), .val (.int ix), .val (.ref b906), .val (.long (fi.toInt64)), .second, .val (.long ((fi.toInt64) + ((3 : Int32).toInt64))), .second, .val (.int (0 : Int32))] []))
        refine own_st (fun _ kQ => XT.iconstV X950.here hx rfl (1 : Int32) (hb hby at_168) (by decide) kQ) ?_
        show own_Go p e below s _ _ _ (T950.setTop (mkF m 169 #[.val (.int p1), .val (.int p2), .val (.int p3), .val (.int ix), .val (.int p5), .val (.int fi), .val (.int (3 : Int32)), .val (.ref b802), .val (.int ix), .val (.ref b906), .val (.long (fi.toInt64)), .second, .val (.long ((fi.toInt64) + ((3 : Int32).toInt64))), .second, .val (.int (0 : Int32))] [(.int (1 : Int32))]))
        refine own_st (fun _ kQ => XS.goto X950.here hx rfl (pc0 := 169) (pc' := 173) rfl (hb hby at_169) (by decide) (by decide) kQ) ?_
        show own_Go p e below s _ _ _ (T950.setTop (mkF m 173 #[.val (.int p1), .val (.int p2), .val (.int p3), .val (.int ix), .val (.int p5), .val (.int fi), .val (.int (3 : Int32)), .val (.ref b802), .val (.int ix), .val (.ref b906), .val (.long (fi.toInt64)), .second, .val (.long ((fi.toInt64) + ((3 : Int32).toInt64))), .second, .val (.int (0 : Int32))] [(.int (1 : Int32))]))
        refine own_retN X950 hx hlk Bd.returns (t := .boolean) (z' := (1 : Int32)) (by simp) (by decide) (hb hby at_173) (by decide) (by decide) ?_
        rw [eh950]
        exact ⟨N953, rfl⟩
      · refine own_st (fun _ kQ => XS.ifNo Xp948.here hx rfl (hb hby at_137) rfl (XT.ll_lt_f hc949) kQ) ?_
        show own_Go p e below s _ _ _ (T922.setTop (mkF m 140 #[.val (.int p1), .val (.int p2), .val (.int p3), .val (.int ix), .val (.int p5), .val (.int fi), .val (.int (3 : Int32)), .val (.ref b802), .val (.int ix), .val (.ref b906), .val (.long (fi.toInt64)), .second, .val (.long ((fi.toInt64) + ((3 : Int32).toInt64))), .second, .unset] []))
        refine own_st (fun _ kQ => XS.iload Xp948.here hx rfl (hb hby at_140) rfl kQ) ?_
        show own_Go p e below s _ _ _ (T922.setTop (mkF m 142 #[.val (.int p1), .val (.int p2), .val (.int p3), .val (.int ix), .val (.int p5), .val (.int fi), .val (.int (3 : Int32)), .val (.ref b802), .val (.int ix), .val (.ref b906), .val (.long (fi.toInt64)), .second, .val (.long ((fi.toInt64) + ((3 : Int32).toInt64))), .second, .unset] [(.int ix)]))
        refine own_st (fun _ kQ => XT.i2l Xp948.here hx rfl (hb hby at_142) rfl kQ) ?_
        show own_Go p e below s _ _ _ (T922.setTop (mkF m 143 #[.val (.int p1), .val (.int p2), .val (.int p3), .val (.int ix), .val (.int p5), .val (.int fi), .val (.int (3 : Int32)), .val (.ref b802), .val (.int ix), .val (.ref b906), .val (.long (fi.toInt64)), .second, .val (.long ((fi.toInt64) + ((3 : Int32).toInt64))), .second, .unset] [(.long (ix.toInt64))]))
        refine own_st (fun _ kQ => XT.lload Xp948.here hx rfl (hb hby at_143) rfl kQ) ?_
        show own_Go p e below s _ _ _ (T922.setTop (mkF m 145 #[.val (.int p1), .val (.int p2), .val (.int p3), .val (.int ix), .val (.int p5), .val (.int fi), .val (.int (3 : Int32)), .val (.ref b802), .val (.int ix), .val (.ref b906), .val (.long (fi.toInt64)), .second, .val (.long ((fi.toInt64) + ((3 : Int32).toInt64))), .second, .unset] [(.long ((fi.toInt64) + ((3 : Int32).toInt64))), (.long (ix.toInt64))]))
        refine own_st (fun _ kQ => XT.lcmp Xp948.here hx rfl (hb hby at_145) rfl kQ) ?_
        show own_Go p e below s _ _ _ (T922.setTop (mkF m 146 #[.val (.int p1), .val (.int p2), .val (.int p3), .val (.int ix), .val (.int p5), .val (.int fi), .val (.int (3 : Int32)), .val (.ref b802), .val (.int ix), .val (.ref b906), .val (.long (fi.toInt64)), .second, .val (.long ((fi.toInt64) + ((3 : Int32).toInt64))), .second, .unset] [(.int (XT.cmpL (ix.toInt64) ((fi.toInt64) + ((3 : Int32).toInt64))))]))
        by_cases hc954 : (ix.toInt64) < ((fi.toInt64) + ((3 : Int32).toInt64))
        · refine own_st (fun _ kQ => XS.ifNo Xp948.here hx rfl (hb hby at_146) rfl (XT.ll_ge_f hc954) kQ) ?_
          show own_Go p e below s _ _ _ (T922.setTop (mkF m 149 #[.val (.int p1), .val (.int p2), .val (.int p3), .val (.int ix), .val (.int p5), .val (.int fi), .val (.int (3 : Int32)), .val (.ref b802), .val (.int ix), .val (.ref b906), .val (.long (fi.toInt64)), .second, .val (.long ((fi.toInt64) + ((3 : Int32).toInt64))), .second, .unset] []))
          refine own_st (fun _ kQ => XT.iconstV Xp948.here hx rfl (1 : Int32) (hb hby at_149) (by decide) kQ) ?_
          show own_Go p e below s _ _ _ (T922.setTop (mkF m 150 #[.val (.int p1), .val (.int p2), .val (.int p3), .val (.int ix), .val (.int p5), .val (.int fi), .val (.int (3 : Int32)), .val (.ref b802), .val (.int ix), .val (.ref b906), .val (.long (fi.toInt64)), .second, .val (.long ((fi.toInt64) + ((3 : Int32).toInt64))), .second, .unset] [(.int (1 : Int32))]))
          refine own_st (fun _ kQ => XS.goto Xp948.here hx rfl (pc0 := 150) (pc' := 154) rfl (hb hby at_150) (by decide) (by decide) kQ) ?_
          show own_Go p e below s _ _ _ (T922.setTop (mkF m 154 #[.val (.int p1), .val (.int p2), .val (.int p3), .val (.int ix), .val (.int p5), .val (.int fi), .val (.int (3 : Int32)), .val (.ref b802), .val (.int ix), .val (.ref b906), .val (.long (fi.toInt64)), .second, .val (.long ((fi.toInt64) + ((3 : Int32).toInt64))), .second, .unset] [(.int (1 : Int32))]))
          refine own_st (fun _ kQ => XS.istore Xp948.here hx rfl (hb hby at_154) rfl (l' := #[.val (.int p1), .val (.int p2), .val (.int p3), .val (.int ix), .val (.int p5), .val (.int fi), .val (.int (3 : Int32)), .val (.ref b802), .val (.int ix), .val (.ref b906), .val (.long (fi.toInt64)), .second, .val (.long ((fi.toInt64) + ((3 : Int32).toInt64))), .second, .val (.int (1 : Int32))]) rfl kQ) ?_
          show own_Go p e below s _ _ _ (T922.setTop (mkF m 156 #[.val (.int p1), .val (.int p2), .val (.int p3), .val (.int ix), .val (.int p5), .val (.int fi), .val (.int (3 : Int32)), .val (.ref b802), .val (.int ix), .val (.ref b906), .val (.long (fi.toInt64)), .second, .val (.long ((fi.toInt64) + ((3 : Int32).toInt64))), .second, .val (.int (1 : Int32))] []))
          refine own_st (fun _ kQ => XS.aload Xp948.here hx rfl (hb hby at_156) rfl rfl kQ) ?_
          show own_Go p e below s _ _ _ (T922.setTop (mkF m 158 #[.val (.int p1), .val (.int p2), .val (.int p3), .val (.int ix), .val (.int p5), .val (.int fi), .val (.int (3 : Int32)), .val (.ref b802), .val (.int ix), .val (.ref b906), .val (.long (fi.toInt64)), .second, .val (.long ((fi.toInt64) + ((3 : Int32).toInt64))), .second, .val (.int (1 : Int32))] [(.ref b906)]))
          refine own_st (fun _ kQ => XS.iload Xp948.here hx rfl (hb hby at_158) rfl kQ) ?_
          show own_Go p e below s _ _ _ (T922.setTop (mkF m 160 #[.val (.int p1), .val (.int p2), .val (.int p3), .val (.int ix), .val (.int p5), .val (.int fi), .val (.int (3 : Int32)), .val (.ref b802), .val (.int ix), .val (.ref b906), .val (.long (fi.toInt64)), .second, .val (.long ((fi.toInt64) + ((3 : Int32).toInt64))), .second, .val (.int (1 : Int32))] [(.int ix), (.ref b906)]))
          have F956 : Exa Z T922.heap b802 "java/util/ArrayList" := (F923.keep K922)
          have F957 : Fld Z T922.heap b802 "java/util/ArrayList" "size" "I" (.int (3 : Int32)) := ((q896.ext E906).keep K922 (ninS ne913 nin0))
          obtain ⟨cq955, kq955, q955a, q955b, q955c⟩ := isOf hZ rfl q925
          obtain ⟨_, _, ⟨T955, L955, k955, n955⟩, -, X955, ⟨Lc955, hQ955, l955, y955, z955⟩, st955⟩ := Xp948.virtualBack hx (y := (⟨"com/example/rationed_session/rationedsession/model/Partition", "holds", "(I)Z"⟩ : MethodName)) (z := (⟨"com/example/rationed_session/rationedsession/model/Partition", "holds", "(I)Z"⟩ : MethodName)) hown (mvT hZ (hw _ (List.mem_of_getElem? (i := 121) rfl))) (mvT hZ (hw _ (List.mem_of_getElem? (i := 122) rfl))) (notFace_of_selects (args := #[]) (mvT hZ (hw _ (List.mem_of_getElem? (i := 124) rfl)))) (mvT hZ (hw _ (List.mem_of_getElem? (i := 124) rfl))) (mvT hZ (hw _ (List.mem_of_getElem? (i := 123) rfl))) (by decide) (backOf (W := 0) (own_rm_holdsU l Z a0 hw [] x924 b906 b802 ix fi (3 : Int32) T922.heap n0 Zs940 q928 q930 q931 F956 q927 F957) hZ (hw _ (List.mem_of_getElem? (i := 125) rfl)) (hw _ (List.mem_of_getElem? (i := 67) rfl)) (by decide) (by decide)) q955a q955c (g := (mkF m 160 #[.val (.int p1), .val (.int p2), .val (.int p3), .val (.int ix), .val (.int p5), .val (.int fi), .val (.int (3 : Int32)), .val (.ref b802), .val (.int ix), .val (.ref b906), .val (.long (fi.toInt64)), .second, .val (.long ((fi.toInt64) + ((3 : Int32).toInt64))), .second, .val (.int (1 : Int32))] [(.int ix), (.ref b906)])) rfl (by rw [hml]; rfl) (Steps.refl _) (argsL := [(.int ix)]) (rest := []) (lenOf own_pd13 rfl) rfl (by show 2 * 0 + _ ≤ _; exact Nat.le_of_eq rfl) (hb hby at_160) (fun _ _ => ⟨rfl, rfl, (by decide : 7 + 0 ≤ _), (by decide : 21 + 0 ≤ _)⟩)
          dsimp only [Pt.U, Pt.locs, Pt.cells, Pt.slots] at X955 l955 y955 z955 st955 hQ955
          subst l955 y955 z955
          obtain ⟨N955q, rfl, eh955⟩ := hQ955
          have N958 := Fr.app Np948 N955q
          refine own_tr st955 ?_
          show own_Go p e below s _ _ _ (T955.setTop (mkF m 163 #[.val (.int p1), .val (.int p2), .val (.int p3), .val (.int ix), .val (.int p5), .val (.int fi), .val (.int (3 : Int32)), .val (.ref b802), .val (.int ix), .val (.ref b906), .val (.long (fi.toInt64)), .second, .val (.long ((fi.toInt64) + ((3 : Int32).toInt64))), .second, .val (.int (1 : Int32))] [(.int (if ix < fi then (0 : Int32) else if ix - fi < (3 : Int32) then 1 else 0))]))
          refine own_st (fun _ kQ => XS.iload X955.here hx rfl (hb hby at_163) rfl kQ) ?_
          show own_Go p e below s _ _ _ (T955.setTop (mkF m 165 #[.val (.int p1), .val (.int p2), .val (.int p3), .val (.int ix), .val (.int p5), .val (.int fi), .val (.int (3 : Int32)), .val (.ref b802), .val (.int ix), .val (.ref b906), .val (.long (fi.toInt64)), .second, .val (.long ((fi.toInt64) + ((3 : Int32).toInt64))), .second, .val (.int (1 : Int32))] [(.int (1 : Int32)), (.int (if ix < fi then (0 : Int32) else if ix - fi < (3 : Int32) then 1 else 0))]))
          refine own_st (fun _ kQ => XS.icmpNo X955.here hx rfl (hb hby at_165) rfl (XT.ii_ne_f (by rw [if_neg (fun q => hc949 ((own_lt64 _ _).mpr q)), if_pos ((own_hl _ _ (3 : Int32) hfi (by decide) (by decide) (fun q => hc949 ((own_lt64 _ _).mpr q))).mp hc954)])) kQ) ?_
          show own_Go p e below s _ _ _ (T955.setTop (mkF m 168 #[.val (.int p1), .val (.int p2), .val (.int p3), .val (.int ix), .val (.int p5), .val (.int fi), .val (.int (3 : Int32)), .val (.ref b802), .val (.int ix), .val (.ref b906), .val (.long (fi.toInt64)), .second, .val (.long ((fi.toInt64) + ((3 : Int32).toInt64))), .second, .val (.int (1 : Int32))] []))
          refine own_st (fun _ kQ => XT.iconstV X955.here hx rfl (1 : Int32) (hb hby at_168) (by decide) kQ) ?_
          show own_Go p e below s _ _ _ (T955.setTop (mkF m 169 #[.val (.int p1), .val (.int p2), .val (.int p3), .val (.int ix), .val (.int p5), .val (.int fi), .val (.int (3 : Int32)), .val (.ref b802), .val (.int ix), .val (.ref b906), .val (.long (fi.toInt64)), .second, .val (.long ((fi.toInt64) + ((3 : Int32).toInt64))), .second, .val (.int (1 : Int32))] [(.int (1 : Int32))]))
          refine own_st (fun _ kQ => XS.goto X955.here hx rfl (pc0 := 169) (pc' := 173) rfl (hb hby at_169) (by decide) (by decide) kQ) ?_
          show own_Go p e below s _ _ _ (T955.setTop (mkF m 173 #[.val (.int p1), .val (.int p2), .val (.int p3), .val (.int ix), .val (.int p5), .val (.int fi), .val (.int (3 : Int32)), .val (.ref b802), .val (.int ix), .val (.ref b906), .val (.long (fi.toInt64)), .second, .val (.long ((fi.toInt64) + ((3 : Int32).toInt64))), .second, .val (.int (1 : Int32))] [(.int (1 : Int32))]))
          refine own_retN X955 hx hlk Bd.returns (t := .boolean) (z' := (1 : Int32)) (by simp) (by decide) (hb hby at_173) (by decide) (by decide) ?_
          rw [eh955]
          exact ⟨N958, rfl⟩
        · refine own_st (fun _ kQ => XS.ifYes Xp948.here hx rfl (pc0 := 146) (pc' := 153) rfl (hb hby at_146) rfl (XT.ll_ge_t hc954) (by decide) (by decide) kQ) ?_
          show own_Go p e below s _ _ _ (T922.setTop (mkF m 153 #[.val (.int p1), .val (.int p2), .val (.int p3), .val (.int ix), .val (.int p5), .val (.int fi), .val (.int (3 : Int32)), .val (.ref b802), .val (.int ix), .val (.ref b906), .val (.long (fi.toInt64)), .second, .val (.long ((fi.toInt64) + ((3 : Int32).toInt64))), .second, .unset] []))
          refine own_st (fun _ kQ => XT.iconstV Xp948.here hx rfl (0 : Int32) (hb hby at_153) (by decide) kQ) ?_
          show own_Go p e below s _ _ _ (T922.setTop (mkF m 154 #[.val (.int p1), .val (.int p2), .val (.int p3), .val (.int ix), .val (.int p5), .val (.int fi), .val (.int (3 : Int32)), .val (.ref b802), .val (.int ix), .val (.ref b906), .val (.long (fi.toInt64)), .second, .val (.long ((fi.toInt64) + ((3 : Int32).toInt64))), .second, .unset] [(.int (0 : Int32))]))
          refine own_st (fun _ kQ => XS.istore Xp948.here hx rfl (hb hby at_154) rfl (l' := #[.val (.int p1), .val (.int p2), .val (.int p3), .val (.int ix), .val (.int p5), .val (.int fi), .val (.int (3 : Int32)), .val (.ref b802), .val (.int ix), .val (.ref b906), .val (.long (fi.toInt64)), .second, .val (.long ((fi.toInt64) + ((3 : Int32).toInt64))), .second, .val (.int (0 : Int32))]) rfl kQ) ?_
          show own_Go p e below s _ _ _ (T922.setTop (mkF m 156 #[.val (.int p1), .val (.int p2), .val (.int p3), .val (.int ix), .val (.int p5), .val (.int fi), .val (.int (3 : Int32)), .val (.ref b802), .val (.int ix), .val (.ref b906), .val (.long (fi.toInt64)), .second, .val (.long ((fi.toInt64) + ((3 : Int32).toInt64))), .second, .val (.int (0 : Int32))] []))
          refine own_st (fun _ kQ => XS.aload Xp948.here hx rfl (hb hby at_156) rfl rfl kQ) ?_
          show own_Go p e below s _ _ _ (T922.setTop (mkF m 158 #[.val (.int p1), .val (.int p2), .val (.int p3), .val (.int ix), .val (.int p5), .val (.int fi), .val (.int (3 : Int32)), .val (.ref b802), .val (.int ix), .val (.ref b906), .val (.long (fi.toInt64)), .second, .val (.long ((fi.toInt64) + ((3 : Int32).toInt64))), .second, .val (.int (0 : Int32))] [(.ref b906)]))
          refine own_st (fun _ kQ => XS.iload Xp948.here hx rfl (hb hby at_158) rfl kQ) ?_
          show own_Go p e below s _ _ _ (T922.setTop (mkF m 160 #[.val (.int p1), .val (.int p2), .val (.int p3), .val (.int ix), .val (.int p5), .val (.int fi), .val (.int (3 : Int32)), .val (.ref b802), .val (.int ix), .val (.ref b906), .val (.long (fi.toInt64)), .second, .val (.long ((fi.toInt64) + ((3 : Int32).toInt64))), .second, .val (.int (0 : Int32))] [(.int ix), (.ref b906)]))
          have F960 : Exa Z T922.heap b802 "java/util/ArrayList" := (F923.keep K922)
          have F961 : Fld Z T922.heap b802 "java/util/ArrayList" "size" "I" (.int (3 : Int32)) := ((q896.ext E906).keep K922 (ninS ne913 nin0))
          obtain ⟨cq959, kq959, q959a, q959b, q959c⟩ := isOf hZ rfl q925
          obtain ⟨_, _, ⟨T959, L959, k959, n959⟩, -, X959, ⟨Lc959, hQ959, l959, y959, z959⟩, st959⟩ := Xp948.virtualBack hx (y := (⟨"com/example/rationed_session/rationedsession/model/Partition", "holds", "(I)Z"⟩ : MethodName)) (z := (⟨"com/example/rationed_session/rationedsession/model/Partition", "holds", "(I)Z"⟩ : MethodName)) hown (mvT hZ (hw _ (List.mem_of_getElem? (i := 121) rfl))) (mvT hZ (hw _ (List.mem_of_getElem? (i := 122) rfl))) (notFace_of_selects (args := #[]) (mvT hZ (hw _ (List.mem_of_getElem? (i := 124) rfl)))) (mvT hZ (hw _ (List.mem_of_getElem? (i := 124) rfl))) (mvT hZ (hw _ (List.mem_of_getElem? (i := 123) rfl))) (by decide) (backOf (W := 0) (own_rm_holdsU l Z a0 hw [] x924 b906 b802 ix fi (3 : Int32) T922.heap n0 Zs940 q928 q930 q931 F960 q927 F961) hZ (hw _ (List.mem_of_getElem? (i := 125) rfl)) (hw _ (List.mem_of_getElem? (i := 67) rfl)) (by decide) (by decide)) q959a q959c (g := (mkF m 160 #[.val (.int p1), .val (.int p2), .val (.int p3), .val (.int ix), .val (.int p5), .val (.int fi), .val (.int (3 : Int32)), .val (.ref b802), .val (.int ix), .val (.ref b906), .val (.long (fi.toInt64)), .second, .val (.long ((fi.toInt64) + ((3 : Int32).toInt64))), .second, .val (.int (0 : Int32))] [(.int ix), (.ref b906)])) rfl (by rw [hml]; rfl) (Steps.refl _) (argsL := [(.int ix)]) (rest := []) (lenOf own_pd13 rfl) rfl (by show 2 * 0 + _ ≤ _; exact Nat.le_of_eq rfl) (hb hby at_160) (fun _ _ => ⟨rfl, rfl, (by decide : 7 + 0 ≤ _), (by decide : 21 + 0 ≤ _)⟩)
          dsimp only [Pt.U, Pt.locs, Pt.cells, Pt.slots] at X959 l959 y959 z959 st959 hQ959
          subst l959 y959 z959
          obtain ⟨N959q, rfl, eh959⟩ := hQ959
          have N962 := Fr.app Np948 N959q
          refine own_tr st959 ?_
          show own_Go p e below s _ _ _ (T959.setTop (mkF m 163 #[.val (.int p1), .val (.int p2), .val (.int p3), .val (.int ix), .val (.int p5), .val (.int fi), .val (.int (3 : Int32)), .val (.ref b802), .val (.int ix), .val (.ref b906), .val (.long (fi.toInt64)), .second, .val (.long ((fi.toInt64) + ((3 : Int32).toInt64))), .second, .val (.int (0 : Int32))] [(.int (if ix < fi then (0 : Int32) else if ix - fi < (3 : Int32) then 1 else 0))]))
          refine own_st (fun _ kQ => XS.iload X959.here hx rfl (hb hby at_163) rfl kQ) ?_
          show own_Go p e below s _ _ _ (T959.setTop (mkF m 165 #[.val (.int p1), .val (.int p2), .val (.int p3), .val (.int ix), .val (.int p5), .val (.int fi), .val (.int (3 : Int32)), .val (.ref b802), .val (.int ix), .val (.ref b906), .val (.long (fi.toInt64)), .second, .val (.long ((fi.toInt64) + ((3 : Int32).toInt64))), .second, .val (.int (0 : Int32))] [(.int (0 : Int32)), (.int (if ix < fi then (0 : Int32) else if ix - fi < (3 : Int32) then 1 else 0))]))
          refine own_st (fun _ kQ => XS.icmpNo X959.here hx rfl (hb hby at_165) rfl (XT.ii_ne_f (by rw [if_neg (fun q => hc949 ((own_lt64 _ _).mpr q)), if_neg (fun q => hc954 ((own_hl _ _ (3 : Int32) hfi (by decide) (by decide) (fun q => hc949 ((own_lt64 _ _).mpr q))).mpr q))])) kQ) ?_
          show own_Go p e below s _ _ _ (T959.setTop (mkF m 168 #[.val (.int p1), .val (.int p2), .val (.int p3), .val (.int ix), .val (.int p5), .val (.int fi), .val (.int (3 : Int32)), .val (.ref b802), .val (.int ix), .val (.ref b906), .val (.long (fi.toInt64)), .second, .val (.long ((fi.toInt64) + ((3 : Int32).toInt64))), .second, .val (.int (0 : Int32))] []))
          refine own_st (fun _ kQ => XT.iconstV X959.here hx rfl (1 : Int32) (hb hby at_168) (by decide) kQ) ?_
          show own_Go p e below s _ _ _ (T959.setTop (mkF m 169 #[.val (.int p1), .val (.int p2), .val (.int p3), .val (.int ix), .val (.int p5), .val (.int fi), .val (.int (3 : Int32)), .val (.ref b802), .val (.int ix), .val (.ref b906), .val (.long (fi.toInt64)), .second, .val (.long ((fi.toInt64) + ((3 : Int32).toInt64))), .second, .val (.int (0 : Int32))] [(.int (1 : Int32))]))
          refine own_st (fun _ kQ => XS.goto X959.here hx rfl (pc0 := 169) (pc' := 173) rfl (hb hby at_169) (by decide) (by decide) kQ) ?_
          show own_Go p e below s _ _ _ (T959.setTop (mkF m 173 #[.val (.int p1), .val (.int p2), .val (.int p3), .val (.int ix), .val (.int p5), .val (.int fi), .val (.int (3 : Int32)), .val (.ref b802), .val (.int ix), .val (.ref b906), .val (.long (fi.toInt64)), .second, .val (.long ((fi.toInt64) + ((3 : Int32).toInt64))), .second, .val (.int (0 : Int32))] [(.int (1 : Int32))]))
          refine own_retN X959 hx hlk Bd.returns (t := .boolean) (z' := (1 : Int32)) (by simp) (by decide) (hb hby at_173) (by decide) (by decide) ?_
          rw [eh959]
          exact ⟨N962, rfl⟩
    · refine own_st (fun _ kQ => XS.ifYes X887.here hx rfl (pc0 := 85) (pc' := 92) rfl (hb hby at_85) rfl (XT.i0_ne_t hc905) (by decide) (by decide) kQ) ?_
      show own_Go p e below s _ _ _ (T887.setTop (mkF m 92 #[.val (.int p1), .val (.int p2), .val (.int p3), .val (.int p4), .val (.int p5), .val (.int fi), .val (.int (3 : Int32)), .val (.ref b802), .unset, .unset, .unset, .unset, .unset, .unset, .unset] []))
      refine own_st (fun _ kQ => XS.iload X887.here hx rfl (hb hby at_92) rfl kQ) ?_
      show own_Go p e below s _ _ _ (T887.setTop (mkF m 94 #[.val (.int p1), .val (.int p2), .val (.int p3), .val (.int p4), .val (.int p5), .val (.int fi), .val (.int (3 : Int32)), .val (.ref b802), .unset, .unset, .unset, .unset, .unset, .unset, .unset] [(.int fi)]))
      refine own_st (fun _ kQ => XS.iloadN X887.here hx rfl (hb hby at_94) rfl kQ) ?_
      show own_Go p e below s _ _ _ (T887.setTop (mkF m 95 #[.val (.int p1), .val (.int p2), .val (.int p3), .val (.int p4), .val (.int p5), .val (.int fi), .val (.int (3 : Int32)), .val (.ref b802), .unset, .unset, .unset, .unset, .unset, .unset, .unset] [(.int p4), (.int fi)]))
      refine own_st (fun _ kQ => XT.bipushV X887.here hx rfl (8 : Int32) (hb hby at_95) (by decide) kQ) ?_
      show own_Go p e below s _ _ _ (T887.setTop (mkF m 97 #[.val (.int p1), .val (.int p2), .val (.int p3), .val (.int p4), .val (.int p5), .val (.int fi), .val (.int (3 : Int32)), .val (.ref b802), .unset, .unset, .unset, .unset, .unset, .unset, .unset] [(.int (8 : Int32)), (.int p4), (.int fi)]))
      refine own_st (fun _ kQ => iremM X887 hx rfl (hb hby at_97) rfl (by decide) kQ) ?_
      show own_Go p e below s _ _ _ (T887.setTop (mkF m 98 #[.val (.int p1), .val (.int p2), .val (.int p3), .val (.int p4), .val (.int p5), .val (.int fi), .val (.int (3 : Int32)), .val (.ref b802), .unset, .unset, .unset, .unset, .unset, .unset, .unset] [(.int (p4 % (8 : Int32))), (.int fi)]))
      refine own_st (fun _ kQ => XS.iadd X887.here hx rfl (hb hby at_98) rfl kQ) ?_
      show own_Go p e below s _ _ _ (T887.setTop (mkF m 99 #[.val (.int p1), .val (.int p2), .val (.int p3), .val (.int p4), .val (.int p5), .val (.int fi), .val (.int (3 : Int32)), .val (.ref b802), .unset, .unset, .unset, .unset, .unset, .unset, .unset] [(.int (fi + (p4 % (8 : Int32))))]))
      refine own_st (fun _ kQ => XT.iconstV X887.here hx rfl (3 : Int32) (hb hby at_99) (by decide) kQ) ?_
      show own_Go p e below s _ _ _ (T887.setTop (mkF m 100 #[.val (.int p1), .val (.int p2), .val (.int p3), .val (.int p4), .val (.int p5), .val (.int fi), .val (.int (3 : Int32)), .val (.ref b802), .unset, .unset, .unset, .unset, .unset, .unset, .unset] [(.int (3 : Int32)), (.int (fi + (p4 % (8 : Int32))))]))
      refine own_st (fun _ kQ => XS.isub X887.here hx rfl (hb hby at_100) rfl kQ) ?_
      show own_Go p e below s _ _ _ (T887.setTop (mkF m 101 #[.val (.int p1), .val (.int p2), .val (.int p3), .val (.int p4), .val (.int p5), .val (.int fi), .val (.int (3 : Int32)), .val (.ref b802), .unset, .unset, .unset, .unset, .unset, .unset, .unset] [(.int ((fi + (p4 % (8 : Int32))) - (3 : Int32)))]))
      generalize hk_ix : ((fi + (p4 % (8 : Int32))) - (3 : Int32)) = ix
      show own_Go p e below s _ _ _ (T887.setTop (mkF m 101 #[.val (.int p1), .val (.int p2), .val (.int p3), .val (.int p4), .val (.int p5), .val (.int fi), .val (.int (3 : Int32)), .val (.ref b802), .unset, .unset, .unset, .unset, .unset, .unset, .unset] [(.int ix)]))
      refine own_st (fun _ kQ => XS.istore X887.here hx rfl (hb hby at_101) rfl (l' := #[.val (.int p1), .val (.int p2), .val (.int p3), .val (.int p4), .val (.int p5), .val (.int fi), .val (.int (3 : Int32)), .val (.ref b802), .val (.int ix), .unset, .unset, .unset, .unset, .unset, .unset]) rfl kQ) ?_
      show own_Go p e below s _ _ _ (T887.setTop (mkF m 103 #[.val (.int p1), .val (.int p2), .val (.int p3), .val (.int p4), .val (.int p5), .val (.int fi), .val (.int (3 : Int32)), .val (.ref b802), .val (.int ix), .unset, .unset, .unset, .unset, .unset, .unset] []))
      obtain ⟨T963, h963, X963, e963, E963, A963, D963, -, st963⟩ := newO X887 hx hZ hown (hw _ (List.mem_of_getElem? (i := 65) rfl)) (hw _ (List.mem_of_getElem? (i := 66) rfl)) (hw _ (List.mem_of_getElem? (i := 67) rfl)) rfl (g := (mkF m 103 #[.val (.int p1), .val (.int p2), .val (.int p3), .val (.int p4), .val (.int p5), .val (.int fi), .val (.int (3 : Int32)), .val (.ref b802), .val (.int ix), .unset, .unset, .unset, .unset, .unset, .unset] [])) rfl (hb hby at_103) (by decide) (by decide)
      obtain ⟨b963, g963⟩ : ∃ z, z = T887.heap.size := ⟨_, rfl⟩
      rw [← g963] at A963 D963 st963
      refine own_st st963 ?_
      have lt964 : b802 < h963.size := Nat.lt_of_lt_of_le q896.lt E963.1
      have lt965 : x819 < h963.size := Nat.lt_of_lt_of_le lt900 E963.1
      have lt966 : x831 < h963.size := Nat.lt_of_lt_of_le q897.lt E963.1
      have lt967 : x850 < h963.size := Nat.lt_of_lt_of_le lt902 E963.1
      have lt968 : x878 < h963.size := Nat.lt_of_lt_of_le lt903 E963.1
      have Zs969 : n0 ≤ h963.size := Nat.le_trans Zs904 E963.1
      have ne970 : b802 ≠ b963 := Nat.ne_of_lt (Nat.lt_of_lt_of_le q896.lt (Nat.le_of_eq g963.symm))
      have ne971 : x819 ≠ b963 := Nat.ne_of_lt (Nat.lt_of_lt_of_le lt900 (Nat.le_of_eq g963.symm))
      have ne972 : x831 ≠ b963 := Nat.ne_of_lt (Nat.lt_of_lt_of_le q897.lt (Nat.le_of_eq g963.symm))
      have ne973 : x850 ≠ b963 := Nat.ne_of_lt (Nat.lt_of_lt_of_le lt902 (Nat.le_of_eq g963.symm))
      have ne974 : x878 ≠ b963 := Nat.ne_of_lt (Nat.lt_of_lt_of_le lt903 (Nat.le_of_eq g963.symm))
      have g975 : n0 ≤ b963 := Nat.le_trans Zs904 (Nat.le_of_eq g963.symm)
      have F976 : Fld Z h963 b963 "com/example/rationed_session/rationedsession/model/Partition" "number" "I" (.int (0 : Int32)) := D963 (Or.inr (hw _ (List.mem_of_getElem? (i := 73) rfl))) (ty := .int) (by decide)
      have F977 : Fld Z h963 b963 "com/example/rationed_session/rationedsession/model/Partition" "firstIndex" "I" (.int (0 : Int32)) := D963 (Or.inr (hw _ (List.mem_of_getElem? (i := 75) rfl))) (ty := .int) (by decide)
      have F978 : Fld Z h963 b963 "com/example/rationed_session/rationedsession/model/Partition" "inputs" "Ljava/util/List;" .null := D963 (Or.inr (hw _ (List.mem_of_getElem? (i := 120) rfl))) (ty := (.object "java/util/List")) (by decide)
      show own_Go p e below s _ _ _ (T963.setTop (mkF m 106 #[.val (.int p1), .val (.int p2), .val (.int p3), .val (.int p4), .val (.int p5), .val (.int fi), .val (.int (3 : Int32)), .val (.ref b802), .val (.int ix), .unset, .unset, .unset, .unset, .unset, .unset] [(.ref b963)]))
      refine own_st (fun _ kQ => XS.dup X963.here hx rfl (hb hby at_106) rfl rfl kQ) ?_
      show own_Go p e below s _ _ _ (T963.setTop (mkF m 107 #[.val (.int p1), .val (.int p2), .val (.int p3), .val (.int p4), .val (.int p5), .val (.int fi), .val (.int (3 : Int32)), .val (.ref b802), .val (.int ix), .unset, .unset, .unset, .unset, .unset, .unset] [(.ref b963), (.ref b963)]))
      refine own_st (fun _ kQ => XS.iloadN X963.here hx rfl (hb hby at_107) rfl kQ) ?_
      show own_Go p e below s _ _ _ (T963.setTop (mkF m 108 #[.val (.int p1), .val (.int p2), .val (.int p3), .val (.int p4), .val (.int p5), .val (.int fi), .val (.int (3 : Int32)), .val (.ref b802), .val (.int ix), .unset, .unset, .unset, .unset, .unset, .unset] [(.int p1), (.ref b963), (.ref b963)]))
      refine own_st (fun _ kQ => XS.iload X963.here hx rfl (hb hby at_108) rfl kQ) ?_
      show own_Go p e below s _ _ _ (T963.setTop (mkF m 110 #[.val (.int p1), .val (.int p2), .val (.int p3), .val (.int p4), .val (.int p5), .val (.int fi), .val (.int (3 : Int32)), .val (.ref b802), .val (.int ix), .unset, .unset, .unset, .unset, .unset, .unset] [(.int fi), (.int p1), (.ref b963), (.ref b963)]))
      refine own_st (fun _ kQ => XS.aload X963.here hx rfl (hb hby at_110) rfl rfl kQ) ?_
      show own_Go p e below s _ _ _ (T963.setTop (mkF m 112 #[.val (.int p1), .val (.int p2), .val (.int p3), .val (.int p4), .val (.int p5), .val (.int fi), .val (.int (3 : Int32)), .val (.ref b802), .val (.int ix), .unset, .unset, .unset, .unset, .unset, .unset] [(.ref b802), (.int fi), (.int p1), (.ref b963), (.ref b963)]))
      have F980 : Exa Z h963 b802 "java/util/ArrayList" := (q893.ext E963)
      obtain ⟨_, _, ⟨T979, L979, k979, n979⟩, -, X979, ⟨Lc979, hQ979, l979, y979, z979⟩, st979⟩ := X963.specialBack hx (y := (⟨"com/example/rationed_session/rationedsession/model/Partition", "<init>", "(IILjava/util/List;)V"⟩ : MethodName)) rfl hown (mvT hZ (hw _ (List.mem_of_getElem? (i := 68) rfl))) (mvT hZ (hw _ (List.mem_of_getElem? (i := 69) rfl))) (mvT hZ (hw _ (List.mem_of_getElem? (i := 70) rfl))) (by decide) (backOf (W := 1) (own_rm_pinitU l Z a0 hw [] b963 p1 fi b802 mA mL mR h963 n0 Zs969 M_AL M_UL M_UR h1 h2 A963 F980 F976 F977 F978 g975) hZ (hw _ (List.mem_of_getElem? (i := 70) rfl)) (hw _ (List.mem_of_getElem? (i := 67) rfl)) (by decide) (by decide)) (g := (mkF m 112 #[.val (.int p1), .val (.int p2), .val (.int p3), .val (.int p4), .val (.int p5), .val (.int fi), .val (.int (3 : Int32)), .val (.ref b802), .val (.int ix), .unset, .unset, .unset, .unset, .unset, .unset] [(.ref b802), (.int fi), (.int p1), (.ref b963), (.ref b963)])) rfl (by rw [hml]; rfl) (Steps.refl _) (a := b963) (argsL := [(.int p1), (.int fi), (.ref b802)]) (rest := [(.ref b963)]) (lenOf own_pd12 rfl) rfl (by show 2 * 0 + _ ≤ _; exact Nat.le_of_eq rfl) (hb hby at_112) (fun _ _ => ⟨rfl, e963, (by decide : 6 + 1 ≤ _), (by decide : 19 + 2 ≤ _)⟩)
      dsimp only [Pt.U, Pt.locs, Pt.cells, Pt.slots] at X979 l979 y979 z979 st979 hQ979
      subst l979 y979 z979
      obtain ⟨x981, N979q, rfl, K979, q982, q983, q984, q985, q986, q987, q988, q989⟩ := hQ979
      have N990 := Fr.app N898 N979q
      refine own_tr st979 ?_
      have lt991 : b802 < T979.heap.size := Nat.lt_of_lt_of_le lt964 K979.1
      have lt992 : x819 < T979.heap.size := Nat.lt_of_lt_of_le lt965 K979.1
      have lt993 : x831 < T979.heap.size := Nat.lt_of_lt_of_le lt966 K979.1
      have lt994 : x850 < T979.heap.size := Nat.lt_of_lt_of_le lt967 K979.1
      have lt995 : x878 < T979.heap.size := Nat.lt_of_lt_of_le lt968 K979.1
      have lt996 : b963 < T979.heap.size := Nat.lt_of_lt_of_le A963.lt K979.1
      have Zs997 : n0 ≤ T979.heap.size := Nat.le_trans Zs969 K979.1
      have ne998 : b802 ≠ x981 := Nat.ne_of_lt (Nat.lt_of_lt_of_le lt964 q986)
      have ne999 : x819 ≠ x981 := Nat.ne_of_lt (Nat.lt_of_lt_of_le lt965 q986)
      have ne1000 : x831 ≠ x981 := Nat.ne_of_lt (Nat.lt_of_lt_of_le lt966 q986)
      have ne1001 : x850 ≠ x981 := Nat.ne_of_lt (Nat.lt_of_lt_of_le lt967 q986)
      have ne1002 : x878 ≠ x981 := Nat.ne_of_lt (Nat.lt_of_lt_of_le lt968 q986)
      have ne1003 : b963 ≠ x981 := Nat.ne_of_lt (Nat.lt_of_lt_of_le A963.lt q986)
      have g1004 : n0 ≤ x981 := Nat.le_trans Zs969 q986
      obtain ⟨Lp1005, Xp1005, Np1005⟩ : ∃ L, Stand p l e room_1 s m #[(.int p1), (.int p2), (.int p3), (.int p4), (.int p5)] below meth c T979 L 7 21 ∧ Fr n0 L := ⟨_, X979, N990⟩
      show own_Go p e below s _ _ _ (T979.setTop (mkF m 115 #[.val (.int p1), .val (.int p2), .val (.int p3), .val (.int p4), .val (.int p5), .val (.int fi), .val (.int (3 : Int32)), .val (.ref b802), .val (.int ix), .unset, .unset, .unset, .unset, .unset, .unset] [(.ref b963)]))
      refine own_st (fun _ kQ => XS.astore Xp1005.here hx rfl (hb hby at_115) rfl rfl (l' := #[.val (.int p1), .val (.int p2), .val (.int p3), .val (.int p4), .val (.int p5), .val (.int fi), .val (.int (3 : Int32)), .val (.ref b802), .val (.int ix), .val (.ref b963), .unset, .unset, .unset, .unset, .unset]) rfl kQ) ?_
      show own_Go p e below s _ _ _ (T979.setTop (mkF m 117 #[.val (.int p1), .val (.int p2), .val (.int p3), .val (.int p4), .val (.int p5), .val (.int fi), .val (.int (3 : Int32)), .val (.ref b802), .val (.int ix), .val (.ref b963), .unset, .unset, .unset, .unset, .unset] []))
      refine own_st (fun _ kQ => XS.iload Xp1005.here hx rfl (hb hby at_117) rfl kQ) ?_
      show own_Go p e below s _ _ _ (T979.setTop (mkF m 119 #[.val (.int p1), .val (.int p2), .val (.int p3), .val (.int p4), .val (.int p5), .val (.int fi), .val (.int (3 : Int32)), .val (.ref b802), .val (.int ix), .val (.ref b963), .unset, .unset, .unset, .unset, .unset] [(.int fi)]))
      refine own_st (fun _ kQ => XT.i2l Xp1005.here hx rfl (hb hby at_119) rfl kQ) ?_
      show own_Go p e below s _ _ _ (T979.setTop (mkF m 120 #[.val (.int p1), .val (.int p2), .val (.int p3), .val (.int p4), .val (.int p5), .val (.int fi), .val (.int (3 : Int32)), .val (.ref b802), .val (.int ix), .val (.ref b963), .unset, .unset, .unset, .unset, .unset] [(.long (fi.toInt64))]))
      refine own_st (fun _ kQ => XT.lstore Xp1005.here hx rfl (hb hby at_120) rfl (l' := #[.val (.int p1), .val (.int p2), .val (.int p3), .val (.int p4), .val (.int p5), .val (.int fi), .val (.int (3 : Int32)), .val (.ref b802), .val (.int ix), .val (.ref b963), .val (.long (fi.toInt64)), .second, .unset, .unset, .unset]) rfl kQ) ?_
      show own_Go p e below s _ _ _ (T979.setTop (mkF m 122 #[.val (.int p1), .val (.int p2), .val (.int p3), .val (.int p4), .val (.int p5), .val (.int fi), .val (.int (3 : Int32)), .val (.ref b802), .val (.int ix), .val (.ref b963), .val (.long (fi.toInt64)), .second, .unset, .unset, .unset] []))
      refine own_st (fun _ kQ => XS.iload Xp1005.here hx rfl (hb hby at_122) rfl kQ) ?_
      show own_Go p e below s _ _ _ (T979.setTop (mkF m 124 #[.val (.int p1), .val (.int p2), .val (.int p3), .val (.int p4), .val (.int p5), .val (.int fi), .val (.int (3 : Int32)), .val (.ref b802), .val (.int ix), .val (.ref b963), .val (.long (fi.toInt64)), .second, .unset, .unset, .unset] [(.int fi)]))
      refine own_st (fun _ kQ => XT.i2l Xp1005.here hx rfl (hb hby at_124) rfl kQ) ?_
      show own_Go p e below s _ _ _ (T979.setTop (mkF m 125 #[.val (.int p1), .val (.int p2), .val (.int p3), .val (.int p4), .val (.int p5), .val (.int fi), .val (.int (3 : Int32)), .val (.ref b802), .val (.int ix), .val (.ref b963), .val (.long (fi.toInt64)), .second, .unset, .unset, .unset] [(.long (fi.toInt64))]))
      refine own_st (fun _ kQ => XS.iload Xp1005.here hx rfl (hb hby at_125) rfl kQ) ?_
      show own_Go p e below s _ _ _ (T979.setTop (mkF m 127 #[.val (.int p1), .val (.int p2), .val (.int p3), .val (.int p4), .val (.int p5), .val (.int fi), .val (.int (3 : Int32)), .val (.ref b802), .val (.int ix), .val (.ref b963), .val (.long (fi.toInt64)), .second, .unset, .unset, .unset] [(.int (3 : Int32)), (.long (fi.toInt64))]))
      refine own_st (fun _ kQ => XT.i2l Xp1005.here hx rfl (hb hby at_127) rfl kQ) ?_
      show own_Go p e below s _ _ _ (T979.setTop (mkF m 128 #[.val (.int p1), .val (.int p2), .val (.int p3), .val (.int p4), .val (.int p5), .val (.int fi), .val (.int (3 : Int32)), .val (.ref b802), .val (.int ix), .val (.ref b963), .val (.long (fi.toInt64)), .second, .unset, .unset, .unset] [(.long ((3 : Int32).toInt64)), (.long (fi.toInt64))]))
      refine own_st (fun _ kQ => XT.ladd Xp1005.here hx rfl (hb hby at_128) rfl kQ) ?_
      show own_Go p e below s _ _ _ (T979.setTop (mkF m 129 #[.val (.int p1), .val (.int p2), .val (.int p3), .val (.int p4), .val (.int p5), .val (.int fi), .val (.int (3 : Int32)), .val (.ref b802), .val (.int ix), .val (.ref b963), .val (.long (fi.toInt64)), .second, .unset, .unset, .unset] [(.long ((fi.toInt64) + ((3 : Int32).toInt64)))]))
      refine own_st (fun _ kQ => XT.lstore Xp1005.here hx rfl (hb hby at_129) rfl (l' := #[.val (.int p1), .val (.int p2), .val (.int p3), .val (.int p4), .val (.int p5), .val (.int fi), .val (.int (3 : Int32)), .val (.ref b802), .val (.int ix), .val (.ref b963), .val (.long (fi.toInt64)), .second, .val (.long ((fi.toInt64) + ((3 : Int32).toInt64))), .second, .unset]) rfl kQ) ?_
      show own_Go p e below s _ _ _ (T979.setTop (mkF m 131 #[.val (.int p1), .val (.int p2), .val (.int p3), .val (.int p4), .val (.int p5), .val (.int fi), .val (.int (3 : Int32)), .val (.ref b802), .val (.int ix), .val (.ref b963), .val (.long (fi.toInt64)), .second, .val (.long ((fi.toInt64) + ((3 : Int32).toInt64))), .second, .unset] []))
      refine own_st (fun _ kQ => XS.iload Xp1005.here hx rfl (hb hby at_131) rfl kQ) ?_
      show own_Go p e below s _ _ _ (T979.setTop (mkF m 133 #[.val (.int p1), .val (.int p2), .val (.int p3), .val (.int p4), .val (.int p5), .val (.int fi), .val (.int (3 : Int32)), .val (.ref b802), .val (.int ix), .val (.ref b963), .val (.long (fi.toInt64)), .second, .val (.long ((fi.toInt64) + ((3 : Int32).toInt64))), .second, .unset] [(.int ix)]))
      refine own_st (fun _ kQ => XT.i2l Xp1005.here hx rfl (hb hby at_133) rfl kQ) ?_
      show own_Go p e below s _ _ _ (T979.setTop (mkF m 134 #[.val (.int p1), .val (.int p2), .val (.int p3), .val (.int p4), .val (.int p5), .val (.int fi), .val (.int (3 : Int32)), .val (.ref b802), .val (.int ix), .val (.ref b963), .val (.long (fi.toInt64)), .second, .val (.long ((fi.toInt64) + ((3 : Int32).toInt64))), .second, .unset] [(.long (ix.toInt64))]))
      refine own_st (fun _ kQ => XT.lload Xp1005.here hx rfl (hb hby at_134) rfl kQ) ?_
      show own_Go p e below s _ _ _ (T979.setTop (mkF m 136 #[.val (.int p1), .val (.int p2), .val (.int p3), .val (.int p4), .val (.int p5), .val (.int fi), .val (.int (3 : Int32)), .val (.ref b802), .val (.int ix), .val (.ref b963), .val (.long (fi.toInt64)), .second, .val (.long ((fi.toInt64) + ((3 : Int32).toInt64))), .second, .unset] [(.long (fi.toInt64)), (.long (ix.toInt64))]))
      refine own_st (fun _ kQ => XT.lcmp Xp1005.here hx rfl (hb hby at_136) rfl kQ) ?_
      show own_Go p e below s _ _ _ (T979.setTop (mkF m 137 #[.val (.int p1), .val (.int p2), .val (.int p3), .val (.int p4), .val (.int p5), .val (.int fi), .val (.int (3 : Int32)), .val (.ref b802), .val (.int ix), .val (.ref b963), .val (.long (fi.toInt64)), .second, .val (.long ((fi.toInt64) + ((3 : Int32).toInt64))), .second, .unset] [(.int (XT.cmpL (ix.toInt64) (fi.toInt64)))]))
      by_cases hc1006 : (ix.toInt64) < (fi.toInt64)
      · refine own_st (fun _ kQ => XS.ifYes Xp1005.here hx rfl (pc0 := 137) (pc' := 153) rfl (hb hby at_137) rfl (XT.ll_lt_t hc1006) (by decide) (by decide) kQ) ?_
        show own_Go p e below s _ _ _ (T979.setTop (mkF m 153 #[.val (.int p1), .val (.int p2), .val (.int p3), .val (.int p4), .val (.int p5), .val (.int fi), .val (.int (3 : Int32)), .val (.ref b802), .val (.int ix), .val (.ref b963), .val (.long (fi.toInt64)), .second, .val (.long ((fi.toInt64) + ((3 : Int32).toInt64))), .second, .unset] []))
        refine own_st (fun _ kQ => XT.iconstV Xp1005.here hx rfl (0 : Int32) (hb hby at_153) (by decide) kQ) ?_
        show own_Go p e below s _ _ _ (T979.setTop (mkF m 154 #[.val (.int p1), .val (.int p2), .val (.int p3), .val (.int p4), .val (.int p5), .val (.int fi), .val (.int (3 : Int32)), .val (.ref b802), .val (.int ix), .val (.ref b963), .val (.long (fi.toInt64)), .second, .val (.long ((fi.toInt64) + ((3 : Int32).toInt64))), .second, .unset] [(.int (0 : Int32))]))
        refine own_st (fun _ kQ => XS.istore Xp1005.here hx rfl (hb hby at_154) rfl (l' := #[.val (.int p1), .val (.int p2), .val (.int p3), .val (.int p4), .val (.int p5), .val (.int fi), .val (.int (3 : Int32)), .val (.ref b802), .val (.int ix), .val (.ref b963), .val (.long (fi.toInt64)), .second, .val (.long ((fi.toInt64) + ((3 : Int32).toInt64))), .second, .val (.int (0 : Int32))]) rfl kQ) ?_
        show own_Go p e below s _ _ _ (T979.setTop (mkF m 156 #[.val (.int p1), .val (.int p2), .val (.int p3), .val (.int p4), .val (.int p5), .val (.int fi), .val (.int (3 : Int32)), .val (.ref b802), .val (.int ix), .val (.ref b963), .val (.long (fi.toInt64)), .second, .val (.long ((fi.toInt64) + ((3 : Int32).toInt64))), .second, .val (.int (0 : Int32))] []))
        refine own_st (fun _ kQ => XS.aload Xp1005.here hx rfl (hb hby at_156) rfl rfl kQ) ?_
        show own_Go p e below s _ _ _ (T979.setTop (mkF m 158 #[.val (.int p1), .val (.int p2), .val (.int p3), .val (.int p4), .val (.int p5), .val (.int fi), .val (.int (3 : Int32)), .val (.ref b802), .val (.int ix), .val (.ref b963), .val (.long (fi.toInt64)), .second, .val (.long ((fi.toInt64) + ((3 : Int32).toInt64))), .second, .val (.int (0 : Int32))] [(.ref b963)]))
        refine own_st (fun _ kQ => XS.iload Xp1005.here hx rfl (hb hby at_158) rfl kQ) ?_
        show own_Go p e below s _ _ _ (T979.setTop (mkF m 160 #[.val (.int p1), .val (.int p2), .val (.int p3), .val (.int p4), .val (.int p5), .val (.int fi), .val (.int (3 : Int32)), .val (.ref b802), .val (.int ix), .val (.ref b963), .val (.long (fi.toInt64)), .second, .val (.long ((fi.toInt64) + ((3 : Int32).toInt64))), .second, .val (.int (0 : Int32))] [(.int ix), (.ref b963)]))
        have F1008 : Exa Z T979.heap b802 "java/util/ArrayList" := (F980.keep K979)
        have F1009 : Fld Z T979.heap b802 "java/util/ArrayList" "size" "I" (.int (3 : Int32)) := ((q896.ext E963).keep K979 (ninS ne970 nin0))
        obtain ⟨cq1007, kq1007, q1007a, q1007b, q1007c⟩ := isOf hZ rfl q982
        obtain ⟨_, _, ⟨T1007, L1007, k1007, n1007⟩, -, X1007, ⟨Lc1007, hQ1007, l1007, y1007, z1007⟩, st1007⟩ := Xp1005.virtualBack hx (y := (⟨"com/example/rationed_session/rationedsession/model/Partition", "holds", "(I)Z"⟩ : MethodName)) (z := (⟨"com/example/rationed_session/rationedsession/model/Partition", "holds", "(I)Z"⟩ : MethodName)) hown (mvT hZ (hw _ (List.mem_of_getElem? (i := 121) rfl))) (mvT hZ (hw _ (List.mem_of_getElem? (i := 122) rfl))) (notFace_of_selects (args := #[]) (mvT hZ (hw _ (List.mem_of_getElem? (i := 124) rfl)))) (mvT hZ (hw _ (List.mem_of_getElem? (i := 124) rfl))) (mvT hZ (hw _ (List.mem_of_getElem? (i := 123) rfl))) (by decide) (backOf (W := 0) (own_rm_holdsU l Z a0 hw [] x981 b963 b802 ix fi (3 : Int32) T979.heap n0 Zs997 q985 q987 q988 F1008 q984 F1009) hZ (hw _ (List.mem_of_getElem? (i := 125) rfl)) (hw _ (List.mem_of_getElem? (i := 67) rfl)) (by decide) (by decide)) q1007a q1007c (g := (mkF m 160 #[.val (.int p1), .val (.int p2), .val (.int p3), .val (.int p4), .val (.int p5), .val (.int fi), .val (.int (3 : Int32)), .val (.ref b802), .val (.int ix), .val (.ref b963), .val (.long (fi.toInt64)), .second, .val (.long ((fi.toInt64) + ((3 : Int32).toInt64))), .second, .val (.int (0 : Int32))] [(.int ix), (.ref b963)])) rfl (by rw [hml]; rfl) (Steps.refl _) (argsL := [(.int ix)]) (rest := []) (lenOf own_pd13 rfl) rfl (by show 2 * 0 + _ ≤ _; exact Nat.le_of_eq rfl) (hb hby at_160) (fun _ _ => ⟨rfl, rfl, (by decide : 7 + 0 ≤ _), (by decide : 21 + 0 ≤ _)⟩)
        dsimp only [Pt.U, Pt.locs, Pt.cells, Pt.slots] at X1007 l1007 y1007 z1007 st1007 hQ1007
        subst l1007 y1007 z1007
        obtain ⟨N1007q, rfl, eh1007⟩ := hQ1007
        have N1010 := Fr.app Np1005 N1007q
        refine own_tr st1007 ?_
        show own_Go p e below s _ _ _ (T1007.setTop (mkF m 163 #[.val (.int p1), .val (.int p2), .val (.int p3), .val (.int p4), .val (.int p5), .val (.int fi), .val (.int (3 : Int32)), .val (.ref b802), .val (.int ix), .val (.ref b963), .val (.long (fi.toInt64)), .second, .val (.long ((fi.toInt64) + ((3 : Int32).toInt64))), .second, .val (.int (0 : Int32))] [(.int (if ix < fi then (0 : Int32) else if ix - fi < (3 : Int32) then 1 else 0))]))
        refine own_st (fun _ kQ => XS.iload X1007.here hx rfl (hb hby at_163) rfl kQ) ?_
        show own_Go p e below s _ _ _ (T1007.setTop (mkF m 165 #[.val (.int p1), .val (.int p2), .val (.int p3), .val (.int p4), .val (.int p5), .val (.int fi), .val (.int (3 : Int32)), .val (.ref b802), .val (.int ix), .val (.ref b963), .val (.long (fi.toInt64)), .second, .val (.long ((fi.toInt64) + ((3 : Int32).toInt64))), .second, .val (.int (0 : Int32))] [(.int (0 : Int32)), (.int (if ix < fi then (0 : Int32) else if ix - fi < (3 : Int32) then 1 else 0))]))
        refine own_st (fun _ kQ => XS.icmpNo X1007.here hx rfl (hb hby at_165) rfl (XT.ii_ne_f (by rw [if_pos ((own_lt64 _ _).mp hc1006)])) kQ) ?_
        show own_Go p e below s _ _ _ (T1007.setTop (mkF m 168 #[.val (.int p1), .val (.int p2), .val (.int p3), .val (.int p4), .val (.int p5), .val (.int fi), .val (.int (3 : Int32)), .val (.ref b802), .val (.int ix), .val (.ref b963), .val (.long (fi.toInt64)), .second, .val (.long ((fi.toInt64) + ((3 : Int32).toInt64))), .second, .val (.int (0 : Int32))] []))
        refine own_st (fun _ kQ => XT.iconstV X1007.here hx rfl (1 : Int32) (hb hby at_168) (by decide) kQ) ?_
        show own_Go p e below s _ _ _ (T1007.setTop (mkF m 169 #[.val (.int p1), .val (.int p2), .val (.int p3), .val (.int p4), .val (.int p5), .val (.int fi), .val (.int (3 : Int32)), .val (.ref b802), .val (.int ix), .val (.ref b963), .val (.long (fi.toInt64)), .second, .val (.long ((fi.toInt64) + ((3 : Int32).toInt64))), .second, .val (.int (0 : Int32))] [(.int (1 : Int32))]))
        refine own_st (fun _ kQ => XS.goto X1007.here hx rfl (pc0 := 169) (pc' := 173) rfl (hb hby at_169) (by decide) (by decide) kQ) ?_
        show own_Go p e below s _ _ _ (T1007.setTop (mkF m 173 #[.val (.int p1), .val (.int p2), .val (.int p3), .val (.int p4), .val (.int p5), .val (.int fi), .val (.int (3 : Int32)), .val (.ref b802), .val (.int ix), .val (.ref b963), .val (.long (fi.toInt64)), .second, .val (.long ((fi.toInt64) + ((3 : Int32).toInt64))), .second, .val (.int (0 : Int32))] [(.int (1 : Int32))]))
        refine own_retN X1007 hx hlk Bd.returns (t := .boolean) (z' := (1 : Int32)) (by simp) (by decide) (hb hby at_173) (by decide) (by decide) ?_
        rw [eh1007]
        exact ⟨N1010, rfl⟩
      · refine own_st (fun _ kQ => XS.ifNo Xp1005.here hx rfl (hb hby at_137) rfl (XT.ll_lt_f hc1006) kQ) ?_
        show own_Go p e below s _ _ _ (T979.setTop (mkF m 140 #[.val (.int p1), .val (.int p2), .val (.int p3), .val (.int p4), .val (.int p5), .val (.int fi), .val (.int (3 : Int32)), .val (.ref b802), .val (.int ix), .val (.ref b963), .val (.long (fi.toInt64)), .second, .val (.long ((fi.toInt64) + ((3 : Int32).toInt64))), .second, .unset] []))
        refine own_st (fun _ kQ => XS.iload Xp1005.here hx rfl (hb hby at_140) rfl kQ) ?_
        show own_Go p e below s _ _ _ (T979.setTop (mkF m 142 #[.val (.int p1), .val (.int p2), .val (.int p3), .val (.int p4), .val (.int p5), .val (.int fi), .val (.int (3 : Int32)), .val (.ref b802), .val (.int ix), .val (.ref b963), .val (.long (fi.toInt64)), .second, .val (.long ((fi.toInt64) + ((3 : Int32).toInt64))), .second, .unset] [(.int ix)]))
        refine own_st (fun _ kQ => XT.i2l Xp1005.here hx rfl (hb hby at_142) rfl kQ) ?_
        show own_Go p e below s _ _ _ (T979.setTop (mkF m 143 #[.val (.int p1), .val (.int p2), .val (.int p3), .val (.int p4), .val (.int p5), .val (.int fi), .val (.int (3 : Int32)), .val (.ref b802), .val (.int ix), .val (.ref b963), .val (.long (fi.toInt64)), .second, .val (.long ((fi.toInt64) + ((3 : Int32).toInt64))), .second, .unset] [(.long (ix.toInt64))]))
        refine own_st (fun _ kQ => XT.lload Xp1005.here hx rfl (hb hby at_143) rfl kQ) ?_
        show own_Go p e below s _ _ _ (T979.setTop (mkF m 145 #[.val (.int p1), .val (.int p2), .val (.int p3), .val (.int p4), .val (.int p5), .val (.int fi), .val (.int (3 : Int32)), .val (.ref b802), .val (.int ix), .val (.ref b963), .val (.long (fi.toInt64)), .second, .val (.long ((fi.toInt64) + ((3 : Int32).toInt64))), .second, .unset] [(.long ((fi.toInt64) + ((3 : Int32).toInt64))), (.long (ix.toInt64))]))
        refine own_st (fun _ kQ => XT.lcmp Xp1005.here hx rfl (hb hby at_145) rfl kQ) ?_
        show own_Go p e below s _ _ _ (T979.setTop (mkF m 146 #[.val (.int p1), .val (.int p2), .val (.int p3), .val (.int p4), .val (.int p5), .val (.int fi), .val (.int (3 : Int32)), .val (.ref b802), .val (.int ix), .val (.ref b963), .val (.long (fi.toInt64)), .second, .val (.long ((fi.toInt64) + ((3 : Int32).toInt64))), .second, .unset] [(.int (XT.cmpL (ix.toInt64) ((fi.toInt64) + ((3 : Int32).toInt64))))]))
        by_cases hc1011 : (ix.toInt64) < ((fi.toInt64) + ((3 : Int32).toInt64))
        · refine own_st (fun _ kQ => XS.ifNo Xp1005.here hx rfl (hb hby at_146) rfl (XT.ll_ge_f hc1011) kQ) ?_
          show own_Go p e below s _ _ _ (T979.setTop (mkF m 149 #[.val (.int p1), .val (.int p2), .val (.int p3), .val (.int p4), .val (.int p5), .val (.int fi), .val (.int (3 : Int32)), .val (.ref b802), .val (.int ix), .val (.ref b963), .val (.long (fi.toInt64)), .second, .val (.long ((fi.toInt64) + ((3 : Int32).toInt64))), .second, .unset] []))
          refine own_st (fun _ kQ => XT.iconstV Xp1005.here hx rfl (1 : Int32) (hb hby at_149) (by decide) kQ) ?_
          show own_Go p e below s _ _ _ (T979.setTop (mkF m 150 #[.val (.int p1), .val (.int p2), .val (.int p3), .val (.int p4), .val (.int p5), .val (.int fi), .val (.int (3 : Int32)), .val (.ref b802), .val (.int ix), .val (.ref b963), .val (.long (fi.toInt64)), .second, .val (.long ((fi.toInt64) + ((3 : Int32).toInt64))), .second, .unset] [(.int (1 : Int32))]))
          refine own_st (fun _ kQ => XS.goto Xp1005.here hx rfl (pc0 := 150) (pc' := 154) rfl (hb hby at_150) (by decide) (by decide) kQ) ?_
          show own_Go p e below s _ _ _ (T979.setTop (mkF m 154 #[.val (.int p1), .val (.int p2), .val (.int p3), .val (.int p4), .val (.int p5), .val (.int fi), .val (.int (3 : Int32)), .val (.ref b802), .val (.int ix), .val (.ref b963), .val (.long (fi.toInt64)), .second, .val (.long ((fi.toInt64) + ((3 : Int32).toInt64))), .second, .unset] [(.int (1 : Int32))]))
          refine own_st (fun _ kQ => XS.istore Xp1005.here hx rfl (hb hby at_154) rfl (l' := #[.val (.int p1), .val (.int p2), .val (.int p3), .val (.int p4), .val (.int p5), .val (.int fi), .val (.int (3 : Int32)), .val (.ref b802), .val (.int ix), .val (.ref b963), .val (.long (fi.toInt64)), .second, .val (.long ((fi.toInt64) + ((3 : Int32).toInt64))), .second, .val (.int (1 : Int32))]) rfl kQ) ?_
          show own_Go p e below s _ _ _ (T979.setTop (mkF m 156 #[.val (.int p1), .val (.int p2), .val (.int p3), .val (.int p4), .val (.int p5), .val (.int fi), .val (.int (3 : Int32)), .val (.ref b802), .val (.int ix), .val (.ref b963), .val (.long (fi.toInt64)), .second, .val (.long ((fi.toInt64) + ((3 : Int32).toInt64))), .second, .val (.int (1 : Int32))] []))
          refine own_st (fun _ kQ => XS.aload Xp1005.here hx rfl (hb hby at_156) rfl rfl kQ) ?_
          show own_Go p e below s _ _ _ (T979.setTop (mkF m 158 #[.val (.int p1), .val (.int p2), .val (.int p3), .val (.int p4), .val (.int p5), .val (.int fi), .val (.int (3 : Int32)), .val (.ref b802), .val (.int ix), .val (.ref b963), .val (.long (fi.toInt64)), .second, .val (.long ((fi.toInt64) + ((3 : Int32).toInt64))), .second, .val (.int (1 : Int32))] [(.ref b963)]))
          refine own_st (fun _ kQ => XS.iload Xp1005.here hx rfl (hb hby at_158) rfl kQ) ?_
          show own_Go p e below s _ _ _ (T979.setTop (mkF m 160 #[.val (.int p1), .val (.int p2), .val (.int p3), .val (.int p4), .val (.int p5), .val (.int fi), .val (.int (3 : Int32)), .val (.ref b802), .val (.int ix), .val (.ref b963), .val (.long (fi.toInt64)), .second, .val (.long ((fi.toInt64) + ((3 : Int32).toInt64))), .second, .val (.int (1 : Int32))] [(.int ix), (.ref b963)]))
          have F1013 : Exa Z T979.heap b802 "java/util/ArrayList" := (F980.keep K979)
          have F1014 : Fld Z T979.heap b802 "java/util/ArrayList" "size" "I" (.int (3 : Int32)) := ((q896.ext E963).keep K979 (ninS ne970 nin0))
          obtain ⟨cq1012, kq1012, q1012a, q1012b, q1012c⟩ := isOf hZ rfl q982
          obtain ⟨_, _, ⟨T1012, L1012, k1012, n1012⟩, -, X1012, ⟨Lc1012, hQ1012, l1012, y1012, z1012⟩, st1012⟩ := Xp1005.virtualBack hx (y := (⟨"com/example/rationed_session/rationedsession/model/Partition", "holds", "(I)Z"⟩ : MethodName)) (z := (⟨"com/example/rationed_session/rationedsession/model/Partition", "holds", "(I)Z"⟩ : MethodName)) hown (mvT hZ (hw _ (List.mem_of_getElem? (i := 121) rfl))) (mvT hZ (hw _ (List.mem_of_getElem? (i := 122) rfl))) (notFace_of_selects (args := #[]) (mvT hZ (hw _ (List.mem_of_getElem? (i := 124) rfl)))) (mvT hZ (hw _ (List.mem_of_getElem? (i := 124) rfl))) (mvT hZ (hw _ (List.mem_of_getElem? (i := 123) rfl))) (by decide) (backOf (W := 0) (own_rm_holdsU l Z a0 hw [] x981 b963 b802 ix fi (3 : Int32) T979.heap n0 Zs997 q985 q987 q988 F1013 q984 F1014) hZ (hw _ (List.mem_of_getElem? (i := 125) rfl)) (hw _ (List.mem_of_getElem? (i := 67) rfl)) (by decide) (by decide)) q1012a q1012c (g := (mkF m 160 #[.val (.int p1), .val (.int p2), .val (.int p3), .val (.int p4), .val (.int p5), .val (.int fi), .val (.int (3 : Int32)), .val (.ref b802), .val (.int ix), .val (.ref b963), .val (.long (fi.toInt64)), .second, .val (.long ((fi.toInt64) + ((3 : Int32).toInt64))), .second, .val (.int (1 : Int32))] [(.int ix), (.ref b963)])) rfl (by rw [hml]; rfl) (Steps.refl _) (argsL := [(.int ix)]) (rest := []) (lenOf own_pd13 rfl) rfl (by show 2 * 0 + _ ≤ _; exact Nat.le_of_eq rfl) (hb hby at_160) (fun _ _ => ⟨rfl, rfl, (by decide : 7 + 0 ≤ _), (by decide : 21 + 0 ≤ _)⟩)
          dsimp only [Pt.U, Pt.locs, Pt.cells, Pt.slots] at X1012 l1012 y1012 z1012 st1012 hQ1012
          subst l1012 y1012 z1012
          obtain ⟨N1012q, rfl, eh1012⟩ := hQ1012
          have N1015 := Fr.app Np1005 N1012q
          refine own_tr st1012 ?_
          show own_Go p e below s _ _ _ (T1012.setTop (mkF m 163 #[.val (.int p1), .val (.int p2), .val (.int p3), .val (.int p4), .val (.int p5), .val (.int fi), .val (.int (3 : Int32)), .val (.ref b802), .val (.int ix), .val (.ref b963), .val (.long (fi.toInt64)), .second, .val (.long ((fi.toInt64) + ((3 : Int32).toInt64))), .second, .val (.int (1 : Int32))] [(.int (if ix < fi then (0 : Int32) else if ix - fi < (3 : Int32) then 1 else 0))]))
          refine own_st (fun _ kQ => XS.iload X1012.here hx rfl (hb hby at_163) rfl kQ) ?_
          show own_Go p e below s _ _ _ (T1012.setTop (mkF m 165 #[.val (.int p1), .val (.int p2), .val (.int p3), .val (.int p4), .val (.int p5), .val (.int fi), .val (.int (3 : Int32)), .val (.ref b802), .val (.int ix), .val (.ref b963), .val (.long (fi.toInt64)), .second, .val (.long ((fi.toInt64) + ((3 : Int32).toInt64))), .second, .val (.int (1 : Int32))] [(.int (1 : Int32)), (.int (if ix < fi then (0 : Int32) else if ix - fi < (3 : Int32) then 1 else 0))]))
          refine own_st (fun _ kQ => XS.icmpNo X1012.here hx rfl (hb hby at_165) rfl (XT.ii_ne_f (by rw [if_neg (fun q => hc1006 ((own_lt64 _ _).mpr q)), if_pos ((own_hl _ _ (3 : Int32) hfi (by decide) (by decide) (fun q => hc1006 ((own_lt64 _ _).mpr q))).mp hc1011)])) kQ) ?_
          show own_Go p e below s _ _ _ (T1012.setTop (mkF m 168 #[.val (.int p1), .val (.int p2), .val (.int p3), .val (.int p4), .val (.int p5), .val (.int fi), .val (.int (3 : Int32)), .val (.ref b802), .val (.int ix), .val (.ref b963), .val (.long (fi.toInt64)), .second, .val (.long ((fi.toInt64) + ((3 : Int32).toInt64))), .second, .val (.int (1 : Int32))] []))
          refine own_st (fun _ kQ => XT.iconstV X1012.here hx rfl (1 : Int32) (hb hby at_168) (by decide) kQ) ?_
          show own_Go p e below s _ _ _ (T1012.setTop (mkF m 169 #[.val (.int p1), .val (.int p2), .val (.int p3), .val (.int p4), .val (.int p5), .val (.int fi), .val (.int (3 : Int32)), .val (.ref b802), .val (.int ix), .val (.ref b963), .val (.long (fi.toInt64)), .second, .val (.long ((fi.toInt64) + ((3 : Int32).toInt64))), .second, .val (.int (1 : Int32))] [(.int (1 : Int32))]))
          refine own_st (fun _ kQ => XS.goto X1012.here hx rfl (pc0 := 169) (pc' := 173) rfl (hb hby at_169) (by decide) (by decide) kQ) ?_
          show own_Go p e below s _ _ _ (T1012.setTop (mkF m 173 #[.val (.int p1), .val (.int p2), .val (.int p3), .val (.int p4), .val (.int p5), .val (.int fi), .val (.int (3 : Int32)), .val (.ref b802), .val (.int ix), .val (.ref b963), .val (.long (fi.toInt64)), .second, .val (.long ((fi.toInt64) + ((3 : Int32).toInt64))), .second, .val (.int (1 : Int32))] [(.int (1 : Int32))]))
          refine own_retN X1012 hx hlk Bd.returns (t := .boolean) (z' := (1 : Int32)) (by simp) (by decide) (hb hby at_173) (by decide) (by decide) ?_
          rw [eh1012]
          exact ⟨N1015, rfl⟩
        · refine own_st (fun _ kQ => XS.ifYes Xp1005.here hx rfl (pc0 := 146) (pc' := 153) rfl (hb hby at_146) rfl (XT.ll_ge_t hc1011) (by decide) (by decide) kQ) ?_
          show own_Go p e below s _ _ _ (T979.setTop (mkF m 153 #[.val (.int p1), .val (.int p2), .val (.int p3), .val (.int p4), .val (.int p5), .val (.int fi), .val (.int (3 : Int32)), .val (.ref b802), .val (.int ix), .val (.ref b963), .val (.long (fi.toInt64)), .second, .val (.long ((fi.toInt64) + ((3 : Int32).toInt64))), .second, .unset] []))
          refine own_st (fun _ kQ => XT.iconstV Xp1005.here hx rfl (0 : Int32) (hb hby at_153) (by decide) kQ) ?_
          show own_Go p e below s _ _ _ (T979.setTop (mkF m 154 #[.val (.int p1), .val (.int p2), .val (.int p3), .val (.int p4), .val (.int p5), .val (.int fi), .val (.int (3 : Int32)), .val (.ref b802), .val (.int ix), .val (.ref b963), .val (.long (fi.toInt64)), .second, .val (.long ((fi.toInt64) + ((3 : Int32).toInt64))), .second, .unset] [(.int (0 : Int32))]))
          refine own_st (fun _ kQ => XS.istore Xp1005.here hx rfl (hb hby at_154) rfl (l' := #[.val (.int p1), .val (.int p2), .val (.int p3), .val (.int p4), .val (.int p5), .val (.int fi), .val (.int (3 : Int32)), .val (.ref b802), .val (.int ix), .val (.ref b963), .val (.long (fi.toInt64)), .second, .val (.long ((fi.toInt64) + ((3 : Int32).toInt64))), .second, .val (.int (0 : Int32))]) rfl kQ) ?_
          show own_Go p e below s _ _ _ (T979.setTop (mkF m 156 #[.val (.int p1), .val (.int p2), .val (.int p3), .val (.int p4), .val (.int p5), .val (.int fi), .val (.int (3 : Int32)), .val (.ref b802), .val (.int ix), .val (.ref b963), .val (.long (fi.toInt64)), .second, .val (.long ((fi.toInt64) + ((3 : Int32).toInt64))), .second, .val (.int (0 : Int32))] []))
          refine own_st (fun _ kQ => XS.aload Xp1005.here hx rfl (hb hby at_156) rfl rfl kQ) ?_
          show own_Go p e below s _ _ _ (T979.setTop (mkF m 158 #[.val (.int p1), .val (.int p2), .val (.int p3), .val (.int p4), .val (.int p5), .val (.int fi), .val (.int (3 : Int32)), .val (.ref b802), .val (.int ix), .val (.ref b963), .val (.long (fi.toInt64)), .second, .val (.long ((fi.toInt64) + ((3 : Int32).toInt64))), .second, .val (.int (0 : Int32))] [(.ref b963)]))
          refine own_st (fun _ kQ => XS.iload Xp1005.here hx rfl (hb hby at_158) rfl kQ) ?_
          show own_Go p e below s _ _ _ (T979.setTop (mkF m 160 #[.val (.int p1), .val (.int p2), .val (.int p3), .val (.int p4), .val (.int p5), .val (.int fi), .val (.int (3 : Int32)), .val (.ref b802), .val (.int ix), .val (.ref b963), .val (.long (fi.toInt64)), .second, .val (.long ((fi.toInt64) + ((3 : Int32).toInt64))), .second, .val (.int (0 : Int32))] [(.int ix), (.ref b963)]))
          have F1017 : Exa Z T979.heap b802 "java/util/ArrayList" := (F980.keep K979)
          have F1018 : Fld Z T979.heap b802 "java/util/ArrayList" "size" "I" (.int (3 : Int32)) := ((q896.ext E963).keep K979 (ninS ne970 nin0))
          obtain ⟨cq1016, kq1016, q1016a, q1016b, q1016c⟩ := isOf hZ rfl q982
          obtain ⟨_, _, ⟨T1016, L1016, k1016, n1016⟩, -, X1016, ⟨Lc1016, hQ1016, l1016, y1016, z1016⟩, st1016⟩ := Xp1005.virtualBack hx (y := (⟨"com/example/rationed_session/rationedsession/model/Partition", "holds", "(I)Z"⟩ : MethodName)) (z := (⟨"com/example/rationed_session/rationedsession/model/Partition", "holds", "(I)Z"⟩ : MethodName)) hown (mvT hZ (hw _ (List.mem_of_getElem? (i := 121) rfl))) (mvT hZ (hw _ (List.mem_of_getElem? (i := 122) rfl))) (notFace_of_selects (args := #[]) (mvT hZ (hw _ (List.mem_of_getElem? (i := 124) rfl)))) (mvT hZ (hw _ (List.mem_of_getElem? (i := 124) rfl))) (mvT hZ (hw _ (List.mem_of_getElem? (i := 123) rfl))) (by decide) (backOf (W := 0) (own_rm_holdsU l Z a0 hw [] x981 b963 b802 ix fi (3 : Int32) T979.heap n0 Zs997 q985 q987 q988 F1017 q984 F1018) hZ (hw _ (List.mem_of_getElem? (i := 125) rfl)) (hw _ (List.mem_of_getElem? (i := 67) rfl)) (by decide) (by decide)) q1016a q1016c (g := (mkF m 160 #[.val (.int p1), .val (.int p2), .val (.int p3), .val (.int p4), .val (.int p5), .val (.int fi), .val (.int (3 : Int32)), .val (.ref b802), .val (.int ix), .val (.ref b963), .val (.long (fi.toInt64)), .second, .val (.long ((fi.toInt64) + ((3 : Int32).toInt64))), .second, .val (.int (0 : Int32))] [(.int ix), (.ref b963)])) rfl (by rw [hml]; rfl) (Steps.refl _) (argsL := [(.int ix)]) (rest := []) (lenOf own_pd13 rfl) rfl (by show 2 * 0 + _ ≤ _; exact Nat.le_of_eq rfl) (hb hby at_160) (fun _ _ => ⟨rfl, rfl, (by decide : 7 + 0 ≤ _), (by decide : 21 + 0 ≤ _)⟩)
          dsimp only [Pt.U, Pt.locs, Pt.cells, Pt.slots] at X1016 l1016 y1016 z1016 st1016 hQ1016
          subst l1016 y1016 z1016
          obtain ⟨N1016q, rfl, eh1016⟩ := hQ1016
          have N1019 := Fr.app Np1005 N1016q
          refine own_tr st1016 ?_
          show own_Go p e below s _ _ _ (T1016.setTop (mkF m 163 #[.val (.int p1), .val (.int p2), .val (.int p3), .val (.int p4), .val (.int p5), .val (.int fi), .val (.int (3 : Int32)), .val (.ref b802), .val (.int ix), .val (.ref b963), .val (.long (fi.toInt64)), .second, .val (.long ((fi.toInt64) + ((3 : Int32).toInt64))), .second, .val (.int (0 : Int32))] [(.int (if ix < fi then (0 : Int32) else if ix - fi < (3 : Int32) then 1 else 0))]))
          refine own_st (fun _ kQ => XS.iload X1016.here hx rfl (hb hby at_163) rfl kQ) ?_
          show own_Go p e below s _ _ _ (T1016.setTop (mkF m 165 #[.val (.int p1), .val (.int p2), .val (.int p3), .val (.int p4), .val (.int p5), .val (.int fi), .val (.int (3 : Int32)), .val (.ref b802), .val (.int ix), .val (.ref b963), .val (.long (fi.toInt64)), .second, .val (.long ((fi.toInt64) + ((3 : Int32).toInt64))), .second, .val (.int (0 : Int32))] [(.int (0 : Int32)), (.int (if ix < fi then (0 : Int32) else if ix - fi < (3 : Int32) then 1 else 0))]))
          refine own_st (fun _ kQ => XS.icmpNo X1016.here hx rfl (hb hby at_165) rfl (XT.ii_ne_f (by rw [if_neg (fun q => hc1006 ((own_lt64 _ _).mpr q)), if_neg (fun q => hc1011 ((own_hl _ _ (3 : Int32) hfi (by decide) (by decide) (fun q => hc1006 ((own_lt64 _ _).mpr q))).mpr q))])) kQ) ?_
          show own_Go p e below s _ _ _ (T1016.setTop (mkF m 168 #[.val (.int p1), .val (.int p2), .val (.int p3), .val (.int p4), .val (.int p5), .val (.int fi), .val (.int (3 : Int32)), .val (.ref b802), .val (.int ix), .val (.ref b963), .val (.long (fi.toInt64)), .second, .val (.long ((fi.toInt64) + ((3 : Int32).toInt64))), .second, .val (.int (0 : Int32))] []))
          refine own_st (fun _ kQ => XT.iconstV X1016.here hx rfl (1 : Int32) (hb hby at_168) (by decide) kQ) ?_
          show own_Go p e below s _ _ _ (T1016.setTop (mkF m 169 #[.val (.int p1), .val (.int p2), .val (.int p3), .val (.int p4), .val (.int p5), .val (.int fi), .val (.int (3 : Int32)), .val (.ref b802), .val (.int ix), .val (.ref b963), .val (.long (fi.toInt64)), .second, .val (.long ((fi.toInt64) + ((3 : Int32).toInt64))), .second, .val (.int (0 : Int32))] [(.int (1 : Int32))]))
          refine own_st (fun _ kQ => XS.goto X1016.here hx rfl (pc0 := 169) (pc' := 173) rfl (hb hby at_169) (by decide) (by decide) kQ) ?_
          show own_Go p e below s _ _ _ (T1016.setTop (mkF m 173 #[.val (.int p1), .val (.int p2), .val (.int p3), .val (.int p4), .val (.int p5), .val (.int fi), .val (.int (3 : Int32)), .val (.ref b802), .val (.int ix), .val (.ref b963), .val (.long (fi.toInt64)), .second, .val (.long ((fi.toInt64) + ((3 : Int32).toInt64))), .second, .val (.int (0 : Int32))] [(.int (1 : Int32))]))
          refine own_retN X1016 hx hlk Bd.returns (t := .boolean) (z' := (1 : Int32)) (by simp) (by decide) (hb hby at_173) (by decide) (by decide) ?_
          rw [eh1016]
          exact ⟨N1019, rfl⟩
  · rw [hi]
    show own_Go p e below s _ _ _ (s₁.setTop (mkF m 10 #[.val (.int p1), .val (.int p2), .val (.int p3), .val (.int p4), .val (.int p5), .val (.int fi), .unset, .unset, .unset, .unset, .unset, .unset, .unset, .unset, .unset] [(.int (3 : Int32)), (.int (1 : Int32))]))
    refine own_st (fun _ kQ => XS.iadd X0.here hx rfl (hb hby at_10) rfl kQ) ?_
    show own_Go p e below s _ _ _ (s₁.setTop (mkF m 11 #[.val (.int p1), .val (.int p2), .val (.int p3), .val (.int p4), .val (.int p5), .val (.int fi), .unset, .unset, .unset, .unset, .unset, .unset, .unset, .unset, .unset] [(.int (4 : Int32))]))
    refine own_st (fun _ kQ => XS.istore X0.here hx rfl (hb hby at_11) rfl (l' := #[.val (.int p1), .val (.int p2), .val (.int p3), .val (.int p4), .val (.int p5), .val (.int fi), .val (.int (4 : Int32)), .unset, .unset, .unset, .unset, .unset, .unset, .unset, .unset]) rfl kQ) ?_
    show own_Go p e below s _ _ _ (s₁.setTop (mkF m 13 #[.val (.int p1), .val (.int p2), .val (.int p3), .val (.int p4), .val (.int p5), .val (.int fi), .val (.int (4 : Int32)), .unset, .unset, .unset, .unset, .unset, .unset, .unset, .unset] []))
    obtain ⟨T1020, h1020, X1020, e1020, E1020, A1020, D1020, -, st1020⟩ := newO X0 hx hZ hown (hw _ (List.mem_of_getElem? (i := 1) rfl)) (hw _ (List.mem_of_getElem? (i := 2) rfl)) (hw _ (List.mem_of_getElem? (i := 3) rfl)) e0 (g := (mkF m 13 #[.val (.int p1), .val (.int p2), .val (.int p3), .val (.int p4), .val (.int p5), .val (.int fi), .val (.int (4 : Int32)), .unset, .unset, .unset, .unset, .unset, .unset, .unset, .unset] [])) rfl (hb hby at_13) (by decide) (by decide)
    obtain ⟨b1020, g1020⟩ : ∃ z, z = h0.size := ⟨_, rfl⟩
    rw [← g1020] at A1020 D1020 st1020
    refine own_st st1020 ?_
    have Zs1021 : n0 ≤ h1020.size := Nat.le_trans Z0 E1020.1
    have g1022 : n0 ≤ b1020 := Nat.le_trans Z0 (Nat.le_of_eq g1020.symm)
    have F1023 : Fld Z h1020 b1020 "java/util/AbstractList" "modCount" "I" (.int (0 : Int32)) := D1020 (Or.inl (hw _ (List.mem_of_getElem? (i := 23) rfl))) (ty := .int) (by decide)
    have F1024 : Fld Z h1020 b1020 "java/util/ArrayList" "elementData" "[Ljava/lang/Object;" .null := D1020 (Or.inl (hw _ (List.mem_of_getElem? (i := 26) rfl))) (ty := (.array (.object "java/lang/Object"))) (by decide)
    have F1025 : Fld Z h1020 b1020 "java/util/ArrayList" "size" "I" (.int (0 : Int32)) := D1020 (Or.inl (hw _ (List.mem_of_getElem? (i := 42) rfl))) (ty := .int) (by decide)
    show own_Go p e below s _ _ _ (T1020.setTop (mkF m 16 #[.val (.int p1), .val (.int p2), .val (.int p3), .val (.int p4), .val (.int p5), .val (.int fi), .val (.int (4 : Int32)), .unset, .unset, .unset, .unset, .unset, .unset, .unset, .unset] [(.ref b1020)]))
    refine own_st (fun _ kQ => XS.dup X1020.here hx rfl (hb hby at_16) rfl rfl kQ) ?_
    show own_Go p e below s _ _ _ (T1020.setTop (mkF m 17 #[.val (.int p1), .val (.int p2), .val (.int p3), .val (.int p4), .val (.int p5), .val (.int fi), .val (.int (4 : Int32)), .unset, .unset, .unset, .unset, .unset, .unset, .unset, .unset] [(.ref b1020), (.ref b1020)]))
    have O1027 : Old Z n0 h1020 := (O0.ext E1020)
    obtain ⟨_, _, ⟨T1026, L1026, k1026, n1026⟩, -, X1026, ⟨Lc1026, hQ1026, l1026, y1026, z1026⟩, st1026⟩ := X1020.specialBack hx (y := (⟨"java/util/ArrayList", "<init>", "()V"⟩ : MethodName)) rfl hown (mvT hZ (hw _ (List.mem_of_getElem? (i := 4) rfl))) (mvT hZ (hw _ (List.mem_of_getElem? (i := 5) rfl))) (mvT hZ (hw _ (List.mem_of_getElem? (i := 6) rfl))) (by decide) (backOf (W := 1) (own_rm_alinit l Z a0 hw [] b1020 dflt kd h1020 n0 Zs1021 O1027 S_es V_es A1020 F1023 F1024 F1025 g1022) hZ (hw _ (List.mem_of_getElem? (i := 6) rfl)) (hw _ (List.mem_of_getElem? (i := 3) rfl)) (by decide) (by decide)) (g := (mkF m 17 #[.val (.int p1), .val (.int p2), .val (.int p3), .val (.int p4), .val (.int p5), .val (.int fi), .val (.int (4 : Int32)), .unset, .unset, .unset, .unset, .unset, .unset, .unset, .unset] [(.ref b1020), (.ref b1020)])) rfl (by rw [hml]; rfl) (Steps.refl _) (a := b1020) (argsL := []) (rest := [(.ref b1020)]) (lenOf own_pd0 rfl) rfl (by show 2 * 0 + _ ≤ _; exact Nat.le_of_eq rfl) (hb hby at_17) (fun _ _ => ⟨rfl, e1020, (by decide : 1 + 0 ≤ _), (by decide : 3 + 0 ≤ _)⟩)
    dsimp only [Pt.U, Pt.locs, Pt.cells, Pt.slots] at X1026 l1026 y1026 z1026 st1026 hQ1026
    subst l1026 y1026 z1026
    obtain ⟨N1026q, rfl, K1026, q1028, q1029, q1030, q1031⟩ := hQ1026
    have N1032 := Fr.app N0 N1026q
    refine own_tr st1026 ?_
    have lt1033 : b1020 < T1026.heap.size := Nat.lt_of_lt_of_le A1020.lt K1026.1
    have Zs1034 : n0 ≤ T1026.heap.size := Nat.le_trans Zs1021 K1026.1
    show own_Go p e below s _ _ _ (T1026.setTop (mkF m 20 #[.val (.int p1), .val (.int p2), .val (.int p3), .val (.int p4), .val (.int p5), .val (.int fi), .val (.int (4 : Int32)), .unset, .unset, .unset, .unset, .unset, .unset, .unset, .unset] [(.ref b1020)]))
    refine own_st (fun _ kQ => XS.astore X1026.here hx rfl (hb hby at_20) rfl rfl (l' := #[.val (.int p1), .val (.int p2), .val (.int p3), .val (.int p4), .val (.int p5), .val (.int fi), .val (.int (4 : Int32)), .val (.ref b1020), .unset, .unset, .unset, .unset, .unset, .unset, .unset]) rfl kQ) ?_
    show own_Go p e below s _ _ _ (T1026.setTop (mkF m 22 #[.val (.int p1), .val (.int p2), .val (.int p3), .val (.int p4), .val (.int p5), .val (.int fi), .val (.int (4 : Int32)), .val (.ref b1020), .unset, .unset, .unset, .unset, .unset, .unset, .unset] []))
    refine own_st (fun _ kQ => XS.aload X1026.here hx rfl (hb hby at_22) rfl rfl kQ) ?_
    show own_Go p e below s _ _ _ (T1026.setTop (mkF m 24 #[.val (.int p1), .val (.int p2), .val (.int p3), .val (.int p4), .val (.int p5), .val (.int fi), .val (.int (4 : Int32)), .val (.ref b1020), .unset, .unset, .unset, .unset, .unset, .unset, .unset] [(.ref b1020)]))
    refine own_st (fun _ kQ => XS.iloadN X1026.here hx rfl (hb hby at_24) rfl kQ) ?_
    show own_Go p e below s _ _ _ (T1026.setTop (mkF m 25 #[.val (.int p1), .val (.int p2), .val (.int p3), .val (.int p4), .val (.int p5), .val (.int fi), .val (.int (4 : Int32)), .val (.ref b1020), .unset, .unset, .unset, .unset, .unset, .unset, .unset] [(.int p3), (.ref b1020)]))
    have O1036 : Old Z n0 T1026.heap := (O1027.keep K1026 (allS g1022 all0))
    obtain ⟨_, _, ⟨T1035, L1035, k1035, n1035⟩, -, X1035, ⟨Lc1035, hQ1035, l1035, y1035, z1035⟩, st1035⟩ := Jvm.LawKit.callS X1026 hx (y := (⟨"java/lang/Integer", "valueOf", "(I)Ljava/lang/Integer;"⟩ : MethodName)) hown (mvT hZ (hw _ (List.mem_of_getElem? (i := 27) rfl))) (mvT hZ (hw _ (List.mem_of_getElem? (i := 28) rfl))) (mvT hZ (hw _ (List.mem_of_getElem? (i := 29) rfl))) (mvT hZ (hw _ (List.mem_of_getElem? (i := 30) rfl))) (by decide) (backOf (W := 1) (own_rm_valueOfI l Z a0 hw [] p3 a_cacheI T1026.heap n0 Zs1034 O1036 S_cacheI BxI S_high) hZ (hw _ (List.mem_of_getElem? (i := 30) rfl)) (hw _ (List.mem_of_getElem? (i := 29) rfl)) (by decide) (by decide)) (g := (mkF m 25 #[.val (.int p1), .val (.int p2), .val (.int p3), .val (.int p4), .val (.int p5), .val (.int fi), .val (.int (4 : Int32)), .val (.ref b1020), .unset, .unset, .unset, .unset, .unset, .unset, .unset] [(.int p3), (.ref b1020)])) rfl (by rw [hml]; rfl) (argsL := [(.int p3)]) (rest := [(.ref b1020)]) (lenOf own_pd10 rfl) rfl (by show 2 * 0 + _ ≤ _; exact Nat.le_of_eq rfl) (hb hby at_25) (fun _ _ => ⟨rfl, rfl, (by decide : 1 + 1 ≤ _), (by decide : 3 + 1 ≤ _)⟩)
    dsimp only [Pt.U, Pt.locs, Pt.cells, Pt.slots] at X1035 l1035 y1035 z1035 st1035 hQ1035
    subst l1035 y1035 z1035
    obtain ⟨x1037, N1035q, rfl, K1035, q1038, q1039⟩ := hQ1035
    have N1040 := Fr.app N1032 N1035q
    refine own_st st1035 ?_
    have lt1041 : b1020 < T1035.heap.size := Nat.lt_of_lt_of_le q1031.lt K1035.1
    have Zs1042 : n0 ≤ T1035.heap.size := Nat.le_trans Zs1034 K1035.1
    show own_Go p e below s _ _ _ (T1035.setTop (mkF m 28 #[.val (.int p1), .val (.int p2), .val (.int p3), .val (.int p4), .val (.int p5), .val (.int fi), .val (.int (4 : Int32)), .val (.ref b1020), .unset, .unset, .unset, .unset, .unset, .unset, .unset] [(.ref x1037), (.ref b1020)]))
    have F1044 : Exa Z T1035.heap b1020 "java/util/ArrayList" := (q1028.keep K1035)
    have F1045 : Fld Z T1035.heap b1020 "java/util/AbstractList" "modCount" "I" (.int (0 : Int32)) := (q1029.keep K1035 nin0)
    have F1046 : Fld Z T1035.heap b1020 "java/util/ArrayList" "elementData" "[Ljava/lang/Object;" (.ref dflt) := (q1030.keep K1035 nin0)
    have F1047 : Fld Z T1035.heap b1020 "java/util/ArrayList" "size" "I" (.int (0 : Int32)) := (q1031.keep K1035 nin0)
    have O1048 : Old Z n0 T1035.heap := (O1036.keep K1035 all0)
    obtain ⟨cq1043, kq1043, q1043a, q1043b, q1043c⟩ := isOf hZ rfl F1044
    obtain ⟨_, _, ⟨T1043, L1043, k1043, n1043⟩, -, X1043, ⟨Lc1043, hQ1043, l1043, y1043, z1043⟩, st1043⟩ := X1035.virtualBack hx (y := (⟨"java/util/ArrayList", "add", "(Ljava/lang/Object;)Z"⟩ : MethodName)) (z := (⟨"java/util/ArrayList", "add", "(Ljava/lang/Object;)Z"⟩ : MethodName)) hown (mvT hZ (hw _ (List.mem_of_getElem? (i := 34) rfl))) (mvT hZ (hw _ (List.mem_of_getElem? (i := 35) rfl))) (notFace_of_selects (args := #[]) (mvT hZ (hw _ (List.mem_of_getElem? (i := 37) rfl)))) (mvT hZ (hw _ (List.mem_of_getElem? (i := 37) rfl))) (mvT hZ (hw _ (List.mem_of_getElem? (i := 36) rfl))) (by decide) (backOf (W := 0) (own_rm_add1_0 l Z a0 hw [] b1020 x1037 (0 : Int32) dflt kd T1035.heap n0 Zs1042 O1048 S_es V_es F1044 F1045 F1046 F1047 g1022 q1038) hZ (hw _ (List.mem_of_getElem? (i := 38) rfl)) (hw _ (List.mem_of_getElem? (i := 3) rfl)) (by decide) (by decide)) q1043a q1043c (g := (mkF m 28 #[.val (.int p1), .val (.int p2), .val (.int p3), .val (.int p4), .val (.int p5), .val (.int fi), .val (.int (4 : Int32)), .val (.ref b1020), .unset, .unset, .unset, .unset, .unset, .unset, .unset] [(.ref x1037), (.ref b1020)])) rfl (by rw [hml]; rfl) (Steps.refl _) (argsL := [(.ref x1037)]) (rest := []) (lenOf own_pd11 rfl) rfl (by show 2 * 0 + _ ≤ _; exact Nat.le_of_eq rfl) (hb hby at_28) (fun _ _ => ⟨rfl, rfl, (by decide : 2 + 1 ≤ _), (by decide : 4 + 10 ≤ _)⟩)
    dsimp only [Pt.U, Pt.locs, Pt.cells, Pt.slots] at X1043 l1043 y1043 z1043 st1043 hQ1043
    subst l1043 y1043 z1043
    obtain ⟨x1049, x1050, N1043q, rfl, K1043, q1051, q1052, q1053, q1054, q1055, q1056, q1057, q1058⟩ := hQ1043
    have N1059 := Fr.app N1040 N1043q
    refine own_tr st1043 ?_
    have lt1060 : b1020 < T1043.heap.size := Nat.lt_of_lt_of_le lt1041 K1043.1
    have lt1061 : x1037 < T1043.heap.size := Nat.lt_of_lt_of_le q1039.lt K1043.1
    have Zs1062 : n0 ≤ T1043.heap.size := Nat.le_trans Zs1042 K1043.1
    have ne1063 : b1020 ≠ x1049 := Nat.ne_of_lt (Nat.lt_of_lt_of_le lt1041 q1051)
    have ne1064 : x1037 ≠ x1049 := Nat.ne_of_lt (Nat.lt_of_lt_of_le q1039.lt q1051)
    have g1065 : n0 ≤ x1049 := Nat.le_trans Zs1042 q1051
    show own_Go p e below s _ _ _ (T1043.setTop (mkF m 31 #[.val (.int p1), .val (.int p2), .val (.int p3), .val (.int p4), .val (.int p5), .val (.int fi), .val (.int (4 : Int32)), .val (.ref b1020), .unset, .unset, .unset, .unset, .unset, .unset, .unset] [(.int (1 : Int32))]))
    refine own_st (fun _ kQ => XT.pop X1043.here hx rfl (hb hby at_31) rfl rfl kQ) ?_
    show own_Go p e below s _ _ _ (T1043.setTop (mkF m 32 #[.val (.int p1), .val (.int p2), .val (.int p3), .val (.int p4), .val (.int p5), .val (.int fi), .val (.int (4 : Int32)), .val (.ref b1020), .unset, .unset, .unset, .unset, .unset, .unset, .unset] []))
    refine own_st (fun _ kQ => XS.iload X1043.here hx rfl (hb hby at_32) rfl kQ) ?_
    show own_Go p e below s _ _ _ (T1043.setTop (mkF m 34 #[.val (.int p1), .val (.int p2), .val (.int p3), .val (.int p4), .val (.int p5), .val (.int fi), .val (.int (4 : Int32)), .val (.ref b1020), .unset, .unset, .unset, .unset, .unset, .unset, .unset] [(.int (4 : Int32))]))
    refine own_st (fun _ kQ => XT.iconstV X1043.here hx rfl (2 : Int32) (hb hby at_34) (by decide) kQ) ?_
    show own_Go p e below s _ _ _ (T1043.setTop (mkF m 35 #[.val (.int p1), .val (.int p2), .val (.int p3), .val (.int p4), .val (.int p5), .val (.int fi), .val (.int (4 : Int32)), .val (.ref b1020), .unset, .unset, .unset, .unset, .unset, .unset, .unset] [(.int (2 : Int32)), (.int (4 : Int32))]))
    refine own_st (fun _ kQ => XS.icmpNo X1043.here hx rfl (hb hby at_35) rfl (XT.ii_lt_f (by decide)) kQ) ?_
    show own_Go p e below s _ _ _ (T1043.setTop (mkF m 38 #[.val (.int p1), .val (.int p2), .val (.int p3), .val (.int p4), .val (.int p5), .val (.int fi), .val (.int (4 : Int32)), .val (.ref b1020), .unset, .unset, .unset, .unset, .unset, .unset, .unset] []))
    refine own_st (fun _ kQ => XS.aload X1043.here hx rfl (hb hby at_38) rfl rfl kQ) ?_
    show own_Go p e below s _ _ _ (T1043.setTop (mkF m 40 #[.val (.int p1), .val (.int p2), .val (.int p3), .val (.int p4), .val (.int p5), .val (.int fi), .val (.int (4 : Int32)), .val (.ref b1020), .unset, .unset, .unset, .unset, .unset, .unset, .unset] [(.ref b1020)]))
    refine own_st (fun _ kQ => XS.iloadN X1043.here hx rfl (hb hby at_40) rfl kQ) ?_
    show own_Go p e below s _ _ _ (T1043.setTop (mkF m 41 #[.val (.int p1), .val (.int p2), .val (.int p3), .val (.int p4), .val (.int p5), .val (.int fi), .val (.int (4 : Int32)), .val (.ref b1020), .unset, .unset, .unset, .unset, .unset, .unset, .unset] [(.int p4), (.ref b1020)]))
    have O1067 : Old Z n0 T1043.heap := (O1048.keep K1043 (allS g1022 all0))
    obtain ⟨_, _, ⟨T1066, L1066, k1066, n1066⟩, -, X1066, ⟨Lc1066, hQ1066, l1066, y1066, z1066⟩, st1066⟩ := Jvm.LawKit.callS X1043 hx (y := (⟨"java/lang/Integer", "valueOf", "(I)Ljava/lang/Integer;"⟩ : MethodName)) hown (mvT hZ (hw _ (List.mem_of_getElem? (i := 27) rfl))) (mvT hZ (hw _ (List.mem_of_getElem? (i := 28) rfl))) (mvT hZ (hw _ (List.mem_of_getElem? (i := 29) rfl))) (mvT hZ (hw _ (List.mem_of_getElem? (i := 30) rfl))) (by decide) (backOf (W := 1) (own_rm_valueOfI l Z a0 hw [] p4 a_cacheI T1043.heap n0 Zs1062 O1067 S_cacheI BxI S_high) hZ (hw _ (List.mem_of_getElem? (i := 30) rfl)) (hw _ (List.mem_of_getElem? (i := 29) rfl)) (by decide) (by decide)) (g := (mkF m 41 #[.val (.int p1), .val (.int p2), .val (.int p3), .val (.int p4), .val (.int p5), .val (.int fi), .val (.int (4 : Int32)), .val (.ref b1020), .unset, .unset, .unset, .unset, .unset, .unset, .unset] [(.int p4), (.ref b1020)])) rfl (by rw [hml]; rfl) (argsL := [(.int p4)]) (rest := [(.ref b1020)]) (lenOf own_pd10 rfl) rfl (by show 2 * 0 + _ ≤ _; exact Nat.le_of_eq rfl) (hb hby at_41) (fun _ _ => ⟨rfl, rfl, (by decide : 3 + 1 ≤ _), (by decide : 14 + 1 ≤ _)⟩)
    dsimp only [Pt.U, Pt.locs, Pt.cells, Pt.slots] at X1066 l1066 y1066 z1066 st1066 hQ1066
    subst l1066 y1066 z1066
    obtain ⟨x1068, N1066q, rfl, K1066, q1069, q1070⟩ := hQ1066
    have N1071 := Fr.app N1059 N1066q
    refine own_st st1066 ?_
    have lt1072 : b1020 < T1066.heap.size := Nat.lt_of_lt_of_le q1055.lt K1066.1
    have lt1073 : x1037 < T1066.heap.size := Nat.lt_of_lt_of_le lt1061 K1066.1
    have lt1074 : x1049 < T1066.heap.size := Nat.lt_of_lt_of_le q1057.lt K1066.1
    have Zs1075 : n0 ≤ T1066.heap.size := Nat.le_trans Zs1062 K1066.1
    obtain ⟨Lp1076, Xp1076, Np1076⟩ : ∃ L, Stand p l e room_1 s m #[(.int p1), (.int p2), (.int p3), (.int p4), (.int p5)] below meth c T1066 L 4 15 ∧ Fr n0 L := ⟨_, X1066, N1071⟩
    show own_Go p e below s _ _ _ (T1066.setTop (mkF m 44 #[.val (.int p1), .val (.int p2), .val (.int p3), .val (.int p4), .val (.int p5), .val (.int fi), .val (.int (4 : Int32)), .val (.ref b1020), .unset, .unset, .unset, .unset, .unset, .unset, .unset] [(.ref x1068), (.ref b1020)]))
    have F1078 : Exa Z T1066.heap b1020 "java/util/ArrayList" := (q1052.keep K1066)
    have F1079 : Fld Z T1066.heap b1020 "java/util/AbstractList" "modCount" "I" (.int ((0 : Int32) + (1 : Int32))) := (q1053.keep K1066 nin0)
    have F1080 : Fld Z T1066.heap b1020 "java/util/ArrayList" "elementData" "[Ljava/lang/Object;" (.ref x1049) := (q1054.keep K1066 nin0)
    have F1081 : Fld Z T1066.heap b1020 "java/util/ArrayList" "size" "I" (.int (1 : Int32)) := (q1055.keep K1066 nin0)
    have F1082 : Arv Z T1066.heap x1049 x1050 (.object "java/lang/Object") (10 : Int32) [(.ref x1037), .null, .null, .null, .null, .null, .null, .null, .null, .null] .null := (q1057.keep K1066 nin0)
    obtain ⟨cq1077, kq1077, q1077a, q1077b, q1077c⟩ := isOf hZ rfl F1078
    obtain ⟨_, _, ⟨T1077, L1077, k1077, n1077⟩, -, X1077, ⟨Lc1077, hQ1077, l1077, y1077, z1077⟩, st1077⟩ := Xp1076.virtualBack hx (y := (⟨"java/util/ArrayList", "add", "(Ljava/lang/Object;)Z"⟩ : MethodName)) (z := (⟨"java/util/ArrayList", "add", "(Ljava/lang/Object;)Z"⟩ : MethodName)) hown (mvT hZ (hw _ (List.mem_of_getElem? (i := 34) rfl))) (mvT hZ (hw _ (List.mem_of_getElem? (i := 35) rfl))) (notFace_of_selects (args := #[]) (mvT hZ (hw _ (List.mem_of_getElem? (i := 37) rfl)))) (mvT hZ (hw _ (List.mem_of_getElem? (i := 37) rfl))) (mvT hZ (hw _ (List.mem_of_getElem? (i := 36) rfl))) (by decide) (backOf (W := 0) (own_rm_add1_1 l Z a0 hw [] b1020 x1068 x1049 x1050 ((0 : Int32) + (1 : Int32)) x1037 T1066.heap n0 Zs1075 F1078 F1079 F1080 F1081 F1082 q1058 g1022 g1065 ne1063 q1069) hZ (hw _ (List.mem_of_getElem? (i := 38) rfl)) (hw _ (List.mem_of_getElem? (i := 3) rfl)) (by decide) (by decide)) q1077a q1077c (g := (mkF m 44 #[.val (.int p1), .val (.int p2), .val (.int p3), .val (.int p4), .val (.int p5), .val (.int fi), .val (.int (4 : Int32)), .val (.ref b1020), .unset, .unset, .unset, .unset, .unset, .unset, .unset] [(.ref x1068), (.ref b1020)])) rfl (by rw [hml]; rfl) (Steps.refl _) (argsL := [(.ref x1068)]) (rest := []) (lenOf own_pd11 rfl) rfl (by show 2 * 0 + _ ≤ _; exact Nat.le_of_eq rfl) (hb hby at_44) (fun _ _ => ⟨rfl, rfl, (by decide : 4 + 0 ≤ _), (by decide : 15 + 0 ≤ _)⟩)
    dsimp only [Pt.U, Pt.locs, Pt.cells, Pt.slots] at X1077 l1077 y1077 z1077 st1077 hQ1077
    subst l1077 y1077 z1077
    obtain ⟨N1077q, rfl, K1077, q1083, q1084, q1085, q1086, q1087⟩ := hQ1077
    have N1088 := Fr.app Np1076 N1077q
    refine own_tr st1077 ?_
    have lt1089 : b1020 < T1077.heap.size := Nat.lt_of_lt_of_le lt1072 K1077.1
    have lt1090 : x1037 < T1077.heap.size := Nat.lt_of_lt_of_le lt1073 K1077.1
    have lt1091 : x1049 < T1077.heap.size := Nat.lt_of_lt_of_le lt1074 K1077.1
    have lt1092 : x1068 < T1077.heap.size := Nat.lt_of_lt_of_le q1070.lt K1077.1
    have Zs1093 : n0 ≤ T1077.heap.size := Nat.le_trans Zs1075 K1077.1
    show own_Go p e below s _ _ _ (T1077.setTop (mkF m 47 #[.val (.int p1), .val (.int p2), .val (.int p3), .val (.int p4), .val (.int p5), .val (.int fi), .val (.int (4 : Int32)), .val (.ref b1020), .unset, .unset, .unset, .unset, .unset, .unset, .unset] [(.int (1 : Int32))]))
    refine own_st (fun _ kQ => XT.pop X1077.here hx rfl (hb hby at_47) rfl rfl kQ) ?_
    show own_Go p e below s _ _ _ (T1077.setTop (mkF m 48 #[.val (.int p1), .val (.int p2), .val (.int p3), .val (.int p4), .val (.int p5), .val (.int fi), .val (.int (4 : Int32)), .val (.ref b1020), .unset, .unset, .unset, .unset, .unset, .unset, .unset] []))
    refine own_st (fun _ kQ => XS.iload X1077.here hx rfl (hb hby at_48) rfl kQ) ?_
    show own_Go p e below s _ _ _ (T1077.setTop (mkF m 50 #[.val (.int p1), .val (.int p2), .val (.int p3), .val (.int p4), .val (.int p5), .val (.int fi), .val (.int (4 : Int32)), .val (.ref b1020), .unset, .unset, .unset, .unset, .unset, .unset, .unset] [(.int (4 : Int32))]))
    refine own_st (fun _ kQ => XT.iconstV X1077.here hx rfl (3 : Int32) (hb hby at_50) (by decide) kQ) ?_
    show own_Go p e below s _ _ _ (T1077.setTop (mkF m 51 #[.val (.int p1), .val (.int p2), .val (.int p3), .val (.int p4), .val (.int p5), .val (.int fi), .val (.int (4 : Int32)), .val (.ref b1020), .unset, .unset, .unset, .unset, .unset, .unset, .unset] [(.int (3 : Int32)), (.int (4 : Int32))]))
    refine own_st (fun _ kQ => XS.icmpNo X1077.here hx rfl (hb hby at_51) rfl (XT.ii_lt_f (by decide)) kQ) ?_
    show own_Go p e below s _ _ _ (T1077.setTop (mkF m 54 #[.val (.int p1), .val (.int p2), .val (.int p3), .val (.int p4), .val (.int p5), .val (.int fi), .val (.int (4 : Int32)), .val (.ref b1020), .unset, .unset, .unset, .unset, .unset, .unset, .unset] []))
    refine own_st (fun _ kQ => XS.aload X1077.here hx rfl (hb hby at_54) rfl rfl kQ) ?_
    show own_Go p e below s _ _ _ (T1077.setTop (mkF m 56 #[.val (.int p1), .val (.int p2), .val (.int p3), .val (.int p4), .val (.int p5), .val (.int fi), .val (.int (4 : Int32)), .val (.ref b1020), .unset, .unset, .unset, .unset, .unset, .unset, .unset] [(.ref b1020)]))
    refine own_st (fun _ kQ => XS.iloadN X1077.here hx rfl (hb hby at_56) rfl kQ) ?_
    show own_Go p e below s _ _ _ (T1077.setTop (mkF m 57 #[.val (.int p1), .val (.int p2), .val (.int p3), .val (.int p4), .val (.int p5), .val (.int fi), .val (.int (4 : Int32)), .val (.ref b1020), .unset, .unset, .unset, .unset, .unset, .unset, .unset] [(.int p1), (.ref b1020)]))
    have O1095 : Old Z n0 T1077.heap := ((O1067.keep K1066 all0).keep K1077 (allS g1022 (allS g1065 all0)))
    obtain ⟨_, _, ⟨T1094, L1094, k1094, n1094⟩, -, X1094, ⟨Lc1094, hQ1094, l1094, y1094, z1094⟩, st1094⟩ := Jvm.LawKit.callS X1077 hx (y := (⟨"java/lang/Integer", "valueOf", "(I)Ljava/lang/Integer;"⟩ : MethodName)) hown (mvT hZ (hw _ (List.mem_of_getElem? (i := 27) rfl))) (mvT hZ (hw _ (List.mem_of_getElem? (i := 28) rfl))) (mvT hZ (hw _ (List.mem_of_getElem? (i := 29) rfl))) (mvT hZ (hw _ (List.mem_of_getElem? (i := 30) rfl))) (by decide) (backOf (W := 1) (own_rm_valueOfI l Z a0 hw [] p1 a_cacheI T1077.heap n0 Zs1093 O1095 S_cacheI BxI S_high) hZ (hw _ (List.mem_of_getElem? (i := 30) rfl)) (hw _ (List.mem_of_getElem? (i := 29) rfl)) (by decide) (by decide)) (g := (mkF m 57 #[.val (.int p1), .val (.int p2), .val (.int p3), .val (.int p4), .val (.int p5), .val (.int fi), .val (.int (4 : Int32)), .val (.ref b1020), .unset, .unset, .unset, .unset, .unset, .unset, .unset] [(.int p1), (.ref b1020)])) rfl (by rw [hml]; rfl) (argsL := [(.int p1)]) (rest := [(.ref b1020)]) (lenOf own_pd10 rfl) rfl (by show 2 * 0 + _ ≤ _; exact Nat.le_of_eq rfl) (hb hby at_57) (fun _ _ => ⟨rfl, rfl, (by decide : 4 + 1 ≤ _), (by decide : 15 + 1 ≤ _)⟩)
    dsimp only [Pt.U, Pt.locs, Pt.cells, Pt.slots] at X1094 l1094 y1094 z1094 st1094 hQ1094
    subst l1094 y1094 z1094
    obtain ⟨x1096, N1094q, rfl, K1094, q1097, q1098⟩ := hQ1094
    have N1099 := Fr.app N1088 N1094q
    refine own_st st1094 ?_
    have lt1100 : b1020 < T1094.heap.size := Nat.lt_of_lt_of_le q1086.lt K1094.1
    have lt1101 : x1037 < T1094.heap.size := Nat.lt_of_lt_of_le lt1090 K1094.1
    have lt1102 : x1049 < T1094.heap.size := Nat.lt_of_lt_of_le q1087.lt K1094.1
    have lt1103 : x1068 < T1094.heap.size := Nat.lt_of_lt_of_le lt1092 K1094.1
    have Zs1104 : n0 ≤ T1094.heap.size := Nat.le_trans Zs1093 K1094.1
    show own_Go p e below s _ _ _ (T1094.setTop (mkF m 60 #[.val (.int p1), .val (.int p2), .val (.int p3), .val (.int p4), .val (.int p5), .val (.int fi), .val (.int (4 : Int32)), .val (.ref b1020), .unset, .unset, .unset, .unset, .unset, .unset, .unset] [(.ref x1096), (.ref b1020)]))
    have F1106 : Exa Z T1094.heap b1020 "java/util/ArrayList" := (q1083.keep K1094)
    have F1107 : Fld Z T1094.heap b1020 "java/util/AbstractList" "modCount" "I" (.int (((0 : Int32) + (1 : Int32)) + (1 : Int32))) := (q1084.keep K1094 nin0)
    have F1108 : Fld Z T1094.heap b1020 "java/util/ArrayList" "elementData" "[Ljava/lang/Object;" (.ref x1049) := (q1085.keep K1094 nin0)
    have F1109 : Fld Z T1094.heap b1020 "java/util/ArrayList" "size" "I" (.int (2 : Int32)) := (q1086.keep K1094 nin0)
    have F1110 : Arv Z T1094.heap x1049 x1050 (.object "java/lang/Object") (10 : Int32) [(.ref x1037), (.ref x1068), .null, .null, .null, .null, .null, .null, .null, .null] .null := (q1087.keep K1094 nin0)
    obtain ⟨cq1105, kq1105, q1105a, q1105b, q1105c⟩ := isOf hZ rfl F1106
    obtain ⟨_, _, ⟨T1105, L1105, k1105, n1105⟩, -, X1105, ⟨Lc1105, hQ1105, l1105, y1105, z1105⟩, st1105⟩ := X1094.virtualBack hx (y := (⟨"java/util/ArrayList", "add", "(Ljava/lang/Object;)Z"⟩ : MethodName)) (z := (⟨"java/util/ArrayList", "add", "(Ljava/lang/Object;)Z"⟩ : MethodName)) hown (mvT hZ (hw _ (List.mem_of_getElem? (i := 34) rfl))) (mvT hZ (hw _ (List.mem_of_getElem? (i := 35) rfl))) (notFace_of_selects (args := #[]) (mvT hZ (hw _ (List.mem_of_getElem? (i := 37) rfl)))) (mvT hZ (hw _ (List.mem_of_getElem? (i := 37) rfl))) (mvT hZ (hw _ (List.mem_of_getElem? (i := 36) rfl))) (by decide) (backOf (W := 0) (own_rm_add1_2 l Z a0 hw [] b1020 x1096 x1049 x1050 (((0 : Int32) + (1 : Int32)) + (1 : Int32)) x1037 x1068 T1094.heap n0 Zs1104 F1106 F1107 F1108 F1109 F1110 q1058 g1022 g1065 ne1063 q1097) hZ (hw _ (List.mem_of_getElem? (i := 38) rfl)) (hw _ (List.mem_of_getElem? (i := 3) rfl)) (by decide) (by decide)) q1105a q1105c (g := (mkF m 60 #[.val (.int p1), .val (.int p2), .val (.int p3), .val (.int p4), .val (.int p5), .val (.int fi), .val (.int (4 : Int32)), .val (.ref b1020), .unset, .unset, .unset, .unset, .unset, .unset, .unset] [(.ref x1096), (.ref b1020)])) rfl (by rw [hml]; rfl) (Steps.refl _) (argsL := [(.ref x1096)]) (rest := []) (lenOf own_pd11 rfl) rfl (by show 2 * 0 + _ ≤ _; exact Nat.le_of_eq rfl) (hb hby at_60) (fun _ _ => ⟨rfl, rfl, (by decide : 5 + 0 ≤ _), (by decide : 16 + 0 ≤ _)⟩)
    dsimp only [Pt.U, Pt.locs, Pt.cells, Pt.slots] at X1105 l1105 y1105 z1105 st1105 hQ1105
    subst l1105 y1105 z1105
    obtain ⟨N1105q, rfl, K1105, q1111, q1112, q1113, q1114, q1115⟩ := hQ1105
    have N1116 := Fr.app N1099 N1105q
    refine own_tr st1105 ?_
    have lt1117 : b1020 < T1105.heap.size := Nat.lt_of_lt_of_le lt1100 K1105.1
    have lt1118 : x1037 < T1105.heap.size := Nat.lt_of_lt_of_le lt1101 K1105.1
    have lt1119 : x1049 < T1105.heap.size := Nat.lt_of_lt_of_le lt1102 K1105.1
    have lt1120 : x1068 < T1105.heap.size := Nat.lt_of_lt_of_le lt1103 K1105.1
    have lt1121 : x1096 < T1105.heap.size := Nat.lt_of_lt_of_le q1098.lt K1105.1
    have Zs1122 : n0 ≤ T1105.heap.size := Nat.le_trans Zs1104 K1105.1
    show own_Go p e below s _ _ _ (T1105.setTop (mkF m 63 #[.val (.int p1), .val (.int p2), .val (.int p3), .val (.int p4), .val (.int p5), .val (.int fi), .val (.int (4 : Int32)), .val (.ref b1020), .unset, .unset, .unset, .unset, .unset, .unset, .unset] [(.int (1 : Int32))]))
    refine own_st (fun _ kQ => XT.pop X1105.here hx rfl (hb hby at_63) rfl rfl kQ) ?_
    show own_Go p e below s _ _ _ (T1105.setTop (mkF m 64 #[.val (.int p1), .val (.int p2), .val (.int p3), .val (.int p4), .val (.int p5), .val (.int fi), .val (.int (4 : Int32)), .val (.ref b1020), .unset, .unset, .unset, .unset, .unset, .unset, .unset] []))
    refine own_st (fun _ kQ => XS.iload X1105.here hx rfl (hb hby at_64) rfl kQ) ?_
    show own_Go p e below s _ _ _ (T1105.setTop (mkF m 66 #[.val (.int p1), .val (.int p2), .val (.int p3), .val (.int p4), .val (.int p5), .val (.int fi), .val (.int (4 : Int32)), .val (.ref b1020), .unset, .unset, .unset, .unset, .unset, .unset, .unset] [(.int (4 : Int32))]))
    refine own_st (fun _ kQ => XT.iconstV X1105.here hx rfl (4 : Int32) (hb hby at_66) (by decide) kQ) ?_
    show own_Go p e below s _ _ _ (T1105.setTop (mkF m 67 #[.val (.int p1), .val (.int p2), .val (.int p3), .val (.int p4), .val (.int p5), .val (.int fi), .val (.int (4 : Int32)), .val (.ref b1020), .unset, .unset, .unset, .unset, .unset, .unset, .unset] [(.int (4 : Int32)), (.int (4 : Int32))]))
    refine own_st (fun _ kQ => XS.icmpNo X1105.here hx rfl (hb hby at_67) rfl (XT.ii_lt_f (by decide)) kQ) ?_
    show own_Go p e below s _ _ _ (T1105.setTop (mkF m 70 #[.val (.int p1), .val (.int p2), .val (.int p3), .val (.int p4), .val (.int p5), .val (.int fi), .val (.int (4 : Int32)), .val (.ref b1020), .unset, .unset, .unset, .unset, .unset, .unset, .unset] []))
    refine own_st (fun _ kQ => XS.aload X1105.here hx rfl (hb hby at_70) rfl rfl kQ) ?_
    show own_Go p e below s _ _ _ (T1105.setTop (mkF m 72 #[.val (.int p1), .val (.int p2), .val (.int p3), .val (.int p4), .val (.int p5), .val (.int fi), .val (.int (4 : Int32)), .val (.ref b1020), .unset, .unset, .unset, .unset, .unset, .unset, .unset] [(.ref b1020)]))
    refine own_st (fun _ kQ => XS.iload X1105.here hx rfl (hb hby at_72) rfl kQ) ?_
    show own_Go p e below s _ _ _ (T1105.setTop (mkF m 74 #[.val (.int p1), .val (.int p2), .val (.int p3), .val (.int p4), .val (.int p5), .val (.int fi), .val (.int (4 : Int32)), .val (.ref b1020), .unset, .unset, .unset, .unset, .unset, .unset, .unset] [(.int p5), (.ref b1020)]))
    have O1124 : Old Z n0 T1105.heap := ((O1095.keep K1094 all0).keep K1105 (allS g1022 (allS g1065 all0)))
    obtain ⟨_, _, ⟨T1123, L1123, k1123, n1123⟩, -, X1123, ⟨Lc1123, hQ1123, l1123, y1123, z1123⟩, st1123⟩ := Jvm.LawKit.callS X1105 hx (y := (⟨"java/lang/Integer", "valueOf", "(I)Ljava/lang/Integer;"⟩ : MethodName)) hown (mvT hZ (hw _ (List.mem_of_getElem? (i := 27) rfl))) (mvT hZ (hw _ (List.mem_of_getElem? (i := 28) rfl))) (mvT hZ (hw _ (List.mem_of_getElem? (i := 29) rfl))) (mvT hZ (hw _ (List.mem_of_getElem? (i := 30) rfl))) (by decide) (backOf (W := 1) (own_rm_valueOfI l Z a0 hw [] p5 a_cacheI T1105.heap n0 Zs1122 O1124 S_cacheI BxI S_high) hZ (hw _ (List.mem_of_getElem? (i := 30) rfl)) (hw _ (List.mem_of_getElem? (i := 29) rfl)) (by decide) (by decide)) (g := (mkF m 74 #[.val (.int p1), .val (.int p2), .val (.int p3), .val (.int p4), .val (.int p5), .val (.int fi), .val (.int (4 : Int32)), .val (.ref b1020), .unset, .unset, .unset, .unset, .unset, .unset, .unset] [(.int p5), (.ref b1020)])) rfl (by rw [hml]; rfl) (argsL := [(.int p5)]) (rest := [(.ref b1020)]) (lenOf own_pd10 rfl) rfl (by show 2 * 0 + _ ≤ _; exact Nat.le_of_eq rfl) (hb hby at_74) (fun _ _ => ⟨rfl, rfl, (by decide : 5 + 1 ≤ _), (by decide : 16 + 1 ≤ _)⟩)
    dsimp only [Pt.U, Pt.locs, Pt.cells, Pt.slots] at X1123 l1123 y1123 z1123 st1123 hQ1123
    subst l1123 y1123 z1123
    obtain ⟨x1125, N1123q, rfl, K1123, q1126, q1127⟩ := hQ1123
    have N1128 := Fr.app N1116 N1123q
    refine own_st st1123 ?_
    have lt1129 : b1020 < T1123.heap.size := Nat.lt_of_lt_of_le q1114.lt K1123.1
    have lt1130 : x1037 < T1123.heap.size := Nat.lt_of_lt_of_le lt1118 K1123.1
    have lt1131 : x1049 < T1123.heap.size := Nat.lt_of_lt_of_le q1115.lt K1123.1
    have lt1132 : x1068 < T1123.heap.size := Nat.lt_of_lt_of_le lt1120 K1123.1
    have lt1133 : x1096 < T1123.heap.size := Nat.lt_of_lt_of_le lt1121 K1123.1
    have Zs1134 : n0 ≤ T1123.heap.size := Nat.le_trans Zs1122 K1123.1
    obtain ⟨Lp1135, Xp1135, Np1135⟩ : ∃ L, Stand p l e room_1 s m #[(.int p1), (.int p2), (.int p3), (.int p4), (.int p5)] below meth c T1123 L 6 17 ∧ Fr n0 L := ⟨_, X1123, N1128⟩
    show own_Go p e below s _ _ _ (T1123.setTop (mkF m 77 #[.val (.int p1), .val (.int p2), .val (.int p3), .val (.int p4), .val (.int p5), .val (.int fi), .val (.int (4 : Int32)), .val (.ref b1020), .unset, .unset, .unset, .unset, .unset, .unset, .unset] [(.ref x1125), (.ref b1020)]))
    have F1137 : Exa Z T1123.heap b1020 "java/util/ArrayList" := (q1111.keep K1123)
    have F1138 : Fld Z T1123.heap b1020 "java/util/AbstractList" "modCount" "I" (.int ((((0 : Int32) + (1 : Int32)) + (1 : Int32)) + (1 : Int32))) := (q1112.keep K1123 nin0)
    have F1139 : Fld Z T1123.heap b1020 "java/util/ArrayList" "elementData" "[Ljava/lang/Object;" (.ref x1049) := (q1113.keep K1123 nin0)
    have F1140 : Fld Z T1123.heap b1020 "java/util/ArrayList" "size" "I" (.int (3 : Int32)) := (q1114.keep K1123 nin0)
    have F1141 : Arv Z T1123.heap x1049 x1050 (.object "java/lang/Object") (10 : Int32) [(.ref x1037), (.ref x1068), (.ref x1096), .null, .null, .null, .null, .null, .null, .null] .null := (q1115.keep K1123 nin0)
    obtain ⟨cq1136, kq1136, q1136a, q1136b, q1136c⟩ := isOf hZ rfl F1137
    obtain ⟨_, _, ⟨T1136, L1136, k1136, n1136⟩, -, X1136, ⟨Lc1136, hQ1136, l1136, y1136, z1136⟩, st1136⟩ := Xp1135.virtualBack hx (y := (⟨"java/util/ArrayList", "add", "(Ljava/lang/Object;)Z"⟩ : MethodName)) (z := (⟨"java/util/ArrayList", "add", "(Ljava/lang/Object;)Z"⟩ : MethodName)) hown (mvT hZ (hw _ (List.mem_of_getElem? (i := 34) rfl))) (mvT hZ (hw _ (List.mem_of_getElem? (i := 35) rfl))) (notFace_of_selects (args := #[]) (mvT hZ (hw _ (List.mem_of_getElem? (i := 37) rfl)))) (mvT hZ (hw _ (List.mem_of_getElem? (i := 37) rfl))) (mvT hZ (hw _ (List.mem_of_getElem? (i := 36) rfl))) (by decide) (backOf (W := 0) (own_rm_add1_3 l Z a0 hw [] b1020 x1125 x1049 x1050 ((((0 : Int32) + (1 : Int32)) + (1 : Int32)) + (1 : Int32)) x1037 x1068 x1096 T1123.heap n0 Zs1134 F1137 F1138 F1139 F1140 F1141 q1058 g1022 g1065 ne1063 q1126) hZ (hw _ (List.mem_of_getElem? (i := 38) rfl)) (hw _ (List.mem_of_getElem? (i := 3) rfl)) (by decide) (by decide)) q1136a q1136c (g := (mkF m 77 #[.val (.int p1), .val (.int p2), .val (.int p3), .val (.int p4), .val (.int p5), .val (.int fi), .val (.int (4 : Int32)), .val (.ref b1020), .unset, .unset, .unset, .unset, .unset, .unset, .unset] [(.ref x1125), (.ref b1020)])) rfl (by rw [hml]; rfl) (Steps.refl _) (argsL := [(.ref x1125)]) (rest := []) (lenOf own_pd11 rfl) rfl (by show 2 * 0 + _ ≤ _; exact Nat.le_of_eq rfl) (hb hby at_77) (fun _ _ => ⟨rfl, rfl, (by decide : 6 + 0 ≤ _), (by decide : 17 + 0 ≤ _)⟩)
    dsimp only [Pt.U, Pt.locs, Pt.cells, Pt.slots] at X1136 l1136 y1136 z1136 st1136 hQ1136
    subst l1136 y1136 z1136
    obtain ⟨N1136q, rfl, K1136, q1142, q1143, q1144, q1145, q1146⟩ := hQ1136
    have N1147 := Fr.app Np1135 N1136q
    refine own_tr st1136 ?_
    have lt1148 : b1020 < T1136.heap.size := Nat.lt_of_lt_of_le lt1129 K1136.1
    have lt1149 : x1037 < T1136.heap.size := Nat.lt_of_lt_of_le lt1130 K1136.1
    have lt1150 : x1049 < T1136.heap.size := Nat.lt_of_lt_of_le lt1131 K1136.1
    have lt1151 : x1068 < T1136.heap.size := Nat.lt_of_lt_of_le lt1132 K1136.1
    have lt1152 : x1096 < T1136.heap.size := Nat.lt_of_lt_of_le lt1133 K1136.1
    have lt1153 : x1125 < T1136.heap.size := Nat.lt_of_lt_of_le q1127.lt K1136.1
    have Zs1154 : n0 ≤ T1136.heap.size := Nat.le_trans Zs1134 K1136.1
    show own_Go p e below s _ _ _ (T1136.setTop (mkF m 80 #[.val (.int p1), .val (.int p2), .val (.int p3), .val (.int p4), .val (.int p5), .val (.int fi), .val (.int (4 : Int32)), .val (.ref b1020), .unset, .unset, .unset, .unset, .unset, .unset, .unset] [(.int (1 : Int32))]))
    refine own_st (fun _ kQ => XT.pop X1136.here hx rfl (hb hby at_80) rfl rfl kQ) ?_
    show own_Go p e below s _ _ _ (T1136.setTop (mkF m 81 #[.val (.int p1), .val (.int p2), .val (.int p3), .val (.int p4), .val (.int p5), .val (.int fi), .val (.int (4 : Int32)), .val (.ref b1020), .unset, .unset, .unset, .unset, .unset, .unset, .unset] []))
    refine own_st (fun _ kQ => XS.iload X1136.here hx rfl (hb hby at_81) rfl kQ) ?_
    show own_Go p e below s _ _ _ (T1136.setTop (mkF m 83 #[.val (.int p1), .val (.int p2), .val (.int p3), .val (.int p4), .val (.int p5), .val (.int fi), .val (.int (4 : Int32)), .val (.ref b1020), .unset, .unset, .unset, .unset, .unset, .unset, .unset] [(.int p5)]))
    refine own_st (fun _ kQ => XT.iconstV X1136.here hx rfl (1 : Int32) (hb hby at_83) (by decide) kQ) ?_
    show own_Go p e below s _ _ _ (T1136.setTop (mkF m 84 #[.val (.int p1), .val (.int p2), .val (.int p3), .val (.int p4), .val (.int p5), .val (.int fi), .val (.int (4 : Int32)), .val (.ref b1020), .unset, .unset, .unset, .unset, .unset, .unset, .unset] [(.int (1 : Int32)), (.int p5)]))
    refine own_st (fun _ kQ => XS.iand X1136.here hx rfl (hb hby at_84) rfl kQ) ?_
    show own_Go p e below s _ _ _ (T1136.setTop (mkF m 85 #[.val (.int p1), .val (.int p2), .val (.int p3), .val (.int p4), .val (.int p5), .val (.int fi), .val (.int (4 : Int32)), .val (.ref b1020), .unset, .unset, .unset, .unset, .unset, .unset, .unset] [(.int (p5 &&& (1 : Int32)))]))
    by_cases hc1155 : (p5 &&& (1 : Int32)) = 0
    · refine own_st (fun _ kQ => XS.ifNo X1136.here hx rfl (hb hby at_85) rfl (XT.i0_ne_f hc1155) kQ) ?_
      show own_Go p e below s _ _ _ (T1136.setTop (mkF m 88 #[.val (.int p1), .val (.int p2), .val (.int p3), .val (.int p4), .val (.int p5), .val (.int fi), .val (.int (4 : Int32)), .val (.ref b1020), .unset, .unset, .unset, .unset, .unset, .unset, .unset] []))
      refine own_st (fun _ kQ => XS.iloadN X1136.here hx rfl (hb hby at_88) rfl kQ) ?_
      show own_Go p e below s _ _ _ (T1136.setTop (mkF m 89 #[.val (.int p1), .val (.int p2), .val (.int p3), .val (.int p4), .val (.int p5), .val (.int fi), .val (.int (4 : Int32)), .val (.ref b1020), .unset, .unset, .unset, .unset, .unset, .unset, .unset] [(.int p4)]))
      refine own_st (fun _ kQ => XS.goto X1136.here hx rfl (pc0 := 89) (pc' := 101) rfl (hb hby at_89) (by decide) (by decide) kQ) ?_
      show own_Go p e below s _ _ _ (T1136.setTop (mkF m 101 #[.val (.int p1), .val (.int p2), .val (.int p3), .val (.int p4), .val (.int p5), .val (.int fi), .val (.int (4 : Int32)), .val (.ref b1020), .unset, .unset, .unset, .unset, .unset, .unset, .unset] [(.int p4)]))
      generalize hk_ix : p4 = ix
      show own_Go p e below s _ _ _ (T1136.setTop (mkF m 101 #[.val (.int p1), .val (.int p2), .val (.int p3), .val (.int ix), .val (.int p5), .val (.int fi), .val (.int (4 : Int32)), .val (.ref b1020), .unset, .unset, .unset, .unset, .unset, .unset, .unset] [(.int ix)]))
      refine own_st (fun _ kQ => XS.istore X1136.here hx rfl (hb hby at_101) rfl (l' := #[.val (.int p1), .val (.int p2), .val (.int p3), .val (.int ix), .val (.int p5), .val (.int fi), .val (.int (4 : Int32)), .val (.ref b1020), .val (.int ix), .unset, .unset, .unset, .unset, .unset, .unset]) rfl kQ) ?_
      show own_Go p e below s _ _ _ (T1136.setTop (mkF m 103 #[.val (.int p1), .val (.int p2), .val (.int p3), .val (.int ix), .val (.int p5), .val (.int fi), .val (.int (4 : Int32)), .val (.ref b1020), .val (.int ix), .unset, .unset, .unset, .unset, .unset, .unset] []))
      obtain ⟨T1156, h1156, X1156, e1156, E1156, A1156, D1156, -, st1156⟩ := newO X1136 hx hZ hown (hw _ (List.mem_of_getElem? (i := 65) rfl)) (hw _ (List.mem_of_getElem? (i := 66) rfl)) (hw _ (List.mem_of_getElem? (i := 67) rfl)) rfl (g := (mkF m 103 #[.val (.int p1), .val (.int p2), .val (.int p3), .val (.int ix), .val (.int p5), .val (.int fi), .val (.int (4 : Int32)), .val (.ref b1020), .val (.int ix), .unset, .unset, .unset, .unset, .unset, .unset] [])) rfl (hb hby at_103) (by decide) (by decide)
      obtain ⟨b1156, g1156⟩ : ∃ z, z = T1136.heap.size := ⟨_, rfl⟩
      rw [← g1156] at A1156 D1156 st1156
      refine own_st st1156 ?_
      have lt1157 : b1020 < h1156.size := Nat.lt_of_lt_of_le q1145.lt E1156.1
      have lt1158 : x1037 < h1156.size := Nat.lt_of_lt_of_le lt1149 E1156.1
      have lt1159 : x1049 < h1156.size := Nat.lt_of_lt_of_le q1146.lt E1156.1
      have lt1160 : x1068 < h1156.size := Nat.lt_of_lt_of_le lt1151 E1156.1
      have lt1161 : x1096 < h1156.size := Nat.lt_of_lt_of_le lt1152 E1156.1
      have lt1162 : x1125 < h1156.size := Nat.lt_of_lt_of_le lt1153 E1156.1
      have Zs1163 : n0 ≤ h1156.size := Nat.le_trans Zs1154 E1156.1
      have ne1164 : b1020 ≠ b1156 := Nat.ne_of_lt (Nat.lt_of_lt_of_le q1145.lt (Nat.le_of_eq g1156.symm))
      have ne1165 : x1037 ≠ b1156 := Nat.ne_of_lt (Nat.lt_of_lt_of_le lt1149 (Nat.le_of_eq g1156.symm))
      have ne1166 : x1049 ≠ b1156 := Nat.ne_of_lt (Nat.lt_of_lt_of_le q1146.lt (Nat.le_of_eq g1156.symm))
      have ne1167 : x1068 ≠ b1156 := Nat.ne_of_lt (Nat.lt_of_lt_of_le lt1151 (Nat.le_of_eq g1156.symm))
      have ne1168 : x1096 ≠ b1156 := Nat.ne_of_lt (Nat.lt_of_lt_of_le lt1152 (Nat.le_of_eq g1156.symm))
      have ne1169 : x1125 ≠ b1156 := Nat.ne_of_lt (Nat.lt_of_lt_of_le lt1153 (Nat.le_of_eq g1156.symm))
      have g1170 : n0 ≤ b1156 := Nat.le_trans Zs1154 (Nat.le_of_eq g1156.symm)
      have F1171 : Fld Z h1156 b1156 "com/example/rationed_session/rationedsession/model/Partition" "number" "I" (.int (0 : Int32)) := D1156 (Or.inr (hw _ (List.mem_of_getElem? (i := 73) rfl))) (ty := .int) (by decide)
      have F1172 : Fld Z h1156 b1156 "com/example/rationed_session/rationedsession/model/Partition" "firstIndex" "I" (.int (0 : Int32)) := D1156 (Or.inr (hw _ (List.mem_of_getElem? (i := 75) rfl))) (ty := .int) (by decide)
      have F1173 : Fld Z h1156 b1156 "com/example/rationed_session/rationedsession/model/Partition" "inputs" "Ljava/util/List;" .null := D1156 (Or.inr (hw _ (List.mem_of_getElem? (i := 120) rfl))) (ty := (.object "java/util/List")) (by decide)
      show own_Go p e below s _ _ _ (T1156.setTop (mkF m 106 #[.val (.int p1), .val (.int p2), .val (.int p3), .val (.int ix), .val (.int p5), .val (.int fi), .val (.int (4 : Int32)), .val (.ref b1020), .val (.int ix), .unset, .unset, .unset, .unset, .unset, .unset] [(.ref b1156)]))
      refine own_st (fun _ kQ => XS.dup X1156.here hx rfl (hb hby at_106) rfl rfl kQ) ?_
      show own_Go p e below s _ _ _ (T1156.setTop (mkF m 107 #[.val (.int p1), .val (.int p2), .val (.int p3), .val (.int ix), .val (.int p5), .val (.int fi), .val (.int (4 : Int32)), .val (.ref b1020), .val (.int ix), .unset, .unset, .unset, .unset, .unset, .unset] [(.ref b1156), (.ref b1156)]))
      refine own_st (fun _ kQ => XS.iloadN X1156.here hx rfl (hb hby at_107) rfl kQ) ?_
      show own_Go p e below s _ _ _ (T1156.setTop (mkF m 108 #[.val (.int p1), .val (.int p2), .val (.int p3), .val (.int ix), .val (.int p5), .val (.int fi), .val (.int (4 : Int32)), .val (.ref b1020), .val (.int ix), .unset, .unset, .unset, .unset, .unset, .unset] [(.int p1), (.ref b1156), (.ref b1156)]))
      refine own_st (fun _ kQ => XS.iload X1156.here hx rfl (hb hby at_108) rfl kQ) ?_
      show own_Go p e below s _ _ _ (T1156.setTop (mkF m 110 #[.val (.int p1), .val (.int p2), .val (.int p3), .val (.int ix), .val (.int p5), .val (.int fi), .val (.int (4 : Int32)), .val (.ref b1020), .val (.int ix), .unset, .unset, .unset, .unset, .unset, .unset] [(.int fi), (.int p1), (.ref b1156), (.ref b1156)]))
      refine own_st (fun _ kQ => XS.aload X1156.here hx rfl (hb hby at_110) rfl rfl kQ) ?_
      show own_Go p e below s _ _ _ (T1156.setTop (mkF m 112 #[.val (.int p1), .val (.int p2), .val (.int p3), .val (.int ix), .val (.int p5), .val (.int fi), .val (.int (4 : Int32)), .val (.ref b1020), .val (.int ix), .unset, .unset, .unset, .unset, .unset, .unset] [(.ref b1020), (.int fi), (.int p1), (.ref b1156), (.ref b1156)]))
      have F1175 : Exa Z h1156 b1020 "java/util/ArrayList" := (q1142.ext E1156)
      obtain ⟨_, _, ⟨T1174, L1174, k1174, n1174⟩, -, X1174, ⟨Lc1174, hQ1174, l1174, y1174, z1174⟩, st1174⟩ := X1156.specialBack hx (y := (⟨"com/example/rationed_session/rationedsession/model/Partition", "<init>", "(IILjava/util/List;)V"⟩ : MethodName)) rfl hown (mvT hZ (hw _ (List.mem_of_getElem? (i := 68) rfl))) (mvT hZ (hw _ (List.mem_of_getElem? (i := 69) rfl))) (mvT hZ (hw _ (List.mem_of_getElem? (i := 70) rfl))) (by decide) (backOf (W := 1) (own_rm_pinitU l Z a0 hw [] b1156 p1 fi b1020 mA mL mR h1156 n0 Zs1163 M_AL M_UL M_UR h1 h2 A1156 F1175 F1171 F1172 F1173 g1170) hZ (hw _ (List.mem_of_getElem? (i := 70) rfl)) (hw _ (List.mem_of_getElem? (i := 67) rfl)) (by decide) (by decide)) (g := (mkF m 112 #[.val (.int p1), .val (.int p2), .val (.int p3), .val (.int ix), .val (.int p5), .val (.int fi), .val (.int (4 : Int32)), .val (.ref b1020), .val (.int ix), .unset, .unset, .unset, .unset, .unset, .unset] [(.ref b1020), (.int fi), (.int p1), (.ref b1156), (.ref b1156)])) rfl (by rw [hml]; rfl) (Steps.refl _) (a := b1156) (argsL := [(.int p1), (.int fi), (.ref b1020)]) (rest := [(.ref b1156)]) (lenOf own_pd12 rfl) rfl (by show 2 * 0 + _ ≤ _; exact Nat.le_of_eq rfl) (hb hby at_112) (fun _ _ => ⟨rfl, e1156, (by decide : 7 + 1 ≤ _), (by decide : 20 + 2 ≤ _)⟩)
      dsimp only [Pt.U, Pt.locs, Pt.cells, Pt.slots] at X1174 l1174 y1174 z1174 st1174 hQ1174
      subst l1174 y1174 z1174
      obtain ⟨x1176, N1174q, rfl, K1174, q1177, q1178, q1179, q1180, q1181, q1182, q1183, q1184⟩ := hQ1174
      have N1185 := Fr.app N1147 N1174q
      refine own_tr st1174 ?_
      have lt1186 : b1020 < T1174.heap.size := Nat.lt_of_lt_of_le lt1157 K1174.1
      have lt1187 : x1037 < T1174.heap.size := Nat.lt_of_lt_of_le lt1158 K1174.1
      have lt1188 : x1049 < T1174.heap.size := Nat.lt_of_lt_of_le lt1159 K1174.1
      have lt1189 : x1068 < T1174.heap.size := Nat.lt_of_lt_of_le lt1160 K1174.1
      have lt1190 : x1096 < T1174.heap.size := Nat.lt_of_lt_of_le lt1161 K1174.1
      have lt1191 : x1125 < T1174.heap.size := Nat.lt_of_lt_of_le lt1162 K1174.1
      have lt1192 : b1156 < T1174.heap.size := Nat.lt_of_lt_of_le A1156.lt K1174.1
      have Zs1193 : n0 ≤ T1174.heap.size := Nat.le_trans Zs1163 K1174.1
      have ne1194 : b1020 ≠ x1176 := Nat.ne_of_lt (Nat.lt_of_lt_of_le lt1157 q1181)
      have ne1195 : x1037 ≠ x1176 := Nat.ne_of_lt (Nat.lt_of_lt_of_le lt1158 q1181)
      have ne1196 : x1049 ≠ x1176 := Nat.ne_of_lt (Nat.lt_of_lt_of_le lt1159 q1181)
      have ne1197 : x1068 ≠ x1176 := Nat.ne_of_lt (Nat.lt_of_lt_of_le lt1160 q1181)
      have ne1198 : x1096 ≠ x1176 := Nat.ne_of_lt (Nat.lt_of_lt_of_le lt1161 q1181)
      have ne1199 : x1125 ≠ x1176 := Nat.ne_of_lt (Nat.lt_of_lt_of_le lt1162 q1181)
      have ne1200 : b1156 ≠ x1176 := Nat.ne_of_lt (Nat.lt_of_lt_of_le A1156.lt q1181)
      have g1201 : n0 ≤ x1176 := Nat.le_trans Zs1163 q1181
      show own_Go p e below s _ _ _ (T1174.setTop (mkF m 115 #[.val (.int p1), .val (.int p2), .val (.int p3), .val (.int ix), .val (.int p5), .val (.int fi), .val (.int (4 : Int32)), .val (.ref b1020), .val (.int ix), .unset, .unset, .unset, .unset, .unset, .unset] [(.ref b1156)]))
      refine own_st (fun _ kQ => XS.astore X1174.here hx rfl (hb hby at_115) rfl rfl (l' := #[.val (.int p1), .val (.int p2), .val (.int p3), .val (.int ix), .val (.int p5), .val (.int fi), .val (.int (4 : Int32)), .val (.ref b1020), .val (.int ix), .val (.ref b1156), .unset, .unset, .unset, .unset, .unset]) rfl kQ) ?_
      show own_Go p e below s _ _ _ (T1174.setTop (mkF m 117 #[.val (.int p1), .val (.int p2), .val (.int p3), .val (.int ix), .val (.int p5), .val (.int fi), .val (.int (4 : Int32)), .val (.ref b1020), .val (.int ix), .val (.ref b1156), .unset, .unset, .unset, .unset, .unset] []))
      refine own_st (fun _ kQ => XS.iload X1174.here hx rfl (hb hby at_117) rfl kQ) ?_
      show own_Go p e below s _ _ _ (T1174.setTop (mkF m 119 #[.val (.int p1), .val (.int p2), .val (.int p3), .val (.int ix), .val (.int p5), .val (.int fi), .val (.int (4 : Int32)), .val (.ref b1020), .val (.int ix), .val (.ref b1156), .unset, .unset, .unset, .unset, .unset] [(.int fi)]))
      refine own_st (fun _ kQ => XT.i2l X1174.here hx rfl (hb hby at_119) rfl kQ) ?_
      show own_Go p e below s _ _ _ (T1174.setTop (mkF m 120 #[.val (.int p1), .val (.int p2), .val (.int p3), .val (.int ix), .val (.int p5), .val (.int fi), .val (.int (4 : Int32)), .val (.ref b1020), .val (.int ix), .val (.ref b1156), .unset, .unset, .unset, .unset, .unset] [(.long (fi.toInt64))]))
      refine own_st (fun _ kQ => XT.lstore X1174.here hx rfl (hb hby at_120) rfl (l' := #[.val (.int p1), .val (.int p2), .val (.int p3), .val (.int ix), .val (.int p5), .val (.int fi), .val (.int (4 : Int32)), .val (.ref b1020), .val (.int ix), .val (.ref b1156), .val (.long (fi.toInt64)), .second, .unset, .unset, .unset]) rfl kQ) ?_
      show own_Go p e below s _ _ _ (T1174.setTop (mkF m 122 #[.val (.int p1), .val (.int p2), .val (.int p3), .val (.int ix), .val (.int p5), .val (.int fi), .val (.int (4 : Int32)), .val (.ref b1020), .val (.int ix), .val (.ref b1156), .val (.long (fi.toInt64)), .second, .unset, .unset, .unset] []))
      refine own_st (fun _ kQ => XS.iload X1174.here hx rfl (hb hby at_122) rfl kQ) ?_
      show own_Go p e below s _ _ _ (T1174.setTop (mkF m 124 #[.val (.int p1), .val (.int p2), .val (.int p3), .val (.int ix), .val (.int p5), .val (.int fi), .val (.int (4 : Int32)), .val (.ref b1020), .val (.int ix), .val (.ref b1156), .val (.long (fi.toInt64)), .second, .unset, .unset, .unset] [(.int fi)]))
      refine own_st (fun _ kQ => XT.i2l X1174.here hx rfl (hb hby at_124) rfl kQ) ?_
      show own_Go p e below s _ _ _ (T1174.setTop (mkF m 125 #[.val (.int p1), .val (.int p2), .val (.int p3), .val (.int ix), .val (.int p5), .val (.int fi), .val (.int (4 : Int32)), .val (.ref b1020), .val (.int ix), .val (.ref b1156), .val (.long (fi.toInt64)), .second, .unset, .unset, .unset] [(.long (fi.toInt64))]))
      refine own_st (fun _ kQ => XS.iload X1174.here hx rfl (hb hby at_125) rfl kQ) ?_
      show own_Go p e below s _ _ _ (T1174.setTop (mkF m 127 #[.val (.int p1), .val (.int p2), .val (.int p3), .val (.int ix), .val (.int p5), .val (.int fi), .val (.int (4 : Int32)), .val (.ref b1020), .val (.int ix), .val (.ref b1156), .val (.long (fi.toInt64)), .second, .unset, .unset, .unset] [(.int (4 : Int32)), (.long (fi.toInt64))]))
      refine own_st (fun _ kQ => XT.i2l X1174.here hx rfl (hb hby at_127) rfl kQ) ?_
      show own_Go p e below s _ _ _ (T1174.setTop (mkF m 128 #[.val (.int p1), .val (.int p2), .val (.int p3), .val (.int ix), .val (.int p5), .val (.int fi), .val (.int (4 : Int32)), .val (.ref b1020), .val (.int ix), .val (.ref b1156), .val (.long (fi.toInt64)), .second, .unset, .unset, .unset] [(.long ((4 : Int32).toInt64)), (.long (fi.toInt64))]))
      refine own_st (fun _ kQ => XT.ladd X1174.here hx rfl (hb hby at_128) rfl kQ) ?_
      show own_Go p e below s _ _ _ (T1174.setTop (mkF m 129 #[.val (.int p1), .val (.int p2), .val (.int p3), .val (.int ix), .val (.int p5), .val (.int fi), .val (.int (4 : Int32)), .val (.ref b1020), .val (.int ix), .val (.ref b1156), .val (.long (fi.toInt64)), .second, .unset, .unset, .unset] [(.long ((fi.toInt64) + ((4 : Int32).toInt64)))]))
      refine own_st (fun _ kQ => XT.lstore X1174.here hx rfl (hb hby at_129) rfl (l' := #[.val (.int p1), .val (.int p2), .val (.int p3), .val (.int ix), .val (.int p5), .val (.int fi), .val (.int (4 : Int32)), .val (.ref b1020), .val (.int ix), .val (.ref b1156), .val (.long (fi.toInt64)), .second, .val (.long ((fi.toInt64) + ((4 : Int32).toInt64))), .second, .unset]) rfl kQ) ?_
      show own_Go p e below s _ _ _ (T1174.setTop (mkF m 131 #[.val (.int p1), .val (.int p2), .val (.int p3), .val (.int ix), .val (.int p5), .val (.int fi), .val (.int (4 : Int32)), .val (.ref b1020), .val (.int ix), .val (.ref b1156), .val (.long (fi.toInt64)), .second, .val (.long ((fi.toInt64) + ((4 : Int32).toInt64))), .second, .unset] []))
      refine own_st (fun _ kQ => XS.iload X1174.here hx rfl (hb hby at_131) rfl kQ) ?_
      show own_Go p e below s _ _ _ (T1174.setTop (mkF m 133 #[.val (.int p1), .val (.int p2), .val (.int p3), .val (.int ix), .val (.int p5), .val (.int fi), .val (.int (4 : Int32)), .val (.ref b1020), .val (.int ix), .val (.ref b1156), .val (.long (fi.toInt64)), .second, .val (.long ((fi.toInt64) + ((4 : Int32).toInt64))), .second, .unset] [(.int ix)]))
      refine own_st (fun _ kQ => XT.i2l X1174.here hx rfl (hb hby at_133) rfl kQ) ?_
      show own_Go p e below s _ _ _ (T1174.setTop (mkF m 134 #[.val (.int p1), .val (.int p2), .val (.int p3), .val (.int ix), .val (.int p5), .val (.int fi), .val (.int (4 : Int32)), .val (.ref b1020), .val (.int ix), .val (.ref b1156), .val (.long (fi.toInt64)), .second, .val (.long ((fi.toInt64) + ((4 : Int32).toInt64))), .second, .unset] [(.long (ix.toInt64))]))
      refine own_st (fun _ kQ => XT.lload X1174.here hx rfl (hb hby at_134) rfl kQ) ?_
      show own_Go p e below s _ _ _ (T1174.setTop (mkF m 136 #[.val (.int p1), .val (.int p2), .val (.int p3), .val (.int ix), .val (.int p5), .val (.int fi), .val (.int (4 : Int32)), .val (.ref b1020), .val (.int ix), .val (.ref b1156), .val (.long (fi.toInt64)), .second, .val (.long ((fi.toInt64) + ((4 : Int32).toInt64))), .second, .unset] [(.long (fi.toInt64)), (.long (ix.toInt64))]))
      refine own_st (fun _ kQ => XT.lcmp X1174.here hx rfl (hb hby at_136) rfl kQ) ?_
      show own_Go p e below s _ _ _ (T1174.setTop (mkF m 137 #[.val (.int p1), .val (.int p2), .val (.int p3), .val (.int ix), .val (.int p5), .val (.int fi), .val (.int (4 : Int32)), .val (.ref b1020), .val (.int ix), .val (.ref b1156), .val (.long (fi.toInt64)), .second, .val (.long ((fi.toInt64) + ((4 : Int32).toInt64))), .second, .unset] [(.int (XT.cmpL (ix.toInt64) (fi.toInt64)))]))
      by_cases hc1202 : (ix.toInt64) < (fi.toInt64)
      · refine own_st (fun _ kQ => XS.ifYes X1174.here hx rfl (pc0 := 137) (pc' := 153) rfl (hb hby at_137) rfl (XT.ll_lt_t hc1202) (by decide) (by decide) kQ) ?_
        show own_Go p e below s _ _ _ (T1174.setTop (mkF m 153 #[.val (.int p1), .val (.int p2), .val (.int p3), .val (.int ix), .val (.int p5), .val (.int fi), .val (.int (4 : Int32)), .val (.ref b1020), .val (.int ix), .val (.ref b1156), .val (.long (fi.toInt64)), .second, .val (.long ((fi.toInt64) + ((4 : Int32).toInt64))), .second, .unset] []))
        refine own_st (fun _ kQ => XT.iconstV X1174.here hx rfl (0 : Int32) (hb hby at_153) (by decide) kQ) ?_
        show own_Go p e below s _ _ _ (T1174.setTop (mkF m 154 #[.val (.int p1), .val (.int p2), .val (.int p3), .val (.int ix), .val (.int p5), .val (.int fi), .val (.int (4 : Int32)), .val (.ref b1020), .val (.int ix), .val (.ref b1156), .val (.long (fi.toInt64)), .second, .val (.long ((fi.toInt64) + ((4 : Int32).toInt64))), .second, .unset] [(.int (0 : Int32))]))
        refine own_st (fun _ kQ => XS.istore X1174.here hx rfl (hb hby at_154) rfl (l' := #[.val (.int p1), .val (.int p2), .val (.int p3), .val (.int ix), .val (.int p5), .val (.int fi), .val (.int (4 : Int32)), .val (.ref b1020), .val (.int ix), .val (.ref b1156), .val (.long (fi.toInt64)), .second, .val (.long ((fi.toInt64) + ((4 : Int32).toInt64))), .second, .val (.int (0 : Int32))]) rfl kQ) ?_
        show own_Go p e below s _ _ _ (T1174.setTop (mkF m 156 #[.val (.int p1), .val (.int p2), .val (.int p3), .val (.int ix), .val (.int p5), .val (.int fi), .val (.int (4 : Int32)), .val (.ref b1020), .val (.int ix), .val (.ref b1156), .val (.long (fi.toInt64)), .second, .val (.long ((fi.toInt64) + ((4 : Int32).toInt64))), .second, .val (.int (0 : Int32))] []))
        refine own_st (fun _ kQ => XS.aload X1174.here hx rfl (hb hby at_156) rfl rfl kQ) ?_
        show own_Go p e below s _ _ _ (T1174.setTop (mkF m 158 #[.val (.int p1), .val (.int p2), .val (.int p3), .val (.int ix), .val (.int p5), .val (.int fi), .val (.int (4 : Int32)), .val (.ref b1020), .val (.int ix), .val (.ref b1156), .val (.long (fi.toInt64)), .second, .val (.long ((fi.toInt64) + ((4 : Int32).toInt64))), .second, .val (.int (0 : Int32))] [(.ref b1156)]))
        refine own_st (fun _ kQ => XS.iload X1174.here hx rfl (hb hby at_158) rfl kQ) ?_
        show own_Go p e below s _ _ _ (T1174.setTop (mkF m 160 #[.val (.int p1), .val (.int p2), .val (.int p3), .val (.int ix), .val (.int p5), .val (.int fi), .val (.int (4 : Int32)), .val (.ref b1020), .val (.int ix), .val (.ref b1156), .val (.long (fi.toInt64)), .second, .val (.long ((fi.toInt64) + ((4 : Int32).toInt64))), .second, .val (.int (0 : Int32))] [(.int ix), (.ref b1156)]))
        have F1204 : Exa Z T1174.heap b1020 "java/util/ArrayList" := (F1175.keep K1174)
        have F1205 : Fld Z T1174.heap b1020 "java/util/ArrayList" "size" "I" (.int (4 : Int32)) := ((q1145.ext E1156).keep K1174 (ninS ne1164 nin0))
        obtain ⟨cq1203, kq1203, q1203a, q1203b, q1203c⟩ := isOf hZ rfl q1177
        obtain ⟨_, _, ⟨T1203, L1203, k1203, n1203⟩, -, X1203, ⟨Lc1203, hQ1203, l1203, y1203, z1203⟩, st1203⟩ := X1174.virtualBack hx (y := (⟨"com/example/rationed_session/rationedsession/model/Partition", "holds", "(I)Z"⟩ : MethodName)) (z := (⟨"com/example/rationed_session/rationedsession/model/Partition", "holds", "(I)Z"⟩ : MethodName)) hown (mvT hZ (hw _ (List.mem_of_getElem? (i := 121) rfl))) (mvT hZ (hw _ (List.mem_of_getElem? (i := 122) rfl))) (notFace_of_selects (args := #[]) (mvT hZ (hw _ (List.mem_of_getElem? (i := 124) rfl)))) (mvT hZ (hw _ (List.mem_of_getElem? (i := 124) rfl))) (mvT hZ (hw _ (List.mem_of_getElem? (i := 123) rfl))) (by decide) (backOf (W := 0) (own_rm_holdsU l Z a0 hw [] x1176 b1156 b1020 ix fi (4 : Int32) T1174.heap n0 Zs1193 q1180 q1182 q1183 F1204 q1179 F1205) hZ (hw _ (List.mem_of_getElem? (i := 125) rfl)) (hw _ (List.mem_of_getElem? (i := 67) rfl)) (by decide) (by decide)) q1203a q1203c (g := (mkF m 160 #[.val (.int p1), .val (.int p2), .val (.int p3), .val (.int ix), .val (.int p5), .val (.int fi), .val (.int (4 : Int32)), .val (.ref b1020), .val (.int ix), .val (.ref b1156), .val (.long (fi.toInt64)), .second, .val (.long ((fi.toInt64) + ((4 : Int32).toInt64))), .second, .val (.int (0 : Int32))] [(.int ix), (.ref b1156)])) rfl (by rw [hml]; rfl) (Steps.refl _) (argsL := [(.int ix)]) (rest := []) (lenOf own_pd13 rfl) rfl (by show 2 * 0 + _ ≤ _; exact Nat.le_of_eq rfl) (hb hby at_160) (fun _ _ => ⟨rfl, rfl, (by decide : 8 + 0 ≤ _), (by decide : 22 + 0 ≤ _)⟩)
        dsimp only [Pt.U, Pt.locs, Pt.cells, Pt.slots] at X1203 l1203 y1203 z1203 st1203 hQ1203
        subst l1203 y1203 z1203
        obtain ⟨N1203q, rfl, eh1203⟩ := hQ1203
        have N1206 := Fr.app N1185 N1203q
        refine own_tr st1203 ?_
        show own_Go p e below s _ _ _ (T1203.setTop (mkF m 163 #[.val (.int p1), .val (.int p2), .val (.int p3), .val (.int ix), .val (.int p5), .val (.int fi), .val (.int (4 : Int32)), .val (.ref b1020), .val (.int ix), .val (.ref b1156), .val (.long (fi.toInt64)), .second, .val (.long ((fi.toInt64) + ((4 : Int32).toInt64))), .second, .val (.int (0 : Int32))] [(.int (if ix < fi then (0 : Int32) else if ix - fi < (4 : Int32) then 1 else 0))]))
        refine own_st (fun _ kQ => XS.iload X1203.here hx rfl (hb hby at_163) rfl kQ) ?_
        show own_Go p e below s _ _ _ (T1203.setTop (mkF m 165 #[.val (.int p1), .val (.int p2), .val (.int p3), .val (.int ix), .val (.int p5), .val (.int fi), .val (.int (4 : Int32)), .val (.ref b1020), .val (.int ix), .val (.ref b1156), .val (.long (fi.toInt64)), .second, .val (.long ((fi.toInt64) + ((4 : Int32).toInt64))), .second, .val (.int (0 : Int32))] [(.int (0 : Int32)), (.int (if ix < fi then (0 : Int32) else if ix - fi < (4 : Int32) then 1 else 0))]))
        refine own_st (fun _ kQ => XS.icmpNo X1203.here hx rfl (hb hby at_165) rfl (XT.ii_ne_f (by rw [if_pos ((own_lt64 _ _).mp hc1202)])) kQ) ?_
        show own_Go p e below s _ _ _ (T1203.setTop (mkF m 168 #[.val (.int p1), .val (.int p2), .val (.int p3), .val (.int ix), .val (.int p5), .val (.int fi), .val (.int (4 : Int32)), .val (.ref b1020), .val (.int ix), .val (.ref b1156), .val (.long (fi.toInt64)), .second, .val (.long ((fi.toInt64) + ((4 : Int32).toInt64))), .second, .val (.int (0 : Int32))] []))
        refine own_st (fun _ kQ => XT.iconstV X1203.here hx rfl (1 : Int32) (hb hby at_168) (by decide) kQ) ?_
        show own_Go p e below s _ _ _ (T1203.setTop (mkF m 169 #[.val (.int p1), .val (.int p2), .val (.int p3), .val (.int ix), .val (.int p5), .val (.int fi), .val (.int (4 : Int32)), .val (.ref b1020), .val (.int ix), .val (.ref b1156), .val (.long (fi.toInt64)), .second, .val (.long ((fi.toInt64) + ((4 : Int32).toInt64))), .second, .val (.int (0 : Int32))] [(.int (1 : Int32))]))
        refine own_st (fun _ kQ => XS.goto X1203.here hx rfl (pc0 := 169) (pc' := 173) rfl (hb hby at_169) (by decide) (by decide) kQ) ?_
        show own_Go p e below s _ _ _ (T1203.setTop (mkF m 173 #[.val (.int p1), .val (.int p2), .val (.int p3), .val (.int ix), .val (.int p5), .val (.int fi), .val (.int (4 : Int32)), .val (.ref b1020), .val (.int ix), .val (.ref b1156), .val (.long (fi.toInt64)), .second, .val (.long ((fi.toInt64) + ((4 : Int32).toInt64))), .second, .val (.int (0 : Int32))] [(.int (1 : Int32))]))
        refine own_retN X1203 hx hlk Bd.returns (t := .boolean) (z' := (1 : Int32)) (by simp) (by decide) (hb hby at_173) (by decide) (by decide) ?_
        rw [eh1203]
        exact ⟨N1206, rfl⟩
      · refine own_st (fun _ kQ => XS.ifNo X1174.here hx rfl (hb hby at_137) rfl (XT.ll_lt_f hc1202) kQ) ?_
        show own_Go p e below s _ _ _ (T1174.setTop (mkF m 140 #[.val (.int p1), .val (.int p2), .val (.int p3), .val (.int ix), .val (.int p5), .val (.int fi), .val (.int (4 : Int32)), .val (.ref b1020), .val (.int ix), .val (.ref b1156), .val (.long (fi.toInt64)), .second, .val (.long ((fi.toInt64) + ((4 : Int32).toInt64))), .second, .unset] []))
        refine own_st (fun _ kQ => XS.iload X1174.here hx rfl (hb hby at_140) rfl kQ) ?_
        show own_Go p e below s _ _ _ (T1174.setTop (mkF m 142 #[.val (.int p1), .val (.int p2), .val (.int p3), .val (.int ix), .val (.int p5), .val (.int fi), .val (.int (4 : Int32)), .val (.ref b1020), .val (.int ix), .val (.ref b1156), .val (.long (fi.toInt64)), .second, .val (.long ((fi.toInt64) + ((4 : Int32).toInt64))), .second, .unset] [(.int ix)]))
        refine own_st (fun _ kQ => XT.i2l X1174.here hx rfl (hb hby at_142) rfl kQ) ?_
        show own_Go p e below s _ _ _ (T1174.setTop (mkF m 143 #[.val (.int p1), .val (.int p2), .val (.int p3), .val (.int ix), .val (.int p5), .val (.int fi), .val (.int (4 : Int32)), .val (.ref b1020), .val (.int ix), .val (.ref b1156), .val (.long (fi.toInt64)), .second, .val (.long ((fi.toInt64) + ((4 : Int32).toInt64))), .second, .unset] [(.long (ix.toInt64))]))
        refine own_st (fun _ kQ => XT.lload X1174.here hx rfl (hb hby at_143) rfl kQ) ?_
        show own_Go p e below s _ _ _ (T1174.setTop (mkF m 145 #[.val (.int p1), .val (.int p2), .val (.int p3), .val (.int ix), .val (.int p5), .val (.int fi), .val (.int (4 : Int32)), .val (.ref b1020), .val (.int ix), .val (.ref b1156), .val (.long (fi.toInt64)), .second, .val (.long ((fi.toInt64) + ((4 : Int32).toInt64))), .second, .unset] [(.long ((fi.toInt64) + ((4 : Int32).toInt64))), (.long (ix.toInt64))]))
        refine own_st (fun _ kQ => XT.lcmp X1174.here hx rfl (hb hby at_145) rfl kQ) ?_
        show own_Go p e below s _ _ _ (T1174.setTop (mkF m 146 #[.val (.int p1), .val (.int p2), .val (.int p3), .val (.int ix), .val (.int p5), .val (.int fi), .val (.int (4 : Int32)), .val (.ref b1020), .val (.int ix), .val (.ref b1156), .val (.long (fi.toInt64)), .second, .val (.long ((fi.toInt64) + ((4 : Int32).toInt64))), .second, .unset] [(.int (XT.cmpL (ix.toInt64) ((fi.toInt64) + ((4 : Int32).toInt64))))]))
        by_cases hc1207 : (ix.toInt64) < ((fi.toInt64) + ((4 : Int32).toInt64))
        · refine own_st (fun _ kQ => XS.ifNo X1174.here hx rfl (hb hby at_146) rfl (XT.ll_ge_f hc1207) kQ) ?_
          show own_Go p e below s _ _ _ (T1174.setTop (mkF m 149 #[.val (.int p1), .val (.int p2), .val (.int p3), .val (.int ix), .val (.int p5), .val (.int fi), .val (.int (4 : Int32)), .val (.ref b1020), .val (.int ix), .val (.ref b1156), .val (.long (fi.toInt64)), .second, .val (.long ((fi.toInt64) + ((4 : Int32).toInt64))), .second, .unset] []))
          refine own_st (fun _ kQ => XT.iconstV X1174.here hx rfl (1 : Int32) (hb hby at_149) (by decide) kQ) ?_
          show own_Go p e below s _ _ _ (T1174.setTop (mkF m 150 #[.val (.int p1), .val (.int p2), .val (.int p3), .val (.int ix), .val (.int p5), .val (.int fi), .val (.int (4 : Int32)), .val (.ref b1020), .val (.int ix), .val (.ref b1156), .val (.long (fi.toInt64)), .second, .val (.long ((fi.toInt64) + ((4 : Int32).toInt64))), .second, .unset] [(.int (1 : Int32))]))
          refine own_st (fun _ kQ => XS.goto X1174.here hx rfl (pc0 := 150) (pc' := 154) rfl (hb hby at_150) (by decide) (by decide) kQ) ?_
          show own_Go p e below s _ _ _ (T1174.setTop (mkF m 154 #[.val (.int p1), .val (.int p2), .val (.int p3), .val (.int ix), .val (.int p5), .val (.int fi), .val (.int (4 : Int32)), .val (.ref b1020), .val (.int ix), .val (.ref b1156), .val (.long (fi.toInt64)), .second, .val (.long ((fi.toInt64) + ((4 : Int32).toInt64))), .second, .unset] [(.int (1 : Int32))]))
          refine own_st (fun _ kQ => XS.istore X1174.here hx rfl (hb hby at_154) rfl (l' := #[.val (.int p1), .val (.int p2), .val (.int p3), .val (.int ix), .val (.int p5), .val (.int fi), .val (.int (4 : Int32)), .val (.ref b1020), .val (.int ix), .val (.ref b1156), .val (.long (fi.toInt64)), .second, .val (.long ((fi.toInt64) + ((4 : Int32).toInt64))), .second, .val (.int (1 : Int32))]) rfl kQ) ?_
          show own_Go p e below s _ _ _ (T1174.setTop (mkF m 156 #[.val (.int p1), .val (.int p2), .val (.int p3), .val (.int ix), .val (.int p5), .val (.int fi), .val (.int (4 : Int32)), .val (.ref b1020), .val (.int ix), .val (.ref b1156), .val (.long (fi.toInt64)), .second, .val (.long ((fi.toInt64) + ((4 : Int32).toInt64))), .second, .val (.int (1 : Int32))] []))
          refine own_st (fun _ kQ => XS.aload X1174.here hx rfl (hb hby at_156) rfl rfl kQ) ?_
          show own_Go p e below s _ _ _ (T1174.setTop (mkF m 158 #[.val (.int p1), .val (.int p2), .val (.int p3), .val (.int ix), .val (.int p5), .val (.int fi), .val (.int (4 : Int32)), .val (.ref b1020), .val (.int ix), .val (.ref b1156), .val (.long (fi.toInt64)), .second, .val (.long ((fi.toInt64) + ((4 : Int32).toInt64))), .second, .val (.int (1 : Int32))] [(.ref b1156)]))
          refine own_st (fun _ kQ => XS.iload X1174.here hx rfl (hb hby at_158) rfl kQ) ?_
          show own_Go p e below s _ _ _ (T1174.setTop (mkF m 160 #[.val (.int p1), .val (.int p2), .val (.int p3), .val (.int ix), .val (.int p5), .val (.int fi), .val (.int (4 : Int32)), .val (.ref b1020), .val (.int ix), .val (.ref b1156), .val (.long (fi.toInt64)), .second, .val (.long ((fi.toInt64) + ((4 : Int32).toInt64))), .second, .val (.int (1 : Int32))] [(.int ix), (.ref b1156)]))
          have F1209 : Exa Z T1174.heap b1020 "java/util/ArrayList" := (F1175.keep K1174)
          have F1210 : Fld Z T1174.heap b1020 "java/util/ArrayList" "size" "I" (.int (4 : Int32)) := ((q1145.ext E1156).keep K1174 (ninS ne1164 nin0))
          obtain ⟨cq1208, kq1208, q1208a, q1208b, q1208c⟩ := isOf hZ rfl q1177
          obtain ⟨_, _, ⟨T1208, L1208, k1208, n1208⟩, -, X1208, ⟨Lc1208, hQ1208, l1208, y1208, z1208⟩, st1208⟩ := X1174.virtualBack hx (y := (⟨"com/example/rationed_session/rationedsession/model/Partition", "holds", "(I)Z"⟩ : MethodName)) (z := (⟨"com/example/rationed_session/rationedsession/model/Partition", "holds", "(I)Z"⟩ : MethodName)) hown (mvT hZ (hw _ (List.mem_of_getElem? (i := 121) rfl))) (mvT hZ (hw _ (List.mem_of_getElem? (i := 122) rfl))) (notFace_of_selects (args := #[]) (mvT hZ (hw _ (List.mem_of_getElem? (i := 124) rfl)))) (mvT hZ (hw _ (List.mem_of_getElem? (i := 124) rfl))) (mvT hZ (hw _ (List.mem_of_getElem? (i := 123) rfl))) (by decide) (backOf (W := 0) (own_rm_holdsU l Z a0 hw [] x1176 b1156 b1020 ix fi (4 : Int32) T1174.heap n0 Zs1193 q1180 q1182 q1183 F1209 q1179 F1210) hZ (hw _ (List.mem_of_getElem? (i := 125) rfl)) (hw _ (List.mem_of_getElem? (i := 67) rfl)) (by decide) (by decide)) q1208a q1208c (g := (mkF m 160 #[.val (.int p1), .val (.int p2), .val (.int p3), .val (.int ix), .val (.int p5), .val (.int fi), .val (.int (4 : Int32)), .val (.ref b1020), .val (.int ix), .val (.ref b1156), .val (.long (fi.toInt64)), .second, .val (.long ((fi.toInt64) + ((4 : Int32).toInt64))), .second, .val (.int (1 : Int32))] [(.int ix), (.ref b1156)])) rfl (by rw [hml]; rfl) (Steps.refl _) (argsL := [(.int ix)]) (rest := []) (lenOf own_pd13 rfl) rfl (by show 2 * 0 + _ ≤ _; exact Nat.le_of_eq rfl) (hb hby at_160) (fun _ _ => ⟨rfl, rfl, (by decide : 8 + 0 ≤ _), (by decide : 22 + 0 ≤ _)⟩)
          dsimp only [Pt.U, Pt.locs, Pt.cells, Pt.slots] at X1208 l1208 y1208 z1208 st1208 hQ1208
          subst l1208 y1208 z1208
          obtain ⟨N1208q, rfl, eh1208⟩ := hQ1208
          have N1211 := Fr.app N1185 N1208q
          refine own_tr st1208 ?_
          show own_Go p e below s _ _ _ (T1208.setTop (mkF m 163 #[.val (.int p1), .val (.int p2), .val (.int p3), .val (.int ix), .val (.int p5), .val (.int fi), .val (.int (4 : Int32)), .val (.ref b1020), .val (.int ix), .val (.ref b1156), .val (.long (fi.toInt64)), .second, .val (.long ((fi.toInt64) + ((4 : Int32).toInt64))), .second, .val (.int (1 : Int32))] [(.int (if ix < fi then (0 : Int32) else if ix - fi < (4 : Int32) then 1 else 0))]))
          refine own_st (fun _ kQ => XS.iload X1208.here hx rfl (hb hby at_163) rfl kQ) ?_
          show own_Go p e below s _ _ _ (T1208.setTop (mkF m 165 #[.val (.int p1), .val (.int p2), .val (.int p3), .val (.int ix), .val (.int p5), .val (.int fi), .val (.int (4 : Int32)), .val (.ref b1020), .val (.int ix), .val (.ref b1156), .val (.long (fi.toInt64)), .second, .val (.long ((fi.toInt64) + ((4 : Int32).toInt64))), .second, .val (.int (1 : Int32))] [(.int (1 : Int32)), (.int (if ix < fi then (0 : Int32) else if ix - fi < (4 : Int32) then 1 else 0))]))
          refine own_st (fun _ kQ => XS.icmpNo X1208.here hx rfl (hb hby at_165) rfl (XT.ii_ne_f (by rw [if_neg (fun q => hc1202 ((own_lt64 _ _).mpr q)), if_pos ((own_hl _ _ (4 : Int32) hfi (by decide) (by decide) (fun q => hc1202 ((own_lt64 _ _).mpr q))).mp hc1207)])) kQ) ?_
          show own_Go p e below s _ _ _ (T1208.setTop (mkF m 168 #[.val (.int p1), .val (.int p2), .val (.int p3), .val (.int ix), .val (.int p5), .val (.int fi), .val (.int (4 : Int32)), .val (.ref b1020), .val (.int ix), .val (.ref b1156), .val (.long (fi.toInt64)), .second, .val (.long ((fi.toInt64) + ((4 : Int32).toInt64))), .second, .val (.int (1 : Int32))] []))
          refine own_st (fun _ kQ => XT.iconstV X1208.here hx rfl (1 : Int32) (hb hby at_168) (by decide) kQ) ?_
          show own_Go p e below s _ _ _ (T1208.setTop (mkF m 169 #[.val (.int p1), .val (.int p2), .val (.int p3), .val (.int ix), .val (.int p5), .val (.int fi), .val (.int (4 : Int32)), .val (.ref b1020), .val (.int ix), .val (.ref b1156), .val (.long (fi.toInt64)), .second, .val (.long ((fi.toInt64) + ((4 : Int32).toInt64))), .second, .val (.int (1 : Int32))] [(.int (1 : Int32))]))
          refine own_st (fun _ kQ => XS.goto X1208.here hx rfl (pc0 := 169) (pc' := 173) rfl (hb hby at_169) (by decide) (by decide) kQ) ?_
          show own_Go p e below s _ _ _ (T1208.setTop (mkF m 173 #[.val (.int p1), .val (.int p2), .val (.int p3), .val (.int ix), .val (.int p5), .val (.int fi), .val (.int (4 : Int32)), .val (.ref b1020), .val (.int ix), .val (.ref b1156), .val (.long (fi.toInt64)), .second, .val (.long ((fi.toInt64) + ((4 : Int32).toInt64))), .second, .val (.int (1 : Int32))] [(.int (1 : Int32))]))
          refine own_retN X1208 hx hlk Bd.returns (t := .boolean) (z' := (1 : Int32)) (by simp) (by decide) (hb hby at_173) (by decide) (by decide) ?_
          rw [eh1208]
          exact ⟨N1211, rfl⟩
        · refine own_st (fun _ kQ => XS.ifYes X1174.here hx rfl (pc0 := 146) (pc' := 153) rfl (hb hby at_146) rfl (XT.ll_ge_t hc1207) (by decide) (by decide) kQ) ?_
          show own_Go p e below s _ _ _ (T1174.setTop (mkF m 153 #[.val (.int p1), .val (.int p2), .val (.int p3), .val (.int ix), .val (.int p5), .val (.int fi), .val (.int (4 : Int32)), .val (.ref b1020), .val (.int ix), .val (.ref b1156), .val (.long (fi.toInt64)), .second, .val (.long ((fi.toInt64) + ((4 : Int32).toInt64))), .second, .unset] []))
          refine own_st (fun _ kQ => XT.iconstV X1174.here hx rfl (0 : Int32) (hb hby at_153) (by decide) kQ) ?_
          show own_Go p e below s _ _ _ (T1174.setTop (mkF m 154 #[.val (.int p1), .val (.int p2), .val (.int p3), .val (.int ix), .val (.int p5), .val (.int fi), .val (.int (4 : Int32)), .val (.ref b1020), .val (.int ix), .val (.ref b1156), .val (.long (fi.toInt64)), .second, .val (.long ((fi.toInt64) + ((4 : Int32).toInt64))), .second, .unset] [(.int (0 : Int32))]))
          refine own_st (fun _ kQ => XS.istore X1174.here hx rfl (hb hby at_154) rfl (l' := #[.val (.int p1), .val (.int p2), .val (.int p3), .val (.int ix), .val (.int p5), .val (.int fi), .val (.int (4 : Int32)), .val (.ref b1020), .val (.int ix), .val (.ref b1156), .val (.long (fi.toInt64)), .second, .val (.long ((fi.toInt64) + ((4 : Int32).toInt64))), .second, .val (.int (0 : Int32))]) rfl kQ) ?_
          show own_Go p e below s _ _ _ (T1174.setTop (mkF m 156 #[.val (.int p1), .val (.int p2), .val (.int p3), .val (.int ix), .val (.int p5), .val (.int fi), .val (.int (4 : Int32)), .val (.ref b1020), .val (.int ix), .val (.ref b1156), .val (.long (fi.toInt64)), .second, .val (.long ((fi.toInt64) + ((4 : Int32).toInt64))), .second, .val (.int (0 : Int32))] []))
          refine own_st (fun _ kQ => XS.aload X1174.here hx rfl (hb hby at_156) rfl rfl kQ) ?_
          show own_Go p e below s _ _ _ (T1174.setTop (mkF m 158 #[.val (.int p1), .val (.int p2), .val (.int p3), .val (.int ix), .val (.int p5), .val (.int fi), .val (.int (4 : Int32)), .val (.ref b1020), .val (.int ix), .val (.ref b1156), .val (.long (fi.toInt64)), .second, .val (.long ((fi.toInt64) + ((4 : Int32).toInt64))), .second, .val (.int (0 : Int32))] [(.ref b1156)]))
          refine own_st (fun _ kQ => XS.iload X1174.here hx rfl (hb hby at_158) rfl kQ) ?_
          show own_Go p e below s _ _ _ (T1174.setTop (mkF m 160 #[.val (.int p1), .val (.int p2), .val (.int p3), .val (.int ix), .val (.int p5), .val (.int fi), .val (.int (4 : Int32)), .val (.ref b1020), .val (.int ix), .val (.ref b1156), .val (.long (fi.toInt64)), .second, .val (.long ((fi.toInt64) + ((4 : Int32).toInt64))), .second, .val (.int (0 : Int32))] [(.int ix), (.ref b1156)]))
          have F1213 : Exa Z T1174.heap b1020 "java/util/ArrayList" := (F1175.keep K1174)
          have F1214 : Fld Z T1174.heap b1020 "java/util/ArrayList" "size" "I" (.int (4 : Int32)) := ((q1145.ext E1156).keep K1174 (ninS ne1164 nin0))
          obtain ⟨cq1212, kq1212, q1212a, q1212b, q1212c⟩ := isOf hZ rfl q1177
          obtain ⟨_, _, ⟨T1212, L1212, k1212, n1212⟩, -, X1212, ⟨Lc1212, hQ1212, l1212, y1212, z1212⟩, st1212⟩ := X1174.virtualBack hx (y := (⟨"com/example/rationed_session/rationedsession/model/Partition", "holds", "(I)Z"⟩ : MethodName)) (z := (⟨"com/example/rationed_session/rationedsession/model/Partition", "holds", "(I)Z"⟩ : MethodName)) hown (mvT hZ (hw _ (List.mem_of_getElem? (i := 121) rfl))) (mvT hZ (hw _ (List.mem_of_getElem? (i := 122) rfl))) (notFace_of_selects (args := #[]) (mvT hZ (hw _ (List.mem_of_getElem? (i := 124) rfl)))) (mvT hZ (hw _ (List.mem_of_getElem? (i := 124) rfl))) (mvT hZ (hw _ (List.mem_of_getElem? (i := 123) rfl))) (by decide) (backOf (W := 0) (own_rm_holdsU l Z a0 hw [] x1176 b1156 b1020 ix fi (4 : Int32) T1174.heap n0 Zs1193 q1180 q1182 q1183 F1213 q1179 F1214) hZ (hw _ (List.mem_of_getElem? (i := 125) rfl)) (hw _ (List.mem_of_getElem? (i := 67) rfl)) (by decide) (by decide)) q1212a q1212c (g := (mkF m 160 #[.val (.int p1), .val (.int p2), .val (.int p3), .val (.int ix), .val (.int p5), .val (.int fi), .val (.int (4 : Int32)), .val (.ref b1020), .val (.int ix), .val (.ref b1156), .val (.long (fi.toInt64)), .second, .val (.long ((fi.toInt64) + ((4 : Int32).toInt64))), .second, .val (.int (0 : Int32))] [(.int ix), (.ref b1156)])) rfl (by rw [hml]; rfl) (Steps.refl _) (argsL := [(.int ix)]) (rest := []) (lenOf own_pd13 rfl) rfl (by show 2 * 0 + _ ≤ _; exact Nat.le_of_eq rfl) (hb hby at_160) (fun _ _ => ⟨rfl, rfl, (by decide : 8 + 0 ≤ _), (by decide : 22 + 0 ≤ _)⟩)
          dsimp only [Pt.U, Pt.locs, Pt.cells, Pt.slots] at X1212 l1212 y1212 z1212 st1212 hQ1212
          subst l1212 y1212 z1212
          obtain ⟨N1212q, rfl, eh1212⟩ := hQ1212
          have N1215 := Fr.app N1185 N1212q
          refine own_tr st1212 ?_
          show own_Go p e below s _ _ _ (T1212.setTop (mkF m 163 #[.val (.int p1), .val (.int p2), .val (.int p3), .val (.int ix), .val (.int p5), .val (.int fi), .val (.int (4 : Int32)), .val (.ref b1020), .val (.int ix), .val (.ref b1156), .val (.long (fi.toInt64)), .second, .val (.long ((fi.toInt64) + ((4 : Int32).toInt64))), .second, .val (.int (0 : Int32))] [(.int (if ix < fi then (0 : Int32) else if ix - fi < (4 : Int32) then 1 else 0))]))
          refine own_st (fun _ kQ => XS.iload X1212.here hx rfl (hb hby at_163) rfl kQ) ?_
          show own_Go p e below s _ _ _ (T1212.setTop (mkF m 165 #[.val (.int p1), .val (.int p2), .val (.int p3), .val (.int ix), .val (.int p5), .val (.int fi), .val (.int (4 : Int32)), .val (.ref b1020), .val (.int ix), .val (.ref b1156), .val (.long (fi.toInt64)), .second, .val (.long ((fi.toInt64) + ((4 : Int32).toInt64))), .second, .val (.int (0 : Int32))] [(.int (0 : Int32)), (.int (if ix < fi then (0 : Int32) else if ix - fi < (4 : Int32) then 1 else 0))]))
          refine own_st (fun _ kQ => XS.icmpNo X1212.here hx rfl (hb hby at_165) rfl (XT.ii_ne_f (by rw [if_neg (fun q => hc1202 ((own_lt64 _ _).mpr q)), if_neg (fun q => hc1207 ((own_hl _ _ (4 : Int32) hfi (by decide) (by decide) (fun q => hc1202 ((own_lt64 _ _).mpr q))).mpr q))])) kQ) ?_
          show own_Go p e below s _ _ _ (T1212.setTop (mkF m 168 #[.val (.int p1), .val (.int p2), .val (.int p3), .val (.int ix), .val (.int p5), .val (.int fi), .val (.int (4 : Int32)), .val (.ref b1020), .val (.int ix), .val (.ref b1156), .val (.long (fi.toInt64)), .second, .val (.long ((fi.toInt64) + ((4 : Int32).toInt64))), .second, .val (.int (0 : Int32))] []))
          refine own_st (fun _ kQ => XT.iconstV X1212.here hx rfl (1 : Int32) (hb hby at_168) (by decide) kQ) ?_
          show own_Go p e below s _ _ _ (T1212.setTop (mkF m 169 #[.val (.int p1), .val (.int p2), .val (.int p3), .val (.int ix), .val (.int p5), .val (.int fi), .val (.int (4 : Int32)), .val (.ref b1020), .val (.int ix), .val (.ref b1156), .val (.long (fi.toInt64)), .second, .val (.long ((fi.toInt64) + ((4 : Int32).toInt64))), .second, .val (.int (0 : Int32))] [(.int (1 : Int32))]))
          refine own_st (fun _ kQ => XS.goto X1212.here hx rfl (pc0 := 169) (pc' := 173) rfl (hb hby at_169) (by decide) (by decide) kQ) ?_
          show own_Go p e below s _ _ _ (T1212.setTop (mkF m 173 #[.val (.int p1), .val (.int p2), .val (.int p3), .val (.int ix), .val (.int p5), .val (.int fi), .val (.int (4 : Int32)), .val (.ref b1020), .val (.int ix), .val (.ref b1156), .val (.long (fi.toInt64)), .second, .val (.long ((fi.toInt64) + ((4 : Int32).toInt64))), .second, .val (.int (0 : Int32))] [(.int (1 : Int32))]))
          refine own_retN X1212 hx hlk Bd.returns (t := .boolean) (z' := (1 : Int32)) (by simp) (by decide) (hb hby at_173) (by decide) (by decide) ?_
          rw [eh1212]
          exact ⟨N1215, rfl⟩
    · refine own_st (fun _ kQ => XS.ifYes X1136.here hx rfl (pc0 := 85) (pc' := 92) rfl (hb hby at_85) rfl (XT.i0_ne_t hc1155) (by decide) (by decide) kQ) ?_
      show own_Go p e below s _ _ _ (T1136.setTop (mkF m 92 #[.val (.int p1), .val (.int p2), .val (.int p3), .val (.int p4), .val (.int p5), .val (.int fi), .val (.int (4 : Int32)), .val (.ref b1020), .unset, .unset, .unset, .unset, .unset, .unset, .unset] []))
      refine own_st (fun _ kQ => XS.iload X1136.here hx rfl (hb hby at_92) rfl kQ) ?_
      show own_Go p e below s _ _ _ (T1136.setTop (mkF m 94 #[.val (.int p1), .val (.int p2), .val (.int p3), .val (.int p4), .val (.int p5), .val (.int fi), .val (.int (4 : Int32)), .val (.ref b1020), .unset, .unset, .unset, .unset, .unset, .unset, .unset] [(.int fi)]))
      refine own_st (fun _ kQ => XS.iloadN X1136.here hx rfl (hb hby at_94) rfl kQ) ?_
      show own_Go p e below s _ _ _ (T1136.setTop (mkF m 95 #[.val (.int p1), .val (.int p2), .val (.int p3), .val (.int p4), .val (.int p5), .val (.int fi), .val (.int (4 : Int32)), .val (.ref b1020), .unset, .unset, .unset, .unset, .unset, .unset, .unset] [(.int p4), (.int fi)]))
      refine own_st (fun _ kQ => XT.bipushV X1136.here hx rfl (8 : Int32) (hb hby at_95) (by decide) kQ) ?_
      show own_Go p e below s _ _ _ (T1136.setTop (mkF m 97 #[.val (.int p1), .val (.int p2), .val (.int p3), .val (.int p4), .val (.int p5), .val (.int fi), .val (.int (4 : Int32)), .val (.ref b1020), .unset, .unset, .unset, .unset, .unset, .unset, .unset] [(.int (8 : Int32)), (.int p4), (.int fi)]))
      refine own_st (fun _ kQ => iremM X1136 hx rfl (hb hby at_97) rfl (by decide) kQ) ?_
      show own_Go p e below s _ _ _ (T1136.setTop (mkF m 98 #[.val (.int p1), .val (.int p2), .val (.int p3), .val (.int p4), .val (.int p5), .val (.int fi), .val (.int (4 : Int32)), .val (.ref b1020), .unset, .unset, .unset, .unset, .unset, .unset, .unset] [(.int (p4 % (8 : Int32))), (.int fi)]))
      refine own_st (fun _ kQ => XS.iadd X1136.here hx rfl (hb hby at_98) rfl kQ) ?_
      show own_Go p e below s _ _ _ (T1136.setTop (mkF m 99 #[.val (.int p1), .val (.int p2), .val (.int p3), .val (.int p4), .val (.int p5), .val (.int fi), .val (.int (4 : Int32)), .val (.ref b1020), .unset, .unset, .unset, .unset, .unset, .unset, .unset] [(.int (fi + (p4 % (8 : Int32))))]))
      refine own_st (fun _ kQ => XT.iconstV X1136.here hx rfl (3 : Int32) (hb hby at_99) (by decide) kQ) ?_
      show own_Go p e below s _ _ _ (T1136.setTop (mkF m 100 #[.val (.int p1), .val (.int p2), .val (.int p3), .val (.int p4), .val (.int p5), .val (.int fi), .val (.int (4 : Int32)), .val (.ref b1020), .unset, .unset, .unset, .unset, .unset, .unset, .unset] [(.int (3 : Int32)), (.int (fi + (p4 % (8 : Int32))))]))
      refine own_st (fun _ kQ => XS.isub X1136.here hx rfl (hb hby at_100) rfl kQ) ?_
      show own_Go p e below s _ _ _ (T1136.setTop (mkF m 101 #[.val (.int p1), .val (.int p2), .val (.int p3), .val (.int p4), .val (.int p5), .val (.int fi), .val (.int (4 : Int32)), .val (.ref b1020), .unset, .unset, .unset, .unset, .unset, .unset, .unset] [(.int ((fi + (p4 % (8 : Int32))) - (3 : Int32)))]))
      generalize hk_ix : ((fi + (p4 % (8 : Int32))) - (3 : Int32)) = ix
      show own_Go p e below s _ _ _ (T1136.setTop (mkF m 101 #[.val (.int p1), .val (.int p2), .val (.int p3), .val (.int p4), .val (.int p5), .val (.int fi), .val (.int (4 : Int32)), .val (.ref b1020), .unset, .unset, .unset, .unset, .unset, .unset, .unset] [(.int ix)]))
      refine own_st (fun _ kQ => XS.istore X1136.here hx rfl (hb hby at_101) rfl (l' := #[.val (.int p1), .val (.int p2), .val (.int p3), .val (.int p4), .val (.int p5), .val (.int fi), .val (.int (4 : Int32)), .val (.ref b1020), .val (.int ix), .unset, .unset, .unset, .unset, .unset, .unset]) rfl kQ) ?_
      show own_Go p e below s _ _ _ (T1136.setTop (mkF m 103 #[.val (.int p1), .val (.int p2), .val (.int p3), .val (.int p4), .val (.int p5), .val (.int fi), .val (.int (4 : Int32)), .val (.ref b1020), .val (.int ix), .unset, .unset, .unset, .unset, .unset, .unset] []))
      obtain ⟨T1216, h1216, X1216, e1216, E1216, A1216, D1216, -, st1216⟩ := newO X1136 hx hZ hown (hw _ (List.mem_of_getElem? (i := 65) rfl)) (hw _ (List.mem_of_getElem? (i := 66) rfl)) (hw _ (List.mem_of_getElem? (i := 67) rfl)) rfl (g := (mkF m 103 #[.val (.int p1), .val (.int p2), .val (.int p3), .val (.int p4), .val (.int p5), .val (.int fi), .val (.int (4 : Int32)), .val (.ref b1020), .val (.int ix), .unset, .unset, .unset, .unset, .unset, .unset] [])) rfl (hb hby at_103) (by decide) (by decide)
      obtain ⟨b1216, g1216⟩ : ∃ z, z = T1136.heap.size := ⟨_, rfl⟩
      rw [← g1216] at A1216 D1216 st1216
      refine own_st st1216 ?_
      have lt1217 : b1020 < h1216.size := Nat.lt_of_lt_of_le q1145.lt E1216.1
      have lt1218 : x1037 < h1216.size := Nat.lt_of_lt_of_le lt1149 E1216.1
      have lt1219 : x1049 < h1216.size := Nat.lt_of_lt_of_le q1146.lt E1216.1
      have lt1220 : x1068 < h1216.size := Nat.lt_of_lt_of_le lt1151 E1216.1
      have lt1221 : x1096 < h1216.size := Nat.lt_of_lt_of_le lt1152 E1216.1
      have lt1222 : x1125 < h1216.size := Nat.lt_of_lt_of_le lt1153 E1216.1
      have Zs1223 : n0 ≤ h1216.size := Nat.le_trans Zs1154 E1216.1
      have ne1224 : b1020 ≠ b1216 := Nat.ne_of_lt (Nat.lt_of_lt_of_le q1145.lt (Nat.le_of_eq g1216.symm))
      have ne1225 : x1037 ≠ b1216 := Nat.ne_of_lt (Nat.lt_of_lt_of_le lt1149 (Nat.le_of_eq g1216.symm))
      have ne1226 : x1049 ≠ b1216 := Nat.ne_of_lt (Nat.lt_of_lt_of_le q1146.lt (Nat.le_of_eq g1216.symm))
      have ne1227 : x1068 ≠ b1216 := Nat.ne_of_lt (Nat.lt_of_lt_of_le lt1151 (Nat.le_of_eq g1216.symm))
      have ne1228 : x1096 ≠ b1216 := Nat.ne_of_lt (Nat.lt_of_lt_of_le lt1152 (Nat.le_of_eq g1216.symm))
      have ne1229 : x1125 ≠ b1216 := Nat.ne_of_lt (Nat.lt_of_lt_of_le lt1153 (Nat.le_of_eq g1216.symm))
      have g1230 : n0 ≤ b1216 := Nat.le_trans Zs1154 (Nat.le_of_eq g1216.symm)
      have F1231 : Fld Z h1216 b1216 "com/example/rationed_session/rationedsession/model/Partition" "number" "I" (.int (0 : Int32)) := D1216 (Or.inr (hw _ (List.mem_of_getElem? (i := 73) rfl))) (ty := .int) (by decide)
      have F1232 : Fld Z h1216 b1216 "com/example/rationed_session/rationedsession/model/Partition" "firstIndex" "I" (.int (0 : Int32)) := D1216 (Or.inr (hw _ (List.mem_of_getElem? (i := 75) rfl))) (ty := .int) (by decide)
      have F1233 : Fld Z h1216 b1216 "com/example/rationed_session/rationedsession/model/Partition" "inputs" "Ljava/util/List;" .null := D1216 (Or.inr (hw _ (List.mem_of_getElem? (i := 120) rfl))) (ty := (.object "java/util/List")) (by decide)
      show own_Go p e below s _ _ _ (T1216.setTop (mkF m 106 #[.val (.int p1), .val (.int p2), .val (.int p3), .val (.int p4), .val (.int p5), .val (.int fi), .val (.int (4 : Int32)), .val (.ref b1020), .val (.int ix), .unset, .unset, .unset, .unset, .unset, .unset] [(.ref b1216)]))
      refine own_st (fun _ kQ => XS.dup X1216.here hx rfl (hb hby at_106) rfl rfl kQ) ?_
      show own_Go p e below s _ _ _ (T1216.setTop (mkF m 107 #[.val (.int p1), .val (.int p2), .val (.int p3), .val (.int p4), .val (.int p5), .val (.int fi), .val (.int (4 : Int32)), .val (.ref b1020), .val (.int ix), .unset, .unset, .unset, .unset, .unset, .unset] [(.ref b1216), (.ref b1216)]))
      refine own_st (fun _ kQ => XS.iloadN X1216.here hx rfl (hb hby at_107) rfl kQ) ?_
      show own_Go p e below s _ _ _ (T1216.setTop (mkF m 108 #[.val (.int p1), .val (.int p2), .val (.int p3), .val (.int p4), .val (.int p5), .val (.int fi), .val (.int (4 : Int32)), .val (.ref b1020), .val (.int ix), .unset, .unset, .unset, .unset, .unset, .unset] [(.int p1), (.ref b1216), (.ref b1216)]))
      refine own_st (fun _ kQ => XS.iload X1216.here hx rfl (hb hby at_108) rfl kQ) ?_
      show own_Go p e below s _ _ _ (T1216.setTop (mkF m 110 #[.val (.int p1), .val (.int p2), .val (.int p3), .val (.int p4), .val (.int p5), .val (.int fi), .val (.int (4 : Int32)), .val (.ref b1020), .val (.int ix), .unset, .unset, .unset, .unset, .unset, .unset] [(.int fi), (.int p1), (.ref b1216), (.ref b1216)]))
      refine own_st (fun _ kQ => XS.aload X1216.here hx rfl (hb hby at_110) rfl rfl kQ) ?_
      show own_Go p e below s _ _ _ (T1216.setTop (mkF m 112 #[.val (.int p1), .val (.int p2), .val (.int p3), .val (.int p4), .val (.int p5), .val (.int fi), .val (.int (4 : Int32)), .val (.ref b1020), .val (.int ix), .unset, .unset, .unset, .unset, .unset, .unset] [(.ref b1020), (.int fi), (.int p1), (.ref b1216), (.ref b1216)]))
      have F1235 : Exa Z h1216 b1020 "java/util/ArrayList" := (q1142.ext E1216)
      obtain ⟨_, _, ⟨T1234, L1234, k1234, n1234⟩, -, X1234, ⟨Lc1234, hQ1234, l1234, y1234, z1234⟩, st1234⟩ := X1216.specialBack hx (y := (⟨"com/example/rationed_session/rationedsession/model/Partition", "<init>", "(IILjava/util/List;)V"⟩ : MethodName)) rfl hown (mvT hZ (hw _ (List.mem_of_getElem? (i := 68) rfl))) (mvT hZ (hw _ (List.mem_of_getElem? (i := 69) rfl))) (mvT hZ (hw _ (List.mem_of_getElem? (i := 70) rfl))) (by decide) (backOf (W := 1) (own_rm_pinitU l Z a0 hw [] b1216 p1 fi b1020 mA mL mR h1216 n0 Zs1223 M_AL M_UL M_UR h1 h2 A1216 F1235 F1231 F1232 F1233 g1230) hZ (hw _ (List.mem_of_getElem? (i := 70) rfl)) (hw _ (List.mem_of_getElem? (i := 67) rfl)) (by decide) (by decide)) (g := (mkF m 112 #[.val (.int p1), .val (.int p2), .val (.int p3), .val (.int p4), .val (.int p5), .val (.int fi), .val (.int (4 : Int32)), .val (.ref b1020), .val (.int ix), .unset, .unset, .unset, .unset, .unset, .unset] [(.ref b1020), (.int fi), (.int p1), (.ref b1216), (.ref b1216)])) rfl (by rw [hml]; rfl) (Steps.refl _) (a := b1216) (argsL := [(.int p1), (.int fi), (.ref b1020)]) (rest := [(.ref b1216)]) (lenOf own_pd12 rfl) rfl (by show 2 * 0 + _ ≤ _; exact Nat.le_of_eq rfl) (hb hby at_112) (fun _ _ => ⟨rfl, e1216, (by decide : 7 + 1 ≤ _), (by decide : 20 + 2 ≤ _)⟩)
      dsimp only [Pt.U, Pt.locs, Pt.cells, Pt.slots] at X1234 l1234 y1234 z1234 st1234 hQ1234
      subst l1234 y1234 z1234
      obtain ⟨x1236, N1234q, rfl, K1234, q1237, q1238, q1239, q1240, q1241, q1242, q1243, q1244⟩ := hQ1234
      have N1245 := Fr.app N1147 N1234q
      refine own_tr st1234 ?_
      have lt1246 : b1020 < T1234.heap.size := Nat.lt_of_lt_of_le lt1217 K1234.1
      have lt1247 : x1037 < T1234.heap.size := Nat.lt_of_lt_of_le lt1218 K1234.1
      have lt1248 : x1049 < T1234.heap.size := Nat.lt_of_lt_of_le lt1219 K1234.1
      have lt1249 : x1068 < T1234.heap.size := Nat.lt_of_lt_of_le lt1220 K1234.1
      have lt1250 : x1096 < T1234.heap.size := Nat.lt_of_lt_of_le lt1221 K1234.1
      have lt1251 : x1125 < T1234.heap.size := Nat.lt_of_lt_of_le lt1222 K1234.1
      have lt1252 : b1216 < T1234.heap.size := Nat.lt_of_lt_of_le A1216.lt K1234.1
      have Zs1253 : n0 ≤ T1234.heap.size := Nat.le_trans Zs1223 K1234.1
      have ne1254 : b1020 ≠ x1236 := Nat.ne_of_lt (Nat.lt_of_lt_of_le lt1217 q1241)
      have ne1255 : x1037 ≠ x1236 := Nat.ne_of_lt (Nat.lt_of_lt_of_le lt1218 q1241)
      have ne1256 : x1049 ≠ x1236 := Nat.ne_of_lt (Nat.lt_of_lt_of_le lt1219 q1241)
      have ne1257 : x1068 ≠ x1236 := Nat.ne_of_lt (Nat.lt_of_lt_of_le lt1220 q1241)
      have ne1258 : x1096 ≠ x1236 := Nat.ne_of_lt (Nat.lt_of_lt_of_le lt1221 q1241)
      have ne1259 : x1125 ≠ x1236 := Nat.ne_of_lt (Nat.lt_of_lt_of_le lt1222 q1241)
      have ne1260 : b1216 ≠ x1236 := Nat.ne_of_lt (Nat.lt_of_lt_of_le A1216.lt q1241)
      have g1261 : n0 ≤ x1236 := Nat.le_trans Zs1223 q1241
      show own_Go p e below s _ _ _ (T1234.setTop (mkF m 115 #[.val (.int p1), .val (.int p2), .val (.int p3), .val (.int p4), .val (.int p5), .val (.int fi), .val (.int (4 : Int32)), .val (.ref b1020), .val (.int ix), .unset, .unset, .unset, .unset, .unset, .unset] [(.ref b1216)]))
      refine own_st (fun _ kQ => XS.astore X1234.here hx rfl (hb hby at_115) rfl rfl (l' := #[.val (.int p1), .val (.int p2), .val (.int p3), .val (.int p4), .val (.int p5), .val (.int fi), .val (.int (4 : Int32)), .val (.ref b1020), .val (.int ix), .val (.ref b1216), .unset, .unset, .unset, .unset, .unset]) rfl kQ) ?_
      show own_Go p e below s _ _ _ (T1234.setTop (mkF m 117 #[.val (.int p1), .val (.int p2), .val (.int p3), .val (.int p4), .val (.int p5), .val (.int fi), .val (.int (4 : Int32)), .val (.ref b1020), .val (.int ix), .val (.ref b1216), .unset, .unset, .unset, .unset, .unset] []))
      refine own_st (fun _ kQ => XS.iload X1234.here hx rfl (hb hby at_117) rfl kQ) ?_
      show own_Go p e below s _ _ _ (T1234.setTop (mkF m 119 #[.val (.int p1), .val (.int p2), .val (.int p3), .val (.int p4), .val (.int p5), .val (.int fi), .val (.int (4 : Int32)), .val (.ref b1020), .val (.int ix), .val (.ref b1216), .unset, .unset, .unset, .unset, .unset] [(.int fi)]))
      refine own_st (fun _ kQ => XT.i2l X1234.here hx rfl (hb hby at_119) rfl kQ) ?_
      show own_Go p e below s _ _ _ (T1234.setTop (mkF m 120 #[.val (.int p1), .val (.int p2), .val (.int p3), .val (.int p4), .val (.int p5), .val (.int fi), .val (.int (4 : Int32)), .val (.ref b1020), .val (.int ix), .val (.ref b1216), .unset, .unset, .unset, .unset, .unset] [(.long (fi.toInt64))]))
      refine own_st (fun _ kQ => XT.lstore X1234.here hx rfl (hb hby at_120) rfl (l' := #[.val (.int p1), .val (.int p2), .val (.int p3), .val (.int p4), .val (.int p5), .val (.int fi), .val (.int (4 : Int32)), .val (.ref b1020), .val (.int ix), .val (.ref b1216), .val (.long (fi.toInt64)), .second, .unset, .unset, .unset]) rfl kQ) ?_
      show own_Go p e below s _ _ _ (T1234.setTop (mkF m 122 #[.val (.int p1), .val (.int p2), .val (.int p3), .val (.int p4), .val (.int p5), .val (.int fi), .val (.int (4 : Int32)), .val (.ref b1020), .val (.int ix), .val (.ref b1216), .val (.long (fi.toInt64)), .second, .unset, .unset, .unset] []))
      refine own_st (fun _ kQ => XS.iload X1234.here hx rfl (hb hby at_122) rfl kQ) ?_
      show own_Go p e below s _ _ _ (T1234.setTop (mkF m 124 #[.val (.int p1), .val (.int p2), .val (.int p3), .val (.int p4), .val (.int p5), .val (.int fi), .val (.int (4 : Int32)), .val (.ref b1020), .val (.int ix), .val (.ref b1216), .val (.long (fi.toInt64)), .second, .unset, .unset, .unset] [(.int fi)]))
      refine own_st (fun _ kQ => XT.i2l X1234.here hx rfl (hb hby at_124) rfl kQ) ?_
      show own_Go p e below s _ _ _ (T1234.setTop (mkF m 125 #[.val (.int p1), .val (.int p2), .val (.int p3), .val (.int p4), .val (.int p5), .val (.int fi), .val (.int (4 : Int32)), .val (.ref b1020), .val (.int ix), .val (.ref b1216), .val (.long (fi.toInt64)), .second, .unset, .unset, .unset] [(.long (fi.toInt64))]))
      refine own_st (fun _ kQ => XS.iload X1234.here hx rfl (hb hby at_125) rfl kQ) ?_
      show own_Go p e below s _ _ _ (T1234.setTop (mkF m 127 #[.val (.int p1), .val (.int p2), .val (.int p3), .val (.int p4), .val (.int p5), .val (.int fi), .val (.int (4 : Int32)), .val (.ref b1020), .val (.int ix), .val (.ref b1216), .val (.long (fi.toInt64)), .second, .unset, .unset, .unset] [(.int (4 : Int32)), (.long (fi.toInt64))]))
      refine own_st (fun _ kQ => XT.i2l X1234.here hx rfl (hb hby at_127) rfl kQ) ?_
      show own_Go p e below s _ _ _ (T1234.setTop (mkF m 128 #[.val (.int p1), .val (.int p2), .val (.int p3), .val (.int p4), .val (.int p5), .val (.int fi), .val (.int (4 : Int32)), .val (.ref b1020), .val (.int ix), .val (.ref b1216), .val (.long (fi.toInt64)), .second, .unset, .unset, .unset] [(.long ((4 : Int32).toInt64)), (.long (fi.toInt64))]))
      refine own_st (fun _ kQ => XT.ladd X1234.here hx rfl (hb hby at_128) rfl kQ) ?_
      show own_Go p e below s _ _ _ (T1234.setTop (mkF m 129 #[.val (.int p1), .val (.int p2), .val (.int p3), .val (.int p4), .val (.int p5), .val (.int fi), .val (.int (4 : Int32)), .val (.ref b1020), .val (.int ix), .val (.ref b1216), .val (.long (fi.toInt64)), .second, .unset, .unset, .unset] [(.long ((fi.toInt64) + ((4 : Int32).toInt64)))]))
      refine own_st (fun _ kQ => XT.lstore X1234.here hx rfl (hb hby at_129) rfl (l' := #[.val (.int p1), .val (.int p2), .val (.int p3), .val (.int p4), .val (.int p5), .val (.int fi), .val (.int (4 : Int32)), .val (.ref b1020), .val (.int ix), .val (.ref b1216), .val (.long (fi.toInt64)), .second, .val (.long ((fi.toInt64) + ((4 : Int32).toInt64))), .second, .unset]) rfl kQ) ?_
      show own_Go p e below s _ _ _ (T1234.setTop (mkF m 131 #[.val (.int p1), .val (.int p2), .val (.int p3), .val (.int p4), .val (.int p5), .val (.int fi), .val (.int (4 : Int32)), .val (.ref b1020), .val (.int ix), .val (.ref b1216), .val (.long (fi.toInt64)), .second, .val (.long ((fi.toInt64) + ((4 : Int32).toInt64))), .second, .unset] []))
      refine own_st (fun _ kQ => XS.iload X1234.here hx rfl (hb hby at_131) rfl kQ) ?_
      show own_Go p e below s _ _ _ (T1234.setTop (mkF m 133 #[.val (.int p1), .val (.int p2), .val (.int p3), .val (.int p4), .val (.int p5), .val (.int fi), .val (.int (4 : Int32)), .val (.ref b1020), .val (.int ix), .val (.ref b1216), .val (.long (fi.toInt64)), .second, .val (.long ((fi.toInt64) + ((4 : Int32).toInt64))), .second, .unset] [(.int ix)]))
      refine own_st (fun _ kQ => XT.i2l X1234.here hx rfl (hb hby at_133) rfl kQ) ?_
      show own_Go p e below s _ _ _ (T1234.setTop (mkF m 134 #[.val (.int p1), .val (.int p2), .val (.int p3), .val (.int p4), .val (.int p5), .val (.int fi), .val (.int (4 : Int32)), .val (.ref b1020), .val (.int ix), .val (.ref b1216), .val (.long (fi.toInt64)), .second, .val (.long ((fi.toInt64) + ((4 : Int32).toInt64))), .second, .unset] [(.long (ix.toInt64))]))
      refine own_st (fun _ kQ => XT.lload X1234.here hx rfl (hb hby at_134) rfl kQ) ?_
      show own_Go p e below s _ _ _ (T1234.setTop (mkF m 136 #[.val (.int p1), .val (.int p2), .val (.int p3), .val (.int p4), .val (.int p5), .val (.int fi), .val (.int (4 : Int32)), .val (.ref b1020), .val (.int ix), .val (.ref b1216), .val (.long (fi.toInt64)), .second, .val (.long ((fi.toInt64) + ((4 : Int32).toInt64))), .second, .unset] [(.long (fi.toInt64)), (.long (ix.toInt64))]))
      refine own_st (fun _ kQ => XT.lcmp X1234.here hx rfl (hb hby at_136) rfl kQ) ?_
      show own_Go p e below s _ _ _ (T1234.setTop (mkF m 137 #[.val (.int p1), .val (.int p2), .val (.int p3), .val (.int p4), .val (.int p5), .val (.int fi), .val (.int (4 : Int32)), .val (.ref b1020), .val (.int ix), .val (.ref b1216), .val (.long (fi.toInt64)), .second, .val (.long ((fi.toInt64) + ((4 : Int32).toInt64))), .second, .unset] [(.int (XT.cmpL (ix.toInt64) (fi.toInt64)))]))
      by_cases hc1262 : (ix.toInt64) < (fi.toInt64)
      · refine own_st (fun _ kQ => XS.ifYes X1234.here hx rfl (pc0 := 137) (pc' := 153) rfl (hb hby at_137) rfl (XT.ll_lt_t hc1262) (by decide) (by decide) kQ) ?_
        show own_Go p e below s _ _ _ (T1234.setTop (mkF m 153 #[.val (.int p1), .val (.int p2), .val (.int p3), .val (.int p4), .val (.int p5), .val (.int fi), .val (.int (4 : Int32)), .val (.ref b1020), .val (.int ix), .val (.ref b1216), .val (.long (fi.toInt64)), .second, .val (.long ((fi.toInt64) + ((4 : Int32).toInt64))), .second, .unset] []))
        refine own_st (fun _ kQ => XT.iconstV X1234.here hx rfl (0 : Int32) (hb hby at_153) (by decide) kQ) ?_
        show own_Go p e below s _ _ _ (T1234.setTop (mkF m 154 #[.val (.int p1), .val (.int p2), .val (.int p3), .val (.int p4), .val (.int p5), .val (.int fi), .val (.int (4 : Int32)), .val (.ref b1020), .val (.int ix), .val (.ref b1216), .val (.long (fi.toInt64)), .second, .val (.long ((fi.toInt64) + ((4 : Int32).toInt64))), .second, .unset] [(.int (0 : Int32))]))
        refine own_st (fun _ kQ => XS.istore X1234.here hx rfl (hb hby at_154) rfl (l' := #[.val (.int p1), .val (.int p2), .val (.int p3), .val (.int p4), .val (.int p5), .val (.int fi), .val (.int (4 : Int32)), .val (.ref b1020), .val (.int ix), .val (.ref b1216), .val (.long (fi.toInt64)), .second, .val (.long ((fi.toInt64) + ((4 : Int32).toInt64))), .second, .val (.int (0 : Int32))]) rfl kQ) ?_
        show own_Go p e below s _ _ _ (T1234.setTop (mkF m 156 #[.val (.int p1), .val (.int p2), .val (.int p3), .val (.int p4), .val (.int p5), .val (.int fi), .val (.int (4 : Int32)), .val (.ref b1020), .val (.int ix), .val (.ref b1216), .val (.long (fi.toInt64)), .second, .val (.long ((fi.toInt64) + ((4 : Int32).toInt64))), .second, .val (.int (0 : Int32))] []))
        refine own_st (fun _ kQ => XS.aload X1234.here hx rfl (hb hby at_156) rfl rfl kQ) ?_
        show own_Go p e below s _ _ _ (T1234.setTop (mkF m 158 #[.val (.int p1), .val (.int p2), .val (.int p3), .val (.int p4), .val (.int p5), .val (.int fi), .val (.int (4 : Int32)), .val (.ref b1020), .val (.int ix), .val (.ref b1216), .val (.long (fi.toInt64)), .second, .val (.long ((fi.toInt64) + ((4 : Int32).toInt64))), .second, .val (.int (0 : Int32))] [(.ref b1216)]))
        refine own_st (fun _ kQ => XS.iload X1234.here hx rfl (hb hby at_158) rfl kQ) ?_
        show own_Go p e below s _ _ _ (T1234.setTop (mkF m 160 #[.val (.int p1), .val (.int p2), .val (.int p3), .val (.int p4), .val (.int p5), .val (.int fi), .val (.int (4 : Int32)), .val (.ref b1020), .val (.int ix), .val (.ref b1216), .val (.long (fi.toInt64)), .second, .val (.long ((fi.toInt64) + ((4 : Int32).toInt64))), .second, .val (.int (0 : Int32))] [(.int ix), (.ref b1216)]))
        have F1264 : Exa Z T1234.heap b1020 "java/util/ArrayList" := (F1235.keep K1234)
        have F1265 : Fld Z T1234.heap b1020 "java/util/ArrayList" "size" "I" (.int (4 : Int32)) := ((q1145.ext E1216).keep K1234 (ninS ne1224 nin0))
        obtain ⟨cq1263, kq1263, q1263a, q1263b, q1263c⟩ := isOf hZ rfl q1237
        obtain ⟨_, _, ⟨T1263, L1263, k1263, n1263⟩, -, X1263, ⟨Lc1263, hQ1263, l1263, y1263, z1263⟩, st1263⟩ := X1234.virtualBack hx (y := (⟨"com/example/rationed_session/rationedsession/model/Partition", "holds", "(I)Z"⟩ : MethodName)) (z := (⟨"com/example/rationed_session/rationedsession/model/Partition", "holds", "(I)Z"⟩ : MethodName)) hown (mvT hZ (hw _ (List.mem_of_getElem? (i := 121) rfl))) (mvT hZ (hw _ (List.mem_of_getElem? (i := 122) rfl))) (notFace_of_selects (args := #[]) (mvT hZ (hw _ (List.mem_of_getElem? (i := 124) rfl)))) (mvT hZ (hw _ (List.mem_of_getElem? (i := 124) rfl))) (mvT hZ (hw _ (List.mem_of_getElem? (i := 123) rfl))) (by decide) (backOf (W := 0) (own_rm_holdsU l Z a0 hw [] x1236 b1216 b1020 ix fi (4 : Int32) T1234.heap n0 Zs1253 q1240 q1242 q1243 F1264 q1239 F1265) hZ (hw _ (List.mem_of_getElem? (i := 125) rfl)) (hw _ (List.mem_of_getElem? (i := 67) rfl)) (by decide) (by decide)) q1263a q1263c (g := (mkF m 160 #[.val (.int p1), .val (.int p2), .val (.int p3), .val (.int p4), .val (.int p5), .val (.int fi), .val (.int (4 : Int32)), .val (.ref b1020), .val (.int ix), .val (.ref b1216), .val (.long (fi.toInt64)), .second, .val (.long ((fi.toInt64) + ((4 : Int32).toInt64))), .second, .val (.int (0 : Int32))] [(.int ix), (.ref b1216)])) rfl (by rw [hml]; rfl) (Steps.refl _) (argsL := [(.int ix)]) (rest := []) (lenOf own_pd13 rfl) rfl (by show 2 * 0 + _ ≤ _; exact Nat.le_of_eq rfl) (hb hby at_160) (fun _ _ => ⟨rfl, rfl, (by decide : 8 + 0 ≤ _), (by decide : 22 + 0 ≤ _)⟩)
        dsimp only [Pt.U, Pt.locs, Pt.cells, Pt.slots] at X1263 l1263 y1263 z1263 st1263 hQ1263
        subst l1263 y1263 z1263
        obtain ⟨N1263q, rfl, eh1263⟩ := hQ1263
        have N1266 := Fr.app N1245 N1263q
        refine own_tr st1263 ?_
        show own_Go p e below s _ _ _ (T1263.setTop (mkF m 163 #[.val (.int p1), .val (.int p2), .val (.int p3), .val (.int p4), .val (.int p5), .val (.int fi), .val (.int (4 : Int32)), .val (.ref b1020), .val (.int ix), .val (.ref b1216), .val (.long (fi.toInt64)), .second, .val (.long ((fi.toInt64) + ((4 : Int32).toInt64))), .second, .val (.int (0 : Int32))] [(.int (if ix < fi then (0 : Int32) else if ix - fi < (4 : Int32) then 1 else 0))]))
        refine own_st (fun _ kQ => XS.iload X1263.here hx rfl (hb hby at_163) rfl kQ) ?_
        show own_Go p e below s _ _ _ (T1263.setTop (mkF m 165 #[.val (.int p1), .val (.int p2), .val (.int p3), .val (.int p4), .val (.int p5), .val (.int fi), .val (.int (4 : Int32)), .val (.ref b1020), .val (.int ix), .val (.ref b1216), .val (.long (fi.toInt64)), .second, .val (.long ((fi.toInt64) + ((4 : Int32).toInt64))), .second, .val (.int (0 : Int32))] [(.int (0 : Int32)), (.int (if ix < fi then (0 : Int32) else if ix - fi < (4 : Int32) then 1 else 0))]))
        refine own_st (fun _ kQ => XS.icmpNo X1263.here hx rfl (hb hby at_165) rfl (XT.ii_ne_f (by rw [if_pos ((own_lt64 _ _).mp hc1262)])) kQ) ?_
        show own_Go p e below s _ _ _ (T1263.setTop (mkF m 168 #[.val (.int p1), .val (.int p2), .val (.int p3), .val (.int p4), .val (.int p5), .val (.int fi), .val (.int (4 : Int32)), .val (.ref b1020), .val (.int ix), .val (.ref b1216), .val (.long (fi.toInt64)), .second, .val (.long ((fi.toInt64) + ((4 : Int32).toInt64))), .second, .val (.int (0 : Int32))] []))
        refine own_st (fun _ kQ => XT.iconstV X1263.here hx rfl (1 : Int32) (hb hby at_168) (by decide) kQ) ?_
        show own_Go p e below s _ _ _ (T1263.setTop (mkF m 169 #[.val (.int p1), .val (.int p2), .val (.int p3), .val (.int p4), .val (.int p5), .val (.int fi), .val (.int (4 : Int32)), .val (.ref b1020), .val (.int ix), .val (.ref b1216), .val (.long (fi.toInt64)), .second, .val (.long ((fi.toInt64) + ((4 : Int32).toInt64))), .second, .val (.int (0 : Int32))] [(.int (1 : Int32))]))
        refine own_st (fun _ kQ => XS.goto X1263.here hx rfl (pc0 := 169) (pc' := 173) rfl (hb hby at_169) (by decide) (by decide) kQ) ?_
        show own_Go p e below s _ _ _ (T1263.setTop (mkF m 173 #[.val (.int p1), .val (.int p2), .val (.int p3), .val (.int p4), .val (.int p5), .val (.int fi), .val (.int (4 : Int32)), .val (.ref b1020), .val (.int ix), .val (.ref b1216), .val (.long (fi.toInt64)), .second, .val (.long ((fi.toInt64) + ((4 : Int32).toInt64))), .second, .val (.int (0 : Int32))] [(.int (1 : Int32))]))
        refine own_retN X1263 hx hlk Bd.returns (t := .boolean) (z' := (1 : Int32)) (by simp) (by decide) (hb hby at_173) (by decide) (by decide) ?_
        rw [eh1263]
        exact ⟨N1266, rfl⟩
      · refine own_st (fun _ kQ => XS.ifNo X1234.here hx rfl (hb hby at_137) rfl (XT.ll_lt_f hc1262) kQ) ?_
        show own_Go p e below s _ _ _ (T1234.setTop (mkF m 140 #[.val (.int p1), .val (.int p2), .val (.int p3), .val (.int p4), .val (.int p5), .val (.int fi), .val (.int (4 : Int32)), .val (.ref b1020), .val (.int ix), .val (.ref b1216), .val (.long (fi.toInt64)), .second, .val (.long ((fi.toInt64) + ((4 : Int32).toInt64))), .second, .unset] []))
        refine own_st (fun _ kQ => XS.iload X1234.here hx rfl (hb hby at_140) rfl kQ) ?_
        show own_Go p e below s _ _ _ (T1234.setTop (mkF m 142 #[.val (.int p1), .val (.int p2), .val (.int p3), .val (.int p4), .val (.int p5), .val (.int fi), .val (.int (4 : Int32)), .val (.ref b1020), .val (.int ix), .val (.ref b1216), .val (.long (fi.toInt64)), .second, .val (.long ((fi.toInt64) + ((4 : Int32).toInt64))), .second, .unset] [(.int ix)]))
        refine own_st (fun _ kQ => XT.i2l X1234.here hx rfl (hb hby at_142) rfl kQ) ?_
        show own_Go p e below s _ _ _ (T1234.setTop (mkF m 143 #[.val (.int p1), .val (.int p2), .val (.int p3), .val (.int p4), .val (.int p5), .val (.int fi), .val (.int (4 : Int32)), .val (.ref b1020), .val (.int ix), .val (.ref b1216), .val (.long (fi.toInt64)), .second, .val (.long ((fi.toInt64) + ((4 : Int32).toInt64))), .second, .unset] [(.long (ix.toInt64))]))
        refine own_st (fun _ kQ => XT.lload X1234.here hx rfl (hb hby at_143) rfl kQ) ?_
        show own_Go p e below s _ _ _ (T1234.setTop (mkF m 145 #[.val (.int p1), .val (.int p2), .val (.int p3), .val (.int p4), .val (.int p5), .val (.int fi), .val (.int (4 : Int32)), .val (.ref b1020), .val (.int ix), .val (.ref b1216), .val (.long (fi.toInt64)), .second, .val (.long ((fi.toInt64) + ((4 : Int32).toInt64))), .second, .unset] [(.long ((fi.toInt64) + ((4 : Int32).toInt64))), (.long (ix.toInt64))]))
        refine own_st (fun _ kQ => XT.lcmp X1234.here hx rfl (hb hby at_145) rfl kQ) ?_
        show own_Go p e below s _ _ _ (T1234.setTop (mkF m 146 #[.val (.int p1), .val (.int p2), .val (.int p3), .val (.int p4), .val (.int p5), .val (.int fi), .val (.int (4 : Int32)), .val (.ref b1020), .val (.int ix), .val (.ref b1216), .val (.long (fi.toInt64)), .second, .val (.long ((fi.toInt64) + ((4 : Int32).toInt64))), .second, .unset] [(.int (XT.cmpL (ix.toInt64) ((fi.toInt64) + ((4 : Int32).toInt64))))]))
        by_cases hc1267 : (ix.toInt64) < ((fi.toInt64) + ((4 : Int32).toInt64))
        · refine own_st (fun _ kQ => XS.ifNo X1234.here hx rfl (hb hby at_146) rfl (XT.ll_ge_f hc1267) kQ) ?_
          show own_Go p e below s _ _ _ (T1234.setTop (mkF m 149 #[.val (.int p1), .val (.int p2), .val (.int p3), .val (.int p4), .val (.int p5), .val (.int fi), .val (.int (4 : Int32)), .val (.ref b1020), .val (.int ix), .val (.ref b1216), .val (.long (fi.toInt64)), .second, .val (.long ((fi.toInt64) + ((4 : Int32).toInt64))), .second, .unset] []))
          refine own_st (fun _ kQ => XT.iconstV X1234.here hx rfl (1 : Int32) (hb hby at_149) (by decide) kQ) ?_
          show own_Go p e below s _ _ _ (T1234.setTop (mkF m 150 #[.val (.int p1), .val (.int p2), .val (.int p3), .val (.int p4), .val (.int p5), .val (.int fi), .val (.int (4 : Int32)), .val (.ref b1020), .val (.int ix), .val (.ref b1216), .val (.long (fi.toInt64)), .second, .val (.long ((fi.toInt64) + ((4 : Int32).toInt64))), .second, .unset] [(.int (1 : Int32))]))
          refine own_st (fun _ kQ => XS.goto X1234.here hx rfl (pc0 := 150) (pc' := 154) rfl (hb hby at_150) (by decide) (by decide) kQ) ?_
          show own_Go p e below s _ _ _ (T1234.setTop (mkF m 154 #[.val (.int p1), .val (.int p2), .val (.int p3), .val (.int p4), .val (.int p5), .val (.int fi), .val (.int (4 : Int32)), .val (.ref b1020), .val (.int ix), .val (.ref b1216), .val (.long (fi.toInt64)), .second, .val (.long ((fi.toInt64) + ((4 : Int32).toInt64))), .second, .unset] [(.int (1 : Int32))]))
          refine own_st (fun _ kQ => XS.istore X1234.here hx rfl (hb hby at_154) rfl (l' := #[.val (.int p1), .val (.int p2), .val (.int p3), .val (.int p4), .val (.int p5), .val (.int fi), .val (.int (4 : Int32)), .val (.ref b1020), .val (.int ix), .val (.ref b1216), .val (.long (fi.toInt64)), .second, .val (.long ((fi.toInt64) + ((4 : Int32).toInt64))), .second, .val (.int (1 : Int32))]) rfl kQ) ?_
          show own_Go p e below s _ _ _ (T1234.setTop (mkF m 156 #[.val (.int p1), .val (.int p2), .val (.int p3), .val (.int p4), .val (.int p5), .val (.int fi), .val (.int (4 : Int32)), .val (.ref b1020), .val (.int ix), .val (.ref b1216), .val (.long (fi.toInt64)), .second, .val (.long ((fi.toInt64) + ((4 : Int32).toInt64))), .second, .val (.int (1 : Int32))] []))
          refine own_st (fun _ kQ => XS.aload X1234.here hx rfl (hb hby at_156) rfl rfl kQ) ?_
          show own_Go p e below s _ _ _ (T1234.setTop (mkF m 158 #[.val (.int p1), .val (.int p2), .val (.int p3), .val (.int p4), .val (.int p5), .val (.int fi), .val (.int (4 : Int32)), .val (.ref b1020), .val (.int ix), .val (.ref b1216), .val (.long (fi.toInt64)), .second, .val (.long ((fi.toInt64) + ((4 : Int32).toInt64))), .second, .val (.int (1 : Int32))] [(.ref b1216)]))
          refine own_st (fun _ kQ => XS.iload X1234.here hx rfl (hb hby at_158) rfl kQ) ?_
          show own_Go p e below s _ _ _ (T1234.setTop (mkF m 160 #[.val (.int p1), .val (.int p2), .val (.int p3), .val (.int p4), .val (.int p5), .val (.int fi), .val (.int (4 : Int32)), .val (.ref b1020), .val (.int ix), .val (.ref b1216), .val (.long (fi.toInt64)), .second, .val (.long ((fi.toInt64) + ((4 : Int32).toInt64))), .second, .val (.int (1 : Int32))] [(.int ix), (.ref b1216)]))
          have F1269 : Exa Z T1234.heap b1020 "java/util/ArrayList" := (F1235.keep K1234)
          have F1270 : Fld Z T1234.heap b1020 "java/util/ArrayList" "size" "I" (.int (4 : Int32)) := ((q1145.ext E1216).keep K1234 (ninS ne1224 nin0))
          obtain ⟨cq1268, kq1268, q1268a, q1268b, q1268c⟩ := isOf hZ rfl q1237
          obtain ⟨_, _, ⟨T1268, L1268, k1268, n1268⟩, -, X1268, ⟨Lc1268, hQ1268, l1268, y1268, z1268⟩, st1268⟩ := X1234.virtualBack hx (y := (⟨"com/example/rationed_session/rationedsession/model/Partition", "holds", "(I)Z"⟩ : MethodName)) (z := (⟨"com/example/rationed_session/rationedsession/model/Partition", "holds", "(I)Z"⟩ : MethodName)) hown (mvT hZ (hw _ (List.mem_of_getElem? (i := 121) rfl))) (mvT hZ (hw _ (List.mem_of_getElem? (i := 122) rfl))) (notFace_of_selects (args := #[]) (mvT hZ (hw _ (List.mem_of_getElem? (i := 124) rfl)))) (mvT hZ (hw _ (List.mem_of_getElem? (i := 124) rfl))) (mvT hZ (hw _ (List.mem_of_getElem? (i := 123) rfl))) (by decide) (backOf (W := 0) (own_rm_holdsU l Z a0 hw [] x1236 b1216 b1020 ix fi (4 : Int32) T1234.heap n0 Zs1253 q1240 q1242 q1243 F1269 q1239 F1270) hZ (hw _ (List.mem_of_getElem? (i := 125) rfl)) (hw _ (List.mem_of_getElem? (i := 67) rfl)) (by decide) (by decide)) q1268a q1268c (g := (mkF m 160 #[.val (.int p1), .val (.int p2), .val (.int p3), .val (.int p4), .val (.int p5), .val (.int fi), .val (.int (4 : Int32)), .val (.ref b1020), .val (.int ix), .val (.ref b1216), .val (.long (fi.toInt64)), .second, .val (.long ((fi.toInt64) + ((4 : Int32).toInt64))), .second, .val (.int (1 : Int32))] [(.int ix), (.ref b1216)])) rfl (by rw [hml]; rfl) (Steps.refl _) (argsL := [(.int ix)]) (rest := []) (lenOf own_pd13 rfl) rfl (by show 2 * 0 + _ ≤ _; exact Nat.le_of_eq rfl) (hb hby at_160) (fun _ _ => ⟨rfl, rfl, (by decide : 8 + 0 ≤ _), (by decide : 22 + 0 ≤ _)⟩)
          dsimp only [Pt.U, Pt.locs, Pt.cells, Pt.slots] at X1268 l1268 y1268 z1268 st1268 hQ1268
          subst l1268 y1268 z1268
          obtain ⟨N1268q, rfl, eh1268⟩ := hQ1268
          have N1271 := Fr.app N1245 N1268q
          refine own_tr st1268 ?_
          show own_Go p e below s _ _ _ (T1268.setTop (mkF m 163 #[.val (.int p1), .val (.int p2), .val (.int p3), .val (.int p4), .val (.int p5), .val (.int fi), .val (.int (4 : Int32)), .val (.ref b1020), .val (.int ix), .val (.ref b1216), .val (.long (fi.toInt64)), .second, .val (.long ((fi.toInt64) + ((4 : Int32).toInt64))), .second, .val (.int (1 : Int32))] [(.int (if ix < fi then (0 : Int32) else if ix - fi < (4 : Int32) then 1 else 0))]))
          refine own_st (fun _ kQ => XS.iload X1268.here hx rfl (hb hby at_163) rfl kQ) ?_
          show own_Go p e below s _ _ _ (T1268.setTop (mkF m 165 #[.val (.int p1), .val (.int p2), .val (.int p3), .val (.int p4), .val (.int p5), .val (.int fi), .val (.int (4 : Int32)), .val (.ref b1020), .val (.int ix), .val (.ref b1216), .val (.long (fi.toInt64)), .second, .val (.long ((fi.toInt64) + ((4 : Int32).toInt64))), .second, .val (.int (1 : Int32))] [(.int (1 : Int32)), (.int (if ix < fi then (0 : Int32) else if ix - fi < (4 : Int32) then 1 else 0))]))
          refine own_st (fun _ kQ => XS.icmpNo X1268.here hx rfl (hb hby at_165) rfl (XT.ii_ne_f (by rw [if_neg (fun q => hc1262 ((own_lt64 _ _).mpr q)), if_pos ((own_hl _ _ (4 : Int32) hfi (by decide) (by decide) (fun q => hc1262 ((own_lt64 _ _).mpr q))).mp hc1267)])) kQ) ?_
          show own_Go p e below s _ _ _ (T1268.setTop (mkF m 168 #[.val (.int p1), .val (.int p2), .val (.int p3), .val (.int p4), .val (.int p5), .val (.int fi), .val (.int (4 : Int32)), .val (.ref b1020), .val (.int ix), .val (.ref b1216), .val (.long (fi.toInt64)), .second, .val (.long ((fi.toInt64) + ((4 : Int32).toInt64))), .second, .val (.int (1 : Int32))] []))
          refine own_st (fun _ kQ => XT.iconstV X1268.here hx rfl (1 : Int32) (hb hby at_168) (by decide) kQ) ?_
          show own_Go p e below s _ _ _ (T1268.setTop (mkF m 169 #[.val (.int p1), .val (.int p2), .val (.int p3), .val (.int p4), .val (.int p5), .val (.int fi), .val (.int (4 : Int32)), .val (.ref b1020), .val (.int ix), .val (.ref b1216), .val (.long (fi.toInt64)), .second, .val (.long ((fi.toInt64) + ((4 : Int32).toInt64))), .second, .val (.int (1 : Int32))] [(.int (1 : Int32))]))
          refine own_st (fun _ kQ => XS.goto X1268.here hx rfl (pc0 := 169) (pc' := 173) rfl (hb hby at_169) (by decide) (by decide) kQ) ?_
          show own_Go p e below s _ _ _ (T1268.setTop (mkF m 173 #[.val (.int p1), .val (.int p2), .val (.int p3), .val (.int p4), .val (.int p5), .val (.int fi), .val (.int (4 : Int32)), .val (.ref b1020), .val (.int ix), .val (.ref b1216), .val (.long (fi.toInt64)), .second, .val (.long ((fi.toInt64) + ((4 : Int32).toInt64))), .second, .val (.int (1 : Int32))] [(.int (1 : Int32))]))
          refine own_retN X1268 hx hlk Bd.returns (t := .boolean) (z' := (1 : Int32)) (by simp) (by decide) (hb hby at_173) (by decide) (by decide) ?_
          rw [eh1268]
          exact ⟨N1271, rfl⟩
        · refine own_st (fun _ kQ => XS.ifYes X1234.here hx rfl (pc0 := 146) (pc' := 153) rfl (hb hby at_146) rfl (XT.ll_ge_t hc1267) (by decide) (by decide) kQ) ?_
          show own_Go p e below s _ _ _ (T1234.setTop (mkF m 153 #[.val (.int p1), .val (.int p2), .val (.int p3), .val (.int p4), .val (.int p5), .val (.int fi), .val (.int (4 : Int32)), .val (.ref b1020), .val (.int ix), .val (.ref b1216), .val (.long (fi.toInt64)), .second, .val (.long ((fi.toInt64) + ((4 : Int32).toInt64))), .second, .unset] []))
          refine own_st (fun _ kQ => XT.iconstV X1234.here hx rfl (0 : Int32) (hb hby at_153) (by decide) kQ) ?_
          show own_Go p e below s _ _ _ (T1234.setTop (mkF m 154 #[.val (.int p1), .val (.int p2), .val (.int p3), .val (.int p4), .val (.int p5), .val (.int fi), .val (.int (4 : Int32)), .val (.ref b1020), .val (.int ix), .val (.ref b1216), .val (.long (fi.toInt64)), .second, .val (.long ((fi.toInt64) + ((4 : Int32).toInt64))), .second, .unset] [(.int (0 : Int32))]))
          refine own_st (fun _ kQ => XS.istore X1234.here hx rfl (hb hby at_154) rfl (l' := #[.val (.int p1), .val (.int p2), .val (.int p3), .val (.int p4), .val (.int p5), .val (.int fi), .val (.int (4 : Int32)), .val (.ref b1020), .val (.int ix), .val (.ref b1216), .val (.long (fi.toInt64)), .second, .val (.long ((fi.toInt64) + ((4 : Int32).toInt64))), .second, .val (.int (0 : Int32))]) rfl kQ) ?_
          show own_Go p e below s _ _ _ (T1234.setTop (mkF m 156 #[.val (.int p1), .val (.int p2), .val (.int p3), .val (.int p4), .val (.int p5), .val (.int fi), .val (.int (4 : Int32)), .val (.ref b1020), .val (.int ix), .val (.ref b1216), .val (.long (fi.toInt64)), .second, .val (.long ((fi.toInt64) + ((4 : Int32).toInt64))), .second, .val (.int (0 : Int32))] []))
          refine own_st (fun _ kQ => XS.aload X1234.here hx rfl (hb hby at_156) rfl rfl kQ) ?_
          show own_Go p e below s _ _ _ (T1234.setTop (mkF m 158 #[.val (.int p1), .val (.int p2), .val (.int p3), .val (.int p4), .val (.int p5), .val (.int fi), .val (.int (4 : Int32)), .val (.ref b1020), .val (.int ix), .val (.ref b1216), .val (.long (fi.toInt64)), .second, .val (.long ((fi.toInt64) + ((4 : Int32).toInt64))), .second, .val (.int (0 : Int32))] [(.ref b1216)]))
          refine own_st (fun _ kQ => XS.iload X1234.here hx rfl (hb hby at_158) rfl kQ) ?_
          show own_Go p e below s _ _ _ (T1234.setTop (mkF m 160 #[.val (.int p1), .val (.int p2), .val (.int p3), .val (.int p4), .val (.int p5), .val (.int fi), .val (.int (4 : Int32)), .val (.ref b1020), .val (.int ix), .val (.ref b1216), .val (.long (fi.toInt64)), .second, .val (.long ((fi.toInt64) + ((4 : Int32).toInt64))), .second, .val (.int (0 : Int32))] [(.int ix), (.ref b1216)]))
          have F1273 : Exa Z T1234.heap b1020 "java/util/ArrayList" := (F1235.keep K1234)
          have F1274 : Fld Z T1234.heap b1020 "java/util/ArrayList" "size" "I" (.int (4 : Int32)) := ((q1145.ext E1216).keep K1234 (ninS ne1224 nin0))
          obtain ⟨cq1272, kq1272, q1272a, q1272b, q1272c⟩ := isOf hZ rfl q1237
          obtain ⟨_, _, ⟨T1272, L1272, k1272, n1272⟩, -, X1272, ⟨Lc1272, hQ1272, l1272, y1272, z1272⟩, st1272⟩ := X1234.virtualBack hx (y := (⟨"com/example/rationed_session/rationedsession/model/Partition", "holds", "(I)Z"⟩ : MethodName)) (z := (⟨"com/example/rationed_session/rationedsession/model/Partition", "holds", "(I)Z"⟩ : MethodName)) hown (mvT hZ (hw _ (List.mem_of_getElem? (i := 121) rfl))) (mvT hZ (hw _ (List.mem_of_getElem? (i := 122) rfl))) (notFace_of_selects (args := #[]) (mvT hZ (hw _ (List.mem_of_getElem? (i := 124) rfl)))) (mvT hZ (hw _ (List.mem_of_getElem? (i := 124) rfl))) (mvT hZ (hw _ (List.mem_of_getElem? (i := 123) rfl))) (by decide) (backOf (W := 0) (own_rm_holdsU l Z a0 hw [] x1236 b1216 b1020 ix fi (4 : Int32) T1234.heap n0 Zs1253 q1240 q1242 q1243 F1273 q1239 F1274) hZ (hw _ (List.mem_of_getElem? (i := 125) rfl)) (hw _ (List.mem_of_getElem? (i := 67) rfl)) (by decide) (by decide)) q1272a q1272c (g := (mkF m 160 #[.val (.int p1), .val (.int p2), .val (.int p3), .val (.int p4), .val (.int p5), .val (.int fi), .val (.int (4 : Int32)), .val (.ref b1020), .val (.int ix), .val (.ref b1216), .val (.long (fi.toInt64)), .second, .val (.long ((fi.toInt64) + ((4 : Int32).toInt64))), .second, .val (.int (0 : Int32))] [(.int ix), (.ref b1216)])) rfl (by rw [hml]; rfl) (Steps.refl _) (argsL := [(.int ix)]) (rest := []) (lenOf own_pd13 rfl) rfl (by show 2 * 0 + _ ≤ _; exact Nat.le_of_eq rfl) (hb hby at_160) (fun _ _ => ⟨rfl, rfl, (by decide : 8 + 0 ≤ _), (by decide : 22 + 0 ≤ _)⟩)
          dsimp only [Pt.U, Pt.locs, Pt.cells, Pt.slots] at X1272 l1272 y1272 z1272 st1272 hQ1272
          subst l1272 y1272 z1272
          obtain ⟨N1272q, rfl, eh1272⟩ := hQ1272
          have N1275 := Fr.app N1245 N1272q
          refine own_tr st1272 ?_
          show own_Go p e below s _ _ _ (T1272.setTop (mkF m 163 #[.val (.int p1), .val (.int p2), .val (.int p3), .val (.int p4), .val (.int p5), .val (.int fi), .val (.int (4 : Int32)), .val (.ref b1020), .val (.int ix), .val (.ref b1216), .val (.long (fi.toInt64)), .second, .val (.long ((fi.toInt64) + ((4 : Int32).toInt64))), .second, .val (.int (0 : Int32))] [(.int (if ix < fi then (0 : Int32) else if ix - fi < (4 : Int32) then 1 else 0))]))
          refine own_st (fun _ kQ => XS.iload X1272.here hx rfl (hb hby at_163) rfl kQ) ?_
          show own_Go p e below s _ _ _ (T1272.setTop (mkF m 165 #[.val (.int p1), .val (.int p2), .val (.int p3), .val (.int p4), .val (.int p5), .val (.int fi), .val (.int (4 : Int32)), .val (.ref b1020), .val (.int ix), .val (.ref b1216), .val (.long (fi.toInt64)), .second, .val (.long ((fi.toInt64) + ((4 : Int32).toInt64))), .second, .val (.int (0 : Int32))] [(.int (0 : Int32)), (.int (if ix < fi then (0 : Int32) else if ix - fi < (4 : Int32) then 1 else 0))]))
          refine own_st (fun _ kQ => XS.icmpNo X1272.here hx rfl (hb hby at_165) rfl (XT.ii_ne_f (by rw [if_neg (fun q => hc1262 ((own_lt64 _ _).mpr q)), if_neg (fun q => hc1267 ((own_hl _ _ (4 : Int32) hfi (by decide) (by decide) (fun q => hc1262 ((own_lt64 _ _).mpr q))).mpr q))])) kQ) ?_
          show own_Go p e below s _ _ _ (T1272.setTop (mkF m 168 #[.val (.int p1), .val (.int p2), .val (.int p3), .val (.int p4), .val (.int p5), .val (.int fi), .val (.int (4 : Int32)), .val (.ref b1020), .val (.int ix), .val (.ref b1216), .val (.long (fi.toInt64)), .second, .val (.long ((fi.toInt64) + ((4 : Int32).toInt64))), .second, .val (.int (0 : Int32))] []))
          refine own_st (fun _ kQ => XT.iconstV X1272.here hx rfl (1 : Int32) (hb hby at_168) (by decide) kQ) ?_
          show own_Go p e below s _ _ _ (T1272.setTop (mkF m 169 #[.val (.int p1), .val (.int p2), .val (.int p3), .val (.int p4), .val (.int p5), .val (.int fi), .val (.int (4 : Int32)), .val (.ref b1020), .val (.int ix), .val (.ref b1216), .val (.long (fi.toInt64)), .second, .val (.long ((fi.toInt64) + ((4 : Int32).toInt64))), .second, .val (.int (0 : Int32))] [(.int (1 : Int32))]))
          refine own_st (fun _ kQ => XS.goto X1272.here hx rfl (pc0 := 169) (pc' := 173) rfl (hb hby at_169) (by decide) (by decide) kQ) ?_
          show own_Go p e below s _ _ _ (T1272.setTop (mkF m 173 #[.val (.int p1), .val (.int p2), .val (.int p3), .val (.int p4), .val (.int p5), .val (.int fi), .val (.int (4 : Int32)), .val (.ref b1020), .val (.int ix), .val (.ref b1216), .val (.long (fi.toInt64)), .second, .val (.long ((fi.toInt64) + ((4 : Int32).toInt64))), .second, .val (.int (0 : Int32))] [(.int (1 : Int32))]))
          refine own_retN X1272 hx hlk Bd.returns (t := .boolean) (z' := (1 : Int32)) (by simp) (by decide) (hb hby at_173) (by decide) (by decide) ?_
          rw [eh1272]
          exact ⟨N1275, rfl⟩
set_option maxRecDepth 65536 in
set_option maxHeartbeats 40000000 in
theorem comes_1 {Post : Tables → Env → Array Value → State → Outcome → State → Prop} (hpost : ∀ tb e args s v u, (limb_1_1.after args s (.returned v) u = true ∧ limb_1_2.after args s (.returned v) u = true ∧ True) → FrameEnd s (.returned v) u (Jvm.fieldLocs frame_1_writes args s ++ Jvm.arrayLocs frame_1_arrays args s ++ Jvm.staticLocs frame_1_statics s) 24 128 → Post tb e args s (.returned v) u) :
    ArmFor flags0 classFile x code maxLocals ret World_1 tables_1 room_1 Calls_1 rest_1 Pre_1 Post := by
  intro l hfl _ _ p e ha hc hk s m args below hf hA hF happ hP
  obtain ⟨hcalls, hrest, hpre⟩ := hP
  obtain ⟨-, -, -, hnamed, -, -, -, hat⟩ := (Spec.applies_iff hf).mp happ
  obtain ⟨hg, hn⟩ := and_e (Cond.before_iff.mp (show (Jvm.Cond.and given_1 narrow_1).before args s = true from hpre))
  obtain ⟨gg0, hg0⟩ := and_e hg
  obtain ⟨gg1, hg1⟩ := and_e hg0
  obtain ⟨gg2, hg2⟩ := and_e hg1
  obtain ⟨gg3, hg3⟩ := and_e hg2
  obtain ⟨gg4, hg4⟩ := and_e hg3
  obtain ⟨w0, w1, w2, w3, w4, rfl⟩ : ∃ w0 w1 w2 w3 w4 : Value, args = #[w0, w1, w2, w3, w4] := by
    have hs : args.size = 5 := by simpa [Cond.value, given_1] using gg0
    obtain ⟨L⟩ := args
    match L, hs with
    | [w0, w1, w2, w3, w4], _ => exact ⟨w0, w1, w2, w3, w4, rfl⟩
  have hw := fun d (hd : d ∈ tables_1) => atoms_spec (ws := Jvm.Cond.code x code maxLocals ret :: tables_1) hat d (List.mem_cons_of_mem _ hd)
  have hfit : Fit s := fun {y c} hc i hi => by
    obtain ⟨ha, rfl⟩ := Array.getElem?_eq_some_iff.mp hc
    have q := List.all_eq_true.mp ((Array.all_eq_true_iff_forall_mem.mp hF) _ (Array.getElem_mem ha)) i (List.mem_range.mpr hi)
    simpa [Array.getElem?_eq_getElem hi] using q
  obtain ⟨i0, ei0⟩ := is_v gg1
  obtain rfl : w0 = (.int i0) := Option.some.inj ei0
  obtain ⟨i1, ei1⟩ := is_v gg2
  obtain rfl : w1 = (.int i1) := Option.some.inj ei1
  obtain ⟨i2, ei2⟩ := is_v gg3
  obtain rfl : w2 = (.int i2) := Option.some.inj ei2
  obtain ⟨i3, ei3⟩ := is_v gg4
  obtain rfl : w3 = (.int i3) := Option.some.inj ei3
  obtain ⟨i4, ei4⟩ := is_v hg4
  obtain rfl : w4 = (.int i4) := Option.some.inj ei4
  have hsets := (atoms_of jdkStatics_1 (rest_1_c_eq ▸ (show rest_1_c.before _ s = true from hrest))).1
  obtain ⟨a_cacheI, e_cacheI⟩ := arr_v (Cond.before_iff.mp (hsets _ (List.mem_of_getElem? (i := 13) rfl)))
  have S_cacheI : Sta s s.heap "java/lang/Integer$IntegerCache" "cache" "[Ljava/lang/Integer;" (.ref a_cacheI) := Sta.start e_cacheI (Or.inr ⟨(hw _ (List.mem_of_getElem? (i := 32) rfl)), (hsets _ (List.mem_of_getElem? (i := 11) rfl))⟩)
  have BxI : own_BoxI s a_cacheI := own_boxI e_cacheI (hsets _ (List.mem_of_getElem? (i := 13) rfl)) (hsets _ (List.mem_of_getElem? (i := 15) rfl)) (hsets _ (List.mem_of_getElem? (i := 16) rfl))
  have S_high : Sta s s.heap "java/lang/Integer$IntegerCache" "high" "I" (.int 127) := Sta.start (own_eqV (Cond.before_iff.mp (hsets _ (List.mem_of_getElem? (i := 12) rfl))) (Term.int_eval _)) (Or.inl (hsets _ (List.mem_of_getElem? (i := 10) rfl)))
  obtain ⟨dflt, e_dflt⟩ := arr_v (Cond.before_iff.mp (hsets _ (List.mem_of_getElem? (i := 6) rfl)))
  have S_es : Sta s s.heap "java/util/ArrayList" "DEFAULTCAPACITY_EMPTY_ELEMENTDATA" "[Ljava/lang/Object;" (.ref dflt) := Sta.start e_dflt (Or.inr ⟨(hw _ (List.mem_of_getElem? (i := 3) rfl)), (hsets _ (List.mem_of_getElem? (i := 2) rfl))⟩)
  obtain ⟨cl_es, A_es⟩ := Arr.start e_dflt (Cond.before_iff.mp (hsets _ (List.mem_of_getElem? (i := 6) rfl)))
  obtain ⟨l_es, z_es⟩ := IntBox.length_fwd (hsets _ (List.mem_of_getElem? (i := 8) rfl)) e_dflt A_es.1 A_es.2.1 A_es.2.2
  have V_es : Arv s s.heap dflt cl_es.cls (.object "java/lang/Object") (0 : Int32) [] .null := Arv.start hfit A_es l_es z_es (by decide) rfl trivial
  obtain ⟨c_M_AL, k_M_AL, mA, x1_M_AL, x2_M_AL, x3_M_AL, x_M_AL, y1_M_AL, y2_M_AL⟩ := hcalls.1
  have M_AL : own_Mi s "java/util/ArrayList" mA := ⟨c_M_AL, k_M_AL, x1_M_AL, x2_M_AL, x3_M_AL⟩
  obtain ⟨c_M_UL, k_M_UL, mL, x1_M_UL, x2_M_UL, x3_M_UL, x_M_UL, y1_M_UL, y2_M_UL⟩ := hcalls.2.1
  have M_UL : own_Mi s "java/util/Collections$UnmodifiableList" mL := ⟨c_M_UL, k_M_UL, x1_M_UL, x2_M_UL, x3_M_UL⟩
  obtain ⟨c_M_UR, k_M_UR, mR, x1_M_UR, x2_M_UR, x3_M_UR, x_M_UR, y1_M_UR, y2_M_UR⟩ := hcalls.2.2.1
  have M_UR : own_Mi s "java/util/Collections$UnmodifiableRandomAccessList" mR := ⟨c_M_UR, k_M_UR, x1_M_UR, x2_M_UR, x3_M_UR⟩
  have N_UL : ¬ mA = mL := own_mne x1_M_AL x1_M_UL (by decide) y1_M_AL y2_M_AL y1_M_UL y2_M_UL
  have N_UR : ¬ mA = mR := own_mne x1_M_AL x1_M_UR (by decide) y1_M_AL y2_M_AL y1_M_UR y2_M_UR
  obtain ⟨n, o, h1, h2, h3, _, L, rfl, ⟨N, rfl⟩, hq⟩ := own_law l s _ hw tables_1 i0 i1 i2 i3 i4 a_cacheI dflt cl_es.cls mA mL mR s.heap s.heap.size (Nat.le_refl _) (Old.start s) S_cacheI BxI S_high S_es V_es M_AL M_UL M_UR N_UL N_UR p e ha hc hk s m _ below hf ((Spec.applies_iff_loose hf).mp happ).1 ⟨rfl, State.Warmed39.refl s, rfl⟩ trivial
  refine ⟨n, _, h1, h2, h3, hpost _ _ _ _ _ _ ⟨Cond.after_iff.mpr rfl, Cond.after_iff.mpr (eq_i res_at (Term.int_eval (1)) rfl), trivial⟩ ⟨hq.1, hq.2.1, (hq.2.2.sift fun y hy => Or.inr (N y hy)).mono (by decide) (by decide)⟩⟩
theorem main_1_1 : Claimed_1_1 := comes_1 fun _ _ _ _ _ _ h hF => ⟨h.1, hF⟩
theorem main_1_2 : Claimed_1_2 := comes_1 fun _ _ _ _ _ _ h hF => ⟨h.2.1, hF⟩
end Jvm.Pilot.@@N@@
namespace Jvm.Pilot.@@N@@
open Jvm Jvm.ClassFile Sem Op Lib Jvm.Free Jvm.Stand Jvm.Pilot.@@N@@.Jvm.D
/-! MADE BY PROGRAM (witnessworld.py) out of the Statement's table words and the real class files: 31 classes; the members and pool entries that the words name. The judged class is class 1, her method 1. -/
namespace start1
open Jvm.ClassFile
def u (s : String) : CpInfo := .utf8 (stringToUtf16 s)
/-- a pool by its gaps: so many unusable entries, then the entry; so many at the end -/
def gap : Nat → List CpInfo → List CpInfo
  | 0, r => r
  | n + 1, r => .unusable :: gap n r
def poolList (es : List (Nat × CpInfo)) (last : Nat) : List CpInfo := es.foldr (fun e r => gap e.1 (e.2 :: r)) (gap last [])
def pool (es : List (Nat × CpInfo)) (last : Nat) : Array CpInfo := ⟨poolList es last⟩
def fileOf (pool : Array CpInfo) (this : Nat) (attrs : Array Attribute := #[]) (ms : Array MethodInfo := #[]) (fl : Nat := 33) (sup : Nat := 0) (ifs : Array Nat := #[]) (fds : Array FieldInfo := #[]) : ClassFile where
  minorVersion := 0
  majorVersion := 65
  constantPool := pool
  accessFlags := fl
  thisClass := this
  superClass := sup
  interfaces := ifs
  fields := fds
  methods := ms
  attributes := attrs
def plain (name : String) (sup : Option ClassId) : Class where
  name := name
  kind := .ordinary
  loader := none
  accessFlags := 33
  super := sup
  interfaces := #[]
  cf := none
  fields := #[]
  methods := #[]
  instanceTypes := #[]
  staticTypes := #[]
  resolved := #[]
  callSites := []
  init := .initialized
  statics := none
  mirror := none

def pool0 : Array CpInfo := pool [(5, u "<init>"), (0, u "()V"), (1, .class_ 10), (1, u "java/lang/Object"), (0, u "getClass"), (0, u "()Ljava/lang/Class;")] 111

def k0c0 : Code := { maxStack := 0, maxLocals := 1, code := object_method_1_code, exceptionTable := #[], attributes := #[] }
def k0m0 : Method := { name := "<init>", desc := "()V", sig := { parameters := [], returnType := none }, accessFlags := 1, code := some k0c0 }
def k0m1 : Method := { name := "getClass", desc := "()Ljava/lang/Class;", sig := { parameters := [], returnType := some (.object "java/lang/Class") }, accessFlags := 273, code := none }
/-- java/lang/Object -/
def k0 : Class := { plain "java/lang/Object" none with
  accessFlags := 33
  interfaces := #[]
  cf := some (fileOf pool0 8 #[] #[{ accessFlags := 1, nameIndex := 5, descriptorIndex := 6, attributes := #[] }, { accessFlags := 273, nameIndex := 11, descriptorIndex := 12, attributes := #[] }] 33 0 #[] #[])
  fields := #[]
  methods := #[k0m0, k0m1]
  instanceTypes := #[]
  staticTypes := #[]
  resolved := Array.replicate 124 none
  statics := none }

def pool1 : Array CpInfo := pool [(2, .class_ 4), (0, .nameAndType 5 6), (0, u "java/lang/Object"), (0, u "<init>"), (0, u "()V"), (0, .integer 2147483647), (0, .class_ 9), (0, u "java/util/ArrayList"), (0, .methodref 8 3), (0, .methodref 12 13), (0, .class_ 14), (0, .nameAndType 15 16), (0, u "java/lang/Integer"), (0, u "valueOf"), (0, u "(I)Ljava/lang/Integer;"), (0, .methodref 8 18), (0, .nameAndType 19 20), (0, u "add"), (0, u "(Ljava/lang/Object;)Z"), (0, .class_ 22), (0, u "com/example/rationed_session/rationedsession/model/Partition"), (0, .methodref 21 24), (0, .nameAndType 5 25), (0, u "(IILjava/util/List;)V"), (0, .methodref 21 27), (0, .nameAndType 28 29), (0, u "holds"), (0, u "(I)Z"), (0, .class_ 31), (0, u "com/example/rationed_session/rationedsession/model/PartitionHoldsPinLaw"), (2, u "law"), (0, u "(IIIII)Z")] 3

def k1m0 : Method := { name := "<init>", desc := "()V", sig := { parameters := [], returnType := none }, accessFlags := 1, code := none }
def k1c1 : Code := { maxStack := 5, maxLocals := 15, code := code, exceptionTable := #[], attributes := #[] }
def k1m1 : Method := { name := "law", desc := "(IIIII)Z", sig := { parameters := [.int, .int, .int, .int, .int], returnType := some .boolean }, accessFlags := 9, code := some k1c1 }
/-- com/example/rationed_session/rationedsession/model/PartitionHoldsPinLaw -/
def k1 : Class := { plain "com/example/rationed_session/rationedsession/model/PartitionHoldsPinLaw" (some 0) with
  accessFlags := 49
  interfaces := #[]
  cf := some (fileOf pool1 30 #[] #[{ accessFlags := 1, nameIndex := 5, descriptorIndex := 6, attributes := #[] }, { accessFlags := 9, nameIndex := 34, descriptorIndex := 35, attributes := #[] }] 49 2 #[] #[])
  fields := #[]
  methods := #[k1m0, k1m1]
  instanceTypes := #[]
  staticTypes := #[]
  resolved := Array.replicate 39 none
  statics := none }

def pool2 : Array CpInfo := pool [(8, .class_ 10), (1, u "java/lang/Iterable"), (24, .class_ 36), (0, u "java/lang/Object")] 25

/-- java/lang/Iterable -/
def k2 : Class := { plain "java/lang/Iterable" (some 0) with
  accessFlags := 1537
  interfaces := #[]
  cf := some (fileOf pool2 8 #[] #[] 1537 35 #[] #[])
  fields := #[]
  methods := #[]
  instanceTypes := #[]
  staticTypes := #[]
  resolved := Array.replicate 62 none
  statics := none }

def pool3 : Array CpInfo := pool [(10, .class_ 12), (1, u "java/util/Collection"), (47, .class_ 61), (0, u "java/lang/Object"), (0, .class_ 63), (0, u "java/lang/Iterable"), (0, u "size"), (0, u "()I")] 49

def k3m0 : Method := { name := "size", desc := "()I", sig := { parameters := [], returnType := some .int }, accessFlags := 1025, code := none }
/-- java/util/Collection -/
def k3 : Class := { plain "java/util/Collection" (some 0) with
  accessFlags := 1537
  interfaces := #[2]
  cf := some (fileOf pool3 10 #[] #[{ accessFlags := 1025, nameIndex := 64, descriptorIndex := 65, attributes := #[] }] 1537 60 #[62] #[])
  fields := #[]
  methods := #[k3m0]
  instanceTypes := #[]
  staticTypes := #[]
  resolved := Array.replicate 115 none
  statics := none }

def pool4 : Array CpInfo := pool [(1, .methodref 2 3), (0, .class_ 4), (0, .nameAndType 5 6), (0, u "java/lang/Object"), (0, u "<init>"), (0, u "()V"), (1, .class_ 10), (1, u "java/util/AbstractCollection"), (66, .class_ 78), (0, u "java/util/Collection")] 81

def k4c0 : Code := { maxStack := 1, maxLocals := 1, code := jdk_22_method_1_code, exceptionTable := #[], attributes := #[] }
def k4m0 : Method := { name := "<init>", desc := "()V", sig := { parameters := [], returnType := none }, accessFlags := 4, code := some k4c0 }
/-- java/util/AbstractCollection -/
def k4 : Class := { plain "java/util/AbstractCollection" (some 0) with
  accessFlags := 1057
  interfaces := #[3]
  cf := some (fileOf pool4 8 #[] #[{ accessFlags := 4, nameIndex := 5, descriptorIndex := 6, attributes := #[] }] 1057 2 #[77] #[])
  fields := #[]
  methods := #[k4m0]
  instanceTypes := #[]
  staticTypes := #[]
  resolved := Array.replicate 160 none
  statics := none }

def pool5 : Array CpInfo := pool [(8, .class_ 10), (1, u "java/util/SequencedCollection"), (15, .class_ 27), (0, u "java/lang/Object"), (0, .class_ 29), (0, u "java/util/Collection")] 27

/-- java/util/SequencedCollection -/
def k5 : Class := { plain "java/util/SequencedCollection" (some 0) with
  accessFlags := 1537
  interfaces := #[3]
  cf := some (fileOf pool5 8 #[] #[] 1537 26 #[28] #[])
  fields := #[]
  methods := #[]
  instanceTypes := #[]
  staticTypes := #[]
  resolved := Array.replicate 57 none
  statics := none }

def pool6 : Array CpInfo := pool [(8, .class_ 10), (1, u "java/util/List"), (68, u "size"), (0, u "()I"), (22, .class_ 104), (0, u "java/lang/Object"), (15, .class_ 121), (0, u "java/util/SequencedCollection")] 129

def k6m0 : Method := { name := "size", desc := "()I", sig := { parameters := [], returnType := some .int }, accessFlags := 1025, code := none }
/-- java/util/List -/
def k6 : Class := { plain "java/util/List" (some 0) with
  accessFlags := 1537
  interfaces := #[5]
  cf := some (fileOf pool6 8 #[] #[{ accessFlags := 1025, nameIndex := 79, descriptorIndex := 80, attributes := #[] }] 1537 103 #[120] #[])
  fields := #[]
  methods := #[k6m0]
  instanceTypes := #[]
  staticTypes := #[]
  resolved := Array.replicate 251 none
  statics := none }

def pool7 : Array CpInfo := pool [(1, .methodref 2 3), (0, .class_ 4), (0, .nameAndType 5 6), (0, u "java/util/AbstractCollection"), (0, u "<init>"), (0, u "()V"), (0, .fieldref 8 9), (0, .class_ 10), (0, .nameAndType 11 12), (0, u "java/util/AbstractList"), (0, u "modCount"), (0, u "I"), (64, .class_ 78), (0, u "java/util/AbstractList$Itr"), (3, .class_ 83), (0, u "java/util/AbstractList$ListItr"), (9, .class_ 94), (0, u "java/util/AbstractList$RandomAccessSubList"), (3, .class_ 99), (0, u "java/util/AbstractList$SubList"), (33, .class_ 134), (0, u "java/util/List"), (73, .class_ 209), (0, u "java/util/AbstractList$SubList$1"), (0, .class_ 211), (0, u "java/util/AbstractList$RandomAccessSpliterator")] 6

def k7c0 : Code := { maxStack := 2, maxLocals := 1, code := jdk_39_method_1_code, exceptionTable := #[], attributes := #[] }
def k7m0 : Method := { name := "<init>", desc := "()V", sig := { parameters := [], returnType := none }, accessFlags := 4, code := some k7c0 }
/-- java/util/AbstractList -/
def k7 : Class := { plain "java/util/AbstractList" (some 4) with
  accessFlags := 1057
  interfaces := #[6]
  cf := some (fileOf pool7 8 #[.nestMembers #[93, 98, 208, 210, 82, 77]] #[{ accessFlags := 4, nameIndex := 5, descriptorIndex := 6, attributes := #[] }] 1057 2 #[133] #[{ accessFlags := 132, nameIndex := 11, descriptorIndex := 12, attributes := #[] }])
  fields := #[{ name := "modCount", type := .int, accessFlags := 132, slot := 0, constantValue := 0 }]
  methods := #[k7m0]
  instanceTypes := #[.int]
  staticTypes := #[]
  resolved := Array.replicate 218 none
  statics := none }

def pool8 : Array CpInfo := pool [(1, .class_ 2), (0, u "java/util/RandomAccess"), (0, .class_ 4), (0, u "java/lang/Object")] 2

/-- java/util/RandomAccess -/
def k8 : Class := { plain "java/util/RandomAccess" (some 0) with
  accessFlags := 1537
  interfaces := #[]
  cf := some (fileOf pool8 1 #[] #[] 1537 3 #[] #[])
  fields := #[]
  methods := #[]
  instanceTypes := #[]
  staticTypes := #[]
  resolved := Array.replicate 7 none
  statics := none }

def pool9 : Array CpInfo := pool [(1, .class_ 2), (0, u "java/lang/Cloneable"), (0, .class_ 4), (0, u "java/lang/Object")] 2

/-- java/lang/Cloneable -/
def k9 : Class := { plain "java/lang/Cloneable" (some 0) with
  accessFlags := 1537
  interfaces := #[]
  cf := some (fileOf pool9 1 #[] #[] 1537 3 #[] #[])
  fields := #[]
  methods := #[]
  instanceTypes := #[]
  staticTypes := #[]
  resolved := Array.replicate 7 none
  statics := none }

def pool10 : Array CpInfo := pool [(1, .class_ 2), (0, u "java/io/Serializable"), (0, .class_ 4), (0, u "java/lang/Object")] 2

/-- java/io/Serializable -/
def k10 : Class := { plain "java/io/Serializable" (some 0) with
  accessFlags := 1537
  interfaces := #[]
  cf := some (fileOf pool10 1 #[] #[] 1537 3 #[] #[])
  fields := #[]
  methods := #[]
  instanceTypes := #[]
  staticTypes := #[]
  resolved := Array.replicate 7 none
  statics := none }

def pool11 : Array CpInfo := pool [(1, .methodref 2 3), (0, .class_ 4), (0, .nameAndType 5 6), (0, u "java/util/AbstractList"), (0, u "<init>"), (0, u "()V"), (0, .class_ 8), (0, u "java/lang/Object"), (0, .fieldref 10 11), (0, .class_ 12), (0, .nameAndType 13 14), (0, u "java/util/ArrayList"), (0, u "elementData"), (0, u "[Ljava/lang/Object;"), (2, u "EMPTY_ELEMENTDATA"), (21, .fieldref 10 40), (0, .nameAndType 41 14), (0, u "DEFAULTCAPACITY_EMPTY_ELEMENTDATA"), (5, u "()[Ljava/lang/Object;"), (0, .fieldref 10 49), (0, .nameAndType 50 51), (0, u "size"), (0, u "I"), (11, .fieldref 10 64), (0, .nameAndType 65 51), (0, u "modCount"), (3, .methodref 10 70), (0, .nameAndType 71 72), (0, u "grow"), (0, u "(I)[Ljava/lang/Object;"), (6, .methodref 80 81), (0, .class_ 82), (0, .nameAndType 83 84), (0, u "java/lang/Math"), (0, u "max"), (0, u "(II)I"), (11, u "(Ljava/lang/Object;)Z"), (32, .methodref 10 130), (0, .nameAndType 71 47), (0, .methodref 10 132), (0, .nameAndType 133 134), (0, u "add"), (0, u "(Ljava/lang/Object;[Ljava/lang/Object;I)V"), (13, .class_ 149), (0, u "java/util/List"), (36, u "()I"), (75, .class_ 263), (0, u "java/util/ArrayList$ListItr"), (3, .class_ 268), (0, u "java/util/ArrayList$Itr"), (7, .class_ 277), (0, u "java/util/ArrayList$SubList"), (12, .class_ 291), (0, u "java/util/ArrayList$ArrayListSpliterator"), (37, .class_ 330), (0, u "java/util/RandomAccess"), (0, .class_ 332), (0, u "java/lang/Cloneable"), (0, .class_ 334), (0, u "java/io/Serializable"), (0, u "serialVersionUID"), (0, u "J"), (3, u "DEFAULT_CAPACITY"), (159, .class_ 501), (0, u "java/util/ArrayList$SubList$2"), (0, .class_ 503), (0, u "java/util/ArrayList$SubList$1")] 5

def k11c0 : Code := { maxStack := 2, maxLocals := 1, code := jdk_38_method_2_code, exceptionTable := #[], attributes := #[] }
def k11m0 : Method := { name := "<init>", desc := "()V", sig := { parameters := [], returnType := none }, accessFlags := 1, code := some k11c0 }
def k11c1 : Code := { maxStack := 4, maxLocals := 4, code := jdk_38_method_6_code, exceptionTable := #[], attributes := #[] }
def k11m1 : Method := { name := "grow", desc := "(I)[Ljava/lang/Object;", sig := { parameters := [.int], returnType := some (.array (.object "java/lang/Object")) }, accessFlags := 2, code := some k11c1 }
def k11c2 : Code := { maxStack := 3, maxLocals := 1, code := jdk_38_method_7_code, exceptionTable := #[], attributes := #[] }
def k11m2 : Method := { name := "grow", desc := "()[Ljava/lang/Object;", sig := { parameters := [], returnType := some (.array (.object "java/lang/Object")) }, accessFlags := 2, code := some k11c2 }
def k11c3 : Code := { maxStack := 1, maxLocals := 1, code := jdk_38_method_8_code, exceptionTable := #[], attributes := #[] }
def k11m3 : Method := { name := "size", desc := "()I", sig := { parameters := [], returnType := some .int }, accessFlags := 1, code := some k11c3 }
def k11c4 : Code := { maxStack := 3, maxLocals := 4, code := jdk_38_method_24_code, exceptionTable := #[], attributes := #[] }
def k11m4 : Method := { name := "add", desc := "(Ljava/lang/Object;[Ljava/lang/Object;I)V", sig := { parameters := [(.object "java/lang/Object"), (.array (.object "java/lang/Object")), .int], returnType := none }, accessFlags := 2, code := some k11c4 }
def k11c5 : Code := { maxStack := 4, maxLocals := 2, code := jdk_38_method_25_code, exceptionTable := #[], attributes := #[] }
def k11m5 : Method := { name := "add", desc := "(Ljava/lang/Object;)Z", sig := { parameters := [(.object "java/lang/Object")], returnType := some .boolean }, accessFlags := 1, code := some k11c5 }
/-- java/util/ArrayList -/
def k11 : Class := { plain "java/util/ArrayList" (some 7) with
  accessFlags := 33
  interfaces := #[6, 8, 9, 10]
  cf := some (fileOf pool11 10 #[.nestMembers #[290, 276, 500, 502, 262, 267]] #[{ accessFlags := 1, nameIndex := 5, descriptorIndex := 6, attributes := #[] }, { accessFlags := 2, nameIndex := 71, descriptorIndex := 72, attributes := #[] }, { accessFlags := 2, nameIndex := 71, descriptorIndex := 47, attributes := #[] }, { accessFlags := 1, nameIndex := 50, descriptorIndex := 186, attributes := #[] }, { accessFlags := 2, nameIndex := 133, descriptorIndex := 134, attributes := #[] }, { accessFlags := 1, nameIndex := 133, descriptorIndex := 96, attributes := #[] }] 33 2 #[148, 329, 331, 333] #[{ accessFlags := 26, nameIndex := 335, descriptorIndex := 336, attributes := #[] }, { accessFlags := 26, nameIndex := 340, descriptorIndex := 51, attributes := #[] }, { accessFlags := 26, nameIndex := 17, descriptorIndex := 14, attributes := #[] }, { accessFlags := 26, nameIndex := 41, descriptorIndex := 14, attributes := #[] }, { accessFlags := 128, nameIndex := 13, descriptorIndex := 14, attributes := #[] }, { accessFlags := 2, nameIndex := 50, descriptorIndex := 51, attributes := #[] }])
  fields := #[{ name := "serialVersionUID", type := .long, accessFlags := 26, slot := 0, constantValue := 0 }, { name := "DEFAULT_CAPACITY", type := .int, accessFlags := 26, slot := 1, constantValue := 0 }, { name := "EMPTY_ELEMENTDATA", type := (.array (.object "java/lang/Object")), accessFlags := 26, slot := 2, constantValue := 0 }, { name := "DEFAULTCAPACITY_EMPTY_ELEMENTDATA", type := (.array (.object "java/lang/Object")), accessFlags := 26, slot := 3, constantValue := 0 }, { name := "elementData", type := (.array (.object "java/lang/Object")), accessFlags := 128, slot := 1, constantValue := 0 }, { name := "size", type := .int, accessFlags := 2, slot := 2, constantValue := 0 }]
  methods := #[k11m0, k11m1, k11m2, k11m3, k11m4, k11m5]
  instanceTypes := #[.int, (.array (.object "java/lang/Object")), .int]
  staticTypes := #[.long, .int, (.array (.object "java/lang/Object")), (.array (.object "java/lang/Object"))]
  resolved := Array.replicate 509 none
  mirror := some 2
  statics := some 0 }

def pool12 : Array CpInfo := pool [(1, .methodref 2 3), (0, .class_ 4), (0, .nameAndType 5 6), (0, u "java/lang/Object"), (0, u "<init>"), (0, u "()V"), (1, .class_ 10), (1, u "java/lang/Number"), (2, .class_ 14), (0, u "java/io/Serializable"), (0, u "serialVersionUID"), (0, u "J")] 20

def k12c0 : Code := { maxStack := 1, maxLocals := 1, code := jdk_18_method_1_code, exceptionTable := #[], attributes := #[] }
def k12m0 : Method := { name := "<init>", desc := "()V", sig := { parameters := [], returnType := none }, accessFlags := 1, code := some k12c0 }
/-- java/lang/Number -/
def k12 : Class := { plain "java/lang/Number" (some 0) with
  accessFlags := 1057
  interfaces := #[10]
  cf := some (fileOf pool12 8 #[] #[{ accessFlags := 1, nameIndex := 5, descriptorIndex := 6, attributes := #[] }] 1057 2 #[13] #[{ accessFlags := 26, nameIndex := 15, descriptorIndex := 16, attributes := #[] }])
  fields := #[{ name := "serialVersionUID", type := .long, accessFlags := 26, slot := 0, constantValue := 0 }]
  methods := #[k12m0]
  instanceTypes := #[]
  staticTypes := #[.long]
  resolved := Array.replicate 37 none
  statics := none }

def pool13 : Array CpInfo := pool [(1, .class_ 2), (0, u "java/lang/Comparable"), (0, .class_ 4), (0, u "java/lang/Object")] 7

/-- java/lang/Comparable -/
def k13 : Class := { plain "java/lang/Comparable" (some 0) with
  accessFlags := 1537
  interfaces := #[]
  cf := some (fileOf pool13 1 #[] #[] 1537 3 #[] #[])
  fields := #[]
  methods := #[]
  instanceTypes := #[]
  staticTypes := #[]
  resolved := Array.replicate 12 none
  statics := none }

def pool14 : Array CpInfo := pool [(1, .class_ 2), (0, u "java/lang/constant/Constable"), (0, .class_ 4), (0, u "java/lang/Object")] 6

/-- java/lang/constant/Constable -/
def k14 : Class := { plain "java/lang/constant/Constable" (some 0) with
  accessFlags := 1537
  interfaces := #[]
  cf := some (fileOf pool14 1 #[] #[] 1537 3 #[] #[])
  fields := #[]
  methods := #[]
  instanceTypes := #[]
  staticTypes := #[]
  resolved := Array.replicate 11 none
  statics := none }

def pool15 : Array CpInfo := pool [(1, .class_ 2), (0, u "java/lang/constant/ConstantDesc"), (0, .class_ 4), (0, u "java/lang/Object")] 32

/-- java/lang/constant/ConstantDesc -/
def k15 : Class := { plain "java/lang/constant/ConstantDesc" (some 0) with
  accessFlags := 1537
  interfaces := #[]
  cf := some (fileOf pool15 1 #[] #[] 1537 3 #[] #[])
  fields := #[]
  methods := #[]
  instanceTypes := #[]
  staticTypes := #[]
  resolved := Array.replicate 37 none
  statics := none }

def pool16 : Array CpInfo := pool [(1, .class_ 2), (0, u "java/lang/Integer"), (16, u "digits"), (0, u "[C"), (46, u "<init>"), (17, u "DigitOnes"), (0, u "[B"), (2, u "DigitTens"), (10, .nameAndType 67 101), (0, u "()V"), (85, u "valueOf"), (0, u "(I)Ljava/lang/Integer;"), (0, .class_ 190), (0, u "java/lang/Integer$IntegerCache"), (0, .fieldref 189 192), (0, .nameAndType 193 194), (0, u "high"), (0, u "I"), (0, .fieldref 189 196), (0, .nameAndType 197 198), (0, u "cache"), (0, u "[Ljava/lang/Integer;"), (0, .methodref 1 200), (0, .nameAndType 67 201), (0, u "(I)V"), (0, .methodref 203 100), (0, .class_ 204), (0, u "java/lang/Number"), (0, .fieldref 1 206), (0, .nameAndType 207 194), (0, u "value"), (94, u "TYPE"), (0, u "Ljava/lang/Class;"), (0, .class_ 305), (0, u "java/lang/Comparable"), (0, .class_ 307), (0, u "java/lang/constant/Constable"), (0, .class_ 309), (0, u "java/lang/constant/ConstantDesc"), (0, u "MIN_VALUE"), (1, u "MAX_VALUE"), (3, u "SIZE"), (1, u "BYTES"), (1, u "serialVersionUID"), (0, u "J")] 131

def k16c0 : Code := { maxStack := 3, maxLocals := 1, code := jdk_33_method_22_code, exceptionTable := #[], attributes := #[] }
def k16m0 : Method := { name := "valueOf", desc := "(I)Ljava/lang/Integer;", sig := { parameters := [.int], returnType := some (.object "java/lang/Integer") }, accessFlags := 9, code := some k16c0 }
def k16c1 : Code := { maxStack := 2, maxLocals := 2, code := jdk_33_method_23_code, exceptionTable := #[], attributes := #[] }
def k16m1 : Method := { name := "<init>", desc := "(I)V", sig := { parameters := [.int], returnType := none }, accessFlags := 1, code := some k16c1 }
/-- java/lang/Integer -/
def k16 : Class := { plain "java/lang/Integer" (some 12) with
  accessFlags := 49
  interfaces := #[13, 14, 15]
  cf := some (fileOf pool16 1 #[.nestMembers #[189]] #[{ accessFlags := 9, nameIndex := 187, descriptorIndex := 188, attributes := #[] }, { accessFlags := 1, nameIndex := 67, descriptorIndex := 201, attributes := #[] }] 49 203 #[304, 306, 308] #[{ accessFlags := 25, nameIndex := 310, descriptorIndex := 194, attributes := #[] }, { accessFlags := 25, nameIndex := 312, descriptorIndex := 194, attributes := #[] }, { accessFlags := 25, nameIndex := 302, descriptorIndex := 303, attributes := #[] }, { accessFlags := 24, nameIndex := 19, descriptorIndex := 20, attributes := #[] }, { accessFlags := 24, nameIndex := 89, descriptorIndex := 86, attributes := #[] }, { accessFlags := 24, nameIndex := 85, descriptorIndex := 86, attributes := #[] }, { accessFlags := 18, nameIndex := 207, descriptorIndex := 194, attributes := #[] }, { accessFlags := 25, nameIndex := 316, descriptorIndex := 194, attributes := #[] }, { accessFlags := 25, nameIndex := 318, descriptorIndex := 194, attributes := #[] }, { accessFlags := 26, nameIndex := 320, descriptorIndex := 321, attributes := #[] }])
  fields := #[{ name := "MIN_VALUE", type := .int, accessFlags := 25, slot := 0, constantValue := 0 }, { name := "MAX_VALUE", type := .int, accessFlags := 25, slot := 1, constantValue := 0 }, { name := "TYPE", type := (.object "java/lang/Class"), accessFlags := 25, slot := 2, constantValue := 0 }, { name := "digits", type := (.array .char), accessFlags := 24, slot := 3, constantValue := 0 }, { name := "DigitTens", type := (.array .byte), accessFlags := 24, slot := 4, constantValue := 0 }, { name := "DigitOnes", type := (.array .byte), accessFlags := 24, slot := 5, constantValue := 0 }, { name := "value", type := .int, accessFlags := 18, slot := 0, constantValue := 0 }, { name := "SIZE", type := .int, accessFlags := 25, slot := 6, constantValue := 0 }, { name := "BYTES", type := .int, accessFlags := 25, slot := 7, constantValue := 0 }, { name := "serialVersionUID", type := .long, accessFlags := 26, slot := 8, constantValue := 0 }]
  methods := #[k16m0, k16m1]
  instanceTypes := #[.int]
  staticTypes := #[.int, .int, (.object "java/lang/Class"), (.array .char), (.array .byte), (.array .byte), .int, .int, .long]
  resolved := Array.replicate 453 none
  statics := none }

def pool17 : Array CpInfo := pool [(2, .class_ 4), (1, u "java/lang/Object"), (0, u "<init>"), (0, u "()V"), (0, .class_ 8), (0, u "java/lang/Integer"), (7, .class_ 18), (1, u "java/lang/Integer$IntegerCache"), (0, u "$assertionsDisabled"), (0, u "Z"), (26, u "high"), (0, u "I"), (8, u "archivedCache"), (0, u "[Ljava/lang/Integer;"), (12, u "cache"), (0, u "low")] 27

def k17m0 : Method := { name := "<init>", desc := "()V", sig := { parameters := [], returnType := none }, accessFlags := 2, code := none }
/-- java/lang/Integer$IntegerCache -/
def k17 : Class := { plain "java/lang/Integer$IntegerCache" (some 0) with
  accessFlags := 48
  interfaces := #[]
  cf := some (fileOf pool17 16 #[.nestHost 7] #[{ accessFlags := 2, nameIndex := 5, descriptorIndex := 6, attributes := #[] }] 48 2 #[] #[{ accessFlags := 24, nameIndex := 72, descriptorIndex := 48, attributes := #[] }, { accessFlags := 24, nameIndex := 47, descriptorIndex := 48, attributes := #[] }, { accessFlags := 24, nameIndex := 71, descriptorIndex := 58, attributes := #[] }, { accessFlags := 8, nameIndex := 57, descriptorIndex := 58, attributes := #[] }, { accessFlags := 4120, nameIndex := 19, descriptorIndex := 20, attributes := #[] }])
  fields := #[{ name := "low", type := .int, accessFlags := 24, slot := 0, constantValue := 0 }, { name := "high", type := .int, accessFlags := 24, slot := 1, constantValue := 0 }, { name := "cache", type := (.array (.object "java/lang/Integer")), accessFlags := 24, slot := 2, constantValue := 0 }, { name := "archivedCache", type := (.array (.object "java/lang/Integer")), accessFlags := 8, slot := 3, constantValue := 0 }, { name := "$assertionsDisabled", type := .boolean, accessFlags := 4120, slot := 4, constantValue := 0 }]
  methods := #[k17m0]
  instanceTypes := #[]
  staticTypes := #[.int, .int, (.array (.object "java/lang/Integer")), (.array (.object "java/lang/Integer")), .boolean]
  resolved := Array.replicate 100 none
  statics := some 1 }

def pool18 : Array CpInfo := pool [(1, .class_ 2), (0, u "java/lang/Math"), (1, .class_ 6), (1, u "java/lang/Object"), (0, u "<init>"), (0, u "()V"), (89, .class_ 100), (1, u "java/lang/Math$RandomNumberGeneratorHolder"), (71, u "negativeZeroFloatBits"), (0, u "J"), (2, u "negativeZeroDoubleBits"), (21, u "max"), (46, u "$assertionsDisabled"), (0, u "Z"), (88, u "(II)I"), (2, u "twoToTheDoubleScaleDown"), (0, u "D"), (4, u "twoToTheDoubleScaleUp"), (9, u "E"), (3, u "PI"), (2, u "TAU"), (2, u "DEGREES_TO_RADIANS"), (0, u "RADIANS_TO_DEGREES")] 94

def k18m0 : Method := { name := "<init>", desc := "()V", sig := { parameters := [], returnType := none }, accessFlags := 2, code := none }
def k18c1 : Code := { maxStack := 2, maxLocals := 2, code := jdk_29_method_65_code, exceptionTable := #[], attributes := #[] }
def k18m1 : Method := { name := "max", desc := "(II)I", sig := { parameters := [.int, .int], returnType := some .int }, accessFlags := 9, code := some k18c1 }
/-- java/lang/Math -/
def k18 : Class := { plain "java/lang/Math" (some 0) with
  accessFlags := 49
  interfaces := #[]
  cf := some (fileOf pool18 1 #[.nestMembers #[98]] #[{ accessFlags := 2, nameIndex := 7, descriptorIndex := 8, attributes := #[] }, { accessFlags := 9, nameIndex := 198, descriptorIndex := 335, attributes := #[] }] 49 4 #[] #[{ accessFlags := 25, nameIndex := 354, descriptorIndex := 339, attributes := #[] }, { accessFlags := 25, nameIndex := 358, descriptorIndex := 339, attributes := #[] }, { accessFlags := 25, nameIndex := 361, descriptorIndex := 339, attributes := #[] }, { accessFlags := 26, nameIndex := 364, descriptorIndex := 339, attributes := #[] }, { accessFlags := 26, nameIndex := 365, descriptorIndex := 339, attributes := #[] }, { accessFlags := 26, nameIndex := 172, descriptorIndex := 173, attributes := #[] }, { accessFlags := 26, nameIndex := 176, descriptorIndex := 173, attributes := #[] }, { accessFlags := 8, nameIndex := 344, descriptorIndex := 339, attributes := #[] }, { accessFlags := 8, nameIndex := 338, descriptorIndex := 339, attributes := #[] }, { accessFlags := 4120, nameIndex := 245, descriptorIndex := 246, attributes := #[] }])
  fields := #[{ name := "E", type := .double, accessFlags := 25, slot := 0, constantValue := 0 }, { name := "PI", type := .double, accessFlags := 25, slot := 1, constantValue := 0 }, { name := "TAU", type := .double, accessFlags := 25, slot := 2, constantValue := 0 }, { name := "DEGREES_TO_RADIANS", type := .double, accessFlags := 26, slot := 3, constantValue := 0 }, { name := "RADIANS_TO_DEGREES", type := .double, accessFlags := 26, slot := 4, constantValue := 0 }, { name := "negativeZeroFloatBits", type := .long, accessFlags := 26, slot := 5, constantValue := 0 }, { name := "negativeZeroDoubleBits", type := .long, accessFlags := 26, slot := 6, constantValue := 0 }, { name := "twoToTheDoubleScaleUp", type := .double, accessFlags := 8, slot := 7, constantValue := 0 }, { name := "twoToTheDoubleScaleDown", type := .double, accessFlags := 8, slot := 8, constantValue := 0 }, { name := "$assertionsDisabled", type := .boolean, accessFlags := 4120, slot := 9, constantValue := 0 }]
  methods := #[k18m0, k18m1]
  instanceTypes := #[]
  staticTypes := #[.double, .double, .double, .double, .double, .long, .long, .double, .double, .boolean]
  resolved := Array.replicate 460 none
  statics := none }

def pool19 : Array CpInfo := pool [(1, .methodref 2 3), (0, .class_ 4), (0, .nameAndType 5 6), (0, u "java/lang/Object"), (0, u "<init>"), (0, u "()V"), (0, .fieldref 8 9), (0, .class_ 10), (0, .nameAndType 11 12), (0, u "com/example/rationed_session/rationedsession/model/Partition"), (0, u "number"), (0, u "I"), (0, .fieldref 8 14), (0, .nameAndType 15 12), (0, u "firstIndex"), (0, .methodref 17 18), (0, .class_ 19), (0, .nameAndType 20 21), (0, u "java/util/Collections"), (0, u "unmodifiableList"), (0, u "(Ljava/util/List;)Ljava/util/List;"), (0, .fieldref 8 23), (0, .nameAndType 24 25), (0, u "inputs"), (0, u "Ljava/util/List;"), (0, .interfaceMethodref 27 28), (0, .class_ 29), (0, .nameAndType 30 31), (0, u "java/util/List"), (0, u "size"), (0, u "()I"), (27, u "(IILjava/util/List;)V"), (3, u "holds"), (0, u "(I)Z")] 9

def k19c0 : Code := { maxStack := 2, maxLocals := 4, code := prog_6_method_1_code, exceptionTable := #[], attributes := #[] }
def k19m0 : Method := { name := "<init>", desc := "(IILjava/util/List;)V", sig := { parameters := [.int, .int, (.object "java/util/List")], returnType := none }, accessFlags := 0, code := some k19c0 }
def k19c1 : Code := { maxStack := 2, maxLocals := 2, code := prog_6_method_4_code, exceptionTable := #[], attributes := #[] }
def k19m1 : Method := { name := "holds", desc := "(I)Z", sig := { parameters := [.int], returnType := some .boolean }, accessFlags := 1, code := some k19c1 }
/-- com/example/rationed_session/rationedsession/model/Partition -/
def k19 : Class := { plain "com/example/rationed_session/rationedsession/model/Partition" (some 0) with
  accessFlags := 49
  interfaces := #[]
  cf := some (fileOf pool19 8 #[] #[{ accessFlags := 0, nameIndex := 5, descriptorIndex := 59, attributes := #[] }, { accessFlags := 1, nameIndex := 63, descriptorIndex := 64, attributes := #[] }] 49 2 #[] #[{ accessFlags := 18, nameIndex := 11, descriptorIndex := 12, attributes := #[] }, { accessFlags := 18, nameIndex := 15, descriptorIndex := 12, attributes := #[] }, { accessFlags := 18, nameIndex := 24, descriptorIndex := 25, attributes := #[] }])
  fields := #[{ name := "number", type := .int, accessFlags := 18, slot := 0, constantValue := 0 }, { name := "firstIndex", type := .int, accessFlags := 18, slot := 1, constantValue := 0 }, { name := "inputs", type := (.object "java/util/List"), accessFlags := 18, slot := 2, constantValue := 0 }]
  methods := #[k19m0, k19m1]
  instanceTypes := #[.int, .int, (.object "java/util/List")]
  staticTypes := #[]
  resolved := Array.replicate 74 none
  statics := none }

def pool20 : Array CpInfo := pool [(2, .class_ 4), (1, u "java/lang/Object"), (0, u "<init>"), (0, u "()V"), (1, .class_ 10), (1, u "java/util/List"), (2, .class_ 14), (0, u "java/util/RandomAccess"), (4, .class_ 20), (0, u "java/util/Collections"), (63, u "r"), (0, u "Ljava/util/Random;"), (67, u "(Ljava/util/List;)V"), (9, .nameAndType 164 165), (0, u "getClass"), (0, u "()Ljava/lang/Class;"), (0, .class_ 167), (0, u "java/util/Collections$UnmodifiableCollection"), (6, .class_ 175), (0, u "java/util/Collections$UnmodifiableSequencedCollection"), (6, .class_ 183), (0, u "java/util/Collections$UnmodifiableSet"), (6, .class_ 191), (0, u "java/util/Collections$UnmodifiableSequencedSet"), (6, .class_ 199), (0, u "java/util/Collections$UnmodifiableSortedSet"), (6, .class_ 207), (0, u "java/util/Collections$UnmodifiableNavigableSet"), (3, .interfaceMethodref 8 163), (0, .class_ 213), (0, u "java/util/Collections$UnmodifiableList"), (0, .interfaceMethodref 8 163), (0, .class_ 216), (0, u "java/util/Collections$UnmodifiableRandomAccessList"), (0, .methodref 215 218), (0, .nameAndType 5 153), (4, .class_ 224), (0, u "java/util/Collections$UnmodifiableMap"), (6, .class_ 232), (0, u "java/util/Collections$UnmodifiableSequencedMap"), (4, .class_ 238), (0, u "java/util/Collections$UnmodifiableSortedMap"), (6, .class_ 246), (0, u "java/util/Collections$UnmodifiableNavigableMap"), (3, .class_ 251), (0, u "java/util/Collections$SynchronizedCollection"), (4, .class_ 257), (0, u "java/util/Collections$SynchronizedSet"), (4, .class_ 263), (0, u "java/util/Collections$SynchronizedSortedSet"), (1, .class_ 266), (0, u "java/util/Collections$SynchronizedNavigableSet"), (1, .class_ 269), (0, u "java/util/Collections$SynchronizedRandomAccessList"), (1, .class_ 272), (0, u "java/util/Collections$SynchronizedList"), (5, .class_ 279), (0, u "java/util/Collections$SynchronizedMap"), (1, .class_ 282), (0, u "java/util/Collections$SynchronizedSortedMap"), (1, .class_ 285), (0, u "java/util/Collections$SynchronizedNavigableMap"), (1, .class_ 288), (0, u "java/util/Collections$CheckedCollection"), (11, .class_ 301), (0, u "java/util/Collections$CheckedQueue"), (3, .class_ 306), (0, u "java/util/Collections$CheckedSet"), (3, .class_ 311), (0, u "java/util/Collections$CheckedSortedSet"), (3, .class_ 316), (0, u "java/util/Collections$CheckedNavigableSet"), (3, .class_ 321), (0, u "java/util/Collections$CheckedRandomAccessList"), (3, .class_ 326), (0, u "java/util/Collections$CheckedList"), (1, .class_ 329), (0, u "java/util/Collections$CheckedMap"), (3, .class_ 334), (0, u "java/util/Collections$CheckedSortedMap"), (3, .class_ 339), (0, u "java/util/Collections$CheckedNavigableMap"), (4, .class_ 346), (1, u "java/util/Collections$EmptyIterator"), (3, .class_ 352), (1, u "java/util/Collections$EmptyListIterator"), (2, .class_ 357), (1, u "java/util/Collections$EmptyEnumeration"), (4, u "EMPTY_SET"), (0, u "Ljava/util/Set;"), (6, u "EMPTY_LIST"), (0, u "Ljava/util/List;"), (2, u "EMPTY_MAP"), (0, u "Ljava/util/Map;"), (4, .class_ 381), (0, u "java/util/Collections$SingletonSet"), (2, .class_ 385), (0, u "java/util/Collections$1"), (1, .class_ 388), (0, u "java/util/Collections$2"), (1, .class_ 391), (0, u "java/util/Collections$SingletonList"), (1, .class_ 394), (0, u "java/util/Collections$SingletonMap"), (22, .class_ 418), (0, u "java/util/Collections$CopiesList"), (4, .class_ 425), (1, u "java/util/Collections$ReverseComparator"), (8, .class_ 435), (0, u "java/util/Collections$ReverseComparator2"), (6, .class_ 443), (0, u "java/util/Collections$3"), (25, .class_ 470), (0, u "java/util/Collections$SetFromMap"), (2, .class_ 474), (0, u "java/util/Collections$SequencedSetFromMap"), (3, .class_ 479), (0, u "java/util/Collections$AsLIFOQueue"), (11, .class_ 492), (0, u "java/util/Collections$EmptySet"), (1, .class_ 495), (0, u "java/util/Collections$EmptyList"), (1, .class_ 498), (0, u "java/util/Collections$EmptyMap"), (1, u "BINARYSEARCH_THRESHOLD"), (0, u "I"), (2, u "REVERSE_THRESHOLD"), (1, u "SHUFFLE_THRESHOLD"), (1, u "FILL_THRESHOLD"), (1, u "ROTATE_THRESHOLD"), (1, u "COPY_THRESHOLD"), (1, u "REPLACEALL_THRESHOLD"), (1, u "INDEXOFSUBLIST_THRESHOLD"), (129, u "unmodifiableList"), (0, u "(Ljava/util/List;)Ljava/util/List;"), (202, .class_ 851), (0, u "java/util/Collections$CheckedMap$CheckedEntrySet"), (0, .class_ 853), (0, u "java/util/Collections$CheckedMap$CheckedEntrySet$CheckedEntry"), (0, .class_ 855), (0, u "java/util/Collections$CheckedMap$CheckedEntrySet$1"), (0, .class_ 857), (0, u "java/util/Collections$CheckedList$1"), (0, .class_ 859), (0, u "java/util/Collections$CheckedCollection$1"), (0, .class_ 861), (0, u "java/util/Collections$UnmodifiableNavigableMap$EmptyNavigableMap"), (0, .class_ 863), (0, u "java/util/Collections$UnmodifiableMap$UnmodifiableEntrySet"), (0, .class_ 865), (0, u "java/util/Collections$UnmodifiableMap$UnmodifiableEntrySet$UnmodifiableEntry"), (0, .class_ 867), (0, u "java/util/Collections$UnmodifiableMap$UnmodifiableEntrySet$UnmodifiableEntrySetSpliterator"), (0, .class_ 869), (0, u "java/util/Collections$UnmodifiableMap$UnmodifiableEntrySet$1"), (0, .class_ 871), (0, u "java/util/Collections$UnmodifiableList$1"), (0, .class_ 873), (0, u "java/util/Collections$UnmodifiableNavigableSet$EmptyNavigableSet"), (0, .class_ 875), (0, u "java/util/Collections$UnmodifiableCollection$1")] 57

def k20m0 : Method := { name := "<init>", desc := "()V", sig := { parameters := [], returnType := none }, accessFlags := 2, code := none }
def k20c1 : Code := { maxStack := 3, maxLocals := 1, code := jdk_79_method_35_code, exceptionTable := #[], attributes := #[] }
def k20m1 : Method := { name := "unmodifiableList", desc := "(Ljava/util/List;)Ljava/util/List;", sig := { parameters := [(.object "java/util/List")], returnType := some (.object "java/util/List") }, accessFlags := 9, code := some k20c1 }
/-- java/util/Collections -/
def k20 : Class := { plain "java/util/Collections" (some 0) with
  accessFlags := 33
  interfaces := #[]
  cf := some (fileOf pool20 19 #[.nestMembers #[478, 473, 469, 434, 423, 417, 393, 390, 380, 497, 494, 491, 355, 350, 344, 338, 333, 328, 850, 852, 854, 320, 325, 856, 315, 310, 305, 300, 287, 858, 284, 281, 278, 268, 271, 265, 262, 256, 250, 245, 860, 237, 231, 223, 862, 864, 866, 868, 215, 212, 870, 206, 872, 198, 190, 182, 174, 166, 874, 442, 387, 384]] #[{ accessFlags := 2, nameIndex := 5, descriptorIndex := 6, attributes := #[] }, { accessFlags := 9, nameIndex := 646, descriptorIndex := 647, attributes := #[] }] 33 2 #[] #[{ accessFlags := 26, nameIndex := 500, descriptorIndex := 501, attributes := #[] }, { accessFlags := 26, nameIndex := 504, descriptorIndex := 501, attributes := #[] }, { accessFlags := 26, nameIndex := 506, descriptorIndex := 501, attributes := #[] }, { accessFlags := 26, nameIndex := 508, descriptorIndex := 501, attributes := #[] }, { accessFlags := 26, nameIndex := 510, descriptorIndex := 501, attributes := #[] }, { accessFlags := 26, nameIndex := 512, descriptorIndex := 501, attributes := #[] }, { accessFlags := 26, nameIndex := 514, descriptorIndex := 501, attributes := #[] }, { accessFlags := 26, nameIndex := 516, descriptorIndex := 501, attributes := #[] }, { accessFlags := 10, nameIndex := 84, descriptorIndex := 85, attributes := #[] }, { accessFlags := 25, nameIndex := 362, descriptorIndex := 363, attributes := #[] }, { accessFlags := 25, nameIndex := 370, descriptorIndex := 371, attributes := #[] }, { accessFlags := 25, nameIndex := 374, descriptorIndex := 375, attributes := #[] }])
  fields := #[{ name := "BINARYSEARCH_THRESHOLD", type := .int, accessFlags := 26, slot := 0, constantValue := 0 }, { name := "REVERSE_THRESHOLD", type := .int, accessFlags := 26, slot := 1, constantValue := 0 }, { name := "SHUFFLE_THRESHOLD", type := .int, accessFlags := 26, slot := 2, constantValue := 0 }, { name := "FILL_THRESHOLD", type := .int, accessFlags := 26, slot := 3, constantValue := 0 }, { name := "ROTATE_THRESHOLD", type := .int, accessFlags := 26, slot := 4, constantValue := 0 }, { name := "COPY_THRESHOLD", type := .int, accessFlags := 26, slot := 5, constantValue := 0 }, { name := "REPLACEALL_THRESHOLD", type := .int, accessFlags := 26, slot := 6, constantValue := 0 }, { name := "INDEXOFSUBLIST_THRESHOLD", type := .int, accessFlags := 26, slot := 7, constantValue := 0 }, { name := "r", type := (.object "java/util/Random"), accessFlags := 10, slot := 8, constantValue := 0 }, { name := "EMPTY_SET", type := (.object "java/util/Set"), accessFlags := 25, slot := 9, constantValue := 0 }, { name := "EMPTY_LIST", type := (.object "java/util/List"), accessFlags := 25, slot := 10, constantValue := 0 }, { name := "EMPTY_MAP", type := (.object "java/util/Map"), accessFlags := 25, slot := 11, constantValue := 0 }]
  methods := #[k20m0, k20m1]
  instanceTypes := #[]
  staticTypes := #[.int, .int, .int, .int, .int, .int, .int, .int, (.object "java/util/Random"), (.object "java/util/Set"), (.object "java/util/List"), (.object "java/util/Map")]
  resolved := Array.replicate 933 none
  statics := none }

def pool21 : Array CpInfo := pool [(1, .methodref 2 3), (0, .class_ 4), (0, .nameAndType 5 6), (0, u "java/lang/Object"), (0, u "<init>"), (0, u "()V"), (3, .fieldref 11 12), (0, .class_ 13), (0, .nameAndType 14 15), (0, u "java/util/Collections$UnmodifiableCollection"), (0, u "c"), (0, u "Ljava/util/Collection;"), (0, .interfaceMethodref 17 18), (0, .class_ 19), (0, .nameAndType 20 21), (0, u "java/util/Collection"), (0, u "size"), (0, u "()I"), (49, .class_ 72), (0, u "java/io/Serializable"), (0, u "serialVersionUID"), (0, u "J"), (5, u "(Ljava/util/Collection;)V"), (51, .class_ 133), (0, u "java/util/Collections")] 2

def k21c0 : Code := { maxStack := 2, maxLocals := 2, code := jdk_119_method_1_code, exceptionTable := #[], attributes := #[] }
def k21m0 : Method := { name := "<init>", desc := "(Ljava/util/Collection;)V", sig := { parameters := [(.object "java/util/Collection")], returnType := none }, accessFlags := 0, code := some k21c0 }
def k21c1 : Code := { maxStack := 1, maxLocals := 1, code := jdk_119_method_2_code, exceptionTable := #[], attributes := #[] }
def k21m1 : Method := { name := "size", desc := "()I", sig := { parameters := [], returnType := some .int }, accessFlags := 1, code := some k21c1 }
/-- java/util/Collections$UnmodifiableCollection -/
def k21 : Class := { plain "java/util/Collections$UnmodifiableCollection" (some 0) with
  accessFlags := 32
  interfaces := #[3, 10]
  cf := some (fileOf pool21 11 #[.nestHost 132] #[{ accessFlags := 0, nameIndex := 5, descriptorIndex := 80, attributes := #[] }, { accessFlags := 1, nameIndex := 20, descriptorIndex := 21, attributes := #[] }] 32 2 #[17, 71] #[{ accessFlags := 26, nameIndex := 73, descriptorIndex := 74, attributes := #[] }, { accessFlags := 16, nameIndex := 14, descriptorIndex := 15, attributes := #[] }])
  fields := #[{ name := "serialVersionUID", type := .long, accessFlags := 26, slot := 0, constantValue := 0 }, { name := "c", type := (.object "java/util/Collection"), accessFlags := 16, slot := 0, constantValue := 0 }]
  methods := #[k21m0, k21m1]
  instanceTypes := #[(.object "java/util/Collection")]
  staticTypes := #[.long]
  resolved := Array.replicate 136 none
  statics := none }

def pool22 : Array CpInfo := pool [(1, .methodref 2 3), (0, .class_ 4), (0, .nameAndType 5 6), (0, u "java/util/Collections$UnmodifiableCollection"), (0, u "<init>"), (0, u "(Ljava/util/Collection;)V"), (0, .fieldref 8 9), (0, .class_ 10), (0, .nameAndType 11 12), (0, u "java/util/Collections$UnmodifiableList"), (0, u "list"), (0, u "Ljava/util/List;"), (1, .class_ 16), (1, u "java/util/List"), (37, u "(Ljava/util/List;)V"), (5, u "serialVersionUID"), (0, u "J"), (59, .class_ 122), (0, u "java/util/Collections")] 4

def k22c0 : Code := { maxStack := 2, maxLocals := 2, code := jdk_120_method_1_code, exceptionTable := #[], attributes := #[] }
def k22m0 : Method := { name := "<init>", desc := "(Ljava/util/List;)V", sig := { parameters := [(.object "java/util/List")], returnType := none }, accessFlags := 0, code := some k22c0 }
/-- java/util/Collections$UnmodifiableList -/
def k22 : Class := { plain "java/util/Collections$UnmodifiableList" (some 21) with
  accessFlags := 32
  interfaces := #[6]
  cf := some (fileOf pool22 8 #[.nestHost 121] #[{ accessFlags := 0, nameIndex := 5, descriptorIndex := 54, attributes := #[] }] 32 2 #[14] #[{ accessFlags := 26, nameIndex := 60, descriptorIndex := 61, attributes := #[] }, { accessFlags := 16, nameIndex := 11, descriptorIndex := 12, attributes := #[] }])
  fields := #[{ name := "serialVersionUID", type := .long, accessFlags := 26, slot := 0, constantValue := 0 }, { name := "list", type := (.object "java/util/List"), accessFlags := 16, slot := 1, constantValue := 0 }]
  methods := #[k22m0]
  instanceTypes := #[(.object "java/util/Collection"), (.object "java/util/List")]
  staticTypes := #[.long]
  resolved := Array.replicate 127 none
  mirror := some 3
  statics := none }

def pool23 : Array CpInfo := pool [(1, .methodref 2 3), (0, .class_ 4), (0, .nameAndType 5 6), (0, u "java/util/Collections$UnmodifiableList"), (0, u "<init>"), (0, u "(Ljava/util/List;)V"), (0, .class_ 8), (0, u "java/util/Collections$UnmodifiableRandomAccessList"), (11, .class_ 21), (0, u "java/util/RandomAccess"), (0, u "serialVersionUID"), (0, u "J"), (23, .class_ 48), (0, u "java/util/Collections")] 3

def k23c0 : Code := { maxStack := 2, maxLocals := 2, code := jdk_121_method_1_code, exceptionTable := #[], attributes := #[] }
def k23m0 : Method := { name := "<init>", desc := "(Ljava/util/List;)V", sig := { parameters := [(.object "java/util/List")], returnType := none }, accessFlags := 0, code := some k23c0 }
/-- java/util/Collections$UnmodifiableRandomAccessList -/
def k23 : Class := { plain "java/util/Collections$UnmodifiableRandomAccessList" (some 22) with
  accessFlags := 32
  interfaces := #[8]
  cf := some (fileOf pool23 7 #[.nestHost 47] #[{ accessFlags := 0, nameIndex := 5, descriptorIndex := 6, attributes := #[] }] 32 2 #[20] #[{ accessFlags := 26, nameIndex := 22, descriptorIndex := 23, attributes := #[] }])
  fields := #[{ name := "serialVersionUID", type := .long, accessFlags := 26, slot := 0, constantValue := 0 }]
  methods := #[k23m0]
  instanceTypes := #[(.object "java/util/Collection"), (.object "java/util/List")]
  staticTypes := #[.long]
  resolved := Array.replicate 52 none
  mirror := some 4
  statics := none }

def pool24 : Array CpInfo := pool [(1, u "java/lang/Class"), (0, .class_ 1), (0, u "java/lang/Object"), (0, .class_ 3)] 0

/-- java/lang/Class -/
def k24 : Class := { plain "java/lang/Class" (some 0) with
  accessFlags := 49
  interfaces := #[]
  cf := some (fileOf pool24 2 #[] #[] 49 4 #[] #[])
  fields := #[]
  methods := #[]
  instanceTypes := #[]
  staticTypes := #[]
  resolved := Array.replicate 5 none
  statics := none }

/-- the primitive byte -/
def k25 : Class := { plain "byte" none with kind := .primitive 'B', accessFlags := 0x411 }
/-- [B -/
def k26 : Class := { plain "[B" (some 0) with kind := .array 25 .byte, interfaces := #[9, 10], accessFlags := 1041 }

/-- the primitive int -/
def k27 : Class := { plain "int" none with kind := .primitive 'I', accessFlags := 0x411 }
/-- [I -/
def k28 : Class := { plain "[I" (some 0) with kind := .array 27 .int, interfaces := #[9, 10], accessFlags := 1041 }

/-- [Ljava/lang/Integer; -/
def k29 : Class := { plain "[Ljava/lang/Integer;" (some 0) with kind := .array 16 (.object "java/lang/Integer"), interfaces := #[9, 10], accessFlags := 1041 }

/-- [Ljava/lang/Object; -/
def k30 : Class := { plain "[Ljava/lang/Object;" (some 0) with kind := .array 0 (.object "java/lang/Object"), interfaces := #[9, 10], accessFlags := 1041 }

def heap : Heap := #[{ cls := 11, slots := #[.long 0, .int 0, .ref 262, .ref 263], vm := .statics 11 },
  { cls := 17, slots := #[.int 0, .int 127, .ref 5, .null, .int 0], vm := .statics 17 },
  { cls := 24, slots := #[], vm := .mirror 11 },
  { cls := 24, slots := #[], vm := .mirror 22 },
  { cls := 24, slots := #[], vm := .mirror 23 },
  { cls := 29, slots := #[.ref 6, .ref 7, .ref 8, .ref 9, .ref 10, .ref 11, .ref 12, .ref 13, .ref 14, .ref 15, .ref 16, .ref 17, .ref 18, .ref 19, .ref 20, .ref 21, .ref 22, .ref 23, .ref 24, .ref 25, .ref 26, .ref 27, .ref 28, .ref 29, .ref 30, .ref 31, .ref 32, .ref 33, .ref 34, .ref 35, .ref 36, .ref 37, .ref 38, .ref 39, .ref 40, .ref 41, .ref 42, .ref 43, .ref 44, .ref 45, .ref 46, .ref 47, .ref 48, .ref 49, .ref 50, .ref 51, .ref 52, .ref 53, .ref 54, .ref 55, .ref 56, .ref 57, .ref 58, .ref 59, .ref 60, .ref 61, .ref 62, .ref 63, .ref 64, .ref 65, .ref 66, .ref 67, .ref 68, .ref 69, .ref 70, .ref 71, .ref 72, .ref 73, .ref 74, .ref 75, .ref 76, .ref 77, .ref 78, .ref 79, .ref 80, .ref 81, .ref 82, .ref 83, .ref 84, .ref 85, .ref 86, .ref 87, .ref 88, .ref 89, .ref 90, .ref 91, .ref 92, .ref 93, .ref 94, .ref 95, .ref 96, .ref 97, .ref 98, .ref 99, .ref 100, .ref 101, .ref 102, .ref 103, .ref 104, .ref 105, .ref 106, .ref 107, .ref 108, .ref 109, .ref 110, .ref 111, .ref 112, .ref 113, .ref 114, .ref 115, .ref 116, .ref 117, .ref 118, .ref 119, .ref 120, .ref 121, .ref 122, .ref 123, .ref 124, .ref 125, .ref 126, .ref 127, .ref 128, .ref 129, .ref 130, .ref 131, .ref 132, .ref 133, .ref 134, .ref 135, .ref 136, .ref 137, .ref 138, .ref 139, .ref 140, .ref 141, .ref 142, .ref 143, .ref 144, .ref 145, .ref 146, .ref 147, .ref 148, .ref 149, .ref 150, .ref 151, .ref 152, .ref 153, .ref 154, .ref 155, .ref 156, .ref 157, .ref 158, .ref 159, .ref 160, .ref 161, .ref 162, .ref 163, .ref 164, .ref 165, .ref 166, .ref 167, .ref 168, .ref 169, .ref 170, .ref 171, .ref 172, .ref 173, .ref 174, .ref 175, .ref 176, .ref 177, .ref 178, .ref 179, .ref 180, .ref 181, .ref 182, .ref 183, .ref 184, .ref 185, .ref 186, .ref 187, .ref 188, .ref 189, .ref 190, .ref 191, .ref 192, .ref 193, .ref 194, .ref 195, .ref 196, .ref 197, .ref 198, .ref 199, .ref 200, .ref 201, .ref 202, .ref 203, .ref 204, .ref 205, .ref 206, .ref 207, .ref 208, .ref 209, .ref 210, .ref 211, .ref 212, .ref 213, .ref 214, .ref 215, .ref 216, .ref 217, .ref 218, .ref 219, .ref 220, .ref 221, .ref 222, .ref 223, .ref 224, .ref 225, .ref 226, .ref 227, .ref 228, .ref 229, .ref 230, .ref 231, .ref 232, .ref 233, .ref 234, .ref 235, .ref 236, .ref 237, .ref 238, .ref 239, .ref 240, .ref 241, .ref 242, .ref 243, .ref 244, .ref 245, .ref 246, .ref 247, .ref 248, .ref 249, .ref 250, .ref 251, .ref 252, .ref 253, .ref 254, .ref 255, .ref 256, .ref 257, .ref 258, .ref 259, .ref 260, .ref 261], vm := .none },
  { cls := 16, slots := #[.int (-128)], vm := .none },
  { cls := 16, slots := #[.int (-127)], vm := .none },
  { cls := 16, slots := #[.int (-126)], vm := .none },
  { cls := 16, slots := #[.int (-125)], vm := .none },
  { cls := 16, slots := #[.int (-124)], vm := .none },
  { cls := 16, slots := #[.int (-123)], vm := .none },
  { cls := 16, slots := #[.int (-122)], vm := .none },
  { cls := 16, slots := #[.int (-121)], vm := .none },
  { cls := 16, slots := #[.int (-120)], vm := .none },
  { cls := 16, slots := #[.int (-119)], vm := .none },
  { cls := 16, slots := #[.int (-118)], vm := .none },
  { cls := 16, slots := #[.int (-117)], vm := .none },
  { cls := 16, slots := #[.int (-116)], vm := .none },
  { cls := 16, slots := #[.int (-115)], vm := .none },
  { cls := 16, slots := #[.int (-114)], vm := .none },
  { cls := 16, slots := #[.int (-113)], vm := .none },
  { cls := 16, slots := #[.int (-112)], vm := .none },
  { cls := 16, slots := #[.int (-111)], vm := .none },
  { cls := 16, slots := #[.int (-110)], vm := .none },
  { cls := 16, slots := #[.int (-109)], vm := .none },
  { cls := 16, slots := #[.int (-108)], vm := .none },
  { cls := 16, slots := #[.int (-107)], vm := .none },
  { cls := 16, slots := #[.int (-106)], vm := .none },
  { cls := 16, slots := #[.int (-105)], vm := .none },
  { cls := 16, slots := #[.int (-104)], vm := .none },
  { cls := 16, slots := #[.int (-103)], vm := .none },
  { cls := 16, slots := #[.int (-102)], vm := .none },
  { cls := 16, slots := #[.int (-101)], vm := .none },
  { cls := 16, slots := #[.int (-100)], vm := .none },
  { cls := 16, slots := #[.int (-99)], vm := .none },
  { cls := 16, slots := #[.int (-98)], vm := .none },
  { cls := 16, slots := #[.int (-97)], vm := .none },
  { cls := 16, slots := #[.int (-96)], vm := .none },
  { cls := 16, slots := #[.int (-95)], vm := .none },
  { cls := 16, slots := #[.int (-94)], vm := .none },
  { cls := 16, slots := #[.int (-93)], vm := .none },
  { cls := 16, slots := #[.int (-92)], vm := .none },
  { cls := 16, slots := #[.int (-91)], vm := .none },
  { cls := 16, slots := #[.int (-90)], vm := .none },
  { cls := 16, slots := #[.int (-89)], vm := .none },
  { cls := 16, slots := #[.int (-88)], vm := .none },
  { cls := 16, slots := #[.int (-87)], vm := .none },
  { cls := 16, slots := #[.int (-86)], vm := .none },
  { cls := 16, slots := #[.int (-85)], vm := .none },
  { cls := 16, slots := #[.int (-84)], vm := .none },
  { cls := 16, slots := #[.int (-83)], vm := .none },
  { cls := 16, slots := #[.int (-82)], vm := .none },
  { cls := 16, slots := #[.int (-81)], vm := .none },
  { cls := 16, slots := #[.int (-80)], vm := .none },
  { cls := 16, slots := #[.int (-79)], vm := .none },
  { cls := 16, slots := #[.int (-78)], vm := .none },
  { cls := 16, slots := #[.int (-77)], vm := .none },
  { cls := 16, slots := #[.int (-76)], vm := .none },
  { cls := 16, slots := #[.int (-75)], vm := .none },
  { cls := 16, slots := #[.int (-74)], vm := .none },
  { cls := 16, slots := #[.int (-73)], vm := .none },
  { cls := 16, slots := #[.int (-72)], vm := .none },
  { cls := 16, slots := #[.int (-71)], vm := .none },
  { cls := 16, slots := #[.int (-70)], vm := .none },
  { cls := 16, slots := #[.int (-69)], vm := .none },
  { cls := 16, slots := #[.int (-68)], vm := .none },
  { cls := 16, slots := #[.int (-67)], vm := .none },
  { cls := 16, slots := #[.int (-66)], vm := .none },
  { cls := 16, slots := #[.int (-65)], vm := .none },
  { cls := 16, slots := #[.int (-64)], vm := .none },
  { cls := 16, slots := #[.int (-63)], vm := .none },
  { cls := 16, slots := #[.int (-62)], vm := .none },
  { cls := 16, slots := #[.int (-61)], vm := .none },
  { cls := 16, slots := #[.int (-60)], vm := .none },
  { cls := 16, slots := #[.int (-59)], vm := .none },
  { cls := 16, slots := #[.int (-58)], vm := .none },
  { cls := 16, slots := #[.int (-57)], vm := .none },
  { cls := 16, slots := #[.int (-56)], vm := .none },
  { cls := 16, slots := #[.int (-55)], vm := .none },
  { cls := 16, slots := #[.int (-54)], vm := .none },
  { cls := 16, slots := #[.int (-53)], vm := .none },
  { cls := 16, slots := #[.int (-52)], vm := .none },
  { cls := 16, slots := #[.int (-51)], vm := .none },
  { cls := 16, slots := #[.int (-50)], vm := .none },
  { cls := 16, slots := #[.int (-49)], vm := .none },
  { cls := 16, slots := #[.int (-48)], vm := .none },
  { cls := 16, slots := #[.int (-47)], vm := .none },
  { cls := 16, slots := #[.int (-46)], vm := .none },
  { cls := 16, slots := #[.int (-45)], vm := .none },
  { cls := 16, slots := #[.int (-44)], vm := .none },
  { cls := 16, slots := #[.int (-43)], vm := .none },
  { cls := 16, slots := #[.int (-42)], vm := .none },
  { cls := 16, slots := #[.int (-41)], vm := .none },
  { cls := 16, slots := #[.int (-40)], vm := .none },
  { cls := 16, slots := #[.int (-39)], vm := .none },
  { cls := 16, slots := #[.int (-38)], vm := .none },
  { cls := 16, slots := #[.int (-37)], vm := .none },
  { cls := 16, slots := #[.int (-36)], vm := .none },
  { cls := 16, slots := #[.int (-35)], vm := .none },
  { cls := 16, slots := #[.int (-34)], vm := .none },
  { cls := 16, slots := #[.int (-33)], vm := .none },
  { cls := 16, slots := #[.int (-32)], vm := .none },
  { cls := 16, slots := #[.int (-31)], vm := .none },
  { cls := 16, slots := #[.int (-30)], vm := .none },
  { cls := 16, slots := #[.int (-29)], vm := .none },
  { cls := 16, slots := #[.int (-28)], vm := .none },
  { cls := 16, slots := #[.int (-27)], vm := .none },
  { cls := 16, slots := #[.int (-26)], vm := .none },
  { cls := 16, slots := #[.int (-25)], vm := .none },
  { cls := 16, slots := #[.int (-24)], vm := .none },
  { cls := 16, slots := #[.int (-23)], vm := .none },
  { cls := 16, slots := #[.int (-22)], vm := .none },
  { cls := 16, slots := #[.int (-21)], vm := .none },
  { cls := 16, slots := #[.int (-20)], vm := .none },
  { cls := 16, slots := #[.int (-19)], vm := .none },
  { cls := 16, slots := #[.int (-18)], vm := .none },
  { cls := 16, slots := #[.int (-17)], vm := .none },
  { cls := 16, slots := #[.int (-16)], vm := .none },
  { cls := 16, slots := #[.int (-15)], vm := .none },
  { cls := 16, slots := #[.int (-14)], vm := .none },
  { cls := 16, slots := #[.int (-13)], vm := .none },
  { cls := 16, slots := #[.int (-12)], vm := .none },
  { cls := 16, slots := #[.int (-11)], vm := .none },
  { cls := 16, slots := #[.int (-10)], vm := .none },
  { cls := 16, slots := #[.int (-9)], vm := .none },
  { cls := 16, slots := #[.int (-8)], vm := .none },
  { cls := 16, slots := #[.int (-7)], vm := .none },
  { cls := 16, slots := #[.int (-6)], vm := .none },
  { cls := 16, slots := #[.int (-5)], vm := .none },
  { cls := 16, slots := #[.int (-4)], vm := .none },
  { cls := 16, slots := #[.int (-3)], vm := .none },
  { cls := 16, slots := #[.int (-2)], vm := .none },
  { cls := 16, slots := #[.int (-1)], vm := .none },
  { cls := 16, slots := #[.int 0], vm := .none },
  { cls := 16, slots := #[.int 1], vm := .none },
  { cls := 16, slots := #[.int 2], vm := .none },
  { cls := 16, slots := #[.int 3], vm := .none },
  { cls := 16, slots := #[.int 4], vm := .none },
  { cls := 16, slots := #[.int 5], vm := .none },
  { cls := 16, slots := #[.int 6], vm := .none },
  { cls := 16, slots := #[.int 7], vm := .none },
  { cls := 16, slots := #[.int 8], vm := .none },
  { cls := 16, slots := #[.int 9], vm := .none },
  { cls := 16, slots := #[.int 10], vm := .none },
  { cls := 16, slots := #[.int 11], vm := .none },
  { cls := 16, slots := #[.int 12], vm := .none },
  { cls := 16, slots := #[.int 13], vm := .none },
  { cls := 16, slots := #[.int 14], vm := .none },
  { cls := 16, slots := #[.int 15], vm := .none },
  { cls := 16, slots := #[.int 16], vm := .none },
  { cls := 16, slots := #[.int 17], vm := .none },
  { cls := 16, slots := #[.int 18], vm := .none },
  { cls := 16, slots := #[.int 19], vm := .none },
  { cls := 16, slots := #[.int 20], vm := .none },
  { cls := 16, slots := #[.int 21], vm := .none },
  { cls := 16, slots := #[.int 22], vm := .none },
  { cls := 16, slots := #[.int 23], vm := .none },
  { cls := 16, slots := #[.int 24], vm := .none },
  { cls := 16, slots := #[.int 25], vm := .none },
  { cls := 16, slots := #[.int 26], vm := .none },
  { cls := 16, slots := #[.int 27], vm := .none },
  { cls := 16, slots := #[.int 28], vm := .none },
  { cls := 16, slots := #[.int 29], vm := .none },
  { cls := 16, slots := #[.int 30], vm := .none },
  { cls := 16, slots := #[.int 31], vm := .none },
  { cls := 16, slots := #[.int 32], vm := .none },
  { cls := 16, slots := #[.int 33], vm := .none },
  { cls := 16, slots := #[.int 34], vm := .none },
  { cls := 16, slots := #[.int 35], vm := .none },
  { cls := 16, slots := #[.int 36], vm := .none },
  { cls := 16, slots := #[.int 37], vm := .none },
  { cls := 16, slots := #[.int 38], vm := .none },
  { cls := 16, slots := #[.int 39], vm := .none },
  { cls := 16, slots := #[.int 40], vm := .none },
  { cls := 16, slots := #[.int 41], vm := .none },
  { cls := 16, slots := #[.int 42], vm := .none },
  { cls := 16, slots := #[.int 43], vm := .none },
  { cls := 16, slots := #[.int 44], vm := .none },
  { cls := 16, slots := #[.int 45], vm := .none },
  { cls := 16, slots := #[.int 46], vm := .none },
  { cls := 16, slots := #[.int 47], vm := .none },
  { cls := 16, slots := #[.int 48], vm := .none },
  { cls := 16, slots := #[.int 49], vm := .none },
  { cls := 16, slots := #[.int 50], vm := .none },
  { cls := 16, slots := #[.int 51], vm := .none },
  { cls := 16, slots := #[.int 52], vm := .none },
  { cls := 16, slots := #[.int 53], vm := .none },
  { cls := 16, slots := #[.int 54], vm := .none },
  { cls := 16, slots := #[.int 55], vm := .none },
  { cls := 16, slots := #[.int 56], vm := .none },
  { cls := 16, slots := #[.int 57], vm := .none },
  { cls := 16, slots := #[.int 58], vm := .none },
  { cls := 16, slots := #[.int 59], vm := .none },
  { cls := 16, slots := #[.int 60], vm := .none },
  { cls := 16, slots := #[.int 61], vm := .none },
  { cls := 16, slots := #[.int 62], vm := .none },
  { cls := 16, slots := #[.int 63], vm := .none },
  { cls := 16, slots := #[.int 64], vm := .none },
  { cls := 16, slots := #[.int 65], vm := .none },
  { cls := 16, slots := #[.int 66], vm := .none },
  { cls := 16, slots := #[.int 67], vm := .none },
  { cls := 16, slots := #[.int 68], vm := .none },
  { cls := 16, slots := #[.int 69], vm := .none },
  { cls := 16, slots := #[.int 70], vm := .none },
  { cls := 16, slots := #[.int 71], vm := .none },
  { cls := 16, slots := #[.int 72], vm := .none },
  { cls := 16, slots := #[.int 73], vm := .none },
  { cls := 16, slots := #[.int 74], vm := .none },
  { cls := 16, slots := #[.int 75], vm := .none },
  { cls := 16, slots := #[.int 76], vm := .none },
  { cls := 16, slots := #[.int 77], vm := .none },
  { cls := 16, slots := #[.int 78], vm := .none },
  { cls := 16, slots := #[.int 79], vm := .none },
  { cls := 16, slots := #[.int 80], vm := .none },
  { cls := 16, slots := #[.int 81], vm := .none },
  { cls := 16, slots := #[.int 82], vm := .none },
  { cls := 16, slots := #[.int 83], vm := .none },
  { cls := 16, slots := #[.int 84], vm := .none },
  { cls := 16, slots := #[.int 85], vm := .none },
  { cls := 16, slots := #[.int 86], vm := .none },
  { cls := 16, slots := #[.int 87], vm := .none },
  { cls := 16, slots := #[.int 88], vm := .none },
  { cls := 16, slots := #[.int 89], vm := .none },
  { cls := 16, slots := #[.int 90], vm := .none },
  { cls := 16, slots := #[.int 91], vm := .none },
  { cls := 16, slots := #[.int 92], vm := .none },
  { cls := 16, slots := #[.int 93], vm := .none },
  { cls := 16, slots := #[.int 94], vm := .none },
  { cls := 16, slots := #[.int 95], vm := .none },
  { cls := 16, slots := #[.int 96], vm := .none },
  { cls := 16, slots := #[.int 97], vm := .none },
  { cls := 16, slots := #[.int 98], vm := .none },
  { cls := 16, slots := #[.int 99], vm := .none },
  { cls := 16, slots := #[.int 100], vm := .none },
  { cls := 16, slots := #[.int 101], vm := .none },
  { cls := 16, slots := #[.int 102], vm := .none },
  { cls := 16, slots := #[.int 103], vm := .none },
  { cls := 16, slots := #[.int 104], vm := .none },
  { cls := 16, slots := #[.int 105], vm := .none },
  { cls := 16, slots := #[.int 106], vm := .none },
  { cls := 16, slots := #[.int 107], vm := .none },
  { cls := 16, slots := #[.int 108], vm := .none },
  { cls := 16, slots := #[.int 109], vm := .none },
  { cls := 16, slots := #[.int 110], vm := .none },
  { cls := 16, slots := #[.int 111], vm := .none },
  { cls := 16, slots := #[.int 112], vm := .none },
  { cls := 16, slots := #[.int 113], vm := .none },
  { cls := 16, slots := #[.int 114], vm := .none },
  { cls := 16, slots := #[.int 115], vm := .none },
  { cls := 16, slots := #[.int 116], vm := .none },
  { cls := 16, slots := #[.int 117], vm := .none },
  { cls := 16, slots := #[.int 118], vm := .none },
  { cls := 16, slots := #[.int 119], vm := .none },
  { cls := 16, slots := #[.int 120], vm := .none },
  { cls := 16, slots := #[.int 121], vm := .none },
  { cls := 16, slots := #[.int 122], vm := .none },
  { cls := 16, slots := #[.int 123], vm := .none },
  { cls := 16, slots := #[.int 124], vm := .none },
  { cls := 16, slots := #[.int 125], vm := .none },
  { cls := 16, slots := #[.int 126], vm := .none },
  { cls := 16, slots := #[.int 127], vm := .none },
  { cls := 30, slots := #[], vm := .none },
  { cls := 30, slots := #[], vm := .none }]
def classes : Array Class := #[k0, k1, k2, k3, k4, k5, k6, k7, k8, k9, k10, k11, k12, k13, k14, k15, k16, k17, k18, k19, k20, k21, k22, k23, k24, k25, k26, k27, k28, k29, k30]
def interned : List (Array UInt16 × Addr) := []
def slotsUsed : Nat := 521
def theMethod : MethodId := ⟨1, 1⟩
def args0 : Array Value := #[.int 2, .int 5, .int 6, .int 7, .int 8]
def aboutOver (below : List Frame) : State where
  vm := { classes := classes, interned := interned.toArray }
  heap := heap
  slotsUsed := slotsUsed
  threads := #[{ frames := .invoking theMethod args0 :: below }]
def below0 : List Frame := [.native { method := ⟨0, 0⟩, args := #[] }]
def about1 : State := aboutOver below0
def p0 : Program := .bare "" "" ""
def e0 : Env := launch0.env 0 0 0
theorem w_frames : about1.frames = Frame.invoking theMethod args0 :: below0 := rfl
set_option maxRecDepth 65536 in
theorem w_args : argsFit about1.vm theMethod args0 = true := by decide +kernel
set_option maxRecDepth 65536 in
theorem w_heap : heapFits about1 = true := by decide +kernel
set_option maxRecDepth 65536 in
theorem w_runnable : about1.curStatus? = some .runnable := by decide +kernel
set_option maxRecDepth 65536 in
theorem w_alone : about1.alone = true := by decide +kernel
set_option maxRecDepth 65536 in
theorem w_named : about1.methodNamed? x = some theMethod := by decide +kernel
set_option maxRecDepth 65536 in
theorem w_hears : about1.hears theMethod below0 = true := by decide +kernel
set_option maxRecDepth 65536 in
theorem w_ripe : about1.ripe theMethod args0 below0 = true := by decide +kernel
theorem w_running : about1.status = .running := rfl
set_option maxRecDepth 65536 in
theorem w_room : about1.hasRoom e0.platform room_1 = true :=
  launch0.hasRoom_least _ room_1 (by decide +kernel) (by decide +kernel) (by decide +kernel) (by decide +kernel) (by decide +kernel) (by decide +kernel)
theorem allAtoms_all (ts : List Jvm.Cond) (a : Array Jvm.Value) (st : Jvm.State) : (allAtoms ts).before a st = ts.all (fun c => c.before a st) := by
  induction ts with
  | nil => rfl
  | cons c t ih =>
    show (Jvm.Cond.and c (allAtoms t)).before a st = _
    rw [Jvm.Cond.before_and, ih, List.all_cons]
def words1 : List Jvm.Cond := Jvm.Cond.code x code maxLocals ret :: tables_1
/-- a 'code' word, met by the world's own term for the bytes: nothing is compared byte by byte -/
theorem code_word {y : MethodName} {bytes : ByteArray} {mx : Nat} {rt : Option FieldType} {a : Array Value} {s : State} {m : MethodId} {meth : Method} {c : Code} (h1 : s.methodNamed? y = some m) (h2 : s.vm.method? m = some meth) (h3 : meth.code = some c) (h4 : c.code = bytes)
    (h5 : (c.maxLocals == mx && c.exceptionTable.isEmpty && decide (c.maxStack ≤ mostOperands) && decide (meth.sig.returnType = rt) && !meth.locks && decide (parseMethodDescriptor y.desc = some meth.sig)) = true) : (Jvm.Cond.code y bytes mx rt).before a s = true := by
  simp only [Bool.and_eq_true, beq_iff_eq, Bool.not_eq_true', decide_eq_true_eq] at h5
  obtain ⟨⟨⟨⟨⟨g1, g2⟩, g3⟩, g4⟩, g5⟩, g6⟩ := h5
  simp [Cond.before, Cond.holds, Cond.value, h1, h2, h3, h4, g1, g2, g3, g4, g5, g6]
def isCode : Jvm.Cond → Bool
  | .code _ _ _ _ => true
  | _ => false
theorem all_split {L : List Jvm.Cond} {P : Jvm.Cond → Bool} (h1 : L.all (fun c => isCode c || P c) = true) (h2 : ∀ c ∈ L.filter isCode, P c = true) : L.all P = true := by
  refine List.all_eq_true.mpr fun c hc => ?_
  have h := List.all_eq_true.mp h1 c hc
  rcases Bool.eq_false_or_eq_true (isCode c) with hi | hi
  · exact h2 c (List.mem_filter.mpr ⟨hc, hi⟩)
  · simpa [hi] using h
set_option maxRecDepth 65536 in
theorem w_c0 : (Jvm.Cond.code x code maxLocals ret).before args0 about1 = true := code_word (m := ⟨1, 1⟩) (meth := k1m1) (c := k1c1) (by decide +kernel) rfl rfl rfl (by decide +kernel)
set_option maxRecDepth 65536 in
theorem w_c1 : (Jvm.Cond.code ({ cls := "java/util/ArrayList", name := "<init>", desc := "()V" } : Jvm.MethodName) jdk_38_method_2_code (1 : Nat) (Option.none : Option Jvm.ClassFile.FieldType)).before args0 about1 = true := code_word (m := ⟨11, 0⟩) (meth := k11m0) (c := k11c0) (by decide +kernel) rfl rfl rfl (by decide +kernel)
set_option maxRecDepth 65536 in
theorem w_c2 : (Jvm.Cond.code ({ cls := "java/util/AbstractList", name := "<init>", desc := "()V" } : Jvm.MethodName) jdk_39_method_1_code (1 : Nat) (Option.none : Option Jvm.ClassFile.FieldType)).before args0 about1 = true := code_word (m := ⟨7, 0⟩) (meth := k7m0) (c := k7c0) (by decide +kernel) rfl rfl rfl (by decide +kernel)
set_option maxRecDepth 65536 in
theorem w_c3 : (Jvm.Cond.code ({ cls := "java/util/AbstractCollection", name := "<init>", desc := "()V" } : Jvm.MethodName) jdk_22_method_1_code (1 : Nat) (Option.none : Option Jvm.ClassFile.FieldType)).before args0 about1 = true := code_word (m := ⟨4, 0⟩) (meth := k4m0) (c := k4c0) (by decide +kernel) rfl rfl rfl (by decide +kernel)
set_option maxRecDepth 65536 in
theorem w_c4 : (Jvm.Cond.code ({ cls := "java/lang/Object", name := "<init>", desc := "()V" } : Jvm.MethodName) object_method_1_code (1 : Nat) (Option.none : Option Jvm.ClassFile.FieldType)).before args0 about1 = true := code_word (m := ⟨0, 0⟩) (meth := k0m0) (c := k0c0) (by decide +kernel) rfl rfl rfl (by decide +kernel)
set_option maxRecDepth 65536 in
theorem w_c5 : (Jvm.Cond.code ({ cls := "java/lang/Integer", name := "valueOf", desc := "(I)Ljava/lang/Integer;" } : Jvm.MethodName) jdk_33_method_22_code (1 : Nat) (Option.some (Jvm.ClassFile.FieldType.object "java/lang/Integer"))).before args0 about1 = true := code_word (m := ⟨16, 0⟩) (meth := k16m0) (c := k16c0) (by decide +kernel) rfl rfl rfl (by decide +kernel)
set_option maxRecDepth 65536 in
theorem w_c6 : (Jvm.Cond.code ({ cls := "java/util/ArrayList", name := "add", desc := "(Ljava/lang/Object;)Z" } : Jvm.MethodName) jdk_38_method_25_code (2 : Nat) (Option.some Jvm.ClassFile.FieldType.boolean)).before args0 about1 = true := code_word (m := ⟨11, 5⟩) (meth := k11m5) (c := k11c5) (by decide +kernel) rfl rfl rfl (by decide +kernel)
set_option maxRecDepth 65536 in
theorem w_c7 : (Jvm.Cond.code ({ cls := "java/util/ArrayList", name := "add", desc := "(Ljava/lang/Object;[Ljava/lang/Object;I)V" } : Jvm.MethodName) jdk_38_method_24_code (4 : Nat) (Option.none : Option Jvm.ClassFile.FieldType)).before args0 about1 = true := code_word (m := ⟨11, 4⟩) (meth := k11m4) (c := k11c4) (by decide +kernel) rfl rfl rfl (by decide +kernel)
set_option maxRecDepth 65536 in
theorem w_c8 : (Jvm.Cond.code ({ cls := "java/util/ArrayList", name := "grow", desc := "()[Ljava/lang/Object;" } : Jvm.MethodName) jdk_38_method_7_code (1 : Nat) (Option.some (Jvm.ClassFile.FieldType.array (Jvm.ClassFile.FieldType.object "java/lang/Object")))).before args0 about1 = true := code_word (m := ⟨11, 2⟩) (meth := k11m2) (c := k11c2) (by decide +kernel) rfl rfl rfl (by decide +kernel)
set_option maxRecDepth 65536 in
theorem w_c9 : (Jvm.Cond.code ({ cls := "java/util/ArrayList", name := "grow", desc := "(I)[Ljava/lang/Object;" } : Jvm.MethodName) jdk_38_method_6_code (4 : Nat) (Option.some (Jvm.ClassFile.FieldType.array (Jvm.ClassFile.FieldType.object "java/lang/Object")))).before args0 about1 = true := code_word (m := ⟨11, 1⟩) (meth := k11m1) (c := k11c1) (by decide +kernel) rfl rfl rfl (by decide +kernel)
set_option maxRecDepth 65536 in
theorem w_c10 : (Jvm.Cond.code ({ cls := "java/lang/Math", name := "max", desc := "(II)I" } : Jvm.MethodName) jdk_29_method_65_code (2 : Nat) (Option.some Jvm.ClassFile.FieldType.int)).before args0 about1 = true := code_word (m := ⟨18, 1⟩) (meth := k18m1) (c := k18c1) (by decide +kernel) rfl rfl rfl (by decide +kernel)
set_option maxRecDepth 65536 in
theorem w_c11 : (Jvm.Cond.code ({ cls := "com/example/rationed_session/rationedsession/model/Partition", name := "<init>", desc := "(IILjava/util/List;)V" } : Jvm.MethodName) prog_6_method_1_code (4 : Nat) (Option.none : Option Jvm.ClassFile.FieldType)).before args0 about1 = true := code_word (m := ⟨19, 0⟩) (meth := k19m0) (c := k19c0) (by decide +kernel) rfl rfl rfl (by decide +kernel)
set_option maxRecDepth 65536 in
theorem w_c12 : (Jvm.Cond.code ({ cls := "java/util/Collections", name := "unmodifiableList", desc := "(Ljava/util/List;)Ljava/util/List;" } : Jvm.MethodName) jdk_79_method_35_code (1 : Nat) (Option.some (Jvm.ClassFile.FieldType.object "java/util/List"))).before args0 about1 = true := code_word (m := ⟨20, 1⟩) (meth := k20m1) (c := k20c1) (by decide +kernel) rfl rfl rfl (by decide +kernel)
set_option maxRecDepth 65536 in
theorem w_c13 : (Jvm.Cond.code ({ cls := "java/util/Collections$UnmodifiableRandomAccessList", name := "<init>", desc := "(Ljava/util/List;)V" } : Jvm.MethodName) jdk_121_method_1_code (2 : Nat) (Option.none : Option Jvm.ClassFile.FieldType)).before args0 about1 = true := code_word (m := ⟨23, 0⟩) (meth := k23m0) (c := k23c0) (by decide +kernel) rfl rfl rfl (by decide +kernel)
set_option maxRecDepth 65536 in
theorem w_c14 : (Jvm.Cond.code ({ cls := "java/util/Collections$UnmodifiableList", name := "<init>", desc := "(Ljava/util/List;)V" } : Jvm.MethodName) jdk_120_method_1_code (2 : Nat) (Option.none : Option Jvm.ClassFile.FieldType)).before args0 about1 = true := code_word (m := ⟨22, 0⟩) (meth := k22m0) (c := k22c0) (by decide +kernel) rfl rfl rfl (by decide +kernel)
set_option maxRecDepth 65536 in
theorem w_c15 : (Jvm.Cond.code ({ cls := "java/util/Collections$UnmodifiableCollection", name := "<init>", desc := "(Ljava/util/Collection;)V" } : Jvm.MethodName) jdk_119_method_1_code (2 : Nat) (Option.none : Option Jvm.ClassFile.FieldType)).before args0 about1 = true := code_word (m := ⟨21, 0⟩) (meth := k21m0) (c := k21c0) (by decide +kernel) rfl rfl rfl (by decide +kernel)
set_option maxRecDepth 65536 in
theorem w_c16 : (Jvm.Cond.code ({ cls := "com/example/rationed_session/rationedsession/model/Partition", name := "holds", desc := "(I)Z" } : Jvm.MethodName) prog_6_method_4_code (2 : Nat) (Option.some Jvm.ClassFile.FieldType.boolean)).before args0 about1 = true := code_word (m := ⟨19, 1⟩) (meth := k19m1) (c := k19c1) (by decide +kernel) rfl rfl rfl (by decide +kernel)
set_option maxRecDepth 65536 in
theorem w_c17 : (Jvm.Cond.code ({ cls := "java/util/Collections$UnmodifiableCollection", name := "size", desc := "()I" } : Jvm.MethodName) jdk_119_method_2_code (1 : Nat) (Option.some Jvm.ClassFile.FieldType.int)).before args0 about1 = true := code_word (m := ⟨21, 1⟩) (meth := k21m1) (c := k21c1) (by decide +kernel) rfl rfl rfl (by decide +kernel)
set_option maxRecDepth 65536 in
theorem w_c18 : (Jvm.Cond.code ({ cls := "java/util/ArrayList", name := "size", desc := "()I" } : Jvm.MethodName) jdk_38_method_8_code (1 : Nat) (Option.some Jvm.ClassFile.FieldType.int)).before args0 about1 = true := code_word (m := ⟨11, 3⟩) (meth := k11m3) (c := k11c3) (by decide +kernel) rfl rfl rfl (by decide +kernel)
set_option maxRecDepth 65536 in
theorem w_c19 : (Jvm.Cond.code ({ cls := "java/lang/Integer", name := "<init>", desc := "(I)V" } : Jvm.MethodName) jdk_33_method_23_code (2 : Nat) (Option.none : Option Jvm.ClassFile.FieldType)).before args0 about1 = true := code_word (m := ⟨16, 1⟩) (meth := k16m1) (c := k16c1) (by decide +kernel) rfl rfl rfl (by decide +kernel)
set_option maxRecDepth 65536 in
theorem w_c20 : (Jvm.Cond.code ({ cls := "java/lang/Number", name := "<init>", desc := "()V" } : Jvm.MethodName) jdk_18_method_1_code (1 : Nat) (Option.none : Option Jvm.ClassFile.FieldType)).before args0 about1 = true := code_word (m := ⟨12, 0⟩) (meth := k12m0) (c := k12c0) (by decide +kernel) rfl rfl rfl (by decide +kernel)
def codes1 : List Jvm.Cond := [Jvm.Cond.code x code maxLocals ret, Jvm.Cond.code ({ cls := "java/util/ArrayList", name := "<init>", desc := "()V" } : Jvm.MethodName) jdk_38_method_2_code (1 : Nat) (Option.none : Option Jvm.ClassFile.FieldType), Jvm.Cond.code ({ cls := "java/util/AbstractList", name := "<init>", desc := "()V" } : Jvm.MethodName) jdk_39_method_1_code (1 : Nat) (Option.none : Option Jvm.ClassFile.FieldType), Jvm.Cond.code ({ cls := "java/util/AbstractCollection", name := "<init>", desc := "()V" } : Jvm.MethodName) jdk_22_method_1_code (1 : Nat) (Option.none : Option Jvm.ClassFile.FieldType), Jvm.Cond.code ({ cls := "java/lang/Object", name := "<init>", desc := "()V" } : Jvm.MethodName) object_method_1_code (1 : Nat) (Option.none : Option Jvm.ClassFile.FieldType), Jvm.Cond.code ({ cls := "java/lang/Integer", name := "valueOf", desc := "(I)Ljava/lang/Integer;" } : Jvm.MethodName) jdk_33_method_22_code (1 : Nat) (Option.some (Jvm.ClassFile.FieldType.object "java/lang/Integer")), Jvm.Cond.code ({ cls := "java/util/ArrayList", name := "add", desc := "(Ljava/lang/Object;)Z" } : Jvm.MethodName) jdk_38_method_25_code (2 : Nat) (Option.some Jvm.ClassFile.FieldType.boolean), Jvm.Cond.code ({ cls := "java/util/ArrayList", name := "add", desc := "(Ljava/lang/Object;[Ljava/lang/Object;I)V" } : Jvm.MethodName) jdk_38_method_24_code (4 : Nat) (Option.none : Option Jvm.ClassFile.FieldType), Jvm.Cond.code ({ cls := "java/util/ArrayList", name := "grow", desc := "()[Ljava/lang/Object;" } : Jvm.MethodName) jdk_38_method_7_code (1 : Nat) (Option.some (Jvm.ClassFile.FieldType.array (Jvm.ClassFile.FieldType.object "java/lang/Object"))), Jvm.Cond.code ({ cls := "java/util/ArrayList", name := "grow", desc := "(I)[Ljava/lang/Object;" } : Jvm.MethodName) jdk_38_method_6_code (4 : Nat) (Option.some (Jvm.ClassFile.FieldType.array (Jvm.ClassFile.FieldType.object "java/lang/Object"))), Jvm.Cond.code ({ cls := "java/lang/Math", name := "max", desc := "(II)I" } : Jvm.MethodName) jdk_29_method_65_code (2 : Nat) (Option.some Jvm.ClassFile.FieldType.int), Jvm.Cond.code ({ cls := "com/example/rationed_session/rationedsession/model/Partition", name := "<init>", desc := "(IILjava/util/List;)V" } : Jvm.MethodName) prog_6_method_1_code (4 : Nat) (Option.none : Option Jvm.ClassFile.FieldType), Jvm.Cond.code ({ cls := "java/util/Collections", name := "unmodifiableList", desc := "(Ljava/util/List;)Ljava/util/List;" } : Jvm.MethodName) jdk_79_method_35_code (1 : Nat) (Option.some (Jvm.ClassFile.FieldType.object "java/util/List")), Jvm.Cond.code ({ cls := "java/util/Collections$UnmodifiableRandomAccessList", name := "<init>", desc := "(Ljava/util/List;)V" } : Jvm.MethodName) jdk_121_method_1_code (2 : Nat) (Option.none : Option Jvm.ClassFile.FieldType), Jvm.Cond.code ({ cls := "java/util/Collections$UnmodifiableList", name := "<init>", desc := "(Ljava/util/List;)V" } : Jvm.MethodName) jdk_120_method_1_code (2 : Nat) (Option.none : Option Jvm.ClassFile.FieldType), Jvm.Cond.code ({ cls := "java/util/Collections$UnmodifiableCollection", name := "<init>", desc := "(Ljava/util/Collection;)V" } : Jvm.MethodName) jdk_119_method_1_code (2 : Nat) (Option.none : Option Jvm.ClassFile.FieldType), Jvm.Cond.code ({ cls := "com/example/rationed_session/rationedsession/model/Partition", name := "holds", desc := "(I)Z" } : Jvm.MethodName) prog_6_method_4_code (2 : Nat) (Option.some Jvm.ClassFile.FieldType.boolean), Jvm.Cond.code ({ cls := "java/util/Collections$UnmodifiableCollection", name := "size", desc := "()I" } : Jvm.MethodName) jdk_119_method_2_code (1 : Nat) (Option.some Jvm.ClassFile.FieldType.int), Jvm.Cond.code ({ cls := "java/util/ArrayList", name := "size", desc := "()I" } : Jvm.MethodName) jdk_38_method_8_code (1 : Nat) (Option.some Jvm.ClassFile.FieldType.int), Jvm.Cond.code ({ cls := "java/lang/Integer", name := "<init>", desc := "(I)V" } : Jvm.MethodName) jdk_33_method_23_code (2 : Nat) (Option.none : Option Jvm.ClassFile.FieldType), Jvm.Cond.code ({ cls := "java/lang/Number", name := "<init>", desc := "()V" } : Jvm.MethodName) jdk_18_method_1_code (1 : Nat) (Option.none : Option Jvm.ClassFile.FieldType)]
set_option maxRecDepth 65536 in
theorem codes_eq : words1.filter isCode = codes1 := rfl
theorem w_codes : ∀ c ∈ words1.filter isCode, c.before args0 about1 = true := by
  rw [codes_eq]
  intro c hc
  simp only [codes1, List.mem_cons, List.not_mem_nil, or_false] at hc
  rcases hc with rfl | rfl | rfl | rfl | rfl | rfl | rfl | rfl | rfl | rfl | rfl | rfl | rfl | rfl | rfl | rfl | rfl | rfl | rfl | rfl | rfl
  · exact w_c0
  · exact w_c1
  · exact w_c2
  · exact w_c3
  · exact w_c4
  · exact w_c5
  · exact w_c6
  · exact w_c7
  · exact w_c8
  · exact w_c9
  · exact w_c10
  · exact w_c11
  · exact w_c12
  · exact w_c13
  · exact w_c14
  · exact w_c15
  · exact w_c16
  · exact w_c17
  · exact w_c18
  · exact w_c19
  · exact w_c20
set_option maxRecDepth 65536 in
theorem w_t1 : (words1.take 24).all (fun c => isCode c || c.before args0 about1) = true := by decide +kernel
set_option maxRecDepth 65536 in
theorem w_t2 : ((words1.drop 24).take 24).all (fun c => isCode c || c.before args0 about1) = true := by decide +kernel
set_option maxRecDepth 65536 in
theorem w_t3 : (((words1.drop 24).drop 24).take 24).all (fun c => isCode c || c.before args0 about1) = true := by decide +kernel
set_option maxRecDepth 65536 in
theorem w_t4 : ((((words1.drop 24).drop 24).drop 24).take 24).all (fun c => isCode c || c.before args0 about1) = true := by decide +kernel
set_option maxRecDepth 65536 in
theorem w_t5 : (((((words1.drop 24).drop 24).drop 24).drop 24).take 24).all (fun c => isCode c || c.before args0 about1) = true := by decide +kernel
set_option maxRecDepth 65536 in
theorem w_t6 : ((((((words1.drop 24).drop 24).drop 24).drop 24).drop 24).take 24).all (fun c => isCode c || c.before args0 about1) = true := by decide +kernel
set_option maxRecDepth 65536 in
theorem w_t7 : ((((((words1.drop 24).drop 24).drop 24).drop 24).drop 24).drop 24).all (fun c => isCode c || c.before args0 about1) = true := by decide +kernel
theorem w_tables : (allAtoms (Jvm.Cond.code x code maxLocals ret :: tables_1)).before args0 about1 = true := by
  rw [allAtoms_all]
  show words1.all (fun c => c.before args0 about1) = true
  refine all_split ?_ w_codes
  rw [← List.take_append_drop 24 words1, List.all_append, w_t1, ← List.take_append_drop 24 (words1.drop 24), List.all_append, w_t2, ← List.take_append_drop 24 ((words1.drop 24).drop 24), List.all_append, w_t3, ← List.take_append_drop 24 (((words1.drop 24).drop 24).drop 24), List.all_append, w_t4, ← List.take_append_drop 24 ((((words1.drop 24).drop 24).drop 24).drop 24), List.all_append, w_t5, ← List.take_append_drop 24 (((((words1.drop 24).drop 24).drop 24).drop 24).drop 24), List.all_append, w_t6, w_t7]
  rfl
set_option maxRecDepth 65536 in
theorem w_rest : rest_1_c.before args0 about1 = true := by decide +kernel
set_option maxRecDepth 65536 in
theorem w_case : (Jvm.Cond.and given_1 narrow_1).before args0 about1 = true := by decide +kernel
theorem w_applies : (headSpec (Jvm.Cond.code x code maxLocals ret :: tables_1) room_1).applies x e0.platform about1 = true :=
  (Spec.applies_iff w_frames).mpr ⟨w_running, w_runnable, w_alone, w_named, w_hears, w_ripe, w_room, w_tables⟩
set_option maxRecDepth 65536 in
theorem atStart : AtStart classFile x code maxLocals ret World_1 tables_1 room_1 Calls_1 rest_1 Pre_1 launch0 p0 e0 about1 theMethod args0 below0 :=
  ⟨lists_1, trivial, launch0.admits_env _ _ _, launch0.least_env, fairChoices_fair.cas, fairChoices_fair.clock, w_frames, w_args, w_heap, w_applies, ⟨⟨11, k11, 2, by decide +kernel, rfl, rfl, _, rfl, rfl⟩, ⟨⟨22, k22, 3, by decide +kernel, rfl, rfl, _, rfl, rfl⟩, ⟨⟨23, k23, 4, by decide +kernel, rfl, rfl, _, rfl, rfl⟩, trivial⟩⟩⟩, w_rest, w_case⟩
end start1
theorem witness_1 : WitnessClaimed_1 := ⟨start1.p0, start1.e0, start1.about1, start1.theMethod, start1.args0, start1.below0, start1.atStart⟩
end Jvm.Pilot.@@N@@
