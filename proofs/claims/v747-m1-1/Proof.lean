import JvmDerived
import JvmDerived.Pilot.@@N@@Statement
import JvmDerived.Pilot.@@N@@Code
set_option linter.unusedVariables false
set_option linter.unusedSimpArgs false
namespace Jvm.RoadKit
open Sem ClassFile Op Lib Jvm.Stand Jvm.Free Jvm.LawKit
section New
variable {p : Program} {l : Launch} {e : Env} {R : Room} {s : State} {m : MethodId} {args : Array Value} {below : List Frame} {meth : Method} {c : Code} {T : State} {locs : List Loc} {cells slots : Nat}
theorem retI (X : Stand p l e R s m args below meth c T locs cells slots) (hx : p.tables.exec = Jvm.exec) {pc : Nat} {Ls : Array Slot} {z : Int32} {rest : List Value} (hret : meth.sig.returnType = some .int) (hd : decode c.code pc = .ok (.ireturn, 1)) {fs : List Frame}
    (hl : ∀ (f : JFrame) (acts : List Action), f.method = m → f.locked = none → f.entered = [] → (doReturn e (T.setTop f) acts (some (.int z))).1 = T.setFrames fs) : Steps p.tables e below (T.setTop (mkF m pc Ls (.int z :: rest))) (T.setFrames fs) := by
  have hm' : T.vm.method? m = some meth := X.method'
  have hn : narrow .int (.int z) = .int z := rfl
  show Steps p.tables e below (T.setTop { method := m, pc := pc, locals := Ls, stack := _ :: rest, locked := none }) _
  jvm_step X.here [X.here.top, hx, hd, hm', hret, hn]
  first | (intro acts; rw [hl _ acts rfl rfl rfl]) | rw [hl _ _ rfl rfl rfl]
  exact Steps.refl _
end New
section Own
variable {p : Program} {l : Launch} {e : Env} {R : Room} {s : State} {m : MethodId} {args : Array Value} {below : List Frame} {meth : Method} {c : Code} {T A B : State} {locs : List Loc} {cells slots k n : Nat} {Q : Option Value → Heap → List Loc → Prop}
/-- from A the walk comes to its end, and Q holds there -/
def own_Go (p : Program) (e : Env) (below : List Frame) (s : State) (Q : Option Value → Heap → List Loc → Prop) (k n : Nat) (A : State) : Prop :=
  ∃ s₂ o, Steps p.tables e below A s₂ ∧ s₂.status = .running ∧ Ended s₂ below o ∧ ∃ v L, o = .returned v ∧ Q v s₂.heap L ∧ FrameEnd s o s₂ L k n
theorem own_st (h : ∀ t, Steps p.tables e below B t → Steps p.tables e below A t) (g : own_Go p e below s Q k n B) : own_Go p e below s Q k n A := by
  obtain ⟨s₂, o, h1, r⟩ := g
  exact ⟨s₂, o, h _ h1, r⟩
theorem own_tr (h : Steps p.tables e below A B) (g : own_Go p e below s Q k n B) : own_Go p e below s Q k n A := own_st (fun _ q => h.trans q) g
theorem own_end (X : Stand p l e R s m args below meth c T locs cells slots) (hlk : meth.locks = false) {v : Option Value} (hv : meth.sig.returnType = none → v = none) (hk : cells ≤ k) (hn : slots ≤ n) (hQ : Q v T.heap locs) {g : JFrame}
    (hgo : ∀ fs, (∀ (f : JFrame) (acts : List Action), f.method = m → f.locked = none → f.entered = [] → (doReturn e (T.setTop f) acts v).1 = T.setFrames fs) → Steps p.tables e below (T.setTop g) (T.setFrames fs)) : own_Go p e below s Q k n (T.setTop g) := by
  obtain ⟨fs, hr, hrun, hended, hW, hsame⟩ := X.leave hv hlk
  exact ⟨_, _, hgo fs hr, hrun, hended, v, locs, rfl, hQ, ⟨_, rfl⟩, hW, hsame.mono hk hn⟩
theorem own_retI (X : Stand p l e R s m args below meth c T locs cells slots) (hx : p.tables.exec = Jvm.exec) (hlk : meth.locks = false) {pc : Nat} {Ls : Array Slot} {z : Int32} {rest : List Value} (hret : meth.sig.returnType = some .int) (hd : decode c.code pc = .ok (.ireturn, 1)) (hk : cells ≤ k) (hn : slots ≤ n) (hQ : Q (some (.int z)) T.heap locs) :
    own_Go p e below s Q k n (T.setTop (mkF m pc Ls (.int z :: rest))) := own_end X hlk (fun h => by rw [hret] at h; cases h) hk hn hQ fun fs hr => retI X hx hret hd hr
theorem own_retN (X : Stand p l e R s m args below meth c T locs cells slots) (hx : p.tables.exec = Jvm.exec) (hlk : meth.locks = false) {pc : Nat} {Ls : Array Slot} {z z' : Int32} {rest : List Value} {t : FieldType} (hret : meth.sig.returnType = some t) (ht : t = .boolean ∨ t = .byte ∨ t = .char ∨ t = .short) (hz : nar t z = z') (hd : decode c.code pc = .ok (.ireturn, 1)) (hk : cells ≤ k) (hn : slots ≤ n) (hQ : Q (some (.int z')) T.heap locs) :
    own_Go p e below s Q k n (T.setTop (mkF m pc Ls (.int z :: rest))) := own_end X hlk (v := some (.int (nar t z))) (fun h => by rw [hret] at h; cases h) hk hn (hz ▸ hQ) fun fs hr => retN X hx hret ht hd hr
theorem own_retJ (X : Stand p l e R s m args below meth c T locs cells slots) (hx : p.tables.exec = Jvm.exec) (hlk : meth.locks = false) {pc : Nat} {Ls : Array Slot} {z : Int64} {rest : List Value} (hret : meth.sig.returnType = some .long) (hd : decode c.code pc = .ok (.lreturn, 1)) (hk : cells ≤ k) (hn : slots ≤ n) (hQ : Q (some (.long z)) T.heap locs) :
    own_Go p e below s Q k n (T.setTop (mkF m pc Ls (.long z :: rest))) := own_end X hlk (fun h => by rw [hret] at h; cases h) hk hn hQ fun fs hr => retOut X hx hret rfl (Or.inr (Or.inl ⟨rfl, rfl, _, rfl⟩)) hd hr
theorem own_retA (X : Stand p l e R s m args below meth c T locs cells slots) (hx : p.tables.exec = Jvm.exec) (hlk : meth.locks = false) {pc : Nat} {Ls : Array Slot} {w : Value} {t : FieldType} {rest : List Value} (hret : meth.sig.returnType = some t) (hw : w.isRef = true) (hd : decode c.code pc = .ok (.areturn, 1)) (hk : cells ≤ k) (hn : slots ≤ n) (hQ : Q (some w) T.heap locs) (ht : t.isReference = true := by rfl) :
    own_Go p e below s Q k n (T.setTop (mkF m pc Ls (w :: rest))) := own_end X hlk (fun h => by rw [hret] at h; cases h) hk hn hQ fun fs hr => retOut X hx hret (by cases w <;> first | (cases hw; done) | (cases t <;> first | (cases ht; done) | rfl)) (Or.inr (Or.inr (Or.inr (Or.inr ⟨rfl, ht, hw⟩)))) hd hr
theorem own_ret0 (X : Stand p l e R s m args below meth c T locs cells slots) (hx : p.tables.exec = Jvm.exec) (hlk : meth.locks = false) {pc : Nat} {Ls : Array Slot} (hret : meth.sig.returnType = none) (hd : decode c.code pc = .ok (.return_, 1)) (hk : cells ≤ k) (hn : slots ≤ n) (hQ : Q none T.heap locs) :
    own_Go p e below s Q k n (T.setTop (mkF m pc Ls [])) := own_end X hlk (fun _ => rfl) hk hn hQ fun fs hr => X.returnOut hx hret hd hr
end Own
theorem own_narR {C : String} {v : Value} (h : v.isRef = true) : narrow (.object C) v = v := by cases v <;> first | rfl | (cases h; done)
theorem own_fitR {C : String} {v : Value} (h : v.isRef = true) : fits (.object C) v = true := by cases v <;> first | rfl | (cases h; done)
theorem own_pad (n : Nat) (d : Value) (i : Nat) : (List.replicate n d).getD i d = ([] : List Value).getD i d := by
  have h := pad_rep [] d n i
  simpa using h
end Jvm.RoadKit
namespace Jvm.Pilot.@@N@@
open Jvm Jvm.ClassFile Sem Op Lib Jvm.Free Jvm.Stand Jvm.LawKit Jvm.RoadKit Bundle Jvm.Pilot.@@N@@.Jvm.D
theorem own_eqV {args : Array Value} {first s : State} {o : Option Outcome} {idx : List Nat} {t u : Term} {w : Value} (h : (Cond.eq t u).value args first o s idx = some true) (hu : u.eval args first o idx s = some w) : t.eval args first o idx s = some w := by
  simp only [Cond.value, hu] at h
  cases ht : t.eval args first o idx s with
  | none => simp [ht] at h
  | some v => cases v <;> cases w <;> simp_all

def own_pick (aT aF aU : Addr) (k : Int32) : Addr := if (k &&& 2147483647) % 3 = 0 then aT else if (k &&& 2147483647) % 3 = 1 then aF else aU
def own_rank (aT aF aU r : Addr) : Int32 := if r = aF then 0 else if r = aU then 1 else if r = aT then 2 else -1
def own_and (aT aF aU a b : Addr) : Addr := if a = aF then aF else if b = aF then aF else if a = aU then aU else if b = aU then aU else aT
def own_min (p q : Int32) : Int32 := if q < p then q else p
theorem own_plain {aT aF aU : Addr} (n1 : aT ≠ aF) (n2 : aT ≠ aU) (n3 : aF ≠ aU) (x y : Int32) :
    ¬ (own_min (own_rank aT aF aU (own_pick aT aF aU x)) (own_rank aT aF aU (own_pick aT aF aU y)) < 0) ∧
    own_rank aT aF aU (own_and aT aF aU (own_pick aT aF aU x) (own_pick aT aF aU y)) = own_min (own_rank aT aF aU (own_pick aT aF aU x)) (own_rank aT aF aU (own_pick aT aF aU y)) := by
  have hp : ∀ k, own_pick aT aF aU k = aT ∨ own_pick aT aF aU k = aF ∨ own_pick aT aF aU k = aU := by
    intro k
    unfold own_pick
    split
    · exact Or.inl rfl
    · split
      · exact Or.inr (Or.inl rfl)
      · exact Or.inr (Or.inr rfl)
  rcases hp x with h | h | h <;> rcases hp y with h' | h' | h' <;> rw [h, h'] <;> simp [own_rank, own_and, own_min, n1, n2, n3, n1.symm, n2.symm, n3.symm] <;> decide
theorem own_d_method_2_code_0 : decode method_2_code 0 = .ok (.iload_n 0, 1) := by decide +kernel
theorem own_d_method_2_code_1 : decode method_2_code 1 = .ok (.ldc 7, 2) := by decide +kernel
theorem own_d_method_2_code_3 : decode method_2_code 3 = .ok (.iand, 1) := by decide +kernel
theorem own_d_method_2_code_4 : decode method_2_code 4 = .ok (.iconst 3, 1) := by decide +kernel
theorem own_d_method_2_code_5 : decode method_2_code 5 = .ok (.irem, 1) := by decide +kernel
theorem own_d_method_2_code_6 : decode method_2_code 6 = .ok (.istore_n 1, 1) := by decide +kernel
theorem own_d_method_2_code_7 : decode method_2_code 7 = .ok (.iload_n 1, 1) := by decide +kernel
theorem own_d_method_2_code_8 : decode method_2_code 8 = .ok (.ifCond .ne 7, 3) := by decide +kernel
theorem own_d_method_2_code_11 : decode method_2_code 11 = .ok (.getstatic 8, 3) := by decide +kernel
theorem own_d_method_2_code_14 : decode method_2_code 14 = .ok (.areturn, 1) := by decide +kernel
theorem own_d_method_2_code_15 : decode method_2_code 15 = .ok (.iload_n 1, 1) := by decide +kernel
theorem own_d_method_2_code_16 : decode method_2_code 16 = .ok (.iconst 1, 1) := by decide +kernel
theorem own_d_method_2_code_17 : decode method_2_code 17 = .ok (.if_icmp .ne 7, 3) := by decide +kernel
theorem own_d_method_2_code_20 : decode method_2_code 20 = .ok (.getstatic 14, 3) := by decide +kernel
theorem own_d_method_2_code_23 : decode method_2_code 23 = .ok (.areturn, 1) := by decide +kernel
theorem own_d_method_2_code_24 : decode method_2_code 24 = .ok (.getstatic 17, 3) := by decide +kernel
theorem own_d_method_2_code_27 : decode method_2_code 27 = .ok (.areturn, 1) := by decide +kernel
theorem own_pn0 : plainFor (⟨"com/example/treeloom/treeloom/harness/qt3/TruthAndPinLaw", "pick", "(I)Lcom/example/treeloom/treeloom/harness/qt3/Assertions$Truth;"⟩ : MethodName) = true := by decide +kernel
def own_rm_pick_Q (Z : State) (p1 : Int32) (a_TRUE : Addr) (a_FALSE : Addr) (a_UNKNOWN : Addr) (h0 : Heap) (n0 : Nat) (v : Option Value) (h : Heap) (L : List Loc) : Prop := Fr n0 L ∧ v = some (.ref (own_pick a_TRUE a_FALSE a_UNKNOWN p1)) ∧ h = h0
theorem own_rm_pick_ef (m : MethodId) (p1 : Int32) : entryFrame m #[(.int p1)] 2 = mkF m 0 #[.val (.int p1), .unset] [] := by first | (simp [entryFrame, mkF, argsToLocals, Value.category]; done) | rfl
set_option maxRecDepth 65536 in
set_option maxHeartbeats 40000000 in
theorem own_rm_pick (l : Launch) (Z : State) (a0 : Array Value) (hw : ∀ d ∈ tables_1, d.before a0 Z = true) (ws : List Jvm.Cond) (p1 : Int32) (a_TRUE : Addr) (a_FALSE : Addr) (a_UNKNOWN : Addr) (h0 : Heap) (n0 : Nat) (Z0 : n0 ≤ h0.size) (O0 : Old Z n0 h0) (S_a_TRUE : Sta Z Z.heap "com/example/treeloom/treeloom/harness/qt3/Assertions$Truth" "TRUE" "Lcom/example/treeloom/treeloom/harness/qt3/Assertions$Truth;" (.ref a_TRUE)) (S_a_FALSE : Sta Z Z.heap "com/example/treeloom/treeloom/harness/qt3/Assertions$Truth" "FALSE" "Lcom/example/treeloom/treeloom/harness/qt3/Assertions$Truth;" (.ref a_FALSE)) (S_a_UNKNOWN : Sta Z Z.heap "com/example/treeloom/treeloom/harness/qt3/Assertions$Truth" "UNKNOWN" "Lcom/example/treeloom/treeloom/harness/qt3/Assertions$Truth;" (.ref a_UNKNOWN)) :
    MetFree l (⟨"com/example/treeloom/treeloom/harness/qt3/TruthAndPinLaw", "pick", "(I)Lcom/example/treeloom/treeloom/harness/qt3/Assertions$Truth;"⟩ : MethodName) (head1 (Jvm.Cond.code (⟨"com/example/treeloom/treeloom/harness/qt3/TruthAndPinLaw", "pick", "(I)Lcom/example/treeloom/treeloom/harness/qt3/Assertions$Truth;"⟩ : MethodName) method_2_code 2 (some (.object "com/example/treeloom/treeloom/harness/qt3/Assertions$Truth")) :: ws) ({ frames := 0, cells := 0, slots := 0, locals := 0 } : Room)) (fun a U => a = #[(.int p1)] ∧ Z.Warmed39 U.vm ∧ U.heap = h0) (fun _ _ _ _ _ => True) (fun _ U o U' => ∃ v L, o = .returned v ∧ own_rm_pick_Q Z p1 a_TRUE a_FALSE a_UNKNOWN h0 n0 v U'.heap L ∧ FrameEnd U o U' L ({ frames := 0, cells := 0, slots := 0, locals := 0 } : Room).cells ({ frames := 0, cells := 0, slots := 0, locals := 0 } : Room).slots) := by
  refine MetFree.of_bodySF own_pn0 hisR ?_
  intro p e s m args below meth c s₁ Bd hml0 hP hK
  obtain ⟨rfl, hZ, hh⟩ := hP
  have hx := Bd.exec
  have hby := Bd.bytes
  have hml : c.maxLocals = 2 := hml0
  have hlk := BodyLoose.notSynchronized Bd
  have hown : s.vm.findClass "com/example/treeloom/treeloom/harness/qt3/TruthAndPinLaw" = some m.cls := findClass_of_methodNamed Bd.named
  have hnm := (name_of_methodNamed Bd.named Bd.method).1
  have X0 : Stand p l e ({ frames := 0, cells := 0, slots := 0, locals := 0 } : Room) s m #[(.int p1)] below meth c s₁ [] 0 0 := Stand.of_body Bd
  have e0 : s₁.heap = h0 := by rw [← hh, Bd.state]; rfl
  have N0 := Fr.nil n0
  show own_Go p e below s (own_rm_pick_Q Z p1 a_TRUE a_FALSE a_UNKNOWN h0 n0) ({ frames := 0, cells := 0, slots := 0, locals := 0 } : Room).cells ({ frames := 0, cells := 0, slots := 0, locals := 0 } : Room).slots (s₁.setTop (entryFrame m #[(.int p1)] 2))
  rw [own_rm_pick_ef]
  show own_Go p e below s _ _ _ (s₁.setTop (mkF m 0 #[.val (.int p1), .unset] []))
  refine own_st (fun _ k => XS.iloadN X0.here hx rfl (hb hby own_d_method_2_code_0) rfl k) ?_
  show own_Go p e below s _ _ _ (s₁.setTop (mkF m 1 #[.val (.int p1), .unset] [(.int p1)]))
  refine own_st (fun _ k => X0.ldcI hx hown (mvT hZ (hw _ (List.mem_of_getElem? (i := 4) rfl))) rfl (hb hby own_d_method_2_code_1) k) ?_
  show own_Go p e below s _ _ _ (s₁.setTop (mkF m 3 #[.val (.int p1), .unset] [(.int (2147483647 : Int32)), (.int p1)]))
  refine own_st (fun _ k => XS.iand X0.here hx rfl (hb hby own_d_method_2_code_3) rfl k) ?_
  show own_Go p e below s _ _ _ (s₁.setTop (mkF m 4 #[.val (.int p1), .unset] [(.int (p1 &&& (2147483647 : Int32)))]))
  refine own_st (fun _ k => XT.iconstV X0.here hx rfl (3 : Int32) (hb hby own_d_method_2_code_4) (by decide) k) ?_
  show own_Go p e below s _ _ _ (s₁.setTop (mkF m 5 #[.val (.int p1), .unset] [(.int (3 : Int32)), (.int (p1 &&& (2147483647 : Int32)))]))
  refine own_st (fun _ k => iremM X0 hx rfl (hb hby own_d_method_2_code_5) rfl (by decide) k) ?_
  show own_Go p e below s _ _ _ (s₁.setTop (mkF m 6 #[.val (.int p1), .unset] [(.int ((p1 &&& (2147483647 : Int32)) % (3 : Int32)))]))
  refine own_st (fun _ k => XS.istoreN X0.here hx rfl (hb hby own_d_method_2_code_6) rfl (l' := #[.val (.int p1), .val (.int ((p1 &&& (2147483647 : Int32)) % (3 : Int32)))]) rfl k) ?_
  show own_Go p e below s _ _ _ (s₁.setTop (mkF m 7 #[.val (.int p1), .val (.int ((p1 &&& (2147483647 : Int32)) % (3 : Int32)))] []))
  refine own_st (fun _ k => XS.iloadN X0.here hx rfl (hb hby own_d_method_2_code_7) rfl k) ?_
  show own_Go p e below s _ _ _ (s₁.setTop (mkF m 8 #[.val (.int p1), .val (.int ((p1 &&& (2147483647 : Int32)) % (3 : Int32)))] [(.int ((p1 &&& (2147483647 : Int32)) % (3 : Int32)))]))
  by_cases hc1 : ((p1 &&& (2147483647 : Int32)) % (3 : Int32)) = 0
  · refine own_st (fun _ k => XS.ifNo X0.here hx rfl (hb hby own_d_method_2_code_8) rfl (XT.i0_ne_f hc1) k) ?_
    show own_Go p e below s _ _ _ (s₁.setTop (mkF m 11 #[.val (.int p1), .val (.int ((p1 &&& (2147483647 : Int32)) % (3 : Int32)))] []))
    have F2 : Sta Z h0 "com/example/treeloom/treeloom/harness/qt3/Assertions$Truth" "TRUE" "Lcom/example/treeloom/treeloom/harness/qt3/Assertions$Truth;" (.ref a_TRUE) := S_a_TRUE.ext O0.2
    obtain ⟨T3, X3, e3, st3⟩ := getS2 X0 hx hZ hown (host := "") (Or.inl (hw _ (List.mem_of_getElem? (i := 5) rfl))) Via.refl e0 F2 (g := (mkF m 11 #[.val (.int p1), .val (.int ((p1 &&& (2147483647 : Int32)) % (3 : Int32)))] [])) rfl (hb hby own_d_method_2_code_11)
    refine own_st st3 ?_
    show own_Go p e below s _ _ _ (T3.setTop (mkF m 14 #[.val (.int p1), .val (.int ((p1 &&& (2147483647 : Int32)) % (3 : Int32)))] [(.ref a_TRUE)]))
    refine own_retA X3 hx hlk Bd.returns rfl (hb hby own_d_method_2_code_14) (by decide) (by decide) ?_
    rw [e3]
    exact ⟨N0, (by unfold own_pick; rw [if_pos hc1]), rfl⟩
  · refine own_st (fun _ k => XS.ifYes X0.here hx rfl (pc0 := 8) (pc' := 15) rfl (hb hby own_d_method_2_code_8) rfl (XT.i0_ne_t hc1) (by decide) (by decide) k) ?_
    show own_Go p e below s _ _ _ (s₁.setTop (mkF m 15 #[.val (.int p1), .val (.int ((p1 &&& (2147483647 : Int32)) % (3 : Int32)))] []))
    refine own_st (fun _ k => XS.iloadN X0.here hx rfl (hb hby own_d_method_2_code_15) rfl k) ?_
    show own_Go p e below s _ _ _ (s₁.setTop (mkF m 16 #[.val (.int p1), .val (.int ((p1 &&& (2147483647 : Int32)) % (3 : Int32)))] [(.int ((p1 &&& (2147483647 : Int32)) % (3 : Int32)))]))
    refine own_st (fun _ k => XT.iconstV X0.here hx rfl (1 : Int32) (hb hby own_d_method_2_code_16) (by decide) k) ?_
    show own_Go p e below s _ _ _ (s₁.setTop (mkF m 17 #[.val (.int p1), .val (.int ((p1 &&& (2147483647 : Int32)) % (3 : Int32)))] [(.int (1 : Int32)), (.int ((p1 &&& (2147483647 : Int32)) % (3 : Int32)))]))
    by_cases hc4 : ((p1 &&& (2147483647 : Int32)) % (3 : Int32)) = (1 : Int32)
    · refine own_st (fun _ k => XS.icmpNo X0.here hx rfl (hb hby own_d_method_2_code_17) rfl (XT.ii_ne_f hc4) k) ?_
      show own_Go p e below s _ _ _ (s₁.setTop (mkF m 20 #[.val (.int p1), .val (.int ((p1 &&& (2147483647 : Int32)) % (3 : Int32)))] []))
      have F5 : Sta Z h0 "com/example/treeloom/treeloom/harness/qt3/Assertions$Truth" "FALSE" "Lcom/example/treeloom/treeloom/harness/qt3/Assertions$Truth;" (.ref a_FALSE) := S_a_FALSE.ext O0.2
      obtain ⟨T6, X6, e6, st6⟩ := getS2 X0 hx hZ hown (host := "") (Or.inl (hw _ (List.mem_of_getElem? (i := 21) rfl))) Via.refl e0 F5 (g := (mkF m 20 #[.val (.int p1), .val (.int ((p1 &&& (2147483647 : Int32)) % (3 : Int32)))] [])) rfl (hb hby own_d_method_2_code_20)
      refine own_st st6 ?_
      show own_Go p e below s _ _ _ (T6.setTop (mkF m 23 #[.val (.int p1), .val (.int ((p1 &&& (2147483647 : Int32)) % (3 : Int32)))] [(.ref a_FALSE)]))
      refine own_retA X6 hx hlk Bd.returns rfl (hb hby own_d_method_2_code_23) (by decide) (by decide) ?_
      rw [e6]
      exact ⟨N0, (by unfold own_pick; rw [if_neg hc1, if_pos hc4]), rfl⟩
    · refine own_st (fun _ k => XS.icmpYes X0.here hx rfl (pc0 := 17) (pc' := 24) rfl (hb hby own_d_method_2_code_17) rfl (XT.ii_ne_t hc4) (by decide) (by decide) k) ?_
      show own_Go p e below s _ _ _ (s₁.setTop (mkF m 24 #[.val (.int p1), .val (.int ((p1 &&& (2147483647 : Int32)) % (3 : Int32)))] []))
      have F7 : Sta Z h0 "com/example/treeloom/treeloom/harness/qt3/Assertions$Truth" "UNKNOWN" "Lcom/example/treeloom/treeloom/harness/qt3/Assertions$Truth;" (.ref a_UNKNOWN) := S_a_UNKNOWN.ext O0.2
      obtain ⟨T8, X8, e8, st8⟩ := getS2 X0 hx hZ hown (host := "") (Or.inl (hw _ (List.mem_of_getElem? (i := 22) rfl))) Via.refl e0 F7 (g := (mkF m 24 #[.val (.int p1), .val (.int ((p1 &&& (2147483647 : Int32)) % (3 : Int32)))] [])) rfl (hb hby own_d_method_2_code_24)
      refine own_st st8 ?_
      show own_Go p e below s _ _ _ (T8.setTop (mkF m 27 #[.val (.int p1), .val (.int ((p1 &&& (2147483647 : Int32)) % (3 : Int32)))] [(.ref a_UNKNOWN)]))
      refine own_retA X8 hx hlk Bd.returns rfl (hb hby own_d_method_2_code_27) (by decide) (by decide) ?_
      rw [e8]
      exact ⟨N0, (by unfold own_pick; rw [if_neg hc1, if_neg hc4]), rfl⟩
theorem own_d_method_3_code_0 : decode method_3_code 0 = .ok (.aload_n 0, 1) := by decide +kernel
theorem own_d_method_3_code_1 : decode method_3_code 1 = .ok (.getstatic 14, 3) := by decide +kernel
theorem own_d_method_3_code_4 : decode method_3_code 4 = .ok (.if_acmp .ne 5, 3) := by decide +kernel
theorem own_d_method_3_code_7 : decode method_3_code 7 = .ok (.iconst 0, 1) := by decide +kernel
theorem own_d_method_3_code_8 : decode method_3_code 8 = .ok (.ireturn, 1) := by decide +kernel
theorem own_d_method_3_code_9 : decode method_3_code 9 = .ok (.aload_n 0, 1) := by decide +kernel
theorem own_d_method_3_code_10 : decode method_3_code 10 = .ok (.getstatic 17, 3) := by decide +kernel
theorem own_d_method_3_code_13 : decode method_3_code 13 = .ok (.if_acmp .ne 5, 3) := by decide +kernel
theorem own_d_method_3_code_16 : decode method_3_code 16 = .ok (.iconst 1, 1) := by decide +kernel
theorem own_d_method_3_code_17 : decode method_3_code 17 = .ok (.ireturn, 1) := by decide +kernel
theorem own_d_method_3_code_18 : decode method_3_code 18 = .ok (.aload_n 0, 1) := by decide +kernel
theorem own_d_method_3_code_19 : decode method_3_code 19 = .ok (.getstatic 8, 3) := by decide +kernel
theorem own_d_method_3_code_22 : decode method_3_code 22 = .ok (.if_acmp .ne 5, 3) := by decide +kernel
theorem own_d_method_3_code_25 : decode method_3_code 25 = .ok (.iconst 2, 1) := by decide +kernel
theorem own_d_method_3_code_26 : decode method_3_code 26 = .ok (.ireturn, 1) := by decide +kernel
theorem own_d_method_3_code_27 : decode method_3_code 27 = .ok (.iconst (-1), 1) := by decide +kernel
theorem own_d_method_3_code_28 : decode method_3_code 28 = .ok (.ireturn, 1) := by decide +kernel
theorem own_pn1 : plainFor (⟨"com/example/treeloom/treeloom/harness/qt3/TruthAndPinLaw", "rank", "(Lcom/example/treeloom/treeloom/harness/qt3/Assertions$Truth;)I"⟩ : MethodName) = true := by decide +kernel
def own_rm_rank_Q (Z : State) (r1 : Addr) (a_TRUE : Addr) (a_FALSE : Addr) (a_UNKNOWN : Addr) (h0 : Heap) (n0 : Nat) (v : Option Value) (h : Heap) (L : List Loc) : Prop := Fr n0 L ∧ v = some (.int (own_rank a_TRUE a_FALSE a_UNKNOWN r1)) ∧ h = h0
theorem own_rm_rank_ef (m : MethodId) (r1 : Addr) : entryFrame m #[(.ref r1)] 1 = mkF m 0 #[.val (.ref r1)] [] := by first | (simp [entryFrame, mkF, argsToLocals, Value.category]; done) | rfl
set_option maxRecDepth 65536 in
set_option maxHeartbeats 40000000 in
theorem own_rm_rank (l : Launch) (Z : State) (a0 : Array Value) (hw : ∀ d ∈ tables_1, d.before a0 Z = true) (ws : List Jvm.Cond) (r1 : Addr) (a_TRUE : Addr) (a_FALSE : Addr) (a_UNKNOWN : Addr) (h0 : Heap) (n0 : Nat) (Z0 : n0 ≤ h0.size) (O0 : Old Z n0 h0) (S_a_TRUE : Sta Z Z.heap "com/example/treeloom/treeloom/harness/qt3/Assertions$Truth" "TRUE" "Lcom/example/treeloom/treeloom/harness/qt3/Assertions$Truth;" (.ref a_TRUE)) (S_a_FALSE : Sta Z Z.heap "com/example/treeloom/treeloom/harness/qt3/Assertions$Truth" "FALSE" "Lcom/example/treeloom/treeloom/harness/qt3/Assertions$Truth;" (.ref a_FALSE)) (S_a_UNKNOWN : Sta Z Z.heap "com/example/treeloom/treeloom/harness/qt3/Assertions$Truth" "UNKNOWN" "Lcom/example/treeloom/treeloom/harness/qt3/Assertions$Truth;" (.ref a_UNKNOWN)) :
    MetFree l (⟨"com/example/treeloom/treeloom/harness/qt3/TruthAndPinLaw", "rank", "(Lcom/example/treeloom/treeloom/harness/qt3/Assertions$Truth;)I"⟩ : MethodName) (head1 (Jvm.Cond.code (⟨"com/example/treeloom/treeloom/harness/qt3/TruthAndPinLaw", "rank", "(Lcom/example/treeloom/treeloom/harness/qt3/Assertions$Truth;)I"⟩ : MethodName) method_3_code 1 (some .int) :: ws) ({ frames := 0, cells := 0, slots := 0, locals := 0 } : Room)) (fun a U => a = #[(.ref r1)] ∧ Z.Warmed39 U.vm ∧ U.heap = h0) (fun _ _ _ _ _ => True) (fun _ U o U' => ∃ v L, o = .returned v ∧ own_rm_rank_Q Z r1 a_TRUE a_FALSE a_UNKNOWN h0 n0 v U'.heap L ∧ FrameEnd U o U' L ({ frames := 0, cells := 0, slots := 0, locals := 0 } : Room).cells ({ frames := 0, cells := 0, slots := 0, locals := 0 } : Room).slots) := by
  refine MetFree.of_bodySF own_pn1 hisR ?_
  intro p e s m args below meth c s₁ Bd hml0 hP hK
  obtain ⟨rfl, hZ, hh⟩ := hP
  have hx := Bd.exec
  have hby := Bd.bytes
  have hml : c.maxLocals = 1 := hml0
  have hlk := BodyLoose.notSynchronized Bd
  have hown : s.vm.findClass "com/example/treeloom/treeloom/harness/qt3/TruthAndPinLaw" = some m.cls := findClass_of_methodNamed Bd.named
  have hnm := (name_of_methodNamed Bd.named Bd.method).1
  have X0 : Stand p l e ({ frames := 0, cells := 0, slots := 0, locals := 0 } : Room) s m #[(.ref r1)] below meth c s₁ [] 0 0 := Stand.of_body Bd
  have e0 : s₁.heap = h0 := by rw [← hh, Bd.state]; rfl
  have N0 := Fr.nil n0
  show own_Go p e below s (own_rm_rank_Q Z r1 a_TRUE a_FALSE a_UNKNOWN h0 n0) ({ frames := 0, cells := 0, slots := 0, locals := 0 } : Room).cells ({ frames := 0, cells := 0, slots := 0, locals := 0 } : Room).slots (s₁.setTop (entryFrame m #[(.ref r1)] 1))
  rw [own_rm_rank_ef]
  show own_Go p e below s _ _ _ (s₁.setTop (mkF m 0 #[.val (.ref r1)] []))
  refine own_st (fun _ k => XS.aloadN X0.here hx rfl (hb hby own_d_method_3_code_0) rfl rfl k) ?_
  show own_Go p e below s _ _ _ (s₁.setTop (mkF m 1 #[.val (.ref r1)] [(.ref r1)]))
  have F9 : Sta Z h0 "com/example/treeloom/treeloom/harness/qt3/Assertions$Truth" "FALSE" "Lcom/example/treeloom/treeloom/harness/qt3/Assertions$Truth;" (.ref a_FALSE) := S_a_FALSE.ext O0.2
  obtain ⟨T10, X10, e10, st10⟩ := getS2 X0 hx hZ hown (host := "") (Or.inl (hw _ (List.mem_of_getElem? (i := 21) rfl))) Via.refl e0 F9 (g := (mkF m 1 #[.val (.ref r1)] [(.ref r1)])) rfl (hb hby own_d_method_3_code_1)
  refine own_st st10 ?_
  show own_Go p e below s _ _ _ (T10.setTop (mkF m 4 #[.val (.ref r1)] [(.ref a_FALSE), (.ref r1)]))
  by_cases hc11 : r1 = a_FALSE
  · refine own_st (fun _ k => XT.acmpNo X10.here hx rfl (hb hby own_d_method_3_code_4) rfl rfl rfl (XT.aa_ne_f (congrArg Value.ref hc11)) k) ?_
    show own_Go p e below s _ _ _ (T10.setTop (mkF m 7 #[.val (.ref r1)] []))
    refine own_st (fun _ k => XT.iconstV X10.here hx rfl (0 : Int32) (hb hby own_d_method_3_code_7) (by decide) k) ?_
    show own_Go p e below s _ _ _ (T10.setTop (mkF m 8 #[.val (.ref r1)] [(.int (0 : Int32))]))
    refine own_retI X10 hx hlk Bd.returns (hb hby own_d_method_3_code_8) (by decide) (by decide) ?_
    rw [e10]
    exact ⟨N0, (by unfold own_rank; rw [if_pos hc11]), rfl⟩
  · refine own_st (fun _ k => XT.acmpYes X10.here hx rfl (pc0 := 4) (pc' := 9) rfl (hb hby own_d_method_3_code_4) rfl rfl rfl (XT.aa_ne_t (fun q => hc11 (Value.ref.inj q))) (by decide) (by decide) k) ?_
    show own_Go p e below s _ _ _ (T10.setTop (mkF m 9 #[.val (.ref r1)] []))
    refine own_st (fun _ k => XS.aloadN X10.here hx rfl (hb hby own_d_method_3_code_9) rfl rfl k) ?_
    show own_Go p e below s _ _ _ (T10.setTop (mkF m 10 #[.val (.ref r1)] [(.ref r1)]))
    have F12 : Sta Z h0 "com/example/treeloom/treeloom/harness/qt3/Assertions$Truth" "UNKNOWN" "Lcom/example/treeloom/treeloom/harness/qt3/Assertions$Truth;" (.ref a_UNKNOWN) := S_a_UNKNOWN.ext O0.2
    obtain ⟨T13, X13, e13, st13⟩ := getS2 X10 hx hZ hown (host := "") (Or.inl (hw _ (List.mem_of_getElem? (i := 22) rfl))) Via.refl e10 F12 (g := (mkF m 10 #[.val (.ref r1)] [(.ref r1)])) rfl (hb hby own_d_method_3_code_10)
    refine own_st st13 ?_
    show own_Go p e below s _ _ _ (T13.setTop (mkF m 13 #[.val (.ref r1)] [(.ref a_UNKNOWN), (.ref r1)]))
    by_cases hc14 : r1 = a_UNKNOWN
    · refine own_st (fun _ k => XT.acmpNo X13.here hx rfl (hb hby own_d_method_3_code_13) rfl rfl rfl (XT.aa_ne_f (congrArg Value.ref hc14)) k) ?_
      show own_Go p e below s _ _ _ (T13.setTop (mkF m 16 #[.val (.ref r1)] []))
      refine own_st (fun _ k => XT.iconstV X13.here hx rfl (1 : Int32) (hb hby own_d_method_3_code_16) (by decide) k) ?_
      show own_Go p e below s _ _ _ (T13.setTop (mkF m 17 #[.val (.ref r1)] [(.int (1 : Int32))]))
      refine own_retI X13 hx hlk Bd.returns (hb hby own_d_method_3_code_17) (by decide) (by decide) ?_
      rw [e13]
      exact ⟨N0, (by unfold own_rank; rw [if_neg hc11, if_pos hc14]), rfl⟩
    · refine own_st (fun _ k => XT.acmpYes X13.here hx rfl (pc0 := 13) (pc' := 18) rfl (hb hby own_d_method_3_code_13) rfl rfl rfl (XT.aa_ne_t (fun q => hc14 (Value.ref.inj q))) (by decide) (by decide) k) ?_
      show own_Go p e below s _ _ _ (T13.setTop (mkF m 18 #[.val (.ref r1)] []))
      refine own_st (fun _ k => XS.aloadN X13.here hx rfl (hb hby own_d_method_3_code_18) rfl rfl k) ?_
      show own_Go p e below s _ _ _ (T13.setTop (mkF m 19 #[.val (.ref r1)] [(.ref r1)]))
      have F15 : Sta Z h0 "com/example/treeloom/treeloom/harness/qt3/Assertions$Truth" "TRUE" "Lcom/example/treeloom/treeloom/harness/qt3/Assertions$Truth;" (.ref a_TRUE) := S_a_TRUE.ext O0.2
      obtain ⟨T16, X16, e16, st16⟩ := getS2 X13 hx hZ hown (host := "") (Or.inl (hw _ (List.mem_of_getElem? (i := 5) rfl))) Via.refl e13 F15 (g := (mkF m 19 #[.val (.ref r1)] [(.ref r1)])) rfl (hb hby own_d_method_3_code_19)
      refine own_st st16 ?_
      show own_Go p e below s _ _ _ (T16.setTop (mkF m 22 #[.val (.ref r1)] [(.ref a_TRUE), (.ref r1)]))
      by_cases hc17 : r1 = a_TRUE
      · refine own_st (fun _ k => XT.acmpNo X16.here hx rfl (hb hby own_d_method_3_code_22) rfl rfl rfl (XT.aa_ne_f (congrArg Value.ref hc17)) k) ?_
        show own_Go p e below s _ _ _ (T16.setTop (mkF m 25 #[.val (.ref r1)] []))
        refine own_st (fun _ k => XT.iconstV X16.here hx rfl (2 : Int32) (hb hby own_d_method_3_code_25) (by decide) k) ?_
        show own_Go p e below s _ _ _ (T16.setTop (mkF m 26 #[.val (.ref r1)] [(.int (2 : Int32))]))
        refine own_retI X16 hx hlk Bd.returns (hb hby own_d_method_3_code_26) (by decide) (by decide) ?_
        rw [e16]
        exact ⟨N0, (by unfold own_rank; rw [if_neg hc11, if_neg hc14, if_pos hc17]), rfl⟩
      · refine own_st (fun _ k => XT.acmpYes X16.here hx rfl (pc0 := 22) (pc' := 27) rfl (hb hby own_d_method_3_code_22) rfl rfl rfl (XT.aa_ne_t (fun q => hc17 (Value.ref.inj q))) (by decide) (by decide) k) ?_
        show own_Go p e below s _ _ _ (T16.setTop (mkF m 27 #[.val (.ref r1)] []))
        refine own_st (fun _ k => XT.iconstV X16.here hx rfl (-1 : Int32) (hb hby own_d_method_3_code_27) (by decide) k) ?_
        show own_Go p e below s _ _ _ (T16.setTop (mkF m 28 #[.val (.ref r1)] [(.int (-1 : Int32))]))
        refine own_retI X16 hx hlk Bd.returns (hb hby own_d_method_3_code_28) (by decide) (by decide) ?_
        rw [e16]
        exact ⟨N0, (by unfold own_rank; rw [if_neg hc11, if_neg hc14, if_neg hc17]), rfl⟩
theorem own_d_prog_148_method_5_code_0 : decode prog_148_method_5_code 0 = .ok (.aload_n 0, 1) := by decide +kernel
theorem own_d_prog_148_method_5_code_1 : decode prog_148_method_5_code 1 = .ok (.getstatic 7, 3) := by decide +kernel
theorem own_d_prog_148_method_5_code_4 : decode prog_148_method_5_code 4 = .ok (.if_acmp .eq 10, 3) := by decide +kernel
theorem own_d_prog_148_method_5_code_7 : decode prog_148_method_5_code 7 = .ok (.aload_n 1, 1) := by decide +kernel
theorem own_d_prog_148_method_5_code_8 : decode prog_148_method_5_code 8 = .ok (.getstatic 7, 3) := by decide +kernel
theorem own_d_prog_148_method_5_code_11 : decode prog_148_method_5_code 11 = .ok (.if_acmp .ne 9, 3) := by decide +kernel
theorem own_d_prog_148_method_5_code_14 : decode prog_148_method_5_code 14 = .ok (.getstatic 7, 3) := by decide +kernel
theorem own_d_prog_148_method_5_code_17 : decode prog_148_method_5_code 17 = .ok (.goto 26, 3) := by decide +kernel
theorem own_d_prog_148_method_5_code_20 : decode prog_148_method_5_code 20 = .ok (.aload_n 0, 1) := by decide +kernel
theorem own_d_prog_148_method_5_code_21 : decode prog_148_method_5_code 21 = .ok (.getstatic 10, 3) := by decide +kernel
theorem own_d_prog_148_method_5_code_24 : decode prog_148_method_5_code 24 = .ok (.if_acmp .eq 10, 3) := by decide +kernel
theorem own_d_prog_148_method_5_code_27 : decode prog_148_method_5_code 27 = .ok (.aload_n 1, 1) := by decide +kernel
theorem own_d_prog_148_method_5_code_28 : decode prog_148_method_5_code 28 = .ok (.getstatic 10, 3) := by decide +kernel
theorem own_d_prog_148_method_5_code_31 : decode prog_148_method_5_code 31 = .ok (.if_acmp .ne 9, 3) := by decide +kernel
theorem own_d_prog_148_method_5_code_34 : decode prog_148_method_5_code 34 = .ok (.getstatic 10, 3) := by decide +kernel
theorem own_d_prog_148_method_5_code_37 : decode prog_148_method_5_code 37 = .ok (.goto 6, 3) := by decide +kernel
theorem own_d_prog_148_method_5_code_40 : decode prog_148_method_5_code 40 = .ok (.getstatic 3, 3) := by decide +kernel
theorem own_d_prog_148_method_5_code_43 : decode prog_148_method_5_code 43 = .ok (.areturn, 1) := by decide +kernel
theorem own_pn2 : plainFor (⟨"com/example/treeloom/treeloom/harness/qt3/Assertions$Truth", "and", "(Lcom/example/treeloom/treeloom/harness/qt3/Assertions$Truth;)Lcom/example/treeloom/treeloom/harness/qt3/Assertions$Truth;"⟩ : MethodName) = true := by decide +kernel
def own_rm_and_Q (Z : State) (r1 : Addr) (r2 : Addr) (a_TRUE : Addr) (a_FALSE : Addr) (a_UNKNOWN : Addr) (h0 : Heap) (n0 : Nat) (v : Option Value) (h : Heap) (L : List Loc) : Prop := Fr n0 L ∧ v = some (.ref (own_and a_TRUE a_FALSE a_UNKNOWN r1 r2)) ∧ h = h0
theorem own_rm_and_ef (m : MethodId) (r1 : Addr) (r2 : Addr) : entryFrame m #[(.ref r1), (.ref r2)] 2 = mkF m 0 #[.val (.ref r1), .val (.ref r2)] [] := by first | (simp [entryFrame, mkF, argsToLocals, Value.category]; done) | rfl
set_option maxRecDepth 65536 in
set_option maxHeartbeats 40000000 in
theorem own_rm_and (l : Launch) (Z : State) (a0 : Array Value) (hw : ∀ d ∈ tables_1, d.before a0 Z = true) (ws : List Jvm.Cond) (r1 : Addr) (r2 : Addr) (a_TRUE : Addr) (a_FALSE : Addr) (a_UNKNOWN : Addr) (h0 : Heap) (n0 : Nat) (Z0 : n0 ≤ h0.size) (O0 : Old Z n0 h0) (S_a_TRUE : Sta Z Z.heap "com/example/treeloom/treeloom/harness/qt3/Assertions$Truth" "TRUE" "Lcom/example/treeloom/treeloom/harness/qt3/Assertions$Truth;" (.ref a_TRUE)) (S_a_FALSE : Sta Z Z.heap "com/example/treeloom/treeloom/harness/qt3/Assertions$Truth" "FALSE" "Lcom/example/treeloom/treeloom/harness/qt3/Assertions$Truth;" (.ref a_FALSE)) (S_a_UNKNOWN : Sta Z Z.heap "com/example/treeloom/treeloom/harness/qt3/Assertions$Truth" "UNKNOWN" "Lcom/example/treeloom/treeloom/harness/qt3/Assertions$Truth;" (.ref a_UNKNOWN)) :
    MetFree l (⟨"com/example/treeloom/treeloom/harness/qt3/Assertions$Truth", "and", "(Lcom/example/treeloom/treeloom/harness/qt3/Assertions$Truth;)Lcom/example/treeloom/treeloom/harness/qt3/Assertions$Truth;"⟩ : MethodName) (head1 (Jvm.Cond.code (⟨"com/example/treeloom/treeloom/harness/qt3/Assertions$Truth", "and", "(Lcom/example/treeloom/treeloom/harness/qt3/Assertions$Truth;)Lcom/example/treeloom/treeloom/harness/qt3/Assertions$Truth;"⟩ : MethodName) prog_148_method_5_code 2 (some (.object "com/example/treeloom/treeloom/harness/qt3/Assertions$Truth")) :: ws) ({ frames := 0, cells := 0, slots := 0, locals := 0 } : Room)) (fun a U => a = #[(.ref r1), (.ref r2)] ∧ Z.Warmed39 U.vm ∧ U.heap = h0) (fun _ _ _ _ _ => True) (fun _ U o U' => ∃ v L, o = .returned v ∧ own_rm_and_Q Z r1 r2 a_TRUE a_FALSE a_UNKNOWN h0 n0 v U'.heap L ∧ FrameEnd U o U' L ({ frames := 0, cells := 0, slots := 0, locals := 0 } : Room).cells ({ frames := 0, cells := 0, slots := 0, locals := 0 } : Room).slots) := by
  refine MetFree.of_bodySF own_pn2 hisR ?_
  intro p e s m args below meth c s₁ Bd hml0 hP hK
  obtain ⟨rfl, hZ, hh⟩ := hP
  have hx := Bd.exec
  have hby := Bd.bytes
  have hml : c.maxLocals = 2 := hml0
  have hlk := BodyLoose.notSynchronized Bd
  have hown : s.vm.findClass "com/example/treeloom/treeloom/harness/qt3/Assertions$Truth" = some m.cls := findClass_of_methodNamed Bd.named
  have hnm := (name_of_methodNamed Bd.named Bd.method).1
  have X0 : Stand p l e ({ frames := 0, cells := 0, slots := 0, locals := 0 } : Room) s m #[(.ref r1), (.ref r2)] below meth c s₁ [] 0 0 := Stand.of_body Bd
  have e0 : s₁.heap = h0 := by rw [← hh, Bd.state]; rfl
  have N0 := Fr.nil n0
  show own_Go p e below s (own_rm_and_Q Z r1 r2 a_TRUE a_FALSE a_UNKNOWN h0 n0) ({ frames := 0, cells := 0, slots := 0, locals := 0 } : Room).cells ({ frames := 0, cells := 0, slots := 0, locals := 0 } : Room).slots (s₁.setTop (entryFrame m #[(.ref r1), (.ref r2)] 2))
  rw [own_rm_and_ef]
  show own_Go p e below s _ _ _ (s₁.setTop (mkF m 0 #[.val (.ref r1), .val (.ref r2)] []))
  refine own_st (fun _ k => XS.aloadN X0.here hx rfl (hb hby own_d_prog_148_method_5_code_0) rfl rfl k) ?_
  show own_Go p e below s _ _ _ (s₁.setTop (mkF m 1 #[.val (.ref r1), .val (.ref r2)] [(.ref r1)]))
  have F18 : Sta Z h0 "com/example/treeloom/treeloom/harness/qt3/Assertions$Truth" "FALSE" "Lcom/example/treeloom/treeloom/harness/qt3/Assertions$Truth;" (.ref a_FALSE) := S_a_FALSE.ext O0.2
  obtain ⟨T19, X19, e19, st19⟩ := getS2 X0 hx hZ hown (host := "") (Or.inl (hw _ (List.mem_of_getElem? (i := 13) rfl))) Via.refl e0 F18 (g := (mkF m 1 #[.val (.ref r1), .val (.ref r2)] [(.ref r1)])) rfl (hb hby own_d_prog_148_method_5_code_1)
  refine own_st st19 ?_
  show own_Go p e below s _ _ _ (T19.setTop (mkF m 4 #[.val (.ref r1), .val (.ref r2)] [(.ref a_FALSE), (.ref r1)]))
  by_cases hc20 : r1 = a_FALSE
  · refine own_st (fun _ k => XT.acmpYes X19.here hx rfl (pc0 := 4) (pc' := 14) rfl (hb hby own_d_prog_148_method_5_code_4) rfl rfl rfl (XT.aa_eq_t (congrArg Value.ref hc20)) (by decide) (by decide) k) ?_
    show own_Go p e below s _ _ _ (T19.setTop (mkF m 14 #[.val (.ref r1), .val (.ref r2)] []))
    have F21 : Sta Z h0 "com/example/treeloom/treeloom/harness/qt3/Assertions$Truth" "FALSE" "Lcom/example/treeloom/treeloom/harness/qt3/Assertions$Truth;" (.ref a_FALSE) := S_a_FALSE.ext O0.2
    obtain ⟨T22, X22, e22, st22⟩ := getS2 X19 hx hZ hown (host := "") (Or.inl (hw _ (List.mem_of_getElem? (i := 13) rfl))) Via.refl e19 F21 (g := (mkF m 14 #[.val (.ref r1), .val (.ref r2)] [])) rfl (hb hby own_d_prog_148_method_5_code_14)
    refine own_st st22 ?_
    show own_Go p e below s _ _ _ (T22.setTop (mkF m 17 #[.val (.ref r1), .val (.ref r2)] [(.ref a_FALSE)]))
    refine own_st (fun _ k => XS.goto X22.here hx rfl (pc0 := 17) (pc' := 43) rfl (hb hby own_d_prog_148_method_5_code_17) (by decide) (by decide) k) ?_
    show own_Go p e below s _ _ _ (T22.setTop (mkF m 43 #[.val (.ref r1), .val (.ref r2)] [(.ref a_FALSE)]))
    refine own_retA X22 hx hlk Bd.returns rfl (hb hby own_d_prog_148_method_5_code_43) (by decide) (by decide) ?_
    rw [e22]
    exact ⟨N0, (by unfold own_and; rw [if_pos hc20]), rfl⟩
  · refine own_st (fun _ k => XT.acmpNo X19.here hx rfl (hb hby own_d_prog_148_method_5_code_4) rfl rfl rfl (XT.aa_eq_f (fun q => hc20 (Value.ref.inj q))) k) ?_
    show own_Go p e below s _ _ _ (T19.setTop (mkF m 7 #[.val (.ref r1), .val (.ref r2)] []))
    refine own_st (fun _ k => XS.aloadN X19.here hx rfl (hb hby own_d_prog_148_method_5_code_7) rfl rfl k) ?_
    show own_Go p e below s _ _ _ (T19.setTop (mkF m 8 #[.val (.ref r1), .val (.ref r2)] [(.ref r2)]))
    have F23 : Sta Z h0 "com/example/treeloom/treeloom/harness/qt3/Assertions$Truth" "FALSE" "Lcom/example/treeloom/treeloom/harness/qt3/Assertions$Truth;" (.ref a_FALSE) := S_a_FALSE.ext O0.2
    obtain ⟨T24, X24, e24, st24⟩ := getS2 X19 hx hZ hown (host := "") (Or.inl (hw _ (List.mem_of_getElem? (i := 13) rfl))) Via.refl e19 F23 (g := (mkF m 8 #[.val (.ref r1), .val (.ref r2)] [(.ref r2)])) rfl (hb hby own_d_prog_148_method_5_code_8)
    refine own_st st24 ?_
    show own_Go p e below s _ _ _ (T24.setTop (mkF m 11 #[.val (.ref r1), .val (.ref r2)] [(.ref a_FALSE), (.ref r2)]))
    by_cases hc25 : r2 = a_FALSE
    · refine own_st (fun _ k => XT.acmpNo X24.here hx rfl (hb hby own_d_prog_148_method_5_code_11) rfl rfl rfl (XT.aa_ne_f (congrArg Value.ref hc25)) k) ?_
      show own_Go p e below s _ _ _ (T24.setTop (mkF m 14 #[.val (.ref r1), .val (.ref r2)] []))
      have F26 : Sta Z h0 "com/example/treeloom/treeloom/harness/qt3/Assertions$Truth" "FALSE" "Lcom/example/treeloom/treeloom/harness/qt3/Assertions$Truth;" (.ref a_FALSE) := S_a_FALSE.ext O0.2
      obtain ⟨T27, X27, e27, st27⟩ := getS2 X24 hx hZ hown (host := "") (Or.inl (hw _ (List.mem_of_getElem? (i := 13) rfl))) Via.refl e24 F26 (g := (mkF m 14 #[.val (.ref r1), .val (.ref r2)] [])) rfl (hb hby own_d_prog_148_method_5_code_14)
      refine own_st st27 ?_
      show own_Go p e below s _ _ _ (T27.setTop (mkF m 17 #[.val (.ref r1), .val (.ref r2)] [(.ref a_FALSE)]))
      refine own_st (fun _ k => XS.goto X27.here hx rfl (pc0 := 17) (pc' := 43) rfl (hb hby own_d_prog_148_method_5_code_17) (by decide) (by decide) k) ?_
      show own_Go p e below s _ _ _ (T27.setTop (mkF m 43 #[.val (.ref r1), .val (.ref r2)] [(.ref a_FALSE)]))
      refine own_retA X27 hx hlk Bd.returns rfl (hb hby own_d_prog_148_method_5_code_43) (by decide) (by decide) ?_
      rw [e27]
      exact ⟨N0, (by unfold own_and; rw [if_neg hc20, if_pos hc25]), rfl⟩
    · refine own_st (fun _ k => XT.acmpYes X24.here hx rfl (pc0 := 11) (pc' := 20) rfl (hb hby own_d_prog_148_method_5_code_11) rfl rfl rfl (XT.aa_ne_t (fun q => hc25 (Value.ref.inj q))) (by decide) (by decide) k) ?_
      show own_Go p e below s _ _ _ (T24.setTop (mkF m 20 #[.val (.ref r1), .val (.ref r2)] []))
      refine own_st (fun _ k => XS.aloadN X24.here hx rfl (hb hby own_d_prog_148_method_5_code_20) rfl rfl k) ?_
      show own_Go p e below s _ _ _ (T24.setTop (mkF m 21 #[.val (.ref r1), .val (.ref r2)] [(.ref r1)]))
      have F28 : Sta Z h0 "com/example/treeloom/treeloom/harness/qt3/Assertions$Truth" "UNKNOWN" "Lcom/example/treeloom/treeloom/harness/qt3/Assertions$Truth;" (.ref a_UNKNOWN) := S_a_UNKNOWN.ext O0.2
      obtain ⟨T29, X29, e29, st29⟩ := getS2 X24 hx hZ hown (host := "") (Or.inl (hw _ (List.mem_of_getElem? (i := 15) rfl))) Via.refl e24 F28 (g := (mkF m 21 #[.val (.ref r1), .val (.ref r2)] [(.ref r1)])) rfl (hb hby own_d_prog_148_method_5_code_21)
      refine own_st st29 ?_
      show own_Go p e below s _ _ _ (T29.setTop (mkF m 24 #[.val (.ref r1), .val (.ref r2)] [(.ref a_UNKNOWN), (.ref r1)]))
      by_cases hc30 : r1 = a_UNKNOWN
      · refine own_st (fun _ k => XT.acmpYes X29.here hx rfl (pc0 := 24) (pc' := 34) rfl (hb hby own_d_prog_148_method_5_code_24) rfl rfl rfl (XT.aa_eq_t (congrArg Value.ref hc30)) (by decide) (by decide) k) ?_
        show own_Go p e below s _ _ _ (T29.setTop (mkF m 34 #[.val (.ref r1), .val (.ref r2)] []))
        have F31 : Sta Z h0 "com/example/treeloom/treeloom/harness/qt3/Assertions$Truth" "UNKNOWN" "Lcom/example/treeloom/treeloom/harness/qt3/Assertions$Truth;" (.ref a_UNKNOWN) := S_a_UNKNOWN.ext O0.2
        obtain ⟨T32, X32, e32, st32⟩ := getS2 X29 hx hZ hown (host := "") (Or.inl (hw _ (List.mem_of_getElem? (i := 15) rfl))) Via.refl e29 F31 (g := (mkF m 34 #[.val (.ref r1), .val (.ref r2)] [])) rfl (hb hby own_d_prog_148_method_5_code_34)
        refine own_st st32 ?_
        show own_Go p e below s _ _ _ (T32.setTop (mkF m 37 #[.val (.ref r1), .val (.ref r2)] [(.ref a_UNKNOWN)]))
        refine own_st (fun _ k => XS.goto X32.here hx rfl (pc0 := 37) (pc' := 43) rfl (hb hby own_d_prog_148_method_5_code_37) (by decide) (by decide) k) ?_
        show own_Go p e below s _ _ _ (T32.setTop (mkF m 43 #[.val (.ref r1), .val (.ref r2)] [(.ref a_UNKNOWN)]))
        refine own_retA X32 hx hlk Bd.returns rfl (hb hby own_d_prog_148_method_5_code_43) (by decide) (by decide) ?_
        rw [e32]
        exact ⟨N0, (by unfold own_and; rw [if_neg hc20, if_neg hc25, if_pos hc30]), rfl⟩
      · refine own_st (fun _ k => XT.acmpNo X29.here hx rfl (hb hby own_d_prog_148_method_5_code_24) rfl rfl rfl (XT.aa_eq_f (fun q => hc30 (Value.ref.inj q))) k) ?_
        show own_Go p e below s _ _ _ (T29.setTop (mkF m 27 #[.val (.ref r1), .val (.ref r2)] []))
        refine own_st (fun _ k => XS.aloadN X29.here hx rfl (hb hby own_d_prog_148_method_5_code_27) rfl rfl k) ?_
        show own_Go p e below s _ _ _ (T29.setTop (mkF m 28 #[.val (.ref r1), .val (.ref r2)] [(.ref r2)]))
        have F33 : Sta Z h0 "com/example/treeloom/treeloom/harness/qt3/Assertions$Truth" "UNKNOWN" "Lcom/example/treeloom/treeloom/harness/qt3/Assertions$Truth;" (.ref a_UNKNOWN) := S_a_UNKNOWN.ext O0.2
        obtain ⟨T34, X34, e34, st34⟩ := getS2 X29 hx hZ hown (host := "") (Or.inl (hw _ (List.mem_of_getElem? (i := 15) rfl))) Via.refl e29 F33 (g := (mkF m 28 #[.val (.ref r1), .val (.ref r2)] [(.ref r2)])) rfl (hb hby own_d_prog_148_method_5_code_28)
        refine own_st st34 ?_
        show own_Go p e below s _ _ _ (T34.setTop (mkF m 31 #[.val (.ref r1), .val (.ref r2)] [(.ref a_UNKNOWN), (.ref r2)]))
        by_cases hc35 : r2 = a_UNKNOWN
        · refine own_st (fun _ k => XT.acmpNo X34.here hx rfl (hb hby own_d_prog_148_method_5_code_31) rfl rfl rfl (XT.aa_ne_f (congrArg Value.ref hc35)) k) ?_
          show own_Go p e below s _ _ _ (T34.setTop (mkF m 34 #[.val (.ref r1), .val (.ref r2)] []))
          have F36 : Sta Z h0 "com/example/treeloom/treeloom/harness/qt3/Assertions$Truth" "UNKNOWN" "Lcom/example/treeloom/treeloom/harness/qt3/Assertions$Truth;" (.ref a_UNKNOWN) := S_a_UNKNOWN.ext O0.2
          obtain ⟨T37, X37, e37, st37⟩ := getS2 X34 hx hZ hown (host := "") (Or.inl (hw _ (List.mem_of_getElem? (i := 15) rfl))) Via.refl e34 F36 (g := (mkF m 34 #[.val (.ref r1), .val (.ref r2)] [])) rfl (hb hby own_d_prog_148_method_5_code_34)
          refine own_st st37 ?_
          show own_Go p e below s _ _ _ (T37.setTop (mkF m 37 #[.val (.ref r1), .val (.ref r2)] [(.ref a_UNKNOWN)]))
          refine own_st (fun _ k => XS.goto X37.here hx rfl (pc0 := 37) (pc' := 43) rfl (hb hby own_d_prog_148_method_5_code_37) (by decide) (by decide) k) ?_
          show own_Go p e below s _ _ _ (T37.setTop (mkF m 43 #[.val (.ref r1), .val (.ref r2)] [(.ref a_UNKNOWN)]))
          refine own_retA X37 hx hlk Bd.returns rfl (hb hby own_d_prog_148_method_5_code_43) (by decide) (by decide) ?_
          rw [e37]
          exact ⟨N0, (by unfold own_and; rw [if_neg hc20, if_neg hc25, if_neg hc30, if_pos hc35]), rfl⟩
        · refine own_st (fun _ k => XT.acmpYes X34.here hx rfl (pc0 := 31) (pc' := 40) rfl (hb hby own_d_prog_148_method_5_code_31) rfl rfl rfl (XT.aa_ne_t (fun q => hc35 (Value.ref.inj q))) (by decide) (by decide) k) ?_
          show own_Go p e below s _ _ _ (T34.setTop (mkF m 40 #[.val (.ref r1), .val (.ref r2)] []))
          have F38 : Sta Z h0 "com/example/treeloom/treeloom/harness/qt3/Assertions$Truth" "TRUE" "Lcom/example/treeloom/treeloom/harness/qt3/Assertions$Truth;" (.ref a_TRUE) := S_a_TRUE.ext O0.2
          obtain ⟨T39, X39, e39, st39⟩ := getS2 X34 hx hZ hown (host := "") (Or.inl (hw _ (List.mem_of_getElem? (i := 17) rfl))) Via.refl e34 F38 (g := (mkF m 40 #[.val (.ref r1), .val (.ref r2)] [])) rfl (hb hby own_d_prog_148_method_5_code_40)
          refine own_st st39 ?_
          show own_Go p e below s _ _ _ (T39.setTop (mkF m 43 #[.val (.ref r1), .val (.ref r2)] [(.ref a_TRUE)]))
          refine own_retA X39 hx hlk Bd.returns rfl (hb hby own_d_prog_148_method_5_code_43) (by decide) (by decide) ?_
          rw [e39]
          exact ⟨N0, (by unfold own_and; rw [if_neg hc20, if_neg hc25, if_neg hc30, if_neg hc35]), rfl⟩
theorem own_d_jdk_29_method_69_code_0 : decode jdk_29_method_69_code 0 = .ok (.iload_n 0, 1) := by decide +kernel
theorem own_d_jdk_29_method_69_code_1 : decode jdk_29_method_69_code 1 = .ok (.iload_n 1, 1) := by decide +kernel
theorem own_d_jdk_29_method_69_code_2 : decode jdk_29_method_69_code 2 = .ok (.if_icmp .gt 7, 3) := by decide +kernel
theorem own_d_jdk_29_method_69_code_5 : decode jdk_29_method_69_code 5 = .ok (.iload_n 0, 1) := by decide +kernel
theorem own_d_jdk_29_method_69_code_6 : decode jdk_29_method_69_code 6 = .ok (.goto 4, 3) := by decide +kernel
theorem own_d_jdk_29_method_69_code_9 : decode jdk_29_method_69_code 9 = .ok (.iload_n 1, 1) := by decide +kernel
theorem own_d_jdk_29_method_69_code_10 : decode jdk_29_method_69_code 10 = .ok (.ireturn, 1) := by decide +kernel
theorem own_pn3 : plainFor (⟨"java/lang/Math", "min", "(II)I"⟩ : MethodName) = true := by decide +kernel
def own_rm_min_Q (Z : State) (p1 : Int32) (p2 : Int32) (h0 : Heap) (n0 : Nat) (v : Option Value) (h : Heap) (L : List Loc) : Prop := Fr n0 L ∧ v = some (.int (own_min p1 p2)) ∧ h = h0
theorem own_rm_min_ef (m : MethodId) (p1 : Int32) (p2 : Int32) : entryFrame m #[(.int p1), (.int p2)] 2 = mkF m 0 #[.val (.int p1), .val (.int p2)] [] := by first | (simp [entryFrame, mkF, argsToLocals, Value.category]; done) | rfl
set_option maxRecDepth 65536 in
set_option maxHeartbeats 40000000 in
theorem own_rm_min (l : Launch) (Z : State) (a0 : Array Value) (hw : ∀ d ∈ tables_1, d.before a0 Z = true) (ws : List Jvm.Cond) (p1 : Int32) (p2 : Int32) (h0 : Heap) (n0 : Nat) (Z0 : n0 ≤ h0.size)  :
    MetFree l (⟨"java/lang/Math", "min", "(II)I"⟩ : MethodName) (head1 (Jvm.Cond.code (⟨"java/lang/Math", "min", "(II)I"⟩ : MethodName) jdk_29_method_69_code 2 (some .int) :: ws) ({ frames := 0, cells := 0, slots := 0, locals := 0 } : Room)) (fun a U => a = #[(.int p1), (.int p2)] ∧ Z.Warmed39 U.vm ∧ U.heap = h0) (fun _ _ _ _ _ => True) (fun _ U o U' => ∃ v L, o = .returned v ∧ own_rm_min_Q Z p1 p2 h0 n0 v U'.heap L ∧ FrameEnd U o U' L ({ frames := 0, cells := 0, slots := 0, locals := 0 } : Room).cells ({ frames := 0, cells := 0, slots := 0, locals := 0 } : Room).slots) := by
  refine MetFree.of_bodySF own_pn3 hisR ?_
  intro p e s m args below meth c s₁ Bd hml0 hP hK
  obtain ⟨rfl, hZ, hh⟩ := hP
  have hx := Bd.exec
  have hby := Bd.bytes
  have hml : c.maxLocals = 2 := hml0
  have hlk := BodyLoose.notSynchronized Bd
  have hown : s.vm.findClass "java/lang/Math" = some m.cls := findClass_of_methodNamed Bd.named
  have hnm := (name_of_methodNamed Bd.named Bd.method).1
  have X0 : Stand p l e ({ frames := 0, cells := 0, slots := 0, locals := 0 } : Room) s m #[(.int p1), (.int p2)] below meth c s₁ [] 0 0 := Stand.of_body Bd
  have e0 : s₁.heap = h0 := by rw [← hh, Bd.state]; rfl
  have N0 := Fr.nil n0
  show own_Go p e below s (own_rm_min_Q Z p1 p2 h0 n0) ({ frames := 0, cells := 0, slots := 0, locals := 0 } : Room).cells ({ frames := 0, cells := 0, slots := 0, locals := 0 } : Room).slots (s₁.setTop (entryFrame m #[(.int p1), (.int p2)] 2))
  rw [own_rm_min_ef]
  show own_Go p e below s _ _ _ (s₁.setTop (mkF m 0 #[.val (.int p1), .val (.int p2)] []))
  refine own_st (fun _ k => XS.iloadN X0.here hx rfl (hb hby own_d_jdk_29_method_69_code_0) rfl k) ?_
  show own_Go p e below s _ _ _ (s₁.setTop (mkF m 1 #[.val (.int p1), .val (.int p2)] [(.int p1)]))
  refine own_st (fun _ k => XS.iloadN X0.here hx rfl (hb hby own_d_jdk_29_method_69_code_1) rfl k) ?_
  show own_Go p e below s _ _ _ (s₁.setTop (mkF m 2 #[.val (.int p1), .val (.int p2)] [(.int p2), (.int p1)]))
  by_cases hc40 : p2 < p1
  · refine own_st (fun _ k => XS.icmpYes X0.here hx rfl (pc0 := 2) (pc' := 9) rfl (hb hby own_d_jdk_29_method_69_code_2) rfl (XT.ii_gt_t hc40) (by decide) (by decide) k) ?_
    show own_Go p e below s _ _ _ (s₁.setTop (mkF m 9 #[.val (.int p1), .val (.int p2)] []))
    refine own_st (fun _ k => XS.iloadN X0.here hx rfl (hb hby own_d_jdk_29_method_69_code_9) rfl k) ?_
    show own_Go p e below s _ _ _ (s₁.setTop (mkF m 10 #[.val (.int p1), .val (.int p2)] [(.int p2)]))
    refine own_retI X0 hx hlk Bd.returns (hb hby own_d_jdk_29_method_69_code_10) (by decide) (by decide) ?_
    rw [e0]
    exact ⟨N0, (by unfold own_min; rw [if_pos hc40]), rfl⟩
  · refine own_st (fun _ k => XS.icmpNo X0.here hx rfl (hb hby own_d_jdk_29_method_69_code_2) rfl (XT.ii_gt_f hc40) k) ?_
    show own_Go p e below s _ _ _ (s₁.setTop (mkF m 5 #[.val (.int p1), .val (.int p2)] []))
    refine own_st (fun _ k => XS.iloadN X0.here hx rfl (hb hby own_d_jdk_29_method_69_code_5) rfl k) ?_
    show own_Go p e below s _ _ _ (s₁.setTop (mkF m 6 #[.val (.int p1), .val (.int p2)] [(.int p1)]))
    refine own_st (fun _ k => XS.goto X0.here hx rfl (pc0 := 6) (pc' := 10) rfl (hb hby own_d_jdk_29_method_69_code_6) (by decide) (by decide) k) ?_
    show own_Go p e below s _ _ _ (s₁.setTop (mkF m 10 #[.val (.int p1), .val (.int p2)] [(.int p1)]))
    refine own_retI X0 hx hlk Bd.returns (hb hby own_d_jdk_29_method_69_code_10) (by decide) (by decide) ?_
    rw [e0]
    exact ⟨N0, (by unfold own_min; rw [if_neg hc40]), rfl⟩
theorem own_pn4 : plainFor (⟨"com/example/treeloom/treeloom/harness/qt3/TruthAndPinLaw", "law", "(II)Z"⟩ : MethodName) = true := by decide +kernel
theorem own_pd0 : parseMethodDescriptor "(I)Lcom/example/treeloom/treeloom/harness/qt3/Assertions$Truth;" = some ⟨[.int], some (.object "com/example/treeloom/treeloom/harness/qt3/Assertions$Truth")⟩ := by decide +kernel
theorem own_pd1 : parseMethodDescriptor "(Lcom/example/treeloom/treeloom/harness/qt3/Assertions$Truth;)Lcom/example/treeloom/treeloom/harness/qt3/Assertions$Truth;" = some ⟨[(.object "com/example/treeloom/treeloom/harness/qt3/Assertions$Truth")], some (.object "com/example/treeloom/treeloom/harness/qt3/Assertions$Truth")⟩ := by decide +kernel
theorem own_pd2 : parseMethodDescriptor "(Lcom/example/treeloom/treeloom/harness/qt3/Assertions$Truth;)I" = some ⟨[(.object "com/example/treeloom/treeloom/harness/qt3/Assertions$Truth")], some .int⟩ := by decide +kernel
theorem own_pd3 : parseMethodDescriptor "(II)I" = some ⟨[.int, .int], some .int⟩ := by decide +kernel
def own_law_Q (Z : State) (n0 : Nat) (v : Option Value) (h : Heap) (L : List Loc) : Prop := Fr n0 L ∧ v = some (.int 1)
theorem own_law_ef (m : MethodId) (p1 : Int32) (p2 : Int32) : entryFrame m #[(.int p1), (.int p2)] maxLocals = mkF m 0 #[.val (.int p1), .val (.int p2), .unset, .unset, .unset, .unset] [] := by first | (simp [entryFrame, mkF, argsToLocals, Value.category, maxLocals]; done) | rfl
set_option maxRecDepth 65536 in
set_option maxHeartbeats 40000000 in
theorem own_law (l : Launch) (Z : State) (a0 : Array Value) (hw : ∀ d ∈ tables_1, d.before a0 Z = true) (ws : List Jvm.Cond) (p1 : Int32) (p2 : Int32) (a_TRUE : Addr) (a_FALSE : Addr) (a_UNKNOWN : Addr) (h0 : Heap) (n0 : Nat) (Z0 : n0 ≤ h0.size) (O0 : Old Z n0 h0) (Ex_a_TRUE : Exa Z Z.heap a_TRUE "com/example/treeloom/treeloom/harness/qt3/Assertions$Truth") (S_a_TRUE : Sta Z Z.heap "com/example/treeloom/treeloom/harness/qt3/Assertions$Truth" "TRUE" "Lcom/example/treeloom/treeloom/harness/qt3/Assertions$Truth;" (.ref a_TRUE)) (Ex_a_FALSE : Exa Z Z.heap a_FALSE "com/example/treeloom/treeloom/harness/qt3/Assertions$Truth") (S_a_FALSE : Sta Z Z.heap "com/example/treeloom/treeloom/harness/qt3/Assertions$Truth" "FALSE" "Lcom/example/treeloom/treeloom/harness/qt3/Assertions$Truth;" (.ref a_FALSE)) (F_TRUE_ordinal : Fld Z Z.heap a_TRUE "java/lang/Enum" "ordinal" "I" (.int (0 : Int32))) (F_FALSE_ordinal : Fld Z Z.heap a_FALSE "java/lang/Enum" "ordinal" "I" (.int (1 : Int32))) (Ex_a_UNKNOWN : Exa Z Z.heap a_UNKNOWN "com/example/treeloom/treeloom/harness/qt3/Assertions$Truth") (S_a_UNKNOWN : Sta Z Z.heap "com/example/treeloom/treeloom/harness/qt3/Assertions$Truth" "UNKNOWN" "Lcom/example/treeloom/treeloom/harness/qt3/Assertions$Truth;" (.ref a_UNKNOWN)) (F_UNKNOWN_ordinal : Fld Z Z.heap a_UNKNOWN "java/lang/Enum" "ordinal" "I" (.int (2 : Int32))) :
    MetFree l x (head1 (Jvm.Cond.code x code maxLocals ret :: ws) room_1) (fun a U => a = #[(.int p1), (.int p2)] ∧ Z.Warmed39 U.vm ∧ U.heap = h0) (fun _ _ _ _ _ => True) (fun _ U o U' => ∃ v L, o = .returned v ∧ own_law_Q Z n0 v U'.heap L ∧ FrameEnd U o U' L 0 0) := by
  refine MetFree.of_bodySF own_pn4 hisR ?_
  intro p e s m args below meth c s₁ Bd hml0 hP hK
  obtain ⟨rfl, hZ, hh⟩ := hP
  have hx := Bd.exec
  have hby := Bd.bytes
  have hml : c.maxLocals = 6 := hml0
  have hlk := BodyLoose.notSynchronized Bd
  have hown : s.vm.findClass "com/example/treeloom/treeloom/harness/qt3/TruthAndPinLaw" = some m.cls := findClass_of_methodNamed Bd.named
  have hnm := (name_of_methodNamed Bd.named Bd.method).1
  have X0 : Stand p l e room_1 s m #[(.int p1), (.int p2)] below meth c s₁ [] 0 0 := Stand.of_body Bd
  have e0 : s₁.heap = h0 := by rw [← hh, Bd.state]; rfl
  have N0 := Fr.nil n0
  have ne1 := Fld.ne F_TRUE_ordinal F_FALSE_ordinal (by decide)
  have ne2 := Fld.ne F_TRUE_ordinal F_UNKNOWN_ordinal (by decide)
  have ne3 := Fld.ne F_FALSE_ordinal F_UNKNOWN_ordinal (by decide)
  have hp := own_plain ne1 ne2 ne3 p1 p2
  show own_Go p e below s (own_law_Q Z n0) 0 0 (s₁.setTop (entryFrame m #[(.int p1), (.int p2)] maxLocals))
  rw [own_law_ef]
  show own_Go p e below s _ _ _ (s₁.setTop (mkF m 0 #[.val (.int p1), .val (.int p2), .unset, .unset, .unset, .unset] []))
  refine own_st (fun _ k => XS.iloadN X0.here hx rfl (hb hby at_0) rfl k) ?_
  show own_Go p e below s _ _ _ (s₁.setTop (mkF m 1 #[.val (.int p1), .val (.int p2), .unset, .unset, .unset, .unset] [(.int p1)]))
  obtain ⟨_, _, ⟨T41, L41, k41, n41⟩, -, X41, ⟨Lc41, hQ41, l41, y41, z41⟩, st41⟩ := Jvm.LawKit.callS X0 hx (y := (⟨"com/example/treeloom/treeloom/harness/qt3/TruthAndPinLaw", "pick", "(I)Lcom/example/treeloom/treeloom/harness/qt3/Assertions$Truth;"⟩ : MethodName)) hown (mvT hZ (hw _ (List.mem_of_getElem? (i := 0) rfl))) (mvT hZ (hw _ (List.mem_of_getElem? (i := 1) rfl))) (mvT hZ (hw _ (List.mem_of_getElem? (i := 2) rfl))) (mvT hZ (hw _ (List.mem_of_getElem? (i := 3) rfl))) (by decide) (backOf (W := 0) (own_rm_pick l Z a0 hw [] p1 a_TRUE a_FALSE a_UNKNOWN h0 n0 Z0 O0 S_a_TRUE S_a_FALSE S_a_UNKNOWN) hZ (hw _ (List.mem_of_getElem? (i := 3) rfl)) (hw _ (List.mem_of_getElem? (i := 2) rfl)) (by decide) (by decide)) (g := (mkF m 1 #[.val (.int p1), .val (.int p2), .unset, .unset, .unset, .unset] [(.int p1)])) rfl (by rw [hml]; rfl) (argsL := [(.int p1)]) (rest := []) (lenOf own_pd0 rfl) rfl (by show 2 * 0 + _ ≤ _; exact Nat.le_of_eq rfl) (hb hby at_1) (fun _ _ => ⟨rfl, e0, (by decide : 0 + 0 ≤ _), (by decide : 0 + 0 ≤ _)⟩)
  dsimp only [Pt.U, Pt.locs, Pt.cells, Pt.slots] at X41 l41 y41 z41 st41 hQ41
  subst l41 y41 z41
  obtain ⟨N41q, rfl, eh41⟩ := hQ41
  have N42 := Fr.app N0 N41q
  refine own_st st41 ?_
  show own_Go p e below s _ _ _ (T41.setTop (mkF m 4 #[.val (.int p1), .val (.int p2), .unset, .unset, .unset, .unset] [(.ref (own_pick a_TRUE a_FALSE a_UNKNOWN p1))]))
  have Ex43 : Exa Z Z.heap (own_pick a_TRUE a_FALSE a_UNKNOWN p1) "com/example/treeloom/treeloom/harness/qt3/Assertions$Truth" := by unfold own_pick; split <;> first | exact Ex_a_TRUE | (split <;> first | exact Ex_a_FALSE | exact Ex_a_UNKNOWN)
  refine own_st (fun _ k => XS.astoreN X41.here hx rfl (hb hby at_4) rfl rfl (l' := #[.val (.int p1), .val (.int p2), .val (.ref (own_pick a_TRUE a_FALSE a_UNKNOWN p1)), .unset, .unset, .unset]) rfl k) ?_
  show own_Go p e below s _ _ _ (T41.setTop (mkF m 5 #[.val (.int p1), .val (.int p2), .val (.ref (own_pick a_TRUE a_FALSE a_UNKNOWN p1)), .unset, .unset, .unset] []))
  refine own_st (fun _ k => XS.iloadN X41.here hx rfl (hb hby at_5) rfl k) ?_
  show own_Go p e below s _ _ _ (T41.setTop (mkF m 6 #[.val (.int p1), .val (.int p2), .val (.ref (own_pick a_TRUE a_FALSE a_UNKNOWN p1)), .unset, .unset, .unset] [(.int p2)]))
  obtain ⟨_, _, ⟨T44, L44, k44, n44⟩, -, X44, ⟨Lc44, hQ44, l44, y44, z44⟩, st44⟩ := Jvm.LawKit.callS X41 hx (y := (⟨"com/example/treeloom/treeloom/harness/qt3/TruthAndPinLaw", "pick", "(I)Lcom/example/treeloom/treeloom/harness/qt3/Assertions$Truth;"⟩ : MethodName)) hown (mvT hZ (hw _ (List.mem_of_getElem? (i := 0) rfl))) (mvT hZ (hw _ (List.mem_of_getElem? (i := 1) rfl))) (mvT hZ (hw _ (List.mem_of_getElem? (i := 2) rfl))) (mvT hZ (hw _ (List.mem_of_getElem? (i := 3) rfl))) (by decide) (backOf (W := 0) (own_rm_pick l Z a0 hw [] p2 a_TRUE a_FALSE a_UNKNOWN h0 n0 Z0 O0 S_a_TRUE S_a_FALSE S_a_UNKNOWN) hZ (hw _ (List.mem_of_getElem? (i := 3) rfl)) (hw _ (List.mem_of_getElem? (i := 2) rfl)) (by decide) (by decide)) (g := (mkF m 6 #[.val (.int p1), .val (.int p2), .val (.ref (own_pick a_TRUE a_FALSE a_UNKNOWN p1)), .unset, .unset, .unset] [(.int p2)])) rfl (by rw [hml]; rfl) (argsL := [(.int p2)]) (rest := []) (lenOf own_pd0 rfl) rfl (by show 2 * 0 + _ ≤ _; exact Nat.le_of_eq rfl) (hb hby at_6) (fun _ _ => ⟨rfl, eh41, (by decide : 0 + 0 ≤ _), (by decide : 0 + 0 ≤ _)⟩)
  dsimp only [Pt.U, Pt.locs, Pt.cells, Pt.slots] at X44 l44 y44 z44 st44 hQ44
  subst l44 y44 z44
  obtain ⟨N44q, rfl, eh44⟩ := hQ44
  have N45 := Fr.app N42 N44q
  refine own_st st44 ?_
  show own_Go p e below s _ _ _ (T44.setTop (mkF m 9 #[.val (.int p1), .val (.int p2), .val (.ref (own_pick a_TRUE a_FALSE a_UNKNOWN p1)), .unset, .unset, .unset] [(.ref (own_pick a_TRUE a_FALSE a_UNKNOWN p2))]))
  have Ex46 : Exa Z Z.heap (own_pick a_TRUE a_FALSE a_UNKNOWN p2) "com/example/treeloom/treeloom/harness/qt3/Assertions$Truth" := by unfold own_pick; split <;> first | exact Ex_a_TRUE | (split <;> first | exact Ex_a_FALSE | exact Ex_a_UNKNOWN)
  refine own_st (fun _ k => XS.astoreN X44.here hx rfl (hb hby at_9) rfl rfl (l' := #[.val (.int p1), .val (.int p2), .val (.ref (own_pick a_TRUE a_FALSE a_UNKNOWN p1)), .val (.ref (own_pick a_TRUE a_FALSE a_UNKNOWN p2)), .unset, .unset]) rfl k) ?_
  show own_Go p e below s _ _ _ (T44.setTop (mkF m 10 #[.val (.int p1), .val (.int p2), .val (.ref (own_pick a_TRUE a_FALSE a_UNKNOWN p1)), .val (.ref (own_pick a_TRUE a_FALSE a_UNKNOWN p2)), .unset, .unset] []))
  refine own_st (fun _ k => XS.aloadN X44.here hx rfl (hb hby at_10) rfl rfl k) ?_
  show own_Go p e below s _ _ _ (T44.setTop (mkF m 11 #[.val (.int p1), .val (.int p2), .val (.ref (own_pick a_TRUE a_FALSE a_UNKNOWN p1)), .val (.ref (own_pick a_TRUE a_FALSE a_UNKNOWN p2)), .unset, .unset] [(.ref (own_pick a_TRUE a_FALSE a_UNKNOWN p1))]))
  refine own_st (fun _ k => XS.aloadN X44.here hx rfl (hb hby at_11) rfl rfl k) ?_
  show own_Go p e below s _ _ _ (T44.setTop (mkF m 12 #[.val (.int p1), .val (.int p2), .val (.ref (own_pick a_TRUE a_FALSE a_UNKNOWN p1)), .val (.ref (own_pick a_TRUE a_FALSE a_UNKNOWN p2)), .unset, .unset] [(.ref (own_pick a_TRUE a_FALSE a_UNKNOWN p2)), (.ref (own_pick a_TRUE a_FALSE a_UNKNOWN p1))]))
  have F48 : Exa Z h0 (own_pick a_TRUE a_FALSE a_UNKNOWN p1) "com/example/treeloom/treeloom/harness/qt3/Assertions$Truth" := Ex43.ext O0.2
  obtain ⟨cq47, kq47, q47a, q47b, q47c⟩ := isOf hZ eh44 F48
  obtain ⟨_, _, ⟨T47, L47, k47, n47⟩, -, X47, ⟨Lc47, hQ47, l47, y47, z47⟩, st47⟩ := X44.virtualBack hx (y := (⟨"com/example/treeloom/treeloom/harness/qt3/Assertions$Truth", "and", "(Lcom/example/treeloom/treeloom/harness/qt3/Assertions$Truth;)Lcom/example/treeloom/treeloom/harness/qt3/Assertions$Truth;"⟩ : MethodName)) (z := (⟨"com/example/treeloom/treeloom/harness/qt3/Assertions$Truth", "and", "(Lcom/example/treeloom/treeloom/harness/qt3/Assertions$Truth;)Lcom/example/treeloom/treeloom/harness/qt3/Assertions$Truth;"⟩ : MethodName)) hown (mvT hZ (hw _ (List.mem_of_getElem? (i := 8) rfl))) (mvT hZ (hw _ (List.mem_of_getElem? (i := 9) rfl))) (notFace_of_selects (args := #[]) (mvT hZ (hw _ (List.mem_of_getElem? (i := 11) rfl)))) (mvT hZ (hw _ (List.mem_of_getElem? (i := 11) rfl))) (mvT hZ (hw _ (List.mem_of_getElem? (i := 10) rfl))) (by decide) (backOf (W := 0) (own_rm_and l Z a0 hw [] (own_pick a_TRUE a_FALSE a_UNKNOWN p1) (own_pick a_TRUE a_FALSE a_UNKNOWN p2) a_TRUE a_FALSE a_UNKNOWN h0 n0 Z0 O0 S_a_TRUE S_a_FALSE S_a_UNKNOWN) hZ (hw _ (List.mem_of_getElem? (i := 12) rfl)) (hw _ (List.mem_of_getElem? (i := 6) rfl)) (by decide) (by decide)) q47a q47c (g := (mkF m 12 #[.val (.int p1), .val (.int p2), .val (.ref (own_pick a_TRUE a_FALSE a_UNKNOWN p1)), .val (.ref (own_pick a_TRUE a_FALSE a_UNKNOWN p2)), .unset, .unset] [(.ref (own_pick a_TRUE a_FALSE a_UNKNOWN p2)), (.ref (own_pick a_TRUE a_FALSE a_UNKNOWN p1))])) rfl (by rw [hml]; rfl) (Steps.refl _) (argsL := [(.ref (own_pick a_TRUE a_FALSE a_UNKNOWN p2))]) (rest := []) (lenOf own_pd1 rfl) rfl (by show 2 * 0 + _ ≤ _; exact Nat.le_of_eq rfl) (hb hby at_12) (fun _ _ => ⟨rfl, eh44, (by decide : 0 + 0 ≤ _), (by decide : 0 + 0 ≤ _)⟩)
  dsimp only [Pt.U, Pt.locs, Pt.cells, Pt.slots] at X47 l47 y47 z47 st47 hQ47
  subst l47 y47 z47
  obtain ⟨N47q, rfl, eh47⟩ := hQ47
  have N49 := Fr.app N45 N47q
  refine own_tr st47 ?_
  show own_Go p e below s _ _ _ (T47.setTop (mkF m 15 #[.val (.int p1), .val (.int p2), .val (.ref (own_pick a_TRUE a_FALSE a_UNKNOWN p1)), .val (.ref (own_pick a_TRUE a_FALSE a_UNKNOWN p2)), .unset, .unset] [(.ref (own_and a_TRUE a_FALSE a_UNKNOWN (own_pick a_TRUE a_FALSE a_UNKNOWN p1) (own_pick a_TRUE a_FALSE a_UNKNOWN p2)))]))
  refine own_st (fun _ k => XS.astore X47.here hx rfl (hb hby at_15) rfl rfl (l' := #[.val (.int p1), .val (.int p2), .val (.ref (own_pick a_TRUE a_FALSE a_UNKNOWN p1)), .val (.ref (own_pick a_TRUE a_FALSE a_UNKNOWN p2)), .val (.ref (own_and a_TRUE a_FALSE a_UNKNOWN (own_pick a_TRUE a_FALSE a_UNKNOWN p1) (own_pick a_TRUE a_FALSE a_UNKNOWN p2))), .unset]) rfl k) ?_
  show own_Go p e below s _ _ _ (T47.setTop (mkF m 17 #[.val (.int p1), .val (.int p2), .val (.ref (own_pick a_TRUE a_FALSE a_UNKNOWN p1)), .val (.ref (own_pick a_TRUE a_FALSE a_UNKNOWN p2)), .val (.ref (own_and a_TRUE a_FALSE a_UNKNOWN (own_pick a_TRUE a_FALSE a_UNKNOWN p1) (own_pick a_TRUE a_FALSE a_UNKNOWN p2))), .unset] []))
  refine own_st (fun _ k => XS.aloadN X47.here hx rfl (hb hby at_17) rfl rfl k) ?_
  show own_Go p e below s _ _ _ (T47.setTop (mkF m 18 #[.val (.int p1), .val (.int p2), .val (.ref (own_pick a_TRUE a_FALSE a_UNKNOWN p1)), .val (.ref (own_pick a_TRUE a_FALSE a_UNKNOWN p2)), .val (.ref (own_and a_TRUE a_FALSE a_UNKNOWN (own_pick a_TRUE a_FALSE a_UNKNOWN p1) (own_pick a_TRUE a_FALSE a_UNKNOWN p2))), .unset] [(.ref (own_pick a_TRUE a_FALSE a_UNKNOWN p1))]))
  obtain ⟨_, _, ⟨T50, L50, k50, n50⟩, -, X50, ⟨Lc50, hQ50, l50, y50, z50⟩, st50⟩ := Jvm.LawKit.callS X47 hx (y := (⟨"com/example/treeloom/treeloom/harness/qt3/TruthAndPinLaw", "rank", "(Lcom/example/treeloom/treeloom/harness/qt3/Assertions$Truth;)I"⟩ : MethodName)) hown (mvT hZ (hw _ (List.mem_of_getElem? (i := 18) rfl))) (mvT hZ (hw _ (List.mem_of_getElem? (i := 19) rfl))) (mvT hZ (hw _ (List.mem_of_getElem? (i := 2) rfl))) (mvT hZ (hw _ (List.mem_of_getElem? (i := 20) rfl))) (by decide) (backOf (W := 0) (own_rm_rank l Z a0 hw [] (own_pick a_TRUE a_FALSE a_UNKNOWN p1) a_TRUE a_FALSE a_UNKNOWN h0 n0 Z0 O0 S_a_TRUE S_a_FALSE S_a_UNKNOWN) hZ (hw _ (List.mem_of_getElem? (i := 20) rfl)) (hw _ (List.mem_of_getElem? (i := 2) rfl)) (by decide) (by decide)) (g := (mkF m 18 #[.val (.int p1), .val (.int p2), .val (.ref (own_pick a_TRUE a_FALSE a_UNKNOWN p1)), .val (.ref (own_pick a_TRUE a_FALSE a_UNKNOWN p2)), .val (.ref (own_and a_TRUE a_FALSE a_UNKNOWN (own_pick a_TRUE a_FALSE a_UNKNOWN p1) (own_pick a_TRUE a_FALSE a_UNKNOWN p2))), .unset] [(.ref (own_pick a_TRUE a_FALSE a_UNKNOWN p1))])) rfl (by rw [hml]; rfl) (argsL := [(.ref (own_pick a_TRUE a_FALSE a_UNKNOWN p1))]) (rest := []) (lenOf own_pd2 rfl) rfl (by show 2 * 0 + _ ≤ _; exact Nat.le_of_eq rfl) (hb hby at_18) (fun _ _ => ⟨rfl, eh47, (by decide : 0 + 0 ≤ _), (by decide : 0 + 0 ≤ _)⟩)
  dsimp only [Pt.U, Pt.locs, Pt.cells, Pt.slots] at X50 l50 y50 z50 st50 hQ50
  subst l50 y50 z50
  obtain ⟨N50q, rfl, eh50⟩ := hQ50
  have N51 := Fr.app N49 N50q
  refine own_st st50 ?_
  show own_Go p e below s _ _ _ (T50.setTop (mkF m 21 #[.val (.int p1), .val (.int p2), .val (.ref (own_pick a_TRUE a_FALSE a_UNKNOWN p1)), .val (.ref (own_pick a_TRUE a_FALSE a_UNKNOWN p2)), .val (.ref (own_and a_TRUE a_FALSE a_UNKNOWN (own_pick a_TRUE a_FALSE a_UNKNOWN p1) (own_pick a_TRUE a_FALSE a_UNKNOWN p2))), .unset] [(.int (own_rank a_TRUE a_FALSE a_UNKNOWN (own_pick a_TRUE a_FALSE a_UNKNOWN p1)))]))
  refine own_st (fun _ k => XS.aloadN X50.here hx rfl (hb hby at_21) rfl rfl k) ?_
  show own_Go p e below s _ _ _ (T50.setTop (mkF m 22 #[.val (.int p1), .val (.int p2), .val (.ref (own_pick a_TRUE a_FALSE a_UNKNOWN p1)), .val (.ref (own_pick a_TRUE a_FALSE a_UNKNOWN p2)), .val (.ref (own_and a_TRUE a_FALSE a_UNKNOWN (own_pick a_TRUE a_FALSE a_UNKNOWN p1) (own_pick a_TRUE a_FALSE a_UNKNOWN p2))), .unset] [(.ref (own_pick a_TRUE a_FALSE a_UNKNOWN p2)), (.int (own_rank a_TRUE a_FALSE a_UNKNOWN (own_pick a_TRUE a_FALSE a_UNKNOWN p1)))]))
  obtain ⟨_, _, ⟨T52, L52, k52, n52⟩, -, X52, ⟨Lc52, hQ52, l52, y52, z52⟩, st52⟩ := Jvm.LawKit.callS X50 hx (y := (⟨"com/example/treeloom/treeloom/harness/qt3/TruthAndPinLaw", "rank", "(Lcom/example/treeloom/treeloom/harness/qt3/Assertions$Truth;)I"⟩ : MethodName)) hown (mvT hZ (hw _ (List.mem_of_getElem? (i := 18) rfl))) (mvT hZ (hw _ (List.mem_of_getElem? (i := 19) rfl))) (mvT hZ (hw _ (List.mem_of_getElem? (i := 2) rfl))) (mvT hZ (hw _ (List.mem_of_getElem? (i := 20) rfl))) (by decide) (backOf (W := 1) (own_rm_rank l Z a0 hw [] (own_pick a_TRUE a_FALSE a_UNKNOWN p2) a_TRUE a_FALSE a_UNKNOWN h0 n0 Z0 O0 S_a_TRUE S_a_FALSE S_a_UNKNOWN) hZ (hw _ (List.mem_of_getElem? (i := 20) rfl)) (hw _ (List.mem_of_getElem? (i := 2) rfl)) (by decide) (by decide)) (g := (mkF m 22 #[.val (.int p1), .val (.int p2), .val (.ref (own_pick a_TRUE a_FALSE a_UNKNOWN p1)), .val (.ref (own_pick a_TRUE a_FALSE a_UNKNOWN p2)), .val (.ref (own_and a_TRUE a_FALSE a_UNKNOWN (own_pick a_TRUE a_FALSE a_UNKNOWN p1) (own_pick a_TRUE a_FALSE a_UNKNOWN p2))), .unset] [(.ref (own_pick a_TRUE a_FALSE a_UNKNOWN p2)), (.int (own_rank a_TRUE a_FALSE a_UNKNOWN (own_pick a_TRUE a_FALSE a_UNKNOWN p1)))])) rfl (by rw [hml]; rfl) (argsL := [(.ref (own_pick a_TRUE a_FALSE a_UNKNOWN p2))]) (rest := [(.int (own_rank a_TRUE a_FALSE a_UNKNOWN (own_pick a_TRUE a_FALSE a_UNKNOWN p1)))]) (lenOf own_pd2 rfl) rfl (by show 2 * 0 + _ ≤ _; exact Nat.le_of_eq rfl) (hb hby at_22) (fun _ _ => ⟨rfl, eh50, (by decide : 0 + 0 ≤ _), (by decide : 0 + 0 ≤ _)⟩)
  dsimp only [Pt.U, Pt.locs, Pt.cells, Pt.slots] at X52 l52 y52 z52 st52 hQ52
  subst l52 y52 z52
  obtain ⟨N52q, rfl, eh52⟩ := hQ52
  have N53 := Fr.app N51 N52q
  refine own_st st52 ?_
  show own_Go p e below s _ _ _ (T52.setTop (mkF m 25 #[.val (.int p1), .val (.int p2), .val (.ref (own_pick a_TRUE a_FALSE a_UNKNOWN p1)), .val (.ref (own_pick a_TRUE a_FALSE a_UNKNOWN p2)), .val (.ref (own_and a_TRUE a_FALSE a_UNKNOWN (own_pick a_TRUE a_FALSE a_UNKNOWN p1) (own_pick a_TRUE a_FALSE a_UNKNOWN p2))), .unset] [(.int (own_rank a_TRUE a_FALSE a_UNKNOWN (own_pick a_TRUE a_FALSE a_UNKNOWN p2))), (.int (own_rank a_TRUE a_FALSE a_UNKNOWN (own_pick a_TRUE a_FALSE a_UNKNOWN p1)))]))
  obtain ⟨_, _, ⟨T54, L54, k54, n54⟩, -, X54, ⟨Lc54, hQ54, l54, y54, z54⟩, st54⟩ := Jvm.LawKit.callS X52 hx (y := (⟨"java/lang/Math", "min", "(II)I"⟩ : MethodName)) hown (mvT hZ (hw _ (List.mem_of_getElem? (i := 23) rfl))) (mvT hZ (hw _ (List.mem_of_getElem? (i := 24) rfl))) (mvT hZ (hw _ (List.mem_of_getElem? (i := 25) rfl))) (mvT hZ (hw _ (List.mem_of_getElem? (i := 26) rfl))) (by decide) (backOf (W := 0) (own_rm_min l Z a0 hw [] (own_rank a_TRUE a_FALSE a_UNKNOWN (own_pick a_TRUE a_FALSE a_UNKNOWN p1)) (own_rank a_TRUE a_FALSE a_UNKNOWN (own_pick a_TRUE a_FALSE a_UNKNOWN p2)) h0 n0 Z0 ) hZ (hw _ (List.mem_of_getElem? (i := 26) rfl)) (hw _ (List.mem_of_getElem? (i := 25) rfl)) (by decide) (by decide)) (g := (mkF m 25 #[.val (.int p1), .val (.int p2), .val (.ref (own_pick a_TRUE a_FALSE a_UNKNOWN p1)), .val (.ref (own_pick a_TRUE a_FALSE a_UNKNOWN p2)), .val (.ref (own_and a_TRUE a_FALSE a_UNKNOWN (own_pick a_TRUE a_FALSE a_UNKNOWN p1) (own_pick a_TRUE a_FALSE a_UNKNOWN p2))), .unset] [(.int (own_rank a_TRUE a_FALSE a_UNKNOWN (own_pick a_TRUE a_FALSE a_UNKNOWN p2))), (.int (own_rank a_TRUE a_FALSE a_UNKNOWN (own_pick a_TRUE a_FALSE a_UNKNOWN p1)))])) rfl (by rw [hml]; rfl) (argsL := [(.int (own_rank a_TRUE a_FALSE a_UNKNOWN (own_pick a_TRUE a_FALSE a_UNKNOWN p1))), (.int (own_rank a_TRUE a_FALSE a_UNKNOWN (own_pick a_TRUE a_FALSE a_UNKNOWN p2)))]) (rest := []) (lenOf own_pd3 rfl) rfl (by show 2 * 0 + _ ≤ _; exact Nat.le_of_eq rfl) (hb hby at_25) (fun _ _ => ⟨rfl, eh52, (by decide : 0 + 0 ≤ _), (by decide : 0 + 0 ≤ _)⟩)
  dsimp only [Pt.U, Pt.locs, Pt.cells, Pt.slots] at X54 l54 y54 z54 st54 hQ54
  subst l54 y54 z54
  obtain ⟨N54q, rfl, eh54⟩ := hQ54
  have N55 := Fr.app N53 N54q
  refine own_st st54 ?_
  show own_Go p e below s _ _ _ (T54.setTop (mkF m 28 #[.val (.int p1), .val (.int p2), .val (.ref (own_pick a_TRUE a_FALSE a_UNKNOWN p1)), .val (.ref (own_pick a_TRUE a_FALSE a_UNKNOWN p2)), .val (.ref (own_and a_TRUE a_FALSE a_UNKNOWN (own_pick a_TRUE a_FALSE a_UNKNOWN p1) (own_pick a_TRUE a_FALSE a_UNKNOWN p2))), .unset] [(.int (own_min (own_rank a_TRUE a_FALSE a_UNKNOWN (own_pick a_TRUE a_FALSE a_UNKNOWN p1)) (own_rank a_TRUE a_FALSE a_UNKNOWN (own_pick a_TRUE a_FALSE a_UNKNOWN p2))))]))
  refine own_st (fun _ k => XS.istore X54.here hx rfl (hb hby at_28) rfl (l' := #[.val (.int p1), .val (.int p2), .val (.ref (own_pick a_TRUE a_FALSE a_UNKNOWN p1)), .val (.ref (own_pick a_TRUE a_FALSE a_UNKNOWN p2)), .val (.ref (own_and a_TRUE a_FALSE a_UNKNOWN (own_pick a_TRUE a_FALSE a_UNKNOWN p1) (own_pick a_TRUE a_FALSE a_UNKNOWN p2))), .val (.int (own_min (own_rank a_TRUE a_FALSE a_UNKNOWN (own_pick a_TRUE a_FALSE a_UNKNOWN p1)) (own_rank a_TRUE a_FALSE a_UNKNOWN (own_pick a_TRUE a_FALSE a_UNKNOWN p2))))]) rfl k) ?_
  show own_Go p e below s _ _ _ (T54.setTop (mkF m 30 #[.val (.int p1), .val (.int p2), .val (.ref (own_pick a_TRUE a_FALSE a_UNKNOWN p1)), .val (.ref (own_pick a_TRUE a_FALSE a_UNKNOWN p2)), .val (.ref (own_and a_TRUE a_FALSE a_UNKNOWN (own_pick a_TRUE a_FALSE a_UNKNOWN p1) (own_pick a_TRUE a_FALSE a_UNKNOWN p2))), .val (.int (own_min (own_rank a_TRUE a_FALSE a_UNKNOWN (own_pick a_TRUE a_FALSE a_UNKNOWN p1)) (own_rank a_TRUE a_FALSE a_UNKNOWN (own_pick a_TRUE a_FALSE a_UNKNOWN p2))))] []))
  refine own_st (fun _ k => XS.iload X54.here hx rfl (hb hby at_30) rfl k) ?_
  show own_Go p e below s _ _ _ (T54.setTop (mkF m 32 #[.val (.int p1), .val (.int p2), .val (.ref (own_pick a_TRUE a_FALSE a_UNKNOWN p1)), .val (.ref (own_pick a_TRUE a_FALSE a_UNKNOWN p2)), .val (.ref (own_and a_TRUE a_FALSE a_UNKNOWN (own_pick a_TRUE a_FALSE a_UNKNOWN p1) (own_pick a_TRUE a_FALSE a_UNKNOWN p2))), .val (.int (own_min (own_rank a_TRUE a_FALSE a_UNKNOWN (own_pick a_TRUE a_FALSE a_UNKNOWN p1)) (own_rank a_TRUE a_FALSE a_UNKNOWN (own_pick a_TRUE a_FALSE a_UNKNOWN p2))))] [(.int (own_min (own_rank a_TRUE a_FALSE a_UNKNOWN (own_pick a_TRUE a_FALSE a_UNKNOWN p1)) (own_rank a_TRUE a_FALSE a_UNKNOWN (own_pick a_TRUE a_FALSE a_UNKNOWN p2))))]))
  refine own_st (fun _ k => XS.ifNo X54.here hx rfl (hb hby at_32) rfl (XT.i0_lt_f hp.1) k) ?_
  show own_Go p e below s _ _ _ (T54.setTop (mkF m 35 #[.val (.int p1), .val (.int p2), .val (.ref (own_pick a_TRUE a_FALSE a_UNKNOWN p1)), .val (.ref (own_pick a_TRUE a_FALSE a_UNKNOWN p2)), .val (.ref (own_and a_TRUE a_FALSE a_UNKNOWN (own_pick a_TRUE a_FALSE a_UNKNOWN p1) (own_pick a_TRUE a_FALSE a_UNKNOWN p2))), .val (.int (own_min (own_rank a_TRUE a_FALSE a_UNKNOWN (own_pick a_TRUE a_FALSE a_UNKNOWN p1)) (own_rank a_TRUE a_FALSE a_UNKNOWN (own_pick a_TRUE a_FALSE a_UNKNOWN p2))))] []))
  refine own_st (fun _ k => XS.aload X54.here hx rfl (hb hby at_35) rfl rfl k) ?_
  show own_Go p e below s _ _ _ (T54.setTop (mkF m 37 #[.val (.int p1), .val (.int p2), .val (.ref (own_pick a_TRUE a_FALSE a_UNKNOWN p1)), .val (.ref (own_pick a_TRUE a_FALSE a_UNKNOWN p2)), .val (.ref (own_and a_TRUE a_FALSE a_UNKNOWN (own_pick a_TRUE a_FALSE a_UNKNOWN p1) (own_pick a_TRUE a_FALSE a_UNKNOWN p2))), .val (.int (own_min (own_rank a_TRUE a_FALSE a_UNKNOWN (own_pick a_TRUE a_FALSE a_UNKNOWN p1)) (own_rank a_TRUE a_FALSE a_UNKNOWN (own_pick a_TRUE a_FALSE a_UNKNOWN p2))))] [(.ref (own_and a_TRUE a_FALSE a_UNKNOWN (own_pick a_TRUE a_FALSE a_UNKNOWN p1) (own_pick a_TRUE a_FALSE a_UNKNOWN p2)))]))
  obtain ⟨_, _, ⟨T56, L56, k56, n56⟩, -, X56, ⟨Lc56, hQ56, l56, y56, z56⟩, st56⟩ := Jvm.LawKit.callS X54 hx (y := (⟨"com/example/treeloom/treeloom/harness/qt3/TruthAndPinLaw", "rank", "(Lcom/example/treeloom/treeloom/harness/qt3/Assertions$Truth;)I"⟩ : MethodName)) hown (mvT hZ (hw _ (List.mem_of_getElem? (i := 18) rfl))) (mvT hZ (hw _ (List.mem_of_getElem? (i := 19) rfl))) (mvT hZ (hw _ (List.mem_of_getElem? (i := 2) rfl))) (mvT hZ (hw _ (List.mem_of_getElem? (i := 20) rfl))) (by decide) (backOf (W := 0) (own_rm_rank l Z a0 hw [] (own_and a_TRUE a_FALSE a_UNKNOWN (own_pick a_TRUE a_FALSE a_UNKNOWN p1) (own_pick a_TRUE a_FALSE a_UNKNOWN p2)) a_TRUE a_FALSE a_UNKNOWN h0 n0 Z0 O0 S_a_TRUE S_a_FALSE S_a_UNKNOWN) hZ (hw _ (List.mem_of_getElem? (i := 20) rfl)) (hw _ (List.mem_of_getElem? (i := 2) rfl)) (by decide) (by decide)) (g := (mkF m 37 #[.val (.int p1), .val (.int p2), .val (.ref (own_pick a_TRUE a_FALSE a_UNKNOWN p1)), .val (.ref (own_pick a_TRUE a_FALSE a_UNKNOWN p2)), .val (.ref (own_and a_TRUE a_FALSE a_UNKNOWN (own_pick a_TRUE a_FALSE a_UNKNOWN p1) (own_pick a_TRUE a_FALSE a_UNKNOWN p2))), .val (.int (own_min (own_rank a_TRUE a_FALSE a_UNKNOWN (own_pick a_TRUE a_FALSE a_UNKNOWN p1)) (own_rank a_TRUE a_FALSE a_UNKNOWN (own_pick a_TRUE a_FALSE a_UNKNOWN p2))))] [(.ref (own_and a_TRUE a_FALSE a_UNKNOWN (own_pick a_TRUE a_FALSE a_UNKNOWN p1) (own_pick a_TRUE a_FALSE a_UNKNOWN p2)))])) rfl (by rw [hml]; rfl) (argsL := [(.ref (own_and a_TRUE a_FALSE a_UNKNOWN (own_pick a_TRUE a_FALSE a_UNKNOWN p1) (own_pick a_TRUE a_FALSE a_UNKNOWN p2)))]) (rest := []) (lenOf own_pd2 rfl) rfl (by show 2 * 0 + _ ≤ _; exact Nat.le_of_eq rfl) (hb hby at_37) (fun _ _ => ⟨rfl, eh54, (by decide : 0 + 0 ≤ _), (by decide : 0 + 0 ≤ _)⟩)
  dsimp only [Pt.U, Pt.locs, Pt.cells, Pt.slots] at X56 l56 y56 z56 st56 hQ56
  subst l56 y56 z56
  obtain ⟨N56q, rfl, eh56⟩ := hQ56
  have N57 := Fr.app N55 N56q
  refine own_st st56 ?_
  show own_Go p e below s _ _ _ (T56.setTop (mkF m 40 #[.val (.int p1), .val (.int p2), .val (.ref (own_pick a_TRUE a_FALSE a_UNKNOWN p1)), .val (.ref (own_pick a_TRUE a_FALSE a_UNKNOWN p2)), .val (.ref (own_and a_TRUE a_FALSE a_UNKNOWN (own_pick a_TRUE a_FALSE a_UNKNOWN p1) (own_pick a_TRUE a_FALSE a_UNKNOWN p2))), .val (.int (own_min (own_rank a_TRUE a_FALSE a_UNKNOWN (own_pick a_TRUE a_FALSE a_UNKNOWN p1)) (own_rank a_TRUE a_FALSE a_UNKNOWN (own_pick a_TRUE a_FALSE a_UNKNOWN p2))))] [(.int (own_rank a_TRUE a_FALSE a_UNKNOWN (own_and a_TRUE a_FALSE a_UNKNOWN (own_pick a_TRUE a_FALSE a_UNKNOWN p1) (own_pick a_TRUE a_FALSE a_UNKNOWN p2))))]))
  refine own_st (fun _ k => XS.iload X56.here hx rfl (hb hby at_40) rfl k) ?_
  show own_Go p e below s _ _ _ (T56.setTop (mkF m 42 #[.val (.int p1), .val (.int p2), .val (.ref (own_pick a_TRUE a_FALSE a_UNKNOWN p1)), .val (.ref (own_pick a_TRUE a_FALSE a_UNKNOWN p2)), .val (.ref (own_and a_TRUE a_FALSE a_UNKNOWN (own_pick a_TRUE a_FALSE a_UNKNOWN p1) (own_pick a_TRUE a_FALSE a_UNKNOWN p2))), .val (.int (own_min (own_rank a_TRUE a_FALSE a_UNKNOWN (own_pick a_TRUE a_FALSE a_UNKNOWN p1)) (own_rank a_TRUE a_FALSE a_UNKNOWN (own_pick a_TRUE a_FALSE a_UNKNOWN p2))))] [(.int (own_min (own_rank a_TRUE a_FALSE a_UNKNOWN (own_pick a_TRUE a_FALSE a_UNKNOWN p1)) (own_rank a_TRUE a_FALSE a_UNKNOWN (own_pick a_TRUE a_FALSE a_UNKNOWN p2)))), (.int (own_rank a_TRUE a_FALSE a_UNKNOWN (own_and a_TRUE a_FALSE a_UNKNOWN (own_pick a_TRUE a_FALSE a_UNKNOWN p1) (own_pick a_TRUE a_FALSE a_UNKNOWN p2))))]))
  refine own_st (fun _ k => XS.icmpNo X56.here hx rfl (hb hby at_42) rfl (XT.ii_ne_f hp.2) k) ?_
  show own_Go p e below s _ _ _ (T56.setTop (mkF m 45 #[.val (.int p1), .val (.int p2), .val (.ref (own_pick a_TRUE a_FALSE a_UNKNOWN p1)), .val (.ref (own_pick a_TRUE a_FALSE a_UNKNOWN p2)), .val (.ref (own_and a_TRUE a_FALSE a_UNKNOWN (own_pick a_TRUE a_FALSE a_UNKNOWN p1) (own_pick a_TRUE a_FALSE a_UNKNOWN p2))), .val (.int (own_min (own_rank a_TRUE a_FALSE a_UNKNOWN (own_pick a_TRUE a_FALSE a_UNKNOWN p1)) (own_rank a_TRUE a_FALSE a_UNKNOWN (own_pick a_TRUE a_FALSE a_UNKNOWN p2))))] []))
  refine own_st (fun _ k => XT.iconstV X56.here hx rfl (1 : Int32) (hb hby at_45) (by decide) k) ?_
  show own_Go p e below s _ _ _ (T56.setTop (mkF m 46 #[.val (.int p1), .val (.int p2), .val (.ref (own_pick a_TRUE a_FALSE a_UNKNOWN p1)), .val (.ref (own_pick a_TRUE a_FALSE a_UNKNOWN p2)), .val (.ref (own_and a_TRUE a_FALSE a_UNKNOWN (own_pick a_TRUE a_FALSE a_UNKNOWN p1) (own_pick a_TRUE a_FALSE a_UNKNOWN p2))), .val (.int (own_min (own_rank a_TRUE a_FALSE a_UNKNOWN (own_pick a_TRUE a_FALSE a_UNKNOWN p1)) (own_rank a_TRUE a_FALSE a_UNKNOWN (own_pick a_TRUE a_FALSE a_UNKNOWN p2))))] [(.int (1 : Int32))]))
  refine own_st (fun _ k => XS.goto X56.here hx rfl (pc0 := 46) (pc' := 50) rfl (hb hby at_46) (by decide) (by decide) k) ?_
  show own_Go p e below s _ _ _ (T56.setTop (mkF m 50 #[.val (.int p1), .val (.int p2), .val (.ref (own_pick a_TRUE a_FALSE a_UNKNOWN p1)), .val (.ref (own_pick a_TRUE a_FALSE a_UNKNOWN p2)), .val (.ref (own_and a_TRUE a_FALSE a_UNKNOWN (own_pick a_TRUE a_FALSE a_UNKNOWN p1) (own_pick a_TRUE a_FALSE a_UNKNOWN p2))), .val (.int (own_min (own_rank a_TRUE a_FALSE a_UNKNOWN (own_pick a_TRUE a_FALSE a_UNKNOWN p1)) (own_rank a_TRUE a_FALSE a_UNKNOWN (own_pick a_TRUE a_FALSE a_UNKNOWN p2))))] [(.int (1 : Int32))]))
  refine own_retN X56 hx hlk Bd.returns (t := .boolean) (z' := (1 : Int32)) (by simp) (by decide) (hb hby at_50) (by decide) (by decide) ?_
  rw [eh56]
  exact ⟨N57, rfl⟩
set_option maxRecDepth 65536 in
set_option maxHeartbeats 40000000 in
theorem comes_1 {Post : Tables → Env → Array Value → State → Outcome → State → Prop} (hpost : ∀ tb e args s v u, (limb_1_1.after args s (.returned v) u = true ∧ limb_1_2.after args s (.returned v) u = true ∧ True) → FrameEnd s (.returned v) u (Jvm.fieldLocs frame_1_writes args s ++ Jvm.arrayLocs frame_1_arrays args s ++ Jvm.staticLocs frame_1_statics s) 0 0 → Post tb e args s (.returned v) u) :
    ArmFor flags0 classFile x code maxLocals ret World_1 tables_1 room_1 Calls_1 rest_1 Pre_1 Post := by
  intro l hfl _ _ p e ha hc hk s m args below hf hA hF happ hP
  obtain ⟨hcalls, hrest, hpre⟩ := hP
  obtain ⟨-, -, -, hnamed, -, -, -, hat⟩ := (Spec.applies_iff hf).mp happ
  obtain ⟨hg, hn⟩ := and_e (Cond.before_iff.mp (show (Jvm.Cond.and given_1 narrow_1).before args s = true from hpre))
  obtain ⟨gg0, hg0⟩ := and_e hg
  obtain ⟨gg1, hg1⟩ := and_e hg0
  obtain ⟨w0, w1, rfl⟩ : ∃ w0 w1 : Value, args = #[w0, w1] := by
    have hs : args.size = 2 := by simpa [Cond.value, given_1] using gg0
    obtain ⟨L⟩ := args
    match L, hs with
    | [w0, w1], _ => exact ⟨w0, w1, rfl⟩
  have hw := fun d (hd : d ∈ tables_1) => atoms_spec (ws := Jvm.Cond.code x code maxLocals ret :: tables_1) hat d (List.mem_cons_of_mem _ hd)
  have hfit : Fit s := fun {y c} hc i hi => by
    obtain ⟨ha, rfl⟩ := Array.getElem?_eq_some_iff.mp hc
    have q := List.all_eq_true.mp ((Array.all_eq_true_iff_forall_mem.mp hF) _ (Array.getElem_mem ha)) i (List.mem_range.mpr hi)
    simpa [Array.getElem?_eq_getElem hi] using q
  obtain ⟨i0, ei0⟩ := is_v gg1
  obtain rfl : w0 = (.int i0) := Option.some.inj ei0
  obtain ⟨i1, ei1⟩ := is_v hg1
  obtain rfl : w1 = (.int i1) := Option.some.inj ei1
  obtain ⟨nn0, hn0⟩ := and_e hn
  obtain ⟨nn1, hn1⟩ := and_e hn0
  obtain ⟨nn2, hn2⟩ := and_e hn1
  obtain ⟨nn3, hn3⟩ := and_e hn2
  obtain ⟨nn4, hn4⟩ := and_e hn3
  obtain ⟨a_TRUE, e_a_TRUE⟩ := exa_v nn0
  have Ex_a_TRUE : Exa s s.heap a_TRUE "com/example/treeloom/treeloom/harness/qt3/Assertions$Truth" := Exa.start e_a_TRUE nn0
  have S_a_TRUE : Sta s s.heap "com/example/treeloom/treeloom/harness/qt3/Assertions$Truth" "TRUE" "Lcom/example/treeloom/treeloom/harness/qt3/Assertions$Truth;" (.ref a_TRUE) := Sta.start e_a_TRUE (Or.inr ⟨(hw _ (List.mem_of_getElem? (i := 6) rfl)), (hw _ (List.mem_of_getElem? (i := 7) rfl))⟩)
  obtain ⟨a_FALSE, e_a_FALSE⟩ := exa_v nn1
  have Ex_a_FALSE : Exa s s.heap a_FALSE "com/example/treeloom/treeloom/harness/qt3/Assertions$Truth" := Exa.start e_a_FALSE nn1
  have S_a_FALSE : Sta s s.heap "com/example/treeloom/treeloom/harness/qt3/Assertions$Truth" "FALSE" "Lcom/example/treeloom/treeloom/harness/qt3/Assertions$Truth;" (.ref a_FALSE) := Sta.start e_a_FALSE (Or.inr ⟨(hw _ (List.mem_of_getElem? (i := 6) rfl)), (hw _ (List.mem_of_getElem? (i := 14) rfl))⟩)
  have ev_nn2 := own_eqV nn2 (Term.int_eval _)
  have F_TRUE_ordinal : Fld s s.heap a_TRUE "java/lang/Enum" "ordinal" "I" (.int (0 : Int32)) := Fld.start ((fld_at e_a_TRUE).symm.trans ev_nn2)
  have ev_nn3 := own_eqV nn3 (Term.int_eval _)
  have F_FALSE_ordinal : Fld s s.heap a_FALSE "java/lang/Enum" "ordinal" "I" (.int (1 : Int32)) := Fld.start ((fld_at e_a_FALSE).symm.trans ev_nn3)
  obtain ⟨a_UNKNOWN, e_a_UNKNOWN⟩ := exa_v nn4
  have Ex_a_UNKNOWN : Exa s s.heap a_UNKNOWN "com/example/treeloom/treeloom/harness/qt3/Assertions$Truth" := Exa.start e_a_UNKNOWN nn4
  have S_a_UNKNOWN : Sta s s.heap "com/example/treeloom/treeloom/harness/qt3/Assertions$Truth" "UNKNOWN" "Lcom/example/treeloom/treeloom/harness/qt3/Assertions$Truth;" (.ref a_UNKNOWN) := Sta.start e_a_UNKNOWN (Or.inr ⟨(hw _ (List.mem_of_getElem? (i := 6) rfl)), (hw _ (List.mem_of_getElem? (i := 16) rfl))⟩)
  have ev_hn4 := own_eqV hn4 (Term.int_eval _)
  have F_UNKNOWN_ordinal : Fld s s.heap a_UNKNOWN "java/lang/Enum" "ordinal" "I" (.int (2 : Int32)) := Fld.start ((fld_at e_a_UNKNOWN).symm.trans ev_hn4)
  obtain ⟨n, o, h1, h2, h3, _, L, rfl, ⟨N, rfl⟩, hq⟩ := own_law l s _ hw tables_1 i0 i1 a_TRUE a_FALSE a_UNKNOWN s.heap s.heap.size (Nat.le_refl _) (Old.start s) Ex_a_TRUE S_a_TRUE Ex_a_FALSE S_a_FALSE F_TRUE_ordinal F_FALSE_ordinal Ex_a_UNKNOWN S_a_UNKNOWN F_UNKNOWN_ordinal p e ha hc hk s m _ below hf ((Spec.applies_iff_loose hf).mp happ).1 ⟨rfl, State.Warmed39.refl s, rfl⟩ trivial
  refine ⟨n, _, h1, h2, h3, hpost _ _ _ _ _ _ ⟨Cond.after_iff.mpr rfl, Cond.after_iff.mpr (eq_i res_at (Term.int_eval (1)) rfl), trivial⟩ ⟨hq.1, hq.2.1, (hq.2.2.sift fun y hy => Or.inr (N y hy)).mono (by decide) (by decide)⟩⟩
theorem main_1_1 : Claimed_1_1 := comes_1 fun _ _ _ _ _ _ h hF => ⟨h.1, hF⟩
theorem main_1_2 : Claimed_1_2 := comes_1 fun _ _ _ _ _ _ h hF => ⟨h.2.1, hF⟩
end Jvm.Pilot.@@N@@
namespace Jvm.Pilot.@@N@@
open Jvm Jvm.ClassFile Sem Op Lib Jvm.Free Jvm.Stand Jvm.Pilot.@@N@@.Jvm.D
/-! MADE BY PROGRAM (witnessworld.py) out of the Statement's table words and the real class files: 13 classes; the members and pool entries that the words name. The judged class is class 1, her method 3. -/
namespace start1
open Jvm.ClassFile
def u (s : String) : CpInfo := .utf8 (stringToUtf16 s)
/-- a pool by its gaps: so many unusable entries, then the entry; so many at the end -/
def gap : Nat → List CpInfo → List CpInfo
  | 0, r => r
  | n + 1, r => .unusable :: gap n r
def poolList (es : List (Nat × CpInfo)) (last : Nat) : List CpInfo := es.foldr (fun e r => gap e.1 (e.2 :: r)) (gap last [])
def pool (es : List (Nat × CpInfo)) (last : Nat) : Array CpInfo := ⟨poolList es last⟩
def fileOf (pool : Array CpInfo) (this : Nat) (attrs : Array Attribute := #[]) (ms : Array MethodInfo := #[]) (fl : Nat := 33) (sup : Nat := 0) (ifs : Array Nat := #[]) (fds : Array FieldInfo := #[]) : ClassFile where
  minorVersion := 0
  majorVersion := 65
  constantPool := pool
  accessFlags := fl
  thisClass := this
  superClass := sup
  interfaces := ifs
  fields := fds
  methods := ms
  attributes := attrs
def plain (name : String) (sup : Option ClassId) : Class where
  name := name
  kind := .ordinary
  loader := none
  accessFlags := 33
  super := sup
  interfaces := #[]
  cf := none
  fields := #[]
  methods := #[]
  instanceTypes := #[]
  staticTypes := #[]
  resolved := #[]
  callSites := []
  init := .initialized
  statics := none
  mirror := none

def pool0 : Array CpInfo := pool [(5, u "<init>"), (0, u "()V"), (1, .class_ 10), (1, u "java/lang/Object")] 113

def k0m0 : Method := { name := "<init>", desc := "()V", sig := { parameters := [], returnType := none }, accessFlags := 1, code := none }
/-- java/lang/Object -/
def k0 : Class := { plain "java/lang/Object" none with
  accessFlags := 33
  interfaces := #[]
  cf := some (fileOf pool0 8 #[] #[{ accessFlags := 1, nameIndex := 5, descriptorIndex := 6, attributes := #[] }] 33 0 #[] #[])
  fields := #[]
  methods := #[k0m0]
  instanceTypes := #[]
  staticTypes := #[]
  resolved := Array.replicate 124 none
  statics := none }

def pool1 : Array CpInfo := pool [(2, .class_ 4), (1, u "java/lang/Object"), (0, u "<init>"), (0, u "()V"), (0, .integer 2147483647), (0, .fieldref 9 10), (0, .class_ 11), (0, .nameAndType 12 13), (0, u "com/example/treeloom/treeloom/harness/qt3/Assertions$Truth"), (0, u "TRUE"), (0, u "Lcom/example/treeloom/treeloom/harness/qt3/Assertions$Truth;"), (0, .fieldref 9 15), (0, .nameAndType 16 13), (0, u "FALSE"), (0, .fieldref 9 18), (0, .nameAndType 19 13), (0, u "UNKNOWN"), (0, .methodref 21 22), (0, .class_ 23), (0, .nameAndType 24 25), (0, u "com/example/treeloom/treeloom/harness/qt3/TruthAndPinLaw"), (0, u "pick"), (0, u "(I)Lcom/example/treeloom/treeloom/harness/qt3/Assertions$Truth;"), (0, .methodref 9 27), (0, .nameAndType 28 29), (0, u "and"), (0, u "(Lcom/example/treeloom/treeloom/harness/qt3/Assertions$Truth;)Lcom/example/treeloom/treeloom/harness/qt3/Assertions$Truth;"), (0, .methodref 21 31), (0, .nameAndType 32 33), (0, u "rank"), (0, u "(Lcom/example/treeloom/treeloom/harness/qt3/Assertions$Truth;)I"), (0, .methodref 35 36), (0, .class_ 37), (0, .nameAndType 38 39), (0, u "java/lang/Math"), (0, u "min"), (0, u "(II)I"), (3, u "law"), (0, u "(II)Z")] 6

def k1m0 : Method := { name := "<init>", desc := "()V", sig := { parameters := [], returnType := none }, accessFlags := 2, code := none }
def k1c1 : Code := { maxStack := 2, maxLocals := 2, code := method_2_code, exceptionTable := #[], attributes := #[] }
def k1m1 : Method := { name := "pick", desc := "(I)Lcom/example/treeloom/treeloom/harness/qt3/Assertions$Truth;", sig := { parameters := [.int], returnType := some (.object "com/example/treeloom/treeloom/harness/qt3/Assertions$Truth") }, accessFlags := 10, code := some k1c1 }
def k1c2 : Code := { maxStack := 2, maxLocals := 1, code := method_3_code, exceptionTable := #[], attributes := #[] }
def k1m2 : Method := { name := "rank", desc := "(Lcom/example/treeloom/treeloom/harness/qt3/Assertions$Truth;)I", sig := { parameters := [(.object "com/example/treeloom/treeloom/harness/qt3/Assertions$Truth")], returnType := some .int }, accessFlags := 10, code := some k1c2 }
def k1c3 : Code := { maxStack := 2, maxLocals := 6, code := code, exceptionTable := #[], attributes := #[] }
def k1m3 : Method := { name := "law", desc := "(II)Z", sig := { parameters := [.int, .int], returnType := some .boolean }, accessFlags := 9, code := some k1c3 }
/-- com/example/treeloom/treeloom/harness/qt3/TruthAndPinLaw -/
def k1 : Class := { plain "com/example/treeloom/treeloom/harness/qt3/TruthAndPinLaw" (some 0) with
  accessFlags := 49
  interfaces := #[]
  cf := some (fileOf pool1 21 #[] #[{ accessFlags := 2, nameIndex := 5, descriptorIndex := 6, attributes := #[] }, { accessFlags := 10, nameIndex := 24, descriptorIndex := 25, attributes := #[] }, { accessFlags := 10, nameIndex := 32, descriptorIndex := 33, attributes := #[] }, { accessFlags := 9, nameIndex := 43, descriptorIndex := 44, attributes := #[] }] 49 2 #[] #[])
  fields := #[]
  methods := #[k1m0, k1m1, k1m2, k1m3]
  instanceTypes := #[]
  staticTypes := #[]
  resolved := Array.replicate 51 none
  statics := none }

def pool2 : Array CpInfo := pool [(1, .class_ 2), (0, u "java/lang/constant/Constable"), (0, .class_ 4), (0, u "java/lang/Object")] 6

/-- java/lang/constant/Constable -/
def k2 : Class := { plain "java/lang/constant/Constable" (some 0) with
  accessFlags := 1537
  interfaces := #[]
  cf := some (fileOf pool2 1 #[] #[] 1537 3 #[] #[])
  fields := #[]
  methods := #[]
  instanceTypes := #[]
  staticTypes := #[]
  resolved := Array.replicate 11 none
  statics := none }

def pool3 : Array CpInfo := pool [(1, .class_ 2), (0, u "java/lang/Comparable"), (0, .class_ 4), (0, u "java/lang/Object")] 7

/-- java/lang/Comparable -/
def k3 : Class := { plain "java/lang/Comparable" (some 0) with
  accessFlags := 1537
  interfaces := #[]
  cf := some (fileOf pool3 1 #[] #[] 1537 3 #[] #[])
  fields := #[]
  methods := #[]
  instanceTypes := #[]
  staticTypes := #[]
  resolved := Array.replicate 12 none
  statics := none }

def pool4 : Array CpInfo := pool [(1, .class_ 2), (0, u "java/io/Serializable"), (0, .class_ 4), (0, u "java/lang/Object")] 2

/-- java/io/Serializable -/
def k4 : Class := { plain "java/io/Serializable" (some 0) with
  accessFlags := 1537
  interfaces := #[]
  cf := some (fileOf pool4 1 #[] #[] 1537 3 #[] #[])
  fields := #[]
  methods := #[]
  instanceTypes := #[]
  staticTypes := #[]
  resolved := Array.replicate 7 none
  statics := none }

def pool5 : Array CpInfo := pool [(2, .class_ 4), (1, u "java/lang/Enum"), (0, u "name"), (0, u "Ljava/lang/String;"), (2, u "ordinal"), (0, u "I"), (1, .class_ 14), (1, u "java/lang/Object"), (4, u "hash"), (86, .class_ 108), (1, u "java/lang/Enum$EnumDesc"), (2, .class_ 112), (0, u "java/lang/constant/Constable"), (0, .class_ 114), (0, u "java/lang/Comparable"), (0, .class_ 116), (0, u "java/io/Serializable")] 87

/-- java/lang/Enum -/
def k5 : Class := { plain "java/lang/Enum" (some 0) with
  accessFlags := 1057
  interfaces := #[2, 3, 4]
  cf := some (fileOf pool5 2 #[.nestMembers #[106]] #[] 1057 12 #[111, 113, 115] #[{ accessFlags := 18, nameIndex := 5, descriptorIndex := 6, attributes := #[] }, { accessFlags := 18, nameIndex := 9, descriptorIndex := 10, attributes := #[] }, { accessFlags := 2, nameIndex := 19, descriptorIndex := 10, attributes := #[] }])
  fields := #[{ name := "name", type := (.object "java/lang/String"), accessFlags := 18, slot := 0, constantValue := 0 }, { name := "ordinal", type := .int, accessFlags := 18, slot := 1, constantValue := 0 }, { name := "hash", type := .int, accessFlags := 2, slot := 2, constantValue := 0 }]
  methods := #[]
  instanceTypes := #[(.object "java/lang/String"), .int, .int]
  staticTypes := #[]
  resolved := Array.replicate 204 none
  statics := none }

def pool6 : Array CpInfo := pool [(1, .class_ 2), (0, u "com/example/treeloom/treeloom/harness/qt3/Assertions$Truth"), (0, .fieldref 1 4), (0, .nameAndType 5 6), (0, u "TRUE"), (0, u "Lcom/example/treeloom/treeloom/harness/qt3/Assertions$Truth;"), (0, .fieldref 1 8), (0, .nameAndType 9 6), (0, u "FALSE"), (0, .fieldref 1 11), (0, .nameAndType 12 6), (0, u "UNKNOWN"), (2, u "$VALUES"), (0, u "[Lcom/example/treeloom/treeloom/harness/qt3/Assertions$Truth;"), (6, .class_ 25), (1, u "java/lang/Enum"), (22, u "(Lcom/example/treeloom/treeloom/harness/qt3/Assertions$Truth;)Lcom/example/treeloom/treeloom/harness/qt3/Assertions$Truth;"), (1, u "and"), (5, .class_ 57), (0, u "com/example/treeloom/treeloom/harness/qt3/Assertions")] 2

def k6c0 : Code := { maxStack := 2, maxLocals := 2, code := prog_148_method_5_code, exceptionTable := #[], attributes := #[] }
def k6m0 : Method := { name := "and", desc := "(Lcom/example/treeloom/treeloom/harness/qt3/Assertions$Truth;)Lcom/example/treeloom/treeloom/harness/qt3/Assertions$Truth;", sig := { parameters := [(.object "com/example/treeloom/treeloom/harness/qt3/Assertions$Truth")], returnType := some (.object "com/example/treeloom/treeloom/harness/qt3/Assertions$Truth") }, accessFlags := 0, code := some k6c0 }
/-- com/example/treeloom/treeloom/harness/qt3/Assertions$Truth -/
def k6 : Class := { plain "com/example/treeloom/treeloom/harness/qt3/Assertions$Truth" (some 5) with
  accessFlags := 16432
  interfaces := #[]
  cf := some (fileOf pool6 1 #[.nestHost 56] #[{ accessFlags := 0, nameIndex := 50, descriptorIndex := 48, attributes := #[] }] 16432 23 #[] #[{ accessFlags := 16409, nameIndex := 5, descriptorIndex := 6, attributes := #[] }, { accessFlags := 16409, nameIndex := 9, descriptorIndex := 6, attributes := #[] }, { accessFlags := 16409, nameIndex := 12, descriptorIndex := 6, attributes := #[] }, { accessFlags := 4122, nameIndex := 15, descriptorIndex := 16, attributes := #[] }])
  fields := #[{ name := "TRUE", type := (.object "com/example/treeloom/treeloom/harness/qt3/Assertions$Truth"), accessFlags := 16409, slot := 0, constantValue := 0 }, { name := "FALSE", type := (.object "com/example/treeloom/treeloom/harness/qt3/Assertions$Truth"), accessFlags := 16409, slot := 1, constantValue := 0 }, { name := "UNKNOWN", type := (.object "com/example/treeloom/treeloom/harness/qt3/Assertions$Truth"), accessFlags := 16409, slot := 2, constantValue := 0 }, { name := "$VALUES", type := (.array (.object "com/example/treeloom/treeloom/harness/qt3/Assertions$Truth")), accessFlags := 4122, slot := 3, constantValue := 0 }]
  methods := #[k6m0]
  instanceTypes := #[(.object "java/lang/String"), .int, .int]
  staticTypes := #[(.object "com/example/treeloom/treeloom/harness/qt3/Assertions$Truth"), (.object "com/example/treeloom/treeloom/harness/qt3/Assertions$Truth"), (.object "com/example/treeloom/treeloom/harness/qt3/Assertions$Truth"), (.array (.object "com/example/treeloom/treeloom/harness/qt3/Assertions$Truth"))]
  resolved := Array.replicate 60 none
  statics := some 0 }

def pool7 : Array CpInfo := pool [(1, .class_ 2), (0, u "java/lang/Math"), (1, .class_ 6), (1, u "java/lang/Object"), (0, u "<init>"), (0, u "()V"), (89, .class_ 100), (1, u "java/lang/Math$RandomNumberGeneratorHolder"), (71, u "negativeZeroFloatBits"), (0, u "J"), (2, u "negativeZeroDoubleBits"), (24, u "min"), (43, u "$assertionsDisabled"), (0, u "Z"), (88, u "(II)I"), (2, u "twoToTheDoubleScaleDown"), (0, u "D"), (4, u "twoToTheDoubleScaleUp"), (9, u "E"), (3, u "PI"), (2, u "TAU"), (2, u "DEGREES_TO_RADIANS"), (0, u "RADIANS_TO_DEGREES")] 94

def k7m0 : Method := { name := "<init>", desc := "()V", sig := { parameters := [], returnType := none }, accessFlags := 2, code := none }
def k7c1 : Code := { maxStack := 2, maxLocals := 2, code := jdk_29_method_69_code, exceptionTable := #[], attributes := #[] }
def k7m1 : Method := { name := "min", desc := "(II)I", sig := { parameters := [.int, .int], returnType := some .int }, accessFlags := 9, code := some k7c1 }
/-- java/lang/Math -/
def k7 : Class := { plain "java/lang/Math" (some 0) with
  accessFlags := 49
  interfaces := #[]
  cf := some (fileOf pool7 1 #[.nestMembers #[98]] #[{ accessFlags := 2, nameIndex := 7, descriptorIndex := 8, attributes := #[] }, { accessFlags := 9, nameIndex := 201, descriptorIndex := 335, attributes := #[] }] 49 4 #[] #[{ accessFlags := 25, nameIndex := 354, descriptorIndex := 339, attributes := #[] }, { accessFlags := 25, nameIndex := 358, descriptorIndex := 339, attributes := #[] }, { accessFlags := 25, nameIndex := 361, descriptorIndex := 339, attributes := #[] }, { accessFlags := 26, nameIndex := 364, descriptorIndex := 339, attributes := #[] }, { accessFlags := 26, nameIndex := 365, descriptorIndex := 339, attributes := #[] }, { accessFlags := 26, nameIndex := 172, descriptorIndex := 173, attributes := #[] }, { accessFlags := 26, nameIndex := 176, descriptorIndex := 173, attributes := #[] }, { accessFlags := 8, nameIndex := 344, descriptorIndex := 339, attributes := #[] }, { accessFlags := 8, nameIndex := 338, descriptorIndex := 339, attributes := #[] }, { accessFlags := 4120, nameIndex := 245, descriptorIndex := 246, attributes := #[] }])
  fields := #[{ name := "E", type := .double, accessFlags := 25, slot := 0, constantValue := 0 }, { name := "PI", type := .double, accessFlags := 25, slot := 1, constantValue := 0 }, { name := "TAU", type := .double, accessFlags := 25, slot := 2, constantValue := 0 }, { name := "DEGREES_TO_RADIANS", type := .double, accessFlags := 26, slot := 3, constantValue := 0 }, { name := "RADIANS_TO_DEGREES", type := .double, accessFlags := 26, slot := 4, constantValue := 0 }, { name := "negativeZeroFloatBits", type := .long, accessFlags := 26, slot := 5, constantValue := 0 }, { name := "negativeZeroDoubleBits", type := .long, accessFlags := 26, slot := 6, constantValue := 0 }, { name := "twoToTheDoubleScaleUp", type := .double, accessFlags := 8, slot := 7, constantValue := 0 }, { name := "twoToTheDoubleScaleDown", type := .double, accessFlags := 8, slot := 8, constantValue := 0 }, { name := "$assertionsDisabled", type := .boolean, accessFlags := 4120, slot := 9, constantValue := 0 }]
  methods := #[k7m0, k7m1]
  instanceTypes := #[]
  staticTypes := #[.double, .double, .double, .double, .double, .long, .long, .double, .double, .boolean]
  resolved := Array.replicate 460 none
  statics := none }

def pool8 : Array CpInfo := pool [(1, u "java/lang/Cloneable"), (0, .class_ 1), (0, u "java/lang/Object"), (0, .class_ 3)] 3

/-- java/lang/Cloneable -/
def k8 : Class := { plain "java/lang/Cloneable" (some 0) with
  accessFlags := 1537
  interfaces := #[]
  cf := some (fileOf pool8 2 #[] #[] 1537 4 #[] #[])
  fields := #[]
  methods := #[]
  instanceTypes := #[]
  staticTypes := #[]
  resolved := Array.replicate 8 none
  statics := none }

/-- the primitive byte -/
def k9 : Class := { plain "byte" none with kind := .primitive 'B', accessFlags := 0x411 }
/-- [B -/
def k10 : Class := { plain "[B" (some 0) with kind := .array 9 .byte, interfaces := #[8, 4], accessFlags := 1041 }

/-- the primitive int -/
def k11 : Class := { plain "int" none with kind := .primitive 'I', accessFlags := 0x411 }
/-- [I -/
def k12 : Class := { plain "[I" (some 0) with kind := .array 11 .int, interfaces := #[8, 4], accessFlags := 1041 }

def heap : Heap := #[{ cls := 6, slots := #[.ref 1, .ref 2, .ref 3, .null], vm := .statics 6 },
  { cls := 6, slots := #[.null, .int 0, .int 0], vm := .none },
  { cls := 6, slots := #[.null, .int 1, .int 0], vm := .none },
  { cls := 6, slots := #[.null, .int 2, .int 0], vm := .none }]
def classes : Array Class := #[k0, k1, k2, k3, k4, k5, k6, k7, k8, k9, k10, k11, k12]
def interned : List (Array UInt16 × Addr) := []
def slotsUsed : Nat := 13
def theMethod : MethodId := ⟨1, 3⟩
def args0 : Array Value := #[.int 5, .int 7]
def aboutOver (below : List Frame) : State where
  vm := { classes := classes, interned := interned.toArray }
  heap := heap
  slotsUsed := slotsUsed
  threads := #[{ frames := .invoking theMethod args0 :: below }]
def below0 : List Frame := [.native { method := ⟨0, 0⟩, args := #[] }]
def about1 : State := aboutOver below0
def p0 : Program := .bare "" "" ""
def e0 : Env := launch0.env 0 0 0
theorem w_frames : about1.frames = Frame.invoking theMethod args0 :: below0 := rfl
set_option maxRecDepth 65536 in
theorem w_args : argsFit about1.vm theMethod args0 = true := by decide +kernel
set_option maxRecDepth 65536 in
theorem w_heap : heapFits about1 = true := by decide +kernel
set_option maxRecDepth 65536 in
theorem w_runnable : about1.curStatus? = some .runnable := by decide +kernel
set_option maxRecDepth 65536 in
theorem w_alone : about1.alone = true := by decide +kernel
set_option maxRecDepth 65536 in
theorem w_named : about1.methodNamed? x = some theMethod := by decide +kernel
set_option maxRecDepth 65536 in
theorem w_hears : about1.hears theMethod below0 = true := by decide +kernel
set_option maxRecDepth 65536 in
theorem w_ripe : about1.ripe theMethod args0 below0 = true := by decide +kernel
theorem w_running : about1.status = .running := rfl
set_option maxRecDepth 65536 in
theorem w_room : about1.hasRoom e0.platform room_1 = true :=
  launch0.hasRoom_least _ room_1 (by decide +kernel) (by decide +kernel) (by decide +kernel) (by decide +kernel) (by decide +kernel) (by decide +kernel)
theorem allAtoms_all (ts : List Jvm.Cond) (a : Array Jvm.Value) (st : Jvm.State) : (allAtoms ts).before a st = ts.all (fun c => c.before a st) := by
  induction ts with
  | nil => rfl
  | cons c t ih =>
    show (Jvm.Cond.and c (allAtoms t)).before a st = _
    rw [Jvm.Cond.before_and, ih, List.all_cons]
def words1 : List Jvm.Cond := Jvm.Cond.code x code maxLocals ret :: tables_1
/-- a 'code' word, met by the world's own term for the bytes: nothing is compared byte by byte -/
theorem code_word {y : MethodName} {bytes : ByteArray} {mx : Nat} {rt : Option FieldType} {a : Array Value} {s : State} {m : MethodId} {meth : Method} {c : Code} (h1 : s.methodNamed? y = some m) (h2 : s.vm.method? m = some meth) (h3 : meth.code = some c) (h4 : c.code = bytes)
    (h5 : (c.maxLocals == mx && c.exceptionTable.isEmpty && decide (c.maxStack ≤ mostOperands) && decide (meth.sig.returnType = rt) && !meth.locks && decide (parseMethodDescriptor y.desc = some meth.sig)) = true) : (Jvm.Cond.code y bytes mx rt).before a s = true := by
  simp only [Bool.and_eq_true, beq_iff_eq, Bool.not_eq_true', decide_eq_true_eq] at h5
  obtain ⟨⟨⟨⟨⟨g1, g2⟩, g3⟩, g4⟩, g5⟩, g6⟩ := h5
  simp [Cond.before, Cond.holds, Cond.value, h1, h2, h3, h4, g1, g2, g3, g4, g5, g6]
def isCode : Jvm.Cond → Bool
  | .code _ _ _ _ => true
  | _ => false
theorem all_split {L : List Jvm.Cond} {P : Jvm.Cond → Bool} (h1 : L.all (fun c => isCode c || P c) = true) (h2 : ∀ c ∈ L.filter isCode, P c = true) : L.all P = true := by
  refine List.all_eq_true.mpr fun c hc => ?_
  have h := List.all_eq_true.mp h1 c hc
  rcases Bool.eq_false_or_eq_true (isCode c) with hi | hi
  · exact h2 c (List.mem_filter.mpr ⟨hc, hi⟩)
  · simpa [hi] using h
set_option maxRecDepth 65536 in
theorem w_c0 : (Jvm.Cond.code x code maxLocals ret).before args0 about1 = true := code_word (m := ⟨1, 3⟩) (meth := k1m3) (c := k1c3) (by decide +kernel) rfl rfl rfl (by decide +kernel)
set_option maxRecDepth 65536 in
theorem w_c1 : (Jvm.Cond.code ({ cls := "com/example/treeloom/treeloom/harness/qt3/TruthAndPinLaw", name := "pick", desc := "(I)Lcom/example/treeloom/treeloom/harness/qt3/Assertions$Truth;" } : Jvm.MethodName) method_2_code (2 : Nat) (Option.some (Jvm.ClassFile.FieldType.object "com/example/treeloom/treeloom/harness/qt3/Assertions$Truth"))).before args0 about1 = true := code_word (m := ⟨1, 1⟩) (meth := k1m1) (c := k1c1) (by decide +kernel) rfl rfl rfl (by decide +kernel)
set_option maxRecDepth 65536 in
theorem w_c2 : (Jvm.Cond.code ({ cls := "com/example/treeloom/treeloom/harness/qt3/Assertions$Truth", name := "and", desc := "(Lcom/example/treeloom/treeloom/harness/qt3/Assertions$Truth;)Lcom/example/treeloom/treeloom/harness/qt3/Assertions$Truth;" } : Jvm.MethodName) prog_148_method_5_code (2 : Nat) (Option.some (Jvm.ClassFile.FieldType.object "com/example/treeloom/treeloom/harness/qt3/Assertions$Truth"))).before args0 about1 = true := code_word (m := ⟨6, 0⟩) (meth := k6m0) (c := k6c0) (by decide +kernel) rfl rfl rfl (by decide +kernel)
set_option maxRecDepth 65536 in
theorem w_c3 : (Jvm.Cond.code ({ cls := "com/example/treeloom/treeloom/harness/qt3/TruthAndPinLaw", name := "rank", desc := "(Lcom/example/treeloom/treeloom/harness/qt3/Assertions$Truth;)I" } : Jvm.MethodName) method_3_code (1 : Nat) (Option.some Jvm.ClassFile.FieldType.int)).before args0 about1 = true := code_word (m := ⟨1, 2⟩) (meth := k1m2) (c := k1c2) (by decide +kernel) rfl rfl rfl (by decide +kernel)
set_option maxRecDepth 65536 in
theorem w_c4 : (Jvm.Cond.code ({ cls := "java/lang/Math", name := "min", desc := "(II)I" } : Jvm.MethodName) jdk_29_method_69_code (2 : Nat) (Option.some Jvm.ClassFile.FieldType.int)).before args0 about1 = true := code_word (m := ⟨7, 1⟩) (meth := k7m1) (c := k7c1) (by decide +kernel) rfl rfl rfl (by decide +kernel)
def codes1 : List Jvm.Cond := [Jvm.Cond.code x code maxLocals ret, Jvm.Cond.code ({ cls := "com/example/treeloom/treeloom/harness/qt3/TruthAndPinLaw", name := "pick", desc := "(I)Lcom/example/treeloom/treeloom/harness/qt3/Assertions$Truth;" } : Jvm.MethodName) method_2_code (2 : Nat) (Option.some (Jvm.ClassFile.FieldType.object "com/example/treeloom/treeloom/harness/qt3/Assertions$Truth")), Jvm.Cond.code ({ cls := "com/example/treeloom/treeloom/harness/qt3/Assertions$Truth", name := "and", desc := "(Lcom/example/treeloom/treeloom/harness/qt3/Assertions$Truth;)Lcom/example/treeloom/treeloom/harness/qt3/Assertions$Truth;" } : Jvm.MethodName) prog_148_method_5_code (2 : Nat) (Option.some (Jvm.ClassFile.FieldType.object "com/example/treeloom/treeloom/harness/qt3/Assertions$Truth")), Jvm.Cond.code ({ cls := "com/example/treeloom/treeloom/harness/qt3/TruthAndPinLaw", name := "rank", desc := "(Lcom/example/treeloom/treeloom/harness/qt3/Assertions$Truth;)I" } : Jvm.MethodName) method_3_code (1 : Nat) (Option.some Jvm.ClassFile.FieldType.int), Jvm.Cond.code ({ cls := "java/lang/Math", name := "min", desc := "(II)I" } : Jvm.MethodName) jdk_29_method_69_code (2 : Nat) (Option.some Jvm.ClassFile.FieldType.int)]
set_option maxRecDepth 65536 in
theorem codes_eq : words1.filter isCode = codes1 := rfl
theorem w_codes : ∀ c ∈ words1.filter isCode, c.before args0 about1 = true := by
  rw [codes_eq]
  intro c hc
  simp only [codes1, List.mem_cons, List.not_mem_nil, or_false] at hc
  rcases hc with rfl | rfl | rfl | rfl | rfl
  · exact w_c0
  · exact w_c1
  · exact w_c2
  · exact w_c3
  · exact w_c4
set_option maxRecDepth 65536 in
theorem w_t1 : (words1.take 24).all (fun c => isCode c || c.before args0 about1) = true := by decide +kernel
set_option maxRecDepth 65536 in
theorem w_t2 : (words1.drop 24).all (fun c => isCode c || c.before args0 about1) = true := by decide +kernel
theorem w_tables : (allAtoms (Jvm.Cond.code x code maxLocals ret :: tables_1)).before args0 about1 = true := by
  rw [allAtoms_all]
  show words1.all (fun c => c.before args0 about1) = true
  refine all_split ?_ w_codes
  rw [← List.take_append_drop 24 words1, List.all_append, w_t1, w_t2]
  rfl
set_option maxRecDepth 65536 in
theorem w_case : (Jvm.Cond.and given_1 narrow_1).before args0 about1 = true := by decide +kernel
theorem w_applies : (headSpec (Jvm.Cond.code x code maxLocals ret :: tables_1) room_1).applies x e0.platform about1 = true :=
  (Spec.applies_iff w_frames).mpr ⟨w_running, w_runnable, w_alone, w_named, w_hears, w_ripe, w_room, w_tables⟩
theorem atStart : AtStart classFile x code maxLocals ret World_1 tables_1 room_1 Calls_1 rest_1 Pre_1 launch0 p0 e0 about1 theMethod args0 below0 :=
  ⟨lists_1, trivial, launch0.admits_env _ _ _, launch0.least_env, fairChoices_fair.cas, fairChoices_fair.clock, w_frames, w_args, w_heap, w_applies, trivial, trivial, w_case⟩
end start1
theorem witness_1 : WitnessClaimed_1 := ⟨start1.p0, start1.e0, start1.about1, start1.theMethod, start1.args0, start1.below0, start1.atStart⟩
end Jvm.Pilot.@@N@@
