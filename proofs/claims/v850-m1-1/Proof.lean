import JvmDerived
import JvmDerived.Pilot.@@N@@Statement
import JvmDerived.Pilot.@@N@@Code
set_option linter.unusedVariables false
set_option linter.unusedSimpArgs false
namespace Jvm.RoadKit
open Sem ClassFile Op Lib Jvm.Stand Jvm.Free Jvm.LawKit
section New
variable {p : Program} {l : Launch} {e : Env} {R : Room} {s : State} {m : MethodId} {args : Array Value} {below : List Frame} {meth : Method} {c : Code} {T : State} {locs : List Loc} {cells slots : Nat}
theorem retI (X : Stand p l e R s m args below meth c T locs cells slots) (hx : p.tables.exec = Jvm.exec) {pc : Nat} {Ls : Array Slot} {z : Int32} {rest : List Value} (hret : meth.sig.returnType = some .int) (hd : decode c.code pc = .ok (.ireturn, 1)) {fs : List Frame}
    (hl : ∀ (f : JFrame) (acts : List Action), f.method = m → f.locked = none → f.entered = [] → (doReturn e (T.setTop f) acts (some (.int z))).1 = T.setFrames fs) : Steps p.tables e below (T.setTop (mkF m pc Ls (.int z :: rest))) (T.setFrames fs) := by
  have hm' : T.vm.method? m = some meth := X.method'
  have hn : narrow .int (.int z) = .int z := rfl
  show Steps p.tables e below (T.setTop { method := m, pc := pc, locals := Ls, stack := _ :: rest, locked := none }) _
  jvm_step X.here [X.here.top, hx, hd, hm', hret, hn]
  first | (intro acts; rw [hl _ acts rfl rfl rfl]) | rw [hl _ _ rfl rfl rfl]
  exact Steps.refl _
end New
section Own
variable {p : Program} {l : Launch} {e : Env} {R : Room} {s : State} {m : MethodId} {args : Array Value} {below : List Frame} {meth : Method} {c : Code} {T A B : State} {locs : List Loc} {cells slots k n : Nat} {Q : Option Value → Heap → List Loc → Prop}
/-- from A the walk comes to its end, and Q holds there -/
def own_Go (p : Program) (e : Env) (below : List Frame) (s : State) (Q : Option Value → Heap → List Loc → Prop) (k n : Nat) (A : State) : Prop :=
  ∃ s₂ o, Steps p.tables e below A s₂ ∧ s₂.status = .running ∧ Ended s₂ below o ∧ ∃ v L, o = .returned v ∧ Q v s₂.heap L ∧ FrameEnd s o s₂ L k n
theorem own_st (h : ∀ t, Steps p.tables e below B t → Steps p.tables e below A t) (g : own_Go p e below s Q k n B) : own_Go p e below s Q k n A := by
  obtain ⟨s₂, o, h1, r⟩ := g
  exact ⟨s₂, o, h _ h1, r⟩
theorem own_tr (h : Steps p.tables e below A B) (g : own_Go p e below s Q k n B) : own_Go p e below s Q k n A := own_st (fun _ q => h.trans q) g
theorem own_end (X : Stand p l e R s m args below meth c T locs cells slots) (hlk : meth.locks = false) {v : Option Value} (hv : meth.sig.returnType = none → v = none) (hk : cells ≤ k) (hn : slots ≤ n) (hQ : Q v T.heap locs) {g : JFrame}
    (hgo : ∀ fs, (∀ (f : JFrame) (acts : List Action), f.method = m → f.locked = none → f.entered = [] → (doReturn e (T.setTop f) acts v).1 = T.setFrames fs) → Steps p.tables e below (T.setTop g) (T.setFrames fs)) : own_Go p e below s Q k n (T.setTop g) := by
  obtain ⟨fs, hr, hrun, hended, hW, hsame⟩ := X.leave hv hlk
  exact ⟨_, _, hgo fs hr, hrun, hended, v, locs, rfl, hQ, ⟨_, rfl⟩, hW, hsame.mono hk hn⟩
theorem own_retI (X : Stand p l e R s m args below meth c T locs cells slots) (hx : p.tables.exec = Jvm.exec) (hlk : meth.locks = false) {pc : Nat} {Ls : Array Slot} {z : Int32} {rest : List Value} (hret : meth.sig.returnType = some .int) (hd : decode c.code pc = .ok (.ireturn, 1)) (hk : cells ≤ k) (hn : slots ≤ n) (hQ : Q (some (.int z)) T.heap locs) :
    own_Go p e below s Q k n (T.setTop (mkF m pc Ls (.int z :: rest))) := own_end X hlk (fun h => by rw [hret] at h; cases h) hk hn hQ fun fs hr => retI X hx hret hd hr
theorem own_retN (X : Stand p l e R s m args below meth c T locs cells slots) (hx : p.tables.exec = Jvm.exec) (hlk : meth.locks = false) {pc : Nat} {Ls : Array Slot} {z z' : Int32} {rest : List Value} {t : FieldType} (hret : meth.sig.returnType = some t) (ht : t = .boolean ∨ t = .byte ∨ t = .char ∨ t = .short) (hz : nar t z = z') (hd : decode c.code pc = .ok (.ireturn, 1)) (hk : cells ≤ k) (hn : slots ≤ n) (hQ : Q (some (.int z')) T.heap locs) :
    own_Go p e below s Q k n (T.setTop (mkF m pc Ls (.int z :: rest))) := own_end X hlk (v := some (.int (nar t z))) (fun h => by rw [hret] at h; cases h) hk hn (hz ▸ hQ) fun fs hr => retN X hx hret ht hd hr
theorem own_retJ (X : Stand p l e R s m args below meth c T locs cells slots) (hx : p.tables.exec = Jvm.exec) (hlk : meth.locks = false) {pc : Nat} {Ls : Array Slot} {z : Int64} {rest : List Value} (hret : meth.sig.returnType = some .long) (hd : decode c.code pc = .ok (.lreturn, 1)) (hk : cells ≤ k) (hn : slots ≤ n) (hQ : Q (some (.long z)) T.heap locs) :
    own_Go p e below s Q k n (T.setTop (mkF m pc Ls (.long z :: rest))) := own_end X hlk (fun h => by rw [hret] at h; cases h) hk hn hQ fun fs hr => retOut X hx hret rfl (Or.inr (Or.inl ⟨rfl, rfl, _, rfl⟩)) hd hr
theorem own_retA (X : Stand p l e R s m args below meth c T locs cells slots) (hx : p.tables.exec = Jvm.exec) (hlk : meth.locks = false) {pc : Nat} {Ls : Array Slot} {w : Value} {t : FieldType} {rest : List Value} (hret : meth.sig.returnType = some t) (hw : w.isRef = true) (hd : decode c.code pc = .ok (.areturn, 1)) (hk : cells ≤ k) (hn : slots ≤ n) (hQ : Q (some w) T.heap locs) (ht : t.isReference = true := by rfl) :
    own_Go p e below s Q k n (T.setTop (mkF m pc Ls (w :: rest))) := own_end X hlk (fun h => by rw [hret] at h; cases h) hk hn hQ fun fs hr => retOut X hx hret (by cases w <;> first | (cases hw; done) | (cases t <;> first | (cases ht; done) | rfl)) (Or.inr (Or.inr (Or.inr (Or.inr ⟨rfl, ht, hw⟩)))) hd hr
theorem own_ret0 (X : Stand p l e R s m args below meth c T locs cells slots) (hx : p.tables.exec = Jvm.exec) (hlk : meth.locks = false) {pc : Nat} {Ls : Array Slot} (hret : meth.sig.returnType = none) (hd : decode c.code pc = .ok (.return_, 1)) (hk : cells ≤ k) (hn : slots ≤ n) (hQ : Q none T.heap locs) :
    own_Go p e below s Q k n (T.setTop (mkF m pc Ls [])) := own_end X hlk (fun _ => rfl) hk hn hQ fun fs hr => X.returnOut hx hret hd hr
end Own
theorem own_narR {C : String} {v : Value} (h : v.isRef = true) : narrow (.object C) v = v := by cases v <;> first | rfl | (cases h; done)
theorem own_fitR {C : String} {v : Value} (h : v.isRef = true) : fits (.object C) v = true := by cases v <;> first | rfl | (cases h; done)
theorem own_pad (n : Nat) (d : Value) (i : Nat) : (List.replicate n d).getD i d = ([] : List Value).getD i d := by
  have h := pad_rep [] d n i
  simpa using h
end Jvm.RoadKit
namespace Jvm.Pilot.@@N@@
open Jvm Jvm.ClassFile Sem Op Lib Jvm.Free Jvm.Stand Jvm.LawKit Jvm.RoadKit Bundle Jvm.Pilot.@@N@@.Jvm.D
theorem own_eqV {args : Array Value} {first s : State} {o : Option Outcome} {idx : List Nat} {t u : Term} {w : Value} (h : (Cond.eq t u).value args first o s idx = some true) (hu : u.eval args first o idx s = some w) : t.eval args first o idx s = some w := by
  simp only [Cond.value, hu] at h
  cases ht : t.eval args first o idx s with
  | none => simp [ht] at h
  | some v => cases v <;> cases w <;> simp_all

theorem own_rem (x n : Int32) (hn : 0 < n.toInt) : 0 ≤ ((x &&& (2147483647 : Int32)) % n).toInt ∧ ((x &&& (2147483647 : Int32)) % n).toInt < n.toInt := by
  have h : ¬ (x &&& (2147483647 : Int32)) < 0 := by
    rw [XT.and_neg32]
    intro h
    exact absurd h.2 (by decide)
  rw [XT.negI32] at h
  rw [Int32.toInt_mod]
  exact ⟨Int.tmod_nonneg _ (by omega), Int.tmod_lt_of_pos _ hn⟩
theorem own_nat {k : Int32} {n : Nat} (hn : n ≤ 2147483647) (h0 : 0 ≤ k.toInt) (h1 : k.toInt < n) : ∃ i : Nat, i < n ∧ k = i.toInt32 :=
  ⟨k.toInt.toNat, by omega, Int32.toInt_inj.mp (by rw [len_toInt (by omega)]; omega)⟩
theorem own_remN (x m : Int32) (n : Nat) (hm : m.toInt = n) (hn : 0 < n) (hn' : n ≤ 2147483647) : ∃ i : Nat, i < n ∧ (x &&& (2147483647 : Int32)) % m = i.toInt32 := by
  have h := own_rem x m (by omega)
  exact own_nat hn' h.1 (by omega)
def own_mn (k : Int32) : Int32 := if k = 0 then (3 : Int32) else if k = 1 then (4 : Int32) else if k = 2 then (1 : Int32) else if k = 3 then (0 : Int32) else if k = 4 then (2 : Int32) else if k = 5 then (1 : Int32) else if k = 6 then (0 : Int32) else if k = 7 then (0 : Int32) else if k = 8 then (0 : Int32) else if k = 9 then (0 : Int32) else if k = 10 then (0 : Int32) else if k = 11 then (0 : Int32) else if k = 12 then (0 : Int32) else (0 : Int32)
def own_mx (k : Int32) : Int32 := if k = 0 then (3 : Int32) else if k = 1 then (11 : Int32) else if k = 2 then (5 : Int32) else if k = 3 then (4 : Int32) else if k = 4 then (7 : Int32) else if k = 5 then (7 : Int32) else if k = 6 then (2 : Int32) else if k = 7 then (9 : Int32) else if k = 8 then (4 : Int32) else if k = 9 then (5 : Int32) else if k = 10 then (5 : Int32) else if k = 11 then (5 : Int32) else if k = 12 then (4 : Int32) else (3 : Int32)
def own_lo (k : Int32) : Int32 := if k = 0 then 3 else if k = 1 then 4 else if k = 2 then 1 else if k = 4 then 2 else if k = 5 then 1 else 0
def own_hi (k : Int32) : Int32 := if k = 0 then 3 else if k = 1 then 11 else if k = 2 then 5 else if k = 3 then 4 else if k = 4 then 7 else if k = 5 then 7 else if k = 6 then 2 else if k = 7 then 9 else if k = 8 then 4 else if k = 12 then 4 else if k = 13 then 3 else 5
theorem own_plain0 : ∀ i < 14, ¬ (Nat.toInt32 i = 0) → own_mn (Nat.toInt32 i) = own_lo (Nat.toInt32 i) ∧ own_mx (Nat.toInt32 i) = own_hi (Nat.toInt32 i) := by decide
theorem own_plain (k : Int32) (h : ∃ i : Nat, i < 14 ∧ k = i.toInt32) (hk : ¬ k = 0) : own_mn k = own_lo k ∧ own_mx k = own_hi k := by
  obtain ⟨i, hi, rfl⟩ := h
  exact own_plain0 i hi hk
theorem own_d_method_2_code_0 : decode method_2_code 0 = .ok (.iload_n 0, 1) := by decide +kernel
theorem own_d_method_2_code_1 : decode method_2_code 1 = .ok (.ifCond .ne 7, 3) := by decide +kernel
theorem own_d_method_2_code_4 : decode method_2_code 4 = .ok (.getstatic 7, 3) := by decide +kernel
theorem own_d_method_2_code_7 : decode method_2_code 7 = .ok (.areturn, 1) := by decide +kernel
theorem own_d_method_2_code_8 : decode method_2_code 8 = .ok (.iload_n 0, 1) := by decide +kernel
theorem own_d_method_2_code_9 : decode method_2_code 9 = .ok (.iconst 1, 1) := by decide +kernel
theorem own_d_method_2_code_10 : decode method_2_code 10 = .ok (.if_icmp .ne 7, 3) := by decide +kernel
theorem own_d_method_2_code_13 : decode method_2_code 13 = .ok (.getstatic 13, 3) := by decide +kernel
theorem own_d_method_2_code_16 : decode method_2_code 16 = .ok (.areturn, 1) := by decide +kernel
theorem own_d_method_2_code_17 : decode method_2_code 17 = .ok (.iload_n 0, 1) := by decide +kernel
theorem own_d_method_2_code_18 : decode method_2_code 18 = .ok (.iconst 2, 1) := by decide +kernel
theorem own_d_method_2_code_19 : decode method_2_code 19 = .ok (.if_icmp .ne 7, 3) := by decide +kernel
theorem own_d_method_2_code_22 : decode method_2_code 22 = .ok (.getstatic 16, 3) := by decide +kernel
theorem own_d_method_2_code_25 : decode method_2_code 25 = .ok (.areturn, 1) := by decide +kernel
theorem own_d_method_2_code_26 : decode method_2_code 26 = .ok (.iload_n 0, 1) := by decide +kernel
theorem own_d_method_2_code_27 : decode method_2_code 27 = .ok (.iconst 3, 1) := by decide +kernel
theorem own_d_method_2_code_28 : decode method_2_code 28 = .ok (.if_icmp .ne 7, 3) := by decide +kernel
theorem own_d_method_2_code_31 : decode method_2_code 31 = .ok (.getstatic 19, 3) := by decide +kernel
theorem own_d_method_2_code_34 : decode method_2_code 34 = .ok (.areturn, 1) := by decide +kernel
theorem own_d_method_2_code_35 : decode method_2_code 35 = .ok (.iload_n 0, 1) := by decide +kernel
theorem own_d_method_2_code_36 : decode method_2_code 36 = .ok (.iconst 4, 1) := by decide +kernel
theorem own_d_method_2_code_37 : decode method_2_code 37 = .ok (.if_icmp .ne 7, 3) := by decide +kernel
theorem own_d_method_2_code_40 : decode method_2_code 40 = .ok (.getstatic 22, 3) := by decide +kernel
theorem own_d_method_2_code_43 : decode method_2_code 43 = .ok (.areturn, 1) := by decide +kernel
theorem own_d_method_2_code_44 : decode method_2_code 44 = .ok (.iload_n 0, 1) := by decide +kernel
theorem own_d_method_2_code_45 : decode method_2_code 45 = .ok (.iconst 5, 1) := by decide +kernel
theorem own_d_method_2_code_46 : decode method_2_code 46 = .ok (.if_icmp .ne 7, 3) := by decide +kernel
theorem own_d_method_2_code_49 : decode method_2_code 49 = .ok (.getstatic 25, 3) := by decide +kernel
theorem own_d_method_2_code_52 : decode method_2_code 52 = .ok (.areturn, 1) := by decide +kernel
theorem own_d_method_2_code_53 : decode method_2_code 53 = .ok (.iload_n 0, 1) := by decide +kernel
theorem own_d_method_2_code_54 : decode method_2_code 54 = .ok (.bipush 6, 2) := by decide +kernel
theorem own_d_method_2_code_56 : decode method_2_code 56 = .ok (.if_icmp .ne 7, 3) := by decide +kernel
theorem own_d_method_2_code_59 : decode method_2_code 59 = .ok (.getstatic 28, 3) := by decide +kernel
theorem own_d_method_2_code_62 : decode method_2_code 62 = .ok (.areturn, 1) := by decide +kernel
theorem own_d_method_2_code_63 : decode method_2_code 63 = .ok (.iload_n 0, 1) := by decide +kernel
theorem own_d_method_2_code_64 : decode method_2_code 64 = .ok (.bipush 7, 2) := by decide +kernel
theorem own_d_method_2_code_66 : decode method_2_code 66 = .ok (.if_icmp .ne 7, 3) := by decide +kernel
theorem own_d_method_2_code_69 : decode method_2_code 69 = .ok (.getstatic 31, 3) := by decide +kernel
theorem own_d_method_2_code_72 : decode method_2_code 72 = .ok (.areturn, 1) := by decide +kernel
theorem own_d_method_2_code_73 : decode method_2_code 73 = .ok (.iload_n 0, 1) := by decide +kernel
theorem own_d_method_2_code_74 : decode method_2_code 74 = .ok (.bipush 8, 2) := by decide +kernel
theorem own_d_method_2_code_76 : decode method_2_code 76 = .ok (.if_icmp .ne 7, 3) := by decide +kernel
theorem own_d_method_2_code_79 : decode method_2_code 79 = .ok (.getstatic 34, 3) := by decide +kernel
theorem own_d_method_2_code_82 : decode method_2_code 82 = .ok (.areturn, 1) := by decide +kernel
theorem own_d_method_2_code_83 : decode method_2_code 83 = .ok (.iload_n 0, 1) := by decide +kernel
theorem own_d_method_2_code_84 : decode method_2_code 84 = .ok (.bipush 9, 2) := by decide +kernel
theorem own_d_method_2_code_86 : decode method_2_code 86 = .ok (.if_icmp .ne 7, 3) := by decide +kernel
theorem own_d_method_2_code_89 : decode method_2_code 89 = .ok (.getstatic 37, 3) := by decide +kernel
theorem own_d_method_2_code_92 : decode method_2_code 92 = .ok (.areturn, 1) := by decide +kernel
theorem own_d_method_2_code_93 : decode method_2_code 93 = .ok (.iload_n 0, 1) := by decide +kernel
theorem own_d_method_2_code_94 : decode method_2_code 94 = .ok (.bipush 10, 2) := by decide +kernel
theorem own_d_method_2_code_96 : decode method_2_code 96 = .ok (.if_icmp .ne 7, 3) := by decide +kernel
theorem own_d_method_2_code_99 : decode method_2_code 99 = .ok (.getstatic 40, 3) := by decide +kernel
theorem own_d_method_2_code_102 : decode method_2_code 102 = .ok (.areturn, 1) := by decide +kernel
theorem own_d_method_2_code_103 : decode method_2_code 103 = .ok (.iload_n 0, 1) := by decide +kernel
theorem own_d_method_2_code_104 : decode method_2_code 104 = .ok (.bipush 11, 2) := by decide +kernel
theorem own_d_method_2_code_106 : decode method_2_code 106 = .ok (.if_icmp .ne 7, 3) := by decide +kernel
theorem own_d_method_2_code_109 : decode method_2_code 109 = .ok (.getstatic 43, 3) := by decide +kernel
theorem own_d_method_2_code_112 : decode method_2_code 112 = .ok (.areturn, 1) := by decide +kernel
theorem own_d_method_2_code_113 : decode method_2_code 113 = .ok (.iload_n 0, 1) := by decide +kernel
theorem own_d_method_2_code_114 : decode method_2_code 114 = .ok (.bipush 12, 2) := by decide +kernel
theorem own_d_method_2_code_116 : decode method_2_code 116 = .ok (.if_icmp .ne 7, 3) := by decide +kernel
theorem own_d_method_2_code_119 : decode method_2_code 119 = .ok (.getstatic 46, 3) := by decide +kernel
theorem own_d_method_2_code_122 : decode method_2_code 122 = .ok (.areturn, 1) := by decide +kernel
theorem own_d_method_2_code_123 : decode method_2_code 123 = .ok (.getstatic 49, 3) := by decide +kernel
theorem own_d_method_2_code_126 : decode method_2_code 126 = .ok (.areturn, 1) := by decide +kernel
theorem own_pn0 : plainFor (⟨"com/example/indri/indri/wire/ApiServesPinLaw", "pick", "(I)Lcom/example/indri/indri/wire/Api;"⟩ : MethodName) = true := by decide +kernel
def own_rm_pick0_Q (Z : State) (p1 : Int32) (a_PRODUCE : Addr) (f_PRODUCE_notServedReason : Addr) (h0 : Heap) (n0 : Nat) (v : Option Value) (h : Heap) (L : List Loc) : Prop := Fr n0 L ∧ v = some (.ref a_PRODUCE) ∧ h = h0
theorem own_rm_pick0_ef (m : MethodId) (p1 : Int32) : entryFrame m #[(.int p1)] 1 = mkF m 0 #[.val (.int p1)] [] := by first | (simp [entryFrame, mkF, argsToLocals, Value.category]; done) | rfl
set_option maxRecDepth 65536 in
set_option maxHeartbeats 40000000 in
theorem own_rm_pick0 (l : Launch) (Z : State) (a0 : Array Value) (hw : ∀ d ∈ tables_1, d.before a0 Z = true) (ws : List Jvm.Cond) (p1 : Int32) (a_PRODUCE : Addr) (f_PRODUCE_notServedReason : Addr) (h0 : Heap) (n0 : Nat) (Z0 : n0 ≤ h0.size) (O0 : Old Z n0 h0) (hz : p1 = 0) (Ex_a_PRODUCE : Exa Z Z.heap a_PRODUCE "com/example/indri/indri/wire/Api") (S_a_PRODUCE : Sta Z Z.heap "com/example/indri/indri/wire/Api" "PRODUCE" "Lcom/example/indri/indri/wire/Api;" (.ref a_PRODUCE)) (Ex_f_PRODUCE_notServedReason : Exa Z Z.heap f_PRODUCE_notServedReason "java/lang/String") (F_PRODUCE_notServedReason : Fld Z Z.heap a_PRODUCE "com/example/indri/indri/wire/Api" "notServedReason" "Ljava/lang/String;" (.ref f_PRODUCE_notServedReason)) (F_PRODUCE_minVersion : Fld Z Z.heap a_PRODUCE "com/example/indri/indri/wire/Api" "minVersion" "S" (.int (3 : Int32))) (F_PRODUCE_maxVersion : Fld Z Z.heap a_PRODUCE "com/example/indri/indri/wire/Api" "maxVersion" "S" (.int (3 : Int32))) :
    MetFree l (⟨"com/example/indri/indri/wire/ApiServesPinLaw", "pick", "(I)Lcom/example/indri/indri/wire/Api;"⟩ : MethodName) (head1 (Jvm.Cond.code (⟨"com/example/indri/indri/wire/ApiServesPinLaw", "pick", "(I)Lcom/example/indri/indri/wire/Api;"⟩ : MethodName) method_2_code 1 (some (.object "com/example/indri/indri/wire/Api")) :: ws) ({ frames := 0, cells := 0, slots := 0, locals := 0 } : Room)) (fun a U => a = #[(.int p1)] ∧ Z.Warmed39 U.vm ∧ U.heap = h0) (fun _ _ _ _ _ => True) (fun _ U o U' => ∃ v L, o = .returned v ∧ own_rm_pick0_Q Z p1 a_PRODUCE f_PRODUCE_notServedReason h0 n0 v U'.heap L ∧ FrameEnd U o U' L ({ frames := 0, cells := 0, slots := 0, locals := 0 } : Room).cells ({ frames := 0, cells := 0, slots := 0, locals := 0 } : Room).slots) := by
  refine MetFree.of_bodySF own_pn0 hisR ?_
  intro p e s m args below meth c s₁ Bd hml0 hP hK
  obtain ⟨rfl, hZ, hh⟩ := hP
  have hx := Bd.exec
  have hby := Bd.bytes
  have hml : c.maxLocals = 1 := hml0
  have hlk := BodyLoose.notSynchronized Bd
  have hown : s.vm.findClass "com/example/indri/indri/wire/ApiServesPinLaw" = some m.cls := findClass_of_methodNamed Bd.named
  have hnm := (name_of_methodNamed Bd.named Bd.method).1
  have X0 : Stand p l e ({ frames := 0, cells := 0, slots := 0, locals := 0 } : Room) s m #[(.int p1)] below meth c s₁ [] 0 0 := Stand.of_body Bd
  have e0 : s₁.heap = h0 := by rw [← hh, Bd.state]; rfl
  have N0 := Fr.nil n0
  show own_Go p e below s (own_rm_pick0_Q Z p1 a_PRODUCE f_PRODUCE_notServedReason h0 n0) ({ frames := 0, cells := 0, slots := 0, locals := 0 } : Room).cells ({ frames := 0, cells := 0, slots := 0, locals := 0 } : Room).slots (s₁.setTop (entryFrame m #[(.int p1)] 1))
  rw [own_rm_pick0_ef]
  show own_Go p e below s _ _ _ (s₁.setTop (mkF m 0 #[.val (.int p1)] []))
  refine own_st (fun _ k => XS.iloadN X0.here hx rfl (hb hby own_d_method_2_code_0) rfl k) ?_
  show own_Go p e below s _ _ _ (s₁.setTop (mkF m 1 #[.val (.int p1)] [(.int p1)]))
  refine own_st (fun _ k => XS.ifNo X0.here hx rfl (hb hby own_d_method_2_code_1) rfl (XT.i0_ne_f hz) k) ?_
  show own_Go p e below s _ _ _ (s₁.setTop (mkF m 4 #[.val (.int p1)] []))
  have F1 : Sta Z h0 "com/example/indri/indri/wire/Api" "PRODUCE" "Lcom/example/indri/indri/wire/Api;" (.ref a_PRODUCE) := S_a_PRODUCE.ext O0.2
  obtain ⟨T2, X2, e2, st2⟩ := getS2 X0 hx hZ hown (host := "") (Or.inl (hw _ (List.mem_of_getElem? (i := 5) rfl))) Via.refl e0 F1 (g := (mkF m 4 #[.val (.int p1)] [])) rfl (hb hby own_d_method_2_code_4)
  refine own_st st2 ?_
  show own_Go p e below s _ _ _ (T2.setTop (mkF m 7 #[.val (.int p1)] [(.ref a_PRODUCE)]))
  refine own_retA X2 hx hlk Bd.returns rfl (hb hby own_d_method_2_code_7) (by decide) (by decide) ?_
  rw [e2]
  exact ⟨N0, rfl, rfl⟩
def own_rm_pickN_Q (Z : State) (p1 : Int32) (a_PRODUCE : Addr) (f_PRODUCE_notServedReason : Addr) (a_FETCH : Addr) (a_SYNC_GROUP : Addr) (a_OFFSET_FETCH : Addr) (a_HEARTBEAT : Addr) (a_LIST_OFFSETS : Addr) (a_METADATA : Addr) (a_DESCRIBE_GROUPS : Addr) (a_LEAVE_GROUP : Addr) (a_API_VERSIONS : Addr) (a_OFFSET_COMMIT : Addr) (a_JOIN_GROUP : Addr) (a_FIND_COORDINATOR : Addr) (a_LIST_GROUPS : Addr) (h0 : Heap) (n0 : Nat) (v : Option Value) (h : Heap) (L : List Loc) : Prop := ∃ r : Addr, Fr n0 L ∧ v = some (.ref r) ∧ h = h0 ∧ Exa Z h r "com/example/indri/indri/wire/Api" ∧ Fld Z h r "com/example/indri/indri/wire/Api" "notServedReason" "Ljava/lang/String;" .null ∧ Fld Z h r "com/example/indri/indri/wire/Api" "minVersion" "S" (.int (own_mn p1)) ∧ Fld Z h r "com/example/indri/indri/wire/Api" "maxVersion" "S" (.int (own_mx p1))
theorem own_rm_pickN_ef (m : MethodId) (p1 : Int32) : entryFrame m #[(.int p1)] 1 = mkF m 0 #[.val (.int p1)] [] := by first | (simp [entryFrame, mkF, argsToLocals, Value.category]; done) | rfl
set_option maxRecDepth 65536 in
set_option maxHeartbeats 40000000 in
theorem own_rm_pickN (l : Launch) (Z : State) (a0 : Array Value) (hw : ∀ d ∈ tables_1, d.before a0 Z = true) (ws : List Jvm.Cond) (p1 : Int32) (a_PRODUCE : Addr) (f_PRODUCE_notServedReason : Addr) (a_FETCH : Addr) (a_SYNC_GROUP : Addr) (a_OFFSET_FETCH : Addr) (a_HEARTBEAT : Addr) (a_LIST_OFFSETS : Addr) (a_METADATA : Addr) (a_DESCRIBE_GROUPS : Addr) (a_LEAVE_GROUP : Addr) (a_API_VERSIONS : Addr) (a_OFFSET_COMMIT : Addr) (a_JOIN_GROUP : Addr) (a_FIND_COORDINATOR : Addr) (a_LIST_GROUPS : Addr) (h0 : Heap) (n0 : Nat) (Z0 : n0 ≤ h0.size) (O0 : Old Z n0 h0) (hz : ¬ p1 = 0) (Ex_a_PRODUCE : Exa Z Z.heap a_PRODUCE "com/example/indri/indri/wire/Api") (S_a_PRODUCE : Sta Z Z.heap "com/example/indri/indri/wire/Api" "PRODUCE" "Lcom/example/indri/indri/wire/Api;" (.ref a_PRODUCE)) (Ex_f_PRODUCE_notServedReason : Exa Z Z.heap f_PRODUCE_notServedReason "java/lang/String") (F_PRODUCE_notServedReason : Fld Z Z.heap a_PRODUCE "com/example/indri/indri/wire/Api" "notServedReason" "Ljava/lang/String;" (.ref f_PRODUCE_notServedReason)) (Ex_a_FETCH : Exa Z Z.heap a_FETCH "com/example/indri/indri/wire/Api") (S_a_FETCH : Sta Z Z.heap "com/example/indri/indri/wire/Api" "FETCH" "Lcom/example/indri/indri/wire/Api;" (.ref a_FETCH)) (F_FETCH_notServedReason : Fld Z Z.heap a_FETCH "com/example/indri/indri/wire/Api" "notServedReason" "Ljava/lang/String;" .null) (F_FETCH_minVersion : Fld Z Z.heap a_FETCH "com/example/indri/indri/wire/Api" "minVersion" "S" (.int (4 : Int32))) (F_FETCH_maxVersion : Fld Z Z.heap a_FETCH "com/example/indri/indri/wire/Api" "maxVersion" "S" (.int (11 : Int32))) (Ex_a_SYNC_GROUP : Exa Z Z.heap a_SYNC_GROUP "com/example/indri/indri/wire/Api") (S_a_SYNC_GROUP : Sta Z Z.heap "com/example/indri/indri/wire/Api" "SYNC_GROUP" "Lcom/example/indri/indri/wire/Api;" (.ref a_SYNC_GROUP)) (F_SYNC_GROUP_notServedReason : Fld Z Z.heap a_SYNC_GROUP "com/example/indri/indri/wire/Api" "notServedReason" "Ljava/lang/String;" .null) (F_SYNC_GROUP_minVersion : Fld Z Z.heap a_SYNC_GROUP "com/example/indri/indri/wire/Api" "minVersion" "S" (.int (0 : Int32))) (F_SYNC_GROUP_maxVersion : Fld Z Z.heap a_SYNC_GROUP "com/example/indri/indri/wire/Api" "maxVersion" "S" (.int (5 : Int32))) (Ex_a_OFFSET_FETCH : Exa Z Z.heap a_OFFSET_FETCH "com/example/indri/indri/wire/Api") (S_a_OFFSET_FETCH : Sta Z Z.heap "com/example/indri/indri/wire/Api" "OFFSET_FETCH" "Lcom/example/indri/indri/wire/Api;" (.ref a_OFFSET_FETCH)) (F_OFFSET_FETCH_notServedReason : Fld Z Z.heap a_OFFSET_FETCH "com/example/indri/indri/wire/Api" "notServedReason" "Ljava/lang/String;" .null) (F_OFFSET_FETCH_minVersion : Fld Z Z.heap a_OFFSET_FETCH "com/example/indri/indri/wire/Api" "minVersion" "S" (.int (1 : Int32))) (Ex_a_HEARTBEAT : Exa Z Z.heap a_HEARTBEAT "com/example/indri/indri/wire/Api") (S_a_HEARTBEAT : Sta Z Z.heap "com/example/indri/indri/wire/Api" "HEARTBEAT" "Lcom/example/indri/indri/wire/Api;" (.ref a_HEARTBEAT)) (F_HEARTBEAT_notServedReason : Fld Z Z.heap a_HEARTBEAT "com/example/indri/indri/wire/Api" "notServedReason" "Ljava/lang/String;" .null) (F_HEARTBEAT_minVersion : Fld Z Z.heap a_HEARTBEAT "com/example/indri/indri/wire/Api" "minVersion" "S" (.int (0 : Int32))) (Ex_a_LIST_OFFSETS : Exa Z Z.heap a_LIST_OFFSETS "com/example/indri/indri/wire/Api") (S_a_LIST_OFFSETS : Sta Z Z.heap "com/example/indri/indri/wire/Api" "LIST_OFFSETS" "Lcom/example/indri/indri/wire/Api;" (.ref a_LIST_OFFSETS)) (F_LIST_OFFSETS_notServedReason : Fld Z Z.heap a_LIST_OFFSETS "com/example/indri/indri/wire/Api" "notServedReason" "Ljava/lang/String;" .null) (F_LIST_OFFSETS_minVersion : Fld Z Z.heap a_LIST_OFFSETS "com/example/indri/indri/wire/Api" "minVersion" "S" (.int (1 : Int32))) (F_LIST_OFFSETS_maxVersion : Fld Z Z.heap a_LIST_OFFSETS "com/example/indri/indri/wire/Api" "maxVersion" "S" (.int (5 : Int32))) (F_HEARTBEAT_maxVersion : Fld Z Z.heap a_HEARTBEAT "com/example/indri/indri/wire/Api" "maxVersion" "S" (.int (4 : Int32))) (Ex_a_METADATA : Exa Z Z.heap a_METADATA "com/example/indri/indri/wire/Api") (S_a_METADATA : Sta Z Z.heap "com/example/indri/indri/wire/Api" "METADATA" "Lcom/example/indri/indri/wire/Api;" (.ref a_METADATA)) (F_METADATA_notServedReason : Fld Z Z.heap a_METADATA "com/example/indri/indri/wire/Api" "notServedReason" "Ljava/lang/String;" .null) (F_METADATA_minVersion : Fld Z Z.heap a_METADATA "com/example/indri/indri/wire/Api" "minVersion" "S" (.int (0 : Int32))) (F_METADATA_maxVersion : Fld Z Z.heap a_METADATA "com/example/indri/indri/wire/Api" "maxVersion" "S" (.int (4 : Int32))) (Ex_a_DESCRIBE_GROUPS : Exa Z Z.heap a_DESCRIBE_GROUPS "com/example/indri/indri/wire/Api") (S_a_DESCRIBE_GROUPS : Sta Z Z.heap "com/example/indri/indri/wire/Api" "DESCRIBE_GROUPS" "Lcom/example/indri/indri/wire/Api;" (.ref a_DESCRIBE_GROUPS)) (F_DESCRIBE_GROUPS_notServedReason : Fld Z Z.heap a_DESCRIBE_GROUPS "com/example/indri/indri/wire/Api" "notServedReason" "Ljava/lang/String;" .null) (F_DESCRIBE_GROUPS_minVersion : Fld Z Z.heap a_DESCRIBE_GROUPS "com/example/indri/indri/wire/Api" "minVersion" "S" (.int (0 : Int32))) (F_DESCRIBE_GROUPS_maxVersion : Fld Z Z.heap a_DESCRIBE_GROUPS "com/example/indri/indri/wire/Api" "maxVersion" "S" (.int (5 : Int32))) (Ex_a_LEAVE_GROUP : Exa Z Z.heap a_LEAVE_GROUP "com/example/indri/indri/wire/Api") (S_a_LEAVE_GROUP : Sta Z Z.heap "com/example/indri/indri/wire/Api" "LEAVE_GROUP" "Lcom/example/indri/indri/wire/Api;" (.ref a_LEAVE_GROUP)) (F_LEAVE_GROUP_notServedReason : Fld Z Z.heap a_LEAVE_GROUP "com/example/indri/indri/wire/Api" "notServedReason" "Ljava/lang/String;" .null) (F_LEAVE_GROUP_minVersion : Fld Z Z.heap a_LEAVE_GROUP "com/example/indri/indri/wire/Api" "minVersion" "S" (.int (0 : Int32))) (F_LEAVE_GROUP_maxVersion : Fld Z Z.heap a_LEAVE_GROUP "com/example/indri/indri/wire/Api" "maxVersion" "S" (.int (5 : Int32))) (Ex_a_API_VERSIONS : Exa Z Z.heap a_API_VERSIONS "com/example/indri/indri/wire/Api") (S_a_API_VERSIONS : Sta Z Z.heap "com/example/indri/indri/wire/Api" "API_VERSIONS" "Lcom/example/indri/indri/wire/Api;" (.ref a_API_VERSIONS)) (F_API_VERSIONS_notServedReason : Fld Z Z.heap a_API_VERSIONS "com/example/indri/indri/wire/Api" "notServedReason" "Ljava/lang/String;" .null) (F_API_VERSIONS_minVersion : Fld Z Z.heap a_API_VERSIONS "com/example/indri/indri/wire/Api" "minVersion" "S" (.int (0 : Int32))) (F_API_VERSIONS_maxVersion : Fld Z Z.heap a_API_VERSIONS "com/example/indri/indri/wire/Api" "maxVersion" "S" (.int (3 : Int32))) (F_OFFSET_FETCH_maxVersion : Fld Z Z.heap a_OFFSET_FETCH "com/example/indri/indri/wire/Api" "maxVersion" "S" (.int (7 : Int32))) (Ex_a_OFFSET_COMMIT : Exa Z Z.heap a_OFFSET_COMMIT "com/example/indri/indri/wire/Api") (S_a_OFFSET_COMMIT : Sta Z Z.heap "com/example/indri/indri/wire/Api" "OFFSET_COMMIT" "Lcom/example/indri/indri/wire/Api;" (.ref a_OFFSET_COMMIT)) (F_OFFSET_COMMIT_notServedReason : Fld Z Z.heap a_OFFSET_COMMIT "com/example/indri/indri/wire/Api" "notServedReason" "Ljava/lang/String;" .null) (F_OFFSET_COMMIT_minVersion : Fld Z Z.heap a_OFFSET_COMMIT "com/example/indri/indri/wire/Api" "minVersion" "S" (.int (2 : Int32))) (F_OFFSET_COMMIT_maxVersion : Fld Z Z.heap a_OFFSET_COMMIT "com/example/indri/indri/wire/Api" "maxVersion" "S" (.int (7 : Int32))) (Ex_a_JOIN_GROUP : Exa Z Z.heap a_JOIN_GROUP "com/example/indri/indri/wire/Api") (S_a_JOIN_GROUP : Sta Z Z.heap "com/example/indri/indri/wire/Api" "JOIN_GROUP" "Lcom/example/indri/indri/wire/Api;" (.ref a_JOIN_GROUP)) (F_JOIN_GROUP_notServedReason : Fld Z Z.heap a_JOIN_GROUP "com/example/indri/indri/wire/Api" "notServedReason" "Ljava/lang/String;" .null) (F_JOIN_GROUP_minVersion : Fld Z Z.heap a_JOIN_GROUP "com/example/indri/indri/wire/Api" "minVersion" "S" (.int (0 : Int32))) (F_JOIN_GROUP_maxVersion : Fld Z Z.heap a_JOIN_GROUP "com/example/indri/indri/wire/Api" "maxVersion" "S" (.int (9 : Int32))) (Ex_a_FIND_COORDINATOR : Exa Z Z.heap a_FIND_COORDINATOR "com/example/indri/indri/wire/Api") (S_a_FIND_COORDINATOR : Sta Z Z.heap "com/example/indri/indri/wire/Api" "FIND_COORDINATOR" "Lcom/example/indri/indri/wire/Api;" (.ref a_FIND_COORDINATOR)) (F_FIND_COORDINATOR_notServedReason : Fld Z Z.heap a_FIND_COORDINATOR "com/example/indri/indri/wire/Api" "notServedReason" "Ljava/lang/String;" .null) (F_FIND_COORDINATOR_minVersion : Fld Z Z.heap a_FIND_COORDINATOR "com/example/indri/indri/wire/Api" "minVersion" "S" (.int (0 : Int32))) (F_FIND_COORDINATOR_maxVersion : Fld Z Z.heap a_FIND_COORDINATOR "com/example/indri/indri/wire/Api" "maxVersion" "S" (.int (2 : Int32))) (Ex_a_LIST_GROUPS : Exa Z Z.heap a_LIST_GROUPS "com/example/indri/indri/wire/Api") (S_a_LIST_GROUPS : Sta Z Z.heap "com/example/indri/indri/wire/Api" "LIST_GROUPS" "Lcom/example/indri/indri/wire/Api;" (.ref a_LIST_GROUPS)) (F_LIST_GROUPS_notServedReason : Fld Z Z.heap a_LIST_GROUPS "com/example/indri/indri/wire/Api" "notServedReason" "Ljava/lang/String;" .null) (F_LIST_GROUPS_minVersion : Fld Z Z.heap a_LIST_GROUPS "com/example/indri/indri/wire/Api" "minVersion" "S" (.int (0 : Int32))) (F_LIST_GROUPS_maxVersion : Fld Z Z.heap a_LIST_GROUPS "com/example/indri/indri/wire/Api" "maxVersion" "S" (.int (4 : Int32))) (F_PRODUCE_minVersion : Fld Z Z.heap a_PRODUCE "com/example/indri/indri/wire/Api" "minVersion" "S" (.int (3 : Int32))) (F_PRODUCE_maxVersion : Fld Z Z.heap a_PRODUCE "com/example/indri/indri/wire/Api" "maxVersion" "S" (.int (3 : Int32))) :
    MetFree l (⟨"com/example/indri/indri/wire/ApiServesPinLaw", "pick", "(I)Lcom/example/indri/indri/wire/Api;"⟩ : MethodName) (head1 (Jvm.Cond.code (⟨"com/example/indri/indri/wire/ApiServesPinLaw", "pick", "(I)Lcom/example/indri/indri/wire/Api;"⟩ : MethodName) method_2_code 1 (some (.object "com/example/indri/indri/wire/Api")) :: ws) ({ frames := 0, cells := 0, slots := 0, locals := 0 } : Room)) (fun a U => a = #[(.int p1)] ∧ Z.Warmed39 U.vm ∧ U.heap = h0) (fun _ _ _ _ _ => True) (fun _ U o U' => ∃ v L, o = .returned v ∧ own_rm_pickN_Q Z p1 a_PRODUCE f_PRODUCE_notServedReason a_FETCH a_SYNC_GROUP a_OFFSET_FETCH a_HEARTBEAT a_LIST_OFFSETS a_METADATA a_DESCRIBE_GROUPS a_LEAVE_GROUP a_API_VERSIONS a_OFFSET_COMMIT a_JOIN_GROUP a_FIND_COORDINATOR a_LIST_GROUPS h0 n0 v U'.heap L ∧ FrameEnd U o U' L ({ frames := 0, cells := 0, slots := 0, locals := 0 } : Room).cells ({ frames := 0, cells := 0, slots := 0, locals := 0 } : Room).slots) := by
  refine MetFree.of_bodySF own_pn0 hisR ?_
  intro p e s m args below meth c s₁ Bd hml0 hP hK
  obtain ⟨rfl, hZ, hh⟩ := hP
  have hx := Bd.exec
  have hby := Bd.bytes
  have hml : c.maxLocals = 1 := hml0
  have hlk := BodyLoose.notSynchronized Bd
  have hown : s.vm.findClass "com/example/indri/indri/wire/ApiServesPinLaw" = some m.cls := findClass_of_methodNamed Bd.named
  have hnm := (name_of_methodNamed Bd.named Bd.method).1
  have X0 : Stand p l e ({ frames := 0, cells := 0, slots := 0, locals := 0 } : Room) s m #[(.int p1)] below meth c s₁ [] 0 0 := Stand.of_body Bd
  have e0 : s₁.heap = h0 := by rw [← hh, Bd.state]; rfl
  have N0 := Fr.nil n0
  show own_Go p e below s (own_rm_pickN_Q Z p1 a_PRODUCE f_PRODUCE_notServedReason a_FETCH a_SYNC_GROUP a_OFFSET_FETCH a_HEARTBEAT a_LIST_OFFSETS a_METADATA a_DESCRIBE_GROUPS a_LEAVE_GROUP a_API_VERSIONS a_OFFSET_COMMIT a_JOIN_GROUP a_FIND_COORDINATOR a_LIST_GROUPS h0 n0) ({ frames := 0, cells := 0, slots := 0, locals := 0 } : Room).cells ({ frames := 0, cells := 0, slots := 0, locals := 0 } : Room).slots (s₁.setTop (entryFrame m #[(.int p1)] 1))
  rw [own_rm_pickN_ef]
  show own_Go p e below s _ _ _ (s₁.setTop (mkF m 0 #[.val (.int p1)] []))
  refine own_st (fun _ k => XS.iloadN X0.here hx rfl (hb hby own_d_method_2_code_0) rfl k) ?_
  show own_Go p e below s _ _ _ (s₁.setTop (mkF m 1 #[.val (.int p1)] [(.int p1)]))
  refine own_st (fun _ k => XS.ifYes X0.here hx rfl (pc0 := 1) (pc' := 8) rfl (hb hby own_d_method_2_code_1) rfl (XT.i0_ne_t hz) (by decide) (by decide) k) ?_
  show own_Go p e below s _ _ _ (s₁.setTop (mkF m 8 #[.val (.int p1)] []))
  refine own_st (fun _ k => XS.iloadN X0.here hx rfl (hb hby own_d_method_2_code_8) rfl k) ?_
  show own_Go p e below s _ _ _ (s₁.setTop (mkF m 9 #[.val (.int p1)] [(.int p1)]))
  refine own_st (fun _ k => XT.iconstV X0.here hx rfl (1 : Int32) (hb hby own_d_method_2_code_9) (by decide) k) ?_
  show own_Go p e below s _ _ _ (s₁.setTop (mkF m 10 #[.val (.int p1)] [(.int (1 : Int32)), (.int p1)]))
  by_cases hc3 : p1 = (1 : Int32)
  · refine own_st (fun _ k => XS.icmpNo X0.here hx rfl (hb hby own_d_method_2_code_10) rfl (XT.ii_ne_f hc3) k) ?_
    show own_Go p e below s _ _ _ (s₁.setTop (mkF m 13 #[.val (.int p1)] []))
    have F4 : Sta Z h0 "com/example/indri/indri/wire/Api" "FETCH" "Lcom/example/indri/indri/wire/Api;" (.ref a_FETCH) := S_a_FETCH.ext O0.2
    obtain ⟨T5, X5, e5, st5⟩ := getS2 X0 hx hZ hown (host := "") (Or.inl (hw _ (List.mem_of_getElem? (i := 21) rfl))) Via.refl e0 F4 (g := (mkF m 13 #[.val (.int p1)] [])) rfl (hb hby own_d_method_2_code_13)
    refine own_st st5 ?_
    show own_Go p e below s _ _ _ (T5.setTop (mkF m 16 #[.val (.int p1)] [(.ref a_FETCH)]))
    have F6 : Exa Z h0 a_FETCH "com/example/indri/indri/wire/Api" := Ex_a_FETCH.ext O0.2
    have F7 : Fld Z h0 a_FETCH "com/example/indri/indri/wire/Api" "notServedReason" "Ljava/lang/String;" .null := F_FETCH_notServedReason.ext O0.2
    have F8 : Fld Z h0 a_FETCH "com/example/indri/indri/wire/Api" "minVersion" "S" (.int (4 : Int32)) := F_FETCH_minVersion.ext O0.2
    have F9 : Fld Z h0 a_FETCH "com/example/indri/indri/wire/Api" "maxVersion" "S" (.int (11 : Int32)) := F_FETCH_maxVersion.ext O0.2
    refine own_retA X5 hx hlk Bd.returns rfl (hb hby own_d_method_2_code_16) (by decide) (by decide) ?_
    rw [e5]
    exact ⟨a_FETCH, N0, rfl, rfl, F6, F7, (by rw [show own_mn p1 = (4 : Int32) from by simp [own_mn, hz, hc3]]; exact F8), (by rw [show own_mx p1 = (11 : Int32) from by simp [own_mx, hz, hc3]]; exact F9)⟩
  · refine own_st (fun _ k => XS.icmpYes X0.here hx rfl (pc0 := 10) (pc' := 17) rfl (hb hby own_d_method_2_code_10) rfl (XT.ii_ne_t hc3) (by decide) (by decide) k) ?_
    show own_Go p e below s _ _ _ (s₁.setTop (mkF m 17 #[.val (.int p1)] []))
    refine own_st (fun _ k => XS.iloadN X0.here hx rfl (hb hby own_d_method_2_code_17) rfl k) ?_
    show own_Go p e below s _ _ _ (s₁.setTop (mkF m 18 #[.val (.int p1)] [(.int p1)]))
    refine own_st (fun _ k => XT.iconstV X0.here hx rfl (2 : Int32) (hb hby own_d_method_2_code_18) (by decide) k) ?_
    show own_Go p e below s _ _ _ (s₁.setTop (mkF m 19 #[.val (.int p1)] [(.int (2 : Int32)), (.int p1)]))
    by_cases hc10 : p1 = (2 : Int32)
    · refine own_st (fun _ k => XS.icmpNo X0.here hx rfl (hb hby own_d_method_2_code_19) rfl (XT.ii_ne_f hc10) k) ?_
      show own_Go p e below s _ _ _ (s₁.setTop (mkF m 22 #[.val (.int p1)] []))
      have F11 : Sta Z h0 "com/example/indri/indri/wire/Api" "LIST_OFFSETS" "Lcom/example/indri/indri/wire/Api;" (.ref a_LIST_OFFSETS) := S_a_LIST_OFFSETS.ext O0.2
      obtain ⟨T12, X12, e12, st12⟩ := getS2 X0 hx hZ hown (host := "") (Or.inl (hw _ (List.mem_of_getElem? (i := 33) rfl))) Via.refl e0 F11 (g := (mkF m 22 #[.val (.int p1)] [])) rfl (hb hby own_d_method_2_code_22)
      refine own_st st12 ?_
      show own_Go p e below s _ _ _ (T12.setTop (mkF m 25 #[.val (.int p1)] [(.ref a_LIST_OFFSETS)]))
      have F13 : Exa Z h0 a_LIST_OFFSETS "com/example/indri/indri/wire/Api" := Ex_a_LIST_OFFSETS.ext O0.2
      have F14 : Fld Z h0 a_LIST_OFFSETS "com/example/indri/indri/wire/Api" "notServedReason" "Ljava/lang/String;" .null := F_LIST_OFFSETS_notServedReason.ext O0.2
      have F15 : Fld Z h0 a_LIST_OFFSETS "com/example/indri/indri/wire/Api" "minVersion" "S" (.int (1 : Int32)) := F_LIST_OFFSETS_minVersion.ext O0.2
      have F16 : Fld Z h0 a_LIST_OFFSETS "com/example/indri/indri/wire/Api" "maxVersion" "S" (.int (5 : Int32)) := F_LIST_OFFSETS_maxVersion.ext O0.2
      refine own_retA X12 hx hlk Bd.returns rfl (hb hby own_d_method_2_code_25) (by decide) (by decide) ?_
      rw [e12]
      exact ⟨a_LIST_OFFSETS, N0, rfl, rfl, F13, F14, (by rw [show own_mn p1 = (1 : Int32) from by simp [own_mn, hz, hc3, hc10]]; exact F15), (by rw [show own_mx p1 = (5 : Int32) from by simp [own_mx, hz, hc3, hc10]]; exact F16)⟩
    · refine own_st (fun _ k => XS.icmpYes X0.here hx rfl (pc0 := 19) (pc' := 26) rfl (hb hby own_d_method_2_code_19) rfl (XT.ii_ne_t hc10) (by decide) (by decide) k) ?_
      show own_Go p e below s _ _ _ (s₁.setTop (mkF m 26 #[.val (.int p1)] []))
      refine own_st (fun _ k => XS.iloadN X0.here hx rfl (hb hby own_d_method_2_code_26) rfl k) ?_
      show own_Go p e below s _ _ _ (s₁.setTop (mkF m 27 #[.val (.int p1)] [(.int p1)]))
      refine own_st (fun _ k => XT.iconstV X0.here hx rfl (3 : Int32) (hb hby own_d_method_2_code_27) (by decide) k) ?_
      show own_Go p e below s _ _ _ (s₁.setTop (mkF m 28 #[.val (.int p1)] [(.int (3 : Int32)), (.int p1)]))
      by_cases hc17 : p1 = (3 : Int32)
      · refine own_st (fun _ k => XS.icmpNo X0.here hx rfl (hb hby own_d_method_2_code_28) rfl (XT.ii_ne_f hc17) k) ?_
        show own_Go p e below s _ _ _ (s₁.setTop (mkF m 31 #[.val (.int p1)] []))
        have F18 : Sta Z h0 "com/example/indri/indri/wire/Api" "METADATA" "Lcom/example/indri/indri/wire/Api;" (.ref a_METADATA) := S_a_METADATA.ext O0.2
        obtain ⟨T19, X19, e19, st19⟩ := getS2 X0 hx hZ hown (host := "") (Or.inl (hw _ (List.mem_of_getElem? (i := 35) rfl))) Via.refl e0 F18 (g := (mkF m 31 #[.val (.int p1)] [])) rfl (hb hby own_d_method_2_code_31)
        refine own_st st19 ?_
        show own_Go p e below s _ _ _ (T19.setTop (mkF m 34 #[.val (.int p1)] [(.ref a_METADATA)]))
        have F20 : Exa Z h0 a_METADATA "com/example/indri/indri/wire/Api" := Ex_a_METADATA.ext O0.2
        have F21 : Fld Z h0 a_METADATA "com/example/indri/indri/wire/Api" "notServedReason" "Ljava/lang/String;" .null := F_METADATA_notServedReason.ext O0.2
        have F22 : Fld Z h0 a_METADATA "com/example/indri/indri/wire/Api" "minVersion" "S" (.int (0 : Int32)) := F_METADATA_minVersion.ext O0.2
        have F23 : Fld Z h0 a_METADATA "com/example/indri/indri/wire/Api" "maxVersion" "S" (.int (4 : Int32)) := F_METADATA_maxVersion.ext O0.2
        refine own_retA X19 hx hlk Bd.returns rfl (hb hby own_d_method_2_code_34) (by decide) (by decide) ?_
        rw [e19]
        exact ⟨a_METADATA, N0, rfl, rfl, F20, F21, (by rw [show own_mn p1 = (0 : Int32) from by simp [own_mn, hz, hc3, hc10, hc17]]; exact F22), (by rw [show own_mx p1 = (4 : Int32) from by simp [own_mx, hz, hc3, hc10, hc17]]; exact F23)⟩
      · refine own_st (fun _ k => XS.icmpYes X0.here hx rfl (pc0 := 28) (pc' := 35) rfl (hb hby own_d_method_2_code_28) rfl (XT.ii_ne_t hc17) (by decide) (by decide) k) ?_
        show own_Go p e below s _ _ _ (s₁.setTop (mkF m 35 #[.val (.int p1)] []))
        refine own_st (fun _ k => XS.iloadN X0.here hx rfl (hb hby own_d_method_2_code_35) rfl k) ?_
        show own_Go p e below s _ _ _ (s₁.setTop (mkF m 36 #[.val (.int p1)] [(.int p1)]))
        refine own_st (fun _ k => XT.iconstV X0.here hx rfl (4 : Int32) (hb hby own_d_method_2_code_36) (by decide) k) ?_
        show own_Go p e below s _ _ _ (s₁.setTop (mkF m 37 #[.val (.int p1)] [(.int (4 : Int32)), (.int p1)]))
        by_cases hc24 : p1 = (4 : Int32)
        · refine own_st (fun _ k => XS.icmpNo X0.here hx rfl (hb hby own_d_method_2_code_37) rfl (XT.ii_ne_f hc24) k) ?_
          show own_Go p e below s _ _ _ (s₁.setTop (mkF m 40 #[.val (.int p1)] []))
          have F25 : Sta Z h0 "com/example/indri/indri/wire/Api" "OFFSET_COMMIT" "Lcom/example/indri/indri/wire/Api;" (.ref a_OFFSET_COMMIT) := S_a_OFFSET_COMMIT.ext O0.2
          obtain ⟨T26, X26, e26, st26⟩ := getS2 X0 hx hZ hown (host := "") (Or.inl (hw _ (List.mem_of_getElem? (i := 43) rfl))) Via.refl e0 F25 (g := (mkF m 40 #[.val (.int p1)] [])) rfl (hb hby own_d_method_2_code_40)
          refine own_st st26 ?_
          show own_Go p e below s _ _ _ (T26.setTop (mkF m 43 #[.val (.int p1)] [(.ref a_OFFSET_COMMIT)]))
          have F27 : Exa Z h0 a_OFFSET_COMMIT "com/example/indri/indri/wire/Api" := Ex_a_OFFSET_COMMIT.ext O0.2
          have F28 : Fld Z h0 a_OFFSET_COMMIT "com/example/indri/indri/wire/Api" "notServedReason" "Ljava/lang/String;" .null := F_OFFSET_COMMIT_notServedReason.ext O0.2
          have F29 : Fld Z h0 a_OFFSET_COMMIT "com/example/indri/indri/wire/Api" "minVersion" "S" (.int (2 : Int32)) := F_OFFSET_COMMIT_minVersion.ext O0.2
          have F30 : Fld Z h0 a_OFFSET_COMMIT "com/example/indri/indri/wire/Api" "maxVersion" "S" (.int (7 : Int32)) := F_OFFSET_COMMIT_maxVersion.ext O0.2
          refine own_retA X26 hx hlk Bd.returns rfl (hb hby own_d_method_2_code_43) (by decide) (by decide) ?_
          rw [e26]
          exact ⟨a_OFFSET_COMMIT, N0, rfl, rfl, F27, F28, (by rw [show own_mn p1 = (2 : Int32) from by simp [own_mn, hz, hc3, hc10, hc17, hc24]]; exact F29), (by rw [show own_mx p1 = (7 : Int32) from by simp [own_mx, hz, hc3, hc10, hc17, hc24]]; exact F30)⟩
        · refine own_st (fun _ k => XS.icmpYes X0.here hx rfl (pc0 := 37) (pc' := 44) rfl (hb hby own_d_method_2_code_37) rfl (XT.ii_ne_t hc24) (by decide) (by decide) k) ?_
          show own_Go p e below s _ _ _ (s₁.setTop (mkF m 44 #[.val (.int p1)] []))
          refine own_st (fun _ k => XS.iloadN X0.here hx rfl (hb hby own_d_method_2_code_44) rfl k) ?_
          show own_Go p e below s _ _ _ (s₁.setTop (mkF m 45 #[.val (.int p1)] [(.int p1)]))
          refine own_st (fun _ k => XT.iconstV X0.here hx rfl (5 : Int32) (hb hby own_d_method_2_code_45) (by decide) k) ?_
          show own_Go p e below s _ _ _ (s₁.setTop (mkF m 46 #[.val (.int p1)] [(.int (5 : Int32)), (.int p1)]))
          by_cases hc31 : p1 = (5 : Int32)
          · refine own_st (fun _ k => XS.icmpNo X0.here hx rfl (hb hby own_d_method_2_code_46) rfl (XT.ii_ne_f hc31) k) ?_
            show own_Go p e below s _ _ _ (s₁.setTop (mkF m 49 #[.val (.int p1)] []))
            have F32 : Sta Z h0 "com/example/indri/indri/wire/Api" "OFFSET_FETCH" "Lcom/example/indri/indri/wire/Api;" (.ref a_OFFSET_FETCH) := S_a_OFFSET_FETCH.ext O0.2
            obtain ⟨T33, X33, e33, st33⟩ := getS2 X0 hx hZ hown (host := "") (Or.inl (hw _ (List.mem_of_getElem? (i := 29) rfl))) Via.refl e0 F32 (g := (mkF m 49 #[.val (.int p1)] [])) rfl (hb hby own_d_method_2_code_49)
            refine own_st st33 ?_
            show own_Go p e below s _ _ _ (T33.setTop (mkF m 52 #[.val (.int p1)] [(.ref a_OFFSET_FETCH)]))
            have F34 : Exa Z h0 a_OFFSET_FETCH "com/example/indri/indri/wire/Api" := Ex_a_OFFSET_FETCH.ext O0.2
            have F35 : Fld Z h0 a_OFFSET_FETCH "com/example/indri/indri/wire/Api" "notServedReason" "Ljava/lang/String;" .null := F_OFFSET_FETCH_notServedReason.ext O0.2
            have F36 : Fld Z h0 a_OFFSET_FETCH "com/example/indri/indri/wire/Api" "minVersion" "S" (.int (1 : Int32)) := F_OFFSET_FETCH_minVersion.ext O0.2
            have F37 : Fld Z h0 a_OFFSET_FETCH "com/example/indri/indri/wire/Api" "maxVersion" "S" (.int (7 : Int32)) := F_OFFSET_FETCH_maxVersion.ext O0.2
            refine own_retA X33 hx hlk Bd.returns rfl (hb hby own_d_method_2_code_52) (by decide) (by decide) ?_
            rw [e33]
            exact ⟨a_OFFSET_FETCH, N0, rfl, rfl, F34, F35, (by rw [show own_mn p1 = (1 : Int32) from by simp [own_mn, hz, hc3, hc10, hc17, hc24, hc31]]; exact F36), (by rw [show own_mx p1 = (7 : Int32) from by simp [own_mx, hz, hc3, hc10, hc17, hc24, hc31]]; exact F37)⟩
          · refine own_st (fun _ k => XS.icmpYes X0.here hx rfl (pc0 := 46) (pc' := 53) rfl (hb hby own_d_method_2_code_46) rfl (XT.ii_ne_t hc31) (by decide) (by decide) k) ?_
            show own_Go p e below s _ _ _ (s₁.setTop (mkF m 53 #[.val (.int p1)] []))
            refine own_st (fun _ k => XS.iloadN X0.here hx rfl (hb hby own_d_method_2_code_53) rfl k) ?_
            show own_Go p e below s _ _ _ (s₁.setTop (mkF m 54 #[.val (.int p1)] [(.int p1)]))
            refine own_st (fun _ k => XT.bipushV X0.here hx rfl (6 : Int32) (hb hby own_d_method_2_code_54) (by decide) k) ?_
            show own_Go p e below s _ _ _ (s₁.setTop (mkF m 56 #[.val (.int p1)] [(.int (6 : Int32)), (.int p1)]))
            by_cases hc38 : p1 = (6 : Int32)
            · refine own_st (fun _ k => XS.icmpNo X0.here hx rfl (hb hby own_d_method_2_code_56) rfl (XT.ii_ne_f hc38) k) ?_
              show own_Go p e below s _ _ _ (s₁.setTop (mkF m 59 #[.val (.int p1)] []))
              have F39 : Sta Z h0 "com/example/indri/indri/wire/Api" "FIND_COORDINATOR" "Lcom/example/indri/indri/wire/Api;" (.ref a_FIND_COORDINATOR) := S_a_FIND_COORDINATOR.ext O0.2
              obtain ⟨T40, X40, e40, st40⟩ := getS2 X0 hx hZ hown (host := "") (Or.inl (hw _ (List.mem_of_getElem? (i := 47) rfl))) Via.refl e0 F39 (g := (mkF m 59 #[.val (.int p1)] [])) rfl (hb hby own_d_method_2_code_59)
              refine own_st st40 ?_
              show own_Go p e below s _ _ _ (T40.setTop (mkF m 62 #[.val (.int p1)] [(.ref a_FIND_COORDINATOR)]))
              have F41 : Exa Z h0 a_FIND_COORDINATOR "com/example/indri/indri/wire/Api" := Ex_a_FIND_COORDINATOR.ext O0.2
              have F42 : Fld Z h0 a_FIND_COORDINATOR "com/example/indri/indri/wire/Api" "notServedReason" "Ljava/lang/String;" .null := F_FIND_COORDINATOR_notServedReason.ext O0.2
              have F43 : Fld Z h0 a_FIND_COORDINATOR "com/example/indri/indri/wire/Api" "minVersion" "S" (.int (0 : Int32)) := F_FIND_COORDINATOR_minVersion.ext O0.2
              have F44 : Fld Z h0 a_FIND_COORDINATOR "com/example/indri/indri/wire/Api" "maxVersion" "S" (.int (2 : Int32)) := F_FIND_COORDINATOR_maxVersion.ext O0.2
              refine own_retA X40 hx hlk Bd.returns rfl (hb hby own_d_method_2_code_62) (by decide) (by decide) ?_
              rw [e40]
              exact ⟨a_FIND_COORDINATOR, N0, rfl, rfl, F41, F42, (by rw [show own_mn p1 = (0 : Int32) from by simp [own_mn, hz, hc3, hc10, hc17, hc24, hc31, hc38]]; exact F43), (by rw [show own_mx p1 = (2 : Int32) from by simp [own_mx, hz, hc3, hc10, hc17, hc24, hc31, hc38]]; exact F44)⟩
            · refine own_st (fun _ k => XS.icmpYes X0.here hx rfl (pc0 := 56) (pc' := 63) rfl (hb hby own_d_method_2_code_56) rfl (XT.ii_ne_t hc38) (by decide) (by decide) k) ?_
              show own_Go p e below s _ _ _ (s₁.setTop (mkF m 63 #[.val (.int p1)] []))
              refine own_st (fun _ k => XS.iloadN X0.here hx rfl (hb hby own_d_method_2_code_63) rfl k) ?_
              show own_Go p e below s _ _ _ (s₁.setTop (mkF m 64 #[.val (.int p1)] [(.int p1)]))
              refine own_st (fun _ k => XT.bipushV X0.here hx rfl (7 : Int32) (hb hby own_d_method_2_code_64) (by decide) k) ?_
              show own_Go p e below s _ _ _ (s₁.setTop (mkF m 66 #[.val (.int p1)] [(.int (7 : Int32)), (.int p1)]))
              by_cases hc45 : p1 = (7 : Int32)
              · refine own_st (fun _ k => XS.icmpNo X0.here hx rfl (hb hby own_d_method_2_code_66) rfl (XT.ii_ne_f hc45) k) ?_
                show own_Go p e below s _ _ _ (s₁.setTop (mkF m 69 #[.val (.int p1)] []))
                have F46 : Sta Z h0 "com/example/indri/indri/wire/Api" "JOIN_GROUP" "Lcom/example/indri/indri/wire/Api;" (.ref a_JOIN_GROUP) := S_a_JOIN_GROUP.ext O0.2
                obtain ⟨T47, X47, e47, st47⟩ := getS2 X0 hx hZ hown (host := "") (Or.inl (hw _ (List.mem_of_getElem? (i := 45) rfl))) Via.refl e0 F46 (g := (mkF m 69 #[.val (.int p1)] [])) rfl (hb hby own_d_method_2_code_69)
                refine own_st st47 ?_
                show own_Go p e below s _ _ _ (T47.setTop (mkF m 72 #[.val (.int p1)] [(.ref a_JOIN_GROUP)]))
                have F48 : Exa Z h0 a_JOIN_GROUP "com/example/indri/indri/wire/Api" := Ex_a_JOIN_GROUP.ext O0.2
                have F49 : Fld Z h0 a_JOIN_GROUP "com/example/indri/indri/wire/Api" "notServedReason" "Ljava/lang/String;" .null := F_JOIN_GROUP_notServedReason.ext O0.2
                have F50 : Fld Z h0 a_JOIN_GROUP "com/example/indri/indri/wire/Api" "minVersion" "S" (.int (0 : Int32)) := F_JOIN_GROUP_minVersion.ext O0.2
                have F51 : Fld Z h0 a_JOIN_GROUP "com/example/indri/indri/wire/Api" "maxVersion" "S" (.int (9 : Int32)) := F_JOIN_GROUP_maxVersion.ext O0.2
                refine own_retA X47 hx hlk Bd.returns rfl (hb hby own_d_method_2_code_72) (by decide) (by decide) ?_
                rw [e47]
                exact ⟨a_JOIN_GROUP, N0, rfl, rfl, F48, F49, (by rw [show own_mn p1 = (0 : Int32) from by simp [own_mn, hz, hc3, hc10, hc17, hc24, hc31, hc38, hc45]]; exact F50), (by rw [show own_mx p1 = (9 : Int32) from by simp [own_mx, hz, hc3, hc10, hc17, hc24, hc31, hc38, hc45]]; exact F51)⟩
              · refine own_st (fun _ k => XS.icmpYes X0.here hx rfl (pc0 := 66) (pc' := 73) rfl (hb hby own_d_method_2_code_66) rfl (XT.ii_ne_t hc45) (by decide) (by decide) k) ?_
                show own_Go p e below s _ _ _ (s₁.setTop (mkF m 73 #[.val (.int p1)] []))
                refine own_st (fun _ k => XS.iloadN X0.here hx rfl (hb hby own_d_method_2_code_73) rfl k) ?_
                show own_Go p e below s _ _ _ (s₁.setTop (mkF m 74 #[.val (.int p1)] [(.int p1)]))
                refine own_st (fun _ k => XT.bipushV X0.here hx rfl (8 : Int32) (hb hby own_d_method_2_code_74) (by decide) k) ?_
                show own_Go p e below s _ _ _ (s₁.setTop (mkF m 76 #[.val (.int p1)] [(.int (8 : Int32)), (.int p1)]))
                by_cases hc52 : p1 = (8 : Int32)
                · refine own_st (fun _ k => XS.icmpNo X0.here hx rfl (hb hby own_d_method_2_code_76) rfl (XT.ii_ne_f hc52) k) ?_
                  show own_Go p e below s _ _ _ (s₁.setTop (mkF m 79 #[.val (.int p1)] []))
                  have F53 : Sta Z h0 "com/example/indri/indri/wire/Api" "HEARTBEAT" "Lcom/example/indri/indri/wire/Api;" (.ref a_HEARTBEAT) := S_a_HEARTBEAT.ext O0.2
                  obtain ⟨T54, X54, e54, st54⟩ := getS2 X0 hx hZ hown (host := "") (Or.inl (hw _ (List.mem_of_getElem? (i := 31) rfl))) Via.refl e0 F53 (g := (mkF m 79 #[.val (.int p1)] [])) rfl (hb hby own_d_method_2_code_79)
                  refine own_st st54 ?_
                  show own_Go p e below s _ _ _ (T54.setTop (mkF m 82 #[.val (.int p1)] [(.ref a_HEARTBEAT)]))
                  have F55 : Exa Z h0 a_HEARTBEAT "com/example/indri/indri/wire/Api" := Ex_a_HEARTBEAT.ext O0.2
                  have F56 : Fld Z h0 a_HEARTBEAT "com/example/indri/indri/wire/Api" "notServedReason" "Ljava/lang/String;" .null := F_HEARTBEAT_notServedReason.ext O0.2
                  have F57 : Fld Z h0 a_HEARTBEAT "com/example/indri/indri/wire/Api" "minVersion" "S" (.int (0 : Int32)) := F_HEARTBEAT_minVersion.ext O0.2
                  have F58 : Fld Z h0 a_HEARTBEAT "com/example/indri/indri/wire/Api" "maxVersion" "S" (.int (4 : Int32)) := F_HEARTBEAT_maxVersion.ext O0.2
                  refine own_retA X54 hx hlk Bd.returns rfl (hb hby own_d_method_2_code_82) (by decide) (by decide) ?_
                  rw [e54]
                  exact ⟨a_HEARTBEAT, N0, rfl, rfl, F55, F56, (by rw [show own_mn p1 = (0 : Int32) from by simp [own_mn, hz, hc3, hc10, hc17, hc24, hc31, hc38, hc45, hc52]]; exact F57), (by rw [show own_mx p1 = (4 : Int32) from by simp [own_mx, hz, hc3, hc10, hc17, hc24, hc31, hc38, hc45, hc52]]; exact F58)⟩
                · refine own_st (fun _ k => XS.icmpYes X0.here hx rfl (pc0 := 76) (pc' := 83) rfl (hb hby own_d_method_2_code_76) rfl (XT.ii_ne_t hc52) (by decide) (by decide) k) ?_
                  show own_Go p e below s _ _ _ (s₁.setTop (mkF m 83 #[.val (.int p1)] []))
                  refine own_st (fun _ k => XS.iloadN X0.here hx rfl (hb hby own_d_method_2_code_83) rfl k) ?_
                  show own_Go p e below s _ _ _ (s₁.setTop (mkF m 84 #[.val (.int p1)] [(.int p1)]))
                  refine own_st (fun _ k => XT.bipushV X0.here hx rfl (9 : Int32) (hb hby own_d_method_2_code_84) (by decide) k) ?_
                  show own_Go p e below s _ _ _ (s₁.setTop (mkF m 86 #[.val (.int p1)] [(.int (9 : Int32)), (.int p1)]))
                  by_cases hc59 : p1 = (9 : Int32)
                  · refine own_st (fun _ k => XS.icmpNo X0.here hx rfl (hb hby own_d_method_2_code_86) rfl (XT.ii_ne_f hc59) k) ?_
                    show own_Go p e below s _ _ _ (s₁.setTop (mkF m 89 #[.val (.int p1)] []))
                    have F60 : Sta Z h0 "com/example/indri/indri/wire/Api" "LEAVE_GROUP" "Lcom/example/indri/indri/wire/Api;" (.ref a_LEAVE_GROUP) := S_a_LEAVE_GROUP.ext O0.2
                    obtain ⟨T61, X61, e61, st61⟩ := getS2 X0 hx hZ hown (host := "") (Or.inl (hw _ (List.mem_of_getElem? (i := 39) rfl))) Via.refl e0 F60 (g := (mkF m 89 #[.val (.int p1)] [])) rfl (hb hby own_d_method_2_code_89)
                    refine own_st st61 ?_
                    show own_Go p e below s _ _ _ (T61.setTop (mkF m 92 #[.val (.int p1)] [(.ref a_LEAVE_GROUP)]))
                    have F62 : Exa Z h0 a_LEAVE_GROUP "com/example/indri/indri/wire/Api" := Ex_a_LEAVE_GROUP.ext O0.2
                    have F63 : Fld Z h0 a_LEAVE_GROUP "com/example/indri/indri/wire/Api" "notServedReason" "Ljava/lang/String;" .null := F_LEAVE_GROUP_notServedReason.ext O0.2
                    have F64 : Fld Z h0 a_LEAVE_GROUP "com/example/indri/indri/wire/Api" "minVersion" "S" (.int (0 : Int32)) := F_LEAVE_GROUP_minVersion.ext O0.2
                    have F65 : Fld Z h0 a_LEAVE_GROUP "com/example/indri/indri/wire/Api" "maxVersion" "S" (.int (5 : Int32)) := F_LEAVE_GROUP_maxVersion.ext O0.2
                    refine own_retA X61 hx hlk Bd.returns rfl (hb hby own_d_method_2_code_92) (by decide) (by decide) ?_
                    rw [e61]
                    exact ⟨a_LEAVE_GROUP, N0, rfl, rfl, F62, F63, (by rw [show own_mn p1 = (0 : Int32) from by simp [own_mn, hz, hc3, hc10, hc17, hc24, hc31, hc38, hc45, hc52, hc59]]; exact F64), (by rw [show own_mx p1 = (5 : Int32) from by simp [own_mx, hz, hc3, hc10, hc17, hc24, hc31, hc38, hc45, hc52, hc59]]; exact F65)⟩
                  · refine own_st (fun _ k => XS.icmpYes X0.here hx rfl (pc0 := 86) (pc' := 93) rfl (hb hby own_d_method_2_code_86) rfl (XT.ii_ne_t hc59) (by decide) (by decide) k) ?_
                    show own_Go p e below s _ _ _ (s₁.setTop (mkF m 93 #[.val (.int p1)] []))
                    refine own_st (fun _ k => XS.iloadN X0.here hx rfl (hb hby own_d_method_2_code_93) rfl k) ?_
                    show own_Go p e below s _ _ _ (s₁.setTop (mkF m 94 #[.val (.int p1)] [(.int p1)]))
                    refine own_st (fun _ k => XT.bipushV X0.here hx rfl (10 : Int32) (hb hby own_d_method_2_code_94) (by decide) k) ?_
                    show own_Go p e below s _ _ _ (s₁.setTop (mkF m 96 #[.val (.int p1)] [(.int (10 : Int32)), (.int p1)]))
                    by_cases hc66 : p1 = (10 : Int32)
                    · refine own_st (fun _ k => XS.icmpNo X0.here hx rfl (hb hby own_d_method_2_code_96) rfl (XT.ii_ne_f hc66) k) ?_
                      show own_Go p e below s _ _ _ (s₁.setTop (mkF m 99 #[.val (.int p1)] []))
                      have F67 : Sta Z h0 "com/example/indri/indri/wire/Api" "SYNC_GROUP" "Lcom/example/indri/indri/wire/Api;" (.ref a_SYNC_GROUP) := S_a_SYNC_GROUP.ext O0.2
                      obtain ⟨T68, X68, e68, st68⟩ := getS2 X0 hx hZ hown (host := "") (Or.inl (hw _ (List.mem_of_getElem? (i := 27) rfl))) Via.refl e0 F67 (g := (mkF m 99 #[.val (.int p1)] [])) rfl (hb hby own_d_method_2_code_99)
                      refine own_st st68 ?_
                      show own_Go p e below s _ _ _ (T68.setTop (mkF m 102 #[.val (.int p1)] [(.ref a_SYNC_GROUP)]))
                      have F69 : Exa Z h0 a_SYNC_GROUP "com/example/indri/indri/wire/Api" := Ex_a_SYNC_GROUP.ext O0.2
                      have F70 : Fld Z h0 a_SYNC_GROUP "com/example/indri/indri/wire/Api" "notServedReason" "Ljava/lang/String;" .null := F_SYNC_GROUP_notServedReason.ext O0.2
                      have F71 : Fld Z h0 a_SYNC_GROUP "com/example/indri/indri/wire/Api" "minVersion" "S" (.int (0 : Int32)) := F_SYNC_GROUP_minVersion.ext O0.2
                      have F72 : Fld Z h0 a_SYNC_GROUP "com/example/indri/indri/wire/Api" "maxVersion" "S" (.int (5 : Int32)) := F_SYNC_GROUP_maxVersion.ext O0.2
                      refine own_retA X68 hx hlk Bd.returns rfl (hb hby own_d_method_2_code_102) (by decide) (by decide) ?_
                      rw [e68]
                      exact ⟨a_SYNC_GROUP, N0, rfl, rfl, F69, F70, (by rw [show own_mn p1 = (0 : Int32) from by simp [own_mn, hz, hc3, hc10, hc17, hc24, hc31, hc38, hc45, hc52, hc59, hc66]]; exact F71), (by rw [show own_mx p1 = (5 : Int32) from by simp [own_mx, hz, hc3, hc10, hc17, hc24, hc31, hc38, hc45, hc52, hc59, hc66]]; exact F72)⟩
                    · refine own_st (fun _ k => XS.icmpYes X0.here hx rfl (pc0 := 96) (pc' := 103) rfl (hb hby own_d_method_2_code_96) rfl (XT.ii_ne_t hc66) (by decide) (by decide) k) ?_
                      show own_Go p e below s _ _ _ (s₁.setTop (mkF m 103 #[.val (.int p1)] []))
                      refine own_st (fun _ k => XS.iloadN X0.here hx rfl (hb hby own_d_method_2_code_103) rfl k) ?_
                      show own_Go p e below s _ _ _ (s₁.setTop (mkF m 104 #[.val (.int p1)] [(.int p1)]))
                      refine own_st (fun _ k => XT.bipushV X0.here hx rfl (11 : Int32) (hb hby own_d_method_2_code_104) (by decide) k) ?_
                      show own_Go p e below s _ _ _ (s₁.setTop (mkF m 106 #[.val (.int p1)] [(.int (11 : Int32)), (.int p1)]))
                      by_cases hc73 : p1 = (11 : Int32)
                      · refine own_st (fun _ k => XS.icmpNo X0.here hx rfl (hb hby own_d_method_2_code_106) rfl (XT.ii_ne_f hc73) k) ?_
                        show own_Go p e below s _ _ _ (s₁.setTop (mkF m 109 #[.val (.int p1)] []))
                        have F74 : Sta Z h0 "com/example/indri/indri/wire/Api" "DESCRIBE_GROUPS" "Lcom/example/indri/indri/wire/Api;" (.ref a_DESCRIBE_GROUPS) := S_a_DESCRIBE_GROUPS.ext O0.2
                        obtain ⟨T75, X75, e75, st75⟩ := getS2 X0 hx hZ hown (host := "") (Or.inl (hw _ (List.mem_of_getElem? (i := 37) rfl))) Via.refl e0 F74 (g := (mkF m 109 #[.val (.int p1)] [])) rfl (hb hby own_d_method_2_code_109)
                        refine own_st st75 ?_
                        show own_Go p e below s _ _ _ (T75.setTop (mkF m 112 #[.val (.int p1)] [(.ref a_DESCRIBE_GROUPS)]))
                        have F76 : Exa Z h0 a_DESCRIBE_GROUPS "com/example/indri/indri/wire/Api" := Ex_a_DESCRIBE_GROUPS.ext O0.2
                        have F77 : Fld Z h0 a_DESCRIBE_GROUPS "com/example/indri/indri/wire/Api" "notServedReason" "Ljava/lang/String;" .null := F_DESCRIBE_GROUPS_notServedReason.ext O0.2
                        have F78 : Fld Z h0 a_DESCRIBE_GROUPS "com/example/indri/indri/wire/Api" "minVersion" "S" (.int (0 : Int32)) := F_DESCRIBE_GROUPS_minVersion.ext O0.2
                        have F79 : Fld Z h0 a_DESCRIBE_GROUPS "com/example/indri/indri/wire/Api" "maxVersion" "S" (.int (5 : Int32)) := F_DESCRIBE_GROUPS_maxVersion.ext O0.2
                        refine own_retA X75 hx hlk Bd.returns rfl (hb hby own_d_method_2_code_112) (by decide) (by decide) ?_
                        rw [e75]
                        exact ⟨a_DESCRIBE_GROUPS, N0, rfl, rfl, F76, F77, (by rw [show own_mn p1 = (0 : Int32) from by simp [own_mn, hz, hc3, hc10, hc17, hc24, hc31, hc38, hc45, hc52, hc59, hc66, hc73]]; exact F78), (by rw [show own_mx p1 = (5 : Int32) from by simp [own_mx, hz, hc3, hc10, hc17, hc24, hc31, hc38, hc45, hc52, hc59, hc66, hc73]]; exact F79)⟩
                      · refine own_st (fun _ k => XS.icmpYes X0.here hx rfl (pc0 := 106) (pc' := 113) rfl (hb hby own_d_method_2_code_106) rfl (XT.ii_ne_t hc73) (by decide) (by decide) k) ?_
                        show own_Go p e below s _ _ _ (s₁.setTop (mkF m 113 #[.val (.int p1)] []))
                        refine own_st (fun _ k => XS.iloadN X0.here hx rfl (hb hby own_d_method_2_code_113) rfl k) ?_
                        show own_Go p e below s _ _ _ (s₁.setTop (mkF m 114 #[.val (.int p1)] [(.int p1)]))
                        refine own_st (fun _ k => XT.bipushV X0.here hx rfl (12 : Int32) (hb hby own_d_method_2_code_114) (by decide) k) ?_
                        show own_Go p e below s _ _ _ (s₁.setTop (mkF m 116 #[.val (.int p1)] [(.int (12 : Int32)), (.int p1)]))
                        by_cases hc80 : p1 = (12 : Int32)
                        · refine own_st (fun _ k => XS.icmpNo X0.here hx rfl (hb hby own_d_method_2_code_116) rfl (XT.ii_ne_f hc80) k) ?_
                          show own_Go p e below s _ _ _ (s₁.setTop (mkF m 119 #[.val (.int p1)] []))
                          have F81 : Sta Z h0 "com/example/indri/indri/wire/Api" "LIST_GROUPS" "Lcom/example/indri/indri/wire/Api;" (.ref a_LIST_GROUPS) := S_a_LIST_GROUPS.ext O0.2
                          obtain ⟨T82, X82, e82, st82⟩ := getS2 X0 hx hZ hown (host := "") (Or.inl (hw _ (List.mem_of_getElem? (i := 49) rfl))) Via.refl e0 F81 (g := (mkF m 119 #[.val (.int p1)] [])) rfl (hb hby own_d_method_2_code_119)
                          refine own_st st82 ?_
                          show own_Go p e below s _ _ _ (T82.setTop (mkF m 122 #[.val (.int p1)] [(.ref a_LIST_GROUPS)]))
                          have F83 : Exa Z h0 a_LIST_GROUPS "com/example/indri/indri/wire/Api" := Ex_a_LIST_GROUPS.ext O0.2
                          have F84 : Fld Z h0 a_LIST_GROUPS "com/example/indri/indri/wire/Api" "notServedReason" "Ljava/lang/String;" .null := F_LIST_GROUPS_notServedReason.ext O0.2
                          have F85 : Fld Z h0 a_LIST_GROUPS "com/example/indri/indri/wire/Api" "minVersion" "S" (.int (0 : Int32)) := F_LIST_GROUPS_minVersion.ext O0.2
                          have F86 : Fld Z h0 a_LIST_GROUPS "com/example/indri/indri/wire/Api" "maxVersion" "S" (.int (4 : Int32)) := F_LIST_GROUPS_maxVersion.ext O0.2
                          refine own_retA X82 hx hlk Bd.returns rfl (hb hby own_d_method_2_code_122) (by decide) (by decide) ?_
                          rw [e82]
                          exact ⟨a_LIST_GROUPS, N0, rfl, rfl, F83, F84, (by rw [show own_mn p1 = (0 : Int32) from by simp [own_mn, hz, hc3, hc10, hc17, hc24, hc31, hc38, hc45, hc52, hc59, hc66, hc73, hc80]]; exact F85), (by rw [show own_mx p1 = (4 : Int32) from by simp [own_mx, hz, hc3, hc10, hc17, hc24, hc31, hc38, hc45, hc52, hc59, hc66, hc73, hc80]]; exact F86)⟩
                        · refine own_st (fun _ k => XS.icmpYes X0.here hx rfl (pc0 := 116) (pc' := 123) rfl (hb hby own_d_method_2_code_116) rfl (XT.ii_ne_t hc80) (by decide) (by decide) k) ?_
                          show own_Go p e below s _ _ _ (s₁.setTop (mkF m 123 #[.val (.int p1)] []))
                          have F87 : Sta Z h0 "com/example/indri/indri/wire/Api" "API_VERSIONS" "Lcom/example/indri/indri/wire/Api;" (.ref a_API_VERSIONS) := S_a_API_VERSIONS.ext O0.2
                          obtain ⟨T88, X88, e88, st88⟩ := getS2 X0 hx hZ hown (host := "") (Or.inl (hw _ (List.mem_of_getElem? (i := 41) rfl))) Via.refl e0 F87 (g := (mkF m 123 #[.val (.int p1)] [])) rfl (hb hby own_d_method_2_code_123)
                          refine own_st st88 ?_
                          show own_Go p e below s _ _ _ (T88.setTop (mkF m 126 #[.val (.int p1)] [(.ref a_API_VERSIONS)]))
                          have F89 : Exa Z h0 a_API_VERSIONS "com/example/indri/indri/wire/Api" := Ex_a_API_VERSIONS.ext O0.2
                          have F90 : Fld Z h0 a_API_VERSIONS "com/example/indri/indri/wire/Api" "notServedReason" "Ljava/lang/String;" .null := F_API_VERSIONS_notServedReason.ext O0.2
                          have F91 : Fld Z h0 a_API_VERSIONS "com/example/indri/indri/wire/Api" "minVersion" "S" (.int (0 : Int32)) := F_API_VERSIONS_minVersion.ext O0.2
                          have F92 : Fld Z h0 a_API_VERSIONS "com/example/indri/indri/wire/Api" "maxVersion" "S" (.int (3 : Int32)) := F_API_VERSIONS_maxVersion.ext O0.2
                          refine own_retA X88 hx hlk Bd.returns rfl (hb hby own_d_method_2_code_126) (by decide) (by decide) ?_
                          rw [e88]
                          exact ⟨a_API_VERSIONS, N0, rfl, rfl, F89, F90, (by rw [show own_mn p1 = (0 : Int32) from by simp [own_mn, hz, hc3, hc10, hc17, hc24, hc31, hc38, hc45, hc52, hc59, hc66, hc73, hc80]]; exact F91), (by rw [show own_mx p1 = (3 : Int32) from by simp [own_mx, hz, hc3, hc10, hc17, hc24, hc31, hc38, hc45, hc52, hc59, hc66, hc73, hc80]]; exact F92)⟩
theorem own_d_method_3_code_0 : decode method_3_code 0 = .ok (.iload_n 0, 1) := by decide +kernel
theorem own_d_method_3_code_1 : decode method_3_code 1 = .ok (.ifCond .ne 5, 3) := by decide +kernel
theorem own_d_method_3_code_4 : decode method_3_code 4 = .ok (.iconst 3, 1) := by decide +kernel
theorem own_d_method_3_code_5 : decode method_3_code 5 = .ok (.ireturn, 1) := by decide +kernel
theorem own_d_method_3_code_6 : decode method_3_code 6 = .ok (.iload_n 0, 1) := by decide +kernel
theorem own_d_method_3_code_7 : decode method_3_code 7 = .ok (.iconst 1, 1) := by decide +kernel
theorem own_d_method_3_code_8 : decode method_3_code 8 = .ok (.if_icmp .ne 5, 3) := by decide +kernel
theorem own_d_method_3_code_11 : decode method_3_code 11 = .ok (.iconst 4, 1) := by decide +kernel
theorem own_d_method_3_code_12 : decode method_3_code 12 = .ok (.ireturn, 1) := by decide +kernel
theorem own_d_method_3_code_13 : decode method_3_code 13 = .ok (.iload_n 0, 1) := by decide +kernel
theorem own_d_method_3_code_14 : decode method_3_code 14 = .ok (.iconst 2, 1) := by decide +kernel
theorem own_d_method_3_code_15 : decode method_3_code 15 = .ok (.if_icmp .ne 5, 3) := by decide +kernel
theorem own_d_method_3_code_18 : decode method_3_code 18 = .ok (.iconst 1, 1) := by decide +kernel
theorem own_d_method_3_code_19 : decode method_3_code 19 = .ok (.ireturn, 1) := by decide +kernel
theorem own_d_method_3_code_20 : decode method_3_code 20 = .ok (.iload_n 0, 1) := by decide +kernel
theorem own_d_method_3_code_21 : decode method_3_code 21 = .ok (.iconst 4, 1) := by decide +kernel
theorem own_d_method_3_code_22 : decode method_3_code 22 = .ok (.if_icmp .ne 5, 3) := by decide +kernel
theorem own_d_method_3_code_25 : decode method_3_code 25 = .ok (.iconst 2, 1) := by decide +kernel
theorem own_d_method_3_code_26 : decode method_3_code 26 = .ok (.ireturn, 1) := by decide +kernel
theorem own_d_method_3_code_27 : decode method_3_code 27 = .ok (.iload_n 0, 1) := by decide +kernel
theorem own_d_method_3_code_28 : decode method_3_code 28 = .ok (.iconst 5, 1) := by decide +kernel
theorem own_d_method_3_code_29 : decode method_3_code 29 = .ok (.if_icmp .ne 5, 3) := by decide +kernel
theorem own_d_method_3_code_32 : decode method_3_code 32 = .ok (.iconst 1, 1) := by decide +kernel
theorem own_d_method_3_code_33 : decode method_3_code 33 = .ok (.ireturn, 1) := by decide +kernel
theorem own_d_method_3_code_34 : decode method_3_code 34 = .ok (.iconst 0, 1) := by decide +kernel
theorem own_d_method_3_code_35 : decode method_3_code 35 = .ok (.ireturn, 1) := by decide +kernel
theorem own_pn1 : plainFor (⟨"com/example/indri/indri/wire/ApiServesPinLaw", "lo", "(I)I"⟩ : MethodName) = true := by decide +kernel
def own_rm_lo_Q (Z : State) (p1 : Int32) (h0 : Heap) (n0 : Nat) (v : Option Value) (h : Heap) (L : List Loc) : Prop := Fr n0 L ∧ v = some (.int (own_lo p1)) ∧ h = h0
theorem own_rm_lo_ef (m : MethodId) (p1 : Int32) : entryFrame m #[(.int p1)] 1 = mkF m 0 #[.val (.int p1)] [] := by first | (simp [entryFrame, mkF, argsToLocals, Value.category]; done) | rfl
set_option maxRecDepth 65536 in
set_option maxHeartbeats 40000000 in
theorem own_rm_lo (l : Launch) (Z : State) (a0 : Array Value) (hw : ∀ d ∈ tables_1, d.before a0 Z = true) (ws : List Jvm.Cond) (p1 : Int32) (h0 : Heap) (n0 : Nat) (Z0 : n0 ≤ h0.size)  :
    MetFree l (⟨"com/example/indri/indri/wire/ApiServesPinLaw", "lo", "(I)I"⟩ : MethodName) (head1 (Jvm.Cond.code (⟨"com/example/indri/indri/wire/ApiServesPinLaw", "lo", "(I)I"⟩ : MethodName) method_3_code 1 (some .int) :: ws) ({ frames := 0, cells := 0, slots := 0, locals := 0 } : Room)) (fun a U => a = #[(.int p1)] ∧ Z.Warmed39 U.vm ∧ U.heap = h0) (fun _ _ _ _ _ => True) (fun _ U o U' => ∃ v L, o = .returned v ∧ own_rm_lo_Q Z p1 h0 n0 v U'.heap L ∧ FrameEnd U o U' L ({ frames := 0, cells := 0, slots := 0, locals := 0 } : Room).cells ({ frames := 0, cells := 0, slots := 0, locals := 0 } : Room).slots) := by
  refine MetFree.of_bodySF own_pn1 hisR ?_
  intro p e s m args below meth c s₁ Bd hml0 hP hK
  obtain ⟨rfl, hZ, hh⟩ := hP
  have hx := Bd.exec
  have hby := Bd.bytes
  have hml : c.maxLocals = 1 := hml0
  have hlk := BodyLoose.notSynchronized Bd
  have hown : s.vm.findClass "com/example/indri/indri/wire/ApiServesPinLaw" = some m.cls := findClass_of_methodNamed Bd.named
  have hnm := (name_of_methodNamed Bd.named Bd.method).1
  have X0 : Stand p l e ({ frames := 0, cells := 0, slots := 0, locals := 0 } : Room) s m #[(.int p1)] below meth c s₁ [] 0 0 := Stand.of_body Bd
  have e0 : s₁.heap = h0 := by rw [← hh, Bd.state]; rfl
  have N0 := Fr.nil n0
  show own_Go p e below s (own_rm_lo_Q Z p1 h0 n0) ({ frames := 0, cells := 0, slots := 0, locals := 0 } : Room).cells ({ frames := 0, cells := 0, slots := 0, locals := 0 } : Room).slots (s₁.setTop (entryFrame m #[(.int p1)] 1))
  rw [own_rm_lo_ef]
  show own_Go p e below s _ _ _ (s₁.setTop (mkF m 0 #[.val (.int p1)] []))
  refine own_st (fun _ k => XS.iloadN X0.here hx rfl (hb hby own_d_method_3_code_0) rfl k) ?_
  show own_Go p e below s _ _ _ (s₁.setTop (mkF m 1 #[.val (.int p1)] [(.int p1)]))
  by_cases hc93 : p1 = 0
  · refine own_st (fun _ k => XS.ifNo X0.here hx rfl (hb hby own_d_method_3_code_1) rfl (XT.i0_ne_f hc93) k) ?_
    show own_Go p e below s _ _ _ (s₁.setTop (mkF m 4 #[.val (.int p1)] []))
    refine own_st (fun _ k => XT.iconstV X0.here hx rfl (3 : Int32) (hb hby own_d_method_3_code_4) (by decide) k) ?_
    show own_Go p e below s _ _ _ (s₁.setTop (mkF m 5 #[.val (.int p1)] [(.int (3 : Int32))]))
    refine own_retI X0 hx hlk Bd.returns (hb hby own_d_method_3_code_5) (by decide) (by decide) ?_
    rw [e0]
    exact ⟨N0, (by unfold own_lo; rw [if_pos hc93]), rfl⟩
  · refine own_st (fun _ k => XS.ifYes X0.here hx rfl (pc0 := 1) (pc' := 6) rfl (hb hby own_d_method_3_code_1) rfl (XT.i0_ne_t hc93) (by decide) (by decide) k) ?_
    show own_Go p e below s _ _ _ (s₁.setTop (mkF m 6 #[.val (.int p1)] []))
    refine own_st (fun _ k => XS.iloadN X0.here hx rfl (hb hby own_d_method_3_code_6) rfl k) ?_
    show own_Go p e below s _ _ _ (s₁.setTop (mkF m 7 #[.val (.int p1)] [(.int p1)]))
    refine own_st (fun _ k => XT.iconstV X0.here hx rfl (1 : Int32) (hb hby own_d_method_3_code_7) (by decide) k) ?_
    show own_Go p e below s _ _ _ (s₁.setTop (mkF m 8 #[.val (.int p1)] [(.int (1 : Int32)), (.int p1)]))
    by_cases hc94 : p1 = (1 : Int32)
    · refine own_st (fun _ k => XS.icmpNo X0.here hx rfl (hb hby own_d_method_3_code_8) rfl (XT.ii_ne_f hc94) k) ?_
      show own_Go p e below s _ _ _ (s₁.setTop (mkF m 11 #[.val (.int p1)] []))
      refine own_st (fun _ k => XT.iconstV X0.here hx rfl (4 : Int32) (hb hby own_d_method_3_code_11) (by decide) k) ?_
      show own_Go p e below s _ _ _ (s₁.setTop (mkF m 12 #[.val (.int p1)] [(.int (4 : Int32))]))
      refine own_retI X0 hx hlk Bd.returns (hb hby own_d_method_3_code_12) (by decide) (by decide) ?_
      rw [e0]
      exact ⟨N0, (by unfold own_lo; rw [if_neg hc93, if_pos hc94]), rfl⟩
    · refine own_st (fun _ k => XS.icmpYes X0.here hx rfl (pc0 := 8) (pc' := 13) rfl (hb hby own_d_method_3_code_8) rfl (XT.ii_ne_t hc94) (by decide) (by decide) k) ?_
      show own_Go p e below s _ _ _ (s₁.setTop (mkF m 13 #[.val (.int p1)] []))
      refine own_st (fun _ k => XS.iloadN X0.here hx rfl (hb hby own_d_method_3_code_13) rfl k) ?_
      show own_Go p e below s _ _ _ (s₁.setTop (mkF m 14 #[.val (.int p1)] [(.int p1)]))
      refine own_st (fun _ k => XT.iconstV X0.here hx rfl (2 : Int32) (hb hby own_d_method_3_code_14) (by decide) k) ?_
      show own_Go p e below s _ _ _ (s₁.setTop (mkF m 15 #[.val (.int p1)] [(.int (2 : Int32)), (.int p1)]))
      by_cases hc95 : p1 = (2 : Int32)
      · refine own_st (fun _ k => XS.icmpNo X0.here hx rfl (hb hby own_d_method_3_code_15) rfl (XT.ii_ne_f hc95) k) ?_
        show own_Go p e below s _ _ _ (s₁.setTop (mkF m 18 #[.val (.int p1)] []))
        refine own_st (fun _ k => XT.iconstV X0.here hx rfl (1 : Int32) (hb hby own_d_method_3_code_18) (by decide) k) ?_
        show own_Go p e below s _ _ _ (s₁.setTop (mkF m 19 #[.val (.int p1)] [(.int (1 : Int32))]))
        refine own_retI X0 hx hlk Bd.returns (hb hby own_d_method_3_code_19) (by decide) (by decide) ?_
        rw [e0]
        exact ⟨N0, (by unfold own_lo; rw [if_neg hc93, if_neg hc94, if_pos hc95]), rfl⟩
      · refine own_st (fun _ k => XS.icmpYes X0.here hx rfl (pc0 := 15) (pc' := 20) rfl (hb hby own_d_method_3_code_15) rfl (XT.ii_ne_t hc95) (by decide) (by decide) k) ?_
        show own_Go p e below s _ _ _ (s₁.setTop (mkF m 20 #[.val (.int p1)] []))
        refine own_st (fun _ k => XS.iloadN X0.here hx rfl (hb hby own_d_method_3_code_20) rfl k) ?_
        show own_Go p e below s _ _ _ (s₁.setTop (mkF m 21 #[.val (.int p1)] [(.int p1)]))
        refine own_st (fun _ k => XT.iconstV X0.here hx rfl (4 : Int32) (hb hby own_d_method_3_code_21) (by decide) k) ?_
        show own_Go p e below s _ _ _ (s₁.setTop (mkF m 22 #[.val (.int p1)] [(.int (4 : Int32)), (.int p1)]))
        by_cases hc96 : p1 = (4 : Int32)
        · refine own_st (fun _ k => XS.icmpNo X0.here hx rfl (hb hby own_d_method_3_code_22) rfl (XT.ii_ne_f hc96) k) ?_
          show own_Go p e below s _ _ _ (s₁.setTop (mkF m 25 #[.val (.int p1)] []))
          refine own_st (fun _ k => XT.iconstV X0.here hx rfl (2 : Int32) (hb hby own_d_method_3_code_25) (by decide) k) ?_
          show own_Go p e below s _ _ _ (s₁.setTop (mkF m 26 #[.val (.int p1)] [(.int (2 : Int32))]))
          refine own_retI X0 hx hlk Bd.returns (hb hby own_d_method_3_code_26) (by decide) (by decide) ?_
          rw [e0]
          exact ⟨N0, (by unfold own_lo; rw [if_neg hc93, if_neg hc94, if_neg hc95, if_pos hc96]), rfl⟩
        · refine own_st (fun _ k => XS.icmpYes X0.here hx rfl (pc0 := 22) (pc' := 27) rfl (hb hby own_d_method_3_code_22) rfl (XT.ii_ne_t hc96) (by decide) (by decide) k) ?_
          show own_Go p e below s _ _ _ (s₁.setTop (mkF m 27 #[.val (.int p1)] []))
          refine own_st (fun _ k => XS.iloadN X0.here hx rfl (hb hby own_d_method_3_code_27) rfl k) ?_
          show own_Go p e below s _ _ _ (s₁.setTop (mkF m 28 #[.val (.int p1)] [(.int p1)]))
          refine own_st (fun _ k => XT.iconstV X0.here hx rfl (5 : Int32) (hb hby own_d_method_3_code_28) (by decide) k) ?_
          show own_Go p e below s _ _ _ (s₁.setTop (mkF m 29 #[.val (.int p1)] [(.int (5 : Int32)), (.int p1)]))
          by_cases hc97 : p1 = (5 : Int32)
          · refine own_st (fun _ k => XS.icmpNo X0.here hx rfl (hb hby own_d_method_3_code_29) rfl (XT.ii_ne_f hc97) k) ?_
            show own_Go p e below s _ _ _ (s₁.setTop (mkF m 32 #[.val (.int p1)] []))
            refine own_st (fun _ k => XT.iconstV X0.here hx rfl (1 : Int32) (hb hby own_d_method_3_code_32) (by decide) k) ?_
            show own_Go p e below s _ _ _ (s₁.setTop (mkF m 33 #[.val (.int p1)] [(.int (1 : Int32))]))
            refine own_retI X0 hx hlk Bd.returns (hb hby own_d_method_3_code_33) (by decide) (by decide) ?_
            rw [e0]
            exact ⟨N0, (by unfold own_lo; rw [if_neg hc93, if_neg hc94, if_neg hc95, if_neg hc96, if_pos hc97]), rfl⟩
          · refine own_st (fun _ k => XS.icmpYes X0.here hx rfl (pc0 := 29) (pc' := 34) rfl (hb hby own_d_method_3_code_29) rfl (XT.ii_ne_t hc97) (by decide) (by decide) k) ?_
            show own_Go p e below s _ _ _ (s₁.setTop (mkF m 34 #[.val (.int p1)] []))
            refine own_st (fun _ k => XT.iconstV X0.here hx rfl (0 : Int32) (hb hby own_d_method_3_code_34) (by decide) k) ?_
            show own_Go p e below s _ _ _ (s₁.setTop (mkF m 35 #[.val (.int p1)] [(.int (0 : Int32))]))
            refine own_retI X0 hx hlk Bd.returns (hb hby own_d_method_3_code_35) (by decide) (by decide) ?_
            rw [e0]
            exact ⟨N0, (by unfold own_lo; rw [if_neg hc93, if_neg hc94, if_neg hc95, if_neg hc96, if_neg hc97]), rfl⟩
theorem own_d_method_4_code_0 : decode method_4_code 0 = .ok (.iload_n 0, 1) := by decide +kernel
theorem own_d_method_4_code_1 : decode method_4_code 1 = .ok (.ifCond .ne 5, 3) := by decide +kernel
theorem own_d_method_4_code_4 : decode method_4_code 4 = .ok (.iconst 3, 1) := by decide +kernel
theorem own_d_method_4_code_5 : decode method_4_code 5 = .ok (.ireturn, 1) := by decide +kernel
theorem own_d_method_4_code_6 : decode method_4_code 6 = .ok (.iload_n 0, 1) := by decide +kernel
theorem own_d_method_4_code_7 : decode method_4_code 7 = .ok (.iconst 1, 1) := by decide +kernel
theorem own_d_method_4_code_8 : decode method_4_code 8 = .ok (.if_icmp .ne 6, 3) := by decide +kernel
theorem own_d_method_4_code_11 : decode method_4_code 11 = .ok (.bipush 11, 2) := by decide +kernel
theorem own_d_method_4_code_13 : decode method_4_code 13 = .ok (.ireturn, 1) := by decide +kernel
theorem own_d_method_4_code_14 : decode method_4_code 14 = .ok (.iload_n 0, 1) := by decide +kernel
theorem own_d_method_4_code_15 : decode method_4_code 15 = .ok (.iconst 2, 1) := by decide +kernel
theorem own_d_method_4_code_16 : decode method_4_code 16 = .ok (.if_icmp .ne 5, 3) := by decide +kernel
theorem own_d_method_4_code_19 : decode method_4_code 19 = .ok (.iconst 5, 1) := by decide +kernel
theorem own_d_method_4_code_20 : decode method_4_code 20 = .ok (.ireturn, 1) := by decide +kernel
theorem own_d_method_4_code_21 : decode method_4_code 21 = .ok (.iload_n 0, 1) := by decide +kernel
theorem own_d_method_4_code_22 : decode method_4_code 22 = .ok (.iconst 3, 1) := by decide +kernel
theorem own_d_method_4_code_23 : decode method_4_code 23 = .ok (.if_icmp .ne 5, 3) := by decide +kernel
theorem own_d_method_4_code_26 : decode method_4_code 26 = .ok (.iconst 4, 1) := by decide +kernel
theorem own_d_method_4_code_27 : decode method_4_code 27 = .ok (.ireturn, 1) := by decide +kernel
theorem own_d_method_4_code_28 : decode method_4_code 28 = .ok (.iload_n 0, 1) := by decide +kernel
theorem own_d_method_4_code_29 : decode method_4_code 29 = .ok (.iconst 4, 1) := by decide +kernel
theorem own_d_method_4_code_30 : decode method_4_code 30 = .ok (.if_icmp .ne 6, 3) := by decide +kernel
theorem own_d_method_4_code_33 : decode method_4_code 33 = .ok (.bipush 7, 2) := by decide +kernel
theorem own_d_method_4_code_35 : decode method_4_code 35 = .ok (.ireturn, 1) := by decide +kernel
theorem own_d_method_4_code_36 : decode method_4_code 36 = .ok (.iload_n 0, 1) := by decide +kernel
theorem own_d_method_4_code_37 : decode method_4_code 37 = .ok (.iconst 5, 1) := by decide +kernel
theorem own_d_method_4_code_38 : decode method_4_code 38 = .ok (.if_icmp .ne 6, 3) := by decide +kernel
theorem own_d_method_4_code_41 : decode method_4_code 41 = .ok (.bipush 7, 2) := by decide +kernel
theorem own_d_method_4_code_43 : decode method_4_code 43 = .ok (.ireturn, 1) := by decide +kernel
theorem own_d_method_4_code_44 : decode method_4_code 44 = .ok (.iload_n 0, 1) := by decide +kernel
theorem own_d_method_4_code_45 : decode method_4_code 45 = .ok (.bipush 6, 2) := by decide +kernel
theorem own_d_method_4_code_47 : decode method_4_code 47 = .ok (.if_icmp .ne 5, 3) := by decide +kernel
theorem own_d_method_4_code_50 : decode method_4_code 50 = .ok (.iconst 2, 1) := by decide +kernel
theorem own_d_method_4_code_51 : decode method_4_code 51 = .ok (.ireturn, 1) := by decide +kernel
theorem own_d_method_4_code_52 : decode method_4_code 52 = .ok (.iload_n 0, 1) := by decide +kernel
theorem own_d_method_4_code_53 : decode method_4_code 53 = .ok (.bipush 7, 2) := by decide +kernel
theorem own_d_method_4_code_55 : decode method_4_code 55 = .ok (.if_icmp .ne 6, 3) := by decide +kernel
theorem own_d_method_4_code_58 : decode method_4_code 58 = .ok (.bipush 9, 2) := by decide +kernel
theorem own_d_method_4_code_60 : decode method_4_code 60 = .ok (.ireturn, 1) := by decide +kernel
theorem own_d_method_4_code_61 : decode method_4_code 61 = .ok (.iload_n 0, 1) := by decide +kernel
theorem own_d_method_4_code_62 : decode method_4_code 62 = .ok (.bipush 8, 2) := by decide +kernel
theorem own_d_method_4_code_64 : decode method_4_code 64 = .ok (.if_icmp .ne 5, 3) := by decide +kernel
theorem own_d_method_4_code_67 : decode method_4_code 67 = .ok (.iconst 4, 1) := by decide +kernel
theorem own_d_method_4_code_68 : decode method_4_code 68 = .ok (.ireturn, 1) := by decide +kernel
theorem own_d_method_4_code_69 : decode method_4_code 69 = .ok (.iload_n 0, 1) := by decide +kernel
theorem own_d_method_4_code_70 : decode method_4_code 70 = .ok (.bipush 12, 2) := by decide +kernel
theorem own_d_method_4_code_72 : decode method_4_code 72 = .ok (.if_icmp .ne 5, 3) := by decide +kernel
theorem own_d_method_4_code_75 : decode method_4_code 75 = .ok (.iconst 4, 1) := by decide +kernel
theorem own_d_method_4_code_76 : decode method_4_code 76 = .ok (.ireturn, 1) := by decide +kernel
theorem own_d_method_4_code_77 : decode method_4_code 77 = .ok (.iload_n 0, 1) := by decide +kernel
theorem own_d_method_4_code_78 : decode method_4_code 78 = .ok (.bipush 13, 2) := by decide +kernel
theorem own_d_method_4_code_80 : decode method_4_code 80 = .ok (.if_icmp .ne 5, 3) := by decide +kernel
theorem own_d_method_4_code_83 : decode method_4_code 83 = .ok (.iconst 3, 1) := by decide +kernel
theorem own_d_method_4_code_84 : decode method_4_code 84 = .ok (.ireturn, 1) := by decide +kernel
theorem own_d_method_4_code_85 : decode method_4_code 85 = .ok (.iconst 5, 1) := by decide +kernel
theorem own_d_method_4_code_86 : decode method_4_code 86 = .ok (.ireturn, 1) := by decide +kernel
theorem own_pn2 : plainFor (⟨"com/example/indri/indri/wire/ApiServesPinLaw", "hi", "(I)I"⟩ : MethodName) = true := by decide +kernel
def own_rm_hi_Q (Z : State) (p1 : Int32) (h0 : Heap) (n0 : Nat) (v : Option Value) (h : Heap) (L : List Loc) : Prop := Fr n0 L ∧ v = some (.int (own_hi p1)) ∧ h = h0
theorem own_rm_hi_ef (m : MethodId) (p1 : Int32) : entryFrame m #[(.int p1)] 1 = mkF m 0 #[.val (.int p1)] [] := by first | (simp [entryFrame, mkF, argsToLocals, Value.category]; done) | rfl
set_option maxRecDepth 65536 in
set_option maxHeartbeats 40000000 in
theorem own_rm_hi (l : Launch) (Z : State) (a0 : Array Value) (hw : ∀ d ∈ tables_1, d.before a0 Z = true) (ws : List Jvm.Cond) (p1 : Int32) (h0 : Heap) (n0 : Nat) (Z0 : n0 ≤ h0.size)  :
    MetFree l (⟨"com/example/indri/indri/wire/ApiServesPinLaw", "hi", "(I)I"⟩ : MethodName) (head1 (Jvm.Cond.code (⟨"com/example/indri/indri/wire/ApiServesPinLaw", "hi", "(I)I"⟩ : MethodName) method_4_code 1 (some .int) :: ws) ({ frames := 0, cells := 0, slots := 0, locals := 0 } : Room)) (fun a U => a = #[(.int p1)] ∧ Z.Warmed39 U.vm ∧ U.heap = h0) (fun _ _ _ _ _ => True) (fun _ U o U' => ∃ v L, o = .returned v ∧ own_rm_hi_Q Z p1 h0 n0 v U'.heap L ∧ FrameEnd U o U' L ({ frames := 0, cells := 0, slots := 0, locals := 0 } : Room).cells ({ frames := 0, cells := 0, slots := 0, locals := 0 } : Room).slots) := by
  refine MetFree.of_bodySF own_pn2 hisR ?_
  intro p e s m args below meth c s₁ Bd hml0 hP hK
  obtain ⟨rfl, hZ, hh⟩ := hP
  have hx := Bd.exec
  have hby := Bd.bytes
  have hml : c.maxLocals = 1 := hml0
  have hlk := BodyLoose.notSynchronized Bd
  have hown : s.vm.findClass "com/example/indri/indri/wire/ApiServesPinLaw" = some m.cls := findClass_of_methodNamed Bd.named
  have hnm := (name_of_methodNamed Bd.named Bd.method).1
  have X0 : Stand p l e ({ frames := 0, cells := 0, slots := 0, locals := 0 } : Room) s m #[(.int p1)] below meth c s₁ [] 0 0 := Stand.of_body Bd
  have e0 : s₁.heap = h0 := by rw [← hh, Bd.state]; rfl
  have N0 := Fr.nil n0
  show own_Go p e below s (own_rm_hi_Q Z p1 h0 n0) ({ frames := 0, cells := 0, slots := 0, locals := 0 } : Room).cells ({ frames := 0, cells := 0, slots := 0, locals := 0 } : Room).slots (s₁.setTop (entryFrame m #[(.int p1)] 1))
  rw [own_rm_hi_ef]
  show own_Go p e below s _ _ _ (s₁.setTop (mkF m 0 #[.val (.int p1)] []))
  refine own_st (fun _ k => XS.iloadN X0.here hx rfl (hb hby own_d_method_4_code_0) rfl k) ?_
  show own_Go p e below s _ _ _ (s₁.setTop (mkF m 1 #[.val (.int p1)] [(.int p1)]))
  by_cases hc98 : p1 = 0
  · refine own_st (fun _ k => XS.ifNo X0.here hx rfl (hb hby own_d_method_4_code_1) rfl (XT.i0_ne_f hc98) k) ?_
    show own_Go p e below s _ _ _ (s₁.setTop (mkF m 4 #[.val (.int p1)] []))
    refine own_st (fun _ k => XT.iconstV X0.here hx rfl (3 : Int32) (hb hby own_d_method_4_code_4) (by decide) k) ?_
    show own_Go p e below s _ _ _ (s₁.setTop (mkF m 5 #[.val (.int p1)] [(.int (3 : Int32))]))
    refine own_retI X0 hx hlk Bd.returns (hb hby own_d_method_4_code_5) (by decide) (by decide) ?_
    rw [e0]
    exact ⟨N0, (by unfold own_hi; rw [if_pos hc98]), rfl⟩
  · refine own_st (fun _ k => XS.ifYes X0.here hx rfl (pc0 := 1) (pc' := 6) rfl (hb hby own_d_method_4_code_1) rfl (XT.i0_ne_t hc98) (by decide) (by decide) k) ?_
    show own_Go p e below s _ _ _ (s₁.setTop (mkF m 6 #[.val (.int p1)] []))
    refine own_st (fun _ k => XS.iloadN X0.here hx rfl (hb hby own_d_method_4_code_6) rfl k) ?_
    show own_Go p e below s _ _ _ (s₁.setTop (mkF m 7 #[.val (.int p1)] [(.int p1)]))
    refine own_st (fun _ k => XT.iconstV X0.here hx rfl (1 : Int32) (hb hby own_d_method_4_code_7) (by decide) k) ?_
    show own_Go p e below s _ _ _ (s₁.setTop (mkF m 8 #[.val (.int p1)] [(.int (1 : Int32)), (.int p1)]))
    by_cases hc99 : p1 = (1 : Int32)
    · refine own_st (fun _ k => XS.icmpNo X0.here hx rfl (hb hby own_d_method_4_code_8) rfl (XT.ii_ne_f hc99) k) ?_
      show own_Go p e below s _ _ _ (s₁.setTop (mkF m 11 #[.val (.int p1)] []))
      refine own_st (fun _ k => XT.bipushV X0.here hx rfl (11 : Int32) (hb hby own_d_method_4_code_11) (by decide) k) ?_
      show own_Go p e below s _ _ _ (s₁.setTop (mkF m 13 #[.val (.int p1)] [(.int (11 : Int32))]))
      refine own_retI X0 hx hlk Bd.returns (hb hby own_d_method_4_code_13) (by decide) (by decide) ?_
      rw [e0]
      exact ⟨N0, (by unfold own_hi; rw [if_neg hc98, if_pos hc99]), rfl⟩
    · refine own_st (fun _ k => XS.icmpYes X0.here hx rfl (pc0 := 8) (pc' := 14) rfl (hb hby own_d_method_4_code_8) rfl (XT.ii_ne_t hc99) (by decide) (by decide) k) ?_
      show own_Go p e below s _ _ _ (s₁.setTop (mkF m 14 #[.val (.int p1)] []))
      refine own_st (fun _ k => XS.iloadN X0.here hx rfl (hb hby own_d_method_4_code_14) rfl k) ?_
      show own_Go p e below s _ _ _ (s₁.setTop (mkF m 15 #[.val (.int p1)] [(.int p1)]))
      refine own_st (fun _ k => XT.iconstV X0.here hx rfl (2 : Int32) (hb hby own_d_method_4_code_15) (by decide) k) ?_
      show own_Go p e below s _ _ _ (s₁.setTop (mkF m 16 #[.val (.int p1)] [(.int (2 : Int32)), (.int p1)]))
      by_cases hc100 : p1 = (2 : Int32)
      · refine own_st (fun _ k => XS.icmpNo X0.here hx rfl (hb hby own_d_method_4_code_16) rfl (XT.ii_ne_f hc100) k) ?_
        show own_Go p e below s _ _ _ (s₁.setTop (mkF m 19 #[.val (.int p1)] []))
        refine own_st (fun _ k => XT.iconstV X0.here hx rfl (5 : Int32) (hb hby own_d_method_4_code_19) (by decide) k) ?_
        show own_Go p e below s _ _ _ (s₁.setTop (mkF m 20 #[.val (.int p1)] [(.int (5 : Int32))]))
        refine own_retI X0 hx hlk Bd.returns (hb hby own_d_method_4_code_20) (by decide) (by decide) ?_
        rw [e0]
        exact ⟨N0, (by unfold own_hi; rw [if_neg hc98, if_neg hc99, if_pos hc100]), rfl⟩
      · refine own_st (fun _ k => XS.icmpYes X0.here hx rfl (pc0 := 16) (pc' := 21) rfl (hb hby own_d_method_4_code_16) rfl (XT.ii_ne_t hc100) (by decide) (by decide) k) ?_
        show own_Go p e below s _ _ _ (s₁.setTop (mkF m 21 #[.val (.int p1)] []))
        refine own_st (fun _ k => XS.iloadN X0.here hx rfl (hb hby own_d_method_4_code_21) rfl k) ?_
        show own_Go p e below s _ _ _ (s₁.setTop (mkF m 22 #[.val (.int p1)] [(.int p1)]))
        refine own_st (fun _ k => XT.iconstV X0.here hx rfl (3 : Int32) (hb hby own_d_method_4_code_22) (by decide) k) ?_
        show own_Go p e below s _ _ _ (s₁.setTop (mkF m 23 #[.val (.int p1)] [(.int (3 : Int32)), (.int p1)]))
        by_cases hc101 : p1 = (3 : Int32)
        · refine own_st (fun _ k => XS.icmpNo X0.here hx rfl (hb hby own_d_method_4_code_23) rfl (XT.ii_ne_f hc101) k) ?_
          show own_Go p e below s _ _ _ (s₁.setTop (mkF m 26 #[.val (.int p1)] []))
          refine own_st (fun _ k => XT.iconstV X0.here hx rfl (4 : Int32) (hb hby own_d_method_4_code_26) (by decide) k) ?_
          show own_Go p e below s _ _ _ (s₁.setTop (mkF m 27 #[.val (.int p1)] [(.int (4 : Int32))]))
          refine own_retI X0 hx hlk Bd.returns (hb hby own_d_method_4_code_27) (by decide) (by decide) ?_
          rw [e0]
          exact ⟨N0, (by unfold own_hi; rw [if_neg hc98, if_neg hc99, if_neg hc100, if_pos hc101]), rfl⟩
        · refine own_st (fun _ k => XS.icmpYes X0.here hx rfl (pc0 := 23) (pc' := 28) rfl (hb hby own_d_method_4_code_23) rfl (XT.ii_ne_t hc101) (by decide) (by decide) k) ?_
          show own_Go p e below s _ _ _ (s₁.setTop (mkF m 28 #[.val (.int p1)] []))
          refine own_st (fun _ k => XS.iloadN X0.here hx rfl (hb hby own_d_method_4_code_28) rfl k) ?_
          show own_Go p e below s _ _ _ (s₁.setTop (mkF m 29 #[.val (.int p1)] [(.int p1)]))
          refine own_st (fun _ k => XT.iconstV X0.here hx rfl (4 : Int32) (hb hby own_d_method_4_code_29) (by decide) k) ?_
          show own_Go p e below s _ _ _ (s₁.setTop (mkF m 30 #[.val (.int p1)] [(.int (4 : Int32)), (.int p1)]))
          by_cases hc102 : p1 = (4 : Int32)
          · refine own_st (fun _ k => XS.icmpNo X0.here hx rfl (hb hby own_d_method_4_code_30) rfl (XT.ii_ne_f hc102) k) ?_
            show own_Go p e below s _ _ _ (s₁.setTop (mkF m 33 #[.val (.int p1)] []))
            refine own_st (fun _ k => XT.bipushV X0.here hx rfl (7 : Int32) (hb hby own_d_method_4_code_33) (by decide) k) ?_
            show own_Go p e below s _ _ _ (s₁.setTop (mkF m 35 #[.val (.int p1)] [(.int (7 : Int32))]))
            refine own_retI X0 hx hlk Bd.returns (hb hby own_d_method_4_code_35) (by decide) (by decide) ?_
            rw [e0]
            exact ⟨N0, (by unfold own_hi; rw [if_neg hc98, if_neg hc99, if_neg hc100, if_neg hc101, if_pos hc102]), rfl⟩
          · refine own_st (fun _ k => XS.icmpYes X0.here hx rfl (pc0 := 30) (pc' := 36) rfl (hb hby own_d_method_4_code_30) rfl (XT.ii_ne_t hc102) (by decide) (by decide) k) ?_
            show own_Go p e below s _ _ _ (s₁.setTop (mkF m 36 #[.val (.int p1)] []))
            refine own_st (fun _ k => XS.iloadN X0.here hx rfl (hb hby own_d_method_4_code_36) rfl k) ?_
            show own_Go p e below s _ _ _ (s₁.setTop (mkF m 37 #[.val (.int p1)] [(.int p1)]))
            refine own_st (fun _ k => XT.iconstV X0.here hx rfl (5 : Int32) (hb hby own_d_method_4_code_37) (by decide) k) ?_
            show own_Go p e below s _ _ _ (s₁.setTop (mkF m 38 #[.val (.int p1)] [(.int (5 : Int32)), (.int p1)]))
            by_cases hc103 : p1 = (5 : Int32)
            · refine own_st (fun _ k => XS.icmpNo X0.here hx rfl (hb hby own_d_method_4_code_38) rfl (XT.ii_ne_f hc103) k) ?_
              show own_Go p e below s _ _ _ (s₁.setTop (mkF m 41 #[.val (.int p1)] []))
              refine own_st (fun _ k => XT.bipushV X0.here hx rfl (7 : Int32) (hb hby own_d_method_4_code_41) (by decide) k) ?_
              show own_Go p e below s _ _ _ (s₁.setTop (mkF m 43 #[.val (.int p1)] [(.int (7 : Int32))]))
              refine own_retI X0 hx hlk Bd.returns (hb hby own_d_method_4_code_43) (by decide) (by decide) ?_
              rw [e0]
              exact ⟨N0, (by unfold own_hi; rw [if_neg hc98, if_neg hc99, if_neg hc100, if_neg hc101, if_neg hc102, if_pos hc103]), rfl⟩
            · refine own_st (fun _ k => XS.icmpYes X0.here hx rfl (pc0 := 38) (pc' := 44) rfl (hb hby own_d_method_4_code_38) rfl (XT.ii_ne_t hc103) (by decide) (by decide) k) ?_
              show own_Go p e below s _ _ _ (s₁.setTop (mkF m 44 #[.val (.int p1)] []))
              refine own_st (fun _ k => XS.iloadN X0.here hx rfl (hb hby own_d_method_4_code_44) rfl k) ?_
              show own_Go p e below s _ _ _ (s₁.setTop (mkF m 45 #[.val (.int p1)] [(.int p1)]))
              refine own_st (fun _ k => XT.bipushV X0.here hx rfl (6 : Int32) (hb hby own_d_method_4_code_45) (by decide) k) ?_
              show own_Go p e below s _ _ _ (s₁.setTop (mkF m 47 #[.val (.int p1)] [(.int (6 : Int32)), (.int p1)]))
              by_cases hc104 : p1 = (6 : Int32)
              · refine own_st (fun _ k => XS.icmpNo X0.here hx rfl (hb hby own_d_method_4_code_47) rfl (XT.ii_ne_f hc104) k) ?_
                show own_Go p e below s _ _ _ (s₁.setTop (mkF m 50 #[.val (.int p1)] []))
                refine own_st (fun _ k => XT.iconstV X0.here hx rfl (2 : Int32) (hb hby own_d_method_4_code_50) (by decide) k) ?_
                show own_Go p e below s _ _ _ (s₁.setTop (mkF m 51 #[.val (.int p1)] [(.int (2 : Int32))]))
                refine own_retI X0 hx hlk Bd.returns (hb hby own_d_method_4_code_51) (by decide) (by decide) ?_
                rw [e0]
                exact ⟨N0, (by unfold own_hi; rw [if_neg hc98, if_neg hc99, if_neg hc100, if_neg hc101, if_neg hc102, if_neg hc103, if_pos hc104]), rfl⟩
              · refine own_st (fun _ k => XS.icmpYes X0.here hx rfl (pc0 := 47) (pc' := 52) rfl (hb hby own_d_method_4_code_47) rfl (XT.ii_ne_t hc104) (by decide) (by decide) k) ?_
                show own_Go p e below s _ _ _ (s₁.setTop (mkF m 52 #[.val (.int p1)] []))
                refine own_st (fun _ k => XS.iloadN X0.here hx rfl (hb hby own_d_method_4_code_52) rfl k) ?_
                show own_Go p e below s _ _ _ (s₁.setTop (mkF m 53 #[.val (.int p1)] [(.int p1)]))
                refine own_st (fun _ k => XT.bipushV X0.here hx rfl (7 : Int32) (hb hby own_d_method_4_code_53) (by decide) k) ?_
                show own_Go p e below s _ _ _ (s₁.setTop (mkF m 55 #[.val (.int p1)] [(.int (7 : Int32)), (.int p1)]))
                by_cases hc105 : p1 = (7 : Int32)
                · refine own_st (fun _ k => XS.icmpNo X0.here hx rfl (hb hby own_d_method_4_code_55) rfl (XT.ii_ne_f hc105) k) ?_
                  show own_Go p e below s _ _ _ (s₁.setTop (mkF m 58 #[.val (.int p1)] []))
                  refine own_st (fun _ k => XT.bipushV X0.here hx rfl (9 : Int32) (hb hby own_d_method_4_code_58) (by decide) k) ?_
                  show own_Go p e below s _ _ _ (s₁.setTop (mkF m 60 #[.val (.int p1)] [(.int (9 : Int32))]))
                  refine own_retI X0 hx hlk Bd.returns (hb hby own_d_method_4_code_60) (by decide) (by decide) ?_
                  rw [e0]
                  exact ⟨N0, (by unfold own_hi; rw [if_neg hc98, if_neg hc99, if_neg hc100, if_neg hc101, if_neg hc102, if_neg hc103, if_neg hc104, if_pos hc105]), rfl⟩
                · refine own_st (fun _ k => XS.icmpYes X0.here hx rfl (pc0 := 55) (pc' := 61) rfl (hb hby own_d_method_4_code_55) rfl (XT.ii_ne_t hc105) (by decide) (by decide) k) ?_
                  show own_Go p e below s _ _ _ (s₁.setTop (mkF m 61 #[.val (.int p1)] []))
                  refine own_st (fun _ k => XS.iloadN X0.here hx rfl (hb hby own_d_method_4_code_61) rfl k) ?_
                  show own_Go p e below s _ _ _ (s₁.setTop (mkF m 62 #[.val (.int p1)] [(.int p1)]))
                  refine own_st (fun _ k => XT.bipushV X0.here hx rfl (8 : Int32) (hb hby own_d_method_4_code_62) (by decide) k) ?_
                  show own_Go p e below s _ _ _ (s₁.setTop (mkF m 64 #[.val (.int p1)] [(.int (8 : Int32)), (.int p1)]))
                  by_cases hc106 : p1 = (8 : Int32)
                  · refine own_st (fun _ k => XS.icmpNo X0.here hx rfl (hb hby own_d_method_4_code_64) rfl (XT.ii_ne_f hc106) k) ?_
                    show own_Go p e below s _ _ _ (s₁.setTop (mkF m 67 #[.val (.int p1)] []))
                    refine own_st (fun _ k => XT.iconstV X0.here hx rfl (4 : Int32) (hb hby own_d_method_4_code_67) (by decide) k) ?_
                    show own_Go p e below s _ _ _ (s₁.setTop (mkF m 68 #[.val (.int p1)] [(.int (4 : Int32))]))
                    refine own_retI X0 hx hlk Bd.returns (hb hby own_d_method_4_code_68) (by decide) (by decide) ?_
                    rw [e0]
                    exact ⟨N0, (by unfold own_hi; rw [if_neg hc98, if_neg hc99, if_neg hc100, if_neg hc101, if_neg hc102, if_neg hc103, if_neg hc104, if_neg hc105, if_pos hc106]), rfl⟩
                  · refine own_st (fun _ k => XS.icmpYes X0.here hx rfl (pc0 := 64) (pc' := 69) rfl (hb hby own_d_method_4_code_64) rfl (XT.ii_ne_t hc106) (by decide) (by decide) k) ?_
                    show own_Go p e below s _ _ _ (s₁.setTop (mkF m 69 #[.val (.int p1)] []))
                    refine own_st (fun _ k => XS.iloadN X0.here hx rfl (hb hby own_d_method_4_code_69) rfl k) ?_
                    show own_Go p e below s _ _ _ (s₁.setTop (mkF m 70 #[.val (.int p1)] [(.int p1)]))
                    refine own_st (fun _ k => XT.bipushV X0.here hx rfl (12 : Int32) (hb hby own_d_method_4_code_70) (by decide) k) ?_
                    show own_Go p e below s _ _ _ (s₁.setTop (mkF m 72 #[.val (.int p1)] [(.int (12 : Int32)), (.int p1)]))
                    by_cases hc107 : p1 = (12 : Int32)
                    · refine own_st (fun _ k => XS.icmpNo X0.here hx rfl (hb hby own_d_method_4_code_72) rfl (XT.ii_ne_f hc107) k) ?_
                      show own_Go p e below s _ _ _ (s₁.setTop (mkF m 75 #[.val (.int p1)] []))
                      refine own_st (fun _ k => XT.iconstV X0.here hx rfl (4 : Int32) (hb hby own_d_method_4_code_75) (by decide) k) ?_
                      show own_Go p e below s _ _ _ (s₁.setTop (mkF m 76 #[.val (.int p1)] [(.int (4 : Int32))]))
                      refine own_retI X0 hx hlk Bd.returns (hb hby own_d_method_4_code_76) (by decide) (by decide) ?_
                      rw [e0]
                      exact ⟨N0, (by unfold own_hi; rw [if_neg hc98, if_neg hc99, if_neg hc100, if_neg hc101, if_neg hc102, if_neg hc103, if_neg hc104, if_neg hc105, if_neg hc106, if_pos hc107]), rfl⟩
                    · refine own_st (fun _ k => XS.icmpYes X0.here hx rfl (pc0 := 72) (pc' := 77) rfl (hb hby own_d_method_4_code_72) rfl (XT.ii_ne_t hc107) (by decide) (by decide) k) ?_
                      show own_Go p e below s _ _ _ (s₁.setTop (mkF m 77 #[.val (.int p1)] []))
                      refine own_st (fun _ k => XS.iloadN X0.here hx rfl (hb hby own_d_method_4_code_77) rfl k) ?_
                      show own_Go p e below s _ _ _ (s₁.setTop (mkF m 78 #[.val (.int p1)] [(.int p1)]))
                      refine own_st (fun _ k => XT.bipushV X0.here hx rfl (13 : Int32) (hb hby own_d_method_4_code_78) (by decide) k) ?_
                      show own_Go p e below s _ _ _ (s₁.setTop (mkF m 80 #[.val (.int p1)] [(.int (13 : Int32)), (.int p1)]))
                      by_cases hc108 : p1 = (13 : Int32)
                      · refine own_st (fun _ k => XS.icmpNo X0.here hx rfl (hb hby own_d_method_4_code_80) rfl (XT.ii_ne_f hc108) k) ?_
                        show own_Go p e below s _ _ _ (s₁.setTop (mkF m 83 #[.val (.int p1)] []))
                        refine own_st (fun _ k => XT.iconstV X0.here hx rfl (3 : Int32) (hb hby own_d_method_4_code_83) (by decide) k) ?_
                        show own_Go p e below s _ _ _ (s₁.setTop (mkF m 84 #[.val (.int p1)] [(.int (3 : Int32))]))
                        refine own_retI X0 hx hlk Bd.returns (hb hby own_d_method_4_code_84) (by decide) (by decide) ?_
                        rw [e0]
                        exact ⟨N0, (by unfold own_hi; rw [if_neg hc98, if_neg hc99, if_neg hc100, if_neg hc101, if_neg hc102, if_neg hc103, if_neg hc104, if_neg hc105, if_neg hc106, if_neg hc107, if_pos hc108]), rfl⟩
                      · refine own_st (fun _ k => XS.icmpYes X0.here hx rfl (pc0 := 80) (pc' := 85) rfl (hb hby own_d_method_4_code_80) rfl (XT.ii_ne_t hc108) (by decide) (by decide) k) ?_
                        show own_Go p e below s _ _ _ (s₁.setTop (mkF m 85 #[.val (.int p1)] []))
                        refine own_st (fun _ k => XT.iconstV X0.here hx rfl (5 : Int32) (hb hby own_d_method_4_code_85) (by decide) k) ?_
                        show own_Go p e below s _ _ _ (s₁.setTop (mkF m 86 #[.val (.int p1)] [(.int (5 : Int32))]))
                        refine own_retI X0 hx hlk Bd.returns (hb hby own_d_method_4_code_86) (by decide) (by decide) ?_
                        rw [e0]
                        exact ⟨N0, (by unfold own_hi; rw [if_neg hc98, if_neg hc99, if_neg hc100, if_neg hc101, if_neg hc102, if_neg hc103, if_neg hc104, if_neg hc105, if_neg hc106, if_neg hc107, if_neg hc108]), rfl⟩
theorem own_d_prog_47_method_12_code_0 : decode prog_47_method_12_code 0 = .ok (.aload_n 0, 1) := by decide +kernel
theorem own_d_prog_47_method_12_code_1 : decode prog_47_method_12_code 1 = .ok (.getfield 89, 3) := by decide +kernel
theorem own_d_prog_47_method_12_code_4 : decode prog_47_method_12_code 4 = .ok (.ifnonnull 23, 3) := by decide +kernel
theorem own_d_prog_47_method_12_code_7 : decode prog_47_method_12_code 7 = .ok (.iload_n 1, 1) := by decide +kernel
theorem own_d_prog_47_method_12_code_8 : decode prog_47_method_12_code 8 = .ok (.aload_n 0, 1) := by decide +kernel
theorem own_d_prog_47_method_12_code_9 : decode prog_47_method_12_code 9 = .ok (.getfield 79, 3) := by decide +kernel
theorem own_d_prog_47_method_12_code_12 : decode prog_47_method_12_code 12 = .ok (.if_icmp .lt 15, 3) := by decide +kernel
theorem own_d_prog_47_method_12_code_15 : decode prog_47_method_12_code 15 = .ok (.iload_n 1, 1) := by decide +kernel
theorem own_d_prog_47_method_12_code_16 : decode prog_47_method_12_code 16 = .ok (.aload_n 0, 1) := by decide +kernel
theorem own_d_prog_47_method_12_code_17 : decode prog_47_method_12_code 17 = .ok (.getfield 82, 3) := by decide +kernel
theorem own_d_prog_47_method_12_code_20 : decode prog_47_method_12_code 20 = .ok (.if_icmp .gt 7, 3) := by decide +kernel
theorem own_d_prog_47_method_12_code_23 : decode prog_47_method_12_code 23 = .ok (.iconst 1, 1) := by decide +kernel
theorem own_d_prog_47_method_12_code_24 : decode prog_47_method_12_code 24 = .ok (.goto 4, 3) := by decide +kernel
theorem own_d_prog_47_method_12_code_27 : decode prog_47_method_12_code 27 = .ok (.iconst 0, 1) := by decide +kernel
theorem own_d_prog_47_method_12_code_28 : decode prog_47_method_12_code 28 = .ok (.ireturn, 1) := by decide +kernel
theorem own_pn3 : plainFor (⟨"com/example/indri/indri/wire/Api", "serves", "(S)Z"⟩ : MethodName) = true := by decide +kernel
def own_rm_serves0_Q (Z : State) (r : Addr) (p1 : Int32) (f : Addr) (h0 : Heap) (n0 : Nat) (v : Option Value) (h : Heap) (L : List Loc) : Prop := Fr n0 L ∧ v = some (.int (0 : Int32)) ∧ h = h0
theorem own_rm_serves0_ef (m : MethodId) (r : Addr) (p1 : Int32) : entryFrame m #[(.ref r), (.int p1)] 2 = mkF m 0 #[.val (.ref r), .val (.int p1)] [] := by first | (simp [entryFrame, mkF, argsToLocals, Value.category]; done) | rfl
set_option maxRecDepth 65536 in
set_option maxHeartbeats 40000000 in
theorem own_rm_serves0 (l : Launch) (Z : State) (a0 : Array Value) (hw : ∀ d ∈ tables_1, d.before a0 Z = true) (ws : List Jvm.Cond) (r : Addr) (p1 : Int32) (f : Addr) (h0 : Heap) (n0 : Nat) (Z0 : n0 ≤ h0.size) (F1 : Fld Z h0 r "com/example/indri/indri/wire/Api" "notServedReason" "Ljava/lang/String;" (.ref f)) :
    MetFree l (⟨"com/example/indri/indri/wire/Api", "serves", "(S)Z"⟩ : MethodName) (head1 (Jvm.Cond.code (⟨"com/example/indri/indri/wire/Api", "serves", "(S)Z"⟩ : MethodName) prog_47_method_12_code 2 (some .boolean) :: ws) ({ frames := 0, cells := 0, slots := 0, locals := 0 } : Room)) (fun a U => a = #[(.ref r), (.int p1)] ∧ Z.Warmed39 U.vm ∧ U.heap = h0) (fun _ _ _ _ _ => True) (fun _ U o U' => ∃ v L, o = .returned v ∧ own_rm_serves0_Q Z r p1 f h0 n0 v U'.heap L ∧ FrameEnd U o U' L ({ frames := 0, cells := 0, slots := 0, locals := 0 } : Room).cells ({ frames := 0, cells := 0, slots := 0, locals := 0 } : Room).slots) := by
  refine MetFree.of_bodySF own_pn3 hisR ?_
  intro p e s m args below meth c s₁ Bd hml0 hP hK
  obtain ⟨rfl, hZ, hh⟩ := hP
  have hx := Bd.exec
  have hby := Bd.bytes
  have hml : c.maxLocals = 2 := hml0
  have hlk := BodyLoose.notSynchronized Bd
  have hown : s.vm.findClass "com/example/indri/indri/wire/Api" = some m.cls := findClass_of_methodNamed Bd.named
  have hnm := (name_of_methodNamed Bd.named Bd.method).1
  have X0 : Stand p l e ({ frames := 0, cells := 0, slots := 0, locals := 0 } : Room) s m #[(.ref r), (.int p1)] below meth c s₁ [] 0 0 := Stand.of_body Bd
  have e0 : s₁.heap = h0 := by rw [← hh, Bd.state]; rfl
  have N0 := Fr.nil n0
  show own_Go p e below s (own_rm_serves0_Q Z r p1 f h0 n0) ({ frames := 0, cells := 0, slots := 0, locals := 0 } : Room).cells ({ frames := 0, cells := 0, slots := 0, locals := 0 } : Room).slots (s₁.setTop (entryFrame m #[(.ref r), (.int p1)] 2))
  rw [own_rm_serves0_ef]
  show own_Go p e below s _ _ _ (s₁.setTop (mkF m 0 #[.val (.ref r), .val (.int p1)] []))
  refine own_st (fun _ k => XS.aloadN X0.here hx rfl (hb hby own_d_prog_47_method_12_code_0) rfl rfl k) ?_
  show own_Go p e below s _ _ _ (s₁.setTop (mkF m 1 #[.val (.ref r), .val (.int p1)] [(.ref r)]))
  obtain ⟨T109, X109, e109, st109⟩ := getF X0 hx hZ hown (host := "") (Or.inl (hw _ (List.mem_of_getElem? (i := 19) rfl))) Via.refl e0 F1 (g := (mkF m 1 #[.val (.ref r), .val (.int p1)] [(.ref r)])) rfl rfl (hb hby own_d_prog_47_method_12_code_1)
  refine own_st st109 ?_
  show own_Go p e below s _ _ _ (T109.setTop (mkF m 4 #[.val (.ref r), .val (.int p1)] [(.ref f)]))
  refine own_st (fun _ k => XT.ifnonnullYes X109.here hx rfl (pc0 := 4) (pc' := 27) rfl (hb hby own_d_prog_47_method_12_code_4) rfl (by decide) (by decide) k) ?_
  show own_Go p e below s _ _ _ (T109.setTop (mkF m 27 #[.val (.ref r), .val (.int p1)] []))
  refine own_st (fun _ k => XT.iconstV X109.here hx rfl (0 : Int32) (hb hby own_d_prog_47_method_12_code_27) (by decide) k) ?_
  show own_Go p e below s _ _ _ (T109.setTop (mkF m 28 #[.val (.ref r), .val (.int p1)] [(.int (0 : Int32))]))
  refine own_retN X109 hx hlk Bd.returns (t := .boolean) (z' := (0 : Int32)) (by simp) (by decide) (hb hby own_d_prog_47_method_12_code_28) (by decide) (by decide) ?_
  rw [e109]
  exact ⟨N0, rfl, rfl⟩
def own_rm_servesN_Q (Z : State) (r : Addr) (p1 : Int32) (mn : Int32) (mx : Int32) (h0 : Heap) (n0 : Nat) (v : Option Value) (h : Heap) (L : List Loc) : Prop := Fr n0 L ∧ v = some (.int (if p1 < mn then (0 : Int32) else if mx < p1 then 0 else 1)) ∧ h = h0
theorem own_rm_servesN_ef (m : MethodId) (r : Addr) (p1 : Int32) : entryFrame m #[(.ref r), (.int p1)] 2 = mkF m 0 #[.val (.ref r), .val (.int p1)] [] := by first | (simp [entryFrame, mkF, argsToLocals, Value.category]; done) | rfl
set_option maxRecDepth 65536 in
set_option maxHeartbeats 40000000 in
theorem own_rm_servesN (l : Launch) (Z : State) (a0 : Array Value) (hw : ∀ d ∈ tables_1, d.before a0 Z = true) (ws : List Jvm.Cond) (r : Addr) (p1 : Int32) (mn : Int32) (mx : Int32) (h0 : Heap) (n0 : Nat) (Z0 : n0 ≤ h0.size) (F1 : Fld Z h0 r "com/example/indri/indri/wire/Api" "notServedReason" "Ljava/lang/String;" .null) (F2 : Fld Z h0 r "com/example/indri/indri/wire/Api" "minVersion" "S" (.int mn)) (F3 : Fld Z h0 r "com/example/indri/indri/wire/Api" "maxVersion" "S" (.int mx)) :
    MetFree l (⟨"com/example/indri/indri/wire/Api", "serves", "(S)Z"⟩ : MethodName) (head1 (Jvm.Cond.code (⟨"com/example/indri/indri/wire/Api", "serves", "(S)Z"⟩ : MethodName) prog_47_method_12_code 2 (some .boolean) :: ws) ({ frames := 0, cells := 0, slots := 0, locals := 0 } : Room)) (fun a U => a = #[(.ref r), (.int p1)] ∧ Z.Warmed39 U.vm ∧ U.heap = h0) (fun _ _ _ _ _ => True) (fun _ U o U' => ∃ v L, o = .returned v ∧ own_rm_servesN_Q Z r p1 mn mx h0 n0 v U'.heap L ∧ FrameEnd U o U' L ({ frames := 0, cells := 0, slots := 0, locals := 0 } : Room).cells ({ frames := 0, cells := 0, slots := 0, locals := 0 } : Room).slots) := by
  refine MetFree.of_bodySF own_pn3 hisR ?_
  intro p e s m args below meth c s₁ Bd hml0 hP hK
  obtain ⟨rfl, hZ, hh⟩ := hP
  have hx := Bd.exec
  have hby := Bd.bytes
  have hml : c.maxLocals = 2 := hml0
  have hlk := BodyLoose.notSynchronized Bd
  have hown : s.vm.findClass "com/example/indri/indri/wire/Api" = some m.cls := findClass_of_methodNamed Bd.named
  have hnm := (name_of_methodNamed Bd.named Bd.method).1
  have X0 : Stand p l e ({ frames := 0, cells := 0, slots := 0, locals := 0 } : Room) s m #[(.ref r), (.int p1)] below meth c s₁ [] 0 0 := Stand.of_body Bd
  have e0 : s₁.heap = h0 := by rw [← hh, Bd.state]; rfl
  have N0 := Fr.nil n0
  show own_Go p e below s (own_rm_servesN_Q Z r p1 mn mx h0 n0) ({ frames := 0, cells := 0, slots := 0, locals := 0 } : Room).cells ({ frames := 0, cells := 0, slots := 0, locals := 0 } : Room).slots (s₁.setTop (entryFrame m #[(.ref r), (.int p1)] 2))
  rw [own_rm_servesN_ef]
  show own_Go p e below s _ _ _ (s₁.setTop (mkF m 0 #[.val (.ref r), .val (.int p1)] []))
  refine own_st (fun _ k => XS.aloadN X0.here hx rfl (hb hby own_d_prog_47_method_12_code_0) rfl rfl k) ?_
  show own_Go p e below s _ _ _ (s₁.setTop (mkF m 1 #[.val (.ref r), .val (.int p1)] [(.ref r)]))
  obtain ⟨T110, X110, e110, st110⟩ := getF X0 hx hZ hown (host := "") (Or.inl (hw _ (List.mem_of_getElem? (i := 19) rfl))) Via.refl e0 F1 (g := (mkF m 1 #[.val (.ref r), .val (.int p1)] [(.ref r)])) rfl rfl (hb hby own_d_prog_47_method_12_code_1)
  refine own_st st110 ?_
  show own_Go p e below s _ _ _ (T110.setTop (mkF m 4 #[.val (.ref r), .val (.int p1)] [.null]))
  refine own_st (fun _ k => XT.ifnonnullNo X110.here hx rfl (hb hby own_d_prog_47_method_12_code_4) rfl k) ?_
  show own_Go p e below s _ _ _ (T110.setTop (mkF m 7 #[.val (.ref r), .val (.int p1)] []))
  refine own_st (fun _ k => XS.iloadN X110.here hx rfl (hb hby own_d_prog_47_method_12_code_7) rfl k) ?_
  show own_Go p e below s _ _ _ (T110.setTop (mkF m 8 #[.val (.ref r), .val (.int p1)] [(.int p1)]))
  refine own_st (fun _ k => XS.aloadN X110.here hx rfl (hb hby own_d_prog_47_method_12_code_8) rfl rfl k) ?_
  show own_Go p e below s _ _ _ (T110.setTop (mkF m 9 #[.val (.ref r), .val (.int p1)] [(.ref r), (.int p1)]))
  obtain ⟨T111, X111, e111, st111⟩ := getF X110 hx hZ hown (host := "") (Or.inl (hw _ (List.mem_of_getElem? (i := 23) rfl))) Via.refl e110 F2 (g := (mkF m 9 #[.val (.ref r), .val (.int p1)] [(.ref r), (.int p1)])) rfl rfl (hb hby own_d_prog_47_method_12_code_9)
  refine own_st st111 ?_
  show own_Go p e below s _ _ _ (T111.setTop (mkF m 12 #[.val (.ref r), .val (.int p1)] [(.int mn), (.int p1)]))
  by_cases hc112 : p1 < mn
  · refine own_st (fun _ k => XS.icmpYes X111.here hx rfl (pc0 := 12) (pc' := 27) rfl (hb hby own_d_prog_47_method_12_code_12) rfl (XT.ii_lt_t hc112) (by decide) (by decide) k) ?_
    show own_Go p e below s _ _ _ (T111.setTop (mkF m 27 #[.val (.ref r), .val (.int p1)] []))
    refine own_st (fun _ k => XT.iconstV X111.here hx rfl (0 : Int32) (hb hby own_d_prog_47_method_12_code_27) (by decide) k) ?_
    show own_Go p e below s _ _ _ (T111.setTop (mkF m 28 #[.val (.ref r), .val (.int p1)] [(.int (0 : Int32))]))
    refine own_retN X111 hx hlk Bd.returns (t := .boolean) (z' := (0 : Int32)) (by simp) (by decide) (hb hby own_d_prog_47_method_12_code_28) (by decide) (by decide) ?_
    rw [e111]
    exact ⟨N0, (by rw [if_pos hc112]), rfl⟩
  · refine own_st (fun _ k => XS.icmpNo X111.here hx rfl (hb hby own_d_prog_47_method_12_code_12) rfl (XT.ii_lt_f hc112) k) ?_
    show own_Go p e below s _ _ _ (T111.setTop (mkF m 15 #[.val (.ref r), .val (.int p1)] []))
    refine own_st (fun _ k => XS.iloadN X111.here hx rfl (hb hby own_d_prog_47_method_12_code_15) rfl k) ?_
    show own_Go p e below s _ _ _ (T111.setTop (mkF m 16 #[.val (.ref r), .val (.int p1)] [(.int p1)]))
    refine own_st (fun _ k => XS.aloadN X111.here hx rfl (hb hby own_d_prog_47_method_12_code_16) rfl rfl k) ?_
    show own_Go p e below s _ _ _ (T111.setTop (mkF m 17 #[.val (.ref r), .val (.int p1)] [(.ref r), (.int p1)]))
    obtain ⟨T113, X113, e113, st113⟩ := getF X111 hx hZ hown (host := "") (Or.inl (hw _ (List.mem_of_getElem? (i := 25) rfl))) Via.refl e111 F3 (g := (mkF m 17 #[.val (.ref r), .val (.int p1)] [(.ref r), (.int p1)])) rfl rfl (hb hby own_d_prog_47_method_12_code_17)
    refine own_st st113 ?_
    show own_Go p e below s _ _ _ (T113.setTop (mkF m 20 #[.val (.ref r), .val (.int p1)] [(.int mx), (.int p1)]))
    by_cases hc114 : mx < p1
    · refine own_st (fun _ k => XS.icmpYes X113.here hx rfl (pc0 := 20) (pc' := 27) rfl (hb hby own_d_prog_47_method_12_code_20) rfl (XT.ii_gt_t hc114) (by decide) (by decide) k) ?_
      show own_Go p e below s _ _ _ (T113.setTop (mkF m 27 #[.val (.ref r), .val (.int p1)] []))
      refine own_st (fun _ k => XT.iconstV X113.here hx rfl (0 : Int32) (hb hby own_d_prog_47_method_12_code_27) (by decide) k) ?_
      show own_Go p e below s _ _ _ (T113.setTop (mkF m 28 #[.val (.ref r), .val (.int p1)] [(.int (0 : Int32))]))
      refine own_retN X113 hx hlk Bd.returns (t := .boolean) (z' := (0 : Int32)) (by simp) (by decide) (hb hby own_d_prog_47_method_12_code_28) (by decide) (by decide) ?_
      rw [e113]
      exact ⟨N0, (by rw [if_neg hc112, if_pos hc114]), rfl⟩
    · refine own_st (fun _ k => XS.icmpNo X113.here hx rfl (hb hby own_d_prog_47_method_12_code_20) rfl (XT.ii_gt_f hc114) k) ?_
      show own_Go p e below s _ _ _ (T113.setTop (mkF m 23 #[.val (.ref r), .val (.int p1)] []))
      refine own_st (fun _ k => XT.iconstV X113.here hx rfl (1 : Int32) (hb hby own_d_prog_47_method_12_code_23) (by decide) k) ?_
      show own_Go p e below s _ _ _ (T113.setTop (mkF m 24 #[.val (.ref r), .val (.int p1)] [(.int (1 : Int32))]))
      refine own_st (fun _ k => XS.goto X113.here hx rfl (pc0 := 24) (pc' := 28) rfl (hb hby own_d_prog_47_method_12_code_24) (by decide) (by decide) k) ?_
      show own_Go p e below s _ _ _ (T113.setTop (mkF m 28 #[.val (.ref r), .val (.int p1)] [(.int (1 : Int32))]))
      refine own_retN X113 hx hlk Bd.returns (t := .boolean) (z' := (1 : Int32)) (by simp) (by decide) (hb hby own_d_prog_47_method_12_code_28) (by decide) (by decide) ?_
      rw [e113]
      exact ⟨N0, (by rw [if_neg hc112, if_neg hc114]), rfl⟩
theorem own_pn4 : plainFor (⟨"com/example/indri/indri/wire/ApiServesPinLaw", "law", "(III)Z"⟩ : MethodName) = true := by decide +kernel
theorem own_pd0 : parseMethodDescriptor "(I)Lcom/example/indri/indri/wire/Api;" = some ⟨[.int], some (.object "com/example/indri/indri/wire/Api")⟩ := by decide +kernel
theorem own_pd1 : parseMethodDescriptor "(I)I" = some ⟨[.int], some .int⟩ := by decide +kernel
theorem own_pd2 : parseMethodDescriptor "(S)Z" = some ⟨[.short], some .boolean⟩ := by decide +kernel
def own_law_Q (Z : State) (n0 : Nat) (v : Option Value) (h : Heap) (L : List Loc) : Prop := Fr n0 L ∧ v = some (.int 1)
theorem own_law_ef (m : MethodId) (p1 : Int32) (p2 : Int32) (p3 : Int32) : entryFrame m #[(.int p1), (.int p2), (.int p3)] maxLocals = mkF m 0 #[.val (.int p1), .val (.int p2), .val (.int p3), .unset, .unset, .unset, .unset, .unset, .unset, .unset] [] := by first | (simp [entryFrame, mkF, argsToLocals, Value.category, maxLocals]; done) | rfl
set_option maxRecDepth 65536 in
set_option maxHeartbeats 40000000 in
theorem own_law (l : Launch) (Z : State) (a0 : Array Value) (hw : ∀ d ∈ tables_1, d.before a0 Z = true) (ws : List Jvm.Cond) (p1 : Int32) (p2 : Int32) (p3 : Int32) (a_PRODUCE : Addr) (f_PRODUCE_notServedReason : Addr) (a_FETCH : Addr) (a_SYNC_GROUP : Addr) (a_OFFSET_FETCH : Addr) (a_HEARTBEAT : Addr) (a_LIST_OFFSETS : Addr) (a_METADATA : Addr) (a_DESCRIBE_GROUPS : Addr) (a_LEAVE_GROUP : Addr) (a_API_VERSIONS : Addr) (a_OFFSET_COMMIT : Addr) (a_JOIN_GROUP : Addr) (a_FIND_COORDINATOR : Addr) (a_LIST_GROUPS : Addr) (h0 : Heap) (n0 : Nat) (Z0 : n0 ≤ h0.size) (O0 : Old Z n0 h0) (Ex_a_PRODUCE : Exa Z Z.heap a_PRODUCE "com/example/indri/indri/wire/Api") (S_a_PRODUCE : Sta Z Z.heap "com/example/indri/indri/wire/Api" "PRODUCE" "Lcom/example/indri/indri/wire/Api;" (.ref a_PRODUCE)) (Ex_f_PRODUCE_notServedReason : Exa Z Z.heap f_PRODUCE_notServedReason "java/lang/String") (F_PRODUCE_notServedReason : Fld Z Z.heap a_PRODUCE "com/example/indri/indri/wire/Api" "notServedReason" "Ljava/lang/String;" (.ref f_PRODUCE_notServedReason)) (Ex_a_FETCH : Exa Z Z.heap a_FETCH "com/example/indri/indri/wire/Api") (S_a_FETCH : Sta Z Z.heap "com/example/indri/indri/wire/Api" "FETCH" "Lcom/example/indri/indri/wire/Api;" (.ref a_FETCH)) (F_FETCH_notServedReason : Fld Z Z.heap a_FETCH "com/example/indri/indri/wire/Api" "notServedReason" "Ljava/lang/String;" .null) (F_FETCH_minVersion : Fld Z Z.heap a_FETCH "com/example/indri/indri/wire/Api" "minVersion" "S" (.int (4 : Int32))) (F_FETCH_maxVersion : Fld Z Z.heap a_FETCH "com/example/indri/indri/wire/Api" "maxVersion" "S" (.int (11 : Int32))) (Ex_a_SYNC_GROUP : Exa Z Z.heap a_SYNC_GROUP "com/example/indri/indri/wire/Api") (S_a_SYNC_GROUP : Sta Z Z.heap "com/example/indri/indri/wire/Api" "SYNC_GROUP" "Lcom/example/indri/indri/wire/Api;" (.ref a_SYNC_GROUP)) (F_SYNC_GROUP_notServedReason : Fld Z Z.heap a_SYNC_GROUP "com/example/indri/indri/wire/Api" "notServedReason" "Ljava/lang/String;" .null) (F_SYNC_GROUP_minVersion : Fld Z Z.heap a_SYNC_GROUP "com/example/indri/indri/wire/Api" "minVersion" "S" (.int (0 : Int32))) (F_SYNC_GROUP_maxVersion : Fld Z Z.heap a_SYNC_GROUP "com/example/indri/indri/wire/Api" "maxVersion" "S" (.int (5 : Int32))) (Ex_a_OFFSET_FETCH : Exa Z Z.heap a_OFFSET_FETCH "com/example/indri/indri/wire/Api") (S_a_OFFSET_FETCH : Sta Z Z.heap "com/example/indri/indri/wire/Api" "OFFSET_FETCH" "Lcom/example/indri/indri/wire/Api;" (.ref a_OFFSET_FETCH)) (F_OFFSET_FETCH_notServedReason : Fld Z Z.heap a_OFFSET_FETCH "com/example/indri/indri/wire/Api" "notServedReason" "Ljava/lang/String;" .null) (F_OFFSET_FETCH_minVersion : Fld Z Z.heap a_OFFSET_FETCH "com/example/indri/indri/wire/Api" "minVersion" "S" (.int (1 : Int32))) (Ex_a_HEARTBEAT : Exa Z Z.heap a_HEARTBEAT "com/example/indri/indri/wire/Api") (S_a_HEARTBEAT : Sta Z Z.heap "com/example/indri/indri/wire/Api" "HEARTBEAT" "Lcom/example/indri/indri/wire/Api;" (.ref a_HEARTBEAT)) (F_HEARTBEAT_notServedReason : Fld Z Z.heap a_HEARTBEAT "com/example/indri/indri/wire/Api" "notServedReason" "Ljava/lang/String;" .null) (F_HEARTBEAT_minVersion : Fld Z Z.heap a_HEARTBEAT "com/example/indri/indri/wire/Api" "minVersion" "S" (.int (0 : Int32))) (Ex_a_LIST_OFFSETS : Exa Z Z.heap a_LIST_OFFSETS "com/example/indri/indri/wire/Api") (S_a_LIST_OFFSETS : Sta Z Z.heap "com/example/indri/indri/wire/Api" "LIST_OFFSETS" "Lcom/example/indri/indri/wire/Api;" (.ref a_LIST_OFFSETS)) (F_LIST_OFFSETS_notServedReason : Fld Z Z.heap a_LIST_OFFSETS "com/example/indri/indri/wire/Api" "notServedReason" "Ljava/lang/String;" .null) (F_LIST_OFFSETS_minVersion : Fld Z Z.heap a_LIST_OFFSETS "com/example/indri/indri/wire/Api" "minVersion" "S" (.int (1 : Int32))) (F_LIST_OFFSETS_maxVersion : Fld Z Z.heap a_LIST_OFFSETS "com/example/indri/indri/wire/Api" "maxVersion" "S" (.int (5 : Int32))) (F_HEARTBEAT_maxVersion : Fld Z Z.heap a_HEARTBEAT "com/example/indri/indri/wire/Api" "maxVersion" "S" (.int (4 : Int32))) (Ex_a_METADATA : Exa Z Z.heap a_METADATA "com/example/indri/indri/wire/Api") (S_a_METADATA : Sta Z Z.heap "com/example/indri/indri/wire/Api" "METADATA" "Lcom/example/indri/indri/wire/Api;" (.ref a_METADATA)) (F_METADATA_notServedReason : Fld Z Z.heap a_METADATA "com/example/indri/indri/wire/Api" "notServedReason" "Ljava/lang/String;" .null) (F_METADATA_minVersion : Fld Z Z.heap a_METADATA "com/example/indri/indri/wire/Api" "minVersion" "S" (.int (0 : Int32))) (F_METADATA_maxVersion : Fld Z Z.heap a_METADATA "com/example/indri/indri/wire/Api" "maxVersion" "S" (.int (4 : Int32))) (Ex_a_DESCRIBE_GROUPS : Exa Z Z.heap a_DESCRIBE_GROUPS "com/example/indri/indri/wire/Api") (S_a_DESCRIBE_GROUPS : Sta Z Z.heap "com/example/indri/indri/wire/Api" "DESCRIBE_GROUPS" "Lcom/example/indri/indri/wire/Api;" (.ref a_DESCRIBE_GROUPS)) (F_DESCRIBE_GROUPS_notServedReason : Fld Z Z.heap a_DESCRIBE_GROUPS "com/example/indri/indri/wire/Api" "notServedReason" "Ljava/lang/String;" .null) (F_DESCRIBE_GROUPS_minVersion : Fld Z Z.heap a_DESCRIBE_GROUPS "com/example/indri/indri/wire/Api" "minVersion" "S" (.int (0 : Int32))) (F_DESCRIBE_GROUPS_maxVersion : Fld Z Z.heap a_DESCRIBE_GROUPS "com/example/indri/indri/wire/Api" "maxVersion" "S" (.int (5 : Int32))) (Ex_a_LEAVE_GROUP : Exa Z Z.heap a_LEAVE_GROUP "com/example/indri/indri/wire/Api") (S_a_LEAVE_GROUP : Sta Z Z.heap "com/example/indri/indri/wire/Api" "LEAVE_GROUP" "Lcom/example/indri/indri/wire/Api;" (.ref a_LEAVE_GROUP)) (F_LEAVE_GROUP_notServedReason : Fld Z Z.heap a_LEAVE_GROUP "com/example/indri/indri/wire/Api" "notServedReason" "Ljava/lang/String;" .null) (F_LEAVE_GROUP_minVersion : Fld Z Z.heap a_LEAVE_GROUP "com/example/indri/indri/wire/Api" "minVersion" "S" (.int (0 : Int32))) (F_LEAVE_GROUP_maxVersion : Fld Z Z.heap a_LEAVE_GROUP "com/example/indri/indri/wire/Api" "maxVersion" "S" (.int (5 : Int32))) (Ex_a_API_VERSIONS : Exa Z Z.heap a_API_VERSIONS "com/example/indri/indri/wire/Api") (S_a_API_VERSIONS : Sta Z Z.heap "com/example/indri/indri/wire/Api" "API_VERSIONS" "Lcom/example/indri/indri/wire/Api;" (.ref a_API_VERSIONS)) (F_API_VERSIONS_notServedReason : Fld Z Z.heap a_API_VERSIONS "com/example/indri/indri/wire/Api" "notServedReason" "Ljava/lang/String;" .null) (F_API_VERSIONS_minVersion : Fld Z Z.heap a_API_VERSIONS "com/example/indri/indri/wire/Api" "minVersion" "S" (.int (0 : Int32))) (F_API_VERSIONS_maxVersion : Fld Z Z.heap a_API_VERSIONS "com/example/indri/indri/wire/Api" "maxVersion" "S" (.int (3 : Int32))) (F_OFFSET_FETCH_maxVersion : Fld Z Z.heap a_OFFSET_FETCH "com/example/indri/indri/wire/Api" "maxVersion" "S" (.int (7 : Int32))) (Ex_a_OFFSET_COMMIT : Exa Z Z.heap a_OFFSET_COMMIT "com/example/indri/indri/wire/Api") (S_a_OFFSET_COMMIT : Sta Z Z.heap "com/example/indri/indri/wire/Api" "OFFSET_COMMIT" "Lcom/example/indri/indri/wire/Api;" (.ref a_OFFSET_COMMIT)) (F_OFFSET_COMMIT_notServedReason : Fld Z Z.heap a_OFFSET_COMMIT "com/example/indri/indri/wire/Api" "notServedReason" "Ljava/lang/String;" .null) (F_OFFSET_COMMIT_minVersion : Fld Z Z.heap a_OFFSET_COMMIT "com/example/indri/indri/wire/Api" "minVersion" "S" (.int (2 : Int32))) (F_OFFSET_COMMIT_maxVersion : Fld Z Z.heap a_OFFSET_COMMIT "com/example/indri/indri/wire/Api" "maxVersion" "S" (.int (7 : Int32))) (Ex_a_JOIN_GROUP : Exa Z Z.heap a_JOIN_GROUP "com/example/indri/indri/wire/Api") (S_a_JOIN_GROUP : Sta Z Z.heap "com/example/indri/indri/wire/Api" "JOIN_GROUP" "Lcom/example/indri/indri/wire/Api;" (.ref a_JOIN_GROUP)) (F_JOIN_GROUP_notServedReason : Fld Z Z.heap a_JOIN_GROUP "com/example/indri/indri/wire/Api" "notServedReason" "Ljava/lang/String;" .null) (F_JOIN_GROUP_minVersion : Fld Z Z.heap a_JOIN_GROUP "com/example/indri/indri/wire/Api" "minVersion" "S" (.int (0 : Int32))) (F_JOIN_GROUP_maxVersion : Fld Z Z.heap a_JOIN_GROUP "com/example/indri/indri/wire/Api" "maxVersion" "S" (.int (9 : Int32))) (Ex_a_FIND_COORDINATOR : Exa Z Z.heap a_FIND_COORDINATOR "com/example/indri/indri/wire/Api") (S_a_FIND_COORDINATOR : Sta Z Z.heap "com/example/indri/indri/wire/Api" "FIND_COORDINATOR" "Lcom/example/indri/indri/wire/Api;" (.ref a_FIND_COORDINATOR)) (F_FIND_COORDINATOR_notServedReason : Fld Z Z.heap a_FIND_COORDINATOR "com/example/indri/indri/wire/Api" "notServedReason" "Ljava/lang/String;" .null) (F_FIND_COORDINATOR_minVersion : Fld Z Z.heap a_FIND_COORDINATOR "com/example/indri/indri/wire/Api" "minVersion" "S" (.int (0 : Int32))) (F_FIND_COORDINATOR_maxVersion : Fld Z Z.heap a_FIND_COORDINATOR "com/example/indri/indri/wire/Api" "maxVersion" "S" (.int (2 : Int32))) (Ex_a_LIST_GROUPS : Exa Z Z.heap a_LIST_GROUPS "com/example/indri/indri/wire/Api") (S_a_LIST_GROUPS : Sta Z Z.heap "com/example/indri/indri/wire/Api" "LIST_GROUPS" "Lcom/example/indri/indri/wire/Api;" (.ref a_LIST_GROUPS)) (F_LIST_GROUPS_notServedReason : Fld Z Z.heap a_LIST_GROUPS "com/example/indri/indri/wire/Api" "notServedReason" "Ljava/lang/String;" .null) (F_LIST_GROUPS_minVersion : Fld Z Z.heap a_LIST_GROUPS "com/example/indri/indri/wire/Api" "minVersion" "S" (.int (0 : Int32))) (F_LIST_GROUPS_maxVersion : Fld Z Z.heap a_LIST_GROUPS "com/example/indri/indri/wire/Api" "maxVersion" "S" (.int (4 : Int32))) (F_PRODUCE_minVersion : Fld Z Z.heap a_PRODUCE "com/example/indri/indri/wire/Api" "minVersion" "S" (.int (3 : Int32))) (F_PRODUCE_maxVersion : Fld Z Z.heap a_PRODUCE "com/example/indri/indri/wire/Api" "maxVersion" "S" (.int (3 : Int32))) :
    MetFree l x (head1 (Jvm.Cond.code x code maxLocals ret :: ws) room_1) (fun a U => a = #[(.int p1), (.int p2), (.int p3)] ∧ Z.Warmed39 U.vm ∧ U.heap = h0) (fun _ _ _ _ _ => True) (fun _ U o U' => ∃ v L, o = .returned v ∧ own_law_Q Z n0 v U'.heap L ∧ FrameEnd U o U' L 0 0) := by
  refine MetFree.of_bodySF own_pn4 hisR ?_
  intro p e s m args below meth c s₁ Bd hml0 hP hK
  obtain ⟨rfl, hZ, hh⟩ := hP
  have hx := Bd.exec
  have hby := Bd.bytes
  have hml : c.maxLocals = 10 := hml0
  have hlk := BodyLoose.notSynchronized Bd
  have hown : s.vm.findClass "com/example/indri/indri/wire/ApiServesPinLaw" = some m.cls := findClass_of_methodNamed Bd.named
  have hnm := (name_of_methodNamed Bd.named Bd.method).1
  have X0 : Stand p l e room_1 s m #[(.int p1), (.int p2), (.int p3)] below meth c s₁ [] 0 0 := Stand.of_body Bd
  have e0 : s₁.heap = h0 := by rw [← hh, Bd.state]; rfl
  have N0 := Fr.nil n0
  have r1 := own_remN p1 14 14 (by decide) (by decide) (by decide)
  have hp := own_plain _ r1
  show own_Go p e below s (own_law_Q Z n0) 0 0 (s₁.setTop (entryFrame m #[(.int p1), (.int p2), (.int p3)] maxLocals))
  rw [own_law_ef]
  show own_Go p e below s _ _ _ (s₁.setTop (mkF m 0 #[.val (.int p1), .val (.int p2), .val (.int p3), .unset, .unset, .unset, .unset, .unset, .unset, .unset] []))
  refine own_st (fun _ k => XS.iloadN X0.here hx rfl (hb hby at_0) rfl k) ?_
  show own_Go p e below s _ _ _ (s₁.setTop (mkF m 1 #[.val (.int p1), .val (.int p2), .val (.int p3), .unset, .unset, .unset, .unset, .unset, .unset, .unset] [(.int p1)]))
  refine own_st (fun _ k => X0.ldcI hx hown (mvT hZ (hw _ (List.mem_of_getElem? (i := 0) rfl))) rfl (hb hby at_1) k) ?_
  show own_Go p e below s _ _ _ (s₁.setTop (mkF m 3 #[.val (.int p1), .val (.int p2), .val (.int p3), .unset, .unset, .unset, .unset, .unset, .unset, .unset] [(.int (2147483647 : Int32)), (.int p1)]))
  refine own_st (fun _ k => XS.iand X0.here hx rfl (hb hby at_3) rfl k) ?_
  show own_Go p e below s _ _ _ (s₁.setTop (mkF m 4 #[.val (.int p1), .val (.int p2), .val (.int p3), .unset, .unset, .unset, .unset, .unset, .unset, .unset] [(.int (p1 &&& (2147483647 : Int32)))]))
  refine own_st (fun _ k => XT.bipushV X0.here hx rfl (14 : Int32) (hb hby at_4) (by decide) k) ?_
  show own_Go p e below s _ _ _ (s₁.setTop (mkF m 6 #[.val (.int p1), .val (.int p2), .val (.int p3), .unset, .unset, .unset, .unset, .unset, .unset, .unset] [(.int (14 : Int32)), (.int (p1 &&& (2147483647 : Int32)))]))
  refine own_st (fun _ k => iremM X0 hx rfl (hb hby at_6) rfl (by decide) k) ?_
  show own_Go p e below s _ _ _ (s₁.setTop (mkF m 7 #[.val (.int p1), .val (.int p2), .val (.int p3), .unset, .unset, .unset, .unset, .unset, .unset, .unset] [(.int ((p1 &&& (2147483647 : Int32)) % (14 : Int32)))]))
  refine own_st (fun _ k => XS.istoreN X0.here hx rfl (hb hby at_7) rfl (l' := #[.val (.int p1), .val (.int p2), .val (.int p3), .val (.int ((p1 &&& (2147483647 : Int32)) % (14 : Int32))), .unset, .unset, .unset, .unset, .unset, .unset]) rfl k) ?_
  show own_Go p e below s _ _ _ (s₁.setTop (mkF m 8 #[.val (.int p1), .val (.int p2), .val (.int p3), .val (.int ((p1 &&& (2147483647 : Int32)) % (14 : Int32))), .unset, .unset, .unset, .unset, .unset, .unset] []))
  by_cases hz : ((p1 &&& (2147483647 : Int32)) % (14 : Int32)) = 0
  · skip
    show own_Go p e below s _ _ _ (s₁.setTop (mkF m 8 #[.val (.int p1), .val (.int p2), .val (.int p3), .val (.int ((p1 &&& (2147483647 : Int32)) % (14 : Int32))), .unset, .unset, .unset, .unset, .unset, .unset] []))
    refine own_st (fun _ k => XS.iloadN X0.here hx rfl (hb hby at_8) rfl k) ?_
    show own_Go p e below s _ _ _ (s₁.setTop (mkF m 9 #[.val (.int p1), .val (.int p2), .val (.int p3), .val (.int ((p1 &&& (2147483647 : Int32)) % (14 : Int32))), .unset, .unset, .unset, .unset, .unset, .unset] [(.int ((p1 &&& (2147483647 : Int32)) % (14 : Int32)))]))
    obtain ⟨_, _, ⟨T115, L115, k115, n115⟩, -, X115, ⟨Lc115, hQ115, l115, y115, z115⟩, st115⟩ := Jvm.LawKit.callS X0 hx (y := (⟨"com/example/indri/indri/wire/ApiServesPinLaw", "pick", "(I)Lcom/example/indri/indri/wire/Api;"⟩ : MethodName)) hown (mvT hZ (hw _ (List.mem_of_getElem? (i := 1) rfl))) (mvT hZ (hw _ (List.mem_of_getElem? (i := 2) rfl))) (mvT hZ (hw _ (List.mem_of_getElem? (i := 3) rfl))) (mvT hZ (hw _ (List.mem_of_getElem? (i := 4) rfl))) (by decide) (backOf (W := 0) (own_rm_pick0 l Z a0 hw [] ((p1 &&& (2147483647 : Int32)) % (14 : Int32)) a_PRODUCE f_PRODUCE_notServedReason h0 n0 Z0 O0 hz Ex_a_PRODUCE S_a_PRODUCE Ex_f_PRODUCE_notServedReason F_PRODUCE_notServedReason F_PRODUCE_minVersion F_PRODUCE_maxVersion) hZ (hw _ (List.mem_of_getElem? (i := 4) rfl)) (hw _ (List.mem_of_getElem? (i := 3) rfl)) (by decide) (by decide)) (g := (mkF m 9 #[.val (.int p1), .val (.int p2), .val (.int p3), .val (.int ((p1 &&& (2147483647 : Int32)) % (14 : Int32))), .unset, .unset, .unset, .unset, .unset, .unset] [(.int ((p1 &&& (2147483647 : Int32)) % (14 : Int32)))])) rfl (by rw [hml]; rfl) (argsL := [(.int ((p1 &&& (2147483647 : Int32)) % (14 : Int32)))]) (rest := []) (lenOf own_pd0 rfl) rfl (by show 2 * 0 + _ ≤ _; exact Nat.le_of_eq rfl) (hb hby at_9) (fun _ _ => ⟨rfl, e0, (by decide : 0 + 0 ≤ _), (by decide : 0 + 0 ≤ _)⟩)
    dsimp only [Pt.U, Pt.locs, Pt.cells, Pt.slots] at X115 l115 y115 z115 st115 hQ115
    subst l115 y115 z115
    obtain ⟨N115q, rfl, eh115⟩ := hQ115
    have N116 := Fr.app N0 N115q
    refine own_st st115 ?_
    show own_Go p e below s _ _ _ (T115.setTop (mkF m 12 #[.val (.int p1), .val (.int p2), .val (.int p3), .val (.int ((p1 &&& (2147483647 : Int32)) % (14 : Int32))), .unset, .unset, .unset, .unset, .unset, .unset] [(.ref a_PRODUCE)]))
    refine own_st (fun _ k => XS.astore X115.here hx rfl (hb hby at_12) rfl rfl (l' := #[.val (.int p1), .val (.int p2), .val (.int p3), .val (.int ((p1 &&& (2147483647 : Int32)) % (14 : Int32))), .val (.ref a_PRODUCE), .unset, .unset, .unset, .unset, .unset]) rfl k) ?_
    show own_Go p e below s _ _ _ (T115.setTop (mkF m 14 #[.val (.int p1), .val (.int p2), .val (.int p3), .val (.int ((p1 &&& (2147483647 : Int32)) % (14 : Int32))), .val (.ref a_PRODUCE), .unset, .unset, .unset, .unset, .unset] []))
    refine own_st (fun _ k => XS.iloadN X115.here hx rfl (hb hby at_14) rfl k) ?_
    show own_Go p e below s _ _ _ (T115.setTop (mkF m 15 #[.val (.int p1), .val (.int p2), .val (.int p3), .val (.int ((p1 &&& (2147483647 : Int32)) % (14 : Int32))), .val (.ref a_PRODUCE), .unset, .unset, .unset, .unset, .unset] [(.int ((p1 &&& (2147483647 : Int32)) % (14 : Int32)))]))
    obtain ⟨_, _, ⟨T117, L117, k117, n117⟩, -, X117, ⟨Lc117, hQ117, l117, y117, z117⟩, st117⟩ := Jvm.LawKit.callS X115 hx (y := (⟨"com/example/indri/indri/wire/ApiServesPinLaw", "lo", "(I)I"⟩ : MethodName)) hown (mvT hZ (hw _ (List.mem_of_getElem? (i := 8) rfl))) (mvT hZ (hw _ (List.mem_of_getElem? (i := 9) rfl))) (mvT hZ (hw _ (List.mem_of_getElem? (i := 3) rfl))) (mvT hZ (hw _ (List.mem_of_getElem? (i := 10) rfl))) (by decide) (backOf (W := 0) (own_rm_lo l Z a0 hw [] ((p1 &&& (2147483647 : Int32)) % (14 : Int32)) h0 n0 Z0 ) hZ (hw _ (List.mem_of_getElem? (i := 10) rfl)) (hw _ (List.mem_of_getElem? (i := 3) rfl)) (by decide) (by decide)) (g := (mkF m 15 #[.val (.int p1), .val (.int p2), .val (.int p3), .val (.int ((p1 &&& (2147483647 : Int32)) % (14 : Int32))), .val (.ref a_PRODUCE), .unset, .unset, .unset, .unset, .unset] [(.int ((p1 &&& (2147483647 : Int32)) % (14 : Int32)))])) rfl (by rw [hml]; rfl) (argsL := [(.int ((p1 &&& (2147483647 : Int32)) % (14 : Int32)))]) (rest := []) (lenOf own_pd1 rfl) rfl (by show 2 * 0 + _ ≤ _; exact Nat.le_of_eq rfl) (hb hby at_15) (fun _ _ => ⟨rfl, eh115, (by decide : 0 + 0 ≤ _), (by decide : 0 + 0 ≤ _)⟩)
    dsimp only [Pt.U, Pt.locs, Pt.cells, Pt.slots] at X117 l117 y117 z117 st117 hQ117
    subst l117 y117 z117
    obtain ⟨N117q, rfl, eh117⟩ := hQ117
    have N118 := Fr.app N116 N117q
    refine own_st st117 ?_
    show own_Go p e below s _ _ _ (T117.setTop (mkF m 18 #[.val (.int p1), .val (.int p2), .val (.int p3), .val (.int ((p1 &&& (2147483647 : Int32)) % (14 : Int32))), .val (.ref a_PRODUCE), .unset, .unset, .unset, .unset, .unset] [(.int (own_lo ((p1 &&& (2147483647 : Int32)) % (14 : Int32))))]))
    refine own_st (fun _ k => XS.istore X117.here hx rfl (hb hby at_18) rfl (l' := #[.val (.int p1), .val (.int p2), .val (.int p3), .val (.int ((p1 &&& (2147483647 : Int32)) % (14 : Int32))), .val (.ref a_PRODUCE), .val (.int (own_lo ((p1 &&& (2147483647 : Int32)) % (14 : Int32)))), .unset, .unset, .unset, .unset]) rfl k) ?_
    show own_Go p e below s _ _ _ (T117.setTop (mkF m 20 #[.val (.int p1), .val (.int p2), .val (.int p3), .val (.int ((p1 &&& (2147483647 : Int32)) % (14 : Int32))), .val (.ref a_PRODUCE), .val (.int (own_lo ((p1 &&& (2147483647 : Int32)) % (14 : Int32)))), .unset, .unset, .unset, .unset] []))
    refine own_st (fun _ k => XS.iloadN X117.here hx rfl (hb hby at_20) rfl k) ?_
    show own_Go p e below s _ _ _ (T117.setTop (mkF m 21 #[.val (.int p1), .val (.int p2), .val (.int p3), .val (.int ((p1 &&& (2147483647 : Int32)) % (14 : Int32))), .val (.ref a_PRODUCE), .val (.int (own_lo ((p1 &&& (2147483647 : Int32)) % (14 : Int32)))), .unset, .unset, .unset, .unset] [(.int ((p1 &&& (2147483647 : Int32)) % (14 : Int32)))]))
    obtain ⟨_, _, ⟨T119, L119, k119, n119⟩, -, X119, ⟨Lc119, hQ119, l119, y119, z119⟩, st119⟩ := Jvm.LawKit.callS X117 hx (y := (⟨"com/example/indri/indri/wire/ApiServesPinLaw", "hi", "(I)I"⟩ : MethodName)) hown (mvT hZ (hw _ (List.mem_of_getElem? (i := 11) rfl))) (mvT hZ (hw _ (List.mem_of_getElem? (i := 12) rfl))) (mvT hZ (hw _ (List.mem_of_getElem? (i := 3) rfl))) (mvT hZ (hw _ (List.mem_of_getElem? (i := 13) rfl))) (by decide) (backOf (W := 0) (own_rm_hi l Z a0 hw [] ((p1 &&& (2147483647 : Int32)) % (14 : Int32)) h0 n0 Z0 ) hZ (hw _ (List.mem_of_getElem? (i := 13) rfl)) (hw _ (List.mem_of_getElem? (i := 3) rfl)) (by decide) (by decide)) (g := (mkF m 21 #[.val (.int p1), .val (.int p2), .val (.int p3), .val (.int ((p1 &&& (2147483647 : Int32)) % (14 : Int32))), .val (.ref a_PRODUCE), .val (.int (own_lo ((p1 &&& (2147483647 : Int32)) % (14 : Int32)))), .unset, .unset, .unset, .unset] [(.int ((p1 &&& (2147483647 : Int32)) % (14 : Int32)))])) rfl (by rw [hml]; rfl) (argsL := [(.int ((p1 &&& (2147483647 : Int32)) % (14 : Int32)))]) (rest := []) (lenOf own_pd1 rfl) rfl (by show 2 * 0 + _ ≤ _; exact Nat.le_of_eq rfl) (hb hby at_21) (fun _ _ => ⟨rfl, eh117, (by decide : 0 + 0 ≤ _), (by decide : 0 + 0 ≤ _)⟩)
    dsimp only [Pt.U, Pt.locs, Pt.cells, Pt.slots] at X119 l119 y119 z119 st119 hQ119
    subst l119 y119 z119
    obtain ⟨N119q, rfl, eh119⟩ := hQ119
    have N120 := Fr.app N118 N119q
    refine own_st st119 ?_
    show own_Go p e below s _ _ _ (T119.setTop (mkF m 24 #[.val (.int p1), .val (.int p2), .val (.int p3), .val (.int ((p1 &&& (2147483647 : Int32)) % (14 : Int32))), .val (.ref a_PRODUCE), .val (.int (own_lo ((p1 &&& (2147483647 : Int32)) % (14 : Int32)))), .unset, .unset, .unset, .unset] [(.int (own_hi ((p1 &&& (2147483647 : Int32)) % (14 : Int32))))]))
    refine own_st (fun _ k => XS.istore X119.here hx rfl (hb hby at_24) rfl (l' := #[.val (.int p1), .val (.int p2), .val (.int p3), .val (.int ((p1 &&& (2147483647 : Int32)) % (14 : Int32))), .val (.ref a_PRODUCE), .val (.int (own_lo ((p1 &&& (2147483647 : Int32)) % (14 : Int32)))), .val (.int (own_hi ((p1 &&& (2147483647 : Int32)) % (14 : Int32)))), .unset, .unset, .unset]) rfl k) ?_
    show own_Go p e below s _ _ _ (T119.setTop (mkF m 26 #[.val (.int p1), .val (.int p2), .val (.int p3), .val (.int ((p1 &&& (2147483647 : Int32)) % (14 : Int32))), .val (.ref a_PRODUCE), .val (.int (own_lo ((p1 &&& (2147483647 : Int32)) % (14 : Int32)))), .val (.int (own_hi ((p1 &&& (2147483647 : Int32)) % (14 : Int32)))), .unset, .unset, .unset] []))
    refine own_st (fun _ k => XS.iloadN X119.here hx rfl (hb hby at_26) rfl k) ?_
    show own_Go p e below s _ _ _ (T119.setTop (mkF m 27 #[.val (.int p1), .val (.int p2), .val (.int p3), .val (.int ((p1 &&& (2147483647 : Int32)) % (14 : Int32))), .val (.ref a_PRODUCE), .val (.int (own_lo ((p1 &&& (2147483647 : Int32)) % (14 : Int32)))), .val (.int (own_hi ((p1 &&& (2147483647 : Int32)) % (14 : Int32)))), .unset, .unset, .unset] [(.int p3)]))
    refine own_st (fun _ k => XT.iconstV X119.here hx rfl (1 : Int32) (hb hby at_27) (by decide) k) ?_
    show own_Go p e below s _ _ _ (T119.setTop (mkF m 28 #[.val (.int p1), .val (.int p2), .val (.int p3), .val (.int ((p1 &&& (2147483647 : Int32)) % (14 : Int32))), .val (.ref a_PRODUCE), .val (.int (own_lo ((p1 &&& (2147483647 : Int32)) % (14 : Int32)))), .val (.int (own_hi ((p1 &&& (2147483647 : Int32)) % (14 : Int32)))), .unset, .unset, .unset] [(.int (1 : Int32)), (.int p3)]))
    refine own_st (fun _ k => XS.iand X119.here hx rfl (hb hby at_28) rfl k) ?_
    show own_Go p e below s _ _ _ (T119.setTop (mkF m 29 #[.val (.int p1), .val (.int p2), .val (.int p3), .val (.int ((p1 &&& (2147483647 : Int32)) % (14 : Int32))), .val (.ref a_PRODUCE), .val (.int (own_lo ((p1 &&& (2147483647 : Int32)) % (14 : Int32)))), .val (.int (own_hi ((p1 &&& (2147483647 : Int32)) % (14 : Int32)))), .unset, .unset, .unset] [(.int (p3 &&& (1 : Int32)))]))
    by_cases hc121 : (p3 &&& (1 : Int32)) = 0
    · refine own_st (fun _ k => XS.ifYes X119.here hx rfl (pc0 := 29) (pc' := 47) rfl (hb hby at_29) rfl (XT.i0_eq_t hc121) (by decide) (by decide) k) ?_
      show own_Go p e below s _ _ _ (T119.setTop (mkF m 47 #[.val (.int p1), .val (.int p2), .val (.int p3), .val (.int ((p1 &&& (2147483647 : Int32)) % (14 : Int32))), .val (.ref a_PRODUCE), .val (.int (own_lo ((p1 &&& (2147483647 : Int32)) % (14 : Int32)))), .val (.int (own_hi ((p1 &&& (2147483647 : Int32)) % (14 : Int32)))), .unset, .unset, .unset] []))
      refine own_st (fun _ k => XS.iloadN X119.here hx rfl (hb hby at_47) rfl k) ?_
      show own_Go p e below s _ _ _ (T119.setTop (mkF m 48 #[.val (.int p1), .val (.int p2), .val (.int p3), .val (.int ((p1 &&& (2147483647 : Int32)) % (14 : Int32))), .val (.ref a_PRODUCE), .val (.int (own_lo ((p1 &&& (2147483647 : Int32)) % (14 : Int32)))), .val (.int (own_hi ((p1 &&& (2147483647 : Int32)) % (14 : Int32)))), .unset, .unset, .unset] [(.int p2)]))
      refine own_st (fun _ k => XT.i2s X119.here hx rfl (hb hby at_48) rfl k) ?_
      show own_Go p e below s _ _ _ (T119.setTop (mkF m 49 #[.val (.int p1), .val (.int p2), .val (.int p3), .val (.int ((p1 &&& (2147483647 : Int32)) % (14 : Int32))), .val (.ref a_PRODUCE), .val (.int (own_lo ((p1 &&& (2147483647 : Int32)) % (14 : Int32)))), .val (.int (own_hi ((p1 &&& (2147483647 : Int32)) % (14 : Int32)))), .unset, .unset, .unset] [(.int (p2.toInt16.toInt32))]))
      refine own_st (fun _ k => XS.istore X119.here hx rfl (hb hby at_49) rfl (l' := #[.val (.int p1), .val (.int p2), .val (.int p3), .val (.int ((p1 &&& (2147483647 : Int32)) % (14 : Int32))), .val (.ref a_PRODUCE), .val (.int (own_lo ((p1 &&& (2147483647 : Int32)) % (14 : Int32)))), .val (.int (own_hi ((p1 &&& (2147483647 : Int32)) % (14 : Int32)))), .val (.int (p2.toInt16.toInt32)), .unset, .unset]) rfl k) ?_
      show own_Go p e below s _ _ _ (T119.setTop (mkF m 51 #[.val (.int p1), .val (.int p2), .val (.int p3), .val (.int ((p1 &&& (2147483647 : Int32)) % (14 : Int32))), .val (.ref a_PRODUCE), .val (.int (own_lo ((p1 &&& (2147483647 : Int32)) % (14 : Int32)))), .val (.int (own_hi ((p1 &&& (2147483647 : Int32)) % (14 : Int32)))), .val (.int (p2.toInt16.toInt32)), .unset, .unset] []))
      refine own_st (fun _ k => XS.iload X119.here hx rfl (hb hby at_51) rfl k) ?_
      show own_Go p e below s _ _ _ (T119.setTop (mkF m 53 #[.val (.int p1), .val (.int p2), .val (.int p3), .val (.int ((p1 &&& (2147483647 : Int32)) % (14 : Int32))), .val (.ref a_PRODUCE), .val (.int (own_lo ((p1 &&& (2147483647 : Int32)) % (14 : Int32)))), .val (.int (own_hi ((p1 &&& (2147483647 : Int32)) % (14 : Int32)))), .val (.int (p2.toInt16.toInt32)), .unset, .unset] [(.int (p2.toInt16.toInt32))]))
      refine own_st (fun _ k => XS.istore X119.here hx rfl (hb hby at_53) rfl (l' := #[.val (.int p1), .val (.int p2), .val (.int p3), .val (.int ((p1 &&& (2147483647 : Int32)) % (14 : Int32))), .val (.ref a_PRODUCE), .val (.int (own_lo ((p1 &&& (2147483647 : Int32)) % (14 : Int32)))), .val (.int (own_hi ((p1 &&& (2147483647 : Int32)) % (14 : Int32)))), .val (.int (p2.toInt16.toInt32)), .val (.int (p2.toInt16.toInt32)), .unset]) rfl k) ?_
      show own_Go p e below s _ _ _ (T119.setTop (mkF m 55 #[.val (.int p1), .val (.int p2), .val (.int p3), .val (.int ((p1 &&& (2147483647 : Int32)) % (14 : Int32))), .val (.ref a_PRODUCE), .val (.int (own_lo ((p1 &&& (2147483647 : Int32)) % (14 : Int32)))), .val (.int (own_hi ((p1 &&& (2147483647 : Int32)) % (14 : Int32)))), .val (.int (p2.toInt16.toInt32)), .val (.int (p2.toInt16.toInt32)), .unset] []))
      refine own_st (fun _ k => XS.iloadN X119.here hx rfl (hb hby at_55) rfl k) ?_
      show own_Go p e below s _ _ _ (T119.setTop (mkF m 56 #[.val (.int p1), .val (.int p2), .val (.int p3), .val (.int ((p1 &&& (2147483647 : Int32)) % (14 : Int32))), .val (.ref a_PRODUCE), .val (.int (own_lo ((p1 &&& (2147483647 : Int32)) % (14 : Int32)))), .val (.int (own_hi ((p1 &&& (2147483647 : Int32)) % (14 : Int32)))), .val (.int (p2.toInt16.toInt32)), .val (.int (p2.toInt16.toInt32)), .unset] [(.int ((p1 &&& (2147483647 : Int32)) % (14 : Int32)))]))
      refine own_st (fun _ k => XS.ifYes X119.here hx rfl (pc0 := 56) (pc' := 77) rfl (hb hby at_56) rfl (XT.i0_eq_t hz) (by decide) (by decide) k) ?_
      show own_Go p e below s _ _ _ (T119.setTop (mkF m 77 #[.val (.int p1), .val (.int p2), .val (.int p3), .val (.int ((p1 &&& (2147483647 : Int32)) % (14 : Int32))), .val (.ref a_PRODUCE), .val (.int (own_lo ((p1 &&& (2147483647 : Int32)) % (14 : Int32)))), .val (.int (own_hi ((p1 &&& (2147483647 : Int32)) % (14 : Int32)))), .val (.int (p2.toInt16.toInt32)), .val (.int (p2.toInt16.toInt32)), .unset] []))
      refine own_st (fun _ k => XT.iconstV X119.here hx rfl (0 : Int32) (hb hby at_77) (by decide) k) ?_
      show own_Go p e below s _ _ _ (T119.setTop (mkF m 78 #[.val (.int p1), .val (.int p2), .val (.int p3), .val (.int ((p1 &&& (2147483647 : Int32)) % (14 : Int32))), .val (.ref a_PRODUCE), .val (.int (own_lo ((p1 &&& (2147483647 : Int32)) % (14 : Int32)))), .val (.int (own_hi ((p1 &&& (2147483647 : Int32)) % (14 : Int32)))), .val (.int (p2.toInt16.toInt32)), .val (.int (p2.toInt16.toInt32)), .unset] [(.int (0 : Int32))]))
      refine own_st (fun _ k => XS.istore X119.here hx rfl (hb hby at_78) rfl (l' := #[.val (.int p1), .val (.int p2), .val (.int p3), .val (.int ((p1 &&& (2147483647 : Int32)) % (14 : Int32))), .val (.ref a_PRODUCE), .val (.int (own_lo ((p1 &&& (2147483647 : Int32)) % (14 : Int32)))), .val (.int (own_hi ((p1 &&& (2147483647 : Int32)) % (14 : Int32)))), .val (.int (p2.toInt16.toInt32)), .val (.int (p2.toInt16.toInt32)), .val (.int (0 : Int32))]) rfl k) ?_
      show own_Go p e below s _ _ _ (T119.setTop (mkF m 80 #[.val (.int p1), .val (.int p2), .val (.int p3), .val (.int ((p1 &&& (2147483647 : Int32)) % (14 : Int32))), .val (.ref a_PRODUCE), .val (.int (own_lo ((p1 &&& (2147483647 : Int32)) % (14 : Int32)))), .val (.int (own_hi ((p1 &&& (2147483647 : Int32)) % (14 : Int32)))), .val (.int (p2.toInt16.toInt32)), .val (.int (p2.toInt16.toInt32)), .val (.int (0 : Int32))] []))
      refine own_st (fun _ k => XS.aload X119.here hx rfl (hb hby at_80) rfl rfl k) ?_
      show own_Go p e below s _ _ _ (T119.setTop (mkF m 82 #[.val (.int p1), .val (.int p2), .val (.int p3), .val (.int ((p1 &&& (2147483647 : Int32)) % (14 : Int32))), .val (.ref a_PRODUCE), .val (.int (own_lo ((p1 &&& (2147483647 : Int32)) % (14 : Int32)))), .val (.int (own_hi ((p1 &&& (2147483647 : Int32)) % (14 : Int32)))), .val (.int (p2.toInt16.toInt32)), .val (.int (p2.toInt16.toInt32)), .val (.int (0 : Int32))] [(.ref a_PRODUCE)]))
      refine own_st (fun _ k => XS.iload X119.here hx rfl (hb hby at_82) rfl k) ?_
      show own_Go p e below s _ _ _ (T119.setTop (mkF m 84 #[.val (.int p1), .val (.int p2), .val (.int p3), .val (.int ((p1 &&& (2147483647 : Int32)) % (14 : Int32))), .val (.ref a_PRODUCE), .val (.int (own_lo ((p1 &&& (2147483647 : Int32)) % (14 : Int32)))), .val (.int (own_hi ((p1 &&& (2147483647 : Int32)) % (14 : Int32)))), .val (.int (p2.toInt16.toInt32)), .val (.int (p2.toInt16.toInt32)), .val (.int (0 : Int32))] [(.int (p2.toInt16.toInt32)), (.ref a_PRODUCE)]))
      have F123 : Exa Z h0 a_PRODUCE "com/example/indri/indri/wire/Api" := Ex_a_PRODUCE.ext O0.2
      have F124 : Fld Z h0 a_PRODUCE "com/example/indri/indri/wire/Api" "notServedReason" "Ljava/lang/String;" (.ref f_PRODUCE_notServedReason) := F_PRODUCE_notServedReason.ext O0.2
      obtain ⟨cq122, kq122, q122a, q122b, q122c⟩ := isOf hZ eh119 F123
      obtain ⟨_, _, ⟨T122, L122, k122, n122⟩, -, X122, ⟨Lc122, hQ122, l122, y122, z122⟩, st122⟩ := X119.virtualBack hx (y := (⟨"com/example/indri/indri/wire/Api", "serves", "(S)Z"⟩ : MethodName)) (z := (⟨"com/example/indri/indri/wire/Api", "serves", "(S)Z"⟩ : MethodName)) hown (mvT hZ (hw _ (List.mem_of_getElem? (i := 14) rfl))) (mvT hZ (hw _ (List.mem_of_getElem? (i := 15) rfl))) (notFace_of_selects (args := #[]) (mvT hZ (hw _ (List.mem_of_getElem? (i := 17) rfl)))) (mvT hZ (hw _ (List.mem_of_getElem? (i := 17) rfl))) (mvT hZ (hw _ (List.mem_of_getElem? (i := 16) rfl))) (by decide) (backOf (W := 0) (own_rm_serves0 l Z a0 hw [] a_PRODUCE (p2.toInt16.toInt32) f_PRODUCE_notServedReason h0 n0 Z0 F124) hZ (hw _ (List.mem_of_getElem? (i := 18) rfl)) (hw _ (List.mem_of_getElem? (i := 6) rfl)) (by decide) (by decide)) q122a q122c (g := (mkF m 84 #[.val (.int p1), .val (.int p2), .val (.int p3), .val (.int ((p1 &&& (2147483647 : Int32)) % (14 : Int32))), .val (.ref a_PRODUCE), .val (.int (own_lo ((p1 &&& (2147483647 : Int32)) % (14 : Int32)))), .val (.int (own_hi ((p1 &&& (2147483647 : Int32)) % (14 : Int32)))), .val (.int (p2.toInt16.toInt32)), .val (.int (p2.toInt16.toInt32)), .val (.int (0 : Int32))] [(.int (p2.toInt16.toInt32)), (.ref a_PRODUCE)])) rfl (by rw [hml]; rfl) (Steps.refl _) (argsL := [(.int (p2.toInt16.toInt32))]) (rest := []) (lenOf own_pd2 rfl) rfl (by show 2 * 0 + _ ≤ _; exact Nat.le_of_eq rfl) (hb hby at_84) (fun _ _ => ⟨rfl, eh119, (by decide : 0 + 0 ≤ _), (by decide : 0 + 0 ≤ _)⟩)
      dsimp only [Pt.U, Pt.locs, Pt.cells, Pt.slots] at X122 l122 y122 z122 st122 hQ122
      subst l122 y122 z122
      obtain ⟨N122q, rfl, eh122⟩ := hQ122
      have N125 := Fr.app N120 N122q
      refine own_tr st122 ?_
      show own_Go p e below s _ _ _ (T122.setTop (mkF m 87 #[.val (.int p1), .val (.int p2), .val (.int p3), .val (.int ((p1 &&& (2147483647 : Int32)) % (14 : Int32))), .val (.ref a_PRODUCE), .val (.int (own_lo ((p1 &&& (2147483647 : Int32)) % (14 : Int32)))), .val (.int (own_hi ((p1 &&& (2147483647 : Int32)) % (14 : Int32)))), .val (.int (p2.toInt16.toInt32)), .val (.int (p2.toInt16.toInt32)), .val (.int (0 : Int32))] [(.int (0 : Int32))]))
      refine own_st (fun _ k => XS.iload X122.here hx rfl (hb hby at_87) rfl k) ?_
      show own_Go p e below s _ _ _ (T122.setTop (mkF m 89 #[.val (.int p1), .val (.int p2), .val (.int p3), .val (.int ((p1 &&& (2147483647 : Int32)) % (14 : Int32))), .val (.ref a_PRODUCE), .val (.int (own_lo ((p1 &&& (2147483647 : Int32)) % (14 : Int32)))), .val (.int (own_hi ((p1 &&& (2147483647 : Int32)) % (14 : Int32)))), .val (.int (p2.toInt16.toInt32)), .val (.int (p2.toInt16.toInt32)), .val (.int (0 : Int32))] [(.int (0 : Int32)), (.int (0 : Int32))]))
      refine own_st (fun _ k => XS.icmpNo X122.here hx rfl (hb hby at_89) rfl (XT.ii_ne_f rfl) k) ?_
      show own_Go p e below s _ _ _ (T122.setTop (mkF m 92 #[.val (.int p1), .val (.int p2), .val (.int p3), .val (.int ((p1 &&& (2147483647 : Int32)) % (14 : Int32))), .val (.ref a_PRODUCE), .val (.int (own_lo ((p1 &&& (2147483647 : Int32)) % (14 : Int32)))), .val (.int (own_hi ((p1 &&& (2147483647 : Int32)) % (14 : Int32)))), .val (.int (p2.toInt16.toInt32)), .val (.int (p2.toInt16.toInt32)), .val (.int (0 : Int32))] []))
      refine own_st (fun _ k => XT.iconstV X122.here hx rfl (1 : Int32) (hb hby at_92) (by decide) k) ?_
      show own_Go p e below s _ _ _ (T122.setTop (mkF m 93 #[.val (.int p1), .val (.int p2), .val (.int p3), .val (.int ((p1 &&& (2147483647 : Int32)) % (14 : Int32))), .val (.ref a_PRODUCE), .val (.int (own_lo ((p1 &&& (2147483647 : Int32)) % (14 : Int32)))), .val (.int (own_hi ((p1 &&& (2147483647 : Int32)) % (14 : Int32)))), .val (.int (p2.toInt16.toInt32)), .val (.int (p2.toInt16.toInt32)), .val (.int (0 : Int32))] [(.int (1 : Int32))]))
      refine own_st (fun _ k => XS.goto X122.here hx rfl (pc0 := 93) (pc' := 97) rfl (hb hby at_93) (by decide) (by decide) k) ?_
      show own_Go p e below s _ _ _ (T122.setTop (mkF m 97 #[.val (.int p1), .val (.int p2), .val (.int p3), .val (.int ((p1 &&& (2147483647 : Int32)) % (14 : Int32))), .val (.ref a_PRODUCE), .val (.int (own_lo ((p1 &&& (2147483647 : Int32)) % (14 : Int32)))), .val (.int (own_hi ((p1 &&& (2147483647 : Int32)) % (14 : Int32)))), .val (.int (p2.toInt16.toInt32)), .val (.int (p2.toInt16.toInt32)), .val (.int (0 : Int32))] [(.int (1 : Int32))]))
      refine own_retN X122 hx hlk Bd.returns (t := .boolean) (z' := (1 : Int32)) (by simp) (by decide) (hb hby at_97) (by decide) (by decide) ?_
      rw [eh122]
      exact ⟨N125, rfl⟩
    · refine own_st (fun _ k => XS.ifNo X119.here hx rfl (hb hby at_29) rfl (XT.i0_eq_f hc121) k) ?_
      show own_Go p e below s _ _ _ (T119.setTop (mkF m 32 #[.val (.int p1), .val (.int p2), .val (.int p3), .val (.int ((p1 &&& (2147483647 : Int32)) % (14 : Int32))), .val (.ref a_PRODUCE), .val (.int (own_lo ((p1 &&& (2147483647 : Int32)) % (14 : Int32)))), .val (.int (own_hi ((p1 &&& (2147483647 : Int32)) % (14 : Int32)))), .unset, .unset, .unset] []))
      refine own_st (fun _ k => XS.iload X119.here hx rfl (hb hby at_32) rfl k) ?_
      show own_Go p e below s _ _ _ (T119.setTop (mkF m 34 #[.val (.int p1), .val (.int p2), .val (.int p3), .val (.int ((p1 &&& (2147483647 : Int32)) % (14 : Int32))), .val (.ref a_PRODUCE), .val (.int (own_lo ((p1 &&& (2147483647 : Int32)) % (14 : Int32)))), .val (.int (own_hi ((p1 &&& (2147483647 : Int32)) % (14 : Int32)))), .unset, .unset, .unset] [(.int (own_lo ((p1 &&& (2147483647 : Int32)) % (14 : Int32))))]))
      refine own_st (fun _ k => XS.iloadN X119.here hx rfl (hb hby at_34) rfl k) ?_
      show own_Go p e below s _ _ _ (T119.setTop (mkF m 35 #[.val (.int p1), .val (.int p2), .val (.int p3), .val (.int ((p1 &&& (2147483647 : Int32)) % (14 : Int32))), .val (.ref a_PRODUCE), .val (.int (own_lo ((p1 &&& (2147483647 : Int32)) % (14 : Int32)))), .val (.int (own_hi ((p1 &&& (2147483647 : Int32)) % (14 : Int32)))), .unset, .unset, .unset] [(.int p2), (.int (own_lo ((p1 &&& (2147483647 : Int32)) % (14 : Int32))))]))
      refine own_st (fun _ k => XT.bipushV X119.here hx rfl (15 : Int32) (hb hby at_35) (by decide) k) ?_
      show own_Go p e below s _ _ _ (T119.setTop (mkF m 37 #[.val (.int p1), .val (.int p2), .val (.int p3), .val (.int ((p1 &&& (2147483647 : Int32)) % (14 : Int32))), .val (.ref a_PRODUCE), .val (.int (own_lo ((p1 &&& (2147483647 : Int32)) % (14 : Int32)))), .val (.int (own_hi ((p1 &&& (2147483647 : Int32)) % (14 : Int32)))), .unset, .unset, .unset] [(.int (15 : Int32)), (.int p2), (.int (own_lo ((p1 &&& (2147483647 : Int32)) % (14 : Int32))))]))
      refine own_st (fun _ k => XS.iand X119.here hx rfl (hb hby at_37) rfl k) ?_
      show own_Go p e below s _ _ _ (T119.setTop (mkF m 38 #[.val (.int p1), .val (.int p2), .val (.int p3), .val (.int ((p1 &&& (2147483647 : Int32)) % (14 : Int32))), .val (.ref a_PRODUCE), .val (.int (own_lo ((p1 &&& (2147483647 : Int32)) % (14 : Int32)))), .val (.int (own_hi ((p1 &&& (2147483647 : Int32)) % (14 : Int32)))), .unset, .unset, .unset] [(.int (p2 &&& (15 : Int32))), (.int (own_lo ((p1 &&& (2147483647 : Int32)) % (14 : Int32))))]))
      refine own_st (fun _ k => XT.iconstV X119.here hx rfl (4 : Int32) (hb hby at_38) (by decide) k) ?_
      show own_Go p e below s _ _ _ (T119.setTop (mkF m 39 #[.val (.int p1), .val (.int p2), .val (.int p3), .val (.int ((p1 &&& (2147483647 : Int32)) % (14 : Int32))), .val (.ref a_PRODUCE), .val (.int (own_lo ((p1 &&& (2147483647 : Int32)) % (14 : Int32)))), .val (.int (own_hi ((p1 &&& (2147483647 : Int32)) % (14 : Int32)))), .unset, .unset, .unset] [(.int (4 : Int32)), (.int (p2 &&& (15 : Int32))), (.int (own_lo ((p1 &&& (2147483647 : Int32)) % (14 : Int32))))]))
      refine own_st (fun _ k => XS.isub X119.here hx rfl (hb hby at_39) rfl k) ?_
      show own_Go p e below s _ _ _ (T119.setTop (mkF m 40 #[.val (.int p1), .val (.int p2), .val (.int p3), .val (.int ((p1 &&& (2147483647 : Int32)) % (14 : Int32))), .val (.ref a_PRODUCE), .val (.int (own_lo ((p1 &&& (2147483647 : Int32)) % (14 : Int32)))), .val (.int (own_hi ((p1 &&& (2147483647 : Int32)) % (14 : Int32)))), .unset, .unset, .unset] [(.int ((p2 &&& (15 : Int32)) - (4 : Int32))), (.int (own_lo ((p1 &&& (2147483647 : Int32)) % (14 : Int32))))]))
      refine own_st (fun _ k => XS.iadd X119.here hx rfl (hb hby at_40) rfl k) ?_
      show own_Go p e below s _ _ _ (T119.setTop (mkF m 41 #[.val (.int p1), .val (.int p2), .val (.int p3), .val (.int ((p1 &&& (2147483647 : Int32)) % (14 : Int32))), .val (.ref a_PRODUCE), .val (.int (own_lo ((p1 &&& (2147483647 : Int32)) % (14 : Int32)))), .val (.int (own_hi ((p1 &&& (2147483647 : Int32)) % (14 : Int32)))), .unset, .unset, .unset] [(.int ((own_lo ((p1 &&& (2147483647 : Int32)) % (14 : Int32))) + ((p2 &&& (15 : Int32)) - (4 : Int32))))]))
      refine own_st (fun _ k => XT.i2s X119.here hx rfl (hb hby at_41) rfl k) ?_
      show own_Go p e below s _ _ _ (T119.setTop (mkF m 42 #[.val (.int p1), .val (.int p2), .val (.int p3), .val (.int ((p1 &&& (2147483647 : Int32)) % (14 : Int32))), .val (.ref a_PRODUCE), .val (.int (own_lo ((p1 &&& (2147483647 : Int32)) % (14 : Int32)))), .val (.int (own_hi ((p1 &&& (2147483647 : Int32)) % (14 : Int32)))), .unset, .unset, .unset] [(.int (((own_lo ((p1 &&& (2147483647 : Int32)) % (14 : Int32))) + ((p2 &&& (15 : Int32)) - (4 : Int32))).toInt16.toInt32))]))
      refine own_st (fun _ k => XS.istore X119.here hx rfl (hb hby at_42) rfl (l' := #[.val (.int p1), .val (.int p2), .val (.int p3), .val (.int ((p1 &&& (2147483647 : Int32)) % (14 : Int32))), .val (.ref a_PRODUCE), .val (.int (own_lo ((p1 &&& (2147483647 : Int32)) % (14 : Int32)))), .val (.int (own_hi ((p1 &&& (2147483647 : Int32)) % (14 : Int32)))), .val (.int (((own_lo ((p1 &&& (2147483647 : Int32)) % (14 : Int32))) + ((p2 &&& (15 : Int32)) - (4 : Int32))).toInt16.toInt32)), .unset, .unset]) rfl k) ?_
      show own_Go p e below s _ _ _ (T119.setTop (mkF m 44 #[.val (.int p1), .val (.int p2), .val (.int p3), .val (.int ((p1 &&& (2147483647 : Int32)) % (14 : Int32))), .val (.ref a_PRODUCE), .val (.int (own_lo ((p1 &&& (2147483647 : Int32)) % (14 : Int32)))), .val (.int (own_hi ((p1 &&& (2147483647 : Int32)) % (14 : Int32)))), .val (.int (((own_lo ((p1 &&& (2147483647 : Int32)) % (14 : Int32))) + ((p2 &&& (15 : Int32)) - (4 : Int32))).toInt16.toInt32)), .unset, .unset] []))
      refine own_st (fun _ k => XS.goto X119.here hx rfl (pc0 := 44) (pc' := 51) rfl (hb hby at_44) (by decide) (by decide) k) ?_
      show own_Go p e below s _ _ _ (T119.setTop (mkF m 51 #[.val (.int p1), .val (.int p2), .val (.int p3), .val (.int ((p1 &&& (2147483647 : Int32)) % (14 : Int32))), .val (.ref a_PRODUCE), .val (.int (own_lo ((p1 &&& (2147483647 : Int32)) % (14 : Int32)))), .val (.int (own_hi ((p1 &&& (2147483647 : Int32)) % (14 : Int32)))), .val (.int (((own_lo ((p1 &&& (2147483647 : Int32)) % (14 : Int32))) + ((p2 &&& (15 : Int32)) - (4 : Int32))).toInt16.toInt32)), .unset, .unset] []))
      refine own_st (fun _ k => XS.iload X119.here hx rfl (hb hby at_51) rfl k) ?_
      show own_Go p e below s _ _ _ (T119.setTop (mkF m 53 #[.val (.int p1), .val (.int p2), .val (.int p3), .val (.int ((p1 &&& (2147483647 : Int32)) % (14 : Int32))), .val (.ref a_PRODUCE), .val (.int (own_lo ((p1 &&& (2147483647 : Int32)) % (14 : Int32)))), .val (.int (own_hi ((p1 &&& (2147483647 : Int32)) % (14 : Int32)))), .val (.int (((own_lo ((p1 &&& (2147483647 : Int32)) % (14 : Int32))) + ((p2 &&& (15 : Int32)) - (4 : Int32))).toInt16.toInt32)), .unset, .unset] [(.int (((own_lo ((p1 &&& (2147483647 : Int32)) % (14 : Int32))) + ((p2 &&& (15 : Int32)) - (4 : Int32))).toInt16.toInt32))]))
      refine own_st (fun _ k => XS.istore X119.here hx rfl (hb hby at_53) rfl (l' := #[.val (.int p1), .val (.int p2), .val (.int p3), .val (.int ((p1 &&& (2147483647 : Int32)) % (14 : Int32))), .val (.ref a_PRODUCE), .val (.int (own_lo ((p1 &&& (2147483647 : Int32)) % (14 : Int32)))), .val (.int (own_hi ((p1 &&& (2147483647 : Int32)) % (14 : Int32)))), .val (.int (((own_lo ((p1 &&& (2147483647 : Int32)) % (14 : Int32))) + ((p2 &&& (15 : Int32)) - (4 : Int32))).toInt16.toInt32)), .val (.int (((own_lo ((p1 &&& (2147483647 : Int32)) % (14 : Int32))) + ((p2 &&& (15 : Int32)) - (4 : Int32))).toInt16.toInt32)), .unset]) rfl k) ?_
      show own_Go p e below s _ _ _ (T119.setTop (mkF m 55 #[.val (.int p1), .val (.int p2), .val (.int p3), .val (.int ((p1 &&& (2147483647 : Int32)) % (14 : Int32))), .val (.ref a_PRODUCE), .val (.int (own_lo ((p1 &&& (2147483647 : Int32)) % (14 : Int32)))), .val (.int (own_hi ((p1 &&& (2147483647 : Int32)) % (14 : Int32)))), .val (.int (((own_lo ((p1 &&& (2147483647 : Int32)) % (14 : Int32))) + ((p2 &&& (15 : Int32)) - (4 : Int32))).toInt16.toInt32)), .val (.int (((own_lo ((p1 &&& (2147483647 : Int32)) % (14 : Int32))) + ((p2 &&& (15 : Int32)) - (4 : Int32))).toInt16.toInt32)), .unset] []))
      refine own_st (fun _ k => XS.iloadN X119.here hx rfl (hb hby at_55) rfl k) ?_
      show own_Go p e below s _ _ _ (T119.setTop (mkF m 56 #[.val (.int p1), .val (.int p2), .val (.int p3), .val (.int ((p1 &&& (2147483647 : Int32)) % (14 : Int32))), .val (.ref a_PRODUCE), .val (.int (own_lo ((p1 &&& (2147483647 : Int32)) % (14 : Int32)))), .val (.int (own_hi ((p1 &&& (2147483647 : Int32)) % (14 : Int32)))), .val (.int (((own_lo ((p1 &&& (2147483647 : Int32)) % (14 : Int32))) + ((p2 &&& (15 : Int32)) - (4 : Int32))).toInt16.toInt32)), .val (.int (((own_lo ((p1 &&& (2147483647 : Int32)) % (14 : Int32))) + ((p2 &&& (15 : Int32)) - (4 : Int32))).toInt16.toInt32)), .unset] [(.int ((p1 &&& (2147483647 : Int32)) % (14 : Int32)))]))
      refine own_st (fun _ k => XS.ifYes X119.here hx rfl (pc0 := 56) (pc' := 77) rfl (hb hby at_56) rfl (XT.i0_eq_t hz) (by decide) (by decide) k) ?_
      show own_Go p e below s _ _ _ (T119.setTop (mkF m 77 #[.val (.int p1), .val (.int p2), .val (.int p3), .val (.int ((p1 &&& (2147483647 : Int32)) % (14 : Int32))), .val (.ref a_PRODUCE), .val (.int (own_lo ((p1 &&& (2147483647 : Int32)) % (14 : Int32)))), .val (.int (own_hi ((p1 &&& (2147483647 : Int32)) % (14 : Int32)))), .val (.int (((own_lo ((p1 &&& (2147483647 : Int32)) % (14 : Int32))) + ((p2 &&& (15 : Int32)) - (4 : Int32))).toInt16.toInt32)), .val (.int (((own_lo ((p1 &&& (2147483647 : Int32)) % (14 : Int32))) + ((p2 &&& (15 : Int32)) - (4 : Int32))).toInt16.toInt32)), .unset] []))
      refine own_st (fun _ k => XT.iconstV X119.here hx rfl (0 : Int32) (hb hby at_77) (by decide) k) ?_
      show own_Go p e below s _ _ _ (T119.setTop (mkF m 78 #[.val (.int p1), .val (.int p2), .val (.int p3), .val (.int ((p1 &&& (2147483647 : Int32)) % (14 : Int32))), .val (.ref a_PRODUCE), .val (.int (own_lo ((p1 &&& (2147483647 : Int32)) % (14 : Int32)))), .val (.int (own_hi ((p1 &&& (2147483647 : Int32)) % (14 : Int32)))), .val (.int (((own_lo ((p1 &&& (2147483647 : Int32)) % (14 : Int32))) + ((p2 &&& (15 : Int32)) - (4 : Int32))).toInt16.toInt32)), .val (.int (((own_lo ((p1 &&& (2147483647 : Int32)) % (14 : Int32))) + ((p2 &&& (15 : Int32)) - (4 : Int32))).toInt16.toInt32)), .unset] [(.int (0 : Int32))]))
      refine own_st (fun _ k => XS.istore X119.here hx rfl (hb hby at_78) rfl (l' := #[.val (.int p1), .val (.int p2), .val (.int p3), .val (.int ((p1 &&& (2147483647 : Int32)) % (14 : Int32))), .val (.ref a_PRODUCE), .val (.int (own_lo ((p1 &&& (2147483647 : Int32)) % (14 : Int32)))), .val (.int (own_hi ((p1 &&& (2147483647 : Int32)) % (14 : Int32)))), .val (.int (((own_lo ((p1 &&& (2147483647 : Int32)) % (14 : Int32))) + ((p2 &&& (15 : Int32)) - (4 : Int32))).toInt16.toInt32)), .val (.int (((own_lo ((p1 &&& (2147483647 : Int32)) % (14 : Int32))) + ((p2 &&& (15 : Int32)) - (4 : Int32))).toInt16.toInt32)), .val (.int (0 : Int32))]) rfl k) ?_
      show own_Go p e below s _ _ _ (T119.setTop (mkF m 80 #[.val (.int p1), .val (.int p2), .val (.int p3), .val (.int ((p1 &&& (2147483647 : Int32)) % (14 : Int32))), .val (.ref a_PRODUCE), .val (.int (own_lo ((p1 &&& (2147483647 : Int32)) % (14 : Int32)))), .val (.int (own_hi ((p1 &&& (2147483647 : Int32)) % (14 : Int32)))), .val (.int (((own_lo ((p1 &&& (2147483647 : Int32)) % (14 : Int32))) + ((p2 &&& (15 : Int32)) - (4 : Int32))).toInt16.toInt32)), .val (.int (((own_lo ((p1 &&& (2147483647 : Int32)) % (14 : Int32))) + ((p2 &&& (15 : Int32)) - (4 : Int32))).toInt16.toInt32)), .val (.int (0 : Int32))] []))
      refine own_st (fun _ k => XS.aload X119.here hx rfl (hb hby at_80) rfl rfl k) ?_
      show own_Go p e below s _ _ _ (T119.setTop (mkF m 82 #[.val (.int p1), .val (.int p2), .val (.int p3), .val (.int ((p1 &&& (2147483647 : Int32)) % (14 : Int32))), .val (.ref a_PRODUCE), .val (.int (own_lo ((p1 &&& (2147483647 : Int32)) % (14 : Int32)))), .val (.int (own_hi ((p1 &&& (2147483647 : Int32)) % (14 : Int32)))), .val (.int (((own_lo ((p1 &&& (2147483647 : Int32)) % (14 : Int32))) + ((p2 &&& (15 : Int32)) - (4 : Int32))).toInt16.toInt32)), .val (.int (((own_lo ((p1 &&& (2147483647 : Int32)) % (14 : Int32))) + ((p2 &&& (15 : Int32)) - (4 : Int32))).toInt16.toInt32)), .val (.int (0 : Int32))] [(.ref a_PRODUCE)]))
      refine own_st (fun _ k => XS.iload X119.here hx rfl (hb hby at_82) rfl k) ?_
      show own_Go p e below s _ _ _ (T119.setTop (mkF m 84 #[.val (.int p1), .val (.int p2), .val (.int p3), .val (.int ((p1 &&& (2147483647 : Int32)) % (14 : Int32))), .val (.ref a_PRODUCE), .val (.int (own_lo ((p1 &&& (2147483647 : Int32)) % (14 : Int32)))), .val (.int (own_hi ((p1 &&& (2147483647 : Int32)) % (14 : Int32)))), .val (.int (((own_lo ((p1 &&& (2147483647 : Int32)) % (14 : Int32))) + ((p2 &&& (15 : Int32)) - (4 : Int32))).toInt16.toInt32)), .val (.int (((own_lo ((p1 &&& (2147483647 : Int32)) % (14 : Int32))) + ((p2 &&& (15 : Int32)) - (4 : Int32))).toInt16.toInt32)), .val (.int (0 : Int32))] [(.int (((own_lo ((p1 &&& (2147483647 : Int32)) % (14 : Int32))) + ((p2 &&& (15 : Int32)) - (4 : Int32))).toInt16.toInt32)), (.ref a_PRODUCE)]))
      have F127 : Exa Z h0 a_PRODUCE "com/example/indri/indri/wire/Api" := Ex_a_PRODUCE.ext O0.2
      have F128 : Fld Z h0 a_PRODUCE "com/example/indri/indri/wire/Api" "notServedReason" "Ljava/lang/String;" (.ref f_PRODUCE_notServedReason) := F_PRODUCE_notServedReason.ext O0.2
      obtain ⟨cq126, kq126, q126a, q126b, q126c⟩ := isOf hZ eh119 F127
      obtain ⟨_, _, ⟨T126, L126, k126, n126⟩, -, X126, ⟨Lc126, hQ126, l126, y126, z126⟩, st126⟩ := X119.virtualBack hx (y := (⟨"com/example/indri/indri/wire/Api", "serves", "(S)Z"⟩ : MethodName)) (z := (⟨"com/example/indri/indri/wire/Api", "serves", "(S)Z"⟩ : MethodName)) hown (mvT hZ (hw _ (List.mem_of_getElem? (i := 14) rfl))) (mvT hZ (hw _ (List.mem_of_getElem? (i := 15) rfl))) (notFace_of_selects (args := #[]) (mvT hZ (hw _ (List.mem_of_getElem? (i := 17) rfl)))) (mvT hZ (hw _ (List.mem_of_getElem? (i := 17) rfl))) (mvT hZ (hw _ (List.mem_of_getElem? (i := 16) rfl))) (by decide) (backOf (W := 0) (own_rm_serves0 l Z a0 hw [] a_PRODUCE (((own_lo ((p1 &&& (2147483647 : Int32)) % (14 : Int32))) + ((p2 &&& (15 : Int32)) - (4 : Int32))).toInt16.toInt32) f_PRODUCE_notServedReason h0 n0 Z0 F128) hZ (hw _ (List.mem_of_getElem? (i := 18) rfl)) (hw _ (List.mem_of_getElem? (i := 6) rfl)) (by decide) (by decide)) q126a q126c (g := (mkF m 84 #[.val (.int p1), .val (.int p2), .val (.int p3), .val (.int ((p1 &&& (2147483647 : Int32)) % (14 : Int32))), .val (.ref a_PRODUCE), .val (.int (own_lo ((p1 &&& (2147483647 : Int32)) % (14 : Int32)))), .val (.int (own_hi ((p1 &&& (2147483647 : Int32)) % (14 : Int32)))), .val (.int (((own_lo ((p1 &&& (2147483647 : Int32)) % (14 : Int32))) + ((p2 &&& (15 : Int32)) - (4 : Int32))).toInt16.toInt32)), .val (.int (((own_lo ((p1 &&& (2147483647 : Int32)) % (14 : Int32))) + ((p2 &&& (15 : Int32)) - (4 : Int32))).toInt16.toInt32)), .val (.int (0 : Int32))] [(.int (((own_lo ((p1 &&& (2147483647 : Int32)) % (14 : Int32))) + ((p2 &&& (15 : Int32)) - (4 : Int32))).toInt16.toInt32)), (.ref a_PRODUCE)])) rfl (by rw [hml]; rfl) (Steps.refl _) (argsL := [(.int (((own_lo ((p1 &&& (2147483647 : Int32)) % (14 : Int32))) + ((p2 &&& (15 : Int32)) - (4 : Int32))).toInt16.toInt32))]) (rest := []) (lenOf own_pd2 rfl) rfl (by show 2 * 0 + _ ≤ _; exact Nat.le_of_eq rfl) (hb hby at_84) (fun _ _ => ⟨rfl, eh119, (by decide : 0 + 0 ≤ _), (by decide : 0 + 0 ≤ _)⟩)
      dsimp only [Pt.U, Pt.locs, Pt.cells, Pt.slots] at X126 l126 y126 z126 st126 hQ126
      subst l126 y126 z126
      obtain ⟨N126q, rfl, eh126⟩ := hQ126
      have N129 := Fr.app N120 N126q
      refine own_tr st126 ?_
      show own_Go p e below s _ _ _ (T126.setTop (mkF m 87 #[.val (.int p1), .val (.int p2), .val (.int p3), .val (.int ((p1 &&& (2147483647 : Int32)) % (14 : Int32))), .val (.ref a_PRODUCE), .val (.int (own_lo ((p1 &&& (2147483647 : Int32)) % (14 : Int32)))), .val (.int (own_hi ((p1 &&& (2147483647 : Int32)) % (14 : Int32)))), .val (.int (((own_lo ((p1 &&& (2147483647 : Int32)) % (14 : Int32))) + ((p2 &&& (15 : Int32)) - (4 : Int32))).toInt16.toInt32)), .val (.int (((own_lo ((p1 &&& (2147483647 : Int32)) % (14 : Int32))) + ((p2 &&& (15 : Int32)) - (4 : Int32))).toInt16.toInt32)), .val (.int (0 : Int32))] [(.int (0 : Int32))]))
      refine own_st (fun _ k => XS.iload X126.here hx rfl (hb hby at_87) rfl k) ?_
      show own_Go p e below s _ _ _ (T126.setTop (mkF m 89 #[.val (.int p1), .val (.int p2), .val (.int p3), .val (.int ((p1 &&& (2147483647 : Int32)) % (14 : Int32))), .val (.ref a_PRODUCE), .val (.int (own_lo ((p1 &&& (2147483647 : Int32)) % (14 : Int32)))), .val (.int (own_hi ((p1 &&& (2147483647 : Int32)) % (14 : Int32)))), .val (.int (((own_lo ((p1 &&& (2147483647 : Int32)) % (14 : Int32))) + ((p2 &&& (15 : Int32)) - (4 : Int32))).toInt16.toInt32)), .val (.int (((own_lo ((p1 &&& (2147483647 : Int32)) % (14 : Int32))) + ((p2 &&& (15 : Int32)) - (4 : Int32))).toInt16.toInt32)), .val (.int (0 : Int32))] [(.int (0 : Int32)), (.int (0 : Int32))]))
      refine own_st (fun _ k => XS.icmpNo X126.here hx rfl (hb hby at_89) rfl (XT.ii_ne_f rfl) k) ?_
      show own_Go p e below s _ _ _ (T126.setTop (mkF m 92 #[.val (.int p1), .val (.int p2), .val (.int p3), .val (.int ((p1 &&& (2147483647 : Int32)) % (14 : Int32))), .val (.ref a_PRODUCE), .val (.int (own_lo ((p1 &&& (2147483647 : Int32)) % (14 : Int32)))), .val (.int (own_hi ((p1 &&& (2147483647 : Int32)) % (14 : Int32)))), .val (.int (((own_lo ((p1 &&& (2147483647 : Int32)) % (14 : Int32))) + ((p2 &&& (15 : Int32)) - (4 : Int32))).toInt16.toInt32)), .val (.int (((own_lo ((p1 &&& (2147483647 : Int32)) % (14 : Int32))) + ((p2 &&& (15 : Int32)) - (4 : Int32))).toInt16.toInt32)), .val (.int (0 : Int32))] []))
      refine own_st (fun _ k => XT.iconstV X126.here hx rfl (1 : Int32) (hb hby at_92) (by decide) k) ?_
      show own_Go p e below s _ _ _ (T126.setTop (mkF m 93 #[.val (.int p1), .val (.int p2), .val (.int p3), .val (.int ((p1 &&& (2147483647 : Int32)) % (14 : Int32))), .val (.ref a_PRODUCE), .val (.int (own_lo ((p1 &&& (2147483647 : Int32)) % (14 : Int32)))), .val (.int (own_hi ((p1 &&& (2147483647 : Int32)) % (14 : Int32)))), .val (.int (((own_lo ((p1 &&& (2147483647 : Int32)) % (14 : Int32))) + ((p2 &&& (15 : Int32)) - (4 : Int32))).toInt16.toInt32)), .val (.int (((own_lo ((p1 &&& (2147483647 : Int32)) % (14 : Int32))) + ((p2 &&& (15 : Int32)) - (4 : Int32))).toInt16.toInt32)), .val (.int (0 : Int32))] [(.int (1 : Int32))]))
      refine own_st (fun _ k => XS.goto X126.here hx rfl (pc0 := 93) (pc' := 97) rfl (hb hby at_93) (by decide) (by decide) k) ?_
      show own_Go p e below s _ _ _ (T126.setTop (mkF m 97 #[.val (.int p1), .val (.int p2), .val (.int p3), .val (.int ((p1 &&& (2147483647 : Int32)) % (14 : Int32))), .val (.ref a_PRODUCE), .val (.int (own_lo ((p1 &&& (2147483647 : Int32)) % (14 : Int32)))), .val (.int (own_hi ((p1 &&& (2147483647 : Int32)) % (14 : Int32)))), .val (.int (((own_lo ((p1 &&& (2147483647 : Int32)) % (14 : Int32))) + ((p2 &&& (15 : Int32)) - (4 : Int32))).toInt16.toInt32)), .val (.int (((own_lo ((p1 &&& (2147483647 : Int32)) % (14 : Int32))) + ((p2 &&& (15 : Int32)) - (4 : Int32))).toInt16.toInt32)), .val (.int (0 : Int32))] [(.int (1 : Int32))]))
      refine own_retN X126 hx hlk Bd.returns (t := .boolean) (z' := (1 : Int32)) (by simp) (by decide) (hb hby at_97) (by decide) (by decide) ?_
      rw [eh126]
      exact ⟨N129, rfl⟩
  · skip
    show own_Go p e below s _ _ _ (s₁.setTop (mkF m 8 #[.val (.int p1), .val (.int p2), .val (.int p3), .val (.int ((p1 &&& (2147483647 : Int32)) % (14 : Int32))), .unset, .unset, .unset, .unset, .unset, .unset] []))
    refine own_st (fun _ k => XS.iloadN X0.here hx rfl (hb hby at_8) rfl k) ?_
    show own_Go p e below s _ _ _ (s₁.setTop (mkF m 9 #[.val (.int p1), .val (.int p2), .val (.int p3), .val (.int ((p1 &&& (2147483647 : Int32)) % (14 : Int32))), .unset, .unset, .unset, .unset, .unset, .unset] [(.int ((p1 &&& (2147483647 : Int32)) % (14 : Int32)))]))
    obtain ⟨_, _, ⟨T130, L130, k130, n130⟩, -, X130, ⟨Lc130, hQ130, l130, y130, z130⟩, st130⟩ := Jvm.LawKit.callS X0 hx (y := (⟨"com/example/indri/indri/wire/ApiServesPinLaw", "pick", "(I)Lcom/example/indri/indri/wire/Api;"⟩ : MethodName)) hown (mvT hZ (hw _ (List.mem_of_getElem? (i := 1) rfl))) (mvT hZ (hw _ (List.mem_of_getElem? (i := 2) rfl))) (mvT hZ (hw _ (List.mem_of_getElem? (i := 3) rfl))) (mvT hZ (hw _ (List.mem_of_getElem? (i := 4) rfl))) (by decide) (backOf (W := 0) (own_rm_pickN l Z a0 hw [] ((p1 &&& (2147483647 : Int32)) % (14 : Int32)) a_PRODUCE f_PRODUCE_notServedReason a_FETCH a_SYNC_GROUP a_OFFSET_FETCH a_HEARTBEAT a_LIST_OFFSETS a_METADATA a_DESCRIBE_GROUPS a_LEAVE_GROUP a_API_VERSIONS a_OFFSET_COMMIT a_JOIN_GROUP a_FIND_COORDINATOR a_LIST_GROUPS h0 n0 Z0 O0 hz Ex_a_PRODUCE S_a_PRODUCE Ex_f_PRODUCE_notServedReason F_PRODUCE_notServedReason Ex_a_FETCH S_a_FETCH F_FETCH_notServedReason F_FETCH_minVersion F_FETCH_maxVersion Ex_a_SYNC_GROUP S_a_SYNC_GROUP F_SYNC_GROUP_notServedReason F_SYNC_GROUP_minVersion F_SYNC_GROUP_maxVersion Ex_a_OFFSET_FETCH S_a_OFFSET_FETCH F_OFFSET_FETCH_notServedReason F_OFFSET_FETCH_minVersion Ex_a_HEARTBEAT S_a_HEARTBEAT F_HEARTBEAT_notServedReason F_HEARTBEAT_minVersion Ex_a_LIST_OFFSETS S_a_LIST_OFFSETS F_LIST_OFFSETS_notServedReason F_LIST_OFFSETS_minVersion F_LIST_OFFSETS_maxVersion F_HEARTBEAT_maxVersion Ex_a_METADATA S_a_METADATA F_METADATA_notServedReason F_METADATA_minVersion F_METADATA_maxVersion Ex_a_DESCRIBE_GROUPS S_a_DESCRIBE_GROUPS F_DESCRIBE_GROUPS_notServedReason F_DESCRIBE_GROUPS_minVersion F_DESCRIBE_GROUPS_maxVersion Ex_a_LEAVE_GROUP S_a_LEAVE_GROUP F_LEAVE_GROUP_notServedReason F_LEAVE_GROUP_minVersion F_LEAVE_GROUP_maxVersion Ex_a_API_VERSIONS S_a_API_VERSIONS F_API_VERSIONS_notServedReason F_API_VERSIONS_minVersion F_API_VERSIONS_maxVersion F_OFFSET_FETCH_maxVersion Ex_a_OFFSET_COMMIT S_a_OFFSET_COMMIT F_OFFSET_COMMIT_notServedReason F_OFFSET_COMMIT_minVersion F_OFFSET_COMMIT_maxVersion Ex_a_JOIN_GROUP S_a_JOIN_GROUP F_JOIN_GROUP_notServedReason F_JOIN_GROUP_minVersion F_JOIN_GROUP_maxVersion Ex_a_FIND_COORDINATOR S_a_FIND_COORDINATOR F_FIND_COORDINATOR_notServedReason F_FIND_COORDINATOR_minVersion F_FIND_COORDINATOR_maxVersion Ex_a_LIST_GROUPS S_a_LIST_GROUPS F_LIST_GROUPS_notServedReason F_LIST_GROUPS_minVersion F_LIST_GROUPS_maxVersion F_PRODUCE_minVersion F_PRODUCE_maxVersion) hZ (hw _ (List.mem_of_getElem? (i := 4) rfl)) (hw _ (List.mem_of_getElem? (i := 3) rfl)) (by decide) (by decide)) (g := (mkF m 9 #[.val (.int p1), .val (.int p2), .val (.int p3), .val (.int ((p1 &&& (2147483647 : Int32)) % (14 : Int32))), .unset, .unset, .unset, .unset, .unset, .unset] [(.int ((p1 &&& (2147483647 : Int32)) % (14 : Int32)))])) rfl (by rw [hml]; rfl) (argsL := [(.int ((p1 &&& (2147483647 : Int32)) % (14 : Int32)))]) (rest := []) (lenOf own_pd0 rfl) rfl (by show 2 * 0 + _ ≤ _; exact Nat.le_of_eq rfl) (hb hby at_9) (fun _ _ => ⟨rfl, e0, (by decide : 0 + 0 ≤ _), (by decide : 0 + 0 ≤ _)⟩)
    dsimp only [Pt.U, Pt.locs, Pt.cells, Pt.slots] at X130 l130 y130 z130 st130 hQ130
    subst l130 y130 z130
    obtain ⟨x131, N130q, rfl, eh130, q132, q133, q134, q135⟩ := hQ130
    have N136 := Fr.app N0 N130q
    refine own_st st130 ?_
    rw [eh130] at q132 q133 q134 q135
    show own_Go p e below s _ _ _ (T130.setTop (mkF m 12 #[.val (.int p1), .val (.int p2), .val (.int p3), .val (.int ((p1 &&& (2147483647 : Int32)) % (14 : Int32))), .unset, .unset, .unset, .unset, .unset, .unset] [(.ref x131)]))
    refine own_st (fun _ k => XS.astore X130.here hx rfl (hb hby at_12) rfl rfl (l' := #[.val (.int p1), .val (.int p2), .val (.int p3), .val (.int ((p1 &&& (2147483647 : Int32)) % (14 : Int32))), .val (.ref x131), .unset, .unset, .unset, .unset, .unset]) rfl k) ?_
    show own_Go p e below s _ _ _ (T130.setTop (mkF m 14 #[.val (.int p1), .val (.int p2), .val (.int p3), .val (.int ((p1 &&& (2147483647 : Int32)) % (14 : Int32))), .val (.ref x131), .unset, .unset, .unset, .unset, .unset] []))
    refine own_st (fun _ k => XS.iloadN X130.here hx rfl (hb hby at_14) rfl k) ?_
    show own_Go p e below s _ _ _ (T130.setTop (mkF m 15 #[.val (.int p1), .val (.int p2), .val (.int p3), .val (.int ((p1 &&& (2147483647 : Int32)) % (14 : Int32))), .val (.ref x131), .unset, .unset, .unset, .unset, .unset] [(.int ((p1 &&& (2147483647 : Int32)) % (14 : Int32)))]))
    obtain ⟨_, _, ⟨T137, L137, k137, n137⟩, -, X137, ⟨Lc137, hQ137, l137, y137, z137⟩, st137⟩ := Jvm.LawKit.callS X130 hx (y := (⟨"com/example/indri/indri/wire/ApiServesPinLaw", "lo", "(I)I"⟩ : MethodName)) hown (mvT hZ (hw _ (List.mem_of_getElem? (i := 8) rfl))) (mvT hZ (hw _ (List.mem_of_getElem? (i := 9) rfl))) (mvT hZ (hw _ (List.mem_of_getElem? (i := 3) rfl))) (mvT hZ (hw _ (List.mem_of_getElem? (i := 10) rfl))) (by decide) (backOf (W := 0) (own_rm_lo l Z a0 hw [] ((p1 &&& (2147483647 : Int32)) % (14 : Int32)) h0 n0 Z0 ) hZ (hw _ (List.mem_of_getElem? (i := 10) rfl)) (hw _ (List.mem_of_getElem? (i := 3) rfl)) (by decide) (by decide)) (g := (mkF m 15 #[.val (.int p1), .val (.int p2), .val (.int p3), .val (.int ((p1 &&& (2147483647 : Int32)) % (14 : Int32))), .val (.ref x131), .unset, .unset, .unset, .unset, .unset] [(.int ((p1 &&& (2147483647 : Int32)) % (14 : Int32)))])) rfl (by rw [hml]; rfl) (argsL := [(.int ((p1 &&& (2147483647 : Int32)) % (14 : Int32)))]) (rest := []) (lenOf own_pd1 rfl) rfl (by show 2 * 0 + _ ≤ _; exact Nat.le_of_eq rfl) (hb hby at_15) (fun _ _ => ⟨rfl, eh130, (by decide : 0 + 0 ≤ _), (by decide : 0 + 0 ≤ _)⟩)
    dsimp only [Pt.U, Pt.locs, Pt.cells, Pt.slots] at X137 l137 y137 z137 st137 hQ137
    subst l137 y137 z137
    obtain ⟨N137q, rfl, eh137⟩ := hQ137
    have N138 := Fr.app N136 N137q
    refine own_st st137 ?_
    show own_Go p e below s _ _ _ (T137.setTop (mkF m 18 #[.val (.int p1), .val (.int p2), .val (.int p3), .val (.int ((p1 &&& (2147483647 : Int32)) % (14 : Int32))), .val (.ref x131), .unset, .unset, .unset, .unset, .unset] [(.int (own_lo ((p1 &&& (2147483647 : Int32)) % (14 : Int32))))]))
    refine own_st (fun _ k => XS.istore X137.here hx rfl (hb hby at_18) rfl (l' := #[.val (.int p1), .val (.int p2), .val (.int p3), .val (.int ((p1 &&& (2147483647 : Int32)) % (14 : Int32))), .val (.ref x131), .val (.int (own_lo ((p1 &&& (2147483647 : Int32)) % (14 : Int32)))), .unset, .unset, .unset, .unset]) rfl k) ?_
    show own_Go p e below s _ _ _ (T137.setTop (mkF m 20 #[.val (.int p1), .val (.int p2), .val (.int p3), .val (.int ((p1 &&& (2147483647 : Int32)) % (14 : Int32))), .val (.ref x131), .val (.int (own_lo ((p1 &&& (2147483647 : Int32)) % (14 : Int32)))), .unset, .unset, .unset, .unset] []))
    refine own_st (fun _ k => XS.iloadN X137.here hx rfl (hb hby at_20) rfl k) ?_
    show own_Go p e below s _ _ _ (T137.setTop (mkF m 21 #[.val (.int p1), .val (.int p2), .val (.int p3), .val (.int ((p1 &&& (2147483647 : Int32)) % (14 : Int32))), .val (.ref x131), .val (.int (own_lo ((p1 &&& (2147483647 : Int32)) % (14 : Int32)))), .unset, .unset, .unset, .unset] [(.int ((p1 &&& (2147483647 : Int32)) % (14 : Int32)))]))
    obtain ⟨_, _, ⟨T139, L139, k139, n139⟩, -, X139, ⟨Lc139, hQ139, l139, y139, z139⟩, st139⟩ := Jvm.LawKit.callS X137 hx (y := (⟨"com/example/indri/indri/wire/ApiServesPinLaw", "hi", "(I)I"⟩ : MethodName)) hown (mvT hZ (hw _ (List.mem_of_getElem? (i := 11) rfl))) (mvT hZ (hw _ (List.mem_of_getElem? (i := 12) rfl))) (mvT hZ (hw _ (List.mem_of_getElem? (i := 3) rfl))) (mvT hZ (hw _ (List.mem_of_getElem? (i := 13) rfl))) (by decide) (backOf (W := 0) (own_rm_hi l Z a0 hw [] ((p1 &&& (2147483647 : Int32)) % (14 : Int32)) h0 n0 Z0 ) hZ (hw _ (List.mem_of_getElem? (i := 13) rfl)) (hw _ (List.mem_of_getElem? (i := 3) rfl)) (by decide) (by decide)) (g := (mkF m 21 #[.val (.int p1), .val (.int p2), .val (.int p3), .val (.int ((p1 &&& (2147483647 : Int32)) % (14 : Int32))), .val (.ref x131), .val (.int (own_lo ((p1 &&& (2147483647 : Int32)) % (14 : Int32)))), .unset, .unset, .unset, .unset] [(.int ((p1 &&& (2147483647 : Int32)) % (14 : Int32)))])) rfl (by rw [hml]; rfl) (argsL := [(.int ((p1 &&& (2147483647 : Int32)) % (14 : Int32)))]) (rest := []) (lenOf own_pd1 rfl) rfl (by show 2 * 0 + _ ≤ _; exact Nat.le_of_eq rfl) (hb hby at_21) (fun _ _ => ⟨rfl, eh137, (by decide : 0 + 0 ≤ _), (by decide : 0 + 0 ≤ _)⟩)
    dsimp only [Pt.U, Pt.locs, Pt.cells, Pt.slots] at X139 l139 y139 z139 st139 hQ139
    subst l139 y139 z139
    obtain ⟨N139q, rfl, eh139⟩ := hQ139
    have N140 := Fr.app N138 N139q
    refine own_st st139 ?_
    show own_Go p e below s _ _ _ (T139.setTop (mkF m 24 #[.val (.int p1), .val (.int p2), .val (.int p3), .val (.int ((p1 &&& (2147483647 : Int32)) % (14 : Int32))), .val (.ref x131), .val (.int (own_lo ((p1 &&& (2147483647 : Int32)) % (14 : Int32)))), .unset, .unset, .unset, .unset] [(.int (own_hi ((p1 &&& (2147483647 : Int32)) % (14 : Int32))))]))
    refine own_st (fun _ k => XS.istore X139.here hx rfl (hb hby at_24) rfl (l' := #[.val (.int p1), .val (.int p2), .val (.int p3), .val (.int ((p1 &&& (2147483647 : Int32)) % (14 : Int32))), .val (.ref x131), .val (.int (own_lo ((p1 &&& (2147483647 : Int32)) % (14 : Int32)))), .val (.int (own_hi ((p1 &&& (2147483647 : Int32)) % (14 : Int32)))), .unset, .unset, .unset]) rfl k) ?_
    show own_Go p e below s _ _ _ (T139.setTop (mkF m 26 #[.val (.int p1), .val (.int p2), .val (.int p3), .val (.int ((p1 &&& (2147483647 : Int32)) % (14 : Int32))), .val (.ref x131), .val (.int (own_lo ((p1 &&& (2147483647 : Int32)) % (14 : Int32)))), .val (.int (own_hi ((p1 &&& (2147483647 : Int32)) % (14 : Int32)))), .unset, .unset, .unset] []))
    refine own_st (fun _ k => XS.iloadN X139.here hx rfl (hb hby at_26) rfl k) ?_
    show own_Go p e below s _ _ _ (T139.setTop (mkF m 27 #[.val (.int p1), .val (.int p2), .val (.int p3), .val (.int ((p1 &&& (2147483647 : Int32)) % (14 : Int32))), .val (.ref x131), .val (.int (own_lo ((p1 &&& (2147483647 : Int32)) % (14 : Int32)))), .val (.int (own_hi ((p1 &&& (2147483647 : Int32)) % (14 : Int32)))), .unset, .unset, .unset] [(.int p3)]))
    refine own_st (fun _ k => XT.iconstV X139.here hx rfl (1 : Int32) (hb hby at_27) (by decide) k) ?_
    show own_Go p e below s _ _ _ (T139.setTop (mkF m 28 #[.val (.int p1), .val (.int p2), .val (.int p3), .val (.int ((p1 &&& (2147483647 : Int32)) % (14 : Int32))), .val (.ref x131), .val (.int (own_lo ((p1 &&& (2147483647 : Int32)) % (14 : Int32)))), .val (.int (own_hi ((p1 &&& (2147483647 : Int32)) % (14 : Int32)))), .unset, .unset, .unset] [(.int (1 : Int32)), (.int p3)]))
    refine own_st (fun _ k => XS.iand X139.here hx rfl (hb hby at_28) rfl k) ?_
    show own_Go p e below s _ _ _ (T139.setTop (mkF m 29 #[.val (.int p1), .val (.int p2), .val (.int p3), .val (.int ((p1 &&& (2147483647 : Int32)) % (14 : Int32))), .val (.ref x131), .val (.int (own_lo ((p1 &&& (2147483647 : Int32)) % (14 : Int32)))), .val (.int (own_hi ((p1 &&& (2147483647 : Int32)) % (14 : Int32)))), .unset, .unset, .unset] [(.int (p3 &&& (1 : Int32)))]))
    by_cases hc141 : (p3 &&& (1 : Int32)) = 0
    · refine own_st (fun _ k => XS.ifYes X139.here hx rfl (pc0 := 29) (pc' := 47) rfl (hb hby at_29) rfl (XT.i0_eq_t hc141) (by decide) (by decide) k) ?_
      show own_Go p e below s _ _ _ (T139.setTop (mkF m 47 #[.val (.int p1), .val (.int p2), .val (.int p3), .val (.int ((p1 &&& (2147483647 : Int32)) % (14 : Int32))), .val (.ref x131), .val (.int (own_lo ((p1 &&& (2147483647 : Int32)) % (14 : Int32)))), .val (.int (own_hi ((p1 &&& (2147483647 : Int32)) % (14 : Int32)))), .unset, .unset, .unset] []))
      refine own_st (fun _ k => XS.iloadN X139.here hx rfl (hb hby at_47) rfl k) ?_
      show own_Go p e below s _ _ _ (T139.setTop (mkF m 48 #[.val (.int p1), .val (.int p2), .val (.int p3), .val (.int ((p1 &&& (2147483647 : Int32)) % (14 : Int32))), .val (.ref x131), .val (.int (own_lo ((p1 &&& (2147483647 : Int32)) % (14 : Int32)))), .val (.int (own_hi ((p1 &&& (2147483647 : Int32)) % (14 : Int32)))), .unset, .unset, .unset] [(.int p2)]))
      refine own_st (fun _ k => XT.i2s X139.here hx rfl (hb hby at_48) rfl k) ?_
      show own_Go p e below s _ _ _ (T139.setTop (mkF m 49 #[.val (.int p1), .val (.int p2), .val (.int p3), .val (.int ((p1 &&& (2147483647 : Int32)) % (14 : Int32))), .val (.ref x131), .val (.int (own_lo ((p1 &&& (2147483647 : Int32)) % (14 : Int32)))), .val (.int (own_hi ((p1 &&& (2147483647 : Int32)) % (14 : Int32)))), .unset, .unset, .unset] [(.int (p2.toInt16.toInt32))]))
      refine own_st (fun _ k => XS.istore X139.here hx rfl (hb hby at_49) rfl (l' := #[.val (.int p1), .val (.int p2), .val (.int p3), .val (.int ((p1 &&& (2147483647 : Int32)) % (14 : Int32))), .val (.ref x131), .val (.int (own_lo ((p1 &&& (2147483647 : Int32)) % (14 : Int32)))), .val (.int (own_hi ((p1 &&& (2147483647 : Int32)) % (14 : Int32)))), .val (.int (p2.toInt16.toInt32)), .unset, .unset]) rfl k) ?_
      show own_Go p e below s _ _ _ (T139.setTop (mkF m 51 #[.val (.int p1), .val (.int p2), .val (.int p3), .val (.int ((p1 &&& (2147483647 : Int32)) % (14 : Int32))), .val (.ref x131), .val (.int (own_lo ((p1 &&& (2147483647 : Int32)) % (14 : Int32)))), .val (.int (own_hi ((p1 &&& (2147483647 : Int32)) % (14 : Int32)))), .val (.int (p2.toInt16.toInt32)), .unset, .unset] []))
      refine own_st (fun _ k => XS.iload X139.here hx rfl (hb hby at_51) rfl k) ?_
      show own_Go p e below s _ _ _ (T139.setTop (mkF m 53 #[.val (.int p1), .val (.int p2), .val (.int p3), .val (.int ((p1 &&& (2147483647 : Int32)) % (14 : Int32))), .val (.ref x131), .val (.int (own_lo ((p1 &&& (2147483647 : Int32)) % (14 : Int32)))), .val (.int (own_hi ((p1 &&& (2147483647 : Int32)) % (14 : Int32)))), .val (.int (p2.toInt16.toInt32)), .unset, .unset] [(.int (p2.toInt16.toInt32))]))
      refine own_st (fun _ k => XS.istore X139.here hx rfl (hb hby at_53) rfl (l' := #[.val (.int p1), .val (.int p2), .val (.int p3), .val (.int ((p1 &&& (2147483647 : Int32)) % (14 : Int32))), .val (.ref x131), .val (.int (own_lo ((p1 &&& (2147483647 : Int32)) % (14 : Int32)))), .val (.int (own_hi ((p1 &&& (2147483647 : Int32)) % (14 : Int32)))), .val (.int (p2.toInt16.toInt32)), .val (.int (p2.toInt16.toInt32)), .unset]) rfl k) ?_
      show own_Go p e below s _ _ _ (T139.setTop (mkF m 55 #[.val (.int p1), .val (.int p2), .val (.int p3), .val (.int ((p1 &&& (2147483647 : Int32)) % (14 : Int32))), .val (.ref x131), .val (.int (own_lo ((p1 &&& (2147483647 : Int32)) % (14 : Int32)))), .val (.int (own_hi ((p1 &&& (2147483647 : Int32)) % (14 : Int32)))), .val (.int (p2.toInt16.toInt32)), .val (.int (p2.toInt16.toInt32)), .unset] []))
      refine own_st (fun _ k => XS.iloadN X139.here hx rfl (hb hby at_55) rfl k) ?_
      show own_Go p e below s _ _ _ (T139.setTop (mkF m 56 #[.val (.int p1), .val (.int p2), .val (.int p3), .val (.int ((p1 &&& (2147483647 : Int32)) % (14 : Int32))), .val (.ref x131), .val (.int (own_lo ((p1 &&& (2147483647 : Int32)) % (14 : Int32)))), .val (.int (own_hi ((p1 &&& (2147483647 : Int32)) % (14 : Int32)))), .val (.int (p2.toInt16.toInt32)), .val (.int (p2.toInt16.toInt32)), .unset] [(.int ((p1 &&& (2147483647 : Int32)) % (14 : Int32)))]))
      refine own_st (fun _ k => XS.ifNo X139.here hx rfl (hb hby at_56) rfl (XT.i0_eq_f hz) k) ?_
      show own_Go p e below s _ _ _ (T139.setTop (mkF m 59 #[.val (.int p1), .val (.int p2), .val (.int p3), .val (.int ((p1 &&& (2147483647 : Int32)) % (14 : Int32))), .val (.ref x131), .val (.int (own_lo ((p1 &&& (2147483647 : Int32)) % (14 : Int32)))), .val (.int (own_hi ((p1 &&& (2147483647 : Int32)) % (14 : Int32)))), .val (.int (p2.toInt16.toInt32)), .val (.int (p2.toInt16.toInt32)), .unset] []))
      refine own_st (fun _ k => XS.iload X139.here hx rfl (hb hby at_59) rfl k) ?_
      show own_Go p e below s _ _ _ (T139.setTop (mkF m 61 #[.val (.int p1), .val (.int p2), .val (.int p3), .val (.int ((p1 &&& (2147483647 : Int32)) % (14 : Int32))), .val (.ref x131), .val (.int (own_lo ((p1 &&& (2147483647 : Int32)) % (14 : Int32)))), .val (.int (own_hi ((p1 &&& (2147483647 : Int32)) % (14 : Int32)))), .val (.int (p2.toInt16.toInt32)), .val (.int (p2.toInt16.toInt32)), .unset] [(.int (p2.toInt16.toInt32))]))
      refine own_st (fun _ k => XS.iload X139.here hx rfl (hb hby at_61) rfl k) ?_
      show own_Go p e below s _ _ _ (T139.setTop (mkF m 63 #[.val (.int p1), .val (.int p2), .val (.int p3), .val (.int ((p1 &&& (2147483647 : Int32)) % (14 : Int32))), .val (.ref x131), .val (.int (own_lo ((p1 &&& (2147483647 : Int32)) % (14 : Int32)))), .val (.int (own_hi ((p1 &&& (2147483647 : Int32)) % (14 : Int32)))), .val (.int (p2.toInt16.toInt32)), .val (.int (p2.toInt16.toInt32)), .unset] [(.int (own_lo ((p1 &&& (2147483647 : Int32)) % (14 : Int32)))), (.int (p2.toInt16.toInt32))]))
      by_cases hc142 : (p2.toInt16.toInt32) < (own_lo ((p1 &&& (2147483647 : Int32)) % (14 : Int32)))
      · refine own_st (fun _ k => XS.icmpYes X139.here hx rfl (pc0 := 63) (pc' := 77) rfl (hb hby at_63) rfl (XT.ii_lt_t hc142) (by decide) (by decide) k) ?_
        show own_Go p e below s _ _ _ (T139.setTop (mkF m 77 #[.val (.int p1), .val (.int p2), .val (.int p3), .val (.int ((p1 &&& (2147483647 : Int32)) % (14 : Int32))), .val (.ref x131), .val (.int (own_lo ((p1 &&& (2147483647 : Int32)) % (14 : Int32)))), .val (.int (own_hi ((p1 &&& (2147483647 : Int32)) % (14 : Int32)))), .val (.int (p2.toInt16.toInt32)), .val (.int (p2.toInt16.toInt32)), .unset] []))
        refine own_st (fun _ k => XT.iconstV X139.here hx rfl (0 : Int32) (hb hby at_77) (by decide) k) ?_
        show own_Go p e below s _ _ _ (T139.setTop (mkF m 78 #[.val (.int p1), .val (.int p2), .val (.int p3), .val (.int ((p1 &&& (2147483647 : Int32)) % (14 : Int32))), .val (.ref x131), .val (.int (own_lo ((p1 &&& (2147483647 : Int32)) % (14 : Int32)))), .val (.int (own_hi ((p1 &&& (2147483647 : Int32)) % (14 : Int32)))), .val (.int (p2.toInt16.toInt32)), .val (.int (p2.toInt16.toInt32)), .unset] [(.int (0 : Int32))]))
        refine own_st (fun _ k => XS.istore X139.here hx rfl (hb hby at_78) rfl (l' := #[.val (.int p1), .val (.int p2), .val (.int p3), .val (.int ((p1 &&& (2147483647 : Int32)) % (14 : Int32))), .val (.ref x131), .val (.int (own_lo ((p1 &&& (2147483647 : Int32)) % (14 : Int32)))), .val (.int (own_hi ((p1 &&& (2147483647 : Int32)) % (14 : Int32)))), .val (.int (p2.toInt16.toInt32)), .val (.int (p2.toInt16.toInt32)), .val (.int (0 : Int32))]) rfl k) ?_
        show own_Go p e below s _ _ _ (T139.setTop (mkF m 80 #[.val (.int p1), .val (.int p2), .val (.int p3), .val (.int ((p1 &&& (2147483647 : Int32)) % (14 : Int32))), .val (.ref x131), .val (.int (own_lo ((p1 &&& (2147483647 : Int32)) % (14 : Int32)))), .val (.int (own_hi ((p1 &&& (2147483647 : Int32)) % (14 : Int32)))), .val (.int (p2.toInt16.toInt32)), .val (.int (p2.toInt16.toInt32)), .val (.int (0 : Int32))] []))
        refine own_st (fun _ k => XS.aload X139.here hx rfl (hb hby at_80) rfl rfl k) ?_
        show own_Go p e below s _ _ _ (T139.setTop (mkF m 82 #[.val (.int p1), .val (.int p2), .val (.int p3), .val (.int ((p1 &&& (2147483647 : Int32)) % (14 : Int32))), .val (.ref x131), .val (.int (own_lo ((p1 &&& (2147483647 : Int32)) % (14 : Int32)))), .val (.int (own_hi ((p1 &&& (2147483647 : Int32)) % (14 : Int32)))), .val (.int (p2.toInt16.toInt32)), .val (.int (p2.toInt16.toInt32)), .val (.int (0 : Int32))] [(.ref x131)]))
        refine own_st (fun _ k => XS.iload X139.here hx rfl (hb hby at_82) rfl k) ?_
        show own_Go p e below s _ _ _ (T139.setTop (mkF m 84 #[.val (.int p1), .val (.int p2), .val (.int p3), .val (.int ((p1 &&& (2147483647 : Int32)) % (14 : Int32))), .val (.ref x131), .val (.int (own_lo ((p1 &&& (2147483647 : Int32)) % (14 : Int32)))), .val (.int (own_hi ((p1 &&& (2147483647 : Int32)) % (14 : Int32)))), .val (.int (p2.toInt16.toInt32)), .val (.int (p2.toInt16.toInt32)), .val (.int (0 : Int32))] [(.int (p2.toInt16.toInt32)), (.ref x131)]))
        obtain ⟨cq143, kq143, q143a, q143b, q143c⟩ := isOf hZ eh139 q132
        obtain ⟨_, _, ⟨T143, L143, k143, n143⟩, -, X143, ⟨Lc143, hQ143, l143, y143, z143⟩, st143⟩ := X139.virtualBack hx (y := (⟨"com/example/indri/indri/wire/Api", "serves", "(S)Z"⟩ : MethodName)) (z := (⟨"com/example/indri/indri/wire/Api", "serves", "(S)Z"⟩ : MethodName)) hown (mvT hZ (hw _ (List.mem_of_getElem? (i := 14) rfl))) (mvT hZ (hw _ (List.mem_of_getElem? (i := 15) rfl))) (notFace_of_selects (args := #[]) (mvT hZ (hw _ (List.mem_of_getElem? (i := 17) rfl)))) (mvT hZ (hw _ (List.mem_of_getElem? (i := 17) rfl))) (mvT hZ (hw _ (List.mem_of_getElem? (i := 16) rfl))) (by decide) (backOf (W := 0) (own_rm_servesN l Z a0 hw [] x131 (p2.toInt16.toInt32) (own_mn ((p1 &&& (2147483647 : Int32)) % (14 : Int32))) (own_mx ((p1 &&& (2147483647 : Int32)) % (14 : Int32))) h0 n0 Z0 q133 q134 q135) hZ (hw _ (List.mem_of_getElem? (i := 18) rfl)) (hw _ (List.mem_of_getElem? (i := 6) rfl)) (by decide) (by decide)) q143a q143c (g := (mkF m 84 #[.val (.int p1), .val (.int p2), .val (.int p3), .val (.int ((p1 &&& (2147483647 : Int32)) % (14 : Int32))), .val (.ref x131), .val (.int (own_lo ((p1 &&& (2147483647 : Int32)) % (14 : Int32)))), .val (.int (own_hi ((p1 &&& (2147483647 : Int32)) % (14 : Int32)))), .val (.int (p2.toInt16.toInt32)), .val (.int (p2.toInt16.toInt32)), .val (.int (0 : Int32))] [(.int (p2.toInt16.toInt32)), (.ref x131)])) rfl (by rw [hml]; rfl) (Steps.refl _) (argsL := [(.int (p2.toInt16.toInt32))]) (rest := []) (lenOf own_pd2 rfl) rfl (by show 2 * 0 + _ ≤ _; exact Nat.le_of_eq rfl) (hb hby at_84) (fun _ _ => ⟨rfl, eh139, (by decide : 0 + 0 ≤ _), (by decide : 0 + 0 ≤ _)⟩)
        dsimp only [Pt.U, Pt.locs, Pt.cells, Pt.slots] at X143 l143 y143 z143 st143 hQ143
        subst l143 y143 z143
        obtain ⟨N143q, rfl, eh143⟩ := hQ143
        have N144 := Fr.app N140 N143q
        refine own_tr st143 ?_
        show own_Go p e below s _ _ _ (T143.setTop (mkF m 87 #[.val (.int p1), .val (.int p2), .val (.int p3), .val (.int ((p1 &&& (2147483647 : Int32)) % (14 : Int32))), .val (.ref x131), .val (.int (own_lo ((p1 &&& (2147483647 : Int32)) % (14 : Int32)))), .val (.int (own_hi ((p1 &&& (2147483647 : Int32)) % (14 : Int32)))), .val (.int (p2.toInt16.toInt32)), .val (.int (p2.toInt16.toInt32)), .val (.int (0 : Int32))] [(.int (if (p2.toInt16.toInt32) < (own_mn ((p1 &&& (2147483647 : Int32)) % (14 : Int32))) then (0 : Int32) else if (own_mx ((p1 &&& (2147483647 : Int32)) % (14 : Int32))) < (p2.toInt16.toInt32) then 0 else 1))]))
        refine own_st (fun _ k => XS.iload X143.here hx rfl (hb hby at_87) rfl k) ?_
        show own_Go p e below s _ _ _ (T143.setTop (mkF m 89 #[.val (.int p1), .val (.int p2), .val (.int p3), .val (.int ((p1 &&& (2147483647 : Int32)) % (14 : Int32))), .val (.ref x131), .val (.int (own_lo ((p1 &&& (2147483647 : Int32)) % (14 : Int32)))), .val (.int (own_hi ((p1 &&& (2147483647 : Int32)) % (14 : Int32)))), .val (.int (p2.toInt16.toInt32)), .val (.int (p2.toInt16.toInt32)), .val (.int (0 : Int32))] [(.int (0 : Int32)), (.int (if (p2.toInt16.toInt32) < (own_mn ((p1 &&& (2147483647 : Int32)) % (14 : Int32))) then (0 : Int32) else if (own_mx ((p1 &&& (2147483647 : Int32)) % (14 : Int32))) < (p2.toInt16.toInt32) then 0 else 1))]))
        refine own_st (fun _ k => XS.icmpNo X143.here hx rfl (hb hby at_89) rfl (XT.ii_ne_f (by rw [(hp hz).1, (hp hz).2, if_pos hc142])) k) ?_
        show own_Go p e below s _ _ _ (T143.setTop (mkF m 92 #[.val (.int p1), .val (.int p2), .val (.int p3), .val (.int ((p1 &&& (2147483647 : Int32)) % (14 : Int32))), .val (.ref x131), .val (.int (own_lo ((p1 &&& (2147483647 : Int32)) % (14 : Int32)))), .val (.int (own_hi ((p1 &&& (2147483647 : Int32)) % (14 : Int32)))), .val (.int (p2.toInt16.toInt32)), .val (.int (p2.toInt16.toInt32)), .val (.int (0 : Int32))] []))
        refine own_st (fun _ k => XT.iconstV X143.here hx rfl (1 : Int32) (hb hby at_92) (by decide) k) ?_
        show own_Go p e below s _ _ _ (T143.setTop (mkF m 93 #[.val (.int p1), .val (.int p2), .val (.int p3), .val (.int ((p1 &&& (2147483647 : Int32)) % (14 : Int32))), .val (.ref x131), .val (.int (own_lo ((p1 &&& (2147483647 : Int32)) % (14 : Int32)))), .val (.int (own_hi ((p1 &&& (2147483647 : Int32)) % (14 : Int32)))), .val (.int (p2.toInt16.toInt32)), .val (.int (p2.toInt16.toInt32)), .val (.int (0 : Int32))] [(.int (1 : Int32))]))
        refine own_st (fun _ k => XS.goto X143.here hx rfl (pc0 := 93) (pc' := 97) rfl (hb hby at_93) (by decide) (by decide) k) ?_
        show own_Go p e below s _ _ _ (T143.setTop (mkF m 97 #[.val (.int p1), .val (.int p2), .val (.int p3), .val (.int ((p1 &&& (2147483647 : Int32)) % (14 : Int32))), .val (.ref x131), .val (.int (own_lo ((p1 &&& (2147483647 : Int32)) % (14 : Int32)))), .val (.int (own_hi ((p1 &&& (2147483647 : Int32)) % (14 : Int32)))), .val (.int (p2.toInt16.toInt32)), .val (.int (p2.toInt16.toInt32)), .val (.int (0 : Int32))] [(.int (1 : Int32))]))
        refine own_retN X143 hx hlk Bd.returns (t := .boolean) (z' := (1 : Int32)) (by simp) (by decide) (hb hby at_97) (by decide) (by decide) ?_
        rw [eh143]
        exact ⟨N144, rfl⟩
      · refine own_st (fun _ k => XS.icmpNo X139.here hx rfl (hb hby at_63) rfl (XT.ii_lt_f hc142) k) ?_
        show own_Go p e below s _ _ _ (T139.setTop (mkF m 66 #[.val (.int p1), .val (.int p2), .val (.int p3), .val (.int ((p1 &&& (2147483647 : Int32)) % (14 : Int32))), .val (.ref x131), .val (.int (own_lo ((p1 &&& (2147483647 : Int32)) % (14 : Int32)))), .val (.int (own_hi ((p1 &&& (2147483647 : Int32)) % (14 : Int32)))), .val (.int (p2.toInt16.toInt32)), .val (.int (p2.toInt16.toInt32)), .unset] []))
        refine own_st (fun _ k => XS.iload X139.here hx rfl (hb hby at_66) rfl k) ?_
        show own_Go p e below s _ _ _ (T139.setTop (mkF m 68 #[.val (.int p1), .val (.int p2), .val (.int p3), .val (.int ((p1 &&& (2147483647 : Int32)) % (14 : Int32))), .val (.ref x131), .val (.int (own_lo ((p1 &&& (2147483647 : Int32)) % (14 : Int32)))), .val (.int (own_hi ((p1 &&& (2147483647 : Int32)) % (14 : Int32)))), .val (.int (p2.toInt16.toInt32)), .val (.int (p2.toInt16.toInt32)), .unset] [(.int (p2.toInt16.toInt32))]))
        refine own_st (fun _ k => XS.iload X139.here hx rfl (hb hby at_68) rfl k) ?_
        show own_Go p e below s _ _ _ (T139.setTop (mkF m 70 #[.val (.int p1), .val (.int p2), .val (.int p3), .val (.int ((p1 &&& (2147483647 : Int32)) % (14 : Int32))), .val (.ref x131), .val (.int (own_lo ((p1 &&& (2147483647 : Int32)) % (14 : Int32)))), .val (.int (own_hi ((p1 &&& (2147483647 : Int32)) % (14 : Int32)))), .val (.int (p2.toInt16.toInt32)), .val (.int (p2.toInt16.toInt32)), .unset] [(.int (own_hi ((p1 &&& (2147483647 : Int32)) % (14 : Int32)))), (.int (p2.toInt16.toInt32))]))
        by_cases hc145 : (own_hi ((p1 &&& (2147483647 : Int32)) % (14 : Int32))) < (p2.toInt16.toInt32)
        · refine own_st (fun _ k => XS.icmpYes X139.here hx rfl (pc0 := 70) (pc' := 77) rfl (hb hby at_70) rfl (XT.ii_gt_t hc145) (by decide) (by decide) k) ?_
          show own_Go p e below s _ _ _ (T139.setTop (mkF m 77 #[.val (.int p1), .val (.int p2), .val (.int p3), .val (.int ((p1 &&& (2147483647 : Int32)) % (14 : Int32))), .val (.ref x131), .val (.int (own_lo ((p1 &&& (2147483647 : Int32)) % (14 : Int32)))), .val (.int (own_hi ((p1 &&& (2147483647 : Int32)) % (14 : Int32)))), .val (.int (p2.toInt16.toInt32)), .val (.int (p2.toInt16.toInt32)), .unset] []))
          refine own_st (fun _ k => XT.iconstV X139.here hx rfl (0 : Int32) (hb hby at_77) (by decide) k) ?_
          show own_Go p e below s _ _ _ (T139.setTop (mkF m 78 #[.val (.int p1), .val (.int p2), .val (.int p3), .val (.int ((p1 &&& (2147483647 : Int32)) % (14 : Int32))), .val (.ref x131), .val (.int (own_lo ((p1 &&& (2147483647 : Int32)) % (14 : Int32)))), .val (.int (own_hi ((p1 &&& (2147483647 : Int32)) % (14 : Int32)))), .val (.int (p2.toInt16.toInt32)), .val (.int (p2.toInt16.toInt32)), .unset] [(.int (0 : Int32))]))
          refine own_st (fun _ k => XS.istore X139.here hx rfl (hb hby at_78) rfl (l' := #[.val (.int p1), .val (.int p2), .val (.int p3), .val (.int ((p1 &&& (2147483647 : Int32)) % (14 : Int32))), .val (.ref x131), .val (.int (own_lo ((p1 &&& (2147483647 : Int32)) % (14 : Int32)))), .val (.int (own_hi ((p1 &&& (2147483647 : Int32)) % (14 : Int32)))), .val (.int (p2.toInt16.toInt32)), .val (.int (p2.toInt16.toInt32)), .val (.int (0 : Int32))]) rfl k) ?_
          show own_Go p e below s _ _ _ (T139.setTop (mkF m 80 #[.val (.int p1), .val (.int p2), .val (.int p3), .val (.int ((p1 &&& (2147483647 : Int32)) % (14 : Int32))), .val (.ref x131), .val (.int (own_lo ((p1 &&& (2147483647 : Int32)) % (14 : Int32)))), .val (.int (own_hi ((p1 &&& (2147483647 : Int32)) % (14 : Int32)))), .val (.int (p2.toInt16.toInt32)), .val (.int (p2.toInt16.toInt32)), .val (.int (0 : Int32))] []))
          refine own_st (fun _ k => XS.aload X139.here hx rfl (hb hby at_80) rfl rfl k) ?_
          show own_Go p e below s _ _ _ (T139.setTop (mkF m 82 #[.val (.int p1), .val (.int p2), .val (.int p3), .val (.int ((p1 &&& (2147483647 : Int32)) % (14 : Int32))), .val (.ref x131), .val (.int (own_lo ((p1 &&& (2147483647 : Int32)) % (14 : Int32)))), .val (.int (own_hi ((p1 &&& (2147483647 : Int32)) % (14 : Int32)))), .val (.int (p2.toInt16.toInt32)), .val (.int (p2.toInt16.toInt32)), .val (.int (0 : Int32))] [(.ref x131)]))
          refine own_st (fun _ k => XS.iload X139.here hx rfl (hb hby at_82) rfl k) ?_
          show own_Go p e below s _ _ _ (T139.setTop (mkF m 84 #[.val (.int p1), .val (.int p2), .val (.int p3), .val (.int ((p1 &&& (2147483647 : Int32)) % (14 : Int32))), .val (.ref x131), .val (.int (own_lo ((p1 &&& (2147483647 : Int32)) % (14 : Int32)))), .val (.int (own_hi ((p1 &&& (2147483647 : Int32)) % (14 : Int32)))), .val (.int (p2.toInt16.toInt32)), .val (.int (p2.toInt16.toInt32)), .val (.int (0 : Int32))] [(.int (p2.toInt16.toInt32)), (.ref x131)]))
          obtain ⟨cq146, kq146, q146a, q146b, q146c⟩ := isOf hZ eh139 q132
          obtain ⟨_, _, ⟨T146, L146, k146, n146⟩, -, X146, ⟨Lc146, hQ146, l146, y146, z146⟩, st146⟩ := X139.virtualBack hx (y := (⟨"com/example/indri/indri/wire/Api", "serves", "(S)Z"⟩ : MethodName)) (z := (⟨"com/example/indri/indri/wire/Api", "serves", "(S)Z"⟩ : MethodName)) hown (mvT hZ (hw _ (List.mem_of_getElem? (i := 14) rfl))) (mvT hZ (hw _ (List.mem_of_getElem? (i := 15) rfl))) (notFace_of_selects (args := #[]) (mvT hZ (hw _ (List.mem_of_getElem? (i := 17) rfl)))) (mvT hZ (hw _ (List.mem_of_getElem? (i := 17) rfl))) (mvT hZ (hw _ (List.mem_of_getElem? (i := 16) rfl))) (by decide) (backOf (W := 0) (own_rm_servesN l Z a0 hw [] x131 (p2.toInt16.toInt32) (own_mn ((p1 &&& (2147483647 : Int32)) % (14 : Int32))) (own_mx ((p1 &&& (2147483647 : Int32)) % (14 : Int32))) h0 n0 Z0 q133 q134 q135) hZ (hw _ (List.mem_of_getElem? (i := 18) rfl)) (hw _ (List.mem_of_getElem? (i := 6) rfl)) (by decide) (by decide)) q146a q146c (g := (mkF m 84 #[.val (.int p1), .val (.int p2), .val (.int p3), .val (.int ((p1 &&& (2147483647 : Int32)) % (14 : Int32))), .val (.ref x131), .val (.int (own_lo ((p1 &&& (2147483647 : Int32)) % (14 : Int32)))), .val (.int (own_hi ((p1 &&& (2147483647 : Int32)) % (14 : Int32)))), .val (.int (p2.toInt16.toInt32)), .val (.int (p2.toInt16.toInt32)), .val (.int (0 : Int32))] [(.int (p2.toInt16.toInt32)), (.ref x131)])) rfl (by rw [hml]; rfl) (Steps.refl _) (argsL := [(.int (p2.toInt16.toInt32))]) (rest := []) (lenOf own_pd2 rfl) rfl (by show 2 * 0 + _ ≤ _; exact Nat.le_of_eq rfl) (hb hby at_84) (fun _ _ => ⟨rfl, eh139, (by decide : 0 + 0 ≤ _), (by decide : 0 + 0 ≤ _)⟩)
          dsimp only [Pt.U, Pt.locs, Pt.cells, Pt.slots] at X146 l146 y146 z146 st146 hQ146
          subst l146 y146 z146
          obtain ⟨N146q, rfl, eh146⟩ := hQ146
          have N147 := Fr.app N140 N146q
          refine own_tr st146 ?_
          show own_Go p e below s _ _ _ (T146.setTop (mkF m 87 #[.val (.int p1), .val (.int p2), .val (.int p3), .val (.int ((p1 &&& (2147483647 : Int32)) % (14 : Int32))), .val (.ref x131), .val (.int (own_lo ((p1 &&& (2147483647 : Int32)) % (14 : Int32)))), .val (.int (own_hi ((p1 &&& (2147483647 : Int32)) % (14 : Int32)))), .val (.int (p2.toInt16.toInt32)), .val (.int (p2.toInt16.toInt32)), .val (.int (0 : Int32))] [(.int (if (p2.toInt16.toInt32) < (own_mn ((p1 &&& (2147483647 : Int32)) % (14 : Int32))) then (0 : Int32) else if (own_mx ((p1 &&& (2147483647 : Int32)) % (14 : Int32))) < (p2.toInt16.toInt32) then 0 else 1))]))
          refine own_st (fun _ k => XS.iload X146.here hx rfl (hb hby at_87) rfl k) ?_
          show own_Go p e below s _ _ _ (T146.setTop (mkF m 89 #[.val (.int p1), .val (.int p2), .val (.int p3), .val (.int ((p1 &&& (2147483647 : Int32)) % (14 : Int32))), .val (.ref x131), .val (.int (own_lo ((p1 &&& (2147483647 : Int32)) % (14 : Int32)))), .val (.int (own_hi ((p1 &&& (2147483647 : Int32)) % (14 : Int32)))), .val (.int (p2.toInt16.toInt32)), .val (.int (p2.toInt16.toInt32)), .val (.int (0 : Int32))] [(.int (0 : Int32)), (.int (if (p2.toInt16.toInt32) < (own_mn ((p1 &&& (2147483647 : Int32)) % (14 : Int32))) then (0 : Int32) else if (own_mx ((p1 &&& (2147483647 : Int32)) % (14 : Int32))) < (p2.toInt16.toInt32) then 0 else 1))]))
          refine own_st (fun _ k => XS.icmpNo X146.here hx rfl (hb hby at_89) rfl (XT.ii_ne_f (by rw [(hp hz).1, (hp hz).2, if_neg hc142, if_pos hc145])) k) ?_
          show own_Go p e below s _ _ _ (T146.setTop (mkF m 92 #[.val (.int p1), .val (.int p2), .val (.int p3), .val (.int ((p1 &&& (2147483647 : Int32)) % (14 : Int32))), .val (.ref x131), .val (.int (own_lo ((p1 &&& (2147483647 : Int32)) % (14 : Int32)))), .val (.int (own_hi ((p1 &&& (2147483647 : Int32)) % (14 : Int32)))), .val (.int (p2.toInt16.toInt32)), .val (.int (p2.toInt16.toInt32)), .val (.int (0 : Int32))] []))
          refine own_st (fun _ k => XT.iconstV X146.here hx rfl (1 : Int32) (hb hby at_92) (by decide) k) ?_
          show own_Go p e below s _ _ _ (T146.setTop (mkF m 93 #[.val (.int p1), .val (.int p2), .val (.int p3), .val (.int ((p1 &&& (2147483647 : Int32)) % (14 : Int32))), .val (.ref x131), .val (.int (own_lo ((p1 &&& (2147483647 : Int32)) % (14 : Int32)))), .val (.int (own_hi ((p1 &&& (2147483647 : Int32)) % (14 : Int32)))), .val (.int (p2.toInt16.toInt32)), .val (.int (p2.toInt16.toInt32)), .val (.int (0 : Int32))] [(.int (1 : Int32))]))
          refine own_st (fun _ k => XS.goto X146.here hx rfl (pc0 := 93) (pc' := 97) rfl (hb hby at_93) (by decide) (by decide) k) ?_
          show own_Go p e below s _ _ _ (T146.setTop (mkF m 97 #[.val (.int p1), .val (.int p2), .val (.int p3), .val (.int ((p1 &&& (2147483647 : Int32)) % (14 : Int32))), .val (.ref x131), .val (.int (own_lo ((p1 &&& (2147483647 : Int32)) % (14 : Int32)))), .val (.int (own_hi ((p1 &&& (2147483647 : Int32)) % (14 : Int32)))), .val (.int (p2.toInt16.toInt32)), .val (.int (p2.toInt16.toInt32)), .val (.int (0 : Int32))] [(.int (1 : Int32))]))
          refine own_retN X146 hx hlk Bd.returns (t := .boolean) (z' := (1 : Int32)) (by simp) (by decide) (hb hby at_97) (by decide) (by decide) ?_
          rw [eh146]
          exact ⟨N147, rfl⟩
        · refine own_st (fun _ k => XS.icmpNo X139.here hx rfl (hb hby at_70) rfl (XT.ii_gt_f hc145) k) ?_
          show own_Go p e below s _ _ _ (T139.setTop (mkF m 73 #[.val (.int p1), .val (.int p2), .val (.int p3), .val (.int ((p1 &&& (2147483647 : Int32)) % (14 : Int32))), .val (.ref x131), .val (.int (own_lo ((p1 &&& (2147483647 : Int32)) % (14 : Int32)))), .val (.int (own_hi ((p1 &&& (2147483647 : Int32)) % (14 : Int32)))), .val (.int (p2.toInt16.toInt32)), .val (.int (p2.toInt16.toInt32)), .unset] []))
          refine own_st (fun _ k => XT.iconstV X139.here hx rfl (1 : Int32) (hb hby at_73) (by decide) k) ?_
          show own_Go p e below s _ _ _ (T139.setTop (mkF m 74 #[.val (.int p1), .val (.int p2), .val (.int p3), .val (.int ((p1 &&& (2147483647 : Int32)) % (14 : Int32))), .val (.ref x131), .val (.int (own_lo ((p1 &&& (2147483647 : Int32)) % (14 : Int32)))), .val (.int (own_hi ((p1 &&& (2147483647 : Int32)) % (14 : Int32)))), .val (.int (p2.toInt16.toInt32)), .val (.int (p2.toInt16.toInt32)), .unset] [(.int (1 : Int32))]))
          refine own_st (fun _ k => XS.goto X139.here hx rfl (pc0 := 74) (pc' := 78) rfl (hb hby at_74) (by decide) (by decide) k) ?_
          show own_Go p e below s _ _ _ (T139.setTop (mkF m 78 #[.val (.int p1), .val (.int p2), .val (.int p3), .val (.int ((p1 &&& (2147483647 : Int32)) % (14 : Int32))), .val (.ref x131), .val (.int (own_lo ((p1 &&& (2147483647 : Int32)) % (14 : Int32)))), .val (.int (own_hi ((p1 &&& (2147483647 : Int32)) % (14 : Int32)))), .val (.int (p2.toInt16.toInt32)), .val (.int (p2.toInt16.toInt32)), .unset] [(.int (1 : Int32))]))
          refine own_st (fun _ k => XS.istore X139.here hx rfl (hb hby at_78) rfl (l' := #[.val (.int p1), .val (.int p2), .val (.int p3), .val (.int ((p1 &&& (2147483647 : Int32)) % (14 : Int32))), .val (.ref x131), .val (.int (own_lo ((p1 &&& (2147483647 : Int32)) % (14 : Int32)))), .val (.int (own_hi ((p1 &&& (2147483647 : Int32)) % (14 : Int32)))), .val (.int (p2.toInt16.toInt32)), .val (.int (p2.toInt16.toInt32)), .val (.int (1 : Int32))]) rfl k) ?_
          show own_Go p e below s _ _ _ (T139.setTop (mkF m 80 #[.val (.int p1), .val (.int p2), .val (.int p3), .val (.int ((p1 &&& (2147483647 : Int32)) % (14 : Int32))), .val (.ref x131), .val (.int (own_lo ((p1 &&& (2147483647 : Int32)) % (14 : Int32)))), .val (.int (own_hi ((p1 &&& (2147483647 : Int32)) % (14 : Int32)))), .val (.int (p2.toInt16.toInt32)), .val (.int (p2.toInt16.toInt32)), .val (.int (1 : Int32))] []))
          refine own_st (fun _ k => XS.aload X139.here hx rfl (hb hby at_80) rfl rfl k) ?_
          show own_Go p e below s _ _ _ (T139.setTop (mkF m 82 #[.val (.int p1), .val (.int p2), .val (.int p3), .val (.int ((p1 &&& (2147483647 : Int32)) % (14 : Int32))), .val (.ref x131), .val (.int (own_lo ((p1 &&& (2147483647 : Int32)) % (14 : Int32)))), .val (.int (own_hi ((p1 &&& (2147483647 : Int32)) % (14 : Int32)))), .val (.int (p2.toInt16.toInt32)), .val (.int (p2.toInt16.toInt32)), .val (.int (1 : Int32))] [(.ref x131)]))
          refine own_st (fun _ k => XS.iload X139.here hx rfl (hb hby at_82) rfl k) ?_
          show own_Go p e below s _ _ _ (T139.setTop (mkF m 84 #[.val (.int p1), .val (.int p2), .val (.int p3), .val (.int ((p1 &&& (2147483647 : Int32)) % (14 : Int32))), .val (.ref x131), .val (.int (own_lo ((p1 &&& (2147483647 : Int32)) % (14 : Int32)))), .val (.int (own_hi ((p1 &&& (2147483647 : Int32)) % (14 : Int32)))), .val (.int (p2.toInt16.toInt32)), .val (.int (p2.toInt16.toInt32)), .val (.int (1 : Int32))] [(.int (p2.toInt16.toInt32)), (.ref x131)]))
          obtain ⟨cq148, kq148, q148a, q148b, q148c⟩ := isOf hZ eh139 q132
          obtain ⟨_, _, ⟨T148, L148, k148, n148⟩, -, X148, ⟨Lc148, hQ148, l148, y148, z148⟩, st148⟩ := X139.virtualBack hx (y := (⟨"com/example/indri/indri/wire/Api", "serves", "(S)Z"⟩ : MethodName)) (z := (⟨"com/example/indri/indri/wire/Api", "serves", "(S)Z"⟩ : MethodName)) hown (mvT hZ (hw _ (List.mem_of_getElem? (i := 14) rfl))) (mvT hZ (hw _ (List.mem_of_getElem? (i := 15) rfl))) (notFace_of_selects (args := #[]) (mvT hZ (hw _ (List.mem_of_getElem? (i := 17) rfl)))) (mvT hZ (hw _ (List.mem_of_getElem? (i := 17) rfl))) (mvT hZ (hw _ (List.mem_of_getElem? (i := 16) rfl))) (by decide) (backOf (W := 0) (own_rm_servesN l Z a0 hw [] x131 (p2.toInt16.toInt32) (own_mn ((p1 &&& (2147483647 : Int32)) % (14 : Int32))) (own_mx ((p1 &&& (2147483647 : Int32)) % (14 : Int32))) h0 n0 Z0 q133 q134 q135) hZ (hw _ (List.mem_of_getElem? (i := 18) rfl)) (hw _ (List.mem_of_getElem? (i := 6) rfl)) (by decide) (by decide)) q148a q148c (g := (mkF m 84 #[.val (.int p1), .val (.int p2), .val (.int p3), .val (.int ((p1 &&& (2147483647 : Int32)) % (14 : Int32))), .val (.ref x131), .val (.int (own_lo ((p1 &&& (2147483647 : Int32)) % (14 : Int32)))), .val (.int (own_hi ((p1 &&& (2147483647 : Int32)) % (14 : Int32)))), .val (.int (p2.toInt16.toInt32)), .val (.int (p2.toInt16.toInt32)), .val (.int (1 : Int32))] [(.int (p2.toInt16.toInt32)), (.ref x131)])) rfl (by rw [hml]; rfl) (Steps.refl _) (argsL := [(.int (p2.toInt16.toInt32))]) (rest := []) (lenOf own_pd2 rfl) rfl (by show 2 * 0 + _ ≤ _; exact Nat.le_of_eq rfl) (hb hby at_84) (fun _ _ => ⟨rfl, eh139, (by decide : 0 + 0 ≤ _), (by decide : 0 + 0 ≤ _)⟩)
          dsimp only [Pt.U, Pt.locs, Pt.cells, Pt.slots] at X148 l148 y148 z148 st148 hQ148
          subst l148 y148 z148
          obtain ⟨N148q, rfl, eh148⟩ := hQ148
          have N149 := Fr.app N140 N148q
          refine own_tr st148 ?_
          show own_Go p e below s _ _ _ (T148.setTop (mkF m 87 #[.val (.int p1), .val (.int p2), .val (.int p3), .val (.int ((p1 &&& (2147483647 : Int32)) % (14 : Int32))), .val (.ref x131), .val (.int (own_lo ((p1 &&& (2147483647 : Int32)) % (14 : Int32)))), .val (.int (own_hi ((p1 &&& (2147483647 : Int32)) % (14 : Int32)))), .val (.int (p2.toInt16.toInt32)), .val (.int (p2.toInt16.toInt32)), .val (.int (1 : Int32))] [(.int (if (p2.toInt16.toInt32) < (own_mn ((p1 &&& (2147483647 : Int32)) % (14 : Int32))) then (0 : Int32) else if (own_mx ((p1 &&& (2147483647 : Int32)) % (14 : Int32))) < (p2.toInt16.toInt32) then 0 else 1))]))
          refine own_st (fun _ k => XS.iload X148.here hx rfl (hb hby at_87) rfl k) ?_
          show own_Go p e below s _ _ _ (T148.setTop (mkF m 89 #[.val (.int p1), .val (.int p2), .val (.int p3), .val (.int ((p1 &&& (2147483647 : Int32)) % (14 : Int32))), .val (.ref x131), .val (.int (own_lo ((p1 &&& (2147483647 : Int32)) % (14 : Int32)))), .val (.int (own_hi ((p1 &&& (2147483647 : Int32)) % (14 : Int32)))), .val (.int (p2.toInt16.toInt32)), .val (.int (p2.toInt16.toInt32)), .val (.int (1 : Int32))] [(.int (1 : Int32)), (.int (if (p2.toInt16.toInt32) < (own_mn ((p1 &&& (2147483647 : Int32)) % (14 : Int32))) then (0 : Int32) else if (own_mx ((p1 &&& (2147483647 : Int32)) % (14 : Int32))) < (p2.toInt16.toInt32) then 0 else 1))]))
          refine own_st (fun _ k => XS.icmpNo X148.here hx rfl (hb hby at_89) rfl (XT.ii_ne_f (by rw [(hp hz).1, (hp hz).2, if_neg hc142, if_neg hc145])) k) ?_
          show own_Go p e below s _ _ _ (T148.setTop (mkF m 92 #[.val (.int p1), .val (.int p2), .val (.int p3), .val (.int ((p1 &&& (2147483647 : Int32)) % (14 : Int32))), .val (.ref x131), .val (.int (own_lo ((p1 &&& (2147483647 : Int32)) % (14 : Int32)))), .val (.int (own_hi ((p1 &&& (2147483647 : Int32)) % (14 : Int32)))), .val (.int (p2.toInt16.toInt32)), .val (.int (p2.toInt16.toInt32)), .val (.int (1 : Int32))] []))
          refine own_st (fun _ k => XT.iconstV X148.here hx rfl (1 : Int32) (hb hby at_92) (by decide) k) ?_
          show own_Go p e below s _ _ _ (T148.setTop (mkF m 93 #[.val (.int p1), .val (.int p2), .val (.int p3), .val (.int ((p1 &&& (2147483647 : Int32)) % (14 : Int32))), .val (.ref x131), .val (.int (own_lo ((p1 &&& (2147483647 : Int32)) % (14 : Int32)))), .val (.int (own_hi ((p1 &&& (2147483647 : Int32)) % (14 : Int32)))), .val (.int (p2.toInt16.toInt32)), .val (.int (p2.toInt16.toInt32)), .val (.int (1 : Int32))] [(.int (1 : Int32))]))
          refine own_st (fun _ k => XS.goto X148.here hx rfl (pc0 := 93) (pc' := 97) rfl (hb hby at_93) (by decide) (by decide) k) ?_
          show own_Go p e below s _ _ _ (T148.setTop (mkF m 97 #[.val (.int p1), .val (.int p2), .val (.int p3), .val (.int ((p1 &&& (2147483647 : Int32)) % (14 : Int32))), .val (.ref x131), .val (.int (own_lo ((p1 &&& (2147483647 : Int32)) % (14 : Int32)))), .val (.int (own_hi ((p1 &&& (2147483647 : Int32)) % (14 : Int32)))), .val (.int (p2.toInt16.toInt32)), .val (.int (p2.toInt16.toInt32)), .val (.int (1 : Int32))] [(.int (1 : Int32))]))
          refine own_retN X148 hx hlk Bd.returns (t := .boolean) (z' := (1 : Int32)) (by simp) (by decide) (hb hby at_97) (by decide) (by decide) ?_
          rw [eh148]
          exact ⟨N149, rfl⟩
    · refine own_st (fun _ k => XS.ifNo X139.here hx rfl (hb hby at_29) rfl (XT.i0_eq_f hc141) k) ?_
      show own_Go p e below s _ _ _ (T139.setTop (mkF m 32 #[.val (.int p1), .val (.int p2), .val (.int p3), .val (.int ((p1 &&& (2147483647 : Int32)) % (14 : Int32))), .val (.ref x131), .val (.int (own_lo ((p1 &&& (2147483647 : Int32)) % (14 : Int32)))), .val (.int (own_hi ((p1 &&& (2147483647 : Int32)) % (14 : Int32)))), .unset, .unset, .unset] []))
      refine own_st (fun _ k => XS.iload X139.here hx rfl (hb hby at_32) rfl k) ?_
      show own_Go p e below s _ _ _ (T139.setTop (mkF m 34 #[.val (.int p1), .val (.int p2), .val (.int p3), .val (.int ((p1 &&& (2147483647 : Int32)) % (14 : Int32))), .val (.ref x131), .val (.int (own_lo ((p1 &&& (2147483647 : Int32)) % (14 : Int32)))), .val (.int (own_hi ((p1 &&& (2147483647 : Int32)) % (14 : Int32)))), .unset, .unset, .unset] [(.int (own_lo ((p1 &&& (2147483647 : Int32)) % (14 : Int32))))]))
      refine own_st (fun _ k => XS.iloadN X139.here hx rfl (hb hby at_34) rfl k) ?_
      show own_Go p e below s _ _ _ (T139.setTop (mkF m 35 #[.val (.int p1), .val (.int p2), .val (.int p3), .val (.int ((p1 &&& (2147483647 : Int32)) % (14 : Int32))), .val (.ref x131), .val (.int (own_lo ((p1 &&& (2147483647 : Int32)) % (14 : Int32)))), .val (.int (own_hi ((p1 &&& (2147483647 : Int32)) % (14 : Int32)))), .unset, .unset, .unset] [(.int p2), (.int (own_lo ((p1 &&& (2147483647 : Int32)) % (14 : Int32))))]))
      refine own_st (fun _ k => XT.bipushV X139.here hx rfl (15 : Int32) (hb hby at_35) (by decide) k) ?_
      show own_Go p e below s _ _ _ (T139.setTop (mkF m 37 #[.val (.int p1), .val (.int p2), .val (.int p3), .val (.int ((p1 &&& (2147483647 : Int32)) % (14 : Int32))), .val (.ref x131), .val (.int (own_lo ((p1 &&& (2147483647 : Int32)) % (14 : Int32)))), .val (.int (own_hi ((p1 &&& (2147483647 : Int32)) % (14 : Int32)))), .unset, .unset, .unset] [(.int (15 : Int32)), (.int p2), (.int (own_lo ((p1 &&& (2147483647 : Int32)) % (14 : Int32))))]))
      refine own_st (fun _ k => XS.iand X139.here hx rfl (hb hby at_37) rfl k) ?_
      show own_Go p e below s _ _ _ (T139.setTop (mkF m 38 #[.val (.int p1), .val (.int p2), .val (.int p3), .val (.int ((p1 &&& (2147483647 : Int32)) % (14 : Int32))), .val (.ref x131), .val (.int (own_lo ((p1 &&& (2147483647 : Int32)) % (14 : Int32)))), .val (.int (own_hi ((p1 &&& (2147483647 : Int32)) % (14 : Int32)))), .unset, .unset, .unset] [(.int (p2 &&& (15 : Int32))), (.int (own_lo ((p1 &&& (2147483647 : Int32)) % (14 : Int32))))]))
      refine own_st (fun _ k => XT.iconstV X139.here hx rfl (4 : Int32) (hb hby at_38) (by decide) k) ?_
      show own_Go p e below s _ _ _ (T139.setTop (mkF m 39 #[.val (.int p1), .val (.int p2), .val (.int p3), .val (.int ((p1 &&& (2147483647 : Int32)) % (14 : Int32))), .val (.ref x131), .val (.int (own_lo ((p1 &&& (2147483647 : Int32)) % (14 : Int32)))), .val (.int (own_hi ((p1 &&& (2147483647 : Int32)) % (14 : Int32)))), .unset, .unset, .unset] [(.int (4 : Int32)), (.int (p2 &&& (15 : Int32))), (.int (own_lo ((p1 &&& (2147483647 : Int32)) % (14 : Int32))))]))
      refine own_st (fun _ k => XS.isub X139.here hx rfl (hb hby at_39) rfl k) ?_
      show own_Go p e below s _ _ _ (T139.setTop (mkF m 40 #[.val (.int p1), .val (.int p2), .val (.int p3), .val (.int ((p1 &&& (2147483647 : Int32)) % (14 : Int32))), .val (.ref x131), .val (.int (own_lo ((p1 &&& (2147483647 : Int32)) % (14 : Int32)))), .val (.int (own_hi ((p1 &&& (2147483647 : Int32)) % (14 : Int32)))), .unset, .unset, .unset] [(.int ((p2 &&& (15 : Int32)) - (4 : Int32))), (.int (own_lo ((p1 &&& (2147483647 : Int32)) % (14 : Int32))))]))
      refine own_st (fun _ k => XS.iadd X139.here hx rfl (hb hby at_40) rfl k) ?_
      show own_Go p e below s _ _ _ (T139.setTop (mkF m 41 #[.val (.int p1), .val (.int p2), .val (.int p3), .val (.int ((p1 &&& (2147483647 : Int32)) % (14 : Int32))), .val (.ref x131), .val (.int (own_lo ((p1 &&& (2147483647 : Int32)) % (14 : Int32)))), .val (.int (own_hi ((p1 &&& (2147483647 : Int32)) % (14 : Int32)))), .unset, .unset, .unset] [(.int ((own_lo ((p1 &&& (2147483647 : Int32)) % (14 : Int32))) + ((p2 &&& (15 : Int32)) - (4 : Int32))))]))
      refine own_st (fun _ k => XT.i2s X139.here hx rfl (hb hby at_41) rfl k) ?_
      show own_Go p e below s _ _ _ (T139.setTop (mkF m 42 #[.val (.int p1), .val (.int p2), .val (.int p3), .val (.int ((p1 &&& (2147483647 : Int32)) % (14 : Int32))), .val (.ref x131), .val (.int (own_lo ((p1 &&& (2147483647 : Int32)) % (14 : Int32)))), .val (.int (own_hi ((p1 &&& (2147483647 : Int32)) % (14 : Int32)))), .unset, .unset, .unset] [(.int (((own_lo ((p1 &&& (2147483647 : Int32)) % (14 : Int32))) + ((p2 &&& (15 : Int32)) - (4 : Int32))).toInt16.toInt32))]))
      refine own_st (fun _ k => XS.istore X139.here hx rfl (hb hby at_42) rfl (l' := #[.val (.int p1), .val (.int p2), .val (.int p3), .val (.int ((p1 &&& (2147483647 : Int32)) % (14 : Int32))), .val (.ref x131), .val (.int (own_lo ((p1 &&& (2147483647 : Int32)) % (14 : Int32)))), .val (.int (own_hi ((p1 &&& (2147483647 : Int32)) % (14 : Int32)))), .val (.int (((own_lo ((p1 &&& (2147483647 : Int32)) % (14 : Int32))) + ((p2 &&& (15 : Int32)) - (4 : Int32))).toInt16.toInt32)), .unset, .unset]) rfl k) ?_
      show own_Go p e below s _ _ _ (T139.setTop (mkF m 44 #[.val (.int p1), .val (.int p2), .val (.int p3), .val (.int ((p1 &&& (2147483647 : Int32)) % (14 : Int32))), .val (.ref x131), .val (.int (own_lo ((p1 &&& (2147483647 : Int32)) % (14 : Int32)))), .val (.int (own_hi ((p1 &&& (2147483647 : Int32)) % (14 : Int32)))), .val (.int (((own_lo ((p1 &&& (2147483647 : Int32)) % (14 : Int32))) + ((p2 &&& (15 : Int32)) - (4 : Int32))).toInt16.toInt32)), .unset, .unset] []))
      refine own_st (fun _ k => XS.goto X139.here hx rfl (pc0 := 44) (pc' := 51) rfl (hb hby at_44) (by decide) (by decide) k) ?_
      show own_Go p e below s _ _ _ (T139.setTop (mkF m 51 #[.val (.int p1), .val (.int p2), .val (.int p3), .val (.int ((p1 &&& (2147483647 : Int32)) % (14 : Int32))), .val (.ref x131), .val (.int (own_lo ((p1 &&& (2147483647 : Int32)) % (14 : Int32)))), .val (.int (own_hi ((p1 &&& (2147483647 : Int32)) % (14 : Int32)))), .val (.int (((own_lo ((p1 &&& (2147483647 : Int32)) % (14 : Int32))) + ((p2 &&& (15 : Int32)) - (4 : Int32))).toInt16.toInt32)), .unset, .unset] []))
      refine own_st (fun _ k => XS.iload X139.here hx rfl (hb hby at_51) rfl k) ?_
      show own_Go p e below s _ _ _ (T139.setTop (mkF m 53 #[.val (.int p1), .val (.int p2), .val (.int p3), .val (.int ((p1 &&& (2147483647 : Int32)) % (14 : Int32))), .val (.ref x131), .val (.int (own_lo ((p1 &&& (2147483647 : Int32)) % (14 : Int32)))), .val (.int (own_hi ((p1 &&& (2147483647 : Int32)) % (14 : Int32)))), .val (.int (((own_lo ((p1 &&& (2147483647 : Int32)) % (14 : Int32))) + ((p2 &&& (15 : Int32)) - (4 : Int32))).toInt16.toInt32)), .unset, .unset] [(.int (((own_lo ((p1 &&& (2147483647 : Int32)) % (14 : Int32))) + ((p2 &&& (15 : Int32)) - (4 : Int32))).toInt16.toInt32))]))
      refine own_st (fun _ k => XS.istore X139.here hx rfl (hb hby at_53) rfl (l' := #[.val (.int p1), .val (.int p2), .val (.int p3), .val (.int ((p1 &&& (2147483647 : Int32)) % (14 : Int32))), .val (.ref x131), .val (.int (own_lo ((p1 &&& (2147483647 : Int32)) % (14 : Int32)))), .val (.int (own_hi ((p1 &&& (2147483647 : Int32)) % (14 : Int32)))), .val (.int (((own_lo ((p1 &&& (2147483647 : Int32)) % (14 : Int32))) + ((p2 &&& (15 : Int32)) - (4 : Int32))).toInt16.toInt32)), .val (.int (((own_lo ((p1 &&& (2147483647 : Int32)) % (14 : Int32))) + ((p2 &&& (15 : Int32)) - (4 : Int32))).toInt16.toInt32)), .unset]) rfl k) ?_
      show own_Go p e below s _ _ _ (T139.setTop (mkF m 55 #[.val (.int p1), .val (.int p2), .val (.int p3), .val (.int ((p1 &&& (2147483647 : Int32)) % (14 : Int32))), .val (.ref x131), .val (.int (own_lo ((p1 &&& (2147483647 : Int32)) % (14 : Int32)))), .val (.int (own_hi ((p1 &&& (2147483647 : Int32)) % (14 : Int32)))), .val (.int (((own_lo ((p1 &&& (2147483647 : Int32)) % (14 : Int32))) + ((p2 &&& (15 : Int32)) - (4 : Int32))).toInt16.toInt32)), .val (.int (((own_lo ((p1 &&& (2147483647 : Int32)) % (14 : Int32))) + ((p2 &&& (15 : Int32)) - (4 : Int32))).toInt16.toInt32)), .unset] []))
      refine own_st (fun _ k => XS.iloadN X139.here hx rfl (hb hby at_55) rfl k) ?_
      show own_Go p e below s _ _ _ (T139.setTop (mkF m 56 #[.val (.int p1), .val (.int p2), .val (.int p3), .val (.int ((p1 &&& (2147483647 : Int32)) % (14 : Int32))), .val (.ref x131), .val (.int (own_lo ((p1 &&& (2147483647 : Int32)) % (14 : Int32)))), .val (.int (own_hi ((p1 &&& (2147483647 : Int32)) % (14 : Int32)))), .val (.int (((own_lo ((p1 &&& (2147483647 : Int32)) % (14 : Int32))) + ((p2 &&& (15 : Int32)) - (4 : Int32))).toInt16.toInt32)), .val (.int (((own_lo ((p1 &&& (2147483647 : Int32)) % (14 : Int32))) + ((p2 &&& (15 : Int32)) - (4 : Int32))).toInt16.toInt32)), .unset] [(.int ((p1 &&& (2147483647 : Int32)) % (14 : Int32)))]))
      refine own_st (fun _ k => XS.ifNo X139.here hx rfl (hb hby at_56) rfl (XT.i0_eq_f hz) k) ?_
      show own_Go p e below s _ _ _ (T139.setTop (mkF m 59 #[.val (.int p1), .val (.int p2), .val (.int p3), .val (.int ((p1 &&& (2147483647 : Int32)) % (14 : Int32))), .val (.ref x131), .val (.int (own_lo ((p1 &&& (2147483647 : Int32)) % (14 : Int32)))), .val (.int (own_hi ((p1 &&& (2147483647 : Int32)) % (14 : Int32)))), .val (.int (((own_lo ((p1 &&& (2147483647 : Int32)) % (14 : Int32))) + ((p2 &&& (15 : Int32)) - (4 : Int32))).toInt16.toInt32)), .val (.int (((own_lo ((p1 &&& (2147483647 : Int32)) % (14 : Int32))) + ((p2 &&& (15 : Int32)) - (4 : Int32))).toInt16.toInt32)), .unset] []))
      refine own_st (fun _ k => XS.iload X139.here hx rfl (hb hby at_59) rfl k) ?_
      show own_Go p e below s _ _ _ (T139.setTop (mkF m 61 #[.val (.int p1), .val (.int p2), .val (.int p3), .val (.int ((p1 &&& (2147483647 : Int32)) % (14 : Int32))), .val (.ref x131), .val (.int (own_lo ((p1 &&& (2147483647 : Int32)) % (14 : Int32)))), .val (.int (own_hi ((p1 &&& (2147483647 : Int32)) % (14 : Int32)))), .val (.int (((own_lo ((p1 &&& (2147483647 : Int32)) % (14 : Int32))) + ((p2 &&& (15 : Int32)) - (4 : Int32))).toInt16.toInt32)), .val (.int (((own_lo ((p1 &&& (2147483647 : Int32)) % (14 : Int32))) + ((p2 &&& (15 : Int32)) - (4 : Int32))).toInt16.toInt32)), .unset] [(.int (((own_lo ((p1 &&& (2147483647 : Int32)) % (14 : Int32))) + ((p2 &&& (15 : Int32)) - (4 : Int32))).toInt16.toInt32))]))
      refine own_st (fun _ k => XS.iload X139.here hx rfl (hb hby at_61) rfl k) ?_
      show own_Go p e below s _ _ _ (T139.setTop (mkF m 63 #[.val (.int p1), .val (.int p2), .val (.int p3), .val (.int ((p1 &&& (2147483647 : Int32)) % (14 : Int32))), .val (.ref x131), .val (.int (own_lo ((p1 &&& (2147483647 : Int32)) % (14 : Int32)))), .val (.int (own_hi ((p1 &&& (2147483647 : Int32)) % (14 : Int32)))), .val (.int (((own_lo ((p1 &&& (2147483647 : Int32)) % (14 : Int32))) + ((p2 &&& (15 : Int32)) - (4 : Int32))).toInt16.toInt32)), .val (.int (((own_lo ((p1 &&& (2147483647 : Int32)) % (14 : Int32))) + ((p2 &&& (15 : Int32)) - (4 : Int32))).toInt16.toInt32)), .unset] [(.int (own_lo ((p1 &&& (2147483647 : Int32)) % (14 : Int32)))), (.int (((own_lo ((p1 &&& (2147483647 : Int32)) % (14 : Int32))) + ((p2 &&& (15 : Int32)) - (4 : Int32))).toInt16.toInt32))]))
      by_cases hc150 : (((own_lo ((p1 &&& (2147483647 : Int32)) % (14 : Int32))) + ((p2 &&& (15 : Int32)) - (4 : Int32))).toInt16.toInt32) < (own_lo ((p1 &&& (2147483647 : Int32)) % (14 : Int32)))
      · refine own_st (fun _ k => XS.icmpYes X139.here hx rfl (pc0 := 63) (pc' := 77) rfl (hb hby at_63) rfl (XT.ii_lt_t hc150) (by decide) (by decide) k) ?_
        show own_Go p e below s _ _ _ (T139.setTop (mkF m 77 #[.val (.int p1), .val (.int p2), .val (.int p3), .val (.int ((p1 &&& (2147483647 : Int32)) % (14 : Int32))), .val (.ref x131), .val (.int (own_lo ((p1 &&& (2147483647 : Int32)) % (14 : Int32)))), .val (.int (own_hi ((p1 &&& (2147483647 : Int32)) % (14 : Int32)))), .val (.int (((own_lo ((p1 &&& (2147483647 : Int32)) % (14 : Int32))) + ((p2 &&& (15 : Int32)) - (4 : Int32))).toInt16.toInt32)), .val (.int (((own_lo ((p1 &&& (2147483647 : Int32)) % (14 : Int32))) + ((p2 &&& (15 : Int32)) - (4 : Int32))).toInt16.toInt32)), .unset] []))
        refine own_st (fun _ k => XT.iconstV X139.here hx rfl (0 : Int32) (hb hby at_77) (by decide) k) ?_
        show own_Go p e below s _ _ _ (T139.setTop (mkF m 78 #[.val (.int p1), .val (.int p2), .val (.int p3), .val (.int ((p1 &&& (2147483647 : Int32)) % (14 : Int32))), .val (.ref x131), .val (.int (own_lo ((p1 &&& (2147483647 : Int32)) % (14 : Int32)))), .val (.int (own_hi ((p1 &&& (2147483647 : Int32)) % (14 : Int32)))), .val (.int (((own_lo ((p1 &&& (2147483647 : Int32)) % (14 : Int32))) + ((p2 &&& (15 : Int32)) - (4 : Int32))).toInt16.toInt32)), .val (.int (((own_lo ((p1 &&& (2147483647 : Int32)) % (14 : Int32))) + ((p2 &&& (15 : Int32)) - (4 : Int32))).toInt16.toInt32)), .unset] [(.int (0 : Int32))]))
        refine own_st (fun _ k => XS.istore X139.here hx rfl (hb hby at_78) rfl (l' := #[.val (.int p1), .val (.int p2), .val (.int p3), .val (.int ((p1 &&& (2147483647 : Int32)) % (14 : Int32))), .val (.ref x131), .val (.int (own_lo ((p1 &&& (2147483647 : Int32)) % (14 : Int32)))), .val (.int (own_hi ((p1 &&& (2147483647 : Int32)) % (14 : Int32)))), .val (.int (((own_lo ((p1 &&& (2147483647 : Int32)) % (14 : Int32))) + ((p2 &&& (15 : Int32)) - (4 : Int32))).toInt16.toInt32)), .val (.int (((own_lo ((p1 &&& (2147483647 : Int32)) % (14 : Int32))) + ((p2 &&& (15 : Int32)) - (4 : Int32))).toInt16.toInt32)), .val (.int (0 : Int32))]) rfl k) ?_
        show own_Go p e below s _ _ _ (T139.setTop (mkF m 80 #[.val (.int p1), .val (.int p2), .val (.int p3), .val (.int ((p1 &&& (2147483647 : Int32)) % (14 : Int32))), .val (.ref x131), .val (.int (own_lo ((p1 &&& (2147483647 : Int32)) % (14 : Int32)))), .val (.int (own_hi ((p1 &&& (2147483647 : Int32)) % (14 : Int32)))), .val (.int (((own_lo ((p1 &&& (2147483647 : Int32)) % (14 : Int32))) + ((p2 &&& (15 : Int32)) - (4 : Int32))).toInt16.toInt32)), .val (.int (((own_lo ((p1 &&& (2147483647 : Int32)) % (14 : Int32))) + ((p2 &&& (15 : Int32)) - (4 : Int32))).toInt16.toInt32)), .val (.int (0 : Int32))] []))
        refine own_st (fun _ k => XS.aload X139.here hx rfl (hb hby at_80) rfl rfl k) ?_
        show own_Go p e below s _ _ _ (T139.setTop (mkF m 82 #[.val (.int p1), .val (.int p2), .val (.int p3), .val (.int ((p1 &&& (2147483647 : Int32)) % (14 : Int32))), .val (.ref x131), .val (.int (own_lo ((p1 &&& (2147483647 : Int32)) % (14 : Int32)))), .val (.int (own_hi ((p1 &&& (2147483647 : Int32)) % (14 : Int32)))), .val (.int (((own_lo ((p1 &&& (2147483647 : Int32)) % (14 : Int32))) + ((p2 &&& (15 : Int32)) - (4 : Int32))).toInt16.toInt32)), .val (.int (((own_lo ((p1 &&& (2147483647 : Int32)) % (14 : Int32))) + ((p2 &&& (15 : Int32)) - (4 : Int32))).toInt16.toInt32)), .val (.int (0 : Int32))] [(.ref x131)]))
        refine own_st (fun _ k => XS.iload X139.here hx rfl (hb hby at_82) rfl k) ?_
        show own_Go p e below s _ _ _ (T139.setTop (mkF m 84 #[.val (.int p1), .val (.int p2), .val (.int p3), .val (.int ((p1 &&& (2147483647 : Int32)) % (14 : Int32))), .val (.ref x131), .val (.int (own_lo ((p1 &&& (2147483647 : Int32)) % (14 : Int32)))), .val (.int (own_hi ((p1 &&& (2147483647 : Int32)) % (14 : Int32)))), .val (.int (((own_lo ((p1 &&& (2147483647 : Int32)) % (14 : Int32))) + ((p2 &&& (15 : Int32)) - (4 : Int32))).toInt16.toInt32)), .val (.int (((own_lo ((p1 &&& (2147483647 : Int32)) % (14 : Int32))) + ((p2 &&& (15 : Int32)) - (4 : Int32))).toInt16.toInt32)), .val (.int (0 : Int32))] [(.int (((own_lo ((p1 &&& (2147483647 : Int32)) % (14 : Int32))) + ((p2 &&& (15 : Int32)) - (4 : Int32))).toInt16.toInt32)), (.ref x131)]))
        obtain ⟨cq151, kq151, q151a, q151b, q151c⟩ := isOf hZ eh139 q132
        obtain ⟨_, _, ⟨T151, L151, k151, n151⟩, -, X151, ⟨Lc151, hQ151, l151, y151, z151⟩, st151⟩ := X139.virtualBack hx (y := (⟨"com/example/indri/indri/wire/Api", "serves", "(S)Z"⟩ : MethodName)) (z := (⟨"com/example/indri/indri/wire/Api", "serves", "(S)Z"⟩ : MethodName)) hown (mvT hZ (hw _ (List.mem_of_getElem? (i := 14) rfl))) (mvT hZ (hw _ (List.mem_of_getElem? (i := 15) rfl))) (notFace_of_selects (args := #[]) (mvT hZ (hw _ (List.mem_of_getElem? (i := 17) rfl)))) (mvT hZ (hw _ (List.mem_of_getElem? (i := 17) rfl))) (mvT hZ (hw _ (List.mem_of_getElem? (i := 16) rfl))) (by decide) (backOf (W := 0) (own_rm_servesN l Z a0 hw [] x131 (((own_lo ((p1 &&& (2147483647 : Int32)) % (14 : Int32))) + ((p2 &&& (15 : Int32)) - (4 : Int32))).toInt16.toInt32) (own_mn ((p1 &&& (2147483647 : Int32)) % (14 : Int32))) (own_mx ((p1 &&& (2147483647 : Int32)) % (14 : Int32))) h0 n0 Z0 q133 q134 q135) hZ (hw _ (List.mem_of_getElem? (i := 18) rfl)) (hw _ (List.mem_of_getElem? (i := 6) rfl)) (by decide) (by decide)) q151a q151c (g := (mkF m 84 #[.val (.int p1), .val (.int p2), .val (.int p3), .val (.int ((p1 &&& (2147483647 : Int32)) % (14 : Int32))), .val (.ref x131), .val (.int (own_lo ((p1 &&& (2147483647 : Int32)) % (14 : Int32)))), .val (.int (own_hi ((p1 &&& (2147483647 : Int32)) % (14 : Int32)))), .val (.int (((own_lo ((p1 &&& (2147483647 : Int32)) % (14 : Int32))) + ((p2 &&& (15 : Int32)) - (4 : Int32))).toInt16.toInt32)), .val (.int (((own_lo ((p1 &&& (2147483647 : Int32)) % (14 : Int32))) + ((p2 &&& (15 : Int32)) - (4 : Int32))).toInt16.toInt32)), .val (.int (0 : Int32))] [(.int (((own_lo ((p1 &&& (2147483647 : Int32)) % (14 : Int32))) + ((p2 &&& (15 : Int32)) - (4 : Int32))).toInt16.toInt32)), (.ref x131)])) rfl (by rw [hml]; rfl) (Steps.refl _) (argsL := [(.int (((own_lo ((p1 &&& (2147483647 : Int32)) % (14 : Int32))) + ((p2 &&& (15 : Int32)) - (4 : Int32))).toInt16.toInt32))]) (rest := []) (lenOf own_pd2 rfl) rfl (by show 2 * 0 + _ ≤ _; exact Nat.le_of_eq rfl) (hb hby at_84) (fun _ _ => ⟨rfl, eh139, (by decide : 0 + 0 ≤ _), (by decide : 0 + 0 ≤ _)⟩)
        dsimp only [Pt.U, Pt.locs, Pt.cells, Pt.slots] at X151 l151 y151 z151 st151 hQ151
        subst l151 y151 z151
        obtain ⟨N151q, rfl, eh151⟩ := hQ151
        have N152 := Fr.app N140 N151q
        refine own_tr st151 ?_
        show own_Go p e below s _ _ _ (T151.setTop (mkF m 87 #[.val (.int p1), .val (.int p2), .val (.int p3), .val (.int ((p1 &&& (2147483647 : Int32)) % (14 : Int32))), .val (.ref x131), .val (.int (own_lo ((p1 &&& (2147483647 : Int32)) % (14 : Int32)))), .val (.int (own_hi ((p1 &&& (2147483647 : Int32)) % (14 : Int32)))), .val (.int (((own_lo ((p1 &&& (2147483647 : Int32)) % (14 : Int32))) + ((p2 &&& (15 : Int32)) - (4 : Int32))).toInt16.toInt32)), .val (.int (((own_lo ((p1 &&& (2147483647 : Int32)) % (14 : Int32))) + ((p2 &&& (15 : Int32)) - (4 : Int32))).toInt16.toInt32)), .val (.int (0 : Int32))] [(.int (if (((own_lo ((p1 &&& (2147483647 : Int32)) % (14 : Int32))) + ((p2 &&& (15 : Int32)) - (4 : Int32))).toInt16.toInt32) < (own_mn ((p1 &&& (2147483647 : Int32)) % (14 : Int32))) then (0 : Int32) else if (own_mx ((p1 &&& (2147483647 : Int32)) % (14 : Int32))) < (((own_lo ((p1 &&& (2147483647 : Int32)) % (14 : Int32))) + ((p2 &&& (15 : Int32)) - (4 : Int32))).toInt16.toInt32) then 0 else 1))]))
        refine own_st (fun _ k => XS.iload X151.here hx rfl (hb hby at_87) rfl k) ?_
        show own_Go p e below s _ _ _ (T151.setTop (mkF m 89 #[.val (.int p1), .val (.int p2), .val (.int p3), .val (.int ((p1 &&& (2147483647 : Int32)) % (14 : Int32))), .val (.ref x131), .val (.int (own_lo ((p1 &&& (2147483647 : Int32)) % (14 : Int32)))), .val (.int (own_hi ((p1 &&& (2147483647 : Int32)) % (14 : Int32)))), .val (.int (((own_lo ((p1 &&& (2147483647 : Int32)) % (14 : Int32))) + ((p2 &&& (15 : Int32)) - (4 : Int32))).toInt16.toInt32)), .val (.int (((own_lo ((p1 &&& (2147483647 : Int32)) % (14 : Int32))) + ((p2 &&& (15 : Int32)) - (4 : Int32))).toInt16.toInt32)), .val (.int (0 : Int32))] [(.int (0 : Int32)), (.int (if (((own_lo ((p1 &&& (2147483647 : Int32)) % (14 : Int32))) + ((p2 &&& (15 : Int32)) - (4 : Int32))).toInt16.toInt32) < (own_mn ((p1 &&& (2147483647 : Int32)) % (14 : Int32))) then (0 : Int32) else if (own_mx ((p1 &&& (2147483647 : Int32)) % (14 : Int32))) < (((own_lo ((p1 &&& (2147483647 : Int32)) % (14 : Int32))) + ((p2 &&& (15 : Int32)) - (4 : Int32))).toInt16.toInt32) then 0 else 1))]))
        refine own_st (fun _ k => XS.icmpNo X151.here hx rfl (hb hby at_89) rfl (XT.ii_ne_f (by rw [(hp hz).1, (hp hz).2, if_pos hc150])) k) ?_
        show own_Go p e below s _ _ _ (T151.setTop (mkF m 92 #[.val (.int p1), .val (.int p2), .val (.int p3), .val (.int ((p1 &&& (2147483647 : Int32)) % (14 : Int32))), .val (.ref x131), .val (.int (own_lo ((p1 &&& (2147483647 : Int32)) % (14 : Int32)))), .val (.int (own_hi ((p1 &&& (2147483647 : Int32)) % (14 : Int32)))), .val (.int (((own_lo ((p1 &&& (2147483647 : Int32)) % (14 : Int32))) + ((p2 &&& (15 : Int32)) - (4 : Int32))).toInt16.toInt32)), .val (.int (((own_lo ((p1 &&& (2147483647 : Int32)) % (14 : Int32))) + ((p2 &&& (15 : Int32)) - (4 : Int32))).toInt16.toInt32)), .val (.int (0 : Int32))] []))
        refine own_st (fun _ k => XT.iconstV X151.here hx rfl (1 : Int32) (hb hby at_92) (by decide) k) ?_
        show own_Go p e below s _ _ _ (T151.setTop (mkF m 93 #[.val (.int p1), .val (.int p2), .val (.int p3), .val (.int ((p1 &&& (2147483647 : Int32)) % (14 : Int32))), .val (.ref x131), .val (.int (own_lo ((p1 &&& (2147483647 : Int32)) % (14 : Int32)))), .val (.int (own_hi ((p1 &&& (2147483647 : Int32)) % (14 : Int32)))), .val (.int (((own_lo ((p1 &&& (2147483647 : Int32)) % (14 : Int32))) + ((p2 &&& (15 : Int32)) - (4 : Int32))).toInt16.toInt32)), .val (.int (((own_lo ((p1 &&& (2147483647 : Int32)) % (14 : Int32))) + ((p2 &&& (15 : Int32)) - (4 : Int32))).toInt16.toInt32)), .val (.int (0 : Int32))] [(.int (1 : Int32))]))
        refine own_st (fun _ k => XS.goto X151.here hx rfl (pc0 := 93) (pc' := 97) rfl (hb hby at_93) (by decide) (by decide) k) ?_
        show own_Go p e below s _ _ _ (T151.setTop (mkF m 97 #[.val (.int p1), .val (.int p2), .val (.int p3), .val (.int ((p1 &&& (2147483647 : Int32)) % (14 : Int32))), .val (.ref x131), .val (.int (own_lo ((p1 &&& (2147483647 : Int32)) % (14 : Int32)))), .val (.int (own_hi ((p1 &&& (2147483647 : Int32)) % (14 : Int32)))), .val (.int (((own_lo ((p1 &&& (2147483647 : Int32)) % (14 : Int32))) + ((p2 &&& (15 : Int32)) - (4 : Int32))).toInt16.toInt32)), .val (.int (((own_lo ((p1 &&& (2147483647 : Int32)) % (14 : Int32))) + ((p2 &&& (15 : Int32)) - (4 : Int32))).toInt16.toInt32)), .val (.int (0 : Int32))] [(.int (1 : Int32))]))
        refine own_retN X151 hx hlk Bd.returns (t := .boolean) (z' := (1 : Int32)) (by simp) (by decide) (hb hby at_97) (by decide) (by decide) ?_
        rw [eh151]
        exact ⟨N152, rfl⟩
      · refine own_st (fun _ k => XS.icmpNo X139.here hx rfl (hb hby at_63) rfl (XT.ii_lt_f hc150) k) ?_
        show own_Go p e below s _ _ _ (T139.setTop (mkF m 66 #[.val (.int p1), .val (.int p2), .val (.int p3), .val (.int ((p1 &&& (2147483647 : Int32)) % (14 : Int32))), .val (.ref x131), .val (.int (own_lo ((p1 &&& (2147483647 : Int32)) % (14 : Int32)))), .val (.int (own_hi ((p1 &&& (2147483647 : Int32)) % (14 : Int32)))), .val (.int (((own_lo ((p1 &&& (2147483647 : Int32)) % (14 : Int32))) + ((p2 &&& (15 : Int32)) - (4 : Int32))).toInt16.toInt32)), .val (.int (((own_lo ((p1 &&& (2147483647 : Int32)) % (14 : Int32))) + ((p2 &&& (15 : Int32)) - (4 : Int32))).toInt16.toInt32)), .unset] []))
        refine own_st (fun _ k => XS.iload X139.here hx rfl (hb hby at_66) rfl k) ?_
        show own_Go p e below s _ _ _ (T139.setTop (mkF m 68 #[.val (.int p1), .val (.int p2), .val (.int p3), .val (.int ((p1 &&& (2147483647 : Int32)) % (14 : Int32))), .val (.ref x131), .val (.int (own_lo ((p1 &&& (2147483647 : Int32)) % (14 : Int32)))), .val (.int (own_hi ((p1 &&& (2147483647 : Int32)) % (14 : Int32)))), .val (.int (((own_lo ((p1 &&& (2147483647 : Int32)) % (14 : Int32))) + ((p2 &&& (15 : Int32)) - (4 : Int32))).toInt16.toInt32)), .val (.int (((own_lo ((p1 &&& (2147483647 : Int32)) % (14 : Int32))) + ((p2 &&& (15 : Int32)) - (4 : Int32))).toInt16.toInt32)), .unset] [(.int (((own_lo ((p1 &&& (2147483647 : Int32)) % (14 : Int32))) + ((p2 &&& (15 : Int32)) - (4 : Int32))).toInt16.toInt32))]))
        refine own_st (fun _ k => XS.iload X139.here hx rfl (hb hby at_68) rfl k) ?_
        show own_Go p e below s _ _ _ (T139.setTop (mkF m 70 #[.val (.int p1), .val (.int p2), .val (.int p3), .val (.int ((p1 &&& (2147483647 : Int32)) % (14 : Int32))), .val (.ref x131), .val (.int (own_lo ((p1 &&& (2147483647 : Int32)) % (14 : Int32)))), .val (.int (own_hi ((p1 &&& (2147483647 : Int32)) % (14 : Int32)))), .val (.int (((own_lo ((p1 &&& (2147483647 : Int32)) % (14 : Int32))) + ((p2 &&& (15 : Int32)) - (4 : Int32))).toInt16.toInt32)), .val (.int (((own_lo ((p1 &&& (2147483647 : Int32)) % (14 : Int32))) + ((p2 &&& (15 : Int32)) - (4 : Int32))).toInt16.toInt32)), .unset] [(.int (own_hi ((p1 &&& (2147483647 : Int32)) % (14 : Int32)))), (.int (((own_lo ((p1 &&& (2147483647 : Int32)) % (14 : Int32))) + ((p2 &&& (15 : Int32)) - (4 : Int32))).toInt16.toInt32))]))
        by_cases hc153 : (own_hi ((p1 &&& (2147483647 : Int32)) % (14 : Int32))) < (((own_lo ((p1 &&& (2147483647 : Int32)) % (14 : Int32))) + ((p2 &&& (15 : Int32)) - (4 : Int32))).toInt16.toInt32)
        · refine own_st (fun _ k => XS.icmpYes X139.here hx rfl (pc0 := 70) (pc' := 77) rfl (hb hby at_70) rfl (XT.ii_gt_t hc153) (by decide) (by decide) k) ?_
          show own_Go p e below s _ _ _ (T139.setTop (mkF m 77 #[.val (.int p1), .val (.int p2), .val (.int p3), .val (.int ((p1 &&& (2147483647 : Int32)) % (14 : Int32))), .val (.ref x131), .val (.int (own_lo ((p1 &&& (2147483647 : Int32)) % (14 : Int32)))), .val (.int (own_hi ((p1 &&& (2147483647 : Int32)) % (14 : Int32)))), .val (.int (((own_lo ((p1 &&& (2147483647 : Int32)) % (14 : Int32))) + ((p2 &&& (15 : Int32)) - (4 : Int32))).toInt16.toInt32)), .val (.int (((own_lo ((p1 &&& (2147483647 : Int32)) % (14 : Int32))) + ((p2 &&& (15 : Int32)) - (4 : Int32))).toInt16.toInt32)), .unset] []))
          refine own_st (fun _ k => XT.iconstV X139.here hx rfl (0 : Int32) (hb hby at_77) (by decide) k) ?_
          show own_Go p e below s _ _ _ (T139.setTop (mkF m 78 #[.val (.int p1), .val (.int p2), .val (.int p3), .val (.int ((p1 &&& (2147483647 : Int32)) % (14 : Int32))), .val (.ref x131), .val (.int (own_lo ((p1 &&& (2147483647 : Int32)) % (14 : Int32)))), .val (.int (own_hi ((p1 &&& (2147483647 : Int32)) % (14 : Int32)))), .val (.int (((own_lo ((p1 &&& (2147483647 : Int32)) % (14 : Int32))) + ((p2 &&& (15 : Int32)) - (4 : Int32))).toInt16.toInt32)), .val (.int (((own_lo ((p1 &&& (2147483647 : Int32)) % (14 : Int32))) + ((p2 &&& (15 : Int32)) - (4 : Int32))).toInt16.toInt32)), .unset] [(.int (0 : Int32))]))
          refine own_st (fun _ k => XS.istore X139.here hx rfl (hb hby at_78) rfl (l' := #[.val (.int p1), .val (.int p2), .val (.int p3), .val (.int ((p1 &&& (2147483647 : Int32)) % (14 : Int32))), .val (.ref x131), .val (.int (own_lo ((p1 &&& (2147483647 : Int32)) % (14 : Int32)))), .val (.int (own_hi ((p1 &&& (2147483647 : Int32)) % (14 : Int32)))), .val (.int (((own_lo ((p1 &&& (2147483647 : Int32)) % (14 : Int32))) + ((p2 &&& (15 : Int32)) - (4 : Int32))).toInt16.toInt32)), .val (.int (((own_lo ((p1 &&& (2147483647 : Int32)) % (14 : Int32))) + ((p2 &&& (15 : Int32)) - (4 : Int32))).toInt16.toInt32)), .val (.int (0 : Int32))]) rfl k) ?_
          show own_Go p e below s _ _ _ (T139.setTop (mkF m 80 #[.val (.int p1), .val (.int p2), .val (.int p3), .val (.int ((p1 &&& (2147483647 : Int32)) % (14 : Int32))), .val (.ref x131), .val (.int (own_lo ((p1 &&& (2147483647 : Int32)) % (14 : Int32)))), .val (.int (own_hi ((p1 &&& (2147483647 : Int32)) % (14 : Int32)))), .val (.int (((own_lo ((p1 &&& (2147483647 : Int32)) % (14 : Int32))) + ((p2 &&& (15 : Int32)) - (4 : Int32))).toInt16.toInt32)), .val (.int (((own_lo ((p1 &&& (2147483647 : Int32)) % (14 : Int32))) + ((p2 &&& (15 : Int32)) - (4 : Int32))).toInt16.toInt32)), .val (.int (0 : Int32))] []))
          refine own_st (fun _ k => XS.aload X139.here hx rfl (hb hby at_80) rfl rfl k) ?_
          show own_Go p e below s _ _ _ (T139.setTop (mkF m 82 #[.val (.int p1), .val (.int p2), .val (.int p3), .val (.int ((p1 &&& (2147483647 : Int32)) % (14 : Int32))), .val (.ref x131), .val (.int (own_lo ((p1 &&& (2147483647 : Int32)) % (14 : Int32)))), .val (.int (own_hi ((p1 &&& (2147483647 : Int32)) % (14 : Int32)))), .val (.int (((own_lo ((p1 &&& (2147483647 : Int32)) % (14 : Int32))) + ((p2 &&& (15 : Int32)) - (4 : Int32))).toInt16.toInt32)), .val (.int (((own_lo ((p1 &&& (2147483647 : Int32)) % (14 : Int32))) + ((p2 &&& (15 : Int32)) - (4 : Int32))).toInt16.toInt32)), .val (.int (0 : Int32))] [(.ref x131)]))
          refine own_st (fun _ k => XS.iload X139.here hx rfl (hb hby at_82) rfl k) ?_
          show own_Go p e below s _ _ _ (T139.setTop (mkF m 84 #[.val (.int p1), .val (.int p2), .val (.int p3), .val (.int ((p1 &&& (2147483647 : Int32)) % (14 : Int32))), .val (.ref x131), .val (.int (own_lo ((p1 &&& (2147483647 : Int32)) % (14 : Int32)))), .val (.int (own_hi ((p1 &&& (2147483647 : Int32)) % (14 : Int32)))), .val (.int (((own_lo ((p1 &&& (2147483647 : Int32)) % (14 : Int32))) + ((p2 &&& (15 : Int32)) - (4 : Int32))).toInt16.toInt32)), .val (.int (((own_lo ((p1 &&& (2147483647 : Int32)) % (14 : Int32))) + ((p2 &&& (15 : Int32)) - (4 : Int32))).toInt16.toInt32)), .val (.int (0 : Int32))] [(.int (((own_lo ((p1 &&& (2147483647 : Int32)) % (14 : Int32))) + ((p2 &&& (15 : Int32)) - (4 : Int32))).toInt16.toInt32)), (.ref x131)]))
          obtain ⟨cq154, kq154, q154a, q154b, q154c⟩ := isOf hZ eh139 q132
          obtain ⟨_, _, ⟨T154, L154, k154, n154⟩, -, X154, ⟨Lc154, hQ154, l154, y154, z154⟩, st154⟩ := X139.virtualBack hx (y := (⟨"com/example/indri/indri/wire/Api", "serves", "(S)Z"⟩ : MethodName)) (z := (⟨"com/example/indri/indri/wire/Api", "serves", "(S)Z"⟩ : MethodName)) hown (mvT hZ (hw _ (List.mem_of_getElem? (i := 14) rfl))) (mvT hZ (hw _ (List.mem_of_getElem? (i := 15) rfl))) (notFace_of_selects (args := #[]) (mvT hZ (hw _ (List.mem_of_getElem? (i := 17) rfl)))) (mvT hZ (hw _ (List.mem_of_getElem? (i := 17) rfl))) (mvT hZ (hw _ (List.mem_of_getElem? (i := 16) rfl))) (by decide) (backOf (W := 0) (own_rm_servesN l Z a0 hw [] x131 (((own_lo ((p1 &&& (2147483647 : Int32)) % (14 : Int32))) + ((p2 &&& (15 : Int32)) - (4 : Int32))).toInt16.toInt32) (own_mn ((p1 &&& (2147483647 : Int32)) % (14 : Int32))) (own_mx ((p1 &&& (2147483647 : Int32)) % (14 : Int32))) h0 n0 Z0 q133 q134 q135) hZ (hw _ (List.mem_of_getElem? (i := 18) rfl)) (hw _ (List.mem_of_getElem? (i := 6) rfl)) (by decide) (by decide)) q154a q154c (g := (mkF m 84 #[.val (.int p1), .val (.int p2), .val (.int p3), .val (.int ((p1 &&& (2147483647 : Int32)) % (14 : Int32))), .val (.ref x131), .val (.int (own_lo ((p1 &&& (2147483647 : Int32)) % (14 : Int32)))), .val (.int (own_hi ((p1 &&& (2147483647 : Int32)) % (14 : Int32)))), .val (.int (((own_lo ((p1 &&& (2147483647 : Int32)) % (14 : Int32))) + ((p2 &&& (15 : Int32)) - (4 : Int32))).toInt16.toInt32)), .val (.int (((own_lo ((p1 &&& (2147483647 : Int32)) % (14 : Int32))) + ((p2 &&& (15 : Int32)) - (4 : Int32))).toInt16.toInt32)), .val (.int (0 : Int32))] [(.int (((own_lo ((p1 &&& (2147483647 : Int32)) % (14 : Int32))) + ((p2 &&& (15 : Int32)) - (4 : Int32))).toInt16.toInt32)), (.ref x131)])) rfl (by rw [hml]; rfl) (Steps.refl _) (argsL := [(.int (((own_lo ((p1 &&& (2147483647 : Int32)) % (14 : Int32))) + ((p2 &&& (15 : Int32)) - (4 : Int32))).toInt16.toInt32))]) (rest := []) (lenOf own_pd2 rfl) rfl (by show 2 * 0 + _ ≤ _; exact Nat.le_of_eq rfl) (hb hby at_84) (fun _ _ => ⟨rfl, eh139, (by decide : 0 + 0 ≤ _), (by decide : 0 + 0 ≤ _)⟩)
          dsimp only [Pt.U, Pt.locs, Pt.cells, Pt.slots] at X154 l154 y154 z154 st154 hQ154
          subst l154 y154 z154
          obtain ⟨N154q, rfl, eh154⟩ := hQ154
          have N155 := Fr.app N140 N154q
          refine own_tr st154 ?_
          show own_Go p e below s _ _ _ (T154.setTop (mkF m 87 #[.val (.int p1), .val (.int p2), .val (.int p3), .val (.int ((p1 &&& (2147483647 : Int32)) % (14 : Int32))), .val (.ref x131), .val (.int (own_lo ((p1 &&& (2147483647 : Int32)) % (14 : Int32)))), .val (.int (own_hi ((p1 &&& (2147483647 : Int32)) % (14 : Int32)))), .val (.int (((own_lo ((p1 &&& (2147483647 : Int32)) % (14 : Int32))) + ((p2 &&& (15 : Int32)) - (4 : Int32))).toInt16.toInt32)), .val (.int (((own_lo ((p1 &&& (2147483647 : Int32)) % (14 : Int32))) + ((p2 &&& (15 : Int32)) - (4 : Int32))).toInt16.toInt32)), .val (.int (0 : Int32))] [(.int (if (((own_lo ((p1 &&& (2147483647 : Int32)) % (14 : Int32))) + ((p2 &&& (15 : Int32)) - (4 : Int32))).toInt16.toInt32) < (own_mn ((p1 &&& (2147483647 : Int32)) % (14 : Int32))) then (0 : Int32) else if (own_mx ((p1 &&& (2147483647 : Int32)) % (14 : Int32))) < (((own_lo ((p1 &&& (2147483647 : Int32)) % (14 : Int32))) + ((p2 &&& (15 : Int32)) - (4 : Int32))).toInt16.toInt32) then 0 else 1))]))
          refine own_st (fun _ k => XS.iload X154.here hx rfl (hb hby at_87) rfl k) ?_
          show own_Go p e below s _ _ _ (T154.setTop (mkF m 89 #[.val (.int p1), .val (.int p2), .val (.int p3), .val (.int ((p1 &&& (2147483647 : Int32)) % (14 : Int32))), .val (.ref x131), .val (.int (own_lo ((p1 &&& (2147483647 : Int32)) % (14 : Int32)))), .val (.int (own_hi ((p1 &&& (2147483647 : Int32)) % (14 : Int32)))), .val (.int (((own_lo ((p1 &&& (2147483647 : Int32)) % (14 : Int32))) + ((p2 &&& (15 : Int32)) - (4 : Int32))).toInt16.toInt32)), .val (.int (((own_lo ((p1 &&& (2147483647 : Int32)) % (14 : Int32))) + ((p2 &&& (15 : Int32)) - (4 : Int32))).toInt16.toInt32)), .val (.int (0 : Int32))] [(.int (0 : Int32)), (.int (if (((own_lo ((p1 &&& (2147483647 : Int32)) % (14 : Int32))) + ((p2 &&& (15 : Int32)) - (4 : Int32))).toInt16.toInt32) < (own_mn ((p1 &&& (2147483647 : Int32)) % (14 : Int32))) then (0 : Int32) else if (own_mx ((p1 &&& (2147483647 : Int32)) % (14 : Int32))) < (((own_lo ((p1 &&& (2147483647 : Int32)) % (14 : Int32))) + ((p2 &&& (15 : Int32)) - (4 : Int32))).toInt16.toInt32) then 0 else 1))]))
          refine own_st (fun _ k => XS.icmpNo X154.here hx rfl (hb hby at_89) rfl (XT.ii_ne_f (by rw [(hp hz).1, (hp hz).2, if_neg hc150, if_pos hc153])) k) ?_
          show own_Go p e below s _ _ _ (T154.setTop (mkF m 92 #[.val (.int p1), .val (.int p2), .val (.int p3), .val (.int ((p1 &&& (2147483647 : Int32)) % (14 : Int32))), .val (.ref x131), .val (.int (own_lo ((p1 &&& (2147483647 : Int32)) % (14 : Int32)))), .val (.int (own_hi ((p1 &&& (2147483647 : Int32)) % (14 : Int32)))), .val (.int (((own_lo ((p1 &&& (2147483647 : Int32)) % (14 : Int32))) + ((p2 &&& (15 : Int32)) - (4 : Int32))).toInt16.toInt32)), .val (.int (((own_lo ((p1 &&& (2147483647 : Int32)) % (14 : Int32))) + ((p2 &&& (15 : Int32)) - (4 : Int32))).toInt16.toInt32)), .val (.int (0 : Int32))] []))
          refine own_st (fun _ k => XT.iconstV X154.here hx rfl (1 : Int32) (hb hby at_92) (by decide) k) ?_
          show own_Go p e below s _ _ _ (T154.setTop (mkF m 93 #[.val (.int p1), .val (.int p2), .val (.int p3), .val (.int ((p1 &&& (2147483647 : Int32)) % (14 : Int32))), .val (.ref x131), .val (.int (own_lo ((p1 &&& (2147483647 : Int32)) % (14 : Int32)))), .val (.int (own_hi ((p1 &&& (2147483647 : Int32)) % (14 : Int32)))), .val (.int (((own_lo ((p1 &&& (2147483647 : Int32)) % (14 : Int32))) + ((p2 &&& (15 : Int32)) - (4 : Int32))).toInt16.toInt32)), .val (.int (((own_lo ((p1 &&& (2147483647 : Int32)) % (14 : Int32))) + ((p2 &&& (15 : Int32)) - (4 : Int32))).toInt16.toInt32)), .val (.int (0 : Int32))] [(.int (1 : Int32))]))
          refine own_st (fun _ k => XS.goto X154.here hx rfl (pc0 := 93) (pc' := 97) rfl (hb hby at_93) (by decide) (by decide) k) ?_
          show own_Go p e below s _ _ _ (T154.setTop (mkF m 97 #[.val (.int p1), .val (.int p2), .val (.int p3), .val (.int ((p1 &&& (2147483647 : Int32)) % (14 : Int32))), .val (.ref x131), .val (.int (own_lo ((p1 &&& (2147483647 : Int32)) % (14 : Int32)))), .val (.int (own_hi ((p1 &&& (2147483647 : Int32)) % (14 : Int32)))), .val (.int (((own_lo ((p1 &&& (2147483647 : Int32)) % (14 : Int32))) + ((p2 &&& (15 : Int32)) - (4 : Int32))).toInt16.toInt32)), .val (.int (((own_lo ((p1 &&& (2147483647 : Int32)) % (14 : Int32))) + ((p2 &&& (15 : Int32)) - (4 : Int32))).toInt16.toInt32)), .val (.int (0 : Int32))] [(.int (1 : Int32))]))
          refine own_retN X154 hx hlk Bd.returns (t := .boolean) (z' := (1 : Int32)) (by simp) (by decide) (hb hby at_97) (by decide) (by decide) ?_
          rw [eh154]
          exact ⟨N155, rfl⟩
        · refine own_st (fun _ k => XS.icmpNo X139.here hx rfl (hb hby at_70) rfl (XT.ii_gt_f hc153) k) ?_
          show own_Go p e below s _ _ _ (T139.setTop (mkF m 73 #[.val (.int p1), .val (.int p2), .val (.int p3), .val (.int ((p1 &&& (2147483647 : Int32)) % (14 : Int32))), .val (.ref x131), .val (.int (own_lo ((p1 &&& (2147483647 : Int32)) % (14 : Int32)))), .val (.int (own_hi ((p1 &&& (2147483647 : Int32)) % (14 : Int32)))), .val (.int (((own_lo ((p1 &&& (2147483647 : Int32)) % (14 : Int32))) + ((p2 &&& (15 : Int32)) - (4 : Int32))).toInt16.toInt32)), .val (.int (((own_lo ((p1 &&& (2147483647 : Int32)) % (14 : Int32))) + ((p2 &&& (15 : Int32)) - (4 : Int32))).toInt16.toInt32)), .unset] []))
          refine own_st (fun _ k => XT.iconstV X139.here hx rfl (1 : Int32) (hb hby at_73) (by decide) k) ?_
          show own_Go p e below s _ _ _ (T139.setTop (mkF m 74 #[.val (.int p1), .val (.int p2), .val (.int p3), .val (.int ((p1 &&& (2147483647 : Int32)) % (14 : Int32))), .val (.ref x131), .val (.int (own_lo ((p1 &&& (2147483647 : Int32)) % (14 : Int32)))), .val (.int (own_hi ((p1 &&& (2147483647 : Int32)) % (14 : Int32)))), .val (.int (((own_lo ((p1 &&& (2147483647 : Int32)) % (14 : Int32))) + ((p2 &&& (15 : Int32)) - (4 : Int32))).toInt16.toInt32)), .val (.int (((own_lo ((p1 &&& (2147483647 : Int32)) % (14 : Int32))) + ((p2 &&& (15 : Int32)) - (4 : Int32))).toInt16.toInt32)), .unset] [(.int (1 : Int32))]))
          refine own_st (fun _ k => XS.goto X139.here hx rfl (pc0 := 74) (pc' := 78) rfl (hb hby at_74) (by decide) (by decide) k) ?_
          show own_Go p e below s _ _ _ (T139.setTop (mkF m 78 #[.val (.int p1), .val (.int p2), .val (.int p3), .val (.int ((p1 &&& (2147483647 : Int32)) % (14 : Int32))), .val (.ref x131), .val (.int (own_lo ((p1 &&& (2147483647 : Int32)) % (14 : Int32)))), .val (.int (own_hi ((p1 &&& (2147483647 : Int32)) % (14 : Int32)))), .val (.int (((own_lo ((p1 &&& (2147483647 : Int32)) % (14 : Int32))) + ((p2 &&& (15 : Int32)) - (4 : Int32))).toInt16.toInt32)), .val (.int (((own_lo ((p1 &&& (2147483647 : Int32)) % (14 : Int32))) + ((p2 &&& (15 : Int32)) - (4 : Int32))).toInt16.toInt32)), .unset] [(.int (1 : Int32))]))
          refine own_st (fun _ k => XS.istore X139.here hx rfl (hb hby at_78) rfl (l' := #[.val (.int p1), .val (.int p2), .val (.int p3), .val (.int ((p1 &&& (2147483647 : Int32)) % (14 : Int32))), .val (.ref x131), .val (.int (own_lo ((p1 &&& (2147483647 : Int32)) % (14 : Int32)))), .val (.int (own_hi ((p1 &&& (2147483647 : Int32)) % (14 : Int32)))), .val (.int (((own_lo ((p1 &&& (2147483647 : Int32)) % (14 : Int32))) + ((p2 &&& (15 : Int32)) - (4 : Int32))).toInt16.toInt32)), .val (.int (((own_lo ((p1 &&& (2147483647 : Int32)) % (14 : Int32))) + ((p2 &&& (15 : Int32)) - (4 : Int32))).toInt16.toInt32)), .val (.int (1 : Int32))]) rfl k) ?_
          show own_Go p e below s _ _ _ (T139.setTop (mkF m 80 #[.val (.int p1), .val (.int p2), .val (.int p3), .val (.int ((p1 &&& (2147483647 : Int32)) % (14 : Int32))), .val (.ref x131), .val (.int (own_lo ((p1 &&& (2147483647 : Int32)) % (14 : Int32)))), .val (.int (own_hi ((p1 &&& (2147483647 : Int32)) % (14 : Int32)))), .val (.int (((own_lo ((p1 &&& (2147483647 : Int32)) % (14 : Int32))) + ((p2 &&& (15 : Int32)) - (4 : Int32))).toInt16.toInt32)), .val (.int (((own_lo ((p1 &&& (2147483647 : Int32)) % (14 : Int32))) + ((p2 &&& (15 : Int32)) - (4 : Int32))).toInt16.toInt32)), .val (.int (1 : Int32))] []))
          refine own_st (fun _ k => XS.aload X139.here hx rfl (hb hby at_80) rfl rfl k) ?_
          show own_Go p e below s _ _ _ (T139.setTop (mkF m 82 #[.val (.int p1), .val (.int p2), .val (.int p3), .val (.int ((p1 &&& (2147483647 : Int32)) % (14 : Int32))), .val (.ref x131), .val (.int (own_lo ((p1 &&& (2147483647 : Int32)) % (14 : Int32)))), .val (.int (own_hi ((p1 &&& (2147483647 : Int32)) % (14 : Int32)))), .val (.int (((own_lo ((p1 &&& (2147483647 : Int32)) % (14 : Int32))) + ((p2 &&& (15 : Int32)) - (4 : Int32))).toInt16.toInt32)), .val (.int (((own_lo ((p1 &&& (2147483647 : Int32)) % (14 : Int32))) + ((p2 &&& (15 : Int32)) - (4 : Int32))).toInt16.toInt32)), .val (.int (1 : Int32))] [(.ref x131)]))
          refine own_st (fun _ k => XS.iload X139.here hx rfl (hb hby at_82) rfl k) ?_
          show own_Go p e below s _ _ _ (T139.setTop (mkF m 84 #[.val (.int p1), .val (.int p2), .val (.int p3), .val (.int ((p1 &&& (2147483647 : Int32)) % (14 : Int32))), .val (.ref x131), .val (.int (own_lo ((p1 &&& (2147483647 : Int32)) % (14 : Int32)))), .val (.int (own_hi ((p1 &&& (2147483647 : Int32)) % (14 : Int32)))), .val (.int (((own_lo ((p1 &&& (2147483647 : Int32)) % (14 : Int32))) + ((p2 &&& (15 : Int32)) - (4 : Int32))).toInt16.toInt32)), .val (.int (((own_lo ((p1 &&& (2147483647 : Int32)) % (14 : Int32))) + ((p2 &&& (15 : Int32)) - (4 : Int32))).toInt16.toInt32)), .val (.int (1 : Int32))] [(.int (((own_lo ((p1 &&& (2147483647 : Int32)) % (14 : Int32))) + ((p2 &&& (15 : Int32)) - (4 : Int32))).toInt16.toInt32)), (.ref x131)]))
          obtain ⟨cq156, kq156, q156a, q156b, q156c⟩ := isOf hZ eh139 q132
          obtain ⟨_, _, ⟨T156, L156, k156, n156⟩, -, X156, ⟨Lc156, hQ156, l156, y156, z156⟩, st156⟩ := X139.virtualBack hx (y := (⟨"com/example/indri/indri/wire/Api", "serves", "(S)Z"⟩ : MethodName)) (z := (⟨"com/example/indri/indri/wire/Api", "serves", "(S)Z"⟩ : MethodName)) hown (mvT hZ (hw _ (List.mem_of_getElem? (i := 14) rfl))) (mvT hZ (hw _ (List.mem_of_getElem? (i := 15) rfl))) (notFace_of_selects (args := #[]) (mvT hZ (hw _ (List.mem_of_getElem? (i := 17) rfl)))) (mvT hZ (hw _ (List.mem_of_getElem? (i := 17) rfl))) (mvT hZ (hw _ (List.mem_of_getElem? (i := 16) rfl))) (by decide) (backOf (W := 0) (own_rm_servesN l Z a0 hw [] x131 (((own_lo ((p1 &&& (2147483647 : Int32)) % (14 : Int32))) + ((p2 &&& (15 : Int32)) - (4 : Int32))).toInt16.toInt32) (own_mn ((p1 &&& (2147483647 : Int32)) % (14 : Int32))) (own_mx ((p1 &&& (2147483647 : Int32)) % (14 : Int32))) h0 n0 Z0 q133 q134 q135) hZ (hw _ (List.mem_of_getElem? (i := 18) rfl)) (hw _ (List.mem_of_getElem? (i := 6) rfl)) (by decide) (by decide)) q156a q156c (g := (mkF m 84 #[.val (.int p1), .val (.int p2), .val (.int p3), .val (.int ((p1 &&& (2147483647 : Int32)) % (14 : Int32))), .val (.ref x131), .val (.int (own_lo ((p1 &&& (2147483647 : Int32)) % (14 : Int32)))), .val (.int (own_hi ((p1 &&& (2147483647 : Int32)) % (14 : Int32)))), .val (.int (((own_lo ((p1 &&& (2147483647 : Int32)) % (14 : Int32))) + ((p2 &&& (15 : Int32)) - (4 : Int32))).toInt16.toInt32)), .val (.int (((own_lo ((p1 &&& (2147483647 : Int32)) % (14 : Int32))) + ((p2 &&& (15 : Int32)) - (4 : Int32))).toInt16.toInt32)), .val (.int (1 : Int32))] [(.int (((own_lo ((p1 &&& (2147483647 : Int32)) % (14 : Int32))) + ((p2 &&& (15 : Int32)) - (4 : Int32))).toInt16.toInt32)), (.ref x131)])) rfl (by rw [hml]; rfl) (Steps.refl _) (argsL := [(.int (((own_lo ((p1 &&& (2147483647 : Int32)) % (14 : Int32))) + ((p2 &&& (15 : Int32)) - (4 : Int32))).toInt16.toInt32))]) (rest := []) (lenOf own_pd2 rfl) rfl (by show 2 * 0 + _ ≤ _; exact Nat.le_of_eq rfl) (hb hby at_84) (fun _ _ => ⟨rfl, eh139, (by decide : 0 + 0 ≤ _), (by decide : 0 + 0 ≤ _)⟩)
          dsimp only [Pt.U, Pt.locs, Pt.cells, Pt.slots] at X156 l156 y156 z156 st156 hQ156
          subst l156 y156 z156
          obtain ⟨N156q, rfl, eh156⟩ := hQ156
          have N157 := Fr.app N140 N156q
          refine own_tr st156 ?_
          show own_Go p e below s _ _ _ (T156.setTop (mkF m 87 #[.val (.int p1), .val (.int p2), .val (.int p3), .val (.int ((p1 &&& (2147483647 : Int32)) % (14 : Int32))), .val (.ref x131), .val (.int (own_lo ((p1 &&& (2147483647 : Int32)) % (14 : Int32)))), .val (.int (own_hi ((p1 &&& (2147483647 : Int32)) % (14 : Int32)))), .val (.int (((own_lo ((p1 &&& (2147483647 : Int32)) % (14 : Int32))) + ((p2 &&& (15 : Int32)) - (4 : Int32))).toInt16.toInt32)), .val (.int (((own_lo ((p1 &&& (2147483647 : Int32)) % (14 : Int32))) + ((p2 &&& (15 : Int32)) - (4 : Int32))).toInt16.toInt32)), .val (.int (1 : Int32))] [(.int (if (((own_lo ((p1 &&& (2147483647 : Int32)) % (14 : Int32))) + ((p2 &&& (15 : Int32)) - (4 : Int32))).toInt16.toInt32) < (own_mn ((p1 &&& (2147483647 : Int32)) % (14 : Int32))) then (0 : Int32) else if (own_mx ((p1 &&& (2147483647 : Int32)) % (14 : Int32))) < (((own_lo ((p1 &&& (2147483647 : Int32)) % (14 : Int32))) + ((p2 &&& (15 : Int32)) - (4 : Int32))).toInt16.toInt32) then 0 else 1))]))
          refine own_st (fun _ k => XS.iload X156.here hx rfl (hb hby at_87) rfl k) ?_
          show own_Go p e below s _ _ _ (T156.setTop (mkF m 89 #[.val (.int p1), .val (.int p2), .val (.int p3), .val (.int ((p1 &&& (2147483647 : Int32)) % (14 : Int32))), .val (.ref x131), .val (.int (own_lo ((p1 &&& (2147483647 : Int32)) % (14 : Int32)))), .val (.int (own_hi ((p1 &&& (2147483647 : Int32)) % (14 : Int32)))), .val (.int (((own_lo ((p1 &&& (2147483647 : Int32)) % (14 : Int32))) + ((p2 &&& (15 : Int32)) - (4 : Int32))).toInt16.toInt32)), .val (.int (((own_lo ((p1 &&& (2147483647 : Int32)) % (14 : Int32))) + ((p2 &&& (15 : Int32)) - (4 : Int32))).toInt16.toInt32)), .val (.int (1 : Int32))] [(.int (1 : Int32)), (.int (if (((own_lo ((p1 &&& (2147483647 : Int32)) % (14 : Int32))) + ((p2 &&& (15 : Int32)) - (4 : Int32))).toInt16.toInt32) < (own_mn ((p1 &&& (2147483647 : Int32)) % (14 : Int32))) then (0 : Int32) else if (own_mx ((p1 &&& (2147483647 : Int32)) % (14 : Int32))) < (((own_lo ((p1 &&& (2147483647 : Int32)) % (14 : Int32))) + ((p2 &&& (15 : Int32)) - (4 : Int32))).toInt16.toInt32) then 0 else 1))]))
          refine own_st (fun _ k => XS.icmpNo X156.here hx rfl (hb hby at_89) rfl (XT.ii_ne_f (by rw [(hp hz).1, (hp hz).2, if_neg hc150, if_neg hc153])) k) ?_
          show own_Go p e below s _ _ _ (T156.setTop (mkF m 92 #[.val (.int p1), .val (.int p2), .val (.int p3), .val (.int ((p1 &&& (2147483647 : Int32)) % (14 : Int32))), .val (.ref x131), .val (.int (own_lo ((p1 &&& (2147483647 : Int32)) % (14 : Int32)))), .val (.int (own_hi ((p1 &&& (2147483647 : Int32)) % (14 : Int32)))), .val (.int (((own_lo ((p1 &&& (2147483647 : Int32)) % (14 : Int32))) + ((p2 &&& (15 : Int32)) - (4 : Int32))).toInt16.toInt32)), .val (.int (((own_lo ((p1 &&& (2147483647 : Int32)) % (14 : Int32))) + ((p2 &&& (15 : Int32)) - (4 : Int32))).toInt16.toInt32)), .val (.int (1 : Int32))] []))
          refine own_st (fun _ k => XT.iconstV X156.here hx rfl (1 : Int32) (hb hby at_92) (by decide) k) ?_
          show own_Go p e below s _ _ _ (T156.setTop (mkF m 93 #[.val (.int p1), .val (.int p2), .val (.int p3), .val (.int ((p1 &&& (2147483647 : Int32)) % (14 : Int32))), .val (.ref x131), .val (.int (own_lo ((p1 &&& (2147483647 : Int32)) % (14 : Int32)))), .val (.int (own_hi ((p1 &&& (2147483647 : Int32)) % (14 : Int32)))), .val (.int (((own_lo ((p1 &&& (2147483647 : Int32)) % (14 : Int32))) + ((p2 &&& (15 : Int32)) - (4 : Int32))).toInt16.toInt32)), .val (.int (((own_lo ((p1 &&& (2147483647 : Int32)) % (14 : Int32))) + ((p2 &&& (15 : Int32)) - (4 : Int32))).toInt16.toInt32)), .val (.int (1 : Int32))] [(.int (1 : Int32))]))
          refine own_st (fun _ k => XS.goto X156.here hx rfl (pc0 := 93) (pc' := 97) rfl (hb hby at_93) (by decide) (by decide) k) ?_
          show own_Go p e below s _ _ _ (T156.setTop (mkF m 97 #[.val (.int p1), .val (.int p2), .val (.int p3), .val (.int ((p1 &&& (2147483647 : Int32)) % (14 : Int32))), .val (.ref x131), .val (.int (own_lo ((p1 &&& (2147483647 : Int32)) % (14 : Int32)))), .val (.int (own_hi ((p1 &&& (2147483647 : Int32)) % (14 : Int32)))), .val (.int (((own_lo ((p1 &&& (2147483647 : Int32)) % (14 : Int32))) + ((p2 &&& (15 : Int32)) - (4 : Int32))).toInt16.toInt32)), .val (.int (((own_lo ((p1 &&& (2147483647 : Int32)) % (14 : Int32))) + ((p2 &&& (15 : Int32)) - (4 : Int32))).toInt16.toInt32)), .val (.int (1 : Int32))] [(.int (1 : Int32))]))
          refine own_retN X156 hx hlk Bd.returns (t := .boolean) (z' := (1 : Int32)) (by simp) (by decide) (hb hby at_97) (by decide) (by decide) ?_
          rw [eh156]
          exact ⟨N157, rfl⟩
set_option maxRecDepth 65536 in
set_option maxHeartbeats 40000000 in
theorem comes_1 {Post : Tables → Env → Array Value → State → Outcome → State → Prop} (hpost : ∀ tb e args s v u, (limb_1_1.after args s (.returned v) u = true ∧ limb_1_2.after args s (.returned v) u = true ∧ True) → FrameEnd s (.returned v) u (Jvm.fieldLocs frame_1_writes args s ++ Jvm.arrayLocs frame_1_arrays args s ++ Jvm.staticLocs frame_1_statics s) 0 0 → Post tb e args s (.returned v) u) :
    ArmFor flags0 classFile x code maxLocals ret World_1 tables_1 room_1 Calls_1 rest_1 Pre_1 Post := by
  intro l hfl _ _ p e ha hc hk s m args below hf hA hF happ hP
  obtain ⟨hcalls, hrest, hpre⟩ := hP
  obtain ⟨-, -, -, hnamed, -, -, -, hat⟩ := (Spec.applies_iff hf).mp happ
  obtain ⟨hg, hn⟩ := and_e (Cond.before_iff.mp (show (Jvm.Cond.and given_1 narrow_1).before args s = true from hpre))
  obtain ⟨gg0, hg0⟩ := and_e hg
  obtain ⟨gg1, hg1⟩ := and_e hg0
  obtain ⟨gg2, hg2⟩ := and_e hg1
  obtain ⟨w0, w1, w2, rfl⟩ : ∃ w0 w1 w2 : Value, args = #[w0, w1, w2] := by
    have hs : args.size = 3 := by simpa [Cond.value, given_1] using gg0
    obtain ⟨L⟩ := args
    match L, hs with
    | [w0, w1, w2], _ => exact ⟨w0, w1, w2, rfl⟩
  have hw := fun d (hd : d ∈ tables_1) => atoms_spec (ws := Jvm.Cond.code x code maxLocals ret :: tables_1) hat d (List.mem_cons_of_mem _ hd)
  have hfit : Fit s := fun {y c} hc i hi => by
    obtain ⟨ha, rfl⟩ := Array.getElem?_eq_some_iff.mp hc
    have q := List.all_eq_true.mp ((Array.all_eq_true_iff_forall_mem.mp hF) _ (Array.getElem_mem ha)) i (List.mem_range.mpr hi)
    simpa [Array.getElem?_eq_getElem hi] using q
  obtain ⟨i0, ei0⟩ := is_v gg1
  obtain rfl : w0 = (.int i0) := Option.some.inj ei0
  obtain ⟨i1, ei1⟩ := is_v gg2
  obtain rfl : w1 = (.int i1) := Option.some.inj ei1
  obtain ⟨i2, ei2⟩ := is_v hg2
  obtain rfl : w2 = (.int i2) := Option.some.inj ei2
  obtain ⟨nn0, hn0⟩ := and_e hn
  obtain ⟨nn1, hn1⟩ := and_e hn0
  obtain ⟨nn2, hn2⟩ := and_e hn1
  obtain ⟨nn3, hn3⟩ := and_e hn2
  obtain ⟨nn4, hn4⟩ := and_e hn3
  obtain ⟨nn5, hn5⟩ := and_e hn4
  obtain ⟨nn6, hn6⟩ := and_e hn5
  obtain ⟨nn7, hn7⟩ := and_e hn6
  obtain ⟨nn8, hn8⟩ := and_e hn7
  obtain ⟨nn9, hn9⟩ := and_e hn8
  obtain ⟨nn10, hn10⟩ := and_e hn9
  obtain ⟨nn11, hn11⟩ := and_e hn10
  obtain ⟨nn12, hn12⟩ := and_e hn11
  obtain ⟨nn13, hn13⟩ := and_e hn12
  obtain ⟨nn14, hn14⟩ := and_e hn13
  obtain ⟨nn15, hn15⟩ := and_e hn14
  obtain ⟨nn16, hn16⟩ := and_e hn15
  obtain ⟨nn17, hn17⟩ := and_e hn16
  obtain ⟨nn18, hn18⟩ := and_e hn17
  obtain ⟨nn19, hn19⟩ := and_e hn18
  obtain ⟨nn20, hn20⟩ := and_e hn19
  obtain ⟨nn21, hn21⟩ := and_e hn20
  obtain ⟨nn22, hn22⟩ := and_e hn21
  obtain ⟨nn23, hn23⟩ := and_e hn22
  obtain ⟨nn24, hn24⟩ := and_e hn23
  obtain ⟨nn25, hn25⟩ := and_e hn24
  obtain ⟨nn26, hn26⟩ := and_e hn25
  obtain ⟨nn27, hn27⟩ := and_e hn26
  obtain ⟨nn28, hn28⟩ := and_e hn27
  obtain ⟨nn29, hn29⟩ := and_e hn28
  obtain ⟨nn30, hn30⟩ := and_e hn29
  obtain ⟨nn31, hn31⟩ := and_e hn30
  obtain ⟨nn32, hn32⟩ := and_e hn31
  obtain ⟨nn33, hn33⟩ := and_e hn32
  obtain ⟨nn34, hn34⟩ := and_e hn33
  obtain ⟨nn35, hn35⟩ := and_e hn34
  obtain ⟨nn36, hn36⟩ := and_e hn35
  obtain ⟨nn37, hn37⟩ := and_e hn36
  obtain ⟨nn38, hn38⟩ := and_e hn37
  obtain ⟨nn39, hn39⟩ := and_e hn38
  obtain ⟨nn40, hn40⟩ := and_e hn39
  obtain ⟨nn41, hn41⟩ := and_e hn40
  obtain ⟨nn42, hn42⟩ := and_e hn41
  obtain ⟨nn43, hn43⟩ := and_e hn42
  obtain ⟨nn44, hn44⟩ := and_e hn43
  obtain ⟨nn45, hn45⟩ := and_e hn44
  obtain ⟨nn46, hn46⟩ := and_e hn45
  obtain ⟨nn47, hn47⟩ := and_e hn46
  obtain ⟨nn48, hn48⟩ := and_e hn47
  obtain ⟨nn49, hn49⟩ := and_e hn48
  obtain ⟨nn50, hn50⟩ := and_e hn49
  obtain ⟨nn51, hn51⟩ := and_e hn50
  obtain ⟨nn52, hn52⟩ := and_e hn51
  obtain ⟨nn53, hn53⟩ := and_e hn52
  obtain ⟨nn54, hn54⟩ := and_e hn53
  obtain ⟨a_PRODUCE, e_a_PRODUCE⟩ := exa_v nn0
  have Ex_a_PRODUCE : Exa s s.heap a_PRODUCE "com/example/indri/indri/wire/Api" := Exa.start e_a_PRODUCE nn0
  have S_a_PRODUCE : Sta s s.heap "com/example/indri/indri/wire/Api" "PRODUCE" "Lcom/example/indri/indri/wire/Api;" (.ref a_PRODUCE) := Sta.start e_a_PRODUCE (Or.inr ⟨(hw _ (List.mem_of_getElem? (i := 6) rfl)), (hw _ (List.mem_of_getElem? (i := 7) rfl))⟩)
  obtain ⟨f_PRODUCE_notServedReason, e_f_PRODUCE_notServedReason⟩ := exa_v nn1
  have Ex_f_PRODUCE_notServedReason : Exa s s.heap f_PRODUCE_notServedReason "java/lang/String" := Exa.start e_f_PRODUCE_notServedReason nn1
  have F_PRODUCE_notServedReason : Fld s s.heap a_PRODUCE "com/example/indri/indri/wire/Api" "notServedReason" "Ljava/lang/String;" (.ref f_PRODUCE_notServedReason) := Fld.start ((fld_at e_a_PRODUCE).symm.trans e_f_PRODUCE_notServedReason)
  obtain ⟨a_FETCH, e_a_FETCH⟩ := exa_v nn2
  have Ex_a_FETCH : Exa s s.heap a_FETCH "com/example/indri/indri/wire/Api" := Exa.start e_a_FETCH nn2
  have S_a_FETCH : Sta s s.heap "com/example/indri/indri/wire/Api" "FETCH" "Lcom/example/indri/indri/wire/Api;" (.ref a_FETCH) := Sta.start e_a_FETCH (Or.inr ⟨(hw _ (List.mem_of_getElem? (i := 6) rfl)), (hw _ (List.mem_of_getElem? (i := 22) rfl))⟩)
  have ev_nn3 := own_eqV nn3 (null_at)
  have F_FETCH_notServedReason : Fld s s.heap a_FETCH "com/example/indri/indri/wire/Api" "notServedReason" "Ljava/lang/String;" .null := Fld.start ((fld_at e_a_FETCH).symm.trans ev_nn3)
  have ev_nn4 := own_eqV nn4 (Term.int_eval _)
  have F_FETCH_minVersion : Fld s s.heap a_FETCH "com/example/indri/indri/wire/Api" "minVersion" "S" (.int (4 : Int32)) := Fld.start ((fld_at e_a_FETCH).symm.trans ev_nn4)
  have ev_nn5 := own_eqV nn5 (Term.int_eval _)
  have F_FETCH_maxVersion : Fld s s.heap a_FETCH "com/example/indri/indri/wire/Api" "maxVersion" "S" (.int (11 : Int32)) := Fld.start ((fld_at e_a_FETCH).symm.trans ev_nn5)
  obtain ⟨a_SYNC_GROUP, e_a_SYNC_GROUP⟩ := exa_v nn6
  have Ex_a_SYNC_GROUP : Exa s s.heap a_SYNC_GROUP "com/example/indri/indri/wire/Api" := Exa.start e_a_SYNC_GROUP nn6
  have S_a_SYNC_GROUP : Sta s s.heap "com/example/indri/indri/wire/Api" "SYNC_GROUP" "Lcom/example/indri/indri/wire/Api;" (.ref a_SYNC_GROUP) := Sta.start e_a_SYNC_GROUP (Or.inr ⟨(hw _ (List.mem_of_getElem? (i := 6) rfl)), (hw _ (List.mem_of_getElem? (i := 28) rfl))⟩)
  have ev_nn7 := own_eqV nn7 (null_at)
  have F_SYNC_GROUP_notServedReason : Fld s s.heap a_SYNC_GROUP "com/example/indri/indri/wire/Api" "notServedReason" "Ljava/lang/String;" .null := Fld.start ((fld_at e_a_SYNC_GROUP).symm.trans ev_nn7)
  have ev_nn8 := own_eqV nn8 (Term.int_eval _)
  have F_SYNC_GROUP_minVersion : Fld s s.heap a_SYNC_GROUP "com/example/indri/indri/wire/Api" "minVersion" "S" (.int (0 : Int32)) := Fld.start ((fld_at e_a_SYNC_GROUP).symm.trans ev_nn8)
  have ev_nn9 := own_eqV nn9 (Term.int_eval _)
  have F_SYNC_GROUP_maxVersion : Fld s s.heap a_SYNC_GROUP "com/example/indri/indri/wire/Api" "maxVersion" "S" (.int (5 : Int32)) := Fld.start ((fld_at e_a_SYNC_GROUP).symm.trans ev_nn9)
  obtain ⟨a_OFFSET_FETCH, e_a_OFFSET_FETCH⟩ := exa_v nn10
  have Ex_a_OFFSET_FETCH : Exa s s.heap a_OFFSET_FETCH "com/example/indri/indri/wire/Api" := Exa.start e_a_OFFSET_FETCH nn10
  have S_a_OFFSET_FETCH : Sta s s.heap "com/example/indri/indri/wire/Api" "OFFSET_FETCH" "Lcom/example/indri/indri/wire/Api;" (.ref a_OFFSET_FETCH) := Sta.start e_a_OFFSET_FETCH (Or.inr ⟨(hw _ (List.mem_of_getElem? (i := 6) rfl)), (hw _ (List.mem_of_getElem? (i := 30) rfl))⟩)
  have ev_nn11 := own_eqV nn11 (null_at)
  have F_OFFSET_FETCH_notServedReason : Fld s s.heap a_OFFSET_FETCH "com/example/indri/indri/wire/Api" "notServedReason" "Ljava/lang/String;" .null := Fld.start ((fld_at e_a_OFFSET_FETCH).symm.trans ev_nn11)
  have ev_nn12 := own_eqV nn12 (Term.int_eval _)
  have F_OFFSET_FETCH_minVersion : Fld s s.heap a_OFFSET_FETCH "com/example/indri/indri/wire/Api" "minVersion" "S" (.int (1 : Int32)) := Fld.start ((fld_at e_a_OFFSET_FETCH).symm.trans ev_nn12)
  obtain ⟨a_HEARTBEAT, e_a_HEARTBEAT⟩ := exa_v nn13
  have Ex_a_HEARTBEAT : Exa s s.heap a_HEARTBEAT "com/example/indri/indri/wire/Api" := Exa.start e_a_HEARTBEAT nn13
  have S_a_HEARTBEAT : Sta s s.heap "com/example/indri/indri/wire/Api" "HEARTBEAT" "Lcom/example/indri/indri/wire/Api;" (.ref a_HEARTBEAT) := Sta.start e_a_HEARTBEAT (Or.inr ⟨(hw _ (List.mem_of_getElem? (i := 6) rfl)), (hw _ (List.mem_of_getElem? (i := 32) rfl))⟩)
  have ev_nn14 := own_eqV nn14 (null_at)
  have F_HEARTBEAT_notServedReason : Fld s s.heap a_HEARTBEAT "com/example/indri/indri/wire/Api" "notServedReason" "Ljava/lang/String;" .null := Fld.start ((fld_at e_a_HEARTBEAT).symm.trans ev_nn14)
  have ev_nn15 := own_eqV nn15 (Term.int_eval _)
  have F_HEARTBEAT_minVersion : Fld s s.heap a_HEARTBEAT "com/example/indri/indri/wire/Api" "minVersion" "S" (.int (0 : Int32)) := Fld.start ((fld_at e_a_HEARTBEAT).symm.trans ev_nn15)
  obtain ⟨a_LIST_OFFSETS, e_a_LIST_OFFSETS⟩ := exa_v nn16
  have Ex_a_LIST_OFFSETS : Exa s s.heap a_LIST_OFFSETS "com/example/indri/indri/wire/Api" := Exa.start e_a_LIST_OFFSETS nn16
  have S_a_LIST_OFFSETS : Sta s s.heap "com/example/indri/indri/wire/Api" "LIST_OFFSETS" "Lcom/example/indri/indri/wire/Api;" (.ref a_LIST_OFFSETS) := Sta.start e_a_LIST_OFFSETS (Or.inr ⟨(hw _ (List.mem_of_getElem? (i := 6) rfl)), (hw _ (List.mem_of_getElem? (i := 34) rfl))⟩)
  have ev_nn17 := own_eqV nn17 (null_at)
  have F_LIST_OFFSETS_notServedReason : Fld s s.heap a_LIST_OFFSETS "com/example/indri/indri/wire/Api" "notServedReason" "Ljava/lang/String;" .null := Fld.start ((fld_at e_a_LIST_OFFSETS).symm.trans ev_nn17)
  have ev_nn18 := own_eqV nn18 (Term.int_eval _)
  have F_LIST_OFFSETS_minVersion : Fld s s.heap a_LIST_OFFSETS "com/example/indri/indri/wire/Api" "minVersion" "S" (.int (1 : Int32)) := Fld.start ((fld_at e_a_LIST_OFFSETS).symm.trans ev_nn18)
  have ev_nn19 := own_eqV nn19 (Term.int_eval _)
  have F_LIST_OFFSETS_maxVersion : Fld s s.heap a_LIST_OFFSETS "com/example/indri/indri/wire/Api" "maxVersion" "S" (.int (5 : Int32)) := Fld.start ((fld_at e_a_LIST_OFFSETS).symm.trans ev_nn19)
  have ev_nn20 := own_eqV nn20 (Term.int_eval _)
  have F_HEARTBEAT_maxVersion : Fld s s.heap a_HEARTBEAT "com/example/indri/indri/wire/Api" "maxVersion" "S" (.int (4 : Int32)) := Fld.start ((fld_at e_a_HEARTBEAT).symm.trans ev_nn20)
  obtain ⟨a_METADATA, e_a_METADATA⟩ := exa_v nn21
  have Ex_a_METADATA : Exa s s.heap a_METADATA "com/example/indri/indri/wire/Api" := Exa.start e_a_METADATA nn21
  have S_a_METADATA : Sta s s.heap "com/example/indri/indri/wire/Api" "METADATA" "Lcom/example/indri/indri/wire/Api;" (.ref a_METADATA) := Sta.start e_a_METADATA (Or.inr ⟨(hw _ (List.mem_of_getElem? (i := 6) rfl)), (hw _ (List.mem_of_getElem? (i := 36) rfl))⟩)
  have ev_nn22 := own_eqV nn22 (null_at)
  have F_METADATA_notServedReason : Fld s s.heap a_METADATA "com/example/indri/indri/wire/Api" "notServedReason" "Ljava/lang/String;" .null := Fld.start ((fld_at e_a_METADATA).symm.trans ev_nn22)
  have ev_nn23 := own_eqV nn23 (Term.int_eval _)
  have F_METADATA_minVersion : Fld s s.heap a_METADATA "com/example/indri/indri/wire/Api" "minVersion" "S" (.int (0 : Int32)) := Fld.start ((fld_at e_a_METADATA).symm.trans ev_nn23)
  have ev_nn24 := own_eqV nn24 (Term.int_eval _)
  have F_METADATA_maxVersion : Fld s s.heap a_METADATA "com/example/indri/indri/wire/Api" "maxVersion" "S" (.int (4 : Int32)) := Fld.start ((fld_at e_a_METADATA).symm.trans ev_nn24)
  obtain ⟨a_DESCRIBE_GROUPS, e_a_DESCRIBE_GROUPS⟩ := exa_v nn25
  have Ex_a_DESCRIBE_GROUPS : Exa s s.heap a_DESCRIBE_GROUPS "com/example/indri/indri/wire/Api" := Exa.start e_a_DESCRIBE_GROUPS nn25
  have S_a_DESCRIBE_GROUPS : Sta s s.heap "com/example/indri/indri/wire/Api" "DESCRIBE_GROUPS" "Lcom/example/indri/indri/wire/Api;" (.ref a_DESCRIBE_GROUPS) := Sta.start e_a_DESCRIBE_GROUPS (Or.inr ⟨(hw _ (List.mem_of_getElem? (i := 6) rfl)), (hw _ (List.mem_of_getElem? (i := 38) rfl))⟩)
  have ev_nn26 := own_eqV nn26 (null_at)
  have F_DESCRIBE_GROUPS_notServedReason : Fld s s.heap a_DESCRIBE_GROUPS "com/example/indri/indri/wire/Api" "notServedReason" "Ljava/lang/String;" .null := Fld.start ((fld_at e_a_DESCRIBE_GROUPS).symm.trans ev_nn26)
  have ev_nn27 := own_eqV nn27 (Term.int_eval _)
  have F_DESCRIBE_GROUPS_minVersion : Fld s s.heap a_DESCRIBE_GROUPS "com/example/indri/indri/wire/Api" "minVersion" "S" (.int (0 : Int32)) := Fld.start ((fld_at e_a_DESCRIBE_GROUPS).symm.trans ev_nn27)
  have ev_nn28 := own_eqV nn28 (Term.int_eval _)
  have F_DESCRIBE_GROUPS_maxVersion : Fld s s.heap a_DESCRIBE_GROUPS "com/example/indri/indri/wire/Api" "maxVersion" "S" (.int (5 : Int32)) := Fld.start ((fld_at e_a_DESCRIBE_GROUPS).symm.trans ev_nn28)
  obtain ⟨a_LEAVE_GROUP, e_a_LEAVE_GROUP⟩ := exa_v nn29
  have Ex_a_LEAVE_GROUP : Exa s s.heap a_LEAVE_GROUP "com/example/indri/indri/wire/Api" := Exa.start e_a_LEAVE_GROUP nn29
  have S_a_LEAVE_GROUP : Sta s s.heap "com/example/indri/indri/wire/Api" "LEAVE_GROUP" "Lcom/example/indri/indri/wire/Api;" (.ref a_LEAVE_GROUP) := Sta.start e_a_LEAVE_GROUP (Or.inr ⟨(hw _ (List.mem_of_getElem? (i := 6) rfl)), (hw _ (List.mem_of_getElem? (i := 40) rfl))⟩)
  have ev_nn30 := own_eqV nn30 (null_at)
  have F_LEAVE_GROUP_notServedReason : Fld s s.heap a_LEAVE_GROUP "com/example/indri/indri/wire/Api" "notServedReason" "Ljava/lang/String;" .null := Fld.start ((fld_at e_a_LEAVE_GROUP).symm.trans ev_nn30)
  have ev_nn31 := own_eqV nn31 (Term.int_eval _)
  have F_LEAVE_GROUP_minVersion : Fld s s.heap a_LEAVE_GROUP "com/example/indri/indri/wire/Api" "minVersion" "S" (.int (0 : Int32)) := Fld.start ((fld_at e_a_LEAVE_GROUP).symm.trans ev_nn31)
  have ev_nn32 := own_eqV nn32 (Term.int_eval _)
  have F_LEAVE_GROUP_maxVersion : Fld s s.heap a_LEAVE_GROUP "com/example/indri/indri/wire/Api" "maxVersion" "S" (.int (5 : Int32)) := Fld.start ((fld_at e_a_LEAVE_GROUP).symm.trans ev_nn32)
  obtain ⟨a_API_VERSIONS, e_a_API_VERSIONS⟩ := exa_v nn33
  have Ex_a_API_VERSIONS : Exa s s.heap a_API_VERSIONS "com/example/indri/indri/wire/Api" := Exa.start e_a_API_VERSIONS nn33
  have S_a_API_VERSIONS : Sta s s.heap "com/example/indri/indri/wire/Api" "API_VERSIONS" "Lcom/example/indri/indri/wire/Api;" (.ref a_API_VERSIONS) := Sta.start e_a_API_VERSIONS (Or.inr ⟨(hw _ (List.mem_of_getElem? (i := 6) rfl)), (hw _ (List.mem_of_getElem? (i := 42) rfl))⟩)
  have ev_nn34 := own_eqV nn34 (null_at)
  have F_API_VERSIONS_notServedReason : Fld s s.heap a_API_VERSIONS "com/example/indri/indri/wire/Api" "notServedReason" "Ljava/lang/String;" .null := Fld.start ((fld_at e_a_API_VERSIONS).symm.trans ev_nn34)
  have ev_nn35 := own_eqV nn35 (Term.int_eval _)
  have F_API_VERSIONS_minVersion : Fld s s.heap a_API_VERSIONS "com/example/indri/indri/wire/Api" "minVersion" "S" (.int (0 : Int32)) := Fld.start ((fld_at e_a_API_VERSIONS).symm.trans ev_nn35)
  have ev_nn36 := own_eqV nn36 (Term.int_eval _)
  have F_API_VERSIONS_maxVersion : Fld s s.heap a_API_VERSIONS "com/example/indri/indri/wire/Api" "maxVersion" "S" (.int (3 : Int32)) := Fld.start ((fld_at e_a_API_VERSIONS).symm.trans ev_nn36)
  have ev_nn37 := own_eqV nn37 (Term.int_eval _)
  have F_OFFSET_FETCH_maxVersion : Fld s s.heap a_OFFSET_FETCH "com/example/indri/indri/wire/Api" "maxVersion" "S" (.int (7 : Int32)) := Fld.start ((fld_at e_a_OFFSET_FETCH).symm.trans ev_nn37)
  obtain ⟨a_OFFSET_COMMIT, e_a_OFFSET_COMMIT⟩ := exa_v nn38
  have Ex_a_OFFSET_COMMIT : Exa s s.heap a_OFFSET_COMMIT "com/example/indri/indri/wire/Api" := Exa.start e_a_OFFSET_COMMIT nn38
  have S_a_OFFSET_COMMIT : Sta s s.heap "com/example/indri/indri/wire/Api" "OFFSET_COMMIT" "Lcom/example/indri/indri/wire/Api;" (.ref a_OFFSET_COMMIT) := Sta.start e_a_OFFSET_COMMIT (Or.inr ⟨(hw _ (List.mem_of_getElem? (i := 6) rfl)), (hw _ (List.mem_of_getElem? (i := 44) rfl))⟩)
  have ev_nn39 := own_eqV nn39 (null_at)
  have F_OFFSET_COMMIT_notServedReason : Fld s s.heap a_OFFSET_COMMIT "com/example/indri/indri/wire/Api" "notServedReason" "Ljava/lang/String;" .null := Fld.start ((fld_at e_a_OFFSET_COMMIT).symm.trans ev_nn39)
  have ev_nn40 := own_eqV nn40 (Term.int_eval _)
  have F_OFFSET_COMMIT_minVersion : Fld s s.heap a_OFFSET_COMMIT "com/example/indri/indri/wire/Api" "minVersion" "S" (.int (2 : Int32)) := Fld.start ((fld_at e_a_OFFSET_COMMIT).symm.trans ev_nn40)
  have ev_nn41 := own_eqV nn41 (Term.int_eval _)
  have F_OFFSET_COMMIT_maxVersion : Fld s s.heap a_OFFSET_COMMIT "com/example/indri/indri/wire/Api" "maxVersion" "S" (.int (7 : Int32)) := Fld.start ((fld_at e_a_OFFSET_COMMIT).symm.trans ev_nn41)
  obtain ⟨a_JOIN_GROUP, e_a_JOIN_GROUP⟩ := exa_v nn42
  have Ex_a_JOIN_GROUP : Exa s s.heap a_JOIN_GROUP "com/example/indri/indri/wire/Api" := Exa.start e_a_JOIN_GROUP nn42
  have S_a_JOIN_GROUP : Sta s s.heap "com/example/indri/indri/wire/Api" "JOIN_GROUP" "Lcom/example/indri/indri/wire/Api;" (.ref a_JOIN_GROUP) := Sta.start e_a_JOIN_GROUP (Or.inr ⟨(hw _ (List.mem_of_getElem? (i := 6) rfl)), (hw _ (List.mem_of_getElem? (i := 46) rfl))⟩)
  have ev_nn43 := own_eqV nn43 (null_at)
  have F_JOIN_GROUP_notServedReason : Fld s s.heap a_JOIN_GROUP "com/example/indri/indri/wire/Api" "notServedReason" "Ljava/lang/String;" .null := Fld.start ((fld_at e_a_JOIN_GROUP).symm.trans ev_nn43)
  have ev_nn44 := own_eqV nn44 (Term.int_eval _)
  have F_JOIN_GROUP_minVersion : Fld s s.heap a_JOIN_GROUP "com/example/indri/indri/wire/Api" "minVersion" "S" (.int (0 : Int32)) := Fld.start ((fld_at e_a_JOIN_GROUP).symm.trans ev_nn44)
  have ev_nn45 := own_eqV nn45 (Term.int_eval _)
  have F_JOIN_GROUP_maxVersion : Fld s s.heap a_JOIN_GROUP "com/example/indri/indri/wire/Api" "maxVersion" "S" (.int (9 : Int32)) := Fld.start ((fld_at e_a_JOIN_GROUP).symm.trans ev_nn45)
  obtain ⟨a_FIND_COORDINATOR, e_a_FIND_COORDINATOR⟩ := exa_v nn46
  have Ex_a_FIND_COORDINATOR : Exa s s.heap a_FIND_COORDINATOR "com/example/indri/indri/wire/Api" := Exa.start e_a_FIND_COORDINATOR nn46
  have S_a_FIND_COORDINATOR : Sta s s.heap "com/example/indri/indri/wire/Api" "FIND_COORDINATOR" "Lcom/example/indri/indri/wire/Api;" (.ref a_FIND_COORDINATOR) := Sta.start e_a_FIND_COORDINATOR (Or.inr ⟨(hw _ (List.mem_of_getElem? (i := 6) rfl)), (hw _ (List.mem_of_getElem? (i := 48) rfl))⟩)
  have ev_nn47 := own_eqV nn47 (null_at)
  have F_FIND_COORDINATOR_notServedReason : Fld s s.heap a_FIND_COORDINATOR "com/example/indri/indri/wire/Api" "notServedReason" "Ljava/lang/String;" .null := Fld.start ((fld_at e_a_FIND_COORDINATOR).symm.trans ev_nn47)
  have ev_nn48 := own_eqV nn48 (Term.int_eval _)
  have F_FIND_COORDINATOR_minVersion : Fld s s.heap a_FIND_COORDINATOR "com/example/indri/indri/wire/Api" "minVersion" "S" (.int (0 : Int32)) := Fld.start ((fld_at e_a_FIND_COORDINATOR).symm.trans ev_nn48)
  have ev_nn49 := own_eqV nn49 (Term.int_eval _)
  have F_FIND_COORDINATOR_maxVersion : Fld s s.heap a_FIND_COORDINATOR "com/example/indri/indri/wire/Api" "maxVersion" "S" (.int (2 : Int32)) := Fld.start ((fld_at e_a_FIND_COORDINATOR).symm.trans ev_nn49)
  obtain ⟨a_LIST_GROUPS, e_a_LIST_GROUPS⟩ := exa_v nn50
  have Ex_a_LIST_GROUPS : Exa s s.heap a_LIST_GROUPS "com/example/indri/indri/wire/Api" := Exa.start e_a_LIST_GROUPS nn50
  have S_a_LIST_GROUPS : Sta s s.heap "com/example/indri/indri/wire/Api" "LIST_GROUPS" "Lcom/example/indri/indri/wire/Api;" (.ref a_LIST_GROUPS) := Sta.start e_a_LIST_GROUPS (Or.inr ⟨(hw _ (List.mem_of_getElem? (i := 6) rfl)), (hw _ (List.mem_of_getElem? (i := 50) rfl))⟩)
  have ev_nn51 := own_eqV nn51 (null_at)
  have F_LIST_GROUPS_notServedReason : Fld s s.heap a_LIST_GROUPS "com/example/indri/indri/wire/Api" "notServedReason" "Ljava/lang/String;" .null := Fld.start ((fld_at e_a_LIST_GROUPS).symm.trans ev_nn51)
  have ev_nn52 := own_eqV nn52 (Term.int_eval _)
  have F_LIST_GROUPS_minVersion : Fld s s.heap a_LIST_GROUPS "com/example/indri/indri/wire/Api" "minVersion" "S" (.int (0 : Int32)) := Fld.start ((fld_at e_a_LIST_GROUPS).symm.trans ev_nn52)
  have ev_nn53 := own_eqV nn53 (Term.int_eval _)
  have F_LIST_GROUPS_maxVersion : Fld s s.heap a_LIST_GROUPS "com/example/indri/indri/wire/Api" "maxVersion" "S" (.int (4 : Int32)) := Fld.start ((fld_at e_a_LIST_GROUPS).symm.trans ev_nn53)
  have ev_nn54 := own_eqV nn54 (Term.int_eval _)
  have F_PRODUCE_minVersion : Fld s s.heap a_PRODUCE "com/example/indri/indri/wire/Api" "minVersion" "S" (.int (3 : Int32)) := Fld.start ((fld_at e_a_PRODUCE).symm.trans ev_nn54)
  have ev_hn54 := own_eqV hn54 (Term.int_eval _)
  have F_PRODUCE_maxVersion : Fld s s.heap a_PRODUCE "com/example/indri/indri/wire/Api" "maxVersion" "S" (.int (3 : Int32)) := Fld.start ((fld_at e_a_PRODUCE).symm.trans ev_hn54)
  obtain ⟨n, o, h1, h2, h3, _, L, rfl, ⟨N, rfl⟩, hq⟩ := own_law l s _ hw tables_1 i0 i1 i2 a_PRODUCE f_PRODUCE_notServedReason a_FETCH a_SYNC_GROUP a_OFFSET_FETCH a_HEARTBEAT a_LIST_OFFSETS a_METADATA a_DESCRIBE_GROUPS a_LEAVE_GROUP a_API_VERSIONS a_OFFSET_COMMIT a_JOIN_GROUP a_FIND_COORDINATOR a_LIST_GROUPS s.heap s.heap.size (Nat.le_refl _) (Old.start s) Ex_a_PRODUCE S_a_PRODUCE Ex_f_PRODUCE_notServedReason F_PRODUCE_notServedReason Ex_a_FETCH S_a_FETCH F_FETCH_notServedReason F_FETCH_minVersion F_FETCH_maxVersion Ex_a_SYNC_GROUP S_a_SYNC_GROUP F_SYNC_GROUP_notServedReason F_SYNC_GROUP_minVersion F_SYNC_GROUP_maxVersion Ex_a_OFFSET_FETCH S_a_OFFSET_FETCH F_OFFSET_FETCH_notServedReason F_OFFSET_FETCH_minVersion Ex_a_HEARTBEAT S_a_HEARTBEAT F_HEARTBEAT_notServedReason F_HEARTBEAT_minVersion Ex_a_LIST_OFFSETS S_a_LIST_OFFSETS F_LIST_OFFSETS_notServedReason F_LIST_OFFSETS_minVersion F_LIST_OFFSETS_maxVersion F_HEARTBEAT_maxVersion Ex_a_METADATA S_a_METADATA F_METADATA_notServedReason F_METADATA_minVersion F_METADATA_maxVersion Ex_a_DESCRIBE_GROUPS S_a_DESCRIBE_GROUPS F_DESCRIBE_GROUPS_notServedReason F_DESCRIBE_GROUPS_minVersion F_DESCRIBE_GROUPS_maxVersion Ex_a_LEAVE_GROUP S_a_LEAVE_GROUP F_LEAVE_GROUP_notServedReason F_LEAVE_GROUP_minVersion F_LEAVE_GROUP_maxVersion Ex_a_API_VERSIONS S_a_API_VERSIONS F_API_VERSIONS_notServedReason F_API_VERSIONS_minVersion F_API_VERSIONS_maxVersion F_OFFSET_FETCH_maxVersion Ex_a_OFFSET_COMMIT S_a_OFFSET_COMMIT F_OFFSET_COMMIT_notServedReason F_OFFSET_COMMIT_minVersion F_OFFSET_COMMIT_maxVersion Ex_a_JOIN_GROUP S_a_JOIN_GROUP F_JOIN_GROUP_notServedReason F_JOIN_GROUP_minVersion F_JOIN_GROUP_maxVersion Ex_a_FIND_COORDINATOR S_a_FIND_COORDINATOR F_FIND_COORDINATOR_notServedReason F_FIND_COORDINATOR_minVersion F_FIND_COORDINATOR_maxVersion Ex_a_LIST_GROUPS S_a_LIST_GROUPS F_LIST_GROUPS_notServedReason F_LIST_GROUPS_minVersion F_LIST_GROUPS_maxVersion F_PRODUCE_minVersion F_PRODUCE_maxVersion p e ha hc hk s m _ below hf ((Spec.applies_iff_loose hf).mp happ).1 ⟨rfl, State.Warmed39.refl s, rfl⟩ trivial
  refine ⟨n, _, h1, h2, h3, hpost _ _ _ _ _ _ ⟨Cond.after_iff.mpr rfl, Cond.after_iff.mpr (eq_i res_at (Term.int_eval (1)) rfl), trivial⟩ ⟨hq.1, hq.2.1, (hq.2.2.sift fun y hy => Or.inr (N y hy)).mono (by decide) (by decide)⟩⟩
theorem main_1_1 : Claimed_1_1 := comes_1 fun _ _ _ _ _ _ h hF => ⟨h.1, hF⟩
theorem main_1_2 : Claimed_1_2 := comes_1 fun _ _ _ _ _ _ h hF => ⟨h.2.1, hF⟩
end Jvm.Pilot.@@N@@
namespace Jvm.Pilot.@@N@@
open Jvm Jvm.ClassFile Sem Op Lib Jvm.Free Jvm.Stand Jvm.Pilot.@@N@@.Jvm.D
/-! MADE BY PROGRAM (witnessworld.py) out of the Statement's table words and the real class files: 15 classes; the members and pool entries that the words name. The judged class is class 1, her method 4. -/
namespace start1
open Jvm.ClassFile
def u (s : String) : CpInfo := .utf8 (stringToUtf16 s)
/-- a pool by its gaps: so many unusable entries, then the entry; so many at the end -/
def gap : Nat → List CpInfo → List CpInfo
  | 0, r => r
  | n + 1, r => .unusable :: gap n r
def poolList (es : List (Nat × CpInfo)) (last : Nat) : List CpInfo := es.foldr (fun e r => gap e.1 (e.2 :: r)) (gap last [])
def pool (es : List (Nat × CpInfo)) (last : Nat) : Array CpInfo := ⟨poolList es last⟩
def fileOf (pool : Array CpInfo) (this : Nat) (attrs : Array Attribute := #[]) (ms : Array MethodInfo := #[]) (fl : Nat := 33) (sup : Nat := 0) (ifs : Array Nat := #[]) (fds : Array FieldInfo := #[]) : ClassFile where
  minorVersion := 0
  majorVersion := 65
  constantPool := pool
  accessFlags := fl
  thisClass := this
  superClass := sup
  interfaces := ifs
  fields := fds
  methods := ms
  attributes := attrs
def plain (name : String) (sup : Option ClassId) : Class where
  name := name
  kind := .ordinary
  loader := none
  accessFlags := 33
  super := sup
  interfaces := #[]
  cf := none
  fields := #[]
  methods := #[]
  instanceTypes := #[]
  staticTypes := #[]
  resolved := #[]
  callSites := []
  init := .initialized
  statics := none
  mirror := none

def pool0 : Array CpInfo := pool [(5, u "<init>"), (0, u "()V"), (1, .class_ 10), (1, u "java/lang/Object")] 113

def k0m0 : Method := { name := "<init>", desc := "()V", sig := { parameters := [], returnType := none }, accessFlags := 1, code := none }
/-- java/lang/Object -/
def k0 : Class := { plain "java/lang/Object" none with
  accessFlags := 33
  interfaces := #[]
  cf := some (fileOf pool0 8 #[] #[{ accessFlags := 1, nameIndex := 5, descriptorIndex := 6, attributes := #[] }] 33 0 #[] #[])
  fields := #[]
  methods := #[k0m0]
  instanceTypes := #[]
  staticTypes := #[]
  resolved := Array.replicate 124 none
  statics := none }

def pool1 : Array CpInfo := pool [(2, .class_ 4), (1, u "java/lang/Object"), (0, u "<init>"), (0, u "()V"), (0, .fieldref 8 9), (0, .class_ 10), (0, .nameAndType 11 12), (0, u "com/example/indri/indri/wire/Api"), (0, u "PRODUCE"), (0, u "Lcom/example/indri/indri/wire/Api;"), (0, .fieldref 8 14), (0, .nameAndType 15 12), (0, u "FETCH"), (0, .fieldref 8 17), (0, .nameAndType 18 12), (0, u "LIST_OFFSETS"), (0, .fieldref 8 20), (0, .nameAndType 21 12), (0, u "METADATA"), (0, .fieldref 8 23), (0, .nameAndType 24 12), (0, u "OFFSET_COMMIT"), (0, .fieldref 8 26), (0, .nameAndType 27 12), (0, u "OFFSET_FETCH"), (0, .fieldref 8 29), (0, .nameAndType 30 12), (0, u "FIND_COORDINATOR"), (0, .fieldref 8 32), (0, .nameAndType 33 12), (0, u "JOIN_GROUP"), (0, .fieldref 8 35), (0, .nameAndType 36 12), (0, u "HEARTBEAT"), (0, .fieldref 8 38), (0, .nameAndType 39 12), (0, u "LEAVE_GROUP"), (0, .fieldref 8 41), (0, .nameAndType 42 12), (0, u "SYNC_GROUP"), (0, .fieldref 8 44), (0, .nameAndType 45 12), (0, u "DESCRIBE_GROUPS"), (0, .fieldref 8 47), (0, .nameAndType 48 12), (0, u "LIST_GROUPS"), (0, .fieldref 8 50), (0, .nameAndType 51 12), (0, u "API_VERSIONS"), (0, .integer 2147483647), (0, .methodref 54 55), (0, .class_ 56), (0, .nameAndType 57 58), (0, u "com/example/indri/indri/wire/ApiServesPinLaw"), (0, u "pick"), (0, u "(I)Lcom/example/indri/indri/wire/Api;"), (0, .methodref 54 60), (0, .nameAndType 61 62), (0, u "lo"), (0, u "(I)I"), (0, .methodref 54 64), (0, .nameAndType 65 62), (0, u "hi"), (0, .methodref 8 67), (0, .nameAndType 68 69), (0, u "serves"), (0, u "(S)Z"), (3, u "law"), (0, u "(III)Z")] 2

def k1m0 : Method := { name := "<init>", desc := "()V", sig := { parameters := [], returnType := none }, accessFlags := 1, code := none }
def k1c1 : Code := { maxStack := 2, maxLocals := 1, code := method_2_code, exceptionTable := #[], attributes := #[] }
def k1m1 : Method := { name := "pick", desc := "(I)Lcom/example/indri/indri/wire/Api;", sig := { parameters := [.int], returnType := some (.object "com/example/indri/indri/wire/Api") }, accessFlags := 10, code := some k1c1 }
def k1c2 : Code := { maxStack := 2, maxLocals := 1, code := method_3_code, exceptionTable := #[], attributes := #[] }
def k1m2 : Method := { name := "lo", desc := "(I)I", sig := { parameters := [.int], returnType := some .int }, accessFlags := 10, code := some k1c2 }
def k1c3 : Code := { maxStack := 2, maxLocals := 1, code := method_4_code, exceptionTable := #[], attributes := #[] }
def k1m3 : Method := { name := "hi", desc := "(I)I", sig := { parameters := [.int], returnType := some .int }, accessFlags := 10, code := some k1c3 }
def k1c4 : Code := { maxStack := 3, maxLocals := 10, code := code, exceptionTable := #[], attributes := #[] }
def k1m4 : Method := { name := "law", desc := "(III)Z", sig := { parameters := [.int, .int, .int], returnType := some .boolean }, accessFlags := 9, code := some k1c4 }
/-- com/example/indri/indri/wire/ApiServesPinLaw -/
def k1 : Class := { plain "com/example/indri/indri/wire/ApiServesPinLaw" (some 0) with
  accessFlags := 49
  interfaces := #[]
  cf := some (fileOf pool1 54 #[] #[{ accessFlags := 1, nameIndex := 5, descriptorIndex := 6, attributes := #[] }, { accessFlags := 10, nameIndex := 57, descriptorIndex := 58, attributes := #[] }, { accessFlags := 10, nameIndex := 61, descriptorIndex := 62, attributes := #[] }, { accessFlags := 10, nameIndex := 65, descriptorIndex := 62, attributes := #[] }, { accessFlags := 9, nameIndex := 73, descriptorIndex := 74, attributes := #[] }] 49 2 #[] #[])
  fields := #[]
  methods := #[k1m0, k1m1, k1m2, k1m3, k1m4]
  instanceTypes := #[]
  staticTypes := #[]
  resolved := Array.replicate 77 none
  statics := none }

def pool2 : Array CpInfo := pool [(1, .class_ 2), (0, u "java/lang/constant/Constable"), (0, .class_ 4), (0, u "java/lang/Object")] 6

/-- java/lang/constant/Constable -/
def k2 : Class := { plain "java/lang/constant/Constable" (some 0) with
  accessFlags := 1537
  interfaces := #[]
  cf := some (fileOf pool2 1 #[] #[] 1537 3 #[] #[])
  fields := #[]
  methods := #[]
  instanceTypes := #[]
  staticTypes := #[]
  resolved := Array.replicate 11 none
  statics := none }

def pool3 : Array CpInfo := pool [(1, .class_ 2), (0, u "java/lang/Comparable"), (0, .class_ 4), (0, u "java/lang/Object")] 7

/-- java/lang/Comparable -/
def k3 : Class := { plain "java/lang/Comparable" (some 0) with
  accessFlags := 1537
  interfaces := #[]
  cf := some (fileOf pool3 1 #[] #[] 1537 3 #[] #[])
  fields := #[]
  methods := #[]
  instanceTypes := #[]
  staticTypes := #[]
  resolved := Array.replicate 12 none
  statics := none }

def pool4 : Array CpInfo := pool [(1, .class_ 2), (0, u "java/io/Serializable"), (0, .class_ 4), (0, u "java/lang/Object")] 2

/-- java/io/Serializable -/
def k4 : Class := { plain "java/io/Serializable" (some 0) with
  accessFlags := 1537
  interfaces := #[]
  cf := some (fileOf pool4 1 #[] #[] 1537 3 #[] #[])
  fields := #[]
  methods := #[]
  instanceTypes := #[]
  staticTypes := #[]
  resolved := Array.replicate 7 none
  statics := none }

def pool5 : Array CpInfo := pool [(2, .class_ 4), (1, u "java/lang/Enum"), (0, u "name"), (0, u "Ljava/lang/String;"), (2, u "ordinal"), (0, u "I"), (1, .class_ 14), (1, u "java/lang/Object"), (4, u "hash"), (86, .class_ 108), (1, u "java/lang/Enum$EnumDesc"), (2, .class_ 112), (0, u "java/lang/constant/Constable"), (0, .class_ 114), (0, u "java/lang/Comparable"), (0, .class_ 116), (0, u "java/io/Serializable")] 87

/-- java/lang/Enum -/
def k5 : Class := { plain "java/lang/Enum" (some 0) with
  accessFlags := 1057
  interfaces := #[2, 3, 4]
  cf := some (fileOf pool5 2 #[.nestMembers #[106]] #[] 1057 12 #[111, 113, 115] #[{ accessFlags := 18, nameIndex := 5, descriptorIndex := 6, attributes := #[] }, { accessFlags := 18, nameIndex := 9, descriptorIndex := 10, attributes := #[] }, { accessFlags := 2, nameIndex := 19, descriptorIndex := 10, attributes := #[] }])
  fields := #[{ name := "name", type := (.object "java/lang/String"), accessFlags := 18, slot := 0, constantValue := 0 }, { name := "ordinal", type := .int, accessFlags := 18, slot := 1, constantValue := 0 }, { name := "hash", type := .int, accessFlags := 2, slot := 2, constantValue := 0 }]
  methods := #[]
  instanceTypes := #[(.object "java/lang/String"), .int, .int]
  staticTypes := #[]
  resolved := Array.replicate 204 none
  statics := none }

def pool6 : Array CpInfo := pool [(1, .class_ 2), (0, u "com/example/indri/indri/wire/Api"), (2, u "PRODUCE"), (0, u "Lcom/example/indri/indri/wire/Api;"), (2, u "FETCH"), (2, u "LIST_OFFSETS"), (2, u "METADATA"), (2, u "OFFSET_COMMIT"), (2, u "OFFSET_FETCH"), (2, u "FIND_COORDINATOR"), (2, u "JOIN_GROUP"), (2, u "HEARTBEAT"), (2, u "LEAVE_GROUP"), (2, u "SYNC_GROUP"), (2, u "DESCRIBE_GROUPS"), (2, u "LIST_GROUPS"), (2, u "API_VERSIONS"), (2, u "$VALUES"), (0, u "[Lcom/example/indri/indri/wire/Api;"), (6, .class_ 58), (1, u "java/lang/Enum"), (14, u "key"), (0, u "S"), (2, u "callName"), (0, u "Ljava/lang/String;"), (0, .fieldref 1 80), (0, .nameAndType 81 74), (0, u "minVersion"), (0, .fieldref 1 83), (0, .nameAndType 84 74), (0, u "maxVersion"), (2, u "firstFlexibleVersion"), (0, u "I"), (0, .fieldref 1 90), (0, .nameAndType 91 78), (0, u "notServedReason"), (22, u "(S)Z"), (71, u "serves")] 25

def k6c0 : Code := { maxStack := 2, maxLocals := 2, code := prog_47_method_12_code, exceptionTable := #[], attributes := #[] }
def k6m0 : Method := { name := "serves", desc := "(S)Z", sig := { parameters := [.short], returnType := some .boolean }, accessFlags := 1, code := some k6c0 }
/-- com/example/indri/indri/wire/Api -/
def k6 : Class := { plain "com/example/indri/indri/wire/Api" (some 5) with
  accessFlags := 16433
  interfaces := #[]
  cf := some (fileOf pool6 1 #[] #[{ accessFlags := 1, nameIndex := 186, descriptorIndex := 114, attributes := #[] }] 16433 56 #[] #[{ accessFlags := 16409, nameIndex := 5, descriptorIndex := 6, attributes := #[] }, { accessFlags := 16409, nameIndex := 9, descriptorIndex := 6, attributes := #[] }, { accessFlags := 16409, nameIndex := 12, descriptorIndex := 6, attributes := #[] }, { accessFlags := 16409, nameIndex := 15, descriptorIndex := 6, attributes := #[] }, { accessFlags := 16409, nameIndex := 18, descriptorIndex := 6, attributes := #[] }, { accessFlags := 16409, nameIndex := 21, descriptorIndex := 6, attributes := #[] }, { accessFlags := 16409, nameIndex := 24, descriptorIndex := 6, attributes := #[] }, { accessFlags := 16409, nameIndex := 27, descriptorIndex := 6, attributes := #[] }, { accessFlags := 16409, nameIndex := 30, descriptorIndex := 6, attributes := #[] }, { accessFlags := 16409, nameIndex := 33, descriptorIndex := 6, attributes := #[] }, { accessFlags := 16409, nameIndex := 36, descriptorIndex := 6, attributes := #[] }, { accessFlags := 16409, nameIndex := 39, descriptorIndex := 6, attributes := #[] }, { accessFlags := 16409, nameIndex := 42, descriptorIndex := 6, attributes := #[] }, { accessFlags := 16409, nameIndex := 45, descriptorIndex := 6, attributes := #[] }, { accessFlags := 18, nameIndex := 73, descriptorIndex := 74, attributes := #[] }, { accessFlags := 18, nameIndex := 77, descriptorIndex := 78, attributes := #[] }, { accessFlags := 18, nameIndex := 81, descriptorIndex := 74, attributes := #[] }, { accessFlags := 18, nameIndex := 84, descriptorIndex := 74, attributes := #[] }, { accessFlags := 18, nameIndex := 87, descriptorIndex := 88, attributes := #[] }, { accessFlags := 18, nameIndex := 91, descriptorIndex := 78, attributes := #[] }, { accessFlags := 4122, nameIndex := 48, descriptorIndex := 49, attributes := #[] }])
  fields := #[{ name := "PRODUCE", type := (.object "com/example/indri/indri/wire/Api"), accessFlags := 16409, slot := 0, constantValue := 0 }, { name := "FETCH", type := (.object "com/example/indri/indri/wire/Api"), accessFlags := 16409, slot := 1, constantValue := 0 }, { name := "LIST_OFFSETS", type := (.object "com/example/indri/indri/wire/Api"), accessFlags := 16409, slot := 2, constantValue := 0 }, { name := "METADATA", type := (.object "com/example/indri/indri/wire/Api"), accessFlags := 16409, slot := 3, constantValue := 0 }, { name := "OFFSET_COMMIT", type := (.object "com/example/indri/indri/wire/Api"), accessFlags := 16409, slot := 4, constantValue := 0 }, { name := "OFFSET_FETCH", type := (.object "com/example/indri/indri/wire/Api"), accessFlags := 16409, slot := 5, constantValue := 0 }, { name := "FIND_COORDINATOR", type := (.object "com/example/indri/indri/wire/Api"), accessFlags := 16409, slot := 6, constantValue := 0 }, { name := "JOIN_GROUP", type := (.object "com/example/indri/indri/wire/Api"), accessFlags := 16409, slot := 7, constantValue := 0 }, { name := "HEARTBEAT", type := (.object "com/example/indri/indri/wire/Api"), accessFlags := 16409, slot := 8, constantValue := 0 }, { name := "LEAVE_GROUP", type := (.object "com/example/indri/indri/wire/Api"), accessFlags := 16409, slot := 9, constantValue := 0 }, { name := "SYNC_GROUP", type := (.object "com/example/indri/indri/wire/Api"), accessFlags := 16409, slot := 10, constantValue := 0 }, { name := "DESCRIBE_GROUPS", type := (.object "com/example/indri/indri/wire/Api"), accessFlags := 16409, slot := 11, constantValue := 0 }, { name := "LIST_GROUPS", type := (.object "com/example/indri/indri/wire/Api"), accessFlags := 16409, slot := 12, constantValue := 0 }, { name := "API_VERSIONS", type := (.object "com/example/indri/indri/wire/Api"), accessFlags := 16409, slot := 13, constantValue := 0 }, { name := "key", type := .short, accessFlags := 18, slot := 3, constantValue := 0 }, { name := "callName", type := (.object "java/lang/String"), accessFlags := 18, slot := 4, constantValue := 0 }, { name := "minVersion", type := .short, accessFlags := 18, slot := 5, constantValue := 0 }, { name := "maxVersion", type := .short, accessFlags := 18, slot := 6, constantValue := 0 }, { name := "firstFlexibleVersion", type := .int, accessFlags := 18, slot := 7, constantValue := 0 }, { name := "notServedReason", type := (.object "java/lang/String"), accessFlags := 18, slot := 8, constantValue := 0 }, { name := "$VALUES", type := (.array (.object "com/example/indri/indri/wire/Api")), accessFlags := 4122, slot := 14, constantValue := 0 }]
  methods := #[k6m0]
  instanceTypes := #[(.object "java/lang/String"), .int, .int, .short, (.object "java/lang/String"), .short, .short, .int, (.object "java/lang/String")]
  staticTypes := #[(.object "com/example/indri/indri/wire/Api"), (.object "com/example/indri/indri/wire/Api"), (.object "com/example/indri/indri/wire/Api"), (.object "com/example/indri/indri/wire/Api"), (.object "com/example/indri/indri/wire/Api"), (.object "com/example/indri/indri/wire/Api"), (.object "com/example/indri/indri/wire/Api"), (.object "com/example/indri/indri/wire/Api"), (.object "com/example/indri/indri/wire/Api"), (.object "com/example/indri/indri/wire/Api"), (.object "com/example/indri/indri/wire/Api"), (.object "com/example/indri/indri/wire/Api"), (.object "com/example/indri/indri/wire/Api"), (.object "com/example/indri/indri/wire/Api"), (.array (.object "com/example/indri/indri/wire/Api"))]
  resolved := Array.replicate 212 none
  statics := some 0 }

def pool7 : Array CpInfo := pool [(2, .class_ 4), (1, u "java/lang/CharSequence"), (42, .class_ 48), (0, u "java/lang/CharSequence$1CodePointIterator"), (10, .class_ 60), (0, u "java/lang/CharSequence$1CharIterator"), (5, .class_ 67), (0, u "java/lang/Object")] 63

/-- java/lang/CharSequence -/
def k7 : Class := { plain "java/lang/CharSequence" (some 0) with
  accessFlags := 1537
  interfaces := #[]
  cf := some (fileOf pool7 2 #[.nestMembers #[47, 59]] #[] 1537 66 #[] #[])
  fields := #[]
  methods := #[]
  instanceTypes := #[]
  staticTypes := #[]
  resolved := Array.replicate 131 none
  statics := none }

def pool8 : Array CpInfo := pool [(1, .class_ 2), (0, u "java/lang/constant/ConstantDesc"), (0, .class_ 4), (0, u "java/lang/Object")] 32

/-- java/lang/constant/ConstantDesc -/
def k8 : Class := { plain "java/lang/constant/ConstantDesc" (some 0) with
  accessFlags := 1537
  interfaces := #[]
  cf := some (fileOf pool8 1 #[] #[] 1537 3 #[] #[])
  fields := #[]
  methods := #[]
  instanceTypes := #[]
  staticTypes := #[]
  resolved := Array.replicate 37 none
  statics := none }

def pool9 : Array CpInfo := pool [(2, .class_ 4), (1, u "java/lang/Object"), (0, u "<init>"), (0, u "()V"), (3, .class_ 12), (1, u "java/lang/String"), (0, u "value"), (0, u "[B"), (2, u "coder"), (0, u "B"), (2, u "hash"), (0, u "I"), (2, u "hashIsZero"), (0, u "Z"), (13, u "COMPACT_STRINGS"), (534, .class_ 576), (0, u "java/lang/CharSequence"), (22, u "CASE_INSENSITIVE_ORDER"), (0, u "Ljava/util/Comparator;"), (500, u "serialPersistentFields"), (0, u "[Ljava/io/ObjectStreamField;"), (0, .class_ 1104), (0, u "java/lang/String$CaseInsensitiveComparator"), (1, .class_ 1107), (0, u "java/io/Serializable"), (0, .class_ 1109), (0, u "java/lang/Comparable"), (0, .class_ 1111), (0, u "java/lang/constant/Constable"), (0, .class_ 1113), (0, u "java/lang/constant/ConstantDesc"), (2, u "serialVersionUID"), (0, u "J"), (3, u "REPL"), (0, u "C"), (2, u "LATIN1"), (1, u "UTF16")] 323

def k9m0 : Method := { name := "<init>", desc := "()V", sig := { parameters := [], returnType := none }, accessFlags := 1, code := none }
/-- java/lang/String -/
def k9 : Class := { plain "java/lang/String" (some 0) with
  accessFlags := 49
  interfaces := #[4, 3, 7, 2, 8]
  cf := some (fileOf pool9 10 #[.nestMembers #[1103]] #[{ accessFlags := 1, nameIndex := 5, descriptorIndex := 6, attributes := #[] }] 49 2 #[1106, 1108, 575, 1110, 1112] #[{ accessFlags := 18, nameIndex := 13, descriptorIndex := 14, attributes := #[] }, { accessFlags := 18, nameIndex := 17, descriptorIndex := 18, attributes := #[] }, { accessFlags := 2, nameIndex := 21, descriptorIndex := 22, attributes := #[] }, { accessFlags := 2, nameIndex := 25, descriptorIndex := 26, attributes := #[] }, { accessFlags := 26, nameIndex := 1116, descriptorIndex := 1117, attributes := #[] }, { accessFlags := 24, nameIndex := 40, descriptorIndex := 26, attributes := #[] }, { accessFlags := 26, nameIndex := 1101, descriptorIndex := 1102, attributes := #[] }, { accessFlags := 26, nameIndex := 1121, descriptorIndex := 1122, attributes := #[] }, { accessFlags := 25, nameIndex := 599, descriptorIndex := 600, attributes := #[] }, { accessFlags := 24, nameIndex := 1125, descriptorIndex := 18, attributes := #[] }, { accessFlags := 24, nameIndex := 1127, descriptorIndex := 18, attributes := #[] }])
  fields := #[{ name := "value", type := (.array .byte), accessFlags := 18, slot := 0, constantValue := 0 }, { name := "coder", type := .byte, accessFlags := 18, slot := 1, constantValue := 0 }, { name := "hash", type := .int, accessFlags := 2, slot := 2, constantValue := 0 }, { name := "hashIsZero", type := .boolean, accessFlags := 2, slot := 3, constantValue := 0 }, { name := "serialVersionUID", type := .long, accessFlags := 26, slot := 0, constantValue := 0 }, { name := "COMPACT_STRINGS", type := .boolean, accessFlags := 24, slot := 1, constantValue := 0 }, { name := "serialPersistentFields", type := (.array (.object "java/io/ObjectStreamField")), accessFlags := 26, slot := 2, constantValue := 0 }, { name := "REPL", type := .char, accessFlags := 26, slot := 3, constantValue := 0 }, { name := "CASE_INSENSITIVE_ORDER", type := (.object "java/util/Comparator"), accessFlags := 25, slot := 4, constantValue := 0 }, { name := "LATIN1", type := .byte, accessFlags := 24, slot := 5, constantValue := 0 }, { name := "UTF16", type := .byte, accessFlags := 24, slot := 6, constantValue := 0 }]
  methods := #[k9m0]
  instanceTypes := #[(.array .byte), .byte, .int, .boolean]
  staticTypes := #[.long, .boolean, (.array (.object "java/io/ObjectStreamField")), .char, (.object "java/util/Comparator"), .byte, .byte]
  resolved := Array.replicate 1451 none
  statics := none }

def pool10 : Array CpInfo := pool [(1, u "java/lang/Cloneable"), (0, .class_ 1), (0, u "java/lang/Object"), (0, .class_ 3)] 3

/-- java/lang/Cloneable -/
def k10 : Class := { plain "java/lang/Cloneable" (some 0) with
  accessFlags := 1537
  interfaces := #[]
  cf := some (fileOf pool10 2 #[] #[] 1537 4 #[] #[])
  fields := #[]
  methods := #[]
  instanceTypes := #[]
  staticTypes := #[]
  resolved := Array.replicate 8 none
  statics := none }

/-- the primitive byte -/
def k11 : Class := { plain "byte" none with kind := .primitive 'B', accessFlags := 0x411 }
/-- [B -/
def k12 : Class := { plain "[B" (some 0) with kind := .array 11 .byte, interfaces := #[10, 4], accessFlags := 1041 }

/-- the primitive int -/
def k13 : Class := { plain "int" none with kind := .primitive 'I', accessFlags := 0x411 }
/-- [I -/
def k14 : Class := { plain "[I" (some 0) with kind := .array 13 .int, interfaces := #[10, 4], accessFlags := 1041 }

def heap : Heap := #[{ cls := 6, slots := #[.ref 1, .ref 3, .ref 7, .ref 8, .ref 12, .ref 5, .ref 14, .ref 13, .ref 6, .ref 10, .ref 4, .ref 9, .ref 15, .ref 11, .null], vm := .statics 6 },
  { cls := 6, slots := #[.null, .int 0, .int 0, .int 0, .null, .int 3, .int 3, .int 0, .ref 2], vm := .none },
  { cls := 9, slots := #[.null, .int 0, .int 0, .int 0], vm := .none },
  { cls := 6, slots := #[.null, .int 0, .int 0, .int 0, .null, .int 4, .int 11, .int 0, .null], vm := .none },
  { cls := 6, slots := #[.null, .int 0, .int 0, .int 0, .null, .int 0, .int 5, .int 0, .null], vm := .none },
  { cls := 6, slots := #[.null, .int 0, .int 0, .int 0, .null, .int 1, .int 7, .int 0, .null], vm := .none },
  { cls := 6, slots := #[.null, .int 0, .int 0, .int 0, .null, .int 0, .int 4, .int 0, .null], vm := .none },
  { cls := 6, slots := #[.null, .int 0, .int 0, .int 0, .null, .int 1, .int 5, .int 0, .null], vm := .none },
  { cls := 6, slots := #[.null, .int 0, .int 0, .int 0, .null, .int 0, .int 4, .int 0, .null], vm := .none },
  { cls := 6, slots := #[.null, .int 0, .int 0, .int 0, .null, .int 0, .int 5, .int 0, .null], vm := .none },
  { cls := 6, slots := #[.null, .int 0, .int 0, .int 0, .null, .int 0, .int 5, .int 0, .null], vm := .none },
  { cls := 6, slots := #[.null, .int 0, .int 0, .int 0, .null, .int 0, .int 3, .int 0, .null], vm := .none },
  { cls := 6, slots := #[.null, .int 0, .int 0, .int 0, .null, .int 2, .int 7, .int 0, .null], vm := .none },
  { cls := 6, slots := #[.null, .int 0, .int 0, .int 0, .null, .int 0, .int 9, .int 0, .null], vm := .none },
  { cls := 6, slots := #[.null, .int 0, .int 0, .int 0, .null, .int 0, .int 2, .int 0, .null], vm := .none },
  { cls := 6, slots := #[.null, .int 0, .int 0, .int 0, .null, .int 0, .int 4, .int 0, .null], vm := .none }]
def classes : Array Class := #[k0, k1, k2, k3, k4, k5, k6, k7, k8, k9, k10, k11, k12, k13, k14]
def interned : List (Array UInt16 × Addr) := []
def slotsUsed : Nat := 145
def theMethod : MethodId := ⟨1, 4⟩
def args0 : Array Value := #[.int 5, .int 7, .int 1]
def aboutOver (below : List Frame) : State where
  vm := { classes := classes, interned := interned.toArray }
  heap := heap
  slotsUsed := slotsUsed
  threads := #[{ frames := .invoking theMethod args0 :: below }]
def below0 : List Frame := [.native { method := ⟨0, 0⟩, args := #[] }]
def about1 : State := aboutOver below0
def p0 : Program := .bare "" "" ""
def e0 : Env := launch0.env 0 0 0
theorem w_frames : about1.frames = Frame.invoking theMethod args0 :: below0 := rfl
set_option maxRecDepth 65536 in
theorem w_args : argsFit about1.vm theMethod args0 = true := by decide +kernel
set_option maxRecDepth 65536 in
theorem w_heap : heapFits about1 = true := by decide +kernel
set_option maxRecDepth 65536 in
theorem w_runnable : about1.curStatus? = some .runnable := by decide +kernel
set_option maxRecDepth 65536 in
theorem w_alone : about1.alone = true := by decide +kernel
set_option maxRecDepth 65536 in
theorem w_named : about1.methodNamed? x = some theMethod := by decide +kernel
set_option maxRecDepth 65536 in
theorem w_hears : about1.hears theMethod below0 = true := by decide +kernel
set_option maxRecDepth 65536 in
theorem w_ripe : about1.ripe theMethod args0 below0 = true := by decide +kernel
theorem w_running : about1.status = .running := rfl
set_option maxRecDepth 65536 in
theorem w_room : about1.hasRoom e0.platform room_1 = true :=
  launch0.hasRoom_least _ room_1 (by decide +kernel) (by decide +kernel) (by decide +kernel) (by decide +kernel) (by decide +kernel) (by decide +kernel)
theorem allAtoms_all (ts : List Jvm.Cond) (a : Array Jvm.Value) (st : Jvm.State) : (allAtoms ts).before a st = ts.all (fun c => c.before a st) := by
  induction ts with
  | nil => rfl
  | cons c t ih =>
    show (Jvm.Cond.and c (allAtoms t)).before a st = _
    rw [Jvm.Cond.before_and, ih, List.all_cons]
def words1 : List Jvm.Cond := Jvm.Cond.code x code maxLocals ret :: tables_1
/-- a 'code' word, met by the world's own term for the bytes: nothing is compared byte by byte -/
theorem code_word {y : MethodName} {bytes : ByteArray} {mx : Nat} {rt : Option FieldType} {a : Array Value} {s : State} {m : MethodId} {meth : Method} {c : Code} (h1 : s.methodNamed? y = some m) (h2 : s.vm.method? m = some meth) (h3 : meth.code = some c) (h4 : c.code = bytes)
    (h5 : (c.maxLocals == mx && c.exceptionTable.isEmpty && decide (c.maxStack ≤ mostOperands) && decide (meth.sig.returnType = rt) && !meth.locks && decide (parseMethodDescriptor y.desc = some meth.sig)) = true) : (Jvm.Cond.code y bytes mx rt).before a s = true := by
  simp only [Bool.and_eq_true, beq_iff_eq, Bool.not_eq_true', decide_eq_true_eq] at h5
  obtain ⟨⟨⟨⟨⟨g1, g2⟩, g3⟩, g4⟩, g5⟩, g6⟩ := h5
  simp [Cond.before, Cond.holds, Cond.value, h1, h2, h3, h4, g1, g2, g3, g4, g5, g6]
def isCode : Jvm.Cond → Bool
  | .code _ _ _ _ => true
  | _ => false
theorem all_split {L : List Jvm.Cond} {P : Jvm.Cond → Bool} (h1 : L.all (fun c => isCode c || P c) = true) (h2 : ∀ c ∈ L.filter isCode, P c = true) : L.all P = true := by
  refine List.all_eq_true.mpr fun c hc => ?_
  have h := List.all_eq_true.mp h1 c hc
  rcases Bool.eq_false_or_eq_true (isCode c) with hi | hi
  · exact h2 c (List.mem_filter.mpr ⟨hc, hi⟩)
  · simpa [hi] using h
set_option maxRecDepth 65536 in
theorem w_c0 : (Jvm.Cond.code x code maxLocals ret).before args0 about1 = true := code_word (m := ⟨1, 4⟩) (meth := k1m4) (c := k1c4) (by decide +kernel) rfl rfl rfl (by decide +kernel)
set_option maxRecDepth 65536 in
theorem w_c1 : (Jvm.Cond.code ({ cls := "com/example/indri/indri/wire/ApiServesPinLaw", name := "pick", desc := "(I)Lcom/example/indri/indri/wire/Api;" } : Jvm.MethodName) method_2_code (1 : Nat) (Option.some (Jvm.ClassFile.FieldType.object "com/example/indri/indri/wire/Api"))).before args0 about1 = true := code_word (m := ⟨1, 1⟩) (meth := k1m1) (c := k1c1) (by decide +kernel) rfl rfl rfl (by decide +kernel)
set_option maxRecDepth 65536 in
theorem w_c2 : (Jvm.Cond.code ({ cls := "com/example/indri/indri/wire/ApiServesPinLaw", name := "lo", desc := "(I)I" } : Jvm.MethodName) method_3_code (1 : Nat) (Option.some Jvm.ClassFile.FieldType.int)).before args0 about1 = true := code_word (m := ⟨1, 2⟩) (meth := k1m2) (c := k1c2) (by decide +kernel) rfl rfl rfl (by decide +kernel)
set_option maxRecDepth 65536 in
theorem w_c3 : (Jvm.Cond.code ({ cls := "com/example/indri/indri/wire/ApiServesPinLaw", name := "hi", desc := "(I)I" } : Jvm.MethodName) method_4_code (1 : Nat) (Option.some Jvm.ClassFile.FieldType.int)).before args0 about1 = true := code_word (m := ⟨1, 3⟩) (meth := k1m3) (c := k1c3) (by decide +kernel) rfl rfl rfl (by decide +kernel)
set_option maxRecDepth 65536 in
theorem w_c4 : (Jvm.Cond.code ({ cls := "com/example/indri/indri/wire/Api", name := "serves", desc := "(S)Z" } : Jvm.MethodName) prog_47_method_12_code (2 : Nat) (Option.some Jvm.ClassFile.FieldType.boolean)).before args0 about1 = true := code_word (m := ⟨6, 0⟩) (meth := k6m0) (c := k6c0) (by decide +kernel) rfl rfl rfl (by decide +kernel)
def codes1 : List Jvm.Cond := [Jvm.Cond.code x code maxLocals ret, Jvm.Cond.code ({ cls := "com/example/indri/indri/wire/ApiServesPinLaw", name := "pick", desc := "(I)Lcom/example/indri/indri/wire/Api;" } : Jvm.MethodName) method_2_code (1 : Nat) (Option.some (Jvm.ClassFile.FieldType.object "com/example/indri/indri/wire/Api")), Jvm.Cond.code ({ cls := "com/example/indri/indri/wire/ApiServesPinLaw", name := "lo", desc := "(I)I" } : Jvm.MethodName) method_3_code (1 : Nat) (Option.some Jvm.ClassFile.FieldType.int), Jvm.Cond.code ({ cls := "com/example/indri/indri/wire/ApiServesPinLaw", name := "hi", desc := "(I)I" } : Jvm.MethodName) method_4_code (1 : Nat) (Option.some Jvm.ClassFile.FieldType.int), Jvm.Cond.code ({ cls := "com/example/indri/indri/wire/Api", name := "serves", desc := "(S)Z" } : Jvm.MethodName) prog_47_method_12_code (2 : Nat) (Option.some Jvm.ClassFile.FieldType.boolean)]
set_option maxRecDepth 65536 in
theorem codes_eq : words1.filter isCode = codes1 := rfl
theorem w_codes : ∀ c ∈ words1.filter isCode, c.before args0 about1 = true := by
  rw [codes_eq]
  intro c hc
  simp only [codes1, List.mem_cons, List.not_mem_nil, or_false] at hc
  rcases hc with rfl | rfl | rfl | rfl | rfl
  · exact w_c0
  · exact w_c1
  · exact w_c2
  · exact w_c3
  · exact w_c4
set_option maxRecDepth 65536 in
theorem w_t1 : (words1.take 24).all (fun c => isCode c || c.before args0 about1) = true := by decide +kernel
set_option maxRecDepth 65536 in
theorem w_t2 : ((words1.drop 24).take 24).all (fun c => isCode c || c.before args0 about1) = true := by decide +kernel
set_option maxRecDepth 65536 in
theorem w_t3 : ((words1.drop 24).drop 24).all (fun c => isCode c || c.before args0 about1) = true := by decide +kernel
theorem w_tables : (allAtoms (Jvm.Cond.code x code maxLocals ret :: tables_1)).before args0 about1 = true := by
  rw [allAtoms_all]
  show words1.all (fun c => c.before args0 about1) = true
  refine all_split ?_ w_codes
  rw [← List.take_append_drop 24 words1, List.all_append, w_t1, ← List.take_append_drop 24 (words1.drop 24), List.all_append, w_t2, w_t3]
  rfl
set_option maxRecDepth 65536 in
theorem w_case : (Jvm.Cond.and given_1 narrow_1).before args0 about1 = true := by decide +kernel
theorem w_applies : (headSpec (Jvm.Cond.code x code maxLocals ret :: tables_1) room_1).applies x e0.platform about1 = true :=
  (Spec.applies_iff w_frames).mpr ⟨w_running, w_runnable, w_alone, w_named, w_hears, w_ripe, w_room, w_tables⟩
theorem atStart : AtStart classFile x code maxLocals ret World_1 tables_1 room_1 Calls_1 rest_1 Pre_1 launch0 p0 e0 about1 theMethod args0 below0 :=
  ⟨lists_1, trivial, launch0.admits_env _ _ _, launch0.least_env, fairChoices_fair.cas, fairChoices_fair.clock, w_frames, w_args, w_heap, w_applies, trivial, trivial, w_case⟩
end start1
theorem witness_1 : WitnessClaimed_1 := ⟨start1.p0, start1.e0, start1.about1, start1.theMethod, start1.args0, start1.below0, start1.atStart⟩
end Jvm.Pilot.@@N@@
