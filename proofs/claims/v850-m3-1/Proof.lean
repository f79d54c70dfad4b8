import JvmDerived
import JvmDerived.Pilot.@@N@@Statement
import JvmDerived.Pilot.@@N@@Code
set_option linter.unusedVariables false
set_option linter.unusedSimpArgs false
namespace Jvm.RoadKit
open Sem ClassFile Op Lib Jvm.Stand Jvm.Free Jvm.LawKit
section New
variable {p : Program} {l : Launch} {e : Env} {R : Room} {s : State} {m : MethodId} {args : Array Value} {below : List Frame} {meth : Method} {c : Code} {T : State} {locs : List Loc} {cells slots : Nat}
theorem retI (X : Stand p l e R s m args below meth c T locs cells slots) (hx : p.tables.exec = Jvm.exec) {pc : Nat} {Ls : Array Slot} {z : Int32} {rest : List Value} (hret : meth.sig.returnType = some .int) (hd : decode c.code pc = .ok (.ireturn, 1)) {fs : List Frame}
    (hl : ∀ (f : JFrame) (acts : List Action), f.method = m → f.locked = none → f.entered = [] → (doReturn e (T.setTop f) acts (some (.int z))).1 = T.setFrames fs) : Steps p.tables e below (T.setTop (mkF m pc Ls (.int z :: rest))) (T.setFrames fs) := by
  have hm' : T.vm.method? m = some meth := X.method'
  have hn : narrow .int (.int z) = .int z := rfl
  show Steps p.tables e below (T.setTop { method := m, pc := pc, locals := Ls, stack := _ :: rest, locked := none }) _
  jvm_step X.here [X.here.top, hx, hd, hm', hret, hn]
  first | (intro acts; rw [hl _ acts rfl rfl rfl]) | rw [hl _ _ rfl rfl rfl]
  exact Steps.refl _
end New
section Own
variable {p : Program} {l : Launch} {e : Env} {R : Room} {s : State} {m : MethodId} {args : Array Value} {below : List Frame} {meth : Method} {c : Code} {T A B : State} {locs : List Loc} {cells slots k n : Nat} {Q : Option Value → Heap → List Loc → Prop}
/-- from A the walk comes to its end, and Q holds there -/
def own_Go (p : Program) (e : Env) (below : List Frame) (s : State) (Q : Option Value → Heap → List Loc → Prop) (k n : Nat) (A : State) : Prop :=
  ∃ s₂ o, Steps p.tables e below A s₂ ∧ s₂.status = .running ∧ Ended s₂ below o ∧ ∃ v L, o = .returned v ∧ Q v s₂.heap L ∧ FrameEnd s o s₂ L k n
theorem own_st (h : ∀ t, Steps p.tables e below B t → Steps p.tables e below A t) (g : own_Go p e below s Q k n B) : own_Go p e below s Q k n A := by
  obtain ⟨s₂, o, h1, r⟩ := g
  exact ⟨s₂, o, h _ h1, r⟩
theorem own_tr (h : Steps p.tables e below A B) (g : own_Go p e below s Q k n B) : own_Go p e below s Q k n A := own_st (fun _ q => h.trans q) g
theorem own_end (X : Stand p l e R s m args below meth c T locs cells slots) (hlk : meth.locks = false) {v : Option Value} (hv : meth.sig.returnType = none → v = none) (hk : cells ≤ k) (hn : slots ≤ n) (hQ : Q v T.heap locs) {g : JFrame}
    (hgo : ∀ fs, (∀ (f : JFrame) (acts : List Action), f.method = m → f.locked = none → f.entered = [] → (doReturn e (T.setTop f) acts v).1 = T.setFrames fs) → Steps p.tables e below (T.setTop g) (T.setFrames fs)) : own_Go p e below s Q k n (T.setTop g) := by
  obtain ⟨fs, hr, hrun, hended, hW, hsame⟩ := X.leave hv hlk
  exact ⟨_, _, hgo fs hr, hrun, hended, v, locs, rfl, hQ, ⟨_, rfl⟩, hW, hsame.mono hk hn⟩
theorem own_retI (X : Stand p l e R s m args below meth c T locs cells slots) (hx : p.tables.exec = Jvm.exec) (hlk : meth.locks = false) {pc : Nat} {Ls : Array Slot} {z : Int32} {rest : List Value} (hret : meth.sig.returnType = some .int) (hd : decode c.code pc = .ok (.ireturn, 1)) (hk : cells ≤ k) (hn : slots ≤ n) (hQ : Q (some (.int z)) T.heap locs) :
    own_Go p e below s Q k n (T.setTop (mkF m pc Ls (.int z :: rest))) := own_end X hlk (fun h => by rw [hret] at h; cases h) hk hn hQ fun fs hr => retI X hx hret hd hr
theorem own_retN (X : Stand p l e R s m args below meth c T locs cells slots) (hx : p.tables.exec = Jvm.exec) (hlk : meth.locks = false) {pc : Nat} {Ls : Array Slot} {z z' : Int32} {rest : List Value} {t : FieldType} (hret : meth.sig.returnType = some t) (ht : t = .boolean ∨ t = .byte ∨ t = .char ∨ t = .short) (hz : nar t z = z') (hd : decode c.code pc = .ok (.ireturn, 1)) (hk : cells ≤ k) (hn : slots ≤ n) (hQ : Q (some (.int z')) T.heap locs) :
    own_Go p e below s Q k n (T.setTop (mkF m pc Ls (.int z :: rest))) := own_end X hlk (v := some (.int (nar t z))) (fun h => by rw [hret] at h; cases h) hk hn (hz ▸ hQ) fun fs hr => retN X hx hret ht hd hr
theorem own_retJ (X : Stand p l e R s m args below meth c T locs cells slots) (hx : p.tables.exec = Jvm.exec) (hlk : meth.locks = false) {pc : Nat} {Ls : Array Slot} {z : Int64} {rest : List Value} (hret : meth.sig.returnType = some .long) (hd : decode c.code pc = .ok (.lreturn, 1)) (hk : cells ≤ k) (hn : slots ≤ n) (hQ : Q (some (.long z)) T.heap locs) :
    own_Go p e below s Q k n (T.setTop (mkF m pc Ls (.long z :: rest))) := own_end X hlk (fun h => by rw [hret] at h; cases h) hk hn hQ fun fs hr => retOut X hx hret rfl (Or.inr (Or.inl ⟨rfl, rfl, _, rfl⟩)) hd hr
theorem own_retA (X : Stand p l e R s m args below meth c T locs cells slots) (hx : p.tables.exec = Jvm.exec) (hlk : meth.locks = false) {pc : Nat} {Ls : Array Slot} {w : Value} {t : FieldType} {rest : List Value} (hret : meth.sig.returnType = some t) (hw : w.isRef = true) (hd : decode c.code pc = .ok (.areturn, 1)) (hk : cells ≤ k) (hn : slots ≤ n) (hQ : Q (some w) T.heap locs) (ht : t.isReference = true := by rfl) :
    own_Go p e below s Q k n (T.setTop (mkF m pc Ls (w :: rest))) := own_end X hlk (fun h => by rw [hret] at h; cases h) hk hn hQ fun fs hr => retOut X hx hret (by cases w <;> first | (cases hw; done) | (cases t <;> first | (cases ht; done) | rfl)) (Or.inr (Or.inr (Or.inr (Or.inr ⟨rfl, ht, hw⟩)))) hd hr
theorem own_ret0 (X : Stand p l e R s m args below meth c T locs cells slots) (hx : p.tables.exec = Jvm.exec) (hlk : meth.locks = false) {pc : Nat} {Ls : Array Slot} (hret : meth.sig.returnType = none) (hd : decode c.code pc = .ok (.return_, 1)) (hk : cells ≤ k) (hn : slots ≤ n) (hQ : Q none T.heap locs) :
    own_Go p e below s Q k n (T.setTop (mkF m pc Ls [])) := own_end X hlk (fun _ => rfl) hk hn hQ fun fs hr => X.returnOut hx hret hd hr
end Own
theorem own_narR {C : String} {v : Value} (h : v.isRef = true) : narrow (.object C) v = v := by cases v <;> first | rfl | (cases h; done)
theorem own_fitR {C : String} {v : Value} (h : v.isRef = true) : fits (.object C) v = true := by cases v <;> first | rfl | (cases h; done)
theorem own_pad (n : Nat) (d : Value) (i : Nat) : (List.replicate n d).getD i d = ([] : List Value).getD i d := by
  have h := pad_rep [] d n i
  simpa using h
end Jvm.RoadKit
namespace Jvm.Pilot.@@N@@
open Jvm Jvm.ClassFile Sem Op Lib Jvm.Free Jvm.Stand Jvm.LawKit Jvm.RoadKit Bundle Jvm.Pilot.@@N@@.Jvm.D
theorem own_eqV {args : Array Value} {first s : State} {o : Option Outcome} {idx : List Nat} {t u : Term} {w : Value} (h : (Cond.eq t u).value args first o s idx = some true) (hu : u.eval args first o idx s = some w) : t.eval args first o idx s = some w := by
  simp only [Cond.value, hu] at h
  cases ht : t.eval args first o idx s with
  | none => simp [ht] at h
  | some v => cases v <;> cases w <;> simp_all

theorem own_rem (x n : Int32) (hn : 0 < n.toInt) : 0 ≤ ((x &&& (2147483647 : Int32)) % n).toInt ∧ ((x &&& (2147483647 : Int32)) % n).toInt < n.toInt := by
  have h : ¬ (x &&& (2147483647 : Int32)) < 0 := by
    rw [XT.and_neg32]
    intro h
    exact absurd h.2 (by decide)
  rw [XT.negI32] at h
  rw [Int32.toInt_mod]
  exact ⟨Int.tmod_nonneg _ (by omega), Int.tmod_lt_of_pos _ hn⟩
theorem own_nat {k : Int32} {n : Nat} (hn : n ≤ 2147483647) (h0 : 0 ≤ k.toInt) (h1 : k.toInt < n) : ∃ i : Nat, i < n ∧ k = i.toInt32 :=
  ⟨k.toInt.toNat, by omega, Int32.toInt_inj.mp (by rw [len_toInt (by omega)]; omega)⟩
theorem own_remN (x m : Int32) (n : Nat) (hm : m.toInt = n) (hn : 0 < n) (hn' : n ≤ 2147483647) : ∃ i : Nat, i < n ∧ (x &&& (2147483647 : Int32)) % m = i.toInt32 := by
  have h := own_rem x m (by omega)
  exact own_nat hn' h.1 (by omega)
def own_ff (k : Int32) : Int32 := if k = 0 then (2147483647 : Int32) else if k = 1 then (2147483647 : Int32) else if k = 2 then (2147483647 : Int32) else if k = 3 then (2147483647 : Int32) else if k = 4 then (2147483647 : Int32) else if k = 5 then (6 : Int32) else if k = 6 then (2147483647 : Int32) else if k = 7 then (6 : Int32) else if k = 8 then (4 : Int32) else if k = 9 then (4 : Int32) else if k = 10 then (4 : Int32) else if k = 11 then (5 : Int32) else if k = 12 then (3 : Int32) else (3 : Int32)
def own_first (k : Int32) : Int32 := if k = 5 then 6 else if k = 7 then 6 else if k = 8 then 4 else if k = 9 then 4 else if k = 10 then 4 else if k = 11 then 5 else if k = 12 then 3 else if k = 13 then 3 else -1
theorem own_plain0 : ∀ i < 14, (own_first (Nat.toInt32 i) < 0 ∧ own_ff (Nat.toInt32 i) = 2147483647) ∨ (¬ own_first (Nat.toInt32 i) < 0 ∧ own_ff (Nat.toInt32 i) = own_first (Nat.toInt32 i)) := by decide
theorem own_plain (k : Int32) (h : ∃ i : Nat, i < 14 ∧ k = i.toInt32) : (own_first k < 0 ∧ own_ff k = 2147483647) ∨ (¬ own_first k < 0 ∧ own_ff k = own_first k) := by
  obtain ⟨i, hi, rfl⟩ := h
  exact own_plain0 i hi
theorem own_short (v : Int32) : v.toInt16.toInt32 < 2147483647 := by
  rw [Int32.lt_iff_toInt_lt, Int16.toInt_toInt32]
  have h := Int16.toInt_lt v.toInt16
  have e : (2147483647 : Int32).toInt = 2147483647 := by decide
  omega
theorem own_d_method_3_code_0 : decode method_3_code 0 = .ok (.iload_n 0, 1) := by decide +kernel
theorem own_d_method_3_code_1 : decode method_3_code 1 = .ok (.ifCond .ne 7, 3) := by decide +kernel
theorem own_d_method_3_code_4 : decode method_3_code 4 = .ok (.getstatic 24, 3) := by decide +kernel
theorem own_d_method_3_code_7 : decode method_3_code 7 = .ok (.areturn, 1) := by decide +kernel
theorem own_d_method_3_code_8 : decode method_3_code 8 = .ok (.iload_n 0, 1) := by decide +kernel
theorem own_d_method_3_code_9 : decode method_3_code 9 = .ok (.iconst 1, 1) := by decide +kernel
theorem own_d_method_3_code_10 : decode method_3_code 10 = .ok (.if_icmp .ne 7, 3) := by decide +kernel
theorem own_d_method_3_code_13 : decode method_3_code 13 = .ok (.getstatic 28, 3) := by decide +kernel
theorem own_d_method_3_code_16 : decode method_3_code 16 = .ok (.areturn, 1) := by decide +kernel
theorem own_d_method_3_code_17 : decode method_3_code 17 = .ok (.iload_n 0, 1) := by decide +kernel
theorem own_d_method_3_code_18 : decode method_3_code 18 = .ok (.iconst 2, 1) := by decide +kernel
theorem own_d_method_3_code_19 : decode method_3_code 19 = .ok (.if_icmp .ne 7, 3) := by decide +kernel
theorem own_d_method_3_code_22 : decode method_3_code 22 = .ok (.getstatic 31, 3) := by decide +kernel
theorem own_d_method_3_code_25 : decode method_3_code 25 = .ok (.areturn, 1) := by decide +kernel
theorem own_d_method_3_code_26 : decode method_3_code 26 = .ok (.iload_n 0, 1) := by decide +kernel
theorem own_d_method_3_code_27 : decode method_3_code 27 = .ok (.iconst 3, 1) := by decide +kernel
theorem own_d_method_3_code_28 : decode method_3_code 28 = .ok (.if_icmp .ne 7, 3) := by decide +kernel
theorem own_d_method_3_code_31 : decode method_3_code 31 = .ok (.getstatic 34, 3) := by decide +kernel
theorem own_d_method_3_code_34 : decode method_3_code 34 = .ok (.areturn, 1) := by decide +kernel
theorem own_d_method_3_code_35 : decode method_3_code 35 = .ok (.iload_n 0, 1) := by decide +kernel
theorem own_d_method_3_code_36 : decode method_3_code 36 = .ok (.iconst 4, 1) := by decide +kernel
theorem own_d_method_3_code_37 : decode method_3_code 37 = .ok (.if_icmp .ne 7, 3) := by decide +kernel
theorem own_d_method_3_code_40 : decode method_3_code 40 = .ok (.getstatic 37, 3) := by decide +kernel
theorem own_d_method_3_code_43 : decode method_3_code 43 = .ok (.areturn, 1) := by decide +kernel
theorem own_d_method_3_code_44 : decode method_3_code 44 = .ok (.iload_n 0, 1) := by decide +kernel
theorem own_d_method_3_code_45 : decode method_3_code 45 = .ok (.iconst 5, 1) := by decide +kernel
theorem own_d_method_3_code_46 : decode method_3_code 46 = .ok (.if_icmp .ne 7, 3) := by decide +kernel
theorem own_d_method_3_code_49 : decode method_3_code 49 = .ok (.getstatic 40, 3) := by decide +kernel
theorem own_d_method_3_code_52 : decode method_3_code 52 = .ok (.areturn, 1) := by decide +kernel
theorem own_d_method_3_code_53 : decode method_3_code 53 = .ok (.iload_n 0, 1) := by decide +kernel
theorem own_d_method_3_code_54 : decode method_3_code 54 = .ok (.bipush 6, 2) := by decide +kernel
theorem own_d_method_3_code_56 : decode method_3_code 56 = .ok (.if_icmp .ne 7, 3) := by decide +kernel
theorem own_d_method_3_code_59 : decode method_3_code 59 = .ok (.getstatic 43, 3) := by decide +kernel
theorem own_d_method_3_code_62 : decode method_3_code 62 = .ok (.areturn, 1) := by decide +kernel
theorem own_d_method_3_code_63 : decode method_3_code 63 = .ok (.iload_n 0, 1) := by decide +kernel
theorem own_d_method_3_code_64 : decode method_3_code 64 = .ok (.bipush 7, 2) := by decide +kernel
theorem own_d_method_3_code_66 : decode method_3_code 66 = .ok (.if_icmp .ne 7, 3) := by decide +kernel
theorem own_d_method_3_code_69 : decode method_3_code 69 = .ok (.getstatic 46, 3) := by decide +kernel
theorem own_d_method_3_code_72 : decode method_3_code 72 = .ok (.areturn, 1) := by decide +kernel
theorem own_d_method_3_code_73 : decode method_3_code 73 = .ok (.iload_n 0, 1) := by decide +kernel
theorem own_d_method_3_code_74 : decode method_3_code 74 = .ok (.bipush 8, 2) := by decide +kernel
theorem own_d_method_3_code_76 : decode method_3_code 76 = .ok (.if_icmp .ne 7, 3) := by decide +kernel
theorem own_d_method_3_code_79 : decode method_3_code 79 = .ok (.getstatic 49, 3) := by decide +kernel
theorem own_d_method_3_code_82 : decode method_3_code 82 = .ok (.areturn, 1) := by decide +kernel
theorem own_d_method_3_code_83 : decode method_3_code 83 = .ok (.iload_n 0, 1) := by decide +kernel
theorem own_d_method_3_code_84 : decode method_3_code 84 = .ok (.bipush 9, 2) := by decide +kernel
theorem own_d_method_3_code_86 : decode method_3_code 86 = .ok (.if_icmp .ne 7, 3) := by decide +kernel
theorem own_d_method_3_code_89 : decode method_3_code 89 = .ok (.getstatic 52, 3) := by decide +kernel
theorem own_d_method_3_code_92 : decode method_3_code 92 = .ok (.areturn, 1) := by decide +kernel
theorem own_d_method_3_code_93 : decode method_3_code 93 = .ok (.iload_n 0, 1) := by decide +kernel
theorem own_d_method_3_code_94 : decode method_3_code 94 = .ok (.bipush 10, 2) := by decide +kernel
theorem own_d_method_3_code_96 : decode method_3_code 96 = .ok (.if_icmp .ne 7, 3) := by decide +kernel
theorem own_d_method_3_code_99 : decode method_3_code 99 = .ok (.getstatic 55, 3) := by decide +kernel
theorem own_d_method_3_code_102 : decode method_3_code 102 = .ok (.areturn, 1) := by decide +kernel
theorem own_d_method_3_code_103 : decode method_3_code 103 = .ok (.iload_n 0, 1) := by decide +kernel
theorem own_d_method_3_code_104 : decode method_3_code 104 = .ok (.bipush 11, 2) := by decide +kernel
theorem own_d_method_3_code_106 : decode method_3_code 106 = .ok (.if_icmp .ne 7, 3) := by decide +kernel
theorem own_d_method_3_code_109 : decode method_3_code 109 = .ok (.getstatic 58, 3) := by decide +kernel
theorem own_d_method_3_code_112 : decode method_3_code 112 = .ok (.areturn, 1) := by decide +kernel
theorem own_d_method_3_code_113 : decode method_3_code 113 = .ok (.iload_n 0, 1) := by decide +kernel
theorem own_d_method_3_code_114 : decode method_3_code 114 = .ok (.bipush 12, 2) := by decide +kernel
theorem own_d_method_3_code_116 : decode method_3_code 116 = .ok (.if_icmp .ne 7, 3) := by decide +kernel
theorem own_d_method_3_code_119 : decode method_3_code 119 = .ok (.getstatic 61, 3) := by decide +kernel
theorem own_d_method_3_code_122 : decode method_3_code 122 = .ok (.areturn, 1) := by decide +kernel
theorem own_d_method_3_code_123 : decode method_3_code 123 = .ok (.getstatic 64, 3) := by decide +kernel
theorem own_d_method_3_code_126 : decode method_3_code 126 = .ok (.areturn, 1) := by decide +kernel
theorem own_pn0 : plainFor (⟨"com/example/indri/indri/wire/ApiIsFlexiblePinLaw", "pick", "(I)Lcom/example/indri/indri/wire/Api;"⟩ : MethodName) = true := by decide +kernel
def own_rm_pick_Q (Z : State) (p1 : Int32) (a_PRODUCE : Addr) (a_SYNC_GROUP : Addr) (a_HEARTBEAT : Addr) (a_OFFSET_COMMIT : Addr) (a_DESCRIBE_GROUPS : Addr) (a_FIND_COORDINATOR : Addr) (a_LIST_GROUPS : Addr) (a_JOIN_GROUP : Addr) (a_METADATA : Addr) (a_OFFSET_FETCH : Addr) (a_FETCH : Addr) (a_LIST_OFFSETS : Addr) (a_API_VERSIONS : Addr) (a_LEAVE_GROUP : Addr) (h0 : Heap) (n0 : Nat) (v : Option Value) (h : Heap) (L : List Loc) : Prop := ∃ r : Addr, Fr n0 L ∧ v = some (.ref r) ∧ h = h0 ∧ Exa Z h r "com/example/indri/indri/wire/Api" ∧ Fld Z h r "com/example/indri/indri/wire/Api" "firstFlexibleVersion" "I" (.int (own_ff p1))
theorem own_rm_pick_ef (m : MethodId) (p1 : Int32) : entryFrame m #[(.int p1)] 1 = mkF m 0 #[.val (.int p1)] [] := by first | (simp [entryFrame, mkF, argsToLocals, Value.category]; done) | rfl
set_option maxRecDepth 65536 in
set_option maxHeartbeats 40000000 in
theorem own_rm_pick (l : Launch) (Z : State) (a0 : Array Value) (hw : ∀ d ∈ tables_1, d.before a0 Z = true) (ws : List Jvm.Cond) (p1 : Int32) (a_PRODUCE : Addr) (a_SYNC_GROUP : Addr) (a_HEARTBEAT : Addr) (a_OFFSET_COMMIT : Addr) (a_DESCRIBE_GROUPS : Addr) (a_FIND_COORDINATOR : Addr) (a_LIST_GROUPS : Addr) (a_JOIN_GROUP : Addr) (a_METADATA : Addr) (a_OFFSET_FETCH : Addr) (a_FETCH : Addr) (a_LIST_OFFSETS : Addr) (a_API_VERSIONS : Addr) (a_LEAVE_GROUP : Addr) (h0 : Heap) (n0 : Nat) (Z0 : n0 ≤ h0.size) (O0 : Old Z n0 h0) (Ex_a_PRODUCE : Exa Z Z.heap a_PRODUCE "com/example/indri/indri/wire/Api") (S_a_PRODUCE : Sta Z Z.heap "com/example/indri/indri/wire/Api" "PRODUCE" "Lcom/example/indri/indri/wire/Api;" (.ref a_PRODUCE)) (F_PRODUCE_firstFlexibleVersion : Fld Z Z.heap a_PRODUCE "com/example/indri/indri/wire/Api" "firstFlexibleVersion" "I" (.int (2147483647 : Int32))) (Ex_a_SYNC_GROUP : Exa Z Z.heap a_SYNC_GROUP "com/example/indri/indri/wire/Api") (S_a_SYNC_GROUP : Sta Z Z.heap "com/example/indri/indri/wire/Api" "SYNC_GROUP" "Lcom/example/indri/indri/wire/Api;" (.ref a_SYNC_GROUP)) (F_SYNC_GROUP_firstFlexibleVersion : Fld Z Z.heap a_SYNC_GROUP "com/example/indri/indri/wire/Api" "firstFlexibleVersion" "I" (.int (4 : Int32))) (Ex_a_HEARTBEAT : Exa Z Z.heap a_HEARTBEAT "com/example/indri/indri/wire/Api") (S_a_HEARTBEAT : Sta Z Z.heap "com/example/indri/indri/wire/Api" "HEARTBEAT" "Lcom/example/indri/indri/wire/Api;" (.ref a_HEARTBEAT)) (F_HEARTBEAT_firstFlexibleVersion : Fld Z Z.heap a_HEARTBEAT "com/example/indri/indri/wire/Api" "firstFlexibleVersion" "I" (.int (4 : Int32))) (Ex_a_OFFSET_COMMIT : Exa Z Z.heap a_OFFSET_COMMIT "com/example/indri/indri/wire/Api") (S_a_OFFSET_COMMIT : Sta Z Z.heap "com/example/indri/indri/wire/Api" "OFFSET_COMMIT" "Lcom/example/indri/indri/wire/Api;" (.ref a_OFFSET_COMMIT)) (F_OFFSET_COMMIT_firstFlexibleVersion : Fld Z Z.heap a_OFFSET_COMMIT "com/example/indri/indri/wire/Api" "firstFlexibleVersion" "I" (.int (2147483647 : Int32))) (Ex_a_DESCRIBE_GROUPS : Exa Z Z.heap a_DESCRIBE_GROUPS "com/example/indri/indri/wire/Api") (S_a_DESCRIBE_GROUPS : Sta Z Z.heap "com/example/indri/indri/wire/Api" "DESCRIBE_GROUPS" "Lcom/example/indri/indri/wire/Api;" (.ref a_DESCRIBE_GROUPS)) (F_DESCRIBE_GROUPS_firstFlexibleVersion : Fld Z Z.heap a_DESCRIBE_GROUPS "com/example/indri/indri/wire/Api" "firstFlexibleVersion" "I" (.int (5 : Int32))) (Ex_a_FIND_COORDINATOR : Exa Z Z.heap a_FIND_COORDINATOR "com/example/indri/indri/wire/Api") (S_a_FIND_COORDINATOR : Sta Z Z.heap "com/example/indri/indri/wire/Api" "FIND_COORDINATOR" "Lcom/example/indri/indri/wire/Api;" (.ref a_FIND_COORDINATOR)) (F_FIND_COORDINATOR_firstFlexibleVersion : Fld Z Z.heap a_FIND_COORDINATOR "com/example/indri/indri/wire/Api" "firstFlexibleVersion" "I" (.int (2147483647 : Int32))) (Ex_a_LIST_GROUPS : Exa Z Z.heap a_LIST_GROUPS "com/example/indri/indri/wire/Api") (S_a_LIST_GROUPS : Sta Z Z.heap "com/example/indri/indri/wire/Api" "LIST_GROUPS" "Lcom/example/indri/indri/wire/Api;" (.ref a_LIST_GROUPS)) (F_LIST_GROUPS_firstFlexibleVersion : Fld Z Z.heap a_LIST_GROUPS "com/example/indri/indri/wire/Api" "firstFlexibleVersion" "I" (.int (3 : Int32))) (Ex_a_JOIN_GROUP : Exa Z Z.heap a_JOIN_GROUP "com/example/indri/indri/wire/Api") (S_a_JOIN_GROUP : Sta Z Z.heap "com/example/indri/indri/wire/Api" "JOIN_GROUP" "Lcom/example/indri/indri/wire/Api;" (.ref a_JOIN_GROUP)) (F_JOIN_GROUP_firstFlexibleVersion : Fld Z Z.heap a_JOIN_GROUP "com/example/indri/indri/wire/Api" "firstFlexibleVersion" "I" (.int (6 : Int32))) (Ex_a_METADATA : Exa Z Z.heap a_METADATA "com/example/indri/indri/wire/Api") (S_a_METADATA : Sta Z Z.heap "com/example/indri/indri/wire/Api" "METADATA" "Lcom/example/indri/indri/wire/Api;" (.ref a_METADATA)) (F_METADATA_firstFlexibleVersion : Fld Z Z.heap a_METADATA "com/example/indri/indri/wire/Api" "firstFlexibleVersion" "I" (.int (2147483647 : Int32))) (Ex_a_OFFSET_FETCH : Exa Z Z.heap a_OFFSET_FETCH "com/example/indri/indri/wire/Api") (S_a_OFFSET_FETCH : Sta Z Z.heap "com/example/indri/indri/wire/Api" "OFFSET_FETCH" "Lcom/example/indri/indri/wire/Api;" (.ref a_OFFSET_FETCH)) (F_OFFSET_FETCH_firstFlexibleVersion : Fld Z Z.heap a_OFFSET_FETCH "com/example/indri/indri/wire/Api" "firstFlexibleVersion" "I" (.int (6 : Int32))) (Ex_a_FETCH : Exa Z Z.heap a_FETCH "com/example/indri/indri/wire/Api") (S_a_FETCH : Sta Z Z.heap "com/example/indri/indri/wire/Api" "FETCH" "Lcom/example/indri/indri/wire/Api;" (.ref a_FETCH)) (F_FETCH_firstFlexibleVersion : Fld Z Z.heap a_FETCH "com/example/indri/indri/wire/Api" "firstFlexibleVersion" "I" (.int (2147483647 : Int32))) (Ex_a_LIST_OFFSETS : Exa Z Z.heap a_LIST_OFFSETS "com/example/indri/indri/wire/Api") (S_a_LIST_OFFSETS : Sta Z Z.heap "com/example/indri/indri/wire/Api" "LIST_OFFSETS" "Lcom/example/indri/indri/wire/Api;" (.ref a_LIST_OFFSETS)) (F_LIST_OFFSETS_firstFlexibleVersion : Fld Z Z.heap a_LIST_OFFSETS "com/example/indri/indri/wire/Api" "firstFlexibleVersion" "I" (.int (2147483647 : Int32))) (Ex_a_API_VERSIONS : Exa Z Z.heap a_API_VERSIONS "com/example/indri/indri/wire/Api") (S_a_API_VERSIONS : Sta Z Z.heap "com/example/indri/indri/wire/Api" "API_VERSIONS" "Lcom/example/indri/indri/wire/Api;" (.ref a_API_VERSIONS)) (F_API_VERSIONS_firstFlexibleVersion : Fld Z Z.heap a_API_VERSIONS "com/example/indri/indri/wire/Api" "firstFlexibleVersion" "I" (.int (3 : Int32))) (Ex_a_LEAVE_GROUP : Exa Z Z.heap a_LEAVE_GROUP "com/example/indri/indri/wire/Api") (S_a_LEAVE_GROUP : Sta Z Z.heap "com/example/indri/indri/wire/Api" "LEAVE_GROUP" "Lcom/example/indri/indri/wire/Api;" (.ref a_LEAVE_GROUP)) (F_LEAVE_GROUP_firstFlexibleVersion : Fld Z Z.heap a_LEAVE_GROUP "com/example/indri/indri/wire/Api" "firstFlexibleVersion" "I" (.int (4 : Int32))) :
    MetFree l (⟨"com/example/indri/indri/wire/ApiIsFlexiblePinLaw", "pick", "(I)Lcom/example/indri/indri/wire/Api;"⟩ : MethodName) (head1 (Jvm.Cond.code (⟨"com/example/indri/indri/wire/ApiIsFlexiblePinLaw", "pick", "(I)Lcom/example/indri/indri/wire/Api;"⟩ : MethodName) method_3_code 1 (some (.object "com/example/indri/indri/wire/Api")) :: ws) ({ frames := 0, cells := 0, slots := 0, locals := 0 } : Room)) (fun a U => a = #[(.int p1)] ∧ Z.Warmed39 U.vm ∧ U.heap = h0) (fun _ _ _ _ _ => True) (fun _ U o U' => ∃ v L, o = .returned v ∧ own_rm_pick_Q Z p1 a_PRODUCE a_SYNC_GROUP a_HEARTBEAT a_OFFSET_COMMIT a_DESCRIBE_GROUPS a_FIND_COORDINATOR a_LIST_GROUPS a_JOIN_GROUP a_METADATA a_OFFSET_FETCH a_FETCH a_LIST_OFFSETS a_API_VERSIONS a_LEAVE_GROUP h0 n0 v U'.heap L ∧ FrameEnd U o U' L ({ frames := 0, cells := 0, slots := 0, locals := 0 } : Room).cells ({ frames := 0, cells := 0, slots := 0, locals := 0 } : Room).slots) := by
  refine MetFree.of_bodySF own_pn0 hisR ?_
  intro p e s m args below meth c s₁ Bd hml0 hP hK
  obtain ⟨rfl, hZ, hh⟩ := hP
  have hx := Bd.exec
  have hby := Bd.bytes
  have hml : c.maxLocals = 1 := hml0
  have hlk := BodyLoose.notSynchronized Bd
  have hown : s.vm.findClass "com/example/indri/indri/wire/ApiIsFlexiblePinLaw" = some m.cls := findClass_of_methodNamed Bd.named
  have hnm := (name_of_methodNamed Bd.named Bd.method).1
  have X0 : Stand p l e ({ frames := 0, cells := 0, slots := 0, locals := 0 } : Room) s m #[(.int p1)] below meth c s₁ [] 0 0 := Stand.of_body Bd
  have e0 : s₁.heap = h0 := by rw [← hh, Bd.state]; rfl
  have N0 := Fr.nil n0
  show own_Go p e below s (own_rm_pick_Q Z p1 a_PRODUCE a_SYNC_GROUP a_HEARTBEAT a_OFFSET_COMMIT a_DESCRIBE_GROUPS a_FIND_COORDINATOR a_LIST_GROUPS a_JOIN_GROUP a_METADATA a_OFFSET_FETCH a_FETCH a_LIST_OFFSETS a_API_VERSIONS a_LEAVE_GROUP h0 n0) ({ frames := 0, cells := 0, slots := 0, locals := 0 } : Room).cells ({ frames := 0, cells := 0, slots := 0, locals := 0 } : Room).slots (s₁.setTop (entryFrame m #[(.int p1)] 1))
  rw [own_rm_pick_ef]
  show own_Go p e below s _ _ _ (s₁.setTop (mkF m 0 #[.val (.int p1)] []))
  refine own_st (fun _ k => XS.iloadN X0.here hx rfl (hb hby own_d_method_3_code_0) rfl k) ?_
  show own_Go p e below s _ _ _ (s₁.setTop (mkF m 1 #[.val (.int p1)] [(.int p1)]))
  by_cases hc1 : p1 = 0
  · refine own_st (fun _ k => XS.ifNo X0.here hx rfl (hb hby own_d_method_3_code_1) rfl (XT.i0_ne_f hc1) k) ?_
    show own_Go p e below s _ _ _ (s₁.setTop (mkF m 4 #[.val (.int p1)] []))
    have F2 : Sta Z h0 "com/example/indri/indri/wire/Api" "PRODUCE" "Lcom/example/indri/indri/wire/Api;" (.ref a_PRODUCE) := S_a_PRODUCE.ext O0.2
    obtain ⟨T3, X3, e3, st3⟩ := getS2 X0 hx hZ hown (host := "") (Or.inl (hw _ (List.mem_of_getElem? (i := 5) rfl))) Via.refl e0 F2 (g := (mkF m 4 #[.val (.int p1)] [])) rfl (hb hby own_d_method_3_code_4)
    refine own_st st3 ?_
    show own_Go p e below s _ _ _ (T3.setTop (mkF m 7 #[.val (.int p1)] [(.ref a_PRODUCE)]))
    have F4 : Fld Z h0 a_PRODUCE "com/example/indri/indri/wire/Api" "firstFlexibleVersion" "I" (.int (2147483647 : Int32)) := F_PRODUCE_firstFlexibleVersion.ext O0.2
    have F5 : Exa Z h0 a_PRODUCE "com/example/indri/indri/wire/Api" := Ex_a_PRODUCE.ext O0.2
    refine own_retA X3 hx hlk Bd.returns rfl (hb hby own_d_method_3_code_7) (by decide) (by decide) ?_
    rw [e3]
    exact ⟨a_PRODUCE, N0, rfl, rfl, F5, (by rw [show own_ff p1 = (2147483647 : Int32) from by simp [own_ff, hc1]]; exact F4)⟩
  · refine own_st (fun _ k => XS.ifYes X0.here hx rfl (pc0 := 1) (pc' := 8) rfl (hb hby own_d_method_3_code_1) rfl (XT.i0_ne_t hc1) (by decide) (by decide) k) ?_
    show own_Go p e below s _ _ _ (s₁.setTop (mkF m 8 #[.val (.int p1)] []))
    refine own_st (fun _ k => XS.iloadN X0.here hx rfl (hb hby own_d_method_3_code_8) rfl k) ?_
    show own_Go p e below s _ _ _ (s₁.setTop (mkF m 9 #[.val (.int p1)] [(.int p1)]))
    refine own_st (fun _ k => XT.iconstV X0.here hx rfl (1 : Int32) (hb hby own_d_method_3_code_9) (by decide) k) ?_
    show own_Go p e below s _ _ _ (s₁.setTop (mkF m 10 #[.val (.int p1)] [(.int (1 : Int32)), (.int p1)]))
    by_cases hc6 : p1 = (1 : Int32)
    · refine own_st (fun _ k => XS.icmpNo X0.here hx rfl (hb hby own_d_method_3_code_10) rfl (XT.ii_ne_f hc6) k) ?_
      show own_Go p e below s _ _ _ (s₁.setTop (mkF m 13 #[.val (.int p1)] []))
      have F7 : Sta Z h0 "com/example/indri/indri/wire/Api" "FETCH" "Lcom/example/indri/indri/wire/Api;" (.ref a_FETCH) := S_a_FETCH.ext O0.2
      obtain ⟨T8, X8, e8, st8⟩ := getS2 X0 hx hZ hown (host := "") (Or.inl (hw _ (List.mem_of_getElem? (i := 36) rfl))) Via.refl e0 F7 (g := (mkF m 13 #[.val (.int p1)] [])) rfl (hb hby own_d_method_3_code_13)
      refine own_st st8 ?_
      show own_Go p e below s _ _ _ (T8.setTop (mkF m 16 #[.val (.int p1)] [(.ref a_FETCH)]))
      have F9 : Fld Z h0 a_FETCH "com/example/indri/indri/wire/Api" "firstFlexibleVersion" "I" (.int (2147483647 : Int32)) := F_FETCH_firstFlexibleVersion.ext O0.2
      have F10 : Exa Z h0 a_FETCH "com/example/indri/indri/wire/Api" := Ex_a_FETCH.ext O0.2
      refine own_retA X8 hx hlk Bd.returns rfl (hb hby own_d_method_3_code_16) (by decide) (by decide) ?_
      rw [e8]
      exact ⟨a_FETCH, N0, rfl, rfl, F10, (by rw [show own_ff p1 = (2147483647 : Int32) from by simp [own_ff, hc1, hc6]]; exact F9)⟩
    · refine own_st (fun _ k => XS.icmpYes X0.here hx rfl (pc0 := 10) (pc' := 17) rfl (hb hby own_d_method_3_code_10) rfl (XT.ii_ne_t hc6) (by decide) (by decide) k) ?_
      show own_Go p e below s _ _ _ (s₁.setTop (mkF m 17 #[.val (.int p1)] []))
      refine own_st (fun _ k => XS.iloadN X0.here hx rfl (hb hby own_d_method_3_code_17) rfl k) ?_
      show own_Go p e below s _ _ _ (s₁.setTop (mkF m 18 #[.val (.int p1)] [(.int p1)]))
      refine own_st (fun _ k => XT.iconstV X0.here hx rfl (2 : Int32) (hb hby own_d_method_3_code_18) (by decide) k) ?_
      show own_Go p e below s _ _ _ (s₁.setTop (mkF m 19 #[.val (.int p1)] [(.int (2 : Int32)), (.int p1)]))
      by_cases hc11 : p1 = (2 : Int32)
      · refine own_st (fun _ k => XS.icmpNo X0.here hx rfl (hb hby own_d_method_3_code_19) rfl (XT.ii_ne_f hc11) k) ?_
        show own_Go p e below s _ _ _ (s₁.setTop (mkF m 22 #[.val (.int p1)] []))
        have F12 : Sta Z h0 "com/example/indri/indri/wire/Api" "LIST_OFFSETS" "Lcom/example/indri/indri/wire/Api;" (.ref a_LIST_OFFSETS) := S_a_LIST_OFFSETS.ext O0.2
        obtain ⟨T13, X13, e13, st13⟩ := getS2 X0 hx hZ hown (host := "") (Or.inl (hw _ (List.mem_of_getElem? (i := 38) rfl))) Via.refl e0 F12 (g := (mkF m 22 #[.val (.int p1)] [])) rfl (hb hby own_d_method_3_code_22)
        refine own_st st13 ?_
        show own_Go p e below s _ _ _ (T13.setTop (mkF m 25 #[.val (.int p1)] [(.ref a_LIST_OFFSETS)]))
        have F14 : Fld Z h0 a_LIST_OFFSETS "com/example/indri/indri/wire/Api" "firstFlexibleVersion" "I" (.int (2147483647 : Int32)) := F_LIST_OFFSETS_firstFlexibleVersion.ext O0.2
        have F15 : Exa Z h0 a_LIST_OFFSETS "com/example/indri/indri/wire/Api" := Ex_a_LIST_OFFSETS.ext O0.2
        refine own_retA X13 hx hlk Bd.returns rfl (hb hby own_d_method_3_code_25) (by decide) (by decide) ?_
        rw [e13]
        exact ⟨a_LIST_OFFSETS, N0, rfl, rfl, F15, (by rw [show own_ff p1 = (2147483647 : Int32) from by simp [own_ff, hc1, hc6, hc11]]; exact F14)⟩
      · refine own_st (fun _ k => XS.icmpYes X0.here hx rfl (pc0 := 19) (pc' := 26) rfl (hb hby own_d_method_3_code_19) rfl (XT.ii_ne_t hc11) (by decide) (by decide) k) ?_
        show own_Go p e below s _ _ _ (s₁.setTop (mkF m 26 #[.val (.int p1)] []))
        refine own_st (fun _ k => XS.iloadN X0.here hx rfl (hb hby own_d_method_3_code_26) rfl k) ?_
        show own_Go p e below s _ _ _ (s₁.setTop (mkF m 27 #[.val (.int p1)] [(.int p1)]))
        refine own_st (fun _ k => XT.iconstV X0.here hx rfl (3 : Int32) (hb hby own_d_method_3_code_27) (by decide) k) ?_
        show own_Go p e below s _ _ _ (s₁.setTop (mkF m 28 #[.val (.int p1)] [(.int (3 : Int32)), (.int p1)]))
        by_cases hc16 : p1 = (3 : Int32)
        · refine own_st (fun _ k => XS.icmpNo X0.here hx rfl (hb hby own_d_method_3_code_28) rfl (XT.ii_ne_f hc16) k) ?_
          show own_Go p e below s _ _ _ (s₁.setTop (mkF m 31 #[.val (.int p1)] []))
          have F17 : Sta Z h0 "com/example/indri/indri/wire/Api" "METADATA" "Lcom/example/indri/indri/wire/Api;" (.ref a_METADATA) := S_a_METADATA.ext O0.2
          obtain ⟨T18, X18, e18, st18⟩ := getS2 X0 hx hZ hown (host := "") (Or.inl (hw _ (List.mem_of_getElem? (i := 32) rfl))) Via.refl e0 F17 (g := (mkF m 31 #[.val (.int p1)] [])) rfl (hb hby own_d_method_3_code_31)
          refine own_st st18 ?_
          show own_Go p e below s _ _ _ (T18.setTop (mkF m 34 #[.val (.int p1)] [(.ref a_METADATA)]))
          have F19 : Fld Z h0 a_METADATA "com/example/indri/indri/wire/Api" "firstFlexibleVersion" "I" (.int (2147483647 : Int32)) := F_METADATA_firstFlexibleVersion.ext O0.2
          have F20 : Exa Z h0 a_METADATA "com/example/indri/indri/wire/Api" := Ex_a_METADATA.ext O0.2
          refine own_retA X18 hx hlk Bd.returns rfl (hb hby own_d_method_3_code_34) (by decide) (by decide) ?_
          rw [e18]
          exact ⟨a_METADATA, N0, rfl, rfl, F20, (by rw [show own_ff p1 = (2147483647 : Int32) from by simp [own_ff, hc1, hc6, hc11, hc16]]; exact F19)⟩
        · refine own_st (fun _ k => XS.icmpYes X0.here hx rfl (pc0 := 28) (pc' := 35) rfl (hb hby own_d_method_3_code_28) rfl (XT.ii_ne_t hc16) (by decide) (by decide) k) ?_
          show own_Go p e below s _ _ _ (s₁.setTop (mkF m 35 #[.val (.int p1)] []))
          refine own_st (fun _ k => XS.iloadN X0.here hx rfl (hb hby own_d_method_3_code_35) rfl k) ?_
          show own_Go p e below s _ _ _ (s₁.setTop (mkF m 36 #[.val (.int p1)] [(.int p1)]))
          refine own_st (fun _ k => XT.iconstV X0.here hx rfl (4 : Int32) (hb hby own_d_method_3_code_36) (by decide) k) ?_
          show own_Go p e below s _ _ _ (s₁.setTop (mkF m 37 #[.val (.int p1)] [(.int (4 : Int32)), (.int p1)]))
          by_cases hc21 : p1 = (4 : Int32)
          · refine own_st (fun _ k => XS.icmpNo X0.here hx rfl (hb hby own_d_method_3_code_37) rfl (XT.ii_ne_f hc21) k) ?_
            show own_Go p e below s _ _ _ (s₁.setTop (mkF m 40 #[.val (.int p1)] []))
            have F22 : Sta Z h0 "com/example/indri/indri/wire/Api" "OFFSET_COMMIT" "Lcom/example/indri/indri/wire/Api;" (.ref a_OFFSET_COMMIT) := S_a_OFFSET_COMMIT.ext O0.2
            obtain ⟨T23, X23, e23, st23⟩ := getS2 X0 hx hZ hown (host := "") (Or.inl (hw _ (List.mem_of_getElem? (i := 22) rfl))) Via.refl e0 F22 (g := (mkF m 40 #[.val (.int p1)] [])) rfl (hb hby own_d_method_3_code_40)
            refine own_st st23 ?_
            show own_Go p e below s _ _ _ (T23.setTop (mkF m 43 #[.val (.int p1)] [(.ref a_OFFSET_COMMIT)]))
            have F24 : Fld Z h0 a_OFFSET_COMMIT "com/example/indri/indri/wire/Api" "firstFlexibleVersion" "I" (.int (2147483647 : Int32)) := F_OFFSET_COMMIT_firstFlexibleVersion.ext O0.2
            have F25 : Exa Z h0 a_OFFSET_COMMIT "com/example/indri/indri/wire/Api" := Ex_a_OFFSET_COMMIT.ext O0.2
            refine own_retA X23 hx hlk Bd.returns rfl (hb hby own_d_method_3_code_43) (by decide) (by decide) ?_
            rw [e23]
            exact ⟨a_OFFSET_COMMIT, N0, rfl, rfl, F25, (by rw [show own_ff p1 = (2147483647 : Int32) from by simp [own_ff, hc1, hc6, hc11, hc16, hc21]]; exact F24)⟩
          · refine own_st (fun _ k => XS.icmpYes X0.here hx rfl (pc0 := 37) (pc' := 44) rfl (hb hby own_d_method_3_code_37) rfl (XT.ii_ne_t hc21) (by decide) (by decide) k) ?_
            show own_Go p e below s _ _ _ (s₁.setTop (mkF m 44 #[.val (.int p1)] []))
            refine own_st (fun _ k => XS.iloadN X0.here hx rfl (hb hby own_d_method_3_code_44) rfl k) ?_
            show own_Go p e below s _ _ _ (s₁.setTop (mkF m 45 #[.val (.int p1)] [(.int p1)]))
            refine own_st (fun _ k => XT.iconstV X0.here hx rfl (5 : Int32) (hb hby own_d_method_3_code_45) (by decide) k) ?_
            show own_Go p e below s _ _ _ (s₁.setTop (mkF m 46 #[.val (.int p1)] [(.int (5 : Int32)), (.int p1)]))
            by_cases hc26 : p1 = (5 : Int32)
            · refine own_st (fun _ k => XS.icmpNo X0.here hx rfl (hb hby own_d_method_3_code_46) rfl (XT.ii_ne_f hc26) k) ?_
              show own_Go p e below s _ _ _ (s₁.setTop (mkF m 49 #[.val (.int p1)] []))
              have F27 : Sta Z h0 "com/example/indri/indri/wire/Api" "OFFSET_FETCH" "Lcom/example/indri/indri/wire/Api;" (.ref a_OFFSET_FETCH) := S_a_OFFSET_FETCH.ext O0.2
              obtain ⟨T28, X28, e28, st28⟩ := getS2 X0 hx hZ hown (host := "") (Or.inl (hw _ (List.mem_of_getElem? (i := 34) rfl))) Via.refl e0 F27 (g := (mkF m 49 #[.val (.int p1)] [])) rfl (hb hby own_d_method_3_code_49)
              refine own_st st28 ?_
              show own_Go p e below s _ _ _ (T28.setTop (mkF m 52 #[.val (.int p1)] [(.ref a_OFFSET_FETCH)]))
              have F29 : Fld Z h0 a_OFFSET_FETCH "com/example/indri/indri/wire/Api" "firstFlexibleVersion" "I" (.int (6 : Int32)) := F_OFFSET_FETCH_firstFlexibleVersion.ext O0.2
              have F30 : Exa Z h0 a_OFFSET_FETCH "com/example/indri/indri/wire/Api" := Ex_a_OFFSET_FETCH.ext O0.2
              refine own_retA X28 hx hlk Bd.returns rfl (hb hby own_d_method_3_code_52) (by decide) (by decide) ?_
              rw [e28]
              exact ⟨a_OFFSET_FETCH, N0, rfl, rfl, F30, (by rw [show own_ff p1 = (6 : Int32) from by simp [own_ff, hc1, hc6, hc11, hc16, hc21, hc26]]; exact F29)⟩
            · refine own_st (fun _ k => XS.icmpYes X0.here hx rfl (pc0 := 46) (pc' := 53) rfl (hb hby own_d_method_3_code_46) rfl (XT.ii_ne_t hc26) (by decide) (by decide) k) ?_
              show own_Go p e below s _ _ _ (s₁.setTop (mkF m 53 #[.val (.int p1)] []))
              refine own_st (fun _ k => XS.iloadN X0.here hx rfl (hb hby own_d_method_3_code_53) rfl k) ?_
              show own_Go p e below s _ _ _ (s₁.setTop (mkF m 54 #[.val (.int p1)] [(.int p1)]))
              refine own_st (fun _ k => XT.bipushV X0.here hx rfl (6 : Int32) (hb hby own_d_method_3_code_54) (by decide) k) ?_
              show own_Go p e below s _ _ _ (s₁.setTop (mkF m 56 #[.val (.int p1)] [(.int (6 : Int32)), (.int p1)]))
              by_cases hc31 : p1 = (6 : Int32)
              · refine own_st (fun _ k => XS.icmpNo X0.here hx rfl (hb hby own_d_method_3_code_56) rfl (XT.ii_ne_f hc31) k) ?_
                show own_Go p e below s _ _ _ (s₁.setTop (mkF m 59 #[.val (.int p1)] []))
                have F32 : Sta Z h0 "com/example/indri/indri/wire/Api" "FIND_COORDINATOR" "Lcom/example/indri/indri/wire/Api;" (.ref a_FIND_COORDINATOR) := S_a_FIND_COORDINATOR.ext O0.2
                obtain ⟨T33, X33, e33, st33⟩ := getS2 X0 hx hZ hown (host := "") (Or.inl (hw _ (List.mem_of_getElem? (i := 26) rfl))) Via.refl e0 F32 (g := (mkF m 59 #[.val (.int p1)] [])) rfl (hb hby own_d_method_3_code_59)
                refine own_st st33 ?_
                show own_Go p e below s _ _ _ (T33.setTop (mkF m 62 #[.val (.int p1)] [(.ref a_FIND_COORDINATOR)]))
                have F34 : Fld Z h0 a_FIND_COORDINATOR "com/example/indri/indri/wire/Api" "firstFlexibleVersion" "I" (.int (2147483647 : Int32)) := F_FIND_COORDINATOR_firstFlexibleVersion.ext O0.2
                have F35 : Exa Z h0 a_FIND_COORDINATOR "com/example/indri/indri/wire/Api" := Ex_a_FIND_COORDINATOR.ext O0.2
                refine own_retA X33 hx hlk Bd.returns rfl (hb hby own_d_method_3_code_62) (by decide) (by decide) ?_
                rw [e33]
                exact ⟨a_FIND_COORDINATOR, N0, rfl, rfl, F35, (by rw [show own_ff p1 = (2147483647 : Int32) from by simp [own_ff, hc1, hc6, hc11, hc16, hc21, hc26, hc31]]; exact F34)⟩
              · refine own_st (fun _ k => XS.icmpYes X0.here hx rfl (pc0 := 56) (pc' := 63) rfl (hb hby own_d_method_3_code_56) rfl (XT.ii_ne_t hc31) (by decide) (by decide) k) ?_
                show own_Go p e below s _ _ _ (s₁.setTop (mkF m 63 #[.val (.int p1)] []))
                refine own_st (fun _ k => XS.iloadN X0.here hx rfl (hb hby own_d_method_3_code_63) rfl k) ?_
                show own_Go p e below s _ _ _ (s₁.setTop (mkF m 64 #[.val (.int p1)] [(.int p1)]))
                refine own_st (fun _ k => XT.bipushV X0.here hx rfl (7 : Int32) (hb hby own_d_method_3_code_64) (by decide) k) ?_
                show own_Go p e below s _ _ _ (s₁.setTop (mkF m 66 #[.val (.int p1)] [(.int (7 : Int32)), (.int p1)]))
                by_cases hc36 : p1 = (7 : Int32)
                · refine own_st (fun _ k => XS.icmpNo X0.here hx rfl (hb hby own_d_method_3_code_66) rfl (XT.ii_ne_f hc36) k) ?_
                  show own_Go p e below s _ _ _ (s₁.setTop (mkF m 69 #[.val (.int p1)] []))
                  have F37 : Sta Z h0 "com/example/indri/indri/wire/Api" "JOIN_GROUP" "Lcom/example/indri/indri/wire/Api;" (.ref a_JOIN_GROUP) := S_a_JOIN_GROUP.ext O0.2
                  obtain ⟨T38, X38, e38, st38⟩ := getS2 X0 hx hZ hown (host := "") (Or.inl (hw _ (List.mem_of_getElem? (i := 30) rfl))) Via.refl e0 F37 (g := (mkF m 69 #[.val (.int p1)] [])) rfl (hb hby own_d_method_3_code_69)
                  refine own_st st38 ?_
                  show own_Go p e below s _ _ _ (T38.setTop (mkF m 72 #[.val (.int p1)] [(.ref a_JOIN_GROUP)]))
                  have F39 : Fld Z h0 a_JOIN_GROUP "com/example/indri/indri/wire/Api" "firstFlexibleVersion" "I" (.int (6 : Int32)) := F_JOIN_GROUP_firstFlexibleVersion.ext O0.2
                  have F40 : Exa Z h0 a_JOIN_GROUP "com/example/indri/indri/wire/Api" := Ex_a_JOIN_GROUP.ext O0.2
                  refine own_retA X38 hx hlk Bd.returns rfl (hb hby own_d_method_3_code_72) (by decide) (by decide) ?_
                  rw [e38]
                  exact ⟨a_JOIN_GROUP, N0, rfl, rfl, F40, (by rw [show own_ff p1 = (6 : Int32) from by simp [own_ff, hc1, hc6, hc11, hc16, hc21, hc26, hc31, hc36]]; exact F39)⟩
                · refine own_st (fun _ k => XS.icmpYes X0.here hx rfl (pc0 := 66) (pc' := 73) rfl (hb hby own_d_method_3_code_66) rfl (XT.ii_ne_t hc36) (by decide) (by decide) k) ?_
                  show own_Go p e below s _ _ _ (s₁.setTop (mkF m 73 #[.val (.int p1)] []))
                  refine own_st (fun _ k => XS.iloadN X0.here hx rfl (hb hby own_d_method_3_code_73) rfl k) ?_
                  show own_Go p e below s _ _ _ (s₁.setTop (mkF m 74 #[.val (.int p1)] [(.int p1)]))
                  refine own_st (fun _ k => XT.bipushV X0.here hx rfl (8 : Int32) (hb hby own_d_method_3_code_74) (by decide) k) ?_
                  show own_Go p e below s _ _ _ (s₁.setTop (mkF m 76 #[.val (.int p1)] [(.int (8 : Int32)), (.int p1)]))
                  by_cases hc41 : p1 = (8 : Int32)
                  · refine own_st (fun _ k => XS.icmpNo X0.here hx rfl (hb hby own_d_method_3_code_76) rfl (XT.ii_ne_f hc41) k) ?_
                    show own_Go p e below s _ _ _ (s₁.setTop (mkF m 79 #[.val (.int p1)] []))
                    have F42 : Sta Z h0 "com/example/indri/indri/wire/Api" "HEARTBEAT" "Lcom/example/indri/indri/wire/Api;" (.ref a_HEARTBEAT) := S_a_HEARTBEAT.ext O0.2
                    obtain ⟨T43, X43, e43, st43⟩ := getS2 X0 hx hZ hown (host := "") (Or.inl (hw _ (List.mem_of_getElem? (i := 20) rfl))) Via.refl e0 F42 (g := (mkF m 79 #[.val (.int p1)] [])) rfl (hb hby own_d_method_3_code_79)
                    refine own_st st43 ?_
                    show own_Go p e below s _ _ _ (T43.setTop (mkF m 82 #[.val (.int p1)] [(.ref a_HEARTBEAT)]))
                    have F44 : Fld Z h0 a_HEARTBEAT "com/example/indri/indri/wire/Api" "firstFlexibleVersion" "I" (.int (4 : Int32)) := F_HEARTBEAT_firstFlexibleVersion.ext O0.2
                    have F45 : Exa Z h0 a_HEARTBEAT "com/example/indri/indri/wire/Api" := Ex_a_HEARTBEAT.ext O0.2
                    refine own_retA X43 hx hlk Bd.returns rfl (hb hby own_d_method_3_code_82) (by decide) (by decide) ?_
                    rw [e43]
                    exact ⟨a_HEARTBEAT, N0, rfl, rfl, F45, (by rw [show own_ff p1 = (4 : Int32) from by simp [own_ff, hc1, hc6, hc11, hc16, hc21, hc26, hc31, hc36, hc41]]; exact F44)⟩
                  · refine own_st (fun _ k => XS.icmpYes X0.here hx rfl (pc0 := 76) (pc' := 83) rfl (hb hby own_d_method_3_code_76) rfl (XT.ii_ne_t hc41) (by decide) (by decide) k) ?_
                    show own_Go p e below s _ _ _ (s₁.setTop (mkF m 83 #[.val (.int p1)] []))
                    refine own_st (fun _ k => XS.iloadN X0.here hx rfl (hb hby own_d_method_3_code_83) rfl k) ?_
                    show own_Go p e below s _ _ _ (s₁.setTop (mkF m 84 #[.val (.int p1)] [(.int p1)]))
                    refine own_st (fun _ k => XT.bipushV X0.here hx rfl (9 : Int32) (hb hby own_d_method_3_code_84) (by decide) k) ?_
                    show own_Go p e below s _ _ _ (s₁.setTop (mkF m 86 #[.val (.int p1)] [(.int (9 : Int32)), (.int p1)]))
                    by_cases hc46 : p1 = (9 : Int32)
                    · refine own_st (fun _ k => XS.icmpNo X0.here hx rfl (hb hby own_d_method_3_code_86) rfl (XT.ii_ne_f hc46) k) ?_
                      show own_Go p e below s _ _ _ (s₁.setTop (mkF m 89 #[.val (.int p1)] []))
                      have F47 : Sta Z h0 "com/example/indri/indri/wire/Api" "LEAVE_GROUP" "Lcom/example/indri/indri/wire/Api;" (.ref a_LEAVE_GROUP) := S_a_LEAVE_GROUP.ext O0.2
                      obtain ⟨T48, X48, e48, st48⟩ := getS2 X0 hx hZ hown (host := "") (Or.inl (hw _ (List.mem_of_getElem? (i := 42) rfl))) Via.refl e0 F47 (g := (mkF m 89 #[.val (.int p1)] [])) rfl (hb hby own_d_method_3_code_89)
                      refine own_st st48 ?_
                      show own_Go p e below s _ _ _ (T48.setTop (mkF m 92 #[.val (.int p1)] [(.ref a_LEAVE_GROUP)]))
                      have F49 : Fld Z h0 a_LEAVE_GROUP "com/example/indri/indri/wire/Api" "firstFlexibleVersion" "I" (.int (4 : Int32)) := F_LEAVE_GROUP_firstFlexibleVersion.ext O0.2
                      have F50 : Exa Z h0 a_LEAVE_GROUP "com/example/indri/indri/wire/Api" := Ex_a_LEAVE_GROUP.ext O0.2
                      refine own_retA X48 hx hlk Bd.returns rfl (hb hby own_d_method_3_code_92) (by decide) (by decide) ?_
                      rw [e48]
                      exact ⟨a_LEAVE_GROUP, N0, rfl, rfl, F50, (by rw [show own_ff p1 = (4 : Int32) from by simp [own_ff, hc1, hc6, hc11, hc16, hc21, hc26, hc31, hc36, hc41, hc46]]; exact F49)⟩
                    · refine own_st (fun _ k => XS.icmpYes X0.here hx rfl (pc0 := 86) (pc' := 93) rfl (hb hby own_d_method_3_code_86) rfl (XT.ii_ne_t hc46) (by decide) (by decide) k) ?_
                      show own_Go p e below s _ _ _ (s₁.setTop (mkF m 93 #[.val (.int p1)] []))
                      refine own_st (fun _ k => XS.iloadN X0.here hx rfl (hb hby own_d_method_3_code_93) rfl k) ?_
                      show own_Go p e below s _ _ _ (s₁.setTop (mkF m 94 #[.val (.int p1)] [(.int p1)]))
                      refine own_st (fun _ k => XT.bipushV X0.here hx rfl (10 : Int32) (hb hby own_d_method_3_code_94) (by decide) k) ?_
                      show own_Go p e below s _ _ _ (s₁.setTop (mkF m 96 #[.val (.int p1)] [(.int (10 : Int32)), (.int p1)]))
                      by_cases hc51 : p1 = (10 : Int32)
                      · refine own_st (fun _ k => XS.icmpNo X0.here hx rfl (hb hby own_d_method_3_code_96) rfl (XT.ii_ne_f hc51) k) ?_
                        show own_Go p e below s _ _ _ (s₁.setTop (mkF m 99 #[.val (.int p1)] []))
                        have F52 : Sta Z h0 "com/example/indri/indri/wire/Api" "SYNC_GROUP" "Lcom/example/indri/indri/wire/Api;" (.ref a_SYNC_GROUP) := S_a_SYNC_GROUP.ext O0.2
                        obtain ⟨T53, X53, e53, st53⟩ := getS2 X0 hx hZ hown (host := "") (Or.inl (hw _ (List.mem_of_getElem? (i := 18) rfl))) Via.refl e0 F52 (g := (mkF m 99 #[.val (.int p1)] [])) rfl (hb hby own_d_method_3_code_99)
                        refine own_st st53 ?_
                        show own_Go p e below s _ _ _ (T53.setTop (mkF m 102 #[.val (.int p1)] [(.ref a_SYNC_GROUP)]))
                        have F54 : Fld Z h0 a_SYNC_GROUP "com/example/indri/indri/wire/Api" "firstFlexibleVersion" "I" (.int (4 : Int32)) := F_SYNC_GROUP_firstFlexibleVersion.ext O0.2
                        have F55 : Exa Z h0 a_SYNC_GROUP "com/example/indri/indri/wire/Api" := Ex_a_SYNC_GROUP.ext O0.2
                        refine own_retA X53 hx hlk Bd.returns rfl (hb hby own_d_method_3_code_102) (by decide) (by decide) ?_
                        rw [e53]
                        exact ⟨a_SYNC_GROUP, N0, rfl, rfl, F55, (by rw [show own_ff p1 = (4 : Int32) from by simp [own_ff, hc1, hc6, hc11, hc16, hc21, hc26, hc31, hc36, hc41, hc46, hc51]]; exact F54)⟩
                      · refine own_st (fun _ k => XS.icmpYes X0.here hx rfl (pc0 := 96) (pc' := 103) rfl (hb hby own_d_method_3_code_96) rfl (XT.ii_ne_t hc51) (by decide) (by decide) k) ?_
                        show own_Go p e below s _ _ _ (s₁.setTop (mkF m 103 #[.val (.int p1)] []))
                        refine own_st (fun _ k => XS.iloadN X0.here hx rfl (hb hby own_d_method_3_code_103) rfl k) ?_
                        show own_Go p e below s _ _ _ (s₁.setTop (mkF m 104 #[.val (.int p1)] [(.int p1)]))
                        refine own_st (fun _ k => XT.bipushV X0.here hx rfl (11 : Int32) (hb hby own_d_method_3_code_104) (by decide) k) ?_
                        show own_Go p e below s _ _ _ (s₁.setTop (mkF m 106 #[.val (.int p1)] [(.int (11 : Int32)), (.int p1)]))
                        by_cases hc56 : p1 = (11 : Int32)
                        · refine own_st (fun _ k => XS.icmpNo X0.here hx rfl (hb hby own_d_method_3_code_106) rfl (XT.ii_ne_f hc56) k) ?_
                          show own_Go p e below s _ _ _ (s₁.setTop (mkF m 109 #[.val (.int p1)] []))
                          have F57 : Sta Z h0 "com/example/indri/indri/wire/Api" "DESCRIBE_GROUPS" "Lcom/example/indri/indri/wire/Api;" (.ref a_DESCRIBE_GROUPS) := S_a_DESCRIBE_GROUPS.ext O0.2
                          obtain ⟨T58, X58, e58, st58⟩ := getS2 X0 hx hZ hown (host := "") (Or.inl (hw _ (List.mem_of_getElem? (i := 24) rfl))) Via.refl e0 F57 (g := (mkF m 109 #[.val (.int p1)] [])) rfl (hb hby own_d_method_3_code_109)
                          refine own_st st58 ?_
                          show own_Go p e below s _ _ _ (T58.setTop (mkF m 112 #[.val (.int p1)] [(.ref a_DESCRIBE_GROUPS)]))
                          have F59 : Fld Z h0 a_DESCRIBE_GROUPS "com/example/indri/indri/wire/Api" "firstFlexibleVersion" "I" (.int (5 : Int32)) := F_DESCRIBE_GROUPS_firstFlexibleVersion.ext O0.2
                          have F60 : Exa Z h0 a_DESCRIBE_GROUPS "com/example/indri/indri/wire/Api" := Ex_a_DESCRIBE_GROUPS.ext O0.2
                          refine own_retA X58 hx hlk Bd.returns rfl (hb hby own_d_method_3_code_112) (by decide) (by decide) ?_
                          rw [e58]
                          exact ⟨a_DESCRIBE_GROUPS, N0, rfl, rfl, F60, (by rw [show own_ff p1 = (5 : Int32) from by simp [own_ff, hc1, hc6, hc11, hc16, hc21, hc26, hc31, hc36, hc41, hc46, hc51, hc56]]; exact F59)⟩
                        · refine own_st (fun _ k => XS.icmpYes X0.here hx rfl (pc0 := 106) (pc' := 113) rfl (hb hby own_d_method_3_code_106) rfl (XT.ii_ne_t hc56) (by decide) (by decide) k) ?_
                          show own_Go p e below s _ _ _ (s₁.setTop (mkF m 113 #[.val (.int p1)] []))
                          refine own_st (fun _ k => XS.iloadN X0.here hx rfl (hb hby own_d_method_3_code_113) rfl k) ?_
                          show own_Go p e below s _ _ _ (s₁.setTop (mkF m 114 #[.val (.int p1)] [(.int p1)]))
                          refine own_st (fun _ k => XT.bipushV X0.here hx rfl (12 : Int32) (hb hby own_d_method_3_code_114) (by decide) k) ?_
                          show own_Go p e below s _ _ _ (s₁.setTop (mkF m 116 #[.val (.int p1)] [(.int (12 : Int32)), (.int p1)]))
                          by_cases hc61 : p1 = (12 : Int32)
                          · refine own_st (fun _ k => XS.icmpNo X0.here hx rfl (hb hby own_d_method_3_code_116) rfl (XT.ii_ne_f hc61) k) ?_
                            show own_Go p e below s _ _ _ (s₁.setTop (mkF m 119 #[.val (.int p1)] []))
                            have F62 : Sta Z h0 "com/example/indri/indri/wire/Api" "LIST_GROUPS" "Lcom/example/indri/indri/wire/Api;" (.ref a_LIST_GROUPS) := S_a_LIST_GROUPS.ext O0.2
                            obtain ⟨T63, X63, e63, st63⟩ := getS2 X0 hx hZ hown (host := "") (Or.inl (hw _ (List.mem_of_getElem? (i := 28) rfl))) Via.refl e0 F62 (g := (mkF m 119 #[.val (.int p1)] [])) rfl (hb hby own_d_method_3_code_119)
                            refine own_st st63 ?_
                            show own_Go p e below s _ _ _ (T63.setTop (mkF m 122 #[.val (.int p1)] [(.ref a_LIST_GROUPS)]))
                            have F64 : Fld Z h0 a_LIST_GROUPS "com/example/indri/indri/wire/Api" "firstFlexibleVersion" "I" (.int (3 : Int32)) := F_LIST_GROUPS_firstFlexibleVersion.ext O0.2
                            have F65 : Exa Z h0 a_LIST_GROUPS "com/example/indri/indri/wire/Api" := Ex_a_LIST_GROUPS.ext O0.2
                            refine own_retA X63 hx hlk Bd.returns rfl (hb hby own_d_method_3_code_122) (by decide) (by decide) ?_
                            rw [e63]
                            exact ⟨a_LIST_GROUPS, N0, rfl, rfl, F65, (by rw [show own_ff p1 = (3 : Int32) from by simp [own_ff, hc1, hc6, hc11, hc16, hc21, hc26, hc31, hc36, hc41, hc46, hc51, hc56, hc61]]; exact F64)⟩
                          · refine own_st (fun _ k => XS.icmpYes X0.here hx rfl (pc0 := 116) (pc' := 123) rfl (hb hby own_d_method_3_code_116) rfl (XT.ii_ne_t hc61) (by decide) (by decide) k) ?_
                            show own_Go p e below s _ _ _ (s₁.setTop (mkF m 123 #[.val (.int p1)] []))
                            have F66 : Sta Z h0 "com/example/indri/indri/wire/Api" "API_VERSIONS" "Lcom/example/indri/indri/wire/Api;" (.ref a_API_VERSIONS) := S_a_API_VERSIONS.ext O0.2
                            obtain ⟨T67, X67, e67, st67⟩ := getS2 X0 hx hZ hown (host := "") (Or.inl (hw _ (List.mem_of_getElem? (i := 40) rfl))) Via.refl e0 F66 (g := (mkF m 123 #[.val (.int p1)] [])) rfl (hb hby own_d_method_3_code_123)
                            refine own_st st67 ?_
                            show own_Go p e below s _ _ _ (T67.setTop (mkF m 126 #[.val (.int p1)] [(.ref a_API_VERSIONS)]))
                            have F68 : Fld Z h0 a_API_VERSIONS "com/example/indri/indri/wire/Api" "firstFlexibleVersion" "I" (.int (3 : Int32)) := F_API_VERSIONS_firstFlexibleVersion.ext O0.2
                            have F69 : Exa Z h0 a_API_VERSIONS "com/example/indri/indri/wire/Api" := Ex_a_API_VERSIONS.ext O0.2
                            refine own_retA X67 hx hlk Bd.returns rfl (hb hby own_d_method_3_code_126) (by decide) (by decide) ?_
                            rw [e67]
                            exact ⟨a_API_VERSIONS, N0, rfl, rfl, F69, (by rw [show own_ff p1 = (3 : Int32) from by simp [own_ff, hc1, hc6, hc11, hc16, hc21, hc26, hc31, hc36, hc41, hc46, hc51, hc56, hc61]]; exact F68)⟩
theorem own_d_method_4_code_0 : decode method_4_code 0 = .ok (.iload_n 0, 1) := by decide +kernel
theorem own_d_method_4_code_1 : decode method_4_code 1 = .ok (.iconst 5, 1) := by decide +kernel
theorem own_d_method_4_code_2 : decode method_4_code 2 = .ok (.if_icmp .ne 6, 3) := by decide +kernel
theorem own_d_method_4_code_5 : decode method_4_code 5 = .ok (.bipush 6, 2) := by decide +kernel
theorem own_d_method_4_code_7 : decode method_4_code 7 = .ok (.ireturn, 1) := by decide +kernel
theorem own_d_method_4_code_8 : decode method_4_code 8 = .ok (.iload_n 0, 1) := by decide +kernel
theorem own_d_method_4_code_9 : decode method_4_code 9 = .ok (.bipush 7, 2) := by decide +kernel
theorem own_d_method_4_code_11 : decode method_4_code 11 = .ok (.if_icmp .ne 6, 3) := by decide +kernel
theorem own_d_method_4_code_14 : decode method_4_code 14 = .ok (.bipush 6, 2) := by decide +kernel
theorem own_d_method_4_code_16 : decode method_4_code 16 = .ok (.ireturn, 1) := by decide +kernel
theorem own_d_method_4_code_17 : decode method_4_code 17 = .ok (.iload_n 0, 1) := by decide +kernel
theorem own_d_method_4_code_18 : decode method_4_code 18 = .ok (.bipush 8, 2) := by decide +kernel
theorem own_d_method_4_code_20 : decode method_4_code 20 = .ok (.if_icmp .ne 5, 3) := by decide +kernel
theorem own_d_method_4_code_23 : decode method_4_code 23 = .ok (.iconst 4, 1) := by decide +kernel
theorem own_d_method_4_code_24 : decode method_4_code 24 = .ok (.ireturn, 1) := by decide +kernel
theorem own_d_method_4_code_25 : decode method_4_code 25 = .ok (.iload_n 0, 1) := by decide +kernel
theorem own_d_method_4_code_26 : decode method_4_code 26 = .ok (.bipush 9, 2) := by decide +kernel
theorem own_d_method_4_code_28 : decode method_4_code 28 = .ok (.if_icmp .ne 5, 3) := by decide +kernel
theorem own_d_method_4_code_31 : decode method_4_code 31 = .ok (.iconst 4, 1) := by decide +kernel
theorem own_d_method_4_code_32 : decode method_4_code 32 = .ok (.ireturn, 1) := by decide +kernel
theorem own_d_method_4_code_33 : decode method_4_code 33 = .ok (.iload_n 0, 1) := by decide +kernel
theorem own_d_method_4_code_34 : decode method_4_code 34 = .ok (.bipush 10, 2) := by decide +kernel
theorem own_d_method_4_code_36 : decode method_4_code 36 = .ok (.if_icmp .ne 5, 3) := by decide +kernel
theorem own_d_method_4_code_39 : decode method_4_code 39 = .ok (.iconst 4, 1) := by decide +kernel
theorem own_d_method_4_code_40 : decode method_4_code 40 = .ok (.ireturn, 1) := by decide +kernel
theorem own_d_method_4_code_41 : decode method_4_code 41 = .ok (.iload_n 0, 1) := by decide +kernel
theorem own_d_method_4_code_42 : decode method_4_code 42 = .ok (.bipush 11, 2) := by decide +kernel
theorem own_d_method_4_code_44 : decode method_4_code 44 = .ok (.if_icmp .ne 5, 3) := by decide +kernel
theorem own_d_method_4_code_47 : decode method_4_code 47 = .ok (.iconst 5, 1) := by decide +kernel
theorem own_d_method_4_code_48 : decode method_4_code 48 = .ok (.ireturn, 1) := by decide +kernel
theorem own_d_method_4_code_49 : decode method_4_code 49 = .ok (.iload_n 0, 1) := by decide +kernel
theorem own_d_method_4_code_50 : decode method_4_code 50 = .ok (.bipush 12, 2) := by decide +kernel
theorem own_d_method_4_code_52 : decode method_4_code 52 = .ok (.if_icmp .ne 5, 3) := by decide +kernel
theorem own_d_method_4_code_55 : decode method_4_code 55 = .ok (.iconst 3, 1) := by decide +kernel
theorem own_d_method_4_code_56 : decode method_4_code 56 = .ok (.ireturn, 1) := by decide +kernel
theorem own_d_method_4_code_57 : decode method_4_code 57 = .ok (.iload_n 0, 1) := by decide +kernel
theorem own_d_method_4_code_58 : decode method_4_code 58 = .ok (.bipush 13, 2) := by decide +kernel
theorem own_d_method_4_code_60 : decode method_4_code 60 = .ok (.if_icmp .ne 5, 3) := by decide +kernel
theorem own_d_method_4_code_63 : decode method_4_code 63 = .ok (.iconst 3, 1) := by decide +kernel
theorem own_d_method_4_code_64 : decode method_4_code 64 = .ok (.ireturn, 1) := by decide +kernel
theorem own_d_method_4_code_65 : decode method_4_code 65 = .ok (.iconst (-1), 1) := by decide +kernel
theorem own_d_method_4_code_66 : decode method_4_code 66 = .ok (.ireturn, 1) := by decide +kernel
theorem own_pn1 : plainFor (⟨"com/example/indri/indri/wire/ApiIsFlexiblePinLaw", "firstFlexible", "(I)I"⟩ : MethodName) = true := by decide +kernel
def own_rm_first_Q (Z : State) (p1 : Int32) (h0 : Heap) (n0 : Nat) (v : Option Value) (h : Heap) (L : List Loc) : Prop := Fr n0 L ∧ v = some (.int (own_first p1)) ∧ h = h0
theorem own_rm_first_ef (m : MethodId) (p1 : Int32) : entryFrame m #[(.int p1)] 1 = mkF m 0 #[.val (.int p1)] [] := by first | (simp [entryFrame, mkF, argsToLocals, Value.category]; done) | rfl
set_option maxRecDepth 65536 in
set_option maxHeartbeats 40000000 in
theorem own_rm_first (l : Launch) (Z : State) (a0 : Array Value) (hw : ∀ d ∈ tables_1, d.before a0 Z = true) (ws : List Jvm.Cond) (p1 : Int32) (h0 : Heap) (n0 : Nat) (Z0 : n0 ≤ h0.size)  :
    MetFree l (⟨"com/example/indri/indri/wire/ApiIsFlexiblePinLaw", "firstFlexible", "(I)I"⟩ : MethodName) (head1 (Jvm.Cond.code (⟨"com/example/indri/indri/wire/ApiIsFlexiblePinLaw", "firstFlexible", "(I)I"⟩ : MethodName) method_4_code 1 (some .int) :: ws) ({ frames := 0, cells := 0, slots := 0, locals := 0 } : Room)) (fun a U => a = #[(.int p1)] ∧ Z.Warmed39 U.vm ∧ U.heap = h0) (fun _ _ _ _ _ => True) (fun _ U o U' => ∃ v L, o = .returned v ∧ own_rm_first_Q Z p1 h0 n0 v U'.heap L ∧ FrameEnd U o U' L ({ frames := 0, cells := 0, slots := 0, locals := 0 } : Room).cells ({ frames := 0, cells := 0, slots := 0, locals := 0 } : Room).slots) := by
  refine MetFree.of_bodySF own_pn1 hisR ?_
  intro p e s m args below meth c s₁ Bd hml0 hP hK
  obtain ⟨rfl, hZ, hh⟩ := hP
  have hx := Bd.exec
  have hby := Bd.bytes
  have hml : c.maxLocals = 1 := hml0
  have hlk := BodyLoose.notSynchronized Bd
  have hown : s.vm.findClass "com/example/indri/indri/wire/ApiIsFlexiblePinLaw" = some m.cls := findClass_of_methodNamed Bd.named
  have hnm := (name_of_methodNamed Bd.named Bd.method).1
  have X0 : Stand p l e ({ frames := 0, cells := 0, slots := 0, locals := 0 } : Room) s m #[(.int p1)] below meth c s₁ [] 0 0 := Stand.of_body Bd
  have e0 : s₁.heap = h0 := by rw [← hh, Bd.state]; rfl
  have N0 := Fr.nil n0
  show own_Go p e below s (own_rm_first_Q Z p1 h0 n0) ({ frames := 0, cells := 0, slots := 0, locals := 0 } : Room).cells ({ frames := 0, cells := 0, slots := 0, locals := 0 } : Room).slots (s₁.setTop (entryFrame m #[(.int p1)] 1))
  rw [own_rm_first_ef]
  show own_Go p e below s _ _ _ (s₁.setTop (mkF m 0 #[.val (.int p1)] []))
  refine own_st (fun _ k => XS.iloadN X0.here hx rfl (hb hby own_d_method_4_code_0) rfl k) ?_
  show own_Go p e below s _ _ _ (s₁.setTop (mkF m 1 #[.val (.int p1)] [(.int p1)]))
  refine own_st (fun _ k => XT.iconstV X0.here hx rfl (5 : Int32) (hb hby own_d_method_4_code_1) (by decide) k) ?_
  show own_Go p e below s _ _ _ (s₁.setTop (mkF m 2 #[.val (.int p1)] [(.int (5 : Int32)), (.int p1)]))
  by_cases hc70 : p1 = (5 : Int32)
  · refine own_st (fun _ k => XS.icmpNo X0.here hx rfl (hb hby own_d_method_4_code_2) rfl (XT.ii_ne_f hc70) k) ?_
    show own_Go p e below s _ _ _ (s₁.setTop (mkF m 5 #[.val (.int p1)] []))
    refine own_st (fun _ k => XT.bipushV X0.here hx rfl (6 : Int32) (hb hby own_d_method_4_code_5) (by decide) k) ?_
    show own_Go p e below s _ _ _ (s₁.setTop (mkF m 7 #[.val (.int p1)] [(.int (6 : Int32))]))
    refine own_retI X0 hx hlk Bd.returns (hb hby own_d_method_4_code_7) (by decide) (by decide) ?_
    rw [e0]
    exact ⟨N0, (by unfold own_first; rw [if_pos hc70]), rfl⟩
  · refine own_st (fun _ k => XS.icmpYes X0.here hx rfl (pc0 := 2) (pc' := 8) rfl (hb hby own_d_method_4_code_2) rfl (XT.ii_ne_t hc70) (by decide) (by decide) k) ?_
    show own_Go p e below s _ _ _ (s₁.setTop (mkF m 8 #[.val (.int p1)] []))
    refine own_st (fun _ k => XS.iloadN X0.here hx rfl (hb hby own_d_method_4_code_8) rfl k) ?_
    show own_Go p e below s _ _ _ (s₁.setTop (mkF m 9 #[.val (.int p1)] [(.int p1)]))
    refine own_st (fun _ k => XT.bipushV X0.here hx rfl (7 : Int32) (hb hby own_d_method_4_code_9) (by decide) k) ?_
    show own_Go p e below s _ _ _ (s₁.setTop (mkF m 11 #[.val (.int p1)] [(.int (7 : Int32)), (.int p1)]))
    by_cases hc71 : p1 = (7 : Int32)
    · refine own_st (fun _ k => XS.icmpNo X0.here hx rfl (hb hby own_d_method_4_code_11) rfl (XT.ii_ne_f hc71) k) ?_
      show own_Go p e below s _ _ _ (s₁.setTop (mkF m 14 #[.val (.int p1)] []))
      refine own_st (fun _ k => XT.bipushV X0.here hx rfl (6 : Int32) (hb hby own_d_method_4_code_14) (by decide) k) ?_
      show own_Go p e below s _ _ _ (s₁.setTop (mkF m 16 #[.val (.int p1)] [(.int (6 : Int32))]))
      refine own_retI X0 hx hlk Bd.returns (hb hby own_d_method_4_code_16) (by decide) (by decide) ?_
      rw [e0]
      exact ⟨N0, (by unfold own_first; rw [if_neg hc70, if_pos hc71]), rfl⟩
    · refine own_st (fun _ k => XS.icmpYes X0.here hx rfl (pc0 := 11) (pc' := 17) rfl (hb hby own_d_method_4_code_11) rfl (XT.ii_ne_t hc71) (by decide) (by decide) k) ?_
      show own_Go p e below s _ _ _ (s₁.setTop (mkF m 17 #[.val (.int p1)] []))
      refine own_st (fun _ k => XS.iloadN X0.here hx rfl (hb hby own_d_method_4_code_17) rfl k) ?_
      show own_Go p e below s _ _ _ (s₁.setTop (mkF m 18 #[.val (.int p1)] [(.int p1)]))
      refine own_st (fun _ k => XT.bipushV X0.here hx rfl (8 : Int32) (hb hby own_d_method_4_code_18) (by decide) k) ?_
      show own_Go p e below s _ _ _ (s₁.setTop (mkF m 20 #[.val (.int p1)] [(.int (8 : Int32)), (.int p1)]))
      by_cases hc72 : p1 = (8 : Int32)
      · refine own_st (fun _ k => XS.icmpNo X0.here hx rfl (hb hby own_d_method_4_code_20) rfl (XT.ii_ne_f hc72) k) ?_
        show own_Go p e below s _ _ _ (s₁.setTop (mkF m 23 #[.val (.int p1)] []))
        refine own_st (fun _ k => XT.iconstV X0.here hx rfl (4 : Int32) (hb hby own_d_method_4_code_23) (by decide) k) ?_
        show own_Go p e below s _ _ _ (s₁.setTop (mkF m 24 #[.val (.int p1)] [(.int (4 : Int32))]))
        refine own_retI X0 hx hlk Bd.returns (hb hby own_d_method_4_code_24) (by decide) (by decide) ?_
        rw [e0]
        exact ⟨N0, (by unfold own_first; rw [if_neg hc70, if_neg hc71, if_pos hc72]), rfl⟩
      · refine own_st (fun _ k => XS.icmpYes X0.here hx rfl (pc0 := 20) (pc' := 25) rfl (hb hby own_d_method_4_code_20) rfl (XT.ii_ne_t hc72) (by decide) (by decide) k) ?_
        show own_Go p e below s _ _ _ (s₁.setTop (mkF m 25 #[.val (.int p1)] []))
        refine own_st (fun _ k => XS.iloadN X0.here hx rfl (hb hby own_d_method_4_code_25) rfl k) ?_
        show own_Go p e below s _ _ _ (s₁.setTop (mkF m 26 #[.val (.int p1)] [(.int p1)]))
        refine own_st (fun _ k => XT.bipushV X0.here hx rfl (9 : Int32) (hb hby own_d_method_4_code_26) (by decide) k) ?_
        show own_Go p e below s _ _ _ (s₁.setTop (mkF m 28 #[.val (.int p1)] [(.int (9 : Int32)), (.int p1)]))
        by_cases hc73 : p1 = (9 : Int32)
        · refine own_st (fun _ k => XS.icmpNo X0.here hx rfl (hb hby own_d_method_4_code_28) rfl (XT.ii_ne_f hc73) k) ?_
          show own_Go p e below s _ _ _ (s₁.setTop (mkF m 31 #[.val (.int p1)] []))
          refine own_st (fun _ k => XT.iconstV X0.here hx rfl (4 : Int32) (hb hby own_d_method_4_code_31) (by decide) k) ?_
          show own_Go p e below s _ _ _ (s₁.setTop (mkF m 32 #[.val (.int p1)] [(.int (4 : Int32))]))
          refine own_retI X0 hx hlk Bd.returns (hb hby own_d_method_4_code_32) (by decide) (by decide) ?_
          rw [e0]
          exact ⟨N0, (by unfold own_first; rw [if_neg hc70, if_neg hc71, if_neg hc72, if_pos hc73]), rfl⟩
        · refine own_st (fun _ k => XS.icmpYes X0.here hx rfl (pc0 := 28) (pc' := 33) rfl (hb hby own_d_method_4_code_28) rfl (XT.ii_ne_t hc73) (by decide) (by decide) k) ?_
          show own_Go p e below s _ _ _ (s₁.setTop (mkF m 33 #[.val (.int p1)] []))
          refine own_st (fun _ k => XS.iloadN X0.here hx rfl (hb hby own_d_method_4_code_33) rfl k) ?_
          show own_Go p e below s _ _ _ (s₁.setTop (mkF m 34 #[.val (.int p1)] [(.int p1)]))
          refine own_st (fun _ k => XT.bipushV X0.here hx rfl (10 : Int32) (hb hby own_d_method_4_code_34) (by decide) k) ?_
          show own_Go p e below s _ _ _ (s₁.setTop (mkF m 36 #[.val (.int p1)] [(.int (10 : Int32)), (.int p1)]))
          by_cases hc74 : p1 = (10 : Int32)
          · refine own_st (fun _ k => XS.icmpNo X0.here hx rfl (hb hby own_d_method_4_code_36) rfl (XT.ii_ne_f hc74) k) ?_
            show own_Go p e below s _ _ _ (s₁.setTop (mkF m 39 #[.val (.int p1)] []))
            refine own_st (fun _ k => XT.iconstV X0.here hx rfl (4 : Int32) (hb hby own_d_method_4_code_39) (by decide) k) ?_
            show own_Go p e below s _ _ _ (s₁.setTop (mkF m 40 #[.val (.int p1)] [(.int (4 : Int32))]))
            refine own_retI X0 hx hlk Bd.returns (hb hby own_d_method_4_code_40) (by decide) (by decide) ?_
            rw [e0]
            exact ⟨N0, (by unfold own_first; rw [if_neg hc70, if_neg hc71, if_neg hc72, if_neg hc73, if_pos hc74]), rfl⟩
          · refine own_st (fun _ k => XS.icmpYes X0.here hx rfl (pc0 := 36) (pc' := 41) rfl (hb hby own_d_method_4_code_36) rfl (XT.ii_ne_t hc74) (by decide) (by decide) k) ?_
            show own_Go p e below s _ _ _ (s₁.setTop (mkF m 41 #[.val (.int p1)] []))
            refine own_st (fun _ k => XS.iloadN X0.here hx rfl (hb hby own_d_method_4_code_41) rfl k) ?_
            show own_Go p e below s _ _ _ (s₁.setTop (mkF m 42 #[.val (.int p1)] [(.int p1)]))
            refine own_st (fun _ k => XT.bipushV X0.here hx rfl (11 : Int32) (hb hby own_d_method_4_code_42) (by decide) k) ?_
            show own_Go p e below s _ _ _ (s₁.setTop (mkF m 44 #[.val (.int p1)] [(.int (11 : Int32)), (.int p1)]))
            by_cases hc75 : p1 = (11 : Int32)
            · refine own_st (fun _ k => XS.icmpNo X0.here hx rfl (hb hby own_d_method_4_code_44) rfl (XT.ii_ne_f hc75) k) ?_
              show own_Go p e below s _ _ _ (s₁.setTop (mkF m 47 #[.val (.int p1)] []))
              refine own_st (fun _ k => XT.iconstV X0.here hx rfl (5 : Int32) (hb hby own_d_method_4_code_47) (by decide) k) ?_
              show own_Go p e below s _ _ _ (s₁.setTop (mkF m 48 #[.val (.int p1)] [(.int (5 : Int32))]))
              refine own_retI X0 hx hlk Bd.returns (hb hby own_d_method_4_code_48) (by decide) (by decide) ?_
              rw [e0]
              exact ⟨N0, (by unfold own_first; rw [if_neg hc70, if_neg hc71, if_neg hc72, if_neg hc73, if_neg hc74, if_pos hc75]), rfl⟩
            · refine own_st (fun _ k => XS.icmpYes X0.here hx rfl (pc0 := 44) (pc' := 49) rfl (hb hby own_d_method_4_code_44) rfl (XT.ii_ne_t hc75) (by decide) (by decide) k) ?_
              show own_Go p e below s _ _ _ (s₁.setTop (mkF m 49 #[.val (.int p1)] []))
              refine own_st (fun _ k => XS.iloadN X0.here hx rfl (hb hby own_d_method_4_code_49) rfl k) ?_
              show own_Go p e below s _ _ _ (s₁.setTop (mkF m 50 #[.val (.int p1)] [(.int p1)]))
              refine own_st (fun _ k => XT.bipushV X0.here hx rfl (12 : Int32) (hb hby own_d_method_4_code_50) (by decide) k) ?_
              show own_Go p e below s _ _ _ (s₁.setTop (mkF m 52 #[.val (.int p1)] [(.int (12 : Int32)), (.int p1)]))
              by_cases hc76 : p1 = (12 : Int32)
              · refine own_st (fun _ k => XS.icmpNo X0.here hx rfl (hb hby own_d_method_4_code_52) rfl (XT.ii_ne_f hc76) k) ?_
                show own_Go p e below s _ _ _ (s₁.setTop (mkF m 55 #[.val (.int p1)] []))
                refine own_st (fun _ k => XT.iconstV X0.here hx rfl (3 : Int32) (hb hby own_d_method_4_code_55) (by decide) k) ?_
                show own_Go p e below s _ _ _ (s₁.setTop (mkF m 56 #[.val (.int p1)] [(.int (3 : Int32))]))
                refine own_retI X0 hx hlk Bd.returns (hb hby own_d_method_4_code_56) (by decide) (by decide) ?_
                rw [e0]
                exact ⟨N0, (by unfold own_first; rw [if_neg hc70, if_neg hc71, if_neg hc72, if_neg hc73, if_neg hc74, if_neg hc75, if_pos hc76]), rfl⟩
              · refine own_st (fun _ k => XS.icmpYes X0.here hx rfl (pc0 := 52) (pc' := 57) rfl (hb hby own_d_method_4_code_52) rfl (XT.ii_ne_t hc76) (by decide) (by decide) k) ?_
                show own_Go p e below s _ _ _ (s₁.setTop (mkF m 57 #[.val (.int p1)] []))
                refine own_st (fun _ k => XS.iloadN X0.here hx rfl (hb hby own_d_method_4_code_57) rfl k) ?_
                show own_Go p e below s _ _ _ (s₁.setTop (mkF m 58 #[.val (.int p1)] [(.int p1)]))
                refine own_st (fun _ k => XT.bipushV X0.here hx rfl (13 : Int32) (hb hby own_d_method_4_code_58) (by decide) k) ?_
                show own_Go p e below s _ _ _ (s₁.setTop (mkF m 60 #[.val (.int p1)] [(.int (13 : Int32)), (.int p1)]))
                by_cases hc77 : p1 = (13 : Int32)
                · refine own_st (fun _ k => XS.icmpNo X0.here hx rfl (hb hby own_d_method_4_code_60) rfl (XT.ii_ne_f hc77) k) ?_
                  show own_Go p e below s _ _ _ (s₁.setTop (mkF m 63 #[.val (.int p1)] []))
                  refine own_st (fun _ k => XT.iconstV X0.here hx rfl (3 : Int32) (hb hby own_d_method_4_code_63) (by decide) k) ?_
                  show own_Go p e below s _ _ _ (s₁.setTop (mkF m 64 #[.val (.int p1)] [(.int (3 : Int32))]))
                  refine own_retI X0 hx hlk Bd.returns (hb hby own_d_method_4_code_64) (by decide) (by decide) ?_
                  rw [e0]
                  exact ⟨N0, (by unfold own_first; rw [if_neg hc70, if_neg hc71, if_neg hc72, if_neg hc73, if_neg hc74, if_neg hc75, if_neg hc76, if_pos hc77]), rfl⟩
                · refine own_st (fun _ k => XS.icmpYes X0.here hx rfl (pc0 := 60) (pc' := 65) rfl (hb hby own_d_method_4_code_60) rfl (XT.ii_ne_t hc77) (by decide) (by decide) k) ?_
                  show own_Go p e below s _ _ _ (s₁.setTop (mkF m 65 #[.val (.int p1)] []))
                  refine own_st (fun _ k => XT.iconstV X0.here hx rfl (-1 : Int32) (hb hby own_d_method_4_code_65) (by decide) k) ?_
                  show own_Go p e below s _ _ _ (s₁.setTop (mkF m 66 #[.val (.int p1)] [(.int (-1 : Int32))]))
                  refine own_retI X0 hx hlk Bd.returns (hb hby own_d_method_4_code_66) (by decide) (by decide) ?_
                  rw [e0]
                  exact ⟨N0, (by unfold own_first; rw [if_neg hc70, if_neg hc71, if_neg hc72, if_neg hc73, if_neg hc74, if_neg hc75, if_neg hc76, if_neg hc77]), rfl⟩
theorem own_d_prog_47_method_13_code_0 : decode prog_47_method_13_code 0 = .ok (.iload_n 1, 1) := by decide +kernel
theorem own_d_prog_47_method_13_code_1 : decode prog_47_method_13_code 1 = .ok (.aload_n 0, 1) := by decide +kernel
theorem own_d_prog_47_method_13_code_2 : decode prog_47_method_13_code 2 = .ok (.getfield 85, 3) := by decide +kernel
theorem own_d_prog_47_method_13_code_5 : decode prog_47_method_13_code 5 = .ok (.if_icmp .lt 7, 3) := by decide +kernel
theorem own_d_prog_47_method_13_code_8 : decode prog_47_method_13_code 8 = .ok (.iconst 1, 1) := by decide +kernel
theorem own_d_prog_47_method_13_code_9 : decode prog_47_method_13_code 9 = .ok (.goto 4, 3) := by decide +kernel
theorem own_d_prog_47_method_13_code_12 : decode prog_47_method_13_code 12 = .ok (.iconst 0, 1) := by decide +kernel
theorem own_d_prog_47_method_13_code_13 : decode prog_47_method_13_code 13 = .ok (.ireturn, 1) := by decide +kernel
theorem own_pn2 : plainFor (⟨"com/example/indri/indri/wire/Api", "isFlexible", "(S)Z"⟩ : MethodName) = true := by decide +kernel
def own_rm_flex_Q (Z : State) (r : Addr) (p1 : Int32) (f : Int32) (h0 : Heap) (n0 : Nat) (v : Option Value) (h : Heap) (L : List Loc) : Prop := Fr n0 L ∧ v = some (.int (if p1 < f then (0 : Int32) else 1)) ∧ h = h0
theorem own_rm_flex_ef (m : MethodId) (r : Addr) (p1 : Int32) : entryFrame m #[(.ref r), (.int p1)] 2 = mkF m 0 #[.val (.ref r), .val (.int p1)] [] := by first | (simp [entryFrame, mkF, argsToLocals, Value.category]; done) | rfl
set_option maxRecDepth 65536 in
set_option maxHeartbeats 40000000 in
theorem own_rm_flex (l : Launch) (Z : State) (a0 : Array Value) (hw : ∀ d ∈ tables_1, d.before a0 Z = true) (ws : List Jvm.Cond) (r : Addr) (p1 : Int32) (f : Int32) (h0 : Heap) (n0 : Nat) (Z0 : n0 ≤ h0.size) (F1 : Fld Z h0 r "com/example/indri/indri/wire/Api" "firstFlexibleVersion" "I" (.int f)) :
    MetFree l (⟨"com/example/indri/indri/wire/Api", "isFlexible", "(S)Z"⟩ : MethodName) (head1 (Jvm.Cond.code (⟨"com/example/indri/indri/wire/Api", "isFlexible", "(S)Z"⟩ : MethodName) prog_47_method_13_code 2 (some .boolean) :: ws) ({ frames := 0, cells := 0, slots := 0, locals := 0 } : Room)) (fun a U => a = #[(.ref r), (.int p1)] ∧ Z.Warmed39 U.vm ∧ U.heap = h0) (fun _ _ _ _ _ => True) (fun _ U o U' => ∃ v L, o = .returned v ∧ own_rm_flex_Q Z r p1 f h0 n0 v U'.heap L ∧ FrameEnd U o U' L ({ frames := 0, cells := 0, slots := 0, locals := 0 } : Room).cells ({ frames := 0, cells := 0, slots := 0, locals := 0 } : Room).slots) := by
  refine MetFree.of_bodySF own_pn2 hisR ?_
  intro p e s m args below meth c s₁ Bd hml0 hP hK
  obtain ⟨rfl, hZ, hh⟩ := hP
  have hx := Bd.exec
  have hby := Bd.bytes
  have hml : c.maxLocals = 2 := hml0
  have hlk := BodyLoose.notSynchronized Bd
  have hown : s.vm.findClass "com/example/indri/indri/wire/Api" = some m.cls := findClass_of_methodNamed Bd.named
  have hnm := (name_of_methodNamed Bd.named Bd.method).1
  have X0 : Stand p l e ({ frames := 0, cells := 0, slots := 0, locals := 0 } : Room) s m #[(.ref r), (.int p1)] below meth c s₁ [] 0 0 := Stand.of_body Bd
  have e0 : s₁.heap = h0 := by rw [← hh, Bd.state]; rfl
  have N0 := Fr.nil n0
  show own_Go p e below s (own_rm_flex_Q Z r p1 f h0 n0) ({ frames := 0, cells := 0, slots := 0, locals := 0 } : Room).cells ({ frames := 0, cells := 0, slots := 0, locals := 0 } : Room).slots (s₁.setTop (entryFrame m #[(.ref r), (.int p1)] 2))
  rw [own_rm_flex_ef]
  show own_Go p e below s _ _ _ (s₁.setTop (mkF m 0 #[.val (.ref r), .val (.int p1)] []))
  refine own_st (fun _ k => XS.iloadN X0.here hx rfl (hb hby own_d_prog_47_method_13_code_0) rfl k) ?_
  show own_Go p e below s _ _ _ (s₁.setTop (mkF m 1 #[.val (.ref r), .val (.int p1)] [(.int p1)]))
  refine own_st (fun _ k => XS.aloadN X0.here hx rfl (hb hby own_d_prog_47_method_13_code_1) rfl rfl k) ?_
  show own_Go p e below s _ _ _ (s₁.setTop (mkF m 2 #[.val (.ref r), .val (.int p1)] [(.ref r), (.int p1)]))
  obtain ⟨T78, X78, e78, st78⟩ := getF X0 hx hZ hown (host := "") (Or.inl (hw _ (List.mem_of_getElem? (i := 16) rfl))) Via.refl e0 F1 (g := (mkF m 2 #[.val (.ref r), .val (.int p1)] [(.ref r), (.int p1)])) rfl rfl (hb hby own_d_prog_47_method_13_code_2)
  refine own_st st78 ?_
  show own_Go p e below s _ _ _ (T78.setTop (mkF m 5 #[.val (.ref r), .val (.int p1)] [(.int f), (.int p1)]))
  by_cases hc79 : p1 < f
  · refine own_st (fun _ k => XS.icmpYes X78.here hx rfl (pc0 := 5) (pc' := 12) rfl (hb hby own_d_prog_47_method_13_code_5) rfl (XT.ii_lt_t hc79) (by decide) (by decide) k) ?_
    show own_Go p e below s _ _ _ (T78.setTop (mkF m 12 #[.val (.ref r), .val (.int p1)] []))
    refine own_st (fun _ k => XT.iconstV X78.here hx rfl (0 : Int32) (hb hby own_d_prog_47_method_13_code_12) (by decide) k) ?_
    show own_Go p e below s _ _ _ (T78.setTop (mkF m 13 #[.val (.ref r), .val (.int p1)] [(.int (0 : Int32))]))
    refine own_retN X78 hx hlk Bd.returns (t := .boolean) (z' := (0 : Int32)) (by simp) (by decide) (hb hby own_d_prog_47_method_13_code_13) (by decide) (by decide) ?_
    rw [e78]
    exact ⟨N0, (by rw [if_pos hc79]), rfl⟩
  · refine own_st (fun _ k => XS.icmpNo X78.here hx rfl (hb hby own_d_prog_47_method_13_code_5) rfl (XT.ii_lt_f hc79) k) ?_
    show own_Go p e below s _ _ _ (T78.setTop (mkF m 8 #[.val (.ref r), .val (.int p1)] []))
    refine own_st (fun _ k => XT.iconstV X78.here hx rfl (1 : Int32) (hb hby own_d_prog_47_method_13_code_8) (by decide) k) ?_
    show own_Go p e below s _ _ _ (T78.setTop (mkF m 9 #[.val (.ref r), .val (.int p1)] [(.int (1 : Int32))]))
    refine own_st (fun _ k => XS.goto X78.here hx rfl (pc0 := 9) (pc' := 13) rfl (hb hby own_d_prog_47_method_13_code_9) (by decide) (by decide) k) ?_
    show own_Go p e below s _ _ _ (T78.setTop (mkF m 13 #[.val (.ref r), .val (.int p1)] [(.int (1 : Int32))]))
    refine own_retN X78 hx hlk Bd.returns (t := .boolean) (z' := (1 : Int32)) (by simp) (by decide) (hb hby own_d_prog_47_method_13_code_13) (by decide) (by decide) ?_
    rw [e78]
    exact ⟨N0, (by rw [if_neg hc79]), rfl⟩
theorem own_pn3 : plainFor (⟨"com/example/indri/indri/wire/ApiIsFlexiblePinLaw", "law", "(II)Z"⟩ : MethodName) = true := by decide +kernel
theorem own_pd0 : parseMethodDescriptor "(I)Lcom/example/indri/indri/wire/Api;" = some ⟨[.int], some (.object "com/example/indri/indri/wire/Api")⟩ := by decide +kernel
theorem own_pd1 : parseMethodDescriptor "(I)I" = some ⟨[.int], some .int⟩ := by decide +kernel
theorem own_pd2 : parseMethodDescriptor "(S)Z" = some ⟨[.short], some .boolean⟩ := by decide +kernel
def own_law_Q (Z : State) (n0 : Nat) (v : Option Value) (h : Heap) (L : List Loc) : Prop := Fr n0 L ∧ v = some (.int 1)
theorem own_law_ef (m : MethodId) (p1 : Int32) (p2 : Int32) : entryFrame m #[(.int p1), (.int p2)] maxLocals = mkF m 0 #[.val (.int p1), .val (.int p2), .unset, .unset, .unset, .unset, .unset] [] := by first | (simp [entryFrame, mkF, argsToLocals, Value.category, maxLocals]; done) | rfl
set_option maxRecDepth 65536 in
set_option maxHeartbeats 40000000 in
theorem own_law (l : Launch) (Z : State) (a0 : Array Value) (hw : ∀ d ∈ tables_1, d.before a0 Z = true) (ws : List Jvm.Cond) (p1 : Int32) (p2 : Int32) (a_PRODUCE : Addr) (a_SYNC_GROUP : Addr) (a_HEARTBEAT : Addr) (a_OFFSET_COMMIT : Addr) (a_DESCRIBE_GROUPS : Addr) (a_FIND_COORDINATOR : Addr) (a_LIST_GROUPS : Addr) (a_JOIN_GROUP : Addr) (a_METADATA : Addr) (a_OFFSET_FETCH : Addr) (a_FETCH : Addr) (a_LIST_OFFSETS : Addr) (a_API_VERSIONS : Addr) (a_LEAVE_GROUP : Addr) (h0 : Heap) (n0 : Nat) (Z0 : n0 ≤ h0.size) (O0 : Old Z n0 h0) (Ex_a_PRODUCE : Exa Z Z.heap a_PRODUCE "com/example/indri/indri/wire/Api") (S_a_PRODUCE : Sta Z Z.heap "com/example/indri/indri/wire/Api" "PRODUCE" "Lcom/example/indri/indri/wire/Api;" (.ref a_PRODUCE)) (F_PRODUCE_firstFlexibleVersion : Fld Z Z.heap a_PRODUCE "com/example/indri/indri/wire/Api" "firstFlexibleVersion" "I" (.int (2147483647 : Int32))) (Ex_a_SYNC_GROUP : Exa Z Z.heap a_SYNC_GROUP "com/example/indri/indri/wire/Api") (S_a_SYNC_GROUP : Sta Z Z.heap "com/example/indri/indri/wire/Api" "SYNC_GROUP" "Lcom/example/indri/indri/wire/Api;" (.ref a_SYNC_GROUP)) (F_SYNC_GROUP_firstFlexibleVersion : Fld Z Z.heap a_SYNC_GROUP "com/example/indri/indri/wire/Api" "firstFlexibleVersion" "I" (.int (4 : Int32))) (Ex_a_HEARTBEAT : Exa Z Z.heap a_HEARTBEAT "com/example/indri/indri/wire/Api") (S_a_HEARTBEAT : Sta Z Z.heap "com/example/indri/indri/wire/Api" "HEARTBEAT" "Lcom/example/indri/indri/wire/Api;" (.ref a_HEARTBEAT)) (F_HEARTBEAT_firstFlexibleVersion : Fld Z Z.heap a_HEARTBEAT "com/example/indri/indri/wire/Api" "firstFlexibleVersion" "I" (.int (4 : Int32))) (Ex_a_OFFSET_COMMIT : Exa Z Z.heap a_OFFSET_COMMIT "com/example/indri/indri/wire/Api") (S_a_OFFSET_COMMIT : Sta Z Z.heap "com/example/indri/indri/wire/Api" "OFFSET_COMMIT" "Lcom/example/indri/indri/wire/Api;" (.ref a_OFFSET_COMMIT)) (F_OFFSET_COMMIT_firstFlexibleVersion : Fld Z Z.heap a_OFFSET_COMMIT "com/example/indri/indri/wire/Api" "firstFlexibleVersion" "I" (.int (2147483647 : Int32))) (Ex_a_DESCRIBE_GROUPS : Exa Z Z.heap a_DESCRIBE_GROUPS "com/example/indri/indri/wire/Api") (S_a_DESCRIBE_GROUPS : Sta Z Z.heap "com/example/indri/indri/wire/Api" "DESCRIBE_GROUPS" "Lcom/example/indri/indri/wire/Api;" (.ref a_DESCRIBE_GROUPS)) (F_DESCRIBE_GROUPS_firstFlexibleVersion : Fld Z Z.heap a_DESCRIBE_GROUPS "com/example/indri/indri/wire/Api" "firstFlexibleVersion" "I" (.int (5 : Int32))) (Ex_a_FIND_COORDINATOR : Exa Z Z.heap a_FIND_COORDINATOR "com/example/indri/indri/wire/Api") (S_a_FIND_COORDINATOR : Sta Z Z.heap "com/example/indri/indri/wire/Api" "FIND_COORDINATOR" "Lcom/example/indri/indri/wire/Api;" (.ref a_FIND_COORDINATOR)) (F_FIND_COORDINATOR_firstFlexibleVersion : Fld Z Z.heap a_FIND_COORDINATOR "com/example/indri/indri/wire/Api" "firstFlexibleVersion" "I" (.int (2147483647 : Int32))) (Ex_a_LIST_GROUPS : Exa Z Z.heap a_LIST_GROUPS "com/example/indri/indri/wire/Api") (S_a_LIST_GROUPS : Sta Z Z.heap "com/example/indri/indri/wire/Api" "LIST_GROUPS" "Lcom/example/indri/indri/wire/Api;" (.ref a_LIST_GROUPS)) (F_LIST_GROUPS_firstFlexibleVersion : Fld Z Z.heap a_LIST_GROUPS "com/example/indri/indri/wire/Api" "firstFlexibleVersion" "I" (.int (3 : Int32))) (Ex_a_JOIN_GROUP : Exa Z Z.heap a_JOIN_GROUP "com/example/indri/indri/wire/Api") (S_a_JOIN_GROUP : Sta Z Z.heap "com/example/indri/indri/wire/Api" "JOIN_GROUP" "Lcom/example/indri/indri/wire/Api;" (.ref a_JOIN_GROUP)) (F_JOIN_GROUP_firstFlexibleVersion : Fld Z Z.heap a_JOIN_GROUP "com/example/indri/indri/wire/Api" "firstFlexibleVersion" "I" (.int (6 : Int32))) (Ex_a_METADATA : Exa Z Z.heap a_METADATA "com/example/indri/indri/wire/Api") (S_a_METADATA : Sta Z Z.heap "com/example/indri/indri/wire/Api" "METADATA" "Lcom/example/indri/indri/wire/Api;" (.ref a_METADATA)) (F_METADATA_firstFlexibleVersion : Fld Z Z.heap a_METADATA "com/example/indri/indri/wire/Api" "firstFlexibleVersion" "I" (.int (2147483647 : Int32))) (Ex_a_OFFSET_FETCH : Exa Z Z.heap a_OFFSET_FETCH "com/example/indri/indri/wire/Api") (S_a_OFFSET_FETCH : Sta Z Z.heap "com/example/indri/indri/wire/Api" "OFFSET_FETCH" "Lcom/example/indri/indri/wire/Api;" (.ref a_OFFSET_FETCH)) (F_OFFSET_FETCH_firstFlexibleVersion : Fld Z Z.heap a_OFFSET_FETCH "com/example/indri/indri/wire/Api" "firstFlexibleVersion" "I" (.int (6 : Int32))) (Ex_a_FETCH : Exa Z Z.heap a_FETCH "com/example/indri/indri/wire/Api") (S_a_FETCH : Sta Z Z.heap "com/example/indri/indri/wire/Api" "FETCH" "Lcom/example/indri/indri/wire/Api;" (.ref a_FETCH)) (F_FETCH_firstFlexibleVersion : Fld Z Z.heap a_FETCH "com/example/indri/indri/wire/Api" "firstFlexibleVersion" "I" (.int (2147483647 : Int32))) (Ex_a_LIST_OFFSETS : Exa Z Z.heap a_LIST_OFFSETS "com/example/indri/indri/wire/Api") (S_a_LIST_OFFSETS : Sta Z Z.heap "com/example/indri/indri/wire/Api" "LIST_OFFSETS" "Lcom/example/indri/indri/wire/Api;" (.ref a_LIST_OFFSETS)) (F_LIST_OFFSETS_firstFlexibleVersion : Fld Z Z.heap a_LIST_OFFSETS "com/example/indri/indri/wire/Api" "firstFlexibleVersion" "I" (.int (2147483647 : Int32))) (Ex_a_API_VERSIONS : Exa Z Z.heap a_API_VERSIONS "com/example/indri/indri/wire/Api") (S_a_API_VERSIONS : Sta Z Z.heap "com/example/indri/indri/wire/Api" "API_VERSIONS" "Lcom/example/indri/indri/wire/Api;" (.ref a_API_VERSIONS)) (F_API_VERSIONS_firstFlexibleVersion : Fld Z Z.heap a_API_VERSIONS "com/example/indri/indri/wire/Api" "firstFlexibleVersion" "I" (.int (3 : Int32))) (Ex_a_LEAVE_GROUP : Exa Z Z.heap a_LEAVE_GROUP "com/example/indri/indri/wire/Api") (S_a_LEAVE_GROUP : Sta Z Z.heap "com/example/indri/indri/wire/Api" "LEAVE_GROUP" "Lcom/example/indri/indri/wire/Api;" (.ref a_LEAVE_GROUP)) (F_LEAVE_GROUP_firstFlexibleVersion : Fld Z Z.heap a_LEAVE_GROUP "com/example/indri/indri/wire/Api" "firstFlexibleVersion" "I" (.int (4 : Int32))) :
    MetFree l x (head1 (Jvm.Cond.code x code maxLocals ret :: ws) room_1) (fun a U => a = #[(.int p1), (.int p2)] ∧ Z.Warmed39 U.vm ∧ U.heap = h0) (fun _ _ _ _ _ => True) (fun _ U o U' => ∃ v L, o = .returned v ∧ own_law_Q Z n0 v U'.heap L ∧ FrameEnd U o U' L 0 0) := by
  refine MetFree.of_bodySF own_pn3 hisR ?_
  intro p e s m args below meth c s₁ Bd hml0 hP hK
  obtain ⟨rfl, hZ, hh⟩ := hP
  have hx := Bd.exec
  have hby := Bd.bytes
  have hml : c.maxLocals = 7 := hml0
  have hlk := BodyLoose.notSynchronized Bd
  have hown : s.vm.findClass "com/example/indri/indri/wire/ApiIsFlexiblePinLaw" = some m.cls := findClass_of_methodNamed Bd.named
  have hnm := (name_of_methodNamed Bd.named Bd.method).1
  have X0 : Stand p l e room_1 s m #[(.int p1), (.int p2)] below meth c s₁ [] 0 0 := Stand.of_body Bd
  have e0 : s₁.heap = h0 := by rw [← hh, Bd.state]; rfl
  have N0 := Fr.nil n0
  have r1 := own_remN p1 14 14 (by decide) (by decide) (by decide)
  have hp := own_plain _ r1
  have hv := own_short p2
  show own_Go p e below s (own_law_Q Z n0) 0 0 (s₁.setTop (entryFrame m #[(.int p1), (.int p2)] maxLocals))
  rw [own_law_ef]
  show own_Go p e below s _ _ _ (s₁.setTop (mkF m 0 #[.val (.int p1), .val (.int p2), .unset, .unset, .unset, .unset, .unset] []))
  refine own_st (fun _ k => XS.iloadN X0.here hx rfl (hb hby at_0) rfl k) ?_
  show own_Go p e below s _ _ _ (s₁.setTop (mkF m 1 #[.val (.int p1), .val (.int p2), .unset, .unset, .unset, .unset, .unset] [(.int p1)]))
  refine own_st (fun _ k => X0.ldcI hx hown (mvT hZ (hw _ (List.mem_of_getElem? (i := 0) rfl))) rfl (hb hby at_1) k) ?_
  show own_Go p e below s _ _ _ (s₁.setTop (mkF m 3 #[.val (.int p1), .val (.int p2), .unset, .unset, .unset, .unset, .unset] [(.int (2147483647 : Int32)), (.int p1)]))
  refine own_st (fun _ k => XS.iand X0.here hx rfl (hb hby at_3) rfl k) ?_
  show own_Go p e below s _ _ _ (s₁.setTop (mkF m 4 #[.val (.int p1), .val (.int p2), .unset, .unset, .unset, .unset, .unset] [(.int (p1 &&& (2147483647 : Int32)))]))
  refine own_st (fun _ k => XT.bipushV X0.here hx rfl (14 : Int32) (hb hby at_4) (by decide) k) ?_
  show own_Go p e below s _ _ _ (s₁.setTop (mkF m 6 #[.val (.int p1), .val (.int p2), .unset, .unset, .unset, .unset, .unset] [(.int (14 : Int32)), (.int (p1 &&& (2147483647 : Int32)))]))
  refine own_st (fun _ k => iremM X0 hx rfl (hb hby at_6) rfl (by decide) k) ?_
  show own_Go p e below s _ _ _ (s₁.setTop (mkF m 7 #[.val (.int p1), .val (.int p2), .unset, .unset, .unset, .unset, .unset] [(.int ((p1 &&& (2147483647 : Int32)) % (14 : Int32)))]))
  refine own_st (fun _ k => XS.istoreN X0.here hx rfl (hb hby at_7) rfl (l' := #[.val (.int p1), .val (.int p2), .val (.int ((p1 &&& (2147483647 : Int32)) % (14 : Int32))), .unset, .unset, .unset, .unset]) rfl k) ?_
  show own_Go p e below s _ _ _ (s₁.setTop (mkF m 8 #[.val (.int p1), .val (.int p2), .val (.int ((p1 &&& (2147483647 : Int32)) % (14 : Int32))), .unset, .unset, .unset, .unset] []))
  refine own_st (fun _ k => XS.iloadN X0.here hx rfl (hb hby at_8) rfl k) ?_
  show own_Go p e below s _ _ _ (s₁.setTop (mkF m 9 #[.val (.int p1), .val (.int p2), .val (.int ((p1 &&& (2147483647 : Int32)) % (14 : Int32))), .unset, .unset, .unset, .unset] [(.int p2)]))
  refine own_st (fun _ k => XT.i2s X0.here hx rfl (hb hby at_9) rfl k) ?_
  show own_Go p e below s _ _ _ (s₁.setTop (mkF m 10 #[.val (.int p1), .val (.int p2), .val (.int ((p1 &&& (2147483647 : Int32)) % (14 : Int32))), .unset, .unset, .unset, .unset] [(.int (p2.toInt16.toInt32))]))
  refine own_st (fun _ k => XS.istoreN X0.here hx rfl (hb hby at_10) rfl (l' := #[.val (.int p1), .val (.int p2), .val (.int ((p1 &&& (2147483647 : Int32)) % (14 : Int32))), .val (.int (p2.toInt16.toInt32)), .unset, .unset, .unset]) rfl k) ?_
  show own_Go p e below s _ _ _ (s₁.setTop (mkF m 11 #[.val (.int p1), .val (.int p2), .val (.int ((p1 &&& (2147483647 : Int32)) % (14 : Int32))), .val (.int (p2.toInt16.toInt32)), .unset, .unset, .unset] []))
  refine own_st (fun _ k => XS.iloadN X0.here hx rfl (hb hby at_11) rfl k) ?_
  show own_Go p e below s _ _ _ (s₁.setTop (mkF m 12 #[.val (.int p1), .val (.int p2), .val (.int ((p1 &&& (2147483647 : Int32)) % (14 : Int32))), .val (.int (p2.toInt16.toInt32)), .unset, .unset, .unset] [(.int ((p1 &&& (2147483647 : Int32)) % (14 : Int32)))]))
  obtain ⟨_, _, ⟨T80, L80, k80, n80⟩, -, X80, ⟨Lc80, hQ80, l80, y80, z80⟩, st80⟩ := Jvm.LawKit.callS X0 hx (y := (⟨"com/example/indri/indri/wire/ApiIsFlexiblePinLaw", "pick", "(I)Lcom/example/indri/indri/wire/Api;"⟩ : MethodName)) hown (mvT hZ (hw _ (List.mem_of_getElem? (i := 1) rfl))) (mvT hZ (hw _ (List.mem_of_getElem? (i := 2) rfl))) (mvT hZ (hw _ (List.mem_of_getElem? (i := 3) rfl))) (mvT hZ (hw _ (List.mem_of_getElem? (i := 4) rfl))) (by decide) (backOf (W := 0) (own_rm_pick l Z a0 hw [] ((p1 &&& (2147483647 : Int32)) % (14 : Int32)) a_PRODUCE a_SYNC_GROUP a_HEARTBEAT a_OFFSET_COMMIT a_DESCRIBE_GROUPS a_FIND_COORDINATOR a_LIST_GROUPS a_JOIN_GROUP a_METADATA a_OFFSET_FETCH a_FETCH a_LIST_OFFSETS a_API_VERSIONS a_LEAVE_GROUP h0 n0 Z0 O0 Ex_a_PRODUCE S_a_PRODUCE F_PRODUCE_firstFlexibleVersion Ex_a_SYNC_GROUP S_a_SYNC_GROUP F_SYNC_GROUP_firstFlexibleVersion Ex_a_HEARTBEAT S_a_HEARTBEAT F_HEARTBEAT_firstFlexibleVersion Ex_a_OFFSET_COMMIT S_a_OFFSET_COMMIT F_OFFSET_COMMIT_firstFlexibleVersion Ex_a_DESCRIBE_GROUPS S_a_DESCRIBE_GROUPS F_DESCRIBE_GROUPS_firstFlexibleVersion Ex_a_FIND_COORDINATOR S_a_FIND_COORDINATOR F_FIND_COORDINATOR_firstFlexibleVersion Ex_a_LIST_GROUPS S_a_LIST_GROUPS F_LIST_GROUPS_firstFlexibleVersion Ex_a_JOIN_GROUP S_a_JOIN_GROUP F_JOIN_GROUP_firstFlexibleVersion Ex_a_METADATA S_a_METADATA F_METADATA_firstFlexibleVersion Ex_a_OFFSET_FETCH S_a_OFFSET_FETCH F_OFFSET_FETCH_firstFlexibleVersion Ex_a_FETCH S_a_FETCH F_FETCH_firstFlexibleVersion Ex_a_LIST_OFFSETS S_a_LIST_OFFSETS F_LIST_OFFSETS_firstFlexibleVersion Ex_a_API_VERSIONS S_a_API_VERSIONS F_API_VERSIONS_firstFlexibleVersion Ex_a_LEAVE_GROUP S_a_LEAVE_GROUP F_LEAVE_GROUP_firstFlexibleVersion) hZ (hw _ (List.mem_of_getElem? (i := 4) rfl)) (hw _ (List.mem_of_getElem? (i := 3) rfl)) (by decide) (by decide)) (g := (mkF m 12 #[.val (.int p1), .val (.int p2), .val (.int ((p1 &&& (2147483647 : Int32)) % (14 : Int32))), .val (.int (p2.toInt16.toInt32)), .unset, .unset, .unset] [(.int ((p1 &&& (2147483647 : Int32)) % (14 : Int32)))])) rfl (by rw [hml]; rfl) (argsL := [(.int ((p1 &&& (2147483647 : Int32)) % (14 : Int32)))]) (rest := []) (lenOf own_pd0 rfl) rfl (by show 2 * 0 + _ ≤ _; exact Nat.le_of_eq rfl) (hb hby at_12) (fun _ _ => ⟨rfl, e0, (by decide : 0 + 0 ≤ _), (by decide : 0 + 0 ≤ _)⟩)
  dsimp only [Pt.U, Pt.locs, Pt.cells, Pt.slots] at X80 l80 y80 z80 st80 hQ80
  subst l80 y80 z80
  obtain ⟨x81, N80q, rfl, eh80, q82, q83⟩ := hQ80
  have N84 := Fr.app N0 N80q
  refine own_st st80 ?_
  rw [eh80] at q82 q83
  show own_Go p e below s _ _ _ (T80.setTop (mkF m 15 #[.val (.int p1), .val (.int p2), .val (.int ((p1 &&& (2147483647 : Int32)) % (14 : Int32))), .val (.int (p2.toInt16.toInt32)), .unset, .unset, .unset] [(.ref x81)]))
  refine own_st (fun _ k => XS.astore X80.here hx rfl (hb hby at_15) rfl rfl (l' := #[.val (.int p1), .val (.int p2), .val (.int ((p1 &&& (2147483647 : Int32)) % (14 : Int32))), .val (.int (p2.toInt16.toInt32)), .val (.ref x81), .unset, .unset]) rfl k) ?_
  show own_Go p e below s _ _ _ (T80.setTop (mkF m 17 #[.val (.int p1), .val (.int p2), .val (.int ((p1 &&& (2147483647 : Int32)) % (14 : Int32))), .val (.int (p2.toInt16.toInt32)), .val (.ref x81), .unset, .unset] []))
  refine own_st (fun _ k => XS.iloadN X80.here hx rfl (hb hby at_17) rfl k) ?_
  show own_Go p e below s _ _ _ (T80.setTop (mkF m 18 #[.val (.int p1), .val (.int p2), .val (.int ((p1 &&& (2147483647 : Int32)) % (14 : Int32))), .val (.int (p2.toInt16.toInt32)), .val (.ref x81), .unset, .unset] [(.int ((p1 &&& (2147483647 : Int32)) % (14 : Int32)))]))
  obtain ⟨_, _, ⟨T85, L85, k85, n85⟩, -, X85, ⟨Lc85, hQ85, l85, y85, z85⟩, st85⟩ := Jvm.LawKit.callS X80 hx (y := (⟨"com/example/indri/indri/wire/ApiIsFlexiblePinLaw", "firstFlexible", "(I)I"⟩ : MethodName)) hown (mvT hZ (hw _ (List.mem_of_getElem? (i := 8) rfl))) (mvT hZ (hw _ (List.mem_of_getElem? (i := 9) rfl))) (mvT hZ (hw _ (List.mem_of_getElem? (i := 3) rfl))) (mvT hZ (hw _ (List.mem_of_getElem? (i := 10) rfl))) (by decide) (backOf (W := 0) (own_rm_first l Z a0 hw [] ((p1 &&& (2147483647 : Int32)) % (14 : Int32)) h0 n0 Z0 ) hZ (hw _ (List.mem_of_getElem? (i := 10) rfl)) (hw _ (List.mem_of_getElem? (i := 3) rfl)) (by decide) (by decide)) (g := (mkF m 18 #[.val (.int p1), .val (.int p2), .val (.int ((p1 &&& (2147483647 : Int32)) % (14 : Int32))), .val (.int (p2.toInt16.toInt32)), .val (.ref x81), .unset, .unset] [(.int ((p1 &&& (2147483647 : Int32)) % (14 : Int32)))])) rfl (by rw [hml]; rfl) (argsL := [(.int ((p1 &&& (2147483647 : Int32)) % (14 : Int32)))]) (rest := []) (lenOf own_pd1 rfl) rfl (by show 2 * 0 + _ ≤ _; exact Nat.le_of_eq rfl) (hb hby at_18) (fun _ _ => ⟨rfl, eh80, (by decide : 0 + 0 ≤ _), (by decide : 0 + 0 ≤ _)⟩)
  dsimp only [Pt.U, Pt.locs, Pt.cells, Pt.slots] at X85 l85 y85 z85 st85 hQ85
  subst l85 y85 z85
  obtain ⟨N85q, rfl, eh85⟩ := hQ85
  have N86 := Fr.app N84 N85q
  refine own_st st85 ?_
  show own_Go p e below s _ _ _ (T85.setTop (mkF m 21 #[.val (.int p1), .val (.int p2), .val (.int ((p1 &&& (2147483647 : Int32)) % (14 : Int32))), .val (.int (p2.toInt16.toInt32)), .val (.ref x81), .unset, .unset] [(.int (own_first ((p1 &&& (2147483647 : Int32)) % (14 : Int32))))]))
  refine own_st (fun _ k => XS.istore X85.here hx rfl (hb hby at_21) rfl (l' := #[.val (.int p1), .val (.int p2), .val (.int ((p1 &&& (2147483647 : Int32)) % (14 : Int32))), .val (.int (p2.toInt16.toInt32)), .val (.ref x81), .val (.int (own_first ((p1 &&& (2147483647 : Int32)) % (14 : Int32)))), .unset]) rfl k) ?_
  show own_Go p e below s _ _ _ (T85.setTop (mkF m 23 #[.val (.int p1), .val (.int p2), .val (.int ((p1 &&& (2147483647 : Int32)) % (14 : Int32))), .val (.int (p2.toInt16.toInt32)), .val (.ref x81), .val (.int (own_first ((p1 &&& (2147483647 : Int32)) % (14 : Int32)))), .unset] []))
  refine own_st (fun _ k => XS.iload X85.here hx rfl (hb hby at_23) rfl k) ?_
  show own_Go p e below s _ _ _ (T85.setTop (mkF m 25 #[.val (.int p1), .val (.int p2), .val (.int ((p1 &&& (2147483647 : Int32)) % (14 : Int32))), .val (.int (p2.toInt16.toInt32)), .val (.ref x81), .val (.int (own_first ((p1 &&& (2147483647 : Int32)) % (14 : Int32)))), .unset] [(.int (own_first ((p1 &&& (2147483647 : Int32)) % (14 : Int32))))]))
  by_cases hc87 : (own_first ((p1 &&& (2147483647 : Int32)) % (14 : Int32))) < 0
  · refine own_st (fun _ k => XS.ifYes X85.here hx rfl (pc0 := 25) (pc' := 38) rfl (hb hby at_25) rfl (XT.i0_lt_t hc87) (by decide) (by decide) k) ?_
    show own_Go p e below s _ _ _ (T85.setTop (mkF m 38 #[.val (.int p1), .val (.int p2), .val (.int ((p1 &&& (2147483647 : Int32)) % (14 : Int32))), .val (.int (p2.toInt16.toInt32)), .val (.ref x81), .val (.int (own_first ((p1 &&& (2147483647 : Int32)) % (14 : Int32)))), .unset] []))
    refine own_st (fun _ k => XT.iconstV X85.here hx rfl (0 : Int32) (hb hby at_38) (by decide) k) ?_
    show own_Go p e below s _ _ _ (T85.setTop (mkF m 39 #[.val (.int p1), .val (.int p2), .val (.int ((p1 &&& (2147483647 : Int32)) % (14 : Int32))), .val (.int (p2.toInt16.toInt32)), .val (.ref x81), .val (.int (own_first ((p1 &&& (2147483647 : Int32)) % (14 : Int32)))), .unset] [(.int (0 : Int32))]))
    refine own_st (fun _ k => XS.istore X85.here hx rfl (hb hby at_39) rfl (l' := #[.val (.int p1), .val (.int p2), .val (.int ((p1 &&& (2147483647 : Int32)) % (14 : Int32))), .val (.int (p2.toInt16.toInt32)), .val (.ref x81), .val (.int (own_first ((p1 &&& (2147483647 : Int32)) % (14 : Int32)))), .val (.int (0 : Int32))]) rfl k) ?_
    show own_Go p e below s _ _ _ (T85.setTop (mkF m 41 #[.val (.int p1), .val (.int p2), .val (.int ((p1 &&& (2147483647 : Int32)) % (14 : Int32))), .val (.int (p2.toInt16.toInt32)), .val (.ref x81), .val (.int (own_first ((p1 &&& (2147483647 : Int32)) % (14 : Int32)))), .val (.int (0 : Int32))] []))
    refine own_st (fun _ k => XS.aload X85.here hx rfl (hb hby at_41) rfl rfl k) ?_
    show own_Go p e below s _ _ _ (T85.setTop (mkF m 43 #[.val (.int p1), .val (.int p2), .val (.int ((p1 &&& (2147483647 : Int32)) % (14 : Int32))), .val (.int (p2.toInt16.toInt32)), .val (.ref x81), .val (.int (own_first ((p1 &&& (2147483647 : Int32)) % (14 : Int32)))), .val (.int (0 : Int32))] [(.ref x81)]))
    refine own_st (fun _ k => XS.iloadN X85.here hx rfl (hb hby at_43) rfl k) ?_
    show own_Go p e below s _ _ _ (T85.setTop (mkF m 44 #[.val (.int p1), .val (.int p2), .val (.int ((p1 &&& (2147483647 : Int32)) % (14 : Int32))), .val (.int (p2.toInt16.toInt32)), .val (.ref x81), .val (.int (own_first ((p1 &&& (2147483647 : Int32)) % (14 : Int32)))), .val (.int (0 : Int32))] [(.int (p2.toInt16.toInt32)), (.ref x81)]))
    obtain ⟨cq88, kq88, q88a, q88b, q88c⟩ := isOf hZ eh85 q82
    obtain ⟨_, _, ⟨T88, L88, k88, n88⟩, -, X88, ⟨Lc88, hQ88, l88, y88, z88⟩, st88⟩ := X85.virtualBack hx (y := (⟨"com/example/indri/indri/wire/Api", "isFlexible", "(S)Z"⟩ : MethodName)) (z := (⟨"com/example/indri/indri/wire/Api", "isFlexible", "(S)Z"⟩ : MethodName)) hown (mvT hZ (hw _ (List.mem_of_getElem? (i := 11) rfl))) (mvT hZ (hw _ (List.mem_of_getElem? (i := 12) rfl))) (notFace_of_selects (args := #[]) (mvT hZ (hw _ (List.mem_of_getElem? (i := 14) rfl)))) (mvT hZ (hw _ (List.mem_of_getElem? (i := 14) rfl))) (mvT hZ (hw _ (List.mem_of_getElem? (i := 13) rfl))) (by decide) (backOf (W := 0) (own_rm_flex l Z a0 hw [] x81 (p2.toInt16.toInt32) (own_ff ((p1 &&& (2147483647 : Int32)) % (14 : Int32))) h0 n0 Z0 q83) hZ (hw _ (List.mem_of_getElem? (i := 15) rfl)) (hw _ (List.mem_of_getElem? (i := 6) rfl)) (by decide) (by decide)) q88a q88c (g := (mkF m 44 #[.val (.int p1), .val (.int p2), .val (.int ((p1 &&& (2147483647 : Int32)) % (14 : Int32))), .val (.int (p2.toInt16.toInt32)), .val (.ref x81), .val (.int (own_first ((p1 &&& (2147483647 : Int32)) % (14 : Int32)))), .val (.int (0 : Int32))] [(.int (p2.toInt16.toInt32)), (.ref x81)])) rfl (by rw [hml]; rfl) (Steps.refl _) (argsL := [(.int (p2.toInt16.toInt32))]) (rest := []) (lenOf own_pd2 rfl) rfl (by show 2 * 0 + _ ≤ _; exact Nat.le_of_eq rfl) (hb hby at_44) (fun _ _ => ⟨rfl, eh85, (by decide : 0 + 0 ≤ _), (by decide : 0 + 0 ≤ _)⟩)
    dsimp only [Pt.U, Pt.locs, Pt.cells, Pt.slots] at X88 l88 y88 z88 st88 hQ88
    subst l88 y88 z88
    obtain ⟨N88q, rfl, eh88⟩ := hQ88
    have N89 := Fr.app N86 N88q
    refine own_tr st88 ?_
    show own_Go p e below s _ _ _ (T88.setTop (mkF m 47 #[.val (.int p1), .val (.int p2), .val (.int ((p1 &&& (2147483647 : Int32)) % (14 : Int32))), .val (.int (p2.toInt16.toInt32)), .val (.ref x81), .val (.int (own_first ((p1 &&& (2147483647 : Int32)) % (14 : Int32)))), .val (.int (0 : Int32))] [(.int (if (p2.toInt16.toInt32) < (own_ff ((p1 &&& (2147483647 : Int32)) % (14 : Int32))) then (0 : Int32) else 1))]))
    refine own_st (fun _ k => XS.iload X88.here hx rfl (hb hby at_47) rfl k) ?_
    show own_Go p e below s _ _ _ (T88.setTop (mkF m 49 #[.val (.int p1), .val (.int p2), .val (.int ((p1 &&& (2147483647 : Int32)) % (14 : Int32))), .val (.int (p2.toInt16.toInt32)), .val (.ref x81), .val (.int (own_first ((p1 &&& (2147483647 : Int32)) % (14 : Int32)))), .val (.int (0 : Int32))] [(.int (0 : Int32)), (.int (if (p2.toInt16.toInt32) < (own_ff ((p1 &&& (2147483647 : Int32)) % (14 : Int32))) then (0 : Int32) else 1))]))
    refine own_st (fun _ k => XS.icmpNo X88.here hx rfl (hb hby at_49) rfl (XT.ii_ne_f (by rcases hp with ⟨q1, q2⟩ | ⟨q1, q2⟩ <;> simp_all)) k) ?_
    show own_Go p e below s _ _ _ (T88.setTop (mkF m 52 #[.val (.int p1), .val (.int p2), .val (.int ((p1 &&& (2147483647 : Int32)) % (14 : Int32))), .val (.int (p2.toInt16.toInt32)), .val (.ref x81), .val (.int (own_first ((p1 &&& (2147483647 : Int32)) % (14 : Int32)))), .val (.int (0 : Int32))] []))
    refine own_st (fun _ k => XT.iconstV X88.here hx rfl (1 : Int32) (hb hby at_52) (by decide) k) ?_
    show own_Go p e below s _ _ _ (T88.setTop (mkF m 53 #[.val (.int p1), .val (.int p2), .val (.int ((p1 &&& (2147483647 : Int32)) % (14 : Int32))), .val (.int (p2.toInt16.toInt32)), .val (.ref x81), .val (.int (own_first ((p1 &&& (2147483647 : Int32)) % (14 : Int32)))), .val (.int (0 : Int32))] [(.int (1 : Int32))]))
    refine own_st (fun _ k => XS.goto X88.here hx rfl (pc0 := 53) (pc' := 57) rfl (hb hby at_53) (by decide) (by decide) k) ?_
    show own_Go p e below s _ _ _ (T88.setTop (mkF m 57 #[.val (.int p1), .val (.int p2), .val (.int ((p1 &&& (2147483647 : Int32)) % (14 : Int32))), .val (.int (p2.toInt16.toInt32)), .val (.ref x81), .val (.int (own_first ((p1 &&& (2147483647 : Int32)) % (14 : Int32)))), .val (.int (0 : Int32))] [(.int (1 : Int32))]))
    refine own_retN X88 hx hlk Bd.returns (t := .boolean) (z' := (1 : Int32)) (by simp) (by decide) (hb hby at_57) (by decide) (by decide) ?_
    rw [eh88]
    exact ⟨N89, rfl⟩
  · refine own_st (fun _ k => XS.ifNo X85.here hx rfl (hb hby at_25) rfl (XT.i0_lt_f hc87) k) ?_
    show own_Go p e below s _ _ _ (T85.setTop (mkF m 28 #[.val (.int p1), .val (.int p2), .val (.int ((p1 &&& (2147483647 : Int32)) % (14 : Int32))), .val (.int (p2.toInt16.toInt32)), .val (.ref x81), .val (.int (own_first ((p1 &&& (2147483647 : Int32)) % (14 : Int32)))), .unset] []))
    refine own_st (fun _ k => XS.iloadN X85.here hx rfl (hb hby at_28) rfl k) ?_
    show own_Go p e below s _ _ _ (T85.setTop (mkF m 29 #[.val (.int p1), .val (.int p2), .val (.int ((p1 &&& (2147483647 : Int32)) % (14 : Int32))), .val (.int (p2.toInt16.toInt32)), .val (.ref x81), .val (.int (own_first ((p1 &&& (2147483647 : Int32)) % (14 : Int32)))), .unset] [(.int (p2.toInt16.toInt32))]))
    refine own_st (fun _ k => XS.iload X85.here hx rfl (hb hby at_29) rfl k) ?_
    show own_Go p e below s _ _ _ (T85.setTop (mkF m 31 #[.val (.int p1), .val (.int p2), .val (.int ((p1 &&& (2147483647 : Int32)) % (14 : Int32))), .val (.int (p2.toInt16.toInt32)), .val (.ref x81), .val (.int (own_first ((p1 &&& (2147483647 : Int32)) % (14 : Int32)))), .unset] [(.int (own_first ((p1 &&& (2147483647 : Int32)) % (14 : Int32)))), (.int (p2.toInt16.toInt32))]))
    by_cases hc90 : (p2.toInt16.toInt32) < (own_first ((p1 &&& (2147483647 : Int32)) % (14 : Int32)))
    · refine own_st (fun _ k => XS.icmpYes X85.here hx rfl (pc0 := 31) (pc' := 38) rfl (hb hby at_31) rfl (XT.ii_lt_t hc90) (by decide) (by decide) k) ?_
      show own_Go p e below s _ _ _ (T85.setTop (mkF m 38 #[.val (.int p1), .val (.int p2), .val (.int ((p1 &&& (2147483647 : Int32)) % (14 : Int32))), .val (.int (p2.toInt16.toInt32)), .val (.ref x81), .val (.int (own_first ((p1 &&& (2147483647 : Int32)) % (14 : Int32)))), .unset] []))
      refine own_st (fun _ k => XT.iconstV X85.here hx rfl (0 : Int32) (hb hby at_38) (by decide) k) ?_
      show own_Go p e below s _ _ _ (T85.setTop (mkF m 39 #[.val (.int p1), .val (.int p2), .val (.int ((p1 &&& (2147483647 : Int32)) % (14 : Int32))), .val (.int (p2.toInt16.toInt32)), .val (.ref x81), .val (.int (own_first ((p1 &&& (2147483647 : Int32)) % (14 : Int32)))), .unset] [(.int (0 : Int32))]))
      refine own_st (fun _ k => XS.istore X85.here hx rfl (hb hby at_39) rfl (l' := #[.val (.int p1), .val (.int p2), .val (.int ((p1 &&& (2147483647 : Int32)) % (14 : Int32))), .val (.int (p2.toInt16.toInt32)), .val (.ref x81), .val (.int (own_first ((p1 &&& (2147483647 : Int32)) % (14 : Int32)))), .val (.int (0 : Int32))]) rfl k) ?_
      show own_Go p e below s _ _ _ (T85.setTop (mkF m 41 #[.val (.int p1), .val (.int p2), .val (.int ((p1 &&& (2147483647 : Int32)) % (14 : Int32))), .val (.int (p2.toInt16.toInt32)), .val (.ref x81), .val (.int (own_first ((p1 &&& (2147483647 : Int32)) % (14 : Int32)))), .val (.int (0 : Int32))] []))
      refine own_st (fun _ k => XS.aload X85.here hx rfl (hb hby at_41) rfl rfl k) ?_
      show own_Go p e below s _ _ _ (T85.setTop (mkF m 43 #[.val (.int p1), .val (.int p2), .val (.int ((p1 &&& (2147483647 : Int32)) % (14 : Int32))), .val (.int (p2.toInt16.toInt32)), .val (.ref x81), .val (.int (own_first ((p1 &&& (2147483647 : Int32)) % (14 : Int32)))), .val (.int (0 : Int32))] [(.ref x81)]))
      refine own_st (fun _ k => XS.iloadN X85.here hx rfl (hb hby at_43) rfl k) ?_
      show own_Go p e below s _ _ _ (T85.setTop (mkF m 44 #[.val (.int p1), .val (.int p2), .val (.int ((p1 &&& (2147483647 : Int32)) % (14 : Int32))), .val (.int (p2.toInt16.toInt32)), .val (.ref x81), .val (.int (own_first ((p1 &&& (2147483647 : Int32)) % (14 : Int32)))), .val (.int (0 : Int32))] [(.int (p2.toInt16.toInt32)), (.ref x81)]))
      obtain ⟨cq91, kq91, q91a, q91b, q91c⟩ := isOf hZ eh85 q82
      obtain ⟨_, _, ⟨T91, L91, k91, n91⟩, -, X91, ⟨Lc91, hQ91, l91, y91, z91⟩, st91⟩ := X85.virtualBack hx (y := (⟨"com/example/indri/indri/wire/Api", "isFlexible", "(S)Z"⟩ : MethodName)) (z := (⟨"com/example/indri/indri/wire/Api", "isFlexible", "(S)Z"⟩ : MethodName)) hown (mvT hZ (hw _ (List.mem_of_getElem? (i := 11) rfl))) (mvT hZ (hw _ (List.mem_of_getElem? (i := 12) rfl))) (notFace_of_selects (args := #[]) (mvT hZ (hw _ (List.mem_of_getElem? (i := 14) rfl)))) (mvT hZ (hw _ (List.mem_of_getElem? (i := 14) rfl))) (mvT hZ (hw _ (List.mem_of_getElem? (i := 13) rfl))) (by decide) (backOf (W := 0) (own_rm_flex l Z a0 hw [] x81 (p2.toInt16.toInt32) (own_ff ((p1 &&& (2147483647 : Int32)) % (14 : Int32))) h0 n0 Z0 q83) hZ (hw _ (List.mem_of_getElem? (i := 15) rfl)) (hw _ (List.mem_of_getElem? (i := 6) rfl)) (by decide) (by decide)) q91a q91c (g := (mkF m 44 #[.val (.int p1), .val (.int p2), .val (.int ((p1 &&& (2147483647 : Int32)) % (14 : Int32))), .val (.int (p2.toInt16.toInt32)), .val (.ref x81), .val (.int (own_first ((p1 &&& (2147483647 : Int32)) % (14 : Int32)))), .val (.int (0 : Int32))] [(.int (p2.toInt16.toInt32)), (.ref x81)])) rfl (by rw [hml]; rfl) (Steps.refl _) (argsL := [(.int (p2.toInt16.toInt32))]) (rest := []) (lenOf own_pd2 rfl) rfl (by show 2 * 0 + _ ≤ _; exact Nat.le_of_eq rfl) (hb hby at_44) (fun _ _ => ⟨rfl, eh85, (by decide : 0 + 0 ≤ _), (by decide : 0 + 0 ≤ _)⟩)
      dsimp only [Pt.U, Pt.locs, Pt.cells, Pt.slots] at X91 l91 y91 z91 st91 hQ91
      subst l91 y91 z91
      obtain ⟨N91q, rfl, eh91⟩ := hQ91
      have N92 := Fr.app N86 N91q
      refine own_tr st91 ?_
      show own_Go p e below s _ _ _ (T91.setTop (mkF m 47 #[.val (.int p1), .val (.int p2), .val (.int ((p1 &&& (2147483647 : Int32)) % (14 : Int32))), .val (.int (p2.toInt16.toInt32)), .val (.ref x81), .val (.int (own_first ((p1 &&& (2147483647 : Int32)) % (14 : Int32)))), .val (.int (0 : Int32))] [(.int (if (p2.toInt16.toInt32) < (own_ff ((p1 &&& (2147483647 : Int32)) % (14 : Int32))) then (0 : Int32) else 1))]))
      refine own_st (fun _ k => XS.iload X91.here hx rfl (hb hby at_47) rfl k) ?_
      show own_Go p e below s _ _ _ (T91.setTop (mkF m 49 #[.val (.int p1), .val (.int p2), .val (.int ((p1 &&& (2147483647 : Int32)) % (14 : Int32))), .val (.int (p2.toInt16.toInt32)), .val (.ref x81), .val (.int (own_first ((p1 &&& (2147483647 : Int32)) % (14 : Int32)))), .val (.int (0 : Int32))] [(.int (0 : Int32)), (.int (if (p2.toInt16.toInt32) < (own_ff ((p1 &&& (2147483647 : Int32)) % (14 : Int32))) then (0 : Int32) else 1))]))
      refine own_st (fun _ k => XS.icmpNo X91.here hx rfl (hb hby at_49) rfl (XT.ii_ne_f (by rcases hp with ⟨q1, q2⟩ | ⟨q1, q2⟩ <;> simp_all)) k) ?_
      show own_Go p e below s _ _ _ (T91.setTop (mkF m 52 #[.val (.int p1), .val (.int p2), .val (.int ((p1 &&& (2147483647 : Int32)) % (14 : Int32))), .val (.int (p2.toInt16.toInt32)), .val (.ref x81), .val (.int (own_first ((p1 &&& (2147483647 : Int32)) % (14 : Int32)))), .val (.int (0 : Int32))] []))
      refine own_st (fun _ k => XT.iconstV X91.here hx rfl (1 : Int32) (hb hby at_52) (by decide) k) ?_
      show own_Go p e below s _ _ _ (T91.setTop (mkF m 53 #[.val (.int p1), .val (.int p2), .val (.int ((p1 &&& (2147483647 : Int32)) % (14 : Int32))), .val (.int (p2.toInt16.toInt32)), .val (.ref x81), .val (.int (own_first ((p1 &&& (2147483647 : Int32)) % (14 : Int32)))), .val (.int (0 : Int32))] [(.int (1 : Int32))]))
      refine own_st (fun _ k => XS.goto X91.here hx rfl (pc0 := 53) (pc' := 57) rfl (hb hby at_53) (by decide) (by decide) k) ?_
      show own_Go p e below s _ _ _ (T91.setTop (mkF m 57 #[.val (.int p1), .val (.int p2), .val (.int ((p1 &&& (2147483647 : Int32)) % (14 : Int32))), .val (.int (p2.toInt16.toInt32)), .val (.ref x81), .val (.int (own_first ((p1 &&& (2147483647 : Int32)) % (14 : Int32)))), .val (.int (0 : Int32))] [(.int (1 : Int32))]))
      refine own_retN X91 hx hlk Bd.returns (t := .boolean) (z' := (1 : Int32)) (by simp) (by decide) (hb hby at_57) (by decide) (by decide) ?_
      rw [eh91]
      exact ⟨N92, rfl⟩
    · refine own_st (fun _ k => XS.icmpNo X85.here hx rfl (hb hby at_31) rfl (XT.ii_lt_f hc90) k) ?_
      show own_Go p e below s _ _ _ (T85.setTop (mkF m 34 #[.val (.int p1), .val (.int p2), .val (.int ((p1 &&& (2147483647 : Int32)) % (14 : Int32))), .val (.int (p2.toInt16.toInt32)), .val (.ref x81), .val (.int (own_first ((p1 &&& (2147483647 : Int32)) % (14 : Int32)))), .unset] []))
      refine own_st (fun _ k => XT.iconstV X85.here hx rfl (1 : Int32) (hb hby at_34) (by decide) k) ?_
      show own_Go p e below s _ _ _ (T85.setTop (mkF m 35 #[.val (.int p1), .val (.int p2), .val (.int ((p1 &&& (2147483647 : Int32)) % (14 : Int32))), .val (.int (p2.toInt16.toInt32)), .val (.ref x81), .val (.int (own_first ((p1 &&& (2147483647 : Int32)) % (14 : Int32)))), .unset] [(.int (1 : Int32))]))
      refine own_st (fun _ k => XS.goto X85.here hx rfl (pc0 := 35) (pc' := 39) rfl (hb hby at_35) (by decide) (by decide) k) ?_
      show own_Go p e below s _ _ _ (T85.setTop (mkF m 39 #[.val (.int p1), .val (.int p2), .val (.int ((p1 &&& (2147483647 : Int32)) % (14 : Int32))), .val (.int (p2.toInt16.toInt32)), .val (.ref x81), .val (.int (own_first ((p1 &&& (2147483647 : Int32)) % (14 : Int32)))), .unset] [(.int (1 : Int32))]))
      refine own_st (fun _ k => XS.istore X85.here hx rfl (hb hby at_39) rfl (l' := #[.val (.int p1), .val (.int p2), .val (.int ((p1 &&& (2147483647 : Int32)) % (14 : Int32))), .val (.int (p2.toInt16.toInt32)), .val (.ref x81), .val (.int (own_first ((p1 &&& (2147483647 : Int32)) % (14 : Int32)))), .val (.int (1 : Int32))]) rfl k) ?_
      show own_Go p e below s _ _ _ (T85.setTop (mkF m 41 #[.val (.int p1), .val (.int p2), .val (.int ((p1 &&& (2147483647 : Int32)) % (14 : Int32))), .val (.int (p2.toInt16.toInt32)), .val (.ref x81), .val (.int (own_first ((p1 &&& (2147483647 : Int32)) % (14 : Int32)))), .val (.int (1 : Int32))] []))
      refine own_st (fun _ k => XS.aload X85.here hx rfl (hb hby at_41) rfl rfl k) ?_
      show own_Go p e below s _ _ _ (T85.setTop (mkF m 43 #[.val (.int p1), .val (.int p2), .val (.int ((p1 &&& (2147483647 : Int32)) % (14 : Int32))), .val (.int (p2.toInt16.toInt32)), .val (.ref x81), .val (.int (own_first ((p1 &&& (2147483647 : Int32)) % (14 : Int32)))), .val (.int (1 : Int32))] [(.ref x81)]))
      refine own_st (fun _ k => XS.iloadN X85.here hx rfl (hb hby at_43) rfl k) ?_
      show own_Go p e below s _ _ _ (T85.setTop (mkF m 44 #[.val (.int p1), .val (.int p2), .val (.int ((p1 &&& (2147483647 : Int32)) % (14 : Int32))), .val (.int (p2.toInt16.toInt32)), .val (.ref x81), .val (.int (own_first ((p1 &&& (2147483647 : Int32)) % (14 : Int32)))), .val (.int (1 : Int32))] [(.int (p2.toInt16.toInt32)), (.ref x81)]))
      obtain ⟨cq93, kq93, q93a, q93b, q93c⟩ := isOf hZ eh85 q82
      obtain ⟨_, _, ⟨T93, L93, k93, n93⟩, -, X93, ⟨Lc93, hQ93, l93, y93, z93⟩, st93⟩ := X85.virtualBack hx (y := (⟨"com/example/indri/indri/wire/Api", "isFlexible", "(S)Z"⟩ : MethodName)) (z := (⟨"com/example/indri/indri/wire/Api", "isFlexible", "(S)Z"⟩ : MethodName)) hown (mvT hZ (hw _ (List.mem_of_getElem? (i := 11) rfl))) (mvT hZ (hw _ (List.mem_of_getElem? (i := 12) rfl))) (notFace_of_selects (args := #[]) (mvT hZ (hw _ (List.mem_of_getElem? (i := 14) rfl)))) (mvT hZ (hw _ (List.mem_of_getElem? (i := 14) rfl))) (mvT hZ (hw _ (List.mem_of_getElem? (i := 13) rfl))) (by decide) (backOf (W := 0) (own_rm_flex l Z a0 hw [] x81 (p2.toInt16.toInt32) (own_ff ((p1 &&& (2147483647 : Int32)) % (14 : Int32))) h0 n0 Z0 q83) hZ (hw _ (List.mem_of_getElem? (i := 15) rfl)) (hw _ (List.mem_of_getElem? (i := 6) rfl)) (by decide) (by decide)) q93a q93c (g := (mkF m 44 #[.val (.int p1), .val (.int p2), .val (.int ((p1 &&& (2147483647 : Int32)) % (14 : Int32))), .val (.int (p2.toInt16.toInt32)), .val (.ref x81), .val (.int (own_first ((p1 &&& (2147483647 : Int32)) % (14 : Int32)))), .val (.int (1 : Int32))] [(.int (p2.toInt16.toInt32)), (.ref x81)])) rfl (by rw [hml]; rfl) (Steps.refl _) (argsL := [(.int (p2.toInt16.toInt32))]) (rest := []) (lenOf own_pd2 rfl) rfl (by show 2 * 0 + _ ≤ _; exact Nat.le_of_eq rfl) (hb hby at_44) (fun _ _ => ⟨rfl, eh85, (by decide : 0 + 0 ≤ _), (by decide : 0 + 0 ≤ _)⟩)
      dsimp only [Pt.U, Pt.locs, Pt.cells, Pt.slots] at X93 l93 y93 z93 st93 hQ93
      subst l93 y93 z93
      obtain ⟨N93q, rfl, eh93⟩ := hQ93
      have N94 := Fr.app N86 N93q
      refine own_tr st93 ?_
      show own_Go p e below s _ _ _ (T93.setTop (mkF m 47 #[.val (.int p1), .val (.int p2), .val (.int ((p1 &&& (2147483647 : Int32)) % (14 : Int32))), .val (.int (p2.toInt16.toInt32)), .val (.ref x81), .val (.int (own_first ((p1 &&& (2147483647 : Int32)) % (14 : Int32)))), .val (.int (1 : Int32))] [(.int (if (p2.toInt16.toInt32) < (own_ff ((p1 &&& (2147483647 : Int32)) % (14 : Int32))) then (0 : Int32) else 1))]))
      refine own_st (fun _ k => XS.iload X93.here hx rfl (hb hby at_47) rfl k) ?_
      show own_Go p e below s _ _ _ (T93.setTop (mkF m 49 #[.val (.int p1), .val (.int p2), .val (.int ((p1 &&& (2147483647 : Int32)) % (14 : Int32))), .val (.int (p2.toInt16.toInt32)), .val (.ref x81), .val (.int (own_first ((p1 &&& (2147483647 : Int32)) % (14 : Int32)))), .val (.int (1 : Int32))] [(.int (1 : Int32)), (.int (if (p2.toInt16.toInt32) < (own_ff ((p1 &&& (2147483647 : Int32)) % (14 : Int32))) then (0 : Int32) else 1))]))
      refine own_st (fun _ k => XS.icmpNo X93.here hx rfl (hb hby at_49) rfl (XT.ii_ne_f (by rcases hp with ⟨q1, q2⟩ | ⟨q1, q2⟩ <;> simp_all)) k) ?_
      show own_Go p e below s _ _ _ (T93.setTop (mkF m 52 #[.val (.int p1), .val (.int p2), .val (.int ((p1 &&& (2147483647 : Int32)) % (14 : Int32))), .val (.int (p2.toInt16.toInt32)), .val (.ref x81), .val (.int (own_first ((p1 &&& (2147483647 : Int32)) % (14 : Int32)))), .val (.int (1 : Int32))] []))
      refine own_st (fun _ k => XT.iconstV X93.here hx rfl (1 : Int32) (hb hby at_52) (by decide) k) ?_
      show own_Go p e below s _ _ _ (T93.setTop (mkF m 53 #[.val (.int p1), .val (.int p2), .val (.int ((p1 &&& (2147483647 : Int32)) % (14 : Int32))), .val (.int (p2.toInt16.toInt32)), .val (.ref x81), .val (.int (own_first ((p1 &&& (2147483647 : Int32)) % (14 : Int32)))), .val (.int (1 : Int32))] [(.int (1 : Int32))]))
      refine own_st (fun _ k => XS.goto X93.here hx rfl (pc0 := 53) (pc' := 57) rfl (hb hby at_53) (by decide) (by decide) k) ?_
      show own_Go p e below s _ _ _ (T93.setTop (mkF m 57 #[.val (.int p1), .val (.int p2), .val (.int ((p1 &&& (2147483647 : Int32)) % (14 : Int32))), .val (.int (p2.toInt16.toInt32)), .val (.ref x81), .val (.int (own_first ((p1 &&& (2147483647 : Int32)) % (14 : Int32)))), .val (.int (1 : Int32))] [(.int (1 : Int32))]))
      refine own_retN X93 hx hlk Bd.returns (t := .boolean) (z' := (1 : Int32)) (by simp) (by decide) (hb hby at_57) (by decide) (by decide) ?_
      rw [eh93]
      exact ⟨N94, rfl⟩
set_option maxRecDepth 65536 in
set_option maxHeartbeats 40000000 in
theorem comes_1 {Post : Tables → Env → Array Value → State → Outcome → State → Prop} (hpost : ∀ tb e args s v u, (limb_1_1.after args s (.returned v) u = true ∧ limb_1_2.after args s (.returned v) u = true ∧ True) → FrameEnd s (.returned v) u (Jvm.fieldLocs frame_1_writes args s ++ Jvm.arrayLocs frame_1_arrays args s ++ Jvm.staticLocs frame_1_statics s) 0 0 → Post tb e args s (.returned v) u) :
    ArmFor flags0 classFile x code maxLocals ret World_1 tables_1 room_1 Calls_1 rest_1 Pre_1 Post := by
  intro l hfl _ _ p e ha hc hk s m args below hf hA hF happ hP
  obtain ⟨hcalls, hrest, hpre⟩ := hP
  obtain ⟨-, -, -, hnamed, -, -, -, hat⟩ := (Spec.applies_iff hf).mp happ
  obtain ⟨hg, hn⟩ := and_e (Cond.before_iff.mp (show (Jvm.Cond.and given_1 narrow_1).before args s = true from hpre))
  obtain ⟨gg0, hg0⟩ := and_e hg
  obtain ⟨gg1, hg1⟩ := and_e hg0
  obtain ⟨w0, w1, rfl⟩ : ∃ w0 w1 : Value, args = #[w0, w1] := by
    have hs : args.size = 2 := by simpa [Cond.value, given_1] using gg0
    obtain ⟨L⟩ := args
    match L, hs with
    | [w0, w1], _ => exact ⟨w0, w1, rfl⟩
  have hw := fun d (hd : d ∈ tables_1) => atoms_spec (ws := Jvm.Cond.code x code maxLocals ret :: tables_1) hat d (List.mem_cons_of_mem _ hd)
  have hfit : Fit s := fun {y c} hc i hi => by
    obtain ⟨ha, rfl⟩ := Array.getElem?_eq_some_iff.mp hc
    have q := List.all_eq_true.mp ((Array.all_eq_true_iff_forall_mem.mp hF) _ (Array.getElem_mem ha)) i (List.mem_range.mpr hi)
    simpa [Array.getElem?_eq_getElem hi] using q
  obtain ⟨i0, ei0⟩ := is_v gg1
  obtain rfl : w0 = (.int i0) := Option.some.inj ei0
  obtain ⟨i1, ei1⟩ := is_v hg1
  obtain rfl : w1 = (.int i1) := Option.some.inj ei1
  obtain ⟨nn0, hn0⟩ := and_e hn
  obtain ⟨nn1, hn1⟩ := and_e hn0
  obtain ⟨nn2, hn2⟩ := and_e hn1
  obtain ⟨nn3, hn3⟩ := and_e hn2
  obtain ⟨nn4, hn4⟩ := and_e hn3
  obtain ⟨nn5, hn5⟩ := and_e hn4
  obtain ⟨nn6, hn6⟩ := and_e hn5
  obtain ⟨nn7, hn7⟩ := and_e hn6
  obtain ⟨nn8, hn8⟩ := and_e hn7
  obtain ⟨nn9, hn9⟩ := and_e hn8
  obtain ⟨nn10, hn10⟩ := and_e hn9
  obtain ⟨nn11, hn11⟩ := and_e hn10
  obtain ⟨nn12, hn12⟩ := and_e hn11
  obtain ⟨nn13, hn13⟩ := and_e hn12
  obtain ⟨nn14, hn14⟩ := and_e hn13
  obtain ⟨nn15, hn15⟩ := and_e hn14
  obtain ⟨nn16, hn16⟩ := and_e hn15
  obtain ⟨nn17, hn17⟩ := and_e hn16
  obtain ⟨nn18, hn18⟩ := and_e hn17
  obtain ⟨nn19, hn19⟩ := and_e hn18
  obtain ⟨nn20, hn20⟩ := and_e hn19
  obtain ⟨nn21, hn21⟩ := and_e hn20
  obtain ⟨nn22, hn22⟩ := and_e hn21
  obtain ⟨nn23, hn23⟩ := and_e hn22
  obtain ⟨nn24, hn24⟩ := and_e hn23
  obtain ⟨nn25, hn25⟩ := and_e hn24
  obtain ⟨nn26, hn26⟩ := and_e hn25
  obtain ⟨a_PRODUCE, e_a_PRODUCE⟩ := exa_v nn0
  have Ex_a_PRODUCE : Exa s s.heap a_PRODUCE "com/example/indri/indri/wire/Api" := Exa.start e_a_PRODUCE nn0
  have S_a_PRODUCE : Sta s s.heap "com/example/indri/indri/wire/Api" "PRODUCE" "Lcom/example/indri/indri/wire/Api;" (.ref a_PRODUCE) := Sta.start e_a_PRODUCE (Or.inr ⟨(hw _ (List.mem_of_getElem? (i := 6) rfl)), (hw _ (List.mem_of_getElem? (i := 7) rfl))⟩)
  have ev_nn1 := own_eqV nn1 (Term.int_eval _)
  have F_PRODUCE_firstFlexibleVersion : Fld s s.heap a_PRODUCE "com/example/indri/indri/wire/Api" "firstFlexibleVersion" "I" (.int (2147483647 : Int32)) := Fld.start ((fld_at e_a_PRODUCE).symm.trans ev_nn1)
  obtain ⟨a_SYNC_GROUP, e_a_SYNC_GROUP⟩ := exa_v nn2
  have Ex_a_SYNC_GROUP : Exa s s.heap a_SYNC_GROUP "com/example/indri/indri/wire/Api" := Exa.start e_a_SYNC_GROUP nn2
  have S_a_SYNC_GROUP : Sta s s.heap "com/example/indri/indri/wire/Api" "SYNC_GROUP" "Lcom/example/indri/indri/wire/Api;" (.ref a_SYNC_GROUP) := Sta.start e_a_SYNC_GROUP (Or.inr ⟨(hw _ (List.mem_of_getElem? (i := 6) rfl)), (hw _ (List.mem_of_getElem? (i := 19) rfl))⟩)
  have ev_nn3 := own_eqV nn3 (Term.int_eval _)
  have F_SYNC_GROUP_firstFlexibleVersion : Fld s s.heap a_SYNC_GROUP "com/example/indri/indri/wire/Api" "firstFlexibleVersion" "I" (.int (4 : Int32)) := Fld.start ((fld_at e_a_SYNC_GROUP).symm.trans ev_nn3)
  obtain ⟨a_HEARTBEAT, e_a_HEARTBEAT⟩ := exa_v nn4
  have Ex_a_HEARTBEAT : Exa s s.heap a_HEARTBEAT "com/example/indri/indri/wire/Api" := Exa.start e_a_HEARTBEAT nn4
  have S_a_HEARTBEAT : Sta s s.heap "com/example/indri/indri/wire/Api" "HEARTBEAT" "Lcom/example/indri/indri/wire/Api;" (.ref a_HEARTBEAT) := Sta.start e_a_HEARTBEAT (Or.inr ⟨(hw _ (List.mem_of_getElem? (i := 6) rfl)), (hw _ (List.mem_of_getElem? (i := 21) rfl))⟩)
  have ev_nn5 := own_eqV nn5 (Term.int_eval _)
  have F_HEARTBEAT_firstFlexibleVersion : Fld s s.heap a_HEARTBEAT "com/example/indri/indri/wire/Api" "firstFlexibleVersion" "I" (.int (4 : Int32)) := Fld.start ((fld_at e_a_HEARTBEAT).symm.trans ev_nn5)
  obtain ⟨a_OFFSET_COMMIT, e_a_OFFSET_COMMIT⟩ := exa_v nn6
  have Ex_a_OFFSET_COMMIT : Exa s s.heap a_OFFSET_COMMIT "com/example/indri/indri/wire/Api" := Exa.start e_a_OFFSET_COMMIT nn6
  have S_a_OFFSET_COMMIT : Sta s s.heap "com/example/indri/indri/wire/Api" "OFFSET_COMMIT" "Lcom/example/indri/indri/wire/Api;" (.ref a_OFFSET_COMMIT) := Sta.start e_a_OFFSET_COMMIT (Or.inr ⟨(hw _ (List.mem_of_getElem? (i := 6) rfl)), (hw _ (List.mem_of_getElem? (i := 23) rfl))⟩)
  have ev_nn7 := own_eqV nn7 (Term.int_eval _)
  have F_OFFSET_COMMIT_firstFlexibleVersion : Fld s s.heap a_OFFSET_COMMIT "com/example/indri/indri/wire/Api" "firstFlexibleVersion" "I" (.int (2147483647 : Int32)) := Fld.start ((fld_at e_a_OFFSET_COMMIT).symm.trans ev_nn7)
  obtain ⟨a_DESCRIBE_GROUPS, e_a_DESCRIBE_GROUPS⟩ := exa_v nn8
  have Ex_a_DESCRIBE_GROUPS : Exa s s.heap a_DESCRIBE_GROUPS "com/example/indri/indri/wire/Api" := Exa.start e_a_DESCRIBE_GROUPS nn8
  have S_a_DESCRIBE_GROUPS : Sta s s.heap "com/example/indri/indri/wire/Api" "DESCRIBE_GROUPS" "Lcom/example/indri/indri/wire/Api;" (.ref a_DESCRIBE_GROUPS) := Sta.start e_a_DESCRIBE_GROUPS (Or.inr ⟨(hw _ (List.mem_of_getElem? (i := 6) rfl)), (hw _ (List.mem_of_getElem? (i := 25) rfl))⟩)
  have ev_nn9 := own_eqV nn9 (Term.int_eval _)
  have F_DESCRIBE_GROUPS_firstFlexibleVersion : Fld s s.heap a_DESCRIBE_GROUPS "com/example/indri/indri/wire/Api" "firstFlexibleVersion" "I" (.int (5 : Int32)) := Fld.start ((fld_at e_a_DESCRIBE_GROUPS).symm.trans ev_nn9)
  obtain ⟨a_FIND_COORDINATOR, e_a_FIND_COORDINATOR⟩ := exa_v nn10
  have Ex_a_FIND_COORDINATOR : Exa s s.heap a_FIND_COORDINATOR "com/example/indri/indri/wire/Api" := Exa.start e_a_FIND_COORDINATOR nn10
  have S_a_FIND_COORDINATOR : Sta s s.heap "com/example/indri/indri/wire/Api" "FIND_COORDINATOR" "Lcom/example/indri/indri/wire/Api;" (.ref a_FIND_COORDINATOR) := Sta.start e_a_FIND_COORDINATOR (Or.inr ⟨(hw _ (List.mem_of_getElem? (i := 6) rfl)), (hw _ (List.mem_of_getElem? (i := 27) rfl))⟩)
  have ev_nn11 := own_eqV nn11 (Term.int_eval _)
  have F_FIND_COORDINATOR_firstFlexibleVersion : Fld s s.heap a_FIND_COORDINATOR "com/example/indri/indri/wire/Api" "firstFlexibleVersion" "I" (.int (2147483647 : Int32)) := Fld.start ((fld_at e_a_FIND_COORDINATOR).symm.trans ev_nn11)
  obtain ⟨a_LIST_GROUPS, e_a_LIST_GROUPS⟩ := exa_v nn12
  have Ex_a_LIST_GROUPS : Exa s s.heap a_LIST_GROUPS "com/example/indri/indri/wire/Api" := Exa.start e_a_LIST_GROUPS nn12
  have S_a_LIST_GROUPS : Sta s s.heap "com/example/indri/indri/wire/Api" "LIST_GROUPS" "Lcom/example/indri/indri/wire/Api;" (.ref a_LIST_GROUPS) := Sta.start e_a_LIST_GROUPS (Or.inr ⟨(hw _ (List.mem_of_getElem? (i := 6) rfl)), (hw _ (List.mem_of_getElem? (i := 29) rfl))⟩)
  have ev_nn13 := own_eqV nn13 (Term.int_eval _)
  have F_LIST_GROUPS_firstFlexibleVersion : Fld s s.heap a_LIST_GROUPS "com/example/indri/indri/wire/Api" "firstFlexibleVersion" "I" (.int (3 : Int32)) := Fld.start ((fld_at e_a_LIST_GROUPS).symm.trans ev_nn13)
  obtain ⟨a_JOIN_GROUP, e_a_JOIN_GROUP⟩ := exa_v nn14
  have Ex_a_JOIN_GROUP : Exa s s.heap a_JOIN_GROUP "com/example/indri/indri/wire/Api" := Exa.start e_a_JOIN_GROUP nn14
  have S_a_JOIN_GROUP : Sta s s.heap "com/example/indri/indri/wire/Api" "JOIN_GROUP" "Lcom/example/indri/indri/wire/Api;" (.ref a_JOIN_GROUP) := Sta.start e_a_JOIN_GROUP (Or.inr ⟨(hw _ (List.mem_of_getElem? (i := 6) rfl)), (hw _ (List.mem_of_getElem? (i := 31) rfl))⟩)
  have ev_nn15 := own_eqV nn15 (Term.int_eval _)
  have F_JOIN_GROUP_firstFlexibleVersion : Fld s s.heap a_JOIN_GROUP "com/example/indri/indri/wire/Api" "firstFlexibleVersion" "I" (.int (6 : Int32)) := Fld.start ((fld_at e_a_JOIN_GROUP).symm.trans ev_nn15)
  obtain ⟨a_METADATA, e_a_METADATA⟩ := exa_v nn16
  have Ex_a_METADATA : Exa s s.heap a_METADATA "com/example/indri/indri/wire/Api" := Exa.start e_a_METADATA nn16
  have S_a_METADATA : Sta s s.heap "com/example/indri/indri/wire/Api" "METADATA" "Lcom/example/indri/indri/wire/Api;" (.ref a_METADATA) := Sta.start e_a_METADATA (Or.inr ⟨(hw _ (List.mem_of_getElem? (i := 6) rfl)), (hw _ (List.mem_of_getElem? (i := 33) rfl))⟩)
  have ev_nn17 := own_eqV nn17 (Term.int_eval _)
  have F_METADATA_firstFlexibleVersion : Fld s s.heap a_METADATA "com/example/indri/indri/wire/Api" "firstFlexibleVersion" "I" (.int (2147483647 : Int32)) := Fld.start ((fld_at e_a_METADATA).symm.trans ev_nn17)
  obtain ⟨a_OFFSET_FETCH, e_a_OFFSET_FETCH⟩ := exa_v nn18
  have Ex_a_OFFSET_FETCH : Exa s s.heap a_OFFSET_FETCH "com/example/indri/indri/wire/Api" := Exa.start e_a_OFFSET_FETCH nn18
  have S_a_OFFSET_FETCH : Sta s s.heap "com/example/indri/indri/wire/Api" "OFFSET_FETCH" "Lcom/example/indri/indri/wire/Api;" (.ref a_OFFSET_FETCH) := Sta.start e_a_OFFSET_FETCH (Or.inr ⟨(hw _ (List.mem_of_getElem? (i := 6) rfl)), (hw _ (List.mem_of_getElem? (i := 35) rfl))⟩)
  have ev_nn19 := own_eqV nn19 (Term.int_eval _)
  have F_OFFSET_FETCH_firstFlexibleVersion : Fld s s.heap a_OFFSET_FETCH "com/example/indri/indri/wire/Api" "firstFlexibleVersion" "I" (.int (6 : Int32)) := Fld.start ((fld_at e_a_OFFSET_FETCH).symm.trans ev_nn19)
  obtain ⟨a_FETCH, e_a_FETCH⟩ := exa_v nn20
  have Ex_a_FETCH : Exa s s.heap a_FETCH "com/example/indri/indri/wire/Api" := Exa.start e_a_FETCH nn20
  have S_a_FETCH : Sta s s.heap "com/example/indri/indri/wire/Api" "FETCH" "Lcom/example/indri/indri/wire/Api;" (.ref a_FETCH) := Sta.start e_a_FETCH (Or.inr ⟨(hw _ (List.mem_of_getElem? (i := 6) rfl)), (hw _ (List.mem_of_getElem? (i := 37) rfl))⟩)
  have ev_nn21 := own_eqV nn21 (Term.int_eval _)
  have F_FETCH_firstFlexibleVersion : Fld s s.heap a_FETCH "com/example/indri/indri/wire/Api" "firstFlexibleVersion" "I" (.int (2147483647 : Int32)) := Fld.start ((fld_at e_a_FETCH).symm.trans ev_nn21)
  obtain ⟨a_LIST_OFFSETS, e_a_LIST_OFFSETS⟩ := exa_v nn22
  have Ex_a_LIST_OFFSETS : Exa s s.heap a_LIST_OFFSETS "com/example/indri/indri/wire/Api" := Exa.start e_a_LIST_OFFSETS nn22
  have S_a_LIST_OFFSETS : Sta s s.heap "com/example/indri/indri/wire/Api" "LIST_OFFSETS" "Lcom/example/indri/indri/wire/Api;" (.ref a_LIST_OFFSETS) := Sta.start e_a_LIST_OFFSETS (Or.inr ⟨(hw _ (List.mem_of_getElem? (i := 6) rfl)), (hw _ (List.mem_of_getElem? (i := 39) rfl))⟩)
  have ev_nn23 := own_eqV nn23 (Term.int_eval _)
  have F_LIST_OFFSETS_firstFlexibleVersion : Fld s s.heap a_LIST_OFFSETS "com/example/indri/indri/wire/Api" "firstFlexibleVersion" "I" (.int (2147483647 : Int32)) := Fld.start ((fld_at e_a_LIST_OFFSETS).symm.trans ev_nn23)
  obtain ⟨a_API_VERSIONS, e_a_API_VERSIONS⟩ := exa_v nn24
  have Ex_a_API_VERSIONS : Exa s s.heap a_API_VERSIONS "com/example/indri/indri/wire/Api" := Exa.start e_a_API_VERSIONS nn24
  have S_a_API_VERSIONS : Sta s s.heap "com/example/indri/indri/wire/Api" "API_VERSIONS" "Lcom/example/indri/indri/wire/Api;" (.ref a_API_VERSIONS) := Sta.start e_a_API_VERSIONS (Or.inr ⟨(hw _ (List.mem_of_getElem? (i := 6) rfl)), (hw _ (List.mem_of_getElem? (i := 41) rfl))⟩)
  have ev_nn25 := own_eqV nn25 (Term.int_eval _)
  have F_API_VERSIONS_firstFlexibleVersion : Fld s s.heap a_API_VERSIONS "com/example/indri/indri/wire/Api" "firstFlexibleVersion" "I" (.int (3 : Int32)) := Fld.start ((fld_at e_a_API_VERSIONS).symm.trans ev_nn25)
  obtain ⟨a_LEAVE_GROUP, e_a_LEAVE_GROUP⟩ := exa_v nn26
  have Ex_a_LEAVE_GROUP : Exa s s.heap a_LEAVE_GROUP "com/example/indri/indri/wire/Api" := Exa.start e_a_LEAVE_GROUP nn26
  have S_a_LEAVE_GROUP : Sta s s.heap "com/example/indri/indri/wire/Api" "LEAVE_GROUP" "Lcom/example/indri/indri/wire/Api;" (.ref a_LEAVE_GROUP) := Sta.start e_a_LEAVE_GROUP (Or.inr ⟨(hw _ (List.mem_of_getElem? (i := 6) rfl)), (hw _ (List.mem_of_getElem? (i := 43) rfl))⟩)
  have ev_hn26 := own_eqV hn26 (Term.int_eval _)
  have F_LEAVE_GROUP_firstFlexibleVersion : Fld s s.heap a_LEAVE_GROUP "com/example/indri/indri/wire/Api" "firstFlexibleVersion" "I" (.int (4 : Int32)) := Fld.start ((fld_at e_a_LEAVE_GROUP).symm.trans ev_hn26)
  obtain ⟨n, o, h1, h2, h3, _, L, rfl, ⟨N, rfl⟩, hq⟩ := own_law l s _ hw tables_1 i0 i1 a_PRODUCE a_SYNC_GROUP a_HEARTBEAT a_OFFSET_COMMIT a_DESCRIBE_GROUPS a_FIND_COORDINATOR a_LIST_GROUPS a_JOIN_GROUP a_METADATA a_OFFSET_FETCH a_FETCH a_LIST_OFFSETS a_API_VERSIONS a_LEAVE_GROUP s.heap s.heap.size (Nat.le_refl _) (Old.start s) Ex_a_PRODUCE S_a_PRODUCE F_PRODUCE_firstFlexibleVersion Ex_a_SYNC_GROUP S_a_SYNC_GROUP F_SYNC_GROUP_firstFlexibleVersion Ex_a_HEARTBEAT S_a_HEARTBEAT F_HEARTBEAT_firstFlexibleVersion Ex_a_OFFSET_COMMIT S_a_OFFSET_COMMIT F_OFFSET_COMMIT_firstFlexibleVersion Ex_a_DESCRIBE_GROUPS S_a_DESCRIBE_GROUPS F_DESCRIBE_GROUPS_firstFlexibleVersion Ex_a_FIND_COORDINATOR S_a_FIND_COORDINATOR F_FIND_COORDINATOR_firstFlexibleVersion Ex_a_LIST_GROUPS S_a_LIST_GROUPS F_LIST_GROUPS_firstFlexibleVersion Ex_a_JOIN_GROUP S_a_JOIN_GROUP F_JOIN_GROUP_firstFlexibleVersion Ex_a_METADATA S_a_METADATA F_METADATA_firstFlexibleVersion Ex_a_OFFSET_FETCH S_a_OFFSET_FETCH F_OFFSET_FETCH_firstFlexibleVersion Ex_a_FETCH S_a_FETCH F_FETCH_firstFlexibleVersion Ex_a_LIST_OFFSETS S_a_LIST_OFFSETS F_LIST_OFFSETS_firstFlexibleVersion Ex_a_API_VERSIONS S_a_API_VERSIONS F_API_VERSIONS_firstFlexibleVersion Ex_a_LEAVE_GROUP S_a_LEAVE_GROUP F_LEAVE_GROUP_firstFlexibleVersion p e ha hc hk s m _ below hf ((Spec.applies_iff_loose hf).mp happ).1 ⟨rfl, State.Warmed39.refl s, rfl⟩ trivial
  refine ⟨n, _, h1, h2, h3, hpost _ _ _ _ _ _ ⟨Cond.after_iff.mpr rfl, Cond.after_iff.mpr (eq_i res_at (Term.int_eval (1)) rfl), trivial⟩ ⟨hq.1, hq.2.1, (hq.2.2.sift fun y hy => Or.inr (N y hy)).mono (by decide) (by decide)⟩⟩
theorem main_1_1 : Claimed_1_1 := comes_1 fun _ _ _ _ _ _ h hF => ⟨h.1, hF⟩
theorem main_1_2 : Claimed_1_2 := comes_1 fun _ _ _ _ _ _ h hF => ⟨h.2.1, hF⟩
end Jvm.Pilot.@@N@@
namespace Jvm.Pilot.@@N@@
open Jvm Jvm.ClassFile Sem Op Lib Jvm.Free Jvm.Stand Jvm.Pilot.@@N@@.Jvm.D
/-! MADE BY PROGRAM (witnessworld.py) out of the Statement's table words and the real class files: 12 classes; the members and pool entries that the words name. The judged class is class 1, her method 1. -/
namespace start1
open Jvm.ClassFile
def u (s : String) : CpInfo := .utf8 (stringToUtf16 s)
/-- a pool by its gaps: so many unusable entries, then the entry; so many at the end -/
def gap : Nat → List CpInfo → List CpInfo
  | 0, r => r
  | n + 1, r => .unusable :: gap n r
def poolList (es : List (Nat × CpInfo)) (last : Nat) : List CpInfo := es.foldr (fun e r => gap e.1 (e.2 :: r)) (gap last [])
def pool (es : List (Nat × CpInfo)) (last : Nat) : Array CpInfo := ⟨poolList es last⟩
def fileOf (pool : Array CpInfo) (this : Nat) (attrs : Array Attribute := #[]) (ms : Array MethodInfo := #[]) (fl : Nat := 33) (sup : Nat := 0) (ifs : Array Nat := #[]) (fds : Array FieldInfo := #[]) : ClassFile where
  minorVersion := 0
  majorVersion := 65
  constantPool := pool
  accessFlags := fl
  thisClass := this
  superClass := sup
  interfaces := ifs
  fields := fds
  methods := ms
  attributes := attrs
def plain (name : String) (sup : Option ClassId) : Class where
  name := name
  kind := .ordinary
  loader := none
  accessFlags := 33
  super := sup
  interfaces := #[]
  cf := none
  fields := #[]
  methods := #[]
  instanceTypes := #[]
  staticTypes := #[]
  resolved := #[]
  callSites := []
  init := .initialized
  statics := none
  mirror := none

def pool0 : Array CpInfo := pool [(5, u "<init>"), (0, u "()V"), (1, .class_ 10), (1, u "java/lang/Object")] 113

def k0m0 : Method := { name := "<init>", desc := "()V", sig := { parameters := [], returnType := none }, accessFlags := 1, code := none }
/-- java/lang/Object -/
def k0 : Class := { plain "java/lang/Object" none with
  accessFlags := 33
  interfaces := #[]
  cf := some (fileOf pool0 8 #[] #[{ accessFlags := 1, nameIndex := 5, descriptorIndex := 6, attributes := #[] }] 33 0 #[] #[])
  fields := #[]
  methods := #[k0m0]
  instanceTypes := #[]
  staticTypes := #[]
  resolved := Array.replicate 124 none
  statics := none }

def pool1 : Array CpInfo := pool [(2, .class_ 4), (1, u "java/lang/Object"), (0, u "<init>"), (0, u "()V"), (0, .integer 2147483647), (0, .methodref 9 10), (0, .class_ 11), (0, .nameAndType 12 13), (0, u "com/example/indri/indri/wire/ApiIsFlexiblePinLaw"), (0, u "pick"), (0, u "(I)Lcom/example/indri/indri/wire/Api;"), (0, .methodref 9 15), (0, .nameAndType 16 17), (0, u "firstFlexible"), (0, u "(I)I"), (0, .methodref 19 20), (0, .class_ 21), (0, .nameAndType 22 23), (0, u "com/example/indri/indri/wire/Api"), (0, u "isFlexible"), (0, u "(S)Z"), (0, .fieldref 19 25), (0, .nameAndType 26 27), (0, u "PRODUCE"), (0, u "Lcom/example/indri/indri/wire/Api;"), (0, .fieldref 19 29), (0, .nameAndType 30 27), (0, u "FETCH"), (0, .fieldref 19 32), (0, .nameAndType 33 27), (0, u "LIST_OFFSETS"), (0, .fieldref 19 35), (0, .nameAndType 36 27), (0, u "METADATA"), (0, .fieldref 19 38), (0, .nameAndType 39 27), (0, u "OFFSET_COMMIT"), (0, .fieldref 19 41), (0, .nameAndType 42 27), (0, u "OFFSET_FETCH"), (0, .fieldref 19 44), (0, .nameAndType 45 27), (0, u "FIND_COORDINATOR"), (0, .fieldref 19 47), (0, .nameAndType 48 27), (0, u "JOIN_GROUP"), (0, .fieldref 19 50), (0, .nameAndType 51 27), (0, u "HEARTBEAT"), (0, .fieldref 19 53), (0, .nameAndType 54 27), (0, u "LEAVE_GROUP"), (0, .fieldref 19 56), (0, .nameAndType 57 27), (0, u "SYNC_GROUP"), (0, .fieldref 19 59), (0, .nameAndType 60 27), (0, u "DESCRIBE_GROUPS"), (0, .fieldref 19 62), (0, .nameAndType 63 27), (0, u "LIST_GROUPS"), (0, .fieldref 19 65), (0, .nameAndType 66 27), (0, u "API_VERSIONS"), (2, u "law"), (0, u "(II)Z")] 3

def k1m0 : Method := { name := "<init>", desc := "()V", sig := { parameters := [], returnType := none }, accessFlags := 1, code := none }
def k1c1 : Code := { maxStack := 2, maxLocals := 7, code := code, exceptionTable := #[], attributes := #[] }
def k1m1 : Method := { name := "law", desc := "(II)Z", sig := { parameters := [.int, .int], returnType := some .boolean }, accessFlags := 9, code := some k1c1 }
def k1c2 : Code := { maxStack := 2, maxLocals := 1, code := method_3_code, exceptionTable := #[], attributes := #[] }
def k1m2 : Method := { name := "pick", desc := "(I)Lcom/example/indri/indri/wire/Api;", sig := { parameters := [.int], returnType := some (.object "com/example/indri/indri/wire/Api") }, accessFlags := 10, code := some k1c2 }
def k1c3 : Code := { maxStack := 2, maxLocals := 1, code := method_4_code, exceptionTable := #[], attributes := #[] }
def k1m3 : Method := { name := "firstFlexible", desc := "(I)I", sig := { parameters := [.int], returnType := some .int }, accessFlags := 10, code := some k1c3 }
/-- com/example/indri/indri/wire/ApiIsFlexiblePinLaw -/
def k1 : Class := { plain "com/example/indri/indri/wire/ApiIsFlexiblePinLaw" (some 0) with
  accessFlags := 49
  interfaces := #[]
  cf := some (fileOf pool1 9 #[] #[{ accessFlags := 1, nameIndex := 5, descriptorIndex := 6, attributes := #[] }, { accessFlags := 9, nameIndex := 69, descriptorIndex := 70, attributes := #[] }, { accessFlags := 10, nameIndex := 12, descriptorIndex := 13, attributes := #[] }, { accessFlags := 10, nameIndex := 16, descriptorIndex := 17, attributes := #[] }] 49 2 #[] #[])
  fields := #[]
  methods := #[k1m0, k1m1, k1m2, k1m3]
  instanceTypes := #[]
  staticTypes := #[]
  resolved := Array.replicate 74 none
  statics := none }

def pool2 : Array CpInfo := pool [(1, .class_ 2), (0, u "java/lang/constant/Constable"), (0, .class_ 4), (0, u "java/lang/Object")] 6

/-- java/lang/constant/Constable -/
def k2 : Class := { plain "java/lang/constant/Constable" (some 0) with
  accessFlags := 1537
  interfaces := #[]
  cf := some (fileOf pool2 1 #[] #[] 1537 3 #[] #[])
  fields := #[]
  methods := #[]
  instanceTypes := #[]
  staticTypes := #[]
  resolved := Array.replicate 11 none
  statics := none }

def pool3 : Array CpInfo := pool [(1, .class_ 2), (0, u "java/lang/Comparable"), (0, .class_ 4), (0, u "java/lang/Object")] 7

/-- java/lang/Comparable -/
def k3 : Class := { plain "java/lang/Comparable" (some 0) with
  accessFlags := 1537
  interfaces := #[]
  cf := some (fileOf pool3 1 #[] #[] 1537 3 #[] #[])
  fields := #[]
  methods := #[]
  instanceTypes := #[]
  staticTypes := #[]
  resolved := Array.replicate 12 none
  statics := none }

def pool4 : Array CpInfo := pool [(1, .class_ 2), (0, u "java/io/Serializable"), (0, .class_ 4), (0, u "java/lang/Object")] 2

/-- java/io/Serializable -/
def k4 : Class := { plain "java/io/Serializable" (some 0) with
  accessFlags := 1537
  interfaces := #[]
  cf := some (fileOf pool4 1 #[] #[] 1537 3 #[] #[])
  fields := #[]
  methods := #[]
  instanceTypes := #[]
  staticTypes := #[]
  resolved := Array.replicate 7 none
  statics := none }

def pool5 : Array CpInfo := pool [(2, .class_ 4), (1, u "java/lang/Enum"), (0, u "name"), (0, u "Ljava/lang/String;"), (2, u "ordinal"), (0, u "I"), (1, .class_ 14), (1, u "java/lang/Object"), (4, u "hash"), (86, .class_ 108), (1, u "java/lang/Enum$EnumDesc"), (2, .class_ 112), (0, u "java/lang/constant/Constable"), (0, .class_ 114), (0, u "java/lang/Comparable"), (0, .class_ 116), (0, u "java/io/Serializable")] 87

/-- java/lang/Enum -/
def k5 : Class := { plain "java/lang/Enum" (some 0) with
  accessFlags := 1057
  interfaces := #[2, 3, 4]
  cf := some (fileOf pool5 2 #[.nestMembers #[106]] #[] 1057 12 #[111, 113, 115] #[{ accessFlags := 18, nameIndex := 5, descriptorIndex := 6, attributes := #[] }, { accessFlags := 18, nameIndex := 9, descriptorIndex := 10, attributes := #[] }, { accessFlags := 2, nameIndex := 19, descriptorIndex := 10, attributes := #[] }])
  fields := #[{ name := "name", type := (.object "java/lang/String"), accessFlags := 18, slot := 0, constantValue := 0 }, { name := "ordinal", type := .int, accessFlags := 18, slot := 1, constantValue := 0 }, { name := "hash", type := .int, accessFlags := 2, slot := 2, constantValue := 0 }]
  methods := #[]
  instanceTypes := #[(.object "java/lang/String"), .int, .int]
  staticTypes := #[]
  resolved := Array.replicate 204 none
  statics := none }

def pool6 : Array CpInfo := pool [(1, .class_ 2), (0, u "com/example/indri/indri/wire/Api"), (2, u "PRODUCE"), (0, u "Lcom/example/indri/indri/wire/Api;"), (2, u "FETCH"), (2, u "LIST_OFFSETS"), (2, u "METADATA"), (2, u "OFFSET_COMMIT"), (2, u "OFFSET_FETCH"), (2, u "FIND_COORDINATOR"), (2, u "JOIN_GROUP"), (2, u "HEARTBEAT"), (2, u "LEAVE_GROUP"), (2, u "SYNC_GROUP"), (2, u "DESCRIBE_GROUPS"), (2, u "LIST_GROUPS"), (2, u "API_VERSIONS"), (2, u "$VALUES"), (0, u "[Lcom/example/indri/indri/wire/Api;"), (6, .class_ 58), (1, u "java/lang/Enum"), (14, u "key"), (0, u "S"), (2, u "callName"), (0, u "Ljava/lang/String;"), (2, u "minVersion"), (2, u "maxVersion"), (0, .fieldref 1 86), (0, .nameAndType 87 88), (0, u "firstFlexibleVersion"), (0, u "I"), (2, u "notServedReason"), (21, u "isFlexible"), (0, u "(S)Z")] 97

def k6c0 : Code := { maxStack := 2, maxLocals := 2, code := prog_47_method_13_code, exceptionTable := #[], attributes := #[] }
def k6m0 : Method := { name := "isFlexible", desc := "(S)Z", sig := { parameters := [.short], returnType := some .boolean }, accessFlags := 1, code := some k6c0 }
/-- com/example/indri/indri/wire/Api -/
def k6 : Class := { plain "com/example/indri/indri/wire/Api" (some 5) with
  accessFlags := 16433
  interfaces := #[]
  cf := some (fileOf pool6 1 #[] #[{ accessFlags := 1, nameIndex := 113, descriptorIndex := 114, attributes := #[] }] 16433 56 #[] #[{ accessFlags := 16409, nameIndex := 5, descriptorIndex := 6, attributes := #[] }, { accessFlags := 16409, nameIndex := 9, descriptorIndex := 6, attributes := #[] }, { accessFlags := 16409, nameIndex := 12, descriptorIndex := 6, attributes := #[] }, { accessFlags := 16409, nameIndex := 15, descriptorIndex := 6, attributes := #[] }, { accessFlags := 16409, nameIndex := 18, descriptorIndex := 6, attributes := #[] }, { accessFlags := 16409, nameIndex := 21, descriptorIndex := 6, attributes := #[] }, { accessFlags := 16409, nameIndex := 24, descriptorIndex := 6, attributes := #[] }, { accessFlags := 16409, nameIndex := 27, descriptorIndex := 6, attributes := #[] }, { accessFlags := 16409, nameIndex := 30, descriptorIndex := 6, attributes := #[] }, { accessFlags := 16409, nameIndex := 33, descriptorIndex := 6, attributes := #[] }, { accessFlags := 16409, nameIndex := 36, descriptorIndex := 6, attributes := #[] }, { accessFlags := 16409, nameIndex := 39, descriptorIndex := 6, attributes := #[] }, { accessFlags := 16409, nameIndex := 42, descriptorIndex := 6, attributes := #[] }, { accessFlags := 16409, nameIndex := 45, descriptorIndex := 6, attributes := #[] }, { accessFlags := 18, nameIndex := 73, descriptorIndex := 74, attributes := #[] }, { accessFlags := 18, nameIndex := 77, descriptorIndex := 78, attributes := #[] }, { accessFlags := 18, nameIndex := 81, descriptorIndex := 74, attributes := #[] }, { accessFlags := 18, nameIndex := 84, descriptorIndex := 74, attributes := #[] }, { accessFlags := 18, nameIndex := 87, descriptorIndex := 88, attributes := #[] }, { accessFlags := 18, nameIndex := 91, descriptorIndex := 78, attributes := #[] }, { accessFlags := 4122, nameIndex := 48, descriptorIndex := 49, attributes := #[] }])
  fields := #[{ name := "PRODUCE", type := (.object "com/example/indri/indri/wire/Api"), accessFlags := 16409, slot := 0, constantValue := 0 }, { name := "FETCH", type := (.object "com/example/indri/indri/wire/Api"), accessFlags := 16409, slot := 1, constantValue := 0 }, { name := "LIST_OFFSETS", type := (.object "com/example/indri/indri/wire/Api"), accessFlags := 16409, slot := 2, constantValue := 0 }, { name := "METADATA", type := (.object "com/example/indri/indri/wire/Api"), accessFlags := 16409, slot := 3, constantValue := 0 }, { name := "OFFSET_COMMIT", type := (.object "com/example/indri/indri/wire/Api"), accessFlags := 16409, slot := 4, constantValue := 0 }, { name := "OFFSET_FETCH", type := (.object "com/example/indri/indri/wire/Api"), accessFlags := 16409, slot := 5, constantValue := 0 }, { name := "FIND_COORDINATOR", type := (.object "com/example/indri/indri/wire/Api"), accessFlags := 16409, slot := 6, constantValue := 0 }, { name := "JOIN_GROUP", type := (.object "com/example/indri/indri/wire/Api"), accessFlags := 16409, slot := 7, constantValue := 0 }, { name := "HEARTBEAT", type := (.object "com/example/indri/indri/wire/Api"), accessFlags := 16409, slot := 8, constantValue := 0 }, { name := "LEAVE_GROUP", type := (.object "com/example/indri/indri/wire/Api"), accessFlags := 16409, slot := 9, constantValue := 0 }, { name := "SYNC_GROUP", type := (.object "com/example/indri/indri/wire/Api"), accessFlags := 16409, slot := 10, constantValue := 0 }, { name := "DESCRIBE_GROUPS", type := (.object "com/example/indri/indri/wire/Api"), accessFlags := 16409, slot := 11, constantValue := 0 }, { name := "LIST_GROUPS", type := (.object "com/example/indri/indri/wire/Api"), accessFlags := 16409, slot := 12, constantValue := 0 }, { name := "API_VERSIONS", type := (.object "com/example/indri/indri/wire/Api"), accessFlags := 16409, slot := 13, constantValue := 0 }, { name := "key", type := .short, accessFlags := 18, slot := 3, constantValue := 0 }, { name := "callName", type := (.object "java/lang/String"), accessFlags := 18, slot := 4, constantValue := 0 }, { name := "minVersion", type := .short, accessFlags := 18, slot := 5, constantValue := 0 }, { name := "maxVersion", type := .short, accessFlags := 18, slot := 6, constantValue := 0 }, { name := "firstFlexibleVersion", type := .int, accessFlags := 18, slot := 7, constantValue := 0 }, { name := "notServedReason", type := (.object "java/lang/String"), accessFlags := 18, slot := 8, constantValue := 0 }, { name := "$VALUES", type := (.array (.object "com/example/indri/indri/wire/Api")), accessFlags := 4122, slot := 14, constantValue := 0 }]
  methods := #[k6m0]
  instanceTypes := #[(.object "java/lang/String"), .int, .int, .short, (.object "java/lang/String"), .short, .short, .int, (.object "java/lang/String")]
  staticTypes := #[(.object "com/example/indri/indri/wire/Api"), (.object "com/example/indri/indri/wire/Api"), (.object "com/example/indri/indri/wire/Api"), (.object "com/example/indri/indri/wire/Api"), (.object "com/example/indri/indri/wire/Api"), (.object "com/example/indri/indri/wire/Api"), (.object "com/example/indri/indri/wire/Api"), (.object "com/example/indri/indri/wire/Api"), (.object "com/example/indri/indri/wire/Api"), (.object "com/example/indri/indri/wire/Api"), (.object "com/example/indri/indri/wire/Api"), (.object "com/example/indri/indri/wire/Api"), (.object "com/example/indri/indri/wire/Api"), (.object "com/example/indri/indri/wire/Api"), (.array (.object "com/example/indri/indri/wire/Api"))]
  resolved := Array.replicate 212 none
  statics := some 0 }

def pool7 : Array CpInfo := pool [(1, u "java/lang/Cloneable"), (0, .class_ 1), (0, u "java/lang/Object"), (0, .class_ 3)] 3

/-- java/lang/Cloneable -/
def k7 : Class := { plain "java/lang/Cloneable" (some 0) with
  accessFlags := 1537
  interfaces := #[]
  cf := some (fileOf pool7 2 #[] #[] 1537 4 #[] #[])
  fields := #[]
  methods := #[]
  instanceTypes := #[]
  staticTypes := #[]
  resolved := Array.replicate 8 none
  statics := none }

/-- the primitive byte -/
def k8 : Class := { plain "byte" none with kind := .primitive 'B', accessFlags := 0x411 }
/-- [B -/
def k9 : Class := { plain "[B" (some 0) with kind := .array 8 .byte, interfaces := #[7, 4], accessFlags := 1041 }

/-- the primitive int -/
def k10 : Class := { plain "int" none with kind := .primitive 'I', accessFlags := 0x411 }
/-- [I -/
def k11 : Class := { plain "[I" (some 0) with kind := .array 10 .int, interfaces := #[7, 4], accessFlags := 1041 }

def heap : Heap := #[{ cls := 6, slots := #[.ref 1, .ref 11, .ref 12, .ref 9, .ref 4, .ref 10, .ref 6, .ref 8, .ref 3, .ref 14, .ref 2, .ref 5, .ref 7, .ref 13, .null], vm := .statics 6 },
  { cls := 6, slots := #[.null, .int 0, .int 0, .int 0, .null, .int 0, .int 0, .int 2147483647, .null], vm := .none },
  { cls := 6, slots := #[.null, .int 0, .int 0, .int 0, .null, .int 0, .int 0, .int 4, .null], vm := .none },
  { cls := 6, slots := #[.null, .int 0, .int 0, .int 0, .null, .int 0, .int 0, .int 4, .null], vm := .none },
  { cls := 6, slots := #[.null, .int 0, .int 0, .int 0, .null, .int 0, .int 0, .int 2147483647, .null], vm := .none },
  { cls := 6, slots := #[.null, .int 0, .int 0, .int 0, .null, .int 0, .int 0, .int 5, .null], vm := .none },
  { cls := 6, slots := #[.null, .int 0, .int 0, .int 0, .null, .int 0, .int 0, .int 2147483647, .null], vm := .none },
  { cls := 6, slots := #[.null, .int 0, .int 0, .int 0, .null, .int 0, .int 0, .int 3, .null], vm := .none },
  { cls := 6, slots := #[.null, .int 0, .int 0, .int 0, .null, .int 0, .int 0, .int 6, .null], vm := .none },
  { cls := 6, slots := #[.null, .int 0, .int 0, .int 0, .null, .int 0, .int 0, .int 2147483647, .null], vm := .none },
  { cls := 6, slots := #[.null, .int 0, .int 0, .int 0, .null, .int 0, .int 0, .int 6, .null], vm := .none },
  { cls := 6, slots := #[.null, .int 0, .int 0, .int 0, .null, .int 0, .int 0, .int 2147483647, .null], vm := .none },
  { cls := 6, slots := #[.null, .int 0, .int 0, .int 0, .null, .int 0, .int 0, .int 2147483647, .null], vm := .none },
  { cls := 6, slots := #[.null, .int 0, .int 0, .int 0, .null, .int 0, .int 0, .int 3, .null], vm := .none },
  { cls := 6, slots := #[.null, .int 0, .int 0, .int 0, .null, .int 0, .int 0, .int 4, .null], vm := .none }]
def classes : Array Class := #[k0, k1, k2, k3, k4, k5, k6, k7, k8, k9, k10, k11]
def interned : List (Array UInt16 × Addr) := []
def slotsUsed : Nat := 141
def theMethod : MethodId := ⟨1, 1⟩
def args0 : Array Value := #[.int 5, .int 7]
def aboutOver (below : List Frame) : State where
  vm := { classes := classes, interned := interned.toArray }
  heap := heap
  slotsUsed := slotsUsed
  threads := #[{ frames := .invoking theMethod args0 :: below }]
def below0 : List Frame := [.native { method := ⟨0, 0⟩, args := #[] }]
def about1 : State := aboutOver below0
def p0 : Program := .bare "" "" ""
def e0 : Env := launch0.env 0 0 0
theorem w_frames : about1.frames = Frame.invoking theMethod args0 :: below0 := rfl
set_option maxRecDepth 65536 in
theorem w_args : argsFit about1.vm theMethod args0 = true := by decide +kernel
set_option maxRecDepth 65536 in
theorem w_heap : heapFits about1 = true := by decide +kernel
set_option maxRecDepth 65536 in
theorem w_runnable : about1.curStatus? = some .runnable := by decide +kernel
set_option maxRecDepth 65536 in
theorem w_alone : about1.alone = true := by decide +kernel
set_option maxRecDepth 65536 in
theorem w_named : about1.methodNamed? x = some theMethod := by decide +kernel
set_option maxRecDepth 65536 in
theorem w_hears : about1.hears theMethod below0 = true := by decide +kernel
set_option maxRecDepth 65536 in
theorem w_ripe : about1.ripe theMethod args0 below0 = true := by decide +kernel
theorem w_running : about1.status = .running := rfl
set_option maxRecDepth 65536 in
theorem w_room : about1.hasRoom e0.platform room_1 = true :=
  launch0.hasRoom_least _ room_1 (by decide +kernel) (by decide +kernel) (by decide +kernel) (by decide +kernel) (by decide +kernel) (by decide +kernel)
theorem allAtoms_all (ts : List Jvm.Cond) (a : Array Jvm.Value) (st : Jvm.State) : (allAtoms ts).before a st = ts.all (fun c => c.before a st) := by
  induction ts with
  | nil => rfl
  | cons c t ih =>
    show (Jvm.Cond.and c (allAtoms t)).before a st = _
    rw [Jvm.Cond.before_and, ih, List.all_cons]
def words1 : List Jvm.Cond := Jvm.Cond.code x code maxLocals ret :: tables_1
/-- a 'code' word, met by the world's own term for the bytes: nothing is compared byte by byte -/
theorem code_word {y : MethodName} {bytes : ByteArray} {mx : Nat} {rt : Option FieldType} {a : Array Value} {s : State} {m : MethodId} {meth : Method} {c : Code} (h1 : s.methodNamed? y = some m) (h2 : s.vm.method? m = some meth) (h3 : meth.code = some c) (h4 : c.code = bytes)
    (h5 : (c.maxLocals == mx && c.exceptionTable.isEmpty && decide (c.maxStack ≤ mostOperands) && decide (meth.sig.returnType = rt) && !meth.locks && decide (parseMethodDescriptor y.desc = some meth.sig)) = true) : (Jvm.Cond.code y bytes mx rt).before a s = true := by
  simp only [Bool.and_eq_true, beq_iff_eq, Bool.not_eq_true', decide_eq_true_eq] at h5
  obtain ⟨⟨⟨⟨⟨g1, g2⟩, g3⟩, g4⟩, g5⟩, g6⟩ := h5
  simp [Cond.before, Cond.holds, Cond.value, h1, h2, h3, h4, g1, g2, g3, g4, g5, g6]
def isCode : Jvm.Cond → Bool
  | .code _ _ _ _ => true
  | _ => false
theorem all_split {L : List Jvm.Cond} {P : Jvm.Cond → Bool} (h1 : L.all (fun c => isCode c || P c) = true) (h2 : ∀ c ∈ L.filter isCode, P c = true) : L.all P = true := by
  refine List.all_eq_true.mpr fun c hc => ?_
  have h := List.all_eq_true.mp h1 c hc
  rcases Bool.eq_false_or_eq_true (isCode c) with hi | hi
  · exact h2 c (List.mem_filter.mpr ⟨hc, hi⟩)
  · simpa [hi] using h
set_option maxRecDepth 65536 in
theorem w_c0 : (Jvm.Cond.code x code maxLocals ret).before args0 about1 = true := code_word (m := ⟨1, 1⟩) (meth := k1m1) (c := k1c1) (by decide +kernel) rfl rfl rfl (by decide +kernel)
set_option maxRecDepth 65536 in
theorem w_c1 : (Jvm.Cond.code ({ cls := "com/example/indri/indri/wire/ApiIsFlexiblePinLaw", name := "pick", desc := "(I)Lcom/example/indri/indri/wire/Api;" } : Jvm.MethodName) method_3_code (1 : Nat) (Option.some (Jvm.ClassFile.FieldType.object "com/example/indri/indri/wire/Api"))).before args0 about1 = true := code_word (m := ⟨1, 2⟩) (meth := k1m2) (c := k1c2) (by decide +kernel) rfl rfl rfl (by decide +kernel)
set_option maxRecDepth 65536 in
theorem w_c2 : (Jvm.Cond.code ({ cls := "com/example/indri/indri/wire/ApiIsFlexiblePinLaw", name := "firstFlexible", desc := "(I)I" } : Jvm.MethodName) method_4_code (1 : Nat) (Option.some Jvm.ClassFile.FieldType.int)).before args0 about1 = true := code_word (m := ⟨1, 3⟩) (meth := k1m3) (c := k1c3) (by decide +kernel) rfl rfl rfl (by decide +kernel)
set_option maxRecDepth 65536 in
theorem w_c3 : (Jvm.Cond.code ({ cls := "com/example/indri/indri/wire/Api", name := "isFlexible", desc := "(S)Z" } : Jvm.MethodName) prog_47_method_13_code (2 : Nat) (Option.some Jvm.ClassFile.FieldType.boolean)).before args0 about1 = true := code_word (m := ⟨6, 0⟩) (meth := k6m0) (c := k6c0) (by decide +kernel) rfl rfl rfl (by decide +kernel)
def codes1 : List Jvm.Cond := [Jvm.Cond.code x code maxLocals ret, Jvm.Cond.code ({ cls := "com/example/indri/indri/wire/ApiIsFlexiblePinLaw", name := "pick", desc := "(I)Lcom/example/indri/indri/wire/Api;" } : Jvm.MethodName) method_3_code (1 : Nat) (Option.some (Jvm.ClassFile.FieldType.object "com/example/indri/indri/wire/Api")), Jvm.Cond.code ({ cls := "com/example/indri/indri/wire/ApiIsFlexiblePinLaw", name := "firstFlexible", desc := "(I)I" } : Jvm.MethodName) method_4_code (1 : Nat) (Option.some Jvm.ClassFile.FieldType.int), Jvm.Cond.code ({ cls := "com/example/indri/indri/wire/Api", name := "isFlexible", desc := "(S)Z" } : Jvm.MethodName) prog_47_method_13_code (2 : Nat) (Option.some Jvm.ClassFile.FieldType.boolean)]
set_option maxRecDepth 65536 in
theorem codes_eq : words1.filter isCode = codes1 := rfl
theorem w_codes : ∀ c ∈ words1.filter isCode, c.before args0 about1 = true := by
  rw [codes_eq]
  intro c hc
  simp only [codes1, List.mem_cons, List.not_mem_nil, or_false] at hc
  rcases hc with rfl | rfl | rfl | rfl
  · exact w_c0
  · exact w_c1
  · exact w_c2
  · exact w_c3
set_option maxRecDepth 65536 in
theorem w_t1 : (words1.take 24).all (fun c => isCode c || c.before args0 about1) = true := by decide +kernel
set_option maxRecDepth 65536 in
theorem w_t2 : (words1.drop 24).all (fun c => isCode c || c.before args0 about1) = true := by decide +kernel
theorem w_tables : (allAtoms (Jvm.Cond.code x code maxLocals ret :: tables_1)).before args0 about1 = true := by
  rw [allAtoms_all]
  show words1.all (fun c => c.before args0 about1) = true
  refine all_split ?_ w_codes
  rw [← List.take_append_drop 24 words1, List.all_append, w_t1, w_t2]
  rfl
set_option maxRecDepth 65536 in
theorem w_case : (Jvm.Cond.and given_1 narrow_1).before args0 about1 = true := by decide +kernel
theorem w_applies : (headSpec (Jvm.Cond.code x code maxLocals ret :: tables_1) room_1).applies x e0.platform about1 = true :=
  (Spec.applies_iff w_frames).mpr ⟨w_running, w_runnable, w_alone, w_named, w_hears, w_ripe, w_room, w_tables⟩
theorem atStart : AtStart classFile x code maxLocals ret World_1 tables_1 room_1 Calls_1 rest_1 Pre_1 launch0 p0 e0 about1 theMethod args0 below0 :=
  ⟨lists_1, trivial, launch0.admits_env _ _ _, launch0.least_env, fairChoices_fair.cas, fairChoices_fair.clock, w_frames, w_args, w_heap, w_applies, trivial, trivial, w_case⟩
end start1
theorem witness_1 : WitnessClaimed_1 := ⟨start1.p0, start1.e0, start1.about1, start1.theMethod, start1.args0, start1.below0, start1.atStart⟩
end Jvm.Pilot.@@N@@
