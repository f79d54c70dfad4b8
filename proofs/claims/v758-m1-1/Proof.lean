import JvmDerived
import JvmDerived.Pilot.@@N@@Statement
import JvmDerived.Pilot.@@N@@Code
set_option linter.unusedVariables false
set_option linter.unusedSimpArgs false
@@BLOCK:NumsL.lean.txt@@
namespace Jvm.RoadKit
open Sem ClassFile Op Lib Jvm.Stand Jvm.Free Jvm.LawKit
section New
variable {p : Program} {l : Launch} {e : Env} {R : Room} {s : State} {m : MethodId} {args : Array Value} {below : List Frame} {meth : Method} {c : Code} {T : State} {locs : List Loc} {cells slots : Nat}
theorem retI (X : Stand p l e R s m args below meth c T locs cells slots) (hx : p.tables.exec = Jvm.exec) {pc : Nat} {Ls : Array Slot} {z : Int32} {rest : List Value} (hret : meth.sig.returnType = some .int) (hd : decode c.code pc = .ok (.ireturn, 1)) {fs : List Frame}
    (hl : ∀ (f : JFrame) (acts : List Action), f.method = m → f.locked = none → f.entered = [] → (doReturn e (T.setTop f) acts (some (.int z))).1 = T.setFrames fs) : Steps p.tables e below (T.setTop (mkF m pc Ls (.int z :: rest))) (T.setFrames fs) := by
  have hm' : T.vm.method? m = some meth := X.method'
  have hn : narrow .int (.int z) = .int z := rfl
  show Steps p.tables e below (T.setTop { method := m, pc := pc, locals := Ls, stack := _ :: rest, locked := none }) _
  jvm_step X.here [X.here.top, hx, hd, hm', hret, hn]
  first | (intro acts; rw [hl _ acts rfl rfl rfl]) | rw [hl _ _ rfl rfl rfl]
  exact Steps.refl _
end New
section Own
variable {p : Program} {l : Launch} {e : Env} {R : Room} {s : State} {m : MethodId} {args : Array Value} {below : List Frame} {meth : Method} {c : Code} {T A B : State} {locs : List Loc} {cells slots k n : Nat} {Q : Option Value → Heap → List Loc → Prop}
/-- from A the walk comes to its end, and Q holds there -/
def own_Go (p : Program) (e : Env) (below : List Frame) (s : State) (Q : Option Value → Heap → List Loc → Prop) (k n : Nat) (A : State) : Prop :=
  ∃ s₂ o, Steps p.tables e below A s₂ ∧ s₂.status = .running ∧ Ended s₂ below o ∧ ∃ v L, o = .returned v ∧ Q v s₂.heap L ∧ FrameEnd s o s₂ L k n
theorem own_st (h : ∀ t, Steps p.tables e below B t → Steps p.tables e below A t) (g : own_Go p e below s Q k n B) : own_Go p e below s Q k n A := by
  obtain ⟨s₂, o, h1, r⟩ := g
  exact ⟨s₂, o, h _ h1, r⟩
theorem own_tr (h : Steps p.tables e below A B) (g : own_Go p e below s Q k n B) : own_Go p e below s Q k n A := own_st (fun _ q => h.trans q) g
theorem own_end (X : Stand p l e R s m args below meth c T locs cells slots) (hlk : meth.locks = false) {v : Option Value} (hv : meth.sig.returnType = none → v = none) (hk : cells ≤ k) (hn : slots ≤ n) (hQ : Q v T.heap locs) {g : JFrame}
    (hgo : ∀ fs, (∀ (f : JFrame) (acts : List Action), f.method = m → f.locked = none → f.entered = [] → (doReturn e (T.setTop f) acts v).1 = T.setFrames fs) → Steps p.tables e below (T.setTop g) (T.setFrames fs)) : own_Go p e below s Q k n (T.setTop g) := by
  obtain ⟨fs, hr, hrun, hended, hW, hsame⟩ := X.leave hv hlk
  exact ⟨_, _, hgo fs hr, hrun, hended, v, locs, rfl, hQ, ⟨_, rfl⟩, hW, hsame.mono hk hn⟩
theorem own_retI (X : Stand p l e R s m args below meth c T locs cells slots) (hx : p.tables.exec = Jvm.exec) (hlk : meth.locks = false) {pc : Nat} {Ls : Array Slot} {z : Int32} {rest : List Value} (hret : meth.sig.returnType = some .int) (hd : decode c.code pc = .ok (.ireturn, 1)) (hk : cells ≤ k) (hn : slots ≤ n) (hQ : Q (some (.int z)) T.heap locs) :
    own_Go p e below s Q k n (T.setTop (mkF m pc Ls (.int z :: rest))) := own_end X hlk (fun h => by rw [hret] at h; cases h) hk hn hQ fun fs hr => retI X hx hret hd hr
theorem own_retN (X : Stand p l e R s m args below meth c T locs cells slots) (hx : p.tables.exec = Jvm.exec) (hlk : meth.locks = false) {pc : Nat} {Ls : Array Slot} {z z' : Int32} {rest : List Value} {t : FieldType} (hret : meth.sig.returnType = some t) (ht : t = .boolean ∨ t = .byte ∨ t = .char ∨ t = .short) (hz : nar t z = z') (hd : decode c.code pc = .ok (.ireturn, 1)) (hk : cells ≤ k) (hn : slots ≤ n) (hQ : Q (some (.int z')) T.heap locs) :
    own_Go p e below s Q k n (T.setTop (mkF m pc Ls (.int z :: rest))) := own_end X hlk (v := some (.int (nar t z))) (fun h => by rw [hret] at h; cases h) hk hn (hz ▸ hQ) fun fs hr => retN X hx hret ht hd hr
theorem own_retJ (X : Stand p l e R s m args below meth c T locs cells slots) (hx : p.tables.exec = Jvm.exec) (hlk : meth.locks = false) {pc : Nat} {Ls : Array Slot} {z : Int64} {rest : List Value} (hret : meth.sig.returnType = some .long) (hd : decode c.code pc = .ok (.lreturn, 1)) (hk : cells ≤ k) (hn : slots ≤ n) (hQ : Q (some (.long z)) T.heap locs) :
    own_Go p e below s Q k n (T.setTop (mkF m pc Ls (.long z :: rest))) := own_end X hlk (fun h => by rw [hret] at h; cases h) hk hn hQ fun fs hr => retOut X hx hret rfl (Or.inr (Or.inl ⟨rfl, rfl, _, rfl⟩)) hd hr
theorem own_retA (X : Stand p l e R s m args below meth c T locs cells slots) (hx : p.tables.exec = Jvm.exec) (hlk : meth.locks = false) {pc : Nat} {Ls : Array Slot} {w : Value} {t : FieldType} {rest : List Value} (hret : meth.sig.returnType = some t) (hw : w.isRef = true) (hd : decode c.code pc = .ok (.areturn, 1)) (hk : cells ≤ k) (hn : slots ≤ n) (hQ : Q (some w) T.heap locs) (ht : t.isReference = true := by rfl) :
    own_Go p e below s Q k n (T.setTop (mkF m pc Ls (w :: rest))) := own_end X hlk (fun h => by rw [hret] at h; cases h) hk hn hQ fun fs hr => retOut X hx hret (by cases w <;> first | (cases hw; done) | (cases t <;> first | (cases ht; done) | rfl)) (Or.inr (Or.inr (Or.inr (Or.inr ⟨rfl, ht, hw⟩)))) hd hr
theorem own_ret0 (X : Stand p l e R s m args below meth c T locs cells slots) (hx : p.tables.exec = Jvm.exec) (hlk : meth.locks = false) {pc : Nat} {Ls : Array Slot} (hret : meth.sig.returnType = none) (hd : decode c.code pc = .ok (.return_, 1)) (hk : cells ≤ k) (hn : slots ≤ n) (hQ : Q none T.heap locs) :
    own_Go p e below s Q k n (T.setTop (mkF m pc Ls [])) := own_end X hlk (fun _ => rfl) hk hn hQ fun fs hr => X.returnOut hx hret hd hr
end Own
theorem own_narR {C : String} {v : Value} (h : v.isRef = true) : narrow (.object C) v = v := by cases v <;> first | rfl | (cases h; done)
theorem own_fitR {C : String} {v : Value} (h : v.isRef = true) : fits (.object C) v = true := by cases v <;> first | rfl | (cases h; done)
theorem own_hp {T : State} {h : Heap} {a : Addr} {c : Cell} (e : T.heap = h) (q : h[a]? = some c) : T.heap[a]? = some c := e ▸ q
theorem own_pad (n : Nat) (d : Value) (i : Nat) : (List.replicate n d).getD i d = ([] : List Value).getD i d := by
  have h := pad_rep [] d n i
  simpa using h
end Jvm.RoadKit
namespace Jvm.Pilot.@@N@@
open Jvm Jvm.ClassFile Sem Op Lib Jvm.Free Jvm.Stand Jvm.LawKit Jvm.RoadKit Bundle Jvm.Pilot.@@N@@.Jvm.D
def own_up {α : Type} (f : Nat → α) (i : Nat) (x : α) : Nat → α := fun k => if k = i then x else f k
theorem own_up_same {α : Type} (f : Nat → α) (i : Nat) (x : α) : own_up f i x i = x := if_pos rfl
theorem own_up_ne {α : Type} {f : Nat → α} {i k : Nat} {x : α} (h : k ≠ i) : own_up f i x k = f k := if_neg h
def own_I (iv : Int32) (i : Nat) : Prop := (iv = 0 ∧ i = 0) ∨ (iv = 1 ∧ i = 1)
theorem own_I.inb {iv : Int32} {i : Nat} (h : own_I iv i) : ¬ iv < 0 ∧ iv < 2 := by rcases h with ⟨rfl, rfl⟩ | ⟨rfl, rfl⟩ <;> decide
theorem own_I.lt {iv : Int32} {i : Nat} (h : own_I iv i) : i < 2 := by rcases h with ⟨rfl, rfl⟩ | ⟨rfl, rfl⟩ <;> decide
theorem own_I.nat {iv : Int32} {i : Nat} (h : own_I iv i) : iv.toNatClampNeg = i := by rcases h with ⟨rfl, rfl⟩ | ⟨rfl, rfl⟩ <;> decide
theorem own_I.int {iv : Int32} {i : Nat} (h : own_I iv i) : iv.toInt = i := by rcases h with ⟨rfl, rfl⟩ | ⟨rfl, rfl⟩ <;> decide
theorem own_I.get {iv : Int32} {i : Nat} (h : own_I iv i) (f : Nat → Value) (d : Value) : [f 0, f 1].getD iv.toNatClampNeg d = f i := by rcases h with ⟨rfl, rfl⟩ | ⟨rfl, rfl⟩ <;> rfl
theorem own_I.getI {iv : Int32} {i : Nat} (h : own_I iv i) (f : Nat → Int32) (d : Value) : [Value.int (f 0), Value.int (f 1)].getD iv.toNatClampNeg d = Value.int (f i) := h.get (fun k => .int (f k)) d
def own_LA (Z : State) (h : Heap) (a : Addr) (z : Int32) (f : Nat → Int64) : Prop := ∃ c : Cell, Arr Z h a c .long ∧ c.slots.size = z.toNatClampNeg ∧ ¬ z < 0 ∧ ∀ j, j < c.slots.size → c.slots[j]? = some (.long (f j))
section LA
variable {Z : State} {h h' : Heap} {a b : Addr} {z : Int32} {f g : Nat → Int64} {sl : Nat} {v : Value} {ws : List Addr}
theorem own_LA.lt (F : own_LA Z h a z f) : a < h.size := by obtain ⟨c, A, -⟩ := F; exact A.lt
theorem own_LA.ext (F : own_LA Z h a z f) (E : Ext h h') : own_LA Z h' a z f := by obtain ⟨c, A, r⟩ := F; exact ⟨c, A.ext E, r⟩
theorem own_LA.other (F : own_LA Z h b z f) (W : Wr h h' a sl v) (q : b ≠ a) : own_LA Z h' b z f := by obtain ⟨c, A, r⟩ := F; exact ⟨c, A.other W q, r⟩
theorem own_LA.set {k : Nat} {x : Int64} (F : own_LA Z h a z f) (W : Wr h h' a k (.long x)) : own_LA Z h' a z (own_up f k x) := by
  obtain ⟨c, A, S, q, H⟩ := F
  refine ⟨_, A.same W, (sz_set _ _ _).trans S, q, fun j hj => ?_⟩
  rw [sz_set] at hj
  by_cases e : j = k
  · subst e
    rw [own_up_same]
    simp [Cell.setSlot, hj]
  · rw [own_up_ne e]
    have := H j hj
    simp only [Cell.setSlot]
    rw [Array.getElem?_setIfInBounds_ne (Ne.symm e)]
    exact this
theorem own_LA.cong (F : own_LA Z h a z f) (q : ∀ j, j < z.toNatClampNeg → f j = g j) : own_LA Z h a z g := by
  obtain ⟨c, A, S, r, H⟩ := F
  exact ⟨c, A, S, r, fun j hj => by rw [← q j (S ▸ hj)]; exact H j hj⟩
theorem own_LA.new {k : ClassId} (A : Arr Z h a (newA k .long z) .long) (q : ¬ z < 0) : own_LA Z h a z (fun _ => 0) :=
  ⟨_, A, sz_new _ _ _, q, fun j hj => by
    rw [sz_new] at hj
    simp [newA, defaultValue, hj]⟩
theorem own_ne_ty {c c' : Cell} {t t' : FieldType} (A : Arr Z h a c t) (B : Arr Z h b c' t') (q : t ≠ t') : a ≠ b := fun e => by
  subst e
  cases A.1.symm.trans B.1
  obtain ⟨-, k, k1, comp, k2⟩ := A.2.1
  obtain ⟨-, k', k1', comp', k2'⟩ := B.2.1
  cases k1.symm.trans k1'
  rw [k2] at k2'
  cases k2'
  exact q rfl
end LA
def own_Ring (Z : State) (h : Heap) (n0 : Nat) (sh : Addr) (off : Nat) (g : Nat → Int64) (w : Value) (z : Int32) (F : Nat → Int64) : Prop :=
  (w = .null ∧ z = 2 ∧ ∀ j, j < 2 → F j = g (off + j)) ∨ (∃ b, w = .ref b ∧ own_LA Z h b z F ∧ n0 ≤ b ∧ b ≠ sh)
theorem own_Ring.isRef {Z : State} {h : Heap} {n0 : Nat} {sh : Addr} {off : Nat} {g : Nat → Int64} {w : Value} {z : Int32} {F : Nat → Int64} (R : own_Ring Z h n0 sh off g w z F) : w.isRef = true := by
  rcases R with ⟨rfl, -⟩ | ⟨b, rfl, -⟩ <;> rfl
abbrev own_C : String := "com/example/wache/wache/AttemptTimes"
def own_AT (Z : State) (h : Heap) (n0 : Nat) (a : Addr) (span : Int64) (cap : Int32) (sh ow hd sz : Addr) (ko kh ks : ClassId) (w : Nat → Value) (hh ss zz : Nat → Int32) (F : Nat → Nat → Int64) : Prop := ∃ g,
  Exa Z h a own_C ∧ Fld Z h a own_C "spanMillis" "J" (.long span) ∧ Fld Z h a own_C "capacity" "I" (.int cap) ∧ Fld Z h a own_C "shared" "[J" (.ref sh) ∧ Fld Z h a own_C "own" "[[J" (.ref ow) ∧ Fld Z h a own_C "heads" "[I" (.ref hd) ∧ Fld Z h a own_C "sizes" "[I" (.ref sz) ∧
  Arv Z h ow ko (.array .long) 2 [w 0, w 1] .null ∧ Arv Z h hd kh .int 2 [.int (hh 0), .int (hh 1)] (.int 0) ∧ Arv Z h sz ks .int 2 [.int (ss 0), .int (ss 1)] (.int 0) ∧ own_LA Z h sh 4 g ∧
  (∀ i, i < 2 → own_Ring Z h n0 sh (2 * i) g (w i) (zz i) (F i)) ∧ (∀ b, w 0 = .ref b → w 1 ≠ .ref b) ∧ OvrA Z ko .long "[J" ∧ n0 ≤ a ∧ n0 ≤ sh ∧ n0 ≤ ow ∧ n0 ≤ hd ∧ n0 ≤ sz ∧ hd ≠ sz ∧ (∃ (aa : Array Value) (kk : Nat), (Cond.instantiable own_C kk).before aa Z = true)
section AT
variable {Z : State} {h h' : Heap} {n0 : Nat} {a : Addr} {span : Int64} {cap : Int32} {sh ow hd sz : Addr} {ko kh ks : ClassId} {w : Nat → Value} {hh ss zz : Nat → Int32} {F : Nat → Nat → Int64} {iv x : Int32} {i : Nat}
theorem own_AT.exa (D : own_AT Z h n0 a span cap sh ow hd sz ko kh ks w hh ss zz F) : Exa Z h a own_C := by obtain ⟨g, d, -⟩ := D; exact d
theorem own_AT.fspan (D : own_AT Z h n0 a span cap sh ow hd sz ko kh ks w hh ss zz F) : Fld Z h a own_C "spanMillis" "J" (.long span) := by obtain ⟨g, -, d, -⟩ := D; exact d
theorem own_AT.fcap (D : own_AT Z h n0 a span cap sh ow hd sz ko kh ks w hh ss zz F) : Fld Z h a own_C "capacity" "I" (.int cap) := by obtain ⟨g, -, -, d, -⟩ := D; exact d
theorem own_AT.fsh (D : own_AT Z h n0 a span cap sh ow hd sz ko kh ks w hh ss zz F) : Fld Z h a own_C "shared" "[J" (.ref sh) := by obtain ⟨g, -, -, -, d, -⟩ := D; exact d
theorem own_AT.fow (D : own_AT Z h n0 a span cap sh ow hd sz ko kh ks w hh ss zz F) : Fld Z h a own_C "own" "[[J" (.ref ow) := by obtain ⟨g, -, -, -, -, d, -⟩ := D; exact d
theorem own_AT.fhd (D : own_AT Z h n0 a span cap sh ow hd sz ko kh ks w hh ss zz F) : Fld Z h a own_C "heads" "[I" (.ref hd) := by obtain ⟨g, -, -, -, -, -, d, -⟩ := D; exact d
theorem own_AT.fsz (D : own_AT Z h n0 a span cap sh ow hd sz ko kh ks w hh ss zz F) : Fld Z h a own_C "sizes" "[I" (.ref sz) := by obtain ⟨g, -, -, -, -, -, -, d, -⟩ := D; exact d
theorem own_AT.vow (D : own_AT Z h n0 a span cap sh ow hd sz ko kh ks w hh ss zz F) : Arv Z h ow ko (.array .long) 2 [w 0, w 1] .null := by obtain ⟨g, -, -, -, -, -, -, -, d, -⟩ := D; exact d
theorem own_AT.vhd (D : own_AT Z h n0 a span cap sh ow hd sz ko kh ks w hh ss zz F) : Arv Z h hd kh .int 2 [.int (hh 0), .int (hh 1)] (.int 0) := by obtain ⟨g, -, -, -, -, -, -, -, -, d, -⟩ := D; exact d
theorem own_AT.vsz (D : own_AT Z h n0 a span cap sh ow hd sz ko kh ks w hh ss zz F) : Arv Z h sz ks .int 2 [.int (ss 0), .int (ss 1)] (.int 0) := by obtain ⟨g, -, -, -, -, -, -, -, -, -, d, -⟩ := D; exact d
theorem own_AT.ring (D : own_AT Z h n0 a span cap sh ow hd sz ko kh ks w hh ss zz F) (hi : own_I iv i) : ∃ g, own_LA Z h sh 4 g ∧ own_Ring Z h n0 sh (2 * i) g (w i) (zz i) (F i) := by
  obtain ⟨g, -, -, -, -, -, -, -, -, -, -, L, R, -⟩ := D
  exact ⟨g, L, R i hi.lt⟩
theorem own_AT.ovr (D : own_AT Z h n0 a span cap sh ow hd sz ko kh ks w hh ss zz F) : OvrA Z ko .long "[J" := by obtain ⟨g, -, -, -, -, -, -, -, -, -, -, -, -, -, d, -⟩ := D; exact d
theorem own_AT.gs (D : own_AT Z h n0 a span cap sh ow hd sz ko kh ks w hh ss zz F) : n0 ≤ a ∧ n0 ≤ sh ∧ n0 ≤ ow ∧ n0 ≤ hd ∧ n0 ≤ sz := by obtain ⟨g, -, -, -, -, -, -, -, -, -, -, -, -, -, -, d1, d2, d3, d4, d5, -⟩ := D; exact ⟨d1, d2, d3, d4, d5⟩
theorem own_AT.szle (D : own_AT Z h n0 a span cap sh ow hd sz ko kh ks w hh ss zz F) : n0 ≤ h.size := Nat.le_trans D.gs.1 (Nat.le_of_lt D.exa.lt)
theorem own_AT.ext (D : own_AT Z h n0 a span cap sh ow hd sz ko kh ks w hh ss zz F) (E : Ext h h') : own_AT Z h' n0 a span cap sh ow hd sz ko kh ks w hh ss zz F := by
  obtain ⟨g, d1, d2, d3, d4, d5, d6, d7, d8, d9, d10, L, R, r⟩ := D
  refine ⟨g, d1.ext E, d2.ext E, d3.ext E, d4.ext E, d5.ext E, d6.ext E, d7.ext E, d8.ext E, d9.ext E, d10.ext E, L.ext E, fun i hi => ?_, r⟩
  rcases R i hi with q | ⟨b, q1, q2, q3⟩
  · exact Or.inl q
  · exact Or.inr ⟨b, q1, q2.ext E, q3⟩
theorem own_Ring.wr {off : Nat} {g G : Nat → Int64} {u : Value} {z : Int32} {y : Addr} {sl : Nat} {v : Value} (R : own_Ring Z h n0 sh off g u z G) (W : Wr h h' y sl v) (q : ∀ b, own_LA Z h b z G → u = .ref b → b ≠ y) : own_Ring Z h' n0 sh off g u z G := by
  rcases R with r | ⟨b, q1, q2, q3⟩
  · exact Or.inl r
  · exact Or.inr ⟨b, q1, q2.other W (q b q2 q1), q3⟩
/-- a write into an array of ints: heads or sizes -/
theorem own_AT.setH (D : own_AT Z h n0 a span cap sh ow hd sz ko kh ks w hh ss zz F) (hi : own_I iv i) (W : Wr h h' hd iv.toNatClampNeg (.int x)) : own_AT Z h' n0 a span cap sh ow hd sz ko kh ks w (own_up hh i x) ss zz F := by
  obtain ⟨g, d1, d2, d3, d4, d5, d6, d7, d8, d9, d10, L, R, r1, r2, r3, r4, r5, r6, r7, r8, aa, kk, wi⟩ := D
  obtain ⟨cl, A, kc, S, N, H, G⟩ := id d9
  obtain ⟨clo, Ao, -⟩ := id d8
  obtain ⟨cls, As, -⟩ := id d10
  obtain ⟨clh, Ah, -⟩ := id L
  have na : a ≠ hd := ne_arr d1 wi A
  have no : ow ≠ hd := own_ne_ty Ao A (by decide)
  have nh : sh ≠ hd := own_ne_ty Ah A (by decide)
  refine ⟨g, d1.wr W, d2.other W (Or.inl na), d3.other W (Or.inl na), d4.other W (Or.inl na), d5.other W (Or.inl na), d6.other W (Or.inl na), d7.other W (Or.inl na), d8.other W no, ?_, d10.other W r8.symm, L.other W nh, fun k hk => (R k hk).wr W fun b q1 _ => ?_, r1, r2, r3, r4, r5, r6, r7, r8, aa, kk, wi⟩
  · rcases hi with ⟨rfl, rfl⟩ | ⟨rfl, rfl⟩
    · exact Arv.set A kc S N H G rfl W 0 (by decide) (Nat.le_of_ble_eq_true rfl)
    · exact Arv.set A kc S N H G rfl W 1 (by decide) (Nat.le_of_ble_eq_true rfl)
  · obtain ⟨cb, B, -⟩ := q1
    exact own_ne_ty B A (by decide)
theorem own_AT.setS (D : own_AT Z h n0 a span cap sh ow hd sz ko kh ks w hh ss zz F) (hi : own_I iv i) (W : Wr h h' sz iv.toNatClampNeg (.int x)) : own_AT Z h' n0 a span cap sh ow hd sz ko kh ks w hh (own_up ss i x) zz F := by
  obtain ⟨g, d1, d2, d3, d4, d5, d6, d7, d8, d9, d10, L, R, r1, r2, r3, r4, r5, r6, r7, r8, aa, kk, wi⟩ := D
  obtain ⟨cl, A, kc, S, N, H, G⟩ := id d10
  obtain ⟨clo, Ao, -⟩ := id d8
  obtain ⟨cls, As, -⟩ := id d9
  obtain ⟨clh, Ah, -⟩ := id L
  have na : a ≠ sz := ne_arr d1 wi A
  have no : ow ≠ sz := own_ne_ty Ao A (by decide)
  have nh : sh ≠ sz := own_ne_ty Ah A (by decide)
  refine ⟨g, d1.wr W, d2.other W (Or.inl na), d3.other W (Or.inl na), d4.other W (Or.inl na), d5.other W (Or.inl na), d6.other W (Or.inl na), d7.other W (Or.inl na), d8.other W no, d9.other W r8, ?_, L.other W nh, fun k hk => (R k hk).wr W fun b q1 _ => ?_, r1, r2, r3, r4, r5, r6, r7, r8, aa, kk, wi⟩
  · rcases hi with ⟨rfl, rfl⟩ | ⟨rfl, rfl⟩
    · exact Arv.set A kc S N H G rfl W 0 (by decide) (Nat.le_of_ble_eq_true rfl)
    · exact Arv.set A kc S N H G rfl W 1 (by decide) (Nat.le_of_ble_eq_true rfl)
  · obtain ⟨cb, B, -⟩ := q1
    exact own_ne_ty B A (by decide)
/-- a write into the shared array, at ring i's half -/
theorem own_AT.setG {j m : Nat} {y : Int64} (D : own_AT Z h n0 a span cap sh ow hd sz ko kh ks w hh ss zz F) (hi : own_I iv i) (hw : w i = .null) (hj : j < 2) (hm : m = 2 * i + j) (W : Wr h h' sh m (.long y)) : own_AT Z h' n0 a span cap sh ow hd sz ko kh ks w hh ss zz (own_up F i (own_up (F i) j y)) := by
  subst hm
  obtain ⟨g, d1, d2, d3, d4, d5, d6, d7, d8, d9, d10, L, R, r1, r2, r3, r4, r5, r6, r7, r8, aa, kk, wi⟩ := D
  obtain ⟨clh, A, -⟩ := id L
  obtain ⟨clo, Ao, -⟩ := id d8
  obtain ⟨cld, Ad, -⟩ := id d9
  obtain ⟨cls, As, -⟩ := id d10
  have na : a ≠ sh := ne_arr d1 wi A
  have no : ow ≠ sh := own_ne_ty Ao A (by decide)
  have nd : hd ≠ sh := own_ne_ty Ad A (by decide)
  have ns : sz ≠ sh := own_ne_ty As A (by decide)
  refine ⟨own_up g (2 * i + j) y, d1.wr W, d2.other W (Or.inl na), d3.other W (Or.inl na), d4.other W (Or.inl na), d5.other W (Or.inl na), d6.other W (Or.inl na), d7.other W (Or.inl na), d8.other W no, d9.other W nd, d10.other W ns, L.set W, fun k hk => ?_, r1, r2, r3, r4, r5, r6, r7, r8, aa, kk, wi⟩
  by_cases e : k = i
  · subst e
    rw [own_up_same]
    rcases R k hk with ⟨q1, q2, q3⟩ | ⟨b, q1, -⟩
    · refine Or.inl ⟨q1, q2, fun t ht => ?_⟩
      by_cases e : t = j
      · subst e; rw [own_up_same, own_up_same]
      · rw [own_up_ne e, own_up_ne (by omega)]; exact q3 t ht
    · rw [hw] at q1; cases q1
  · rw [own_up_ne e]
    rcases R k hk with ⟨q1, q2, q3⟩ | ⟨b, q1, q2, q3, q4⟩
    · refine Or.inl ⟨q1, q2, fun t ht => ?_⟩
      have := hi.lt
      rw [own_up_ne (by omega)]; exact q3 t ht
    · exact Or.inr ⟨b, q1, q2.other W q4, q3, q4⟩
/-- a write into ring i's own array -/
theorem own_AT.setB {j : Nat} {y : Int64} {b : Addr} (D : own_AT Z h n0 a span cap sh ow hd sz ko kh ks w hh ss zz F) (hi : own_I iv i) (hw : w i = .ref b) (W : Wr h h' b j (.long y)) : own_AT Z h' n0 a span cap sh ow hd sz ko kh ks w hh ss zz (own_up F i (own_up (F i) j y)) := by
  obtain ⟨g, d1, d2, d3, d4, d5, d6, d7, d8, d9, d10, L, R, r1, r2, r3, r4, r5, r6, r7, r8, aa, kk, wi⟩ := D
  rcases R i hi.lt with ⟨q1, -⟩ | ⟨b', q1, LB, q3, q4⟩
  · rw [hw] at q1; cases q1
  rw [hw] at q1
  cases q1
  obtain ⟨clb, A, -⟩ := id LB
  obtain ⟨clo, Ao, -⟩ := id d8
  obtain ⟨cld, Ad, -⟩ := id d9
  obtain ⟨cls, As, -⟩ := id d10
  have na : a ≠ b := ne_arr d1 wi A
  have no : ow ≠ b := own_ne_ty Ao A (by decide)
  have nd : hd ≠ b := own_ne_ty Ad A (by decide)
  have ns : sz ≠ b := own_ne_ty As A (by decide)
  refine ⟨g, d1.wr W, d2.other W (Or.inl na), d3.other W (Or.inl na), d4.other W (Or.inl na), d5.other W (Or.inl na), d6.other W (Or.inl na), d7.other W (Or.inl na), d8.other W no, d9.other W nd, d10.other W ns, L.other W q4.symm, fun k hk => ?_, r1, r2, r3, r4, r5, r6, r7, r8, aa, kk, wi⟩
  by_cases e : k = i
  · subst e
    rw [own_up_same]
    exact Or.inr ⟨b, hw, LB.set W, q3, q4⟩
  · rw [own_up_ne e]
    refine (R k hk).wr W fun b2 _ q2 e2 => ?_
    subst e2
    have hil := hi.lt
    have : (k = 0 ∧ i = 1) ∨ (k = 1 ∧ i = 0) := by omega
    rcases this with ⟨rfl, rfl⟩ | ⟨rfl, rfl⟩
    · exact r1 _ q2 hw
    · exact r1 _ hw q2
/-- a store into the array of arrays: ring i gets an array of its own -/
theorem own_AT.setO {b : Addr} {z : Int32} {G : Nat → Int64} (D : own_AT Z h n0 a span cap sh ow hd sz ko kh ks w hh ss zz F) (hi : own_I iv i) (LB : own_LA Z h b z G) (gb : n0 ≤ b) (nb : b ≠ sh) (nn : ∀ k, k < 2 → w k ≠ .ref b) (W : Wr h h' ow iv.toNatClampNeg (.ref b)) : own_AT Z h' n0 a span cap sh ow hd sz ko kh ks (own_up w i (.ref b)) hh ss (own_up zz i z) (own_up F i G) := by
  obtain ⟨g, d1, d2, d3, d4, d5, d6, d7, d8, d9, d10, L, R, r1, r2, r3, r4, r5, r6, r7, r8, aa, kk, wi⟩ := D
  obtain ⟨cl, A, kc, S, N, H, GG⟩ := id d8
  obtain ⟨clh, Ah, -⟩ := id L
  obtain ⟨cld, Ad, -⟩ := id d9
  obtain ⟨cls, As, -⟩ := id d10
  obtain ⟨clb, Ab, -⟩ := id LB
  have na : a ≠ ow := ne_arr d1 wi A
  have nh : sh ≠ ow := own_ne_ty Ah A (by decide)
  have nd : hd ≠ ow := own_ne_ty Ad A (by decide)
  have ns : sz ≠ ow := own_ne_ty As A (by decide)
  have nbo : b ≠ ow := own_ne_ty Ab A (by decide)
  refine ⟨g, d1.wr W, d2.other W (Or.inl na), d3.other W (Or.inl na), d4.other W (Or.inl na), d5.other W (Or.inl na), d6.other W (Or.inl na), d7.other W (Or.inl na), ?_, d9.other W nd, d10.other W ns, L.other W nh, fun k hk => ?_, ?_, r2, r3, r4, r5, r6, r7, r8, aa, kk, wi⟩
  · rcases hi with ⟨rfl, rfl⟩ | ⟨rfl, rfl⟩
    · exact Arv.set A kc S N H GG rfl W 0 (by decide) (Nat.le_of_ble_eq_true rfl)
    · exact Arv.set A kc S N H GG rfl W 1 (by decide) (Nat.le_of_ble_eq_true rfl)
  · by_cases e : k = i
    · subst e
      rw [own_up_same, own_up_same, own_up_same]
      exact Or.inr ⟨b, rfl, LB.other W nbo, gb, nb⟩
    · rw [own_up_ne e, own_up_ne e, own_up_ne e]
      refine (R k hk).wr W fun b2 q1 _ => ?_
      obtain ⟨cb, B, -⟩ := q1
      exact own_ne_ty B A (by decide)
  · intro b2 e1 e2
    rcases hi with ⟨rfl, rfl⟩ | ⟨rfl, rfl⟩
    · rw [own_up_same] at e1
      rw [own_up_ne (by decide)] at e2
      cases e1
      exact nn 1 (by decide) e2
    · rw [own_up_same] at e2
      rw [own_up_ne (by decide)] at e1
      cases e2
      exact nn 0 (by decide) e1
/-- a store of null there -/
theorem own_AT.clr (D : own_AT Z h n0 a span cap sh ow hd sz ko kh ks w hh ss zz F) (hi : own_I iv i) (W : Wr h h' ow iv.toNatClampNeg .null) : ∃ G, own_AT Z h' n0 a span cap sh ow hd sz ko kh ks (own_up w i .null) hh ss (own_up zz i 2) (own_up F i G) := by
  obtain ⟨g, d1, d2, d3, d4, d5, d6, d7, d8, d9, d10, L, R, r1, r2, r3, r4, r5, r6, r7, r8, aa, kk, wi⟩ := D
  obtain ⟨cl, A, kc, S, N, H, GG⟩ := id d8
  obtain ⟨clh, Ah, -⟩ := id L
  obtain ⟨cld, Ad, -⟩ := id d9
  obtain ⟨cls, As, -⟩ := id d10
  have na : a ≠ ow := ne_arr d1 wi A
  have nh : sh ≠ ow := own_ne_ty Ah A (by decide)
  have nd : hd ≠ ow := own_ne_ty Ad A (by decide)
  have ns : sz ≠ ow := own_ne_ty As A (by decide)
  refine ⟨fun j => g (2 * i + j), g, d1.wr W, d2.other W (Or.inl na), d3.other W (Or.inl na), d4.other W (Or.inl na), d5.other W (Or.inl na), d6.other W (Or.inl na), d7.other W (Or.inl na), ?_, d9.other W nd, d10.other W ns, L.other W nh, fun k hk => ?_, ?_, r2, r3, r4, r5, r6, r7, r8, aa, kk, wi⟩
  · rcases hi with ⟨rfl, rfl⟩ | ⟨rfl, rfl⟩
    · exact Arv.set A kc S N H GG rfl W 0 (by decide) (Nat.le_of_ble_eq_true rfl)
    · exact Arv.set A kc S N H GG rfl W 1 (by decide) (Nat.le_of_ble_eq_true rfl)
  · by_cases e : k = i
    · subst e
      rw [own_up_same, own_up_same, own_up_same]
      exact Or.inl ⟨rfl, rfl, fun _ _ => rfl⟩
    · rw [own_up_ne e, own_up_ne e, own_up_ne e]
      refine (R k hk).wr W fun b2 q1 _ => ?_
      obtain ⟨cb, B, -⟩ := q1
      exact own_ne_ty B A (by decide)
  · intro b2 e1 e2
    rcases hi with ⟨rfl, rfl⟩ | ⟨rfl, rfl⟩
    · rw [own_up_same] at e1; cases e1
    · rw [own_up_same] at e2; cases e2
end AT
theorem own_selP {Z : State} {a0 : Array Value} {y : MethodName} {n : Nat} (w1 : (Cond.instanceMethod y).before a0 Z = true) (w2 : (Cond.privateMethod y).before a0 Z = true) (wi : (Cond.instantiable y.cls n).before a0 Z = true) (hy : y.cls ≠ "java/lang/invoke/MethodHandle" ∧ y.cls ≠ "java/lang/invoke/VarHandle") : (Cond.selects y.cls y y).before a0 Z = true := by
  obtain ⟨mk, meth, hn, hm, -, -⟩ := Cond.instanceMethod_spec w1
  have hp := Cond.privateMethod_at w2 mk meth hn hm
  obtain ⟨c, k, h1, h2, h3, h4, -⟩ := Cond.instantiable_spec wi
  have hf := State.methodFound?_of_named hn hy
  have hc : mk.cls = c := Option.some.inj ((findClass_of_methodNamed hn).symm.trans h1)
  rw [Bool.or_eq_false_iff] at h4
  simp [Cond.before, Cond.holds, Cond.value, h1, hf, hn, selectMethod, hm, hp, hc, h2, h4.1]
theorem own_AT.oth {Z : State} {h h' : Heap} {n0 : Nat} {a : Addr} {span : Int64} {cap : Int32} {sh ow hd sz : Addr} {ko kh ks : ClassId} {w : Nat → Value} {hh ss zz : Nat → Int32} {F : Nat → Nat → Int64} {y : Addr} {z : Int32} {G : Nat → Int64} {sl : Nat} {v : Value}
    (D : own_AT Z h n0 a span cap sh ow hd sz ko kh ks w hh ss zz F) (LB : own_LA Z h y z G) (ny : y ≠ sh) (nn : ∀ k, k < 2 → w k ≠ .ref y) (W : Wr h h' y sl v) : own_AT Z h' n0 a span cap sh ow hd sz ko kh ks w hh ss zz F := by
  obtain ⟨g, d1, d2, d3, d4, d5, d6, d7, d8, d9, d10, L, R, r1, r2, r3, r4, r5, r6, r7, r8, aa, kk, wi⟩ := D
  obtain ⟨clb, A, -⟩ := id LB
  obtain ⟨clo, Ao, -⟩ := id d8
  obtain ⟨cld, Ad, -⟩ := id d9
  obtain ⟨cls, As, -⟩ := id d10
  have na : a ≠ y := ne_arr d1 wi A
  have no : ow ≠ y := own_ne_ty Ao A (by decide)
  have nd : hd ≠ y := own_ne_ty Ad A (by decide)
  have ns : sz ≠ y := own_ne_ty As A (by decide)
  exact ⟨g, d1.wr W, d2.other W (Or.inl na), d3.other W (Or.inl na), d4.other W (Or.inl na), d5.other W (Or.inl na), d6.other W (Or.inl na), d7.other W (Or.inl na), d8.other W no, d9.other W nd, d10.other W ns, L.other W ny.symm, fun k hk => (R k hk).wr W fun b _ q e => nn k hk (e ▸ q), r1, r2, r3, r4, r5, r6, r7, r8, aa, kk, wi⟩
theorem own_AT.fresh {Z : State} {h : Heap} {n0 : Nat} {a : Addr} {span : Int64} {cap : Int32} {sh ow hd sz : Addr} {ko kh ks : ClassId} {w : Nat → Value} {hh ss zz : Nat → Int32} {F : Nat → Nat → Int64} {y : Addr}
    (D : own_AT Z h n0 a span cap sh ow hd sz ko kh ks w hh ss zz F) (q : h.size ≤ y) : y ≠ sh ∧ ∀ k, k < 2 → w k ≠ .ref y := by
  obtain ⟨g, d1, d2, d3, d4, d5, d6, d7, d8, d9, d10, L, R, r⟩ := D
  refine ⟨(Nat.ne_of_lt (Nat.lt_of_lt_of_le L.lt q)).symm, fun k hk e => ?_⟩
  rcases R k hk with ⟨e1, -⟩ | ⟨b, e1, LB, -⟩
  · rw [e] at e1; cases e1
  · rw [e] at e1
    cases e1
    exact absurd LB.lt (Nat.not_lt.mpr q)
def own_idx (h k z : Int32) : Int32 := if h + k < z then h + k else h + k - z
def own_minJ (p q : Int64) : Int64 := if q < p then q else p
def own_WF (cap h s z : Int32) : Prop := 0 ≤ h.toInt ∧ h.toInt < z.toInt ∧ 2 ≤ z.toInt ∧ z.toInt ≤ cap.toInt ∧ 0 ≤ s.toInt ∧ s.toInt ≤ z.toInt ∧ cap.toInt ≤ 5
theorem own_one : (1 : Int32).toInt = 1 := by decide
theorem own_WF.idx {cap h s z k : Int32} (W : own_WF cap h s z) (k0 : 0 ≤ k.toInt) (k1 : k.toInt < z.toInt) : ¬ own_idx h k z < 0 ∧ own_idx h k z < z := by
  obtain ⟨a1, a2, a3, a4, a5, a6, a7⟩ := W
  have e : (h + k).toInt = h.toInt + k.toInt := XT.add32 ⟨by omega, by omega⟩
  unfold own_idx
  split
  · rename_i q
    rw [Int32.lt_iff_toInt_lt, e] at q
    rw [XT.negI32, Int32.lt_iff_toInt_lt, e]
    omega
  · rename_i q
    rw [Int32.lt_iff_toInt_lt, e] at q
    have e2 : (h + k - z).toInt = h.toInt + k.toInt - z.toInt := by rw [XT.sub32 ⟨by rw [e]; omega, by rw [e]; omega⟩, e]
    rw [XT.negI32, Int32.lt_iff_toInt_lt, e2]
    omega
theorem own_sub1 {s : Int32} (h : 1 ≤ s.toInt) : (s - (1 : Int32)).toInt = s.toInt - 1 := by
  have b := Int32.toInt_lt s
  rw [XT.sub32 ⟨by rw [own_one]; omega, by rw [own_one]; omega⟩, own_one]
theorem own_WF.last {cap h s z : Int32} (W : own_WF cap h s z) (h1 : 1 ≤ s.toInt) : ¬ own_idx h (s - (1 : Int32)) z < 0 ∧ own_idx h (s - (1 : Int32)) z < z := by
  have e := own_sub1 h1
  have W' := W
  obtain ⟨a1, a2, a3, a4, a5, a6, a7⟩ := W'
  exact W.idx (by omega) (by omega)
theorem own_WF.drop {cap h s z : Int32} (W : own_WF cap h s z) (h1 : 1 ≤ s.toInt) : own_WF cap ((h + (1 : Int32)) % z) (s - (1 : Int32)) z := by
  obtain ⟨a1, a2, a3, a4, a5, a6, a7⟩ := W
  have e := own_sub1 h1
  have e1 : (h + (1 : Int32)).toInt = h.toInt + 1 := by rw [XT.add32 ⟨by rw [own_one]; omega, by rw [own_one]; omega⟩, own_one]
  have t1 : 0 ≤ ((h + (1 : Int32)) % z).toInt := by rw [Int32.toInt_mod]; exact Int.tmod_nonneg _ (by omega)
  have t2 : ((h + (1 : Int32)) % z).toInt < z.toInt := by rw [Int32.toInt_mod]; exact Int.tmod_lt_of_pos _ (by omega)
  exact ⟨t1, t2, a3, a4, by omega, by omega, a7⟩
theorem own_WF.up {cap h s z : Int32} (W : own_WF cap h s z) (q : s.toInt < z.toInt) : own_WF cap h (s + (1 : Int32)) z ∧ 1 ≤ (s + (1 : Int32)).toInt := by
  obtain ⟨a1, a2, a3, a4, a5, a6, a7⟩ := W
  have e1 : (s + (1 : Int32)).toInt = s.toInt + 1 := by rw [XT.add32 ⟨by rw [own_one]; omega, by rw [own_one]; omega⟩, own_one]
  exact ⟨⟨a1, a2, a3, a4, by omega, by omega, a7⟩, by omega⟩
theorem own_WF.nz {cap h s z : Int32} (W : own_WF cap h s z) : z ≠ 0 := fun e => by
  obtain ⟨a1, a2, a3, -⟩ := W
  rw [e] at a3
  exact absurd a3 (by decide)
theorem own_sh {iv x z : Int32} {i : Nat} (hi : own_I iv i) (hx : ¬ x < 0 ∧ x < z) (hz : z = 2) : (¬ ((iv * (2 : Int32)) + x) < 0 ∧ ((iv * (2 : Int32)) + x) < 4) ∧ ((iv * (2 : Int32)) + x).toNatClampNeg = 2 * i + x.toNatClampNeg ∧ x.toNatClampNeg < 2 := by
  subst hz
  rw [XT.negI32, Int32.lt_iff_toInt_lt] at hx
  have e : (2 : Int32).toInt = 2 := by decide
  have : x.toInt = 0 ∨ x.toInt = 1 := by omega
  have : x = 0 ∨ x = 1 := this.imp (fun q => Int32.toInt_inj.mp (by rw [q]; decide)) (fun q => Int32.toInt_inj.mp (by rw [q]; decide))
  rcases hi with ⟨rfl, rfl⟩ | ⟨rfl, rfl⟩ <;> rcases this with rfl | rfl <;> decide
theorem own_jin {j z : Int32} (h0 : 0 ≤ j.toInt) (h1 : j.toInt < z.toInt) : ¬ j < 0 ∧ j < z := by
  rw [XT.negI32, Int32.lt_iff_toInt_lt]
  omega
theorem own_growz {cap h s z : Int32} (W : own_WF cap h s z) (hs : s = z) (hc : ¬ s = cap) : ∃ z2, ((own_minJ (cap.toInt64) ((2 : Int64) * (z.toInt64))).toInt32) = z2 ∧ z.toInt < z2.toInt ∧ z2.toInt ≤ cap.toInt := by
  obtain ⟨a1, a2, a3, a4, a5, a6, a7⟩ := W
  have hne : z.toInt ≠ cap.toInt := fun q => hc (hs.trans (Int32.toInt_inj.mp q))
  have e2 : (2 : Int64).toInt = 2 := by decide
  have em : ((2 : Int64) * (z.toInt64)).toInt = 2 * z.toInt := by rw [XT.mul64 ⟨by rw [e2, Int32.toInt_toInt64]; omega, by rw [e2, Int32.toInt_toInt64]; omega⟩, e2, Int32.toInt_toInt64]
  refine ⟨_, rfl, ?_⟩
  unfold own_minJ
  split
  · rename_i q
    rw [Int64.lt_iff_toInt_lt, em, Int32.toInt_toInt64] at q
    rw [XT.narrowInt ⟨by rw [em]; omega, by rw [em]; omega⟩, em]
    omega
  · rename_i q
    rw [Int64.lt_iff_toInt_lt, em, Int32.toInt_toInt64] at q
    rw [XT.narrowInt ⟨by rw [Int32.toInt_toInt64]; omega, by rw [Int32.toInt_toInt64]; omega⟩, Int32.toInt_toInt64]
    omega
theorem own_small {z : Int32} {n : Nat} (h0 : 0 ≤ z.toInt) (h1 : z.toInt ≤ n) : ¬ z < 0 ∧ z.toNatClampNeg ≤ n := by
  have q : ¬ z < 0 := by rw [XT.negI32]; omega
  have := nat_of q
  exact ⟨q, by omega⟩
theorem own_lit3 {s : Int32} (h0 : 2 ≤ s.toInt) (h1 : s.toInt ≤ 4) : s = 2 ∨ s = 3 ∨ s = 4 := by
  have : s.toInt = 2 ∨ s.toInt = 3 ∨ s.toInt = 4 := by omega
  exact this.imp (fun q => Int32.toInt_inj.mp (by rw [q]; decide)) (fun r => r.imp (fun q => Int32.toInt_inj.mp (by rw [q]; decide)) (fun q => Int32.toInt_inj.mp (by rw [q]; decide)))
theorem own_cap (c : Int32) : 2 ≤ ((2 : Int32) + (c &&& (3 : Int32))).toInt ∧ ((2 : Int32) + (c &&& (3 : Int32))).toInt ≤ 5 := by
  have h : (c &&& (3 : Int32)).toInt = c.toInt % 2 ^ 2 := Jvm.Kit.i32_mask c 3 (k := 2) (by decide) (by decide)
  have e : (2 : Int32).toInt = 2 := by decide
  rw [XT.add32 ⟨by omega, by omega⟩]
  omega
def own_minI (p q : Int32) : Int32 := if q < p then q else p
def own_fa1 (lim e0 : Int64) : Int32 := if lim < e0 then 0 else 1
def own_fa2 (lim e0 e1 : Int64) : Int32 := if lim < e1 then (if lim < e0 then 0 else 1) else 2
theorem own_WF.ncap {cap h s z k : Int32} (W : own_WF cap h s z) (hk : k.toInt < 2) : ¬ k = cap ∧ ¬ k = z := by
  obtain ⟨a1, a2, a3, a4, a5, a6, a7⟩ := W
  exact ⟨fun q => by rw [q] at hk; omega, fun q => by rw [q] at hk; omega⟩
theorem own_msk (x : Int64) : 0 ≤ (x &&& (4611686018427387903 : Int64)).toInt ∧ (x &&& (4611686018427387903 : Int64)).toInt < 4611686018427387904 := by
  have hb : (x &&& (4611686018427387903 : Int64)).toBitVec.toNat = x.toBitVec.toNat % 4611686018427387904 := by
    rw [Int64.toBitVec_and, BitVec.toNat_and]
    have e : (4611686018427387903 : Int64).toBitVec.toNat = 2 ^ 62 - 1 := by decide
    rw [e, Nat.and_two_pow_sub_one_eq_mod]
  have hlt : (x &&& (4611686018427387903 : Int64)).toBitVec.toNat < 4611686018427387904 := by rw [hb]; exact Nat.mod_lt _ (by decide)
  rw [← Int64.toInt_toBitVec, BitVec.toInt_eq_toNat_bmod]
  simp only [Int.bmod]
  split <;> omega
theorem own_i2l (x m : Int32) (n : Nat) (h0 : 0 ≤ (x &&& m).toInt) (h1 : (x &&& m).toInt ≤ n) : 0 ≤ ((x &&& m).toInt64).toInt ∧ ((x &&& m).toInt64).toInt ≤ n := by
  rw [Int32.toInt_toInt64]; exact ⟨h0, h1⟩
theorem own_nums (p2 : Int64) (p3 p5 p6 : Int32) {sp tt dd t2 ww : Int64} (h1 : ((1 : Int64) + (((XT.ushr p3 (6 : Int32)) &&& (511 : Int32)).toInt64)) = sp) (h2 : (p2 &&& (4611686018427387903 : Int64)) = tt) (h3 : ((p5 &&& (1023 : Int32)).toInt64) = dd) (h4 : (tt + dd) = t2) (h5 : ((p6 &&& (2047 : Int32)).toInt64) = ww) :
    ((t2 - sp) < tt ↔ dd < sp) ∧ ((t2 - ww) < tt ↔ dd < ww) ∧ (dd < ww → (t2 - ww) < t2) := by
  have m1 : ((XT.ushr p3 (6 : Int32)) &&& (511 : Int32)).toInt = (XT.ushr p3 (6 : Int32)).toInt % 2 ^ 9 := Jvm.Kit.i32_mask _ 511 (k := 9) (by decide) (by decide)
  have m2 : (p5 &&& (1023 : Int32)).toInt = p5.toInt % 2 ^ 10 := Jvm.Kit.i32_mask _ 1023 (k := 10) (by decide) (by decide)
  have m3 : (p6 &&& (2047 : Int32)).toInt = p6.toInt % 2 ^ 11 := Jvm.Kit.i32_mask _ 2047 (k := 11) (by decide) (by decide)
  have e1 : (1 : Int64).toInt = 1 := by decide
  have t := own_msk p2
  rw [h2] at t
  have d : dd.toInt = p5.toInt % 2 ^ 10 := by rw [← h3, Int32.toInt_toInt64, m2]
  have w : ww.toInt = p6.toInt % 2 ^ 11 := by rw [← h5, Int32.toInt_toInt64, m3]
  have s : sp.toInt = 1 + (XT.ushr p3 (6 : Int32)).toInt % 2 ^ 9 := by
    rw [← h1, XT.add64 ⟨by rw [e1, Int32.toInt_toInt64, m1]; omega, by rw [e1, Int32.toInt_toInt64, m1]; omega⟩, e1, Int32.toInt_toInt64, m1]
  have a : t2.toInt = tt.toInt + dd.toInt := by rw [← h4, XT.add64 ⟨by omega, by omega⟩]
  have b1 : (t2 - sp).toInt = t2.toInt - sp.toInt := XT.sub64 ⟨by omega, by omega⟩
  have b2 : (t2 - ww).toInt = t2.toInt - ww.toInt := XT.sub64 ⟨by omega, by omega⟩
  simp only [Int64.lt_iff_toInt_lt, b1, b2]
  omega
theorem own_cnt2 {lim tt t2 : Int64} (h : lim < tt) (h' : lim < t2) : (((2 : Int32) - (own_minI (own_fa2 lim tt t2) (1 : Int32))).toInt64) = 2 := by
  unfold own_fa2; rw [if_pos h', if_pos h]; decide
theorem own_cnt2n {lim tt t2 : Int64} (h : ¬ lim < tt) : (((2 : Int32) - (own_minI (own_fa2 lim tt t2) (1 : Int32))).toInt64) = 1 := by
  unfold own_fa2; rw [if_neg h]; split <;> decide
theorem own_cnt1 {lim t2 : Int64} : (((1 : Int32) - (own_minI (own_fa1 lim t2) (0 : Int32))).toInt64) = 1 := by
  unfold own_fa1; split <;> decide
theorem own_capm (x : Int32) {cp : Int32} (h : ((2 : Int32) + ((XT.ushr x (1 : Int32)) &&& (3 : Int32))) = cp) : 2 ≤ cp.toInt ∧ cp.toInt ≤ 5 := by rw [← h]; exact own_cap _
theorem own_so (x : Int32) {sI oI : Int32} (h1 : (x &&& (1 : Int32)) = sI) (h2 : ((1 : Int32) - sI) = oI) : ∃ i j, own_I sI i ∧ own_I oI j ∧ i ≠ j ∧ j ≠ i := by
  rcases and_one x with q | q
  · exact ⟨0, 1, Or.inl ⟨h1.symm.trans q, rfl⟩, Or.inr ⟨by rw [← h2, ← h1, q]; decide, rfl⟩, by decide, by decide⟩
  · exact ⟨1, 0, Or.inr ⟨h1.symm.trans q, rfl⟩, Or.inl ⟨by rw [← h2, ← h1, q]; decide, rfl⟩, by decide, by decide⟩
theorem own_d_prog_3_method_13_code_0 : decode prog_3_method_13_code 0 = .ok (.aload_n 0, 1) := by decide +kernel
theorem own_d_prog_3_method_13_code_1 : decode prog_3_method_13_code 1 = .ok (.getfield 22, 3) := by decide +kernel
theorem own_d_prog_3_method_13_code_4 : decode prog_3_method_13_code 4 = .ok (.iload_n 1, 1) := by decide +kernel
theorem own_d_prog_3_method_13_code_5 : decode prog_3_method_13_code 5 = .ok (.aaload, 1) := by decide +kernel
theorem own_d_prog_3_method_13_code_6 : decode prog_3_method_13_code 6 = .ok (.astore_n 2, 1) := by decide +kernel
theorem own_d_prog_3_method_13_code_7 : decode prog_3_method_13_code 7 = .ok (.aload_n 2, 1) := by decide +kernel
theorem own_d_prog_3_method_13_code_8 : decode prog_3_method_13_code 8 = .ok (.ifnonnull 7, 3) := by decide +kernel
theorem own_d_prog_3_method_13_code_11 : decode prog_3_method_13_code 11 = .ok (.iconst 2, 1) := by decide +kernel
theorem own_d_prog_3_method_13_code_12 : decode prog_3_method_13_code 12 = .ok (.goto 5, 3) := by decide +kernel
theorem own_d_prog_3_method_13_code_15 : decode prog_3_method_13_code 15 = .ok (.aload_n 2, 1) := by decide +kernel
theorem own_d_prog_3_method_13_code_16 : decode prog_3_method_13_code 16 = .ok (.arraylength, 1) := by decide +kernel
theorem own_d_prog_3_method_13_code_17 : decode prog_3_method_13_code 17 = .ok (.ireturn, 1) := by decide +kernel
theorem own_pn0 : plainFor (⟨"com/example/wache/wache/AttemptTimes", "length", "(I)I"⟩ : MethodName) = true := by decide +kernel
def own_rm_length_Q (Z : State) (iv : Int32) (i : Nat) (a : Addr) (span : Int64) (cap : Int32) (sh : Addr) (ow : Addr) (hd : Addr) (sz : Addr) (ko : ClassId) (kh : ClassId) (ks : ClassId) (fw : Nat → Value) (fh : Nat → Int32) (fs : Nat → Int32) (fz : Nat → Int32) (fF : Nat → Nat → Int64) (h0 : Heap) (n0 : Nat) (v : Option Value) (h : Heap) (L : List Loc) : Prop := Fr n0 L ∧ v = some (.int (fz i)) ∧ h = h0
theorem own_rm_length_ef (m : MethodId) (a : Addr) (iv : Int32)  : entryFrame m #[(.ref a), (.int iv)] 3 = mkF m 0 #[.val (.ref a), .val (.int iv), .unset] [] := by first | (simp [entryFrame, mkF, argsToLocals, Value.category]; done) | rfl
set_option maxRecDepth 65536 in
set_option maxHeartbeats 40000000 in
theorem own_rm_length (l : Launch) (Z : State) (a0 : Array Value) (hw : ∀ d ∈ tables_1, d.before a0 Z = true) (ws : List Jvm.Cond) (iv : Int32) (i : Nat) (a : Addr) (span : Int64) (cap : Int32) (sh : Addr) (ow : Addr) (hd : Addr) (sz : Addr) (ko : ClassId) (kh : ClassId) (ks : ClassId) (fw : Nat → Value) (fh : Nat → Int32) (fs : Nat → Int32) (fz : Nat → Int32) (fF : Nat → Nat → Int64) (h0 : Heap) (n0 : Nat) (Z0 : n0 ≤ h0.size) (D : own_AT Z h0 n0 a span cap sh ow hd sz ko kh ks fw fh fs fz fF) (hi : own_I iv i) :
    MetFree l (⟨"com/example/wache/wache/AttemptTimes", "length", "(I)I"⟩ : MethodName) (head1 (Jvm.Cond.code (⟨"com/example/wache/wache/AttemptTimes", "length", "(I)I"⟩ : MethodName) prog_3_method_13_code 3 (some .int) :: ws) ({ frames := 0, cells := 0, slots := 0, locals := 0 } : Room)) (fun aQ UQ => aQ = #[(.ref a), (.int iv)] ∧ Z.Warmed39 UQ.vm ∧ UQ.heap = h0) (fun _ _ _ _ _ => True) (fun _ UQ oQ U2 => ∃ vQ LQ, oQ = .returned vQ ∧ own_rm_length_Q Z iv i a span cap sh ow hd sz ko kh ks fw fh fs fz fF h0 n0 vQ U2.heap LQ ∧ FrameEnd UQ oQ U2 LQ ({ frames := 0, cells := 0, slots := 0, locals := 0 } : Room).cells ({ frames := 0, cells := 0, slots := 0, locals := 0 } : Room).slots) := by
  refine MetFree.of_bodySF own_pn0 hisR ?_
  intro p e s m args below meth c s₁ Bd hml0 hP hK
  obtain ⟨rfl, hZ, hh⟩ := hP
  have hx := Bd.exec
  have hby := Bd.bytes
  have hml : c.maxLocals = 3 := hml0
  have hlk := BodyLoose.notSynchronized Bd
  have hown : s.vm.findClass "com/example/wache/wache/AttemptTimes" = some m.cls := findClass_of_methodNamed Bd.named
  have hnm := (name_of_methodNamed Bd.named Bd.method).1
  have X0 : Stand p l e ({ frames := 0, cells := 0, slots := 0, locals := 0 } : Room) s m #[(.ref a), (.int iv)] below meth c s₁ [] 0 0 := Stand.of_body Bd
  have e0 : s₁.heap = h0 := by rw [← hh, Bd.state]; rfl
  have N0 := Fr.nil n0
  show own_Go p e below s (own_rm_length_Q Z iv i a span cap sh ow hd sz ko kh ks fw fh fs fz fF h0 n0) ({ frames := 0, cells := 0, slots := 0, locals := 0 } : Room).cells ({ frames := 0, cells := 0, slots := 0, locals := 0 } : Room).slots (s₁.setTop (entryFrame m #[(.ref a), (.int iv)] 3))
  rw [own_rm_length_ef]
  show own_Go p e below s _ _ _ (s₁.setTop (mkF m 0 #[.val (.ref a), .val (.int iv), .unset] []))
  obtain ⟨g0, L0, R0⟩ := own_AT.ring D hi
  rcases R0 with ⟨hwr, hz, hF⟩ | ⟨b, hwr, LB, gb, nb⟩
  · skip
    show own_Go p e below s _ _ _ (s₁.setTop (mkF m 0 #[.val (.ref a), .val (.int iv), .unset] []))
    refine own_st (fun _ kQ => XS.aloadN X0.here hx rfl (hb hby own_d_prog_3_method_13_code_0) rfl rfl kQ) ?_
    show own_Go p e below s _ _ _ (s₁.setTop (mkF m 1 #[.val (.ref a), .val (.int iv), .unset] [(.ref a)]))
    have F1 : Fld Z h0 a "com/example/wache/wache/AttemptTimes" "own" "[[J" (.ref ow) := D.fow
    obtain ⟨T2, X2, e2, st2⟩ := getF X0 hx hZ hown (host := "") (Or.inl (hw _ (List.mem_of_getElem? (i := 19) rfl))) Via.refl e0 F1 (g := (mkF m 1 #[.val (.ref a), .val (.int iv), .unset] [(.ref a)])) rfl rfl (hb hby own_d_prog_3_method_13_code_1)
    refine own_st st2 ?_
    show own_Go p e below s _ _ _ (T2.setTop (mkF m 4 #[.val (.ref a), .val (.int iv), .unset] [(.ref ow)]))
    refine own_st (fun _ kQ => XS.iloadN X2.here hx rfl (hb hby own_d_prog_3_method_13_code_4) rfl kQ) ?_
    show own_Go p e below s _ _ _ (T2.setTop (mkF m 5 #[.val (.ref a), .val (.int iv), .unset] [(.int iv), (.ref ow)]))
    have F3 : Arv Z h0 ow ko (.array .long) (2 : Int32) [(fw 0), (fw 1)] .null := D.vow
    obtain ⟨cl4, Ar4, kc4, S4, Nn4, H4, G4⟩ := id F3
    have hin4 : ¬ (iv < 0 ∨ cl4.slots.size ≤ (iv : Int32).toNatClampNeg) := inb_of S4 (own_I.inb hi)
    have hat4 : cl4.slots[(iv : Int32).toNatClampNeg]? = some .null := H4.at hin4 ((own_I.get hi fw _).trans hwr)
    refine own_st (fun _ kQ => X2.aaload hx (j := iv) (v := .null) (own_hp e2 Ar4.1) (State.isArrayOf_alike hZ.alike Ar4.2.1) rfl Ar4.2.2 hin4 hat4 (g := (mkF m 5 #[.val (.ref a), .val (.int iv), .unset] [(.int iv), (.ref ow)])) rfl rfl (hb hby own_d_prog_3_method_13_code_5) _ kQ) ?_
    show own_Go p e below s _ _ _ (T2.setTop (mkF m 6 #[.val (.ref a), .val (.int iv), .unset] [.null]))
    refine own_st (fun _ kQ => XS.astoreN X2.here hx rfl (hb hby own_d_prog_3_method_13_code_6) rfl rfl (l' := #[.val (.ref a), .val (.int iv), .val .null]) rfl kQ) ?_
    show own_Go p e below s _ _ _ (T2.setTop (mkF m 7 #[.val (.ref a), .val (.int iv), .val .null] []))
    refine own_st (fun _ kQ => XS.aloadN X2.here hx rfl (hb hby own_d_prog_3_method_13_code_7) rfl rfl kQ) ?_
    show own_Go p e below s _ _ _ (T2.setTop (mkF m 8 #[.val (.ref a), .val (.int iv), .val .null] [.null]))
    refine own_st (fun _ kQ => XT.ifnonnullNo X2.here hx rfl (hb hby own_d_prog_3_method_13_code_8) rfl kQ) ?_
    show own_Go p e below s _ _ _ (T2.setTop (mkF m 11 #[.val (.ref a), .val (.int iv), .val .null] []))
    refine own_st (fun _ kQ => XT.iconstV X2.here hx rfl (2 : Int32) (hb hby own_d_prog_3_method_13_code_11) (by decide) kQ) ?_
    show own_Go p e below s _ _ _ (T2.setTop (mkF m 12 #[.val (.ref a), .val (.int iv), .val .null] [(.int (2 : Int32))]))
    refine own_st (fun _ kQ => XS.goto X2.here hx rfl (pc0 := 12) (pc' := 17) rfl (hb hby own_d_prog_3_method_13_code_12) (by decide) (by decide) kQ) ?_
    show own_Go p e below s _ _ _ (T2.setTop (mkF m 17 #[.val (.ref a), .val (.int iv), .val .null] [(.int (2 : Int32))]))
    refine own_retI X2 hx hlk Bd.returns (hb hby own_d_prog_3_method_13_code_17) (by decide) (by decide) ?_
    rw [e2]
    exact ⟨N0, (by rw [hz]), rfl⟩
  · skip
    show own_Go p e below s _ _ _ (s₁.setTop (mkF m 0 #[.val (.ref a), .val (.int iv), .unset] []))
    refine own_st (fun _ kQ => XS.aloadN X0.here hx rfl (hb hby own_d_prog_3_method_13_code_0) rfl rfl kQ) ?_
    show own_Go p e below s _ _ _ (s₁.setTop (mkF m 1 #[.val (.ref a), .val (.int iv), .unset] [(.ref a)]))
    have F5 : Fld Z h0 a "com/example/wache/wache/AttemptTimes" "own" "[[J" (.ref ow) := D.fow
    obtain ⟨T6, X6, e6, st6⟩ := getF X0 hx hZ hown (host := "") (Or.inl (hw _ (List.mem_of_getElem? (i := 19) rfl))) Via.refl e0 F5 (g := (mkF m 1 #[.val (.ref a), .val (.int iv), .unset] [(.ref a)])) rfl rfl (hb hby own_d_prog_3_method_13_code_1)
    refine own_st st6 ?_
    show own_Go p e below s _ _ _ (T6.setTop (mkF m 4 #[.val (.ref a), .val (.int iv), .unset] [(.ref ow)]))
    refine own_st (fun _ kQ => XS.iloadN X6.here hx rfl (hb hby own_d_prog_3_method_13_code_4) rfl kQ) ?_
    show own_Go p e below s _ _ _ (T6.setTop (mkF m 5 #[.val (.ref a), .val (.int iv), .unset] [(.int iv), (.ref ow)]))
    have F7 : Arv Z h0 ow ko (.array .long) (2 : Int32) [(fw 0), (fw 1)] .null := D.vow
    obtain ⟨cl8, Ar8, kc8, S8, Nn8, H8, G8⟩ := id F7
    have hin8 : ¬ (iv < 0 ∨ cl8.slots.size ≤ (iv : Int32).toNatClampNeg) := inb_of S8 (own_I.inb hi)
    have hat8 : cl8.slots[(iv : Int32).toNatClampNeg]? = some (.ref b) := H8.at hin8 ((own_I.get hi fw _).trans hwr)
    refine own_st (fun _ kQ => X6.aaload hx (j := iv) (v := (.ref b)) (own_hp e6 Ar8.1) (State.isArrayOf_alike hZ.alike Ar8.2.1) rfl Ar8.2.2 hin8 hat8 (g := (mkF m 5 #[.val (.ref a), .val (.int iv), .unset] [(.int iv), (.ref ow)])) rfl rfl (hb hby own_d_prog_3_method_13_code_5) _ kQ) ?_
    show own_Go p e below s _ _ _ (T6.setTop (mkF m 6 #[.val (.ref a), .val (.int iv), .unset] [(.ref b)]))
    refine own_st (fun _ kQ => XS.astoreN X6.here hx rfl (hb hby own_d_prog_3_method_13_code_6) rfl rfl (l' := #[.val (.ref a), .val (.int iv), .val (.ref b)]) rfl kQ) ?_
    show own_Go p e below s _ _ _ (T6.setTop (mkF m 7 #[.val (.ref a), .val (.int iv), .val (.ref b)] []))
    refine own_st (fun _ kQ => XS.aloadN X6.here hx rfl (hb hby own_d_prog_3_method_13_code_7) rfl rfl kQ) ?_
    show own_Go p e below s _ _ _ (T6.setTop (mkF m 8 #[.val (.ref a), .val (.int iv), .val (.ref b)] [(.ref b)]))
    refine own_st (fun _ kQ => XT.ifnonnullYes X6.here hx rfl (pc0 := 8) (pc' := 15) rfl (hb hby own_d_prog_3_method_13_code_8) rfl (by decide) (by decide) kQ) ?_
    show own_Go p e below s _ _ _ (T6.setTop (mkF m 15 #[.val (.ref a), .val (.int iv), .val (.ref b)] []))
    refine own_st (fun _ kQ => XS.aloadN X6.here hx rfl (hb hby own_d_prog_3_method_13_code_15) rfl rfl kQ) ?_
    show own_Go p e below s _ _ _ (T6.setTop (mkF m 16 #[.val (.ref a), .val (.int iv), .val (.ref b)] [(.ref b)]))
    obtain ⟨cl9, Ar9, S9, N9, -⟩ := id LB
    refine own_st (fun _ kQ => X6.arraylength hx (own_hp e6 Ar9.1) (State.isArrayOf_alike hZ.alike Ar9.2.1) (g := (mkF m 16 #[.val (.ref a), .val (.int iv), .val (.ref b)] [(.ref b)])) rfl rfl (hb hby own_d_prog_3_method_13_code_16) _ kQ) ?_
    rw [len_of S9 N9]
    show own_Go p e below s _ _ _ (T6.setTop (mkF m 17 #[.val (.ref a), .val (.int iv), .val (.ref b)] [(.int (fz i))]))
    refine own_retI X6 hx hlk Bd.returns (hb hby own_d_prog_3_method_13_code_17) (by decide) (by decide) ?_
    rw [e6]
    exact ⟨N0, rfl, rfl⟩
theorem own_d_prog_3_method_12_code_0 : decode prog_3_method_12_code 0 = .ok (.aload_n 0, 1) := by decide +kernel
theorem own_d_prog_3_method_12_code_1 : decode prog_3_method_12_code 1 = .ok (.getfield 26, 3) := by decide +kernel
theorem own_d_prog_3_method_12_code_4 : decode prog_3_method_12_code 4 = .ok (.iload_n 1, 1) := by decide +kernel
theorem own_d_prog_3_method_12_code_5 : decode prog_3_method_12_code 5 = .ok (.iaload, 1) := by decide +kernel
theorem own_d_prog_3_method_12_code_6 : decode prog_3_method_12_code 6 = .ok (.iload_n 2, 1) := by decide +kernel
theorem own_d_prog_3_method_12_code_7 : decode prog_3_method_12_code 7 = .ok (.iadd, 1) := by decide +kernel
theorem own_d_prog_3_method_12_code_8 : decode prog_3_method_12_code 8 = .ok (.istore_n 3, 1) := by decide +kernel
theorem own_d_prog_3_method_12_code_9 : decode prog_3_method_12_code 9 = .ok (.aload_n 0, 1) := by decide +kernel
theorem own_d_prog_3_method_12_code_10 : decode prog_3_method_12_code 10 = .ok (.iload_n 1, 1) := by decide +kernel
theorem own_d_prog_3_method_12_code_11 : decode prog_3_method_12_code 11 = .ok (.invokevirtual 41, 3) := by decide +kernel
theorem own_d_prog_3_method_12_code_14 : decode prog_3_method_12_code 14 = .ok (.istore 4, 2) := by decide +kernel
theorem own_d_prog_3_method_12_code_16 : decode prog_3_method_12_code 16 = .ok (.iload_n 3, 1) := by decide +kernel
theorem own_d_prog_3_method_12_code_17 : decode prog_3_method_12_code 17 = .ok (.iload 4, 2) := by decide +kernel
theorem own_d_prog_3_method_12_code_19 : decode prog_3_method_12_code 19 = .ok (.if_icmp .ge 7, 3) := by decide +kernel
theorem own_d_prog_3_method_12_code_22 : decode prog_3_method_12_code 22 = .ok (.iload_n 3, 1) := by decide +kernel
theorem own_d_prog_3_method_12_code_23 : decode prog_3_method_12_code 23 = .ok (.goto 7, 3) := by decide +kernel
theorem own_d_prog_3_method_12_code_26 : decode prog_3_method_12_code 26 = .ok (.iload_n 3, 1) := by decide +kernel
theorem own_d_prog_3_method_12_code_27 : decode prog_3_method_12_code 27 = .ok (.iload 4, 2) := by decide +kernel
theorem own_d_prog_3_method_12_code_29 : decode prog_3_method_12_code 29 = .ok (.isub, 1) := by decide +kernel
theorem own_d_prog_3_method_12_code_30 : decode prog_3_method_12_code 30 = .ok (.ireturn, 1) := by decide +kernel
theorem own_pn1 : plainFor (⟨"com/example/wache/wache/AttemptTimes", "index", "(II)I"⟩ : MethodName) = true := by decide +kernel
theorem own_pd0 : parseMethodDescriptor "(I)I" = some ⟨[.int], some .int⟩ := by decide +kernel
def own_rm_index_Q (Z : State) (iv : Int32) (i : Nat) (a : Addr) (span : Int64) (cap : Int32) (sh : Addr) (ow : Addr) (hd : Addr) (sz : Addr) (ko : ClassId) (kh : ClassId) (ks : ClassId) (fw : Nat → Value) (fh : Nat → Int32) (fs : Nat → Int32) (fz : Nat → Int32) (fF : Nat → Nat → Int64) (k : Int32) (h0 : Heap) (n0 : Nat) (v : Option Value) (h : Heap) (L : List Loc) : Prop := Fr n0 L ∧ v = some (.int (own_idx (fh i) k (fz i))) ∧ h = h0
theorem own_rm_index_ef (m : MethodId) (a : Addr) (iv : Int32) (k : Int32)  : entryFrame m #[(.ref a), (.int iv), (.int k)] 5 = mkF m 0 #[.val (.ref a), .val (.int iv), .val (.int k), .unset, .unset] [] := by first | (simp [entryFrame, mkF, argsToLocals, Value.category]; done) | rfl
set_option maxRecDepth 65536 in
set_option maxHeartbeats 40000000 in
theorem own_rm_index (l : Launch) (Z : State) (a0 : Array Value) (hw : ∀ d ∈ tables_1, d.before a0 Z = true) (ws : List Jvm.Cond) (iv : Int32) (i : Nat) (a : Addr) (span : Int64) (cap : Int32) (sh : Addr) (ow : Addr) (hd : Addr) (sz : Addr) (ko : ClassId) (kh : ClassId) (ks : ClassId) (fw : Nat → Value) (fh : Nat → Int32) (fs : Nat → Int32) (fz : Nat → Int32) (fF : Nat → Nat → Int64) (k : Int32) (h0 : Heap) (n0 : Nat) (Z0 : n0 ≤ h0.size) (D : own_AT Z h0 n0 a span cap sh ow hd sz ko kh ks fw fh fs fz fF) (hi : own_I iv i) :
    MetFree l (⟨"com/example/wache/wache/AttemptTimes", "index", "(II)I"⟩ : MethodName) (head1 (Jvm.Cond.code (⟨"com/example/wache/wache/AttemptTimes", "index", "(II)I"⟩ : MethodName) prog_3_method_12_code 5 (some .int) :: ws) ({ frames := 1, cells := 0, slots := 0, locals := 14 } : Room)) (fun aQ UQ => aQ = #[(.ref a), (.int iv), (.int k)] ∧ Z.Warmed39 UQ.vm ∧ UQ.heap = h0) (fun _ _ _ _ _ => True) (fun _ UQ oQ U2 => ∃ vQ LQ, oQ = .returned vQ ∧ own_rm_index_Q Z iv i a span cap sh ow hd sz ko kh ks fw fh fs fz fF k h0 n0 vQ U2.heap LQ ∧ FrameEnd UQ oQ U2 LQ ({ frames := 1, cells := 0, slots := 0, locals := 14 } : Room).cells ({ frames := 1, cells := 0, slots := 0, locals := 14 } : Room).slots) := by
  refine MetFree.of_bodySF own_pn1 hisR ?_
  intro p e s m args below meth c s₁ Bd hml0 hP hK
  obtain ⟨rfl, hZ, hh⟩ := hP
  have hx := Bd.exec
  have hby := Bd.bytes
  have hml : c.maxLocals = 5 := hml0
  have hlk := BodyLoose.notSynchronized Bd
  have hown : s.vm.findClass "com/example/wache/wache/AttemptTimes" = some m.cls := findClass_of_methodNamed Bd.named
  have hnm := (name_of_methodNamed Bd.named Bd.method).1
  have X0 : Stand p l e ({ frames := 1, cells := 0, slots := 0, locals := 14 } : Room) s m #[(.ref a), (.int iv), (.int k)] below meth c s₁ [] 0 0 := Stand.of_body Bd
  have e0 : s₁.heap = h0 := by rw [← hh, Bd.state]; rfl
  have N0 := Fr.nil n0
  show own_Go p e below s (own_rm_index_Q Z iv i a span cap sh ow hd sz ko kh ks fw fh fs fz fF k h0 n0) ({ frames := 1, cells := 0, slots := 0, locals := 14 } : Room).cells ({ frames := 1, cells := 0, slots := 0, locals := 14 } : Room).slots (s₁.setTop (entryFrame m #[(.ref a), (.int iv), (.int k)] 5))
  rw [own_rm_index_ef]
  show own_Go p e below s _ _ _ (s₁.setTop (mkF m 0 #[.val (.ref a), .val (.int iv), .val (.int k), .unset, .unset] []))
  refine own_st (fun _ kQ => XS.aloadN X0.here hx rfl (hb hby own_d_prog_3_method_12_code_0) rfl rfl kQ) ?_
  show own_Go p e below s _ _ _ (s₁.setTop (mkF m 1 #[.val (.ref a), .val (.int iv), .val (.int k), .unset, .unset] [(.ref a)]))
  have F10 : Fld Z h0 a "com/example/wache/wache/AttemptTimes" "heads" "[I" (.ref hd) := D.fhd
  obtain ⟨T11, X11, e11, st11⟩ := getF X0 hx hZ hown (host := "") (Or.inl (hw _ (List.mem_of_getElem? (i := 22) rfl))) Via.refl e0 F10 (g := (mkF m 1 #[.val (.ref a), .val (.int iv), .val (.int k), .unset, .unset] [(.ref a)])) rfl rfl (hb hby own_d_prog_3_method_12_code_1)
  refine own_st st11 ?_
  show own_Go p e below s _ _ _ (T11.setTop (mkF m 4 #[.val (.ref a), .val (.int iv), .val (.int k), .unset, .unset] [(.ref hd)]))
  refine own_st (fun _ kQ => XS.iloadN X11.here hx rfl (hb hby own_d_prog_3_method_12_code_4) rfl kQ) ?_
  show own_Go p e below s _ _ _ (T11.setTop (mkF m 5 #[.val (.ref a), .val (.int iv), .val (.int k), .unset, .unset] [(.int iv), (.ref hd)]))
  have F12 : Arv Z h0 hd kh .int (2 : Int32) [(.int (fh 0)), (.int (fh 1))] (.int (0 : Int32)) := D.vhd
  obtain ⟨cl13, Ar13, kc13, S13, Nn13, H13, G13⟩ := id F12
  have hin13 : ¬ (iv < 0 ∨ cl13.slots.size ≤ (iv : Int32).toNatClampNeg) := inb_of S13 (own_I.inb hi)
  have hat13 : cl13.slots[(iv : Int32).toNatClampNeg]? = some (.int (fh i)) := H13.at hin13 (own_I.getI hi fh _)
  refine own_st (fun _ kQ => X11.iaload hx (j := iv) (v := (.int (fh i))) (own_hp e11 Ar13.1) (State.isArrayOf_alike hZ.alike Ar13.2.1) Ar13.2.2 hin13 hat13 (g := (mkF m 5 #[.val (.ref a), .val (.int iv), .val (.int k), .unset, .unset] [(.int iv), (.ref hd)])) rfl rfl (hb hby own_d_prog_3_method_12_code_5) _ kQ) ?_
  show own_Go p e below s _ _ _ (T11.setTop (mkF m 6 #[.val (.ref a), .val (.int iv), .val (.int k), .unset, .unset] [(.int (fh i))]))
  refine own_st (fun _ kQ => XS.iloadN X11.here hx rfl (hb hby own_d_prog_3_method_12_code_6) rfl kQ) ?_
  show own_Go p e below s _ _ _ (T11.setTop (mkF m 7 #[.val (.ref a), .val (.int iv), .val (.int k), .unset, .unset] [(.int k), (.int (fh i))]))
  refine own_st (fun _ kQ => XS.iadd X11.here hx rfl (hb hby own_d_prog_3_method_12_code_7) rfl kQ) ?_
  show own_Go p e below s _ _ _ (T11.setTop (mkF m 8 #[.val (.ref a), .val (.int iv), .val (.int k), .unset, .unset] [(.int ((fh i) + k))]))
  refine own_st (fun _ kQ => XS.istoreN X11.here hx rfl (hb hby own_d_prog_3_method_12_code_8) rfl (l' := #[.val (.ref a), .val (.int iv), .val (.int k), .val (.int ((fh i) + k)), .unset]) rfl kQ) ?_
  show own_Go p e below s _ _ _ (T11.setTop (mkF m 9 #[.val (.ref a), .val (.int iv), .val (.int k), .val (.int ((fh i) + k)), .unset] []))
  refine own_st (fun _ kQ => XS.aloadN X11.here hx rfl (hb hby own_d_prog_3_method_12_code_9) rfl rfl kQ) ?_
  show own_Go p e below s _ _ _ (T11.setTop (mkF m 10 #[.val (.ref a), .val (.int iv), .val (.int k), .val (.int ((fh i) + k)), .unset] [(.ref a)]))
  refine own_st (fun _ kQ => XS.iloadN X11.here hx rfl (hb hby own_d_prog_3_method_12_code_10) rfl kQ) ?_
  show own_Go p e below s _ _ _ (T11.setTop (mkF m 11 #[.val (.ref a), .val (.int iv), .val (.int k), .val (.int ((fh i) + k)), .unset] [(.int iv), (.ref a)]))
  have F15 : Exa Z h0 a "com/example/wache/wache/AttemptTimes" := D.exa
  obtain ⟨cq14, q14, q14'⟩ := F15.cell
  obtain ⟨_, _, ⟨T14, L14, k14, n14⟩, -, X14, ⟨Lc14, hQ14, l14, y14, z14⟩, st14⟩ := X11.privateBack hx (y := (⟨"com/example/wache/wache/AttemptTimes", "length", "(I)I"⟩ : MethodName)) hown (mvT hZ (hw _ (List.mem_of_getElem? (i := 31) rfl))) (mvT hZ (hw _ (List.mem_of_getElem? (i := 32) rfl))) (mvT hZ (own_selP (hw _ (List.mem_of_getElem? (i := 32) rfl)) (hw _ (List.mem_of_getElem? (i := 33) rfl)) (hw _ (List.mem_of_getElem? (i := 2) rfl)) (by decide))) (Cond.privateMethod_at (mvP hZ (hw _ (List.mem_of_getElem? (i := 33) rfl)) (args := #[]))) (mvT hZ (hw _ (List.mem_of_getElem? (i := 34) rfl))) (by decide) (backOf (W := 0) (own_rm_length l Z a0 hw [] iv i a span cap sh ow hd sz ko kh ks fw fh fs fz fF h0 n0 Z0 D hi) hZ (hw _ (List.mem_of_getElem? (i := 34) rfl)) (hw _ (List.mem_of_getElem? (i := 3) rfl)) (by decide) (by decide)) (g := (mkF m 11 #[.val (.ref a), .val (.int iv), .val (.int k), .val (.int ((fh i) + k)), .unset] [(.int iv), (.ref a)])) rfl (by rw [hml]; rfl) (Steps.refl _) (a := a) (own_hp e11 q14) q14' (argsL := [(.int iv)]) (rest := []) (lenOf own_pd0 rfl) rfl (by show 2 * 0 + _ ≤ _; exact Nat.le_of_eq rfl) (hb hby own_d_prog_3_method_12_code_11) (fun _ _ => ⟨rfl, e11, (by decide : 0 + 0 ≤ _), (by decide : 0 + 0 ≤ _)⟩)
  dsimp only [Pt.U, Pt.locs, Pt.cells, Pt.slots] at X14 l14 y14 z14 st14 hQ14
  subst l14 y14 z14
  obtain ⟨N14q, rfl, eh14⟩ := hQ14
  have N16 := Fr.app N0 N14q
  refine own_tr st14 ?_
  show own_Go p e below s _ _ _ (T14.setTop (mkF m 14 #[.val (.ref a), .val (.int iv), .val (.int k), .val (.int ((fh i) + k)), .unset] [(.int (fz i))]))
  refine own_st (fun _ kQ => XS.istore X14.here hx rfl (hb hby own_d_prog_3_method_12_code_14) rfl (l' := #[.val (.ref a), .val (.int iv), .val (.int k), .val (.int ((fh i) + k)), .val (.int (fz i))]) rfl kQ) ?_
  show own_Go p e below s _ _ _ (T14.setTop (mkF m 16 #[.val (.ref a), .val (.int iv), .val (.int k), .val (.int ((fh i) + k)), .val (.int (fz i))] []))
  refine own_st (fun _ kQ => XS.iloadN X14.here hx rfl (hb hby own_d_prog_3_method_12_code_16) rfl kQ) ?_
  show own_Go p e below s _ _ _ (T14.setTop (mkF m 17 #[.val (.ref a), .val (.int iv), .val (.int k), .val (.int ((fh i) + k)), .val (.int (fz i))] [(.int ((fh i) + k))]))
  refine own_st (fun _ kQ => XS.iload X14.here hx rfl (hb hby own_d_prog_3_method_12_code_17) rfl kQ) ?_
  show own_Go p e below s _ _ _ (T14.setTop (mkF m 19 #[.val (.ref a), .val (.int iv), .val (.int k), .val (.int ((fh i) + k)), .val (.int (fz i))] [(.int (fz i)), (.int ((fh i) + k))]))
  by_cases hc17 : ((fh i) + k) < (fz i)
  · refine own_st (fun _ kQ => XS.icmpNo X14.here hx rfl (hb hby own_d_prog_3_method_12_code_19) rfl (XT.ii_ge_f hc17) kQ) ?_
    show own_Go p e below s _ _ _ (T14.setTop (mkF m 22 #[.val (.ref a), .val (.int iv), .val (.int k), .val (.int ((fh i) + k)), .val (.int (fz i))] []))
    refine own_st (fun _ kQ => XS.iloadN X14.here hx rfl (hb hby own_d_prog_3_method_12_code_22) rfl kQ) ?_
    show own_Go p e below s _ _ _ (T14.setTop (mkF m 23 #[.val (.ref a), .val (.int iv), .val (.int k), .val (.int ((fh i) + k)), .val (.int (fz i))] [(.int ((fh i) + k))]))
    refine own_st (fun _ kQ => XS.goto X14.here hx rfl (pc0 := 23) (pc' := 30) rfl (hb hby own_d_prog_3_method_12_code_23) (by decide) (by decide) kQ) ?_
    show own_Go p e below s _ _ _ (T14.setTop (mkF m 30 #[.val (.ref a), .val (.int iv), .val (.int k), .val (.int ((fh i) + k)), .val (.int (fz i))] [(.int ((fh i) + k))]))
    refine own_retI X14 hx hlk Bd.returns (hb hby own_d_prog_3_method_12_code_30) (by decide) (by decide) ?_
    rw [eh14]
    exact ⟨N16, (by unfold own_idx; rw [if_pos hc17]), rfl⟩
  · refine own_st (fun _ kQ => XS.icmpYes X14.here hx rfl (pc0 := 19) (pc' := 26) rfl (hb hby own_d_prog_3_method_12_code_19) rfl (XT.ii_ge_t hc17) (by decide) (by decide) kQ) ?_
    show own_Go p e below s _ _ _ (T14.setTop (mkF m 26 #[.val (.ref a), .val (.int iv), .val (.int k), .val (.int ((fh i) + k)), .val (.int (fz i))] []))
    refine own_st (fun _ kQ => XS.iloadN X14.here hx rfl (hb hby own_d_prog_3_method_12_code_26) rfl kQ) ?_
    show own_Go p e below s _ _ _ (T14.setTop (mkF m 27 #[.val (.ref a), .val (.int iv), .val (.int k), .val (.int ((fh i) + k)), .val (.int (fz i))] [(.int ((fh i) + k))]))
    refine own_st (fun _ kQ => XS.iload X14.here hx rfl (hb hby own_d_prog_3_method_12_code_27) rfl kQ) ?_
    show own_Go p e below s _ _ _ (T14.setTop (mkF m 29 #[.val (.ref a), .val (.int iv), .val (.int k), .val (.int ((fh i) + k)), .val (.int (fz i))] [(.int (fz i)), (.int ((fh i) + k))]))
    refine own_st (fun _ kQ => XS.isub X14.here hx rfl (hb hby own_d_prog_3_method_12_code_29) rfl kQ) ?_
    show own_Go p e below s _ _ _ (T14.setTop (mkF m 30 #[.val (.ref a), .val (.int iv), .val (.int k), .val (.int ((fh i) + k)), .val (.int (fz i))] [(.int (((fh i) + k) - (fz i)))]))
    refine own_retI X14 hx hlk Bd.returns (hb hby own_d_prog_3_method_12_code_30) (by decide) (by decide) ?_
    rw [eh14]
    exact ⟨N16, (by unfold own_idx; rw [if_neg hc17]), rfl⟩
theorem own_d_prog_3_method_10_code_0 : decode prog_3_method_10_code 0 = .ok (.aload_n 0, 1) := by decide +kernel
theorem own_d_prog_3_method_10_code_1 : decode prog_3_method_10_code 1 = .ok (.getfield 22, 3) := by decide +kernel
theorem own_d_prog_3_method_10_code_4 : decode prog_3_method_10_code 4 = .ok (.iload_n 1, 1) := by decide +kernel
theorem own_d_prog_3_method_10_code_5 : decode prog_3_method_10_code 5 = .ok (.aaload, 1) := by decide +kernel
theorem own_d_prog_3_method_10_code_6 : decode prog_3_method_10_code 6 = .ok (.astore_n 3, 1) := by decide +kernel
theorem own_d_prog_3_method_10_code_7 : decode prog_3_method_10_code 7 = .ok (.aload_n 3, 1) := by decide +kernel
theorem own_d_prog_3_method_10_code_8 : decode prog_3_method_10_code 8 = .ok (.ifnonnull 21, 3) := by decide +kernel
theorem own_d_prog_3_method_10_code_11 : decode prog_3_method_10_code 11 = .ok (.aload_n 0, 1) := by decide +kernel
theorem own_d_prog_3_method_10_code_12 : decode prog_3_method_10_code 12 = .ok (.getfield 17, 3) := by decide +kernel
theorem own_d_prog_3_method_10_code_15 : decode prog_3_method_10_code 15 = .ok (.iload_n 1, 1) := by decide +kernel
theorem own_d_prog_3_method_10_code_16 : decode prog_3_method_10_code 16 = .ok (.iconst 2, 1) := by decide +kernel
theorem own_d_prog_3_method_10_code_17 : decode prog_3_method_10_code 17 = .ok (.imul, 1) := by decide +kernel
theorem own_d_prog_3_method_10_code_18 : decode prog_3_method_10_code 18 = .ok (.aload_n 0, 1) := by decide +kernel
theorem own_d_prog_3_method_10_code_19 : decode prog_3_method_10_code 19 = .ok (.iload_n 1, 1) := by decide +kernel
theorem own_d_prog_3_method_10_code_20 : decode prog_3_method_10_code 20 = .ok (.iload_n 2, 1) := by decide +kernel
theorem own_d_prog_3_method_10_code_21 : decode prog_3_method_10_code 21 = .ok (.invokevirtual 77, 3) := by decide +kernel
theorem own_d_prog_3_method_10_code_24 : decode prog_3_method_10_code 24 = .ok (.iadd, 1) := by decide +kernel
theorem own_d_prog_3_method_10_code_25 : decode prog_3_method_10_code 25 = .ok (.laload, 1) := by decide +kernel
theorem own_d_prog_3_method_10_code_26 : decode prog_3_method_10_code 26 = .ok (.goto 11, 3) := by decide +kernel
theorem own_d_prog_3_method_10_code_29 : decode prog_3_method_10_code 29 = .ok (.aload_n 3, 1) := by decide +kernel
theorem own_d_prog_3_method_10_code_30 : decode prog_3_method_10_code 30 = .ok (.aload_n 0, 1) := by decide +kernel
theorem own_d_prog_3_method_10_code_31 : decode prog_3_method_10_code 31 = .ok (.iload_n 1, 1) := by decide +kernel
theorem own_d_prog_3_method_10_code_32 : decode prog_3_method_10_code 32 = .ok (.iload_n 2, 1) := by decide +kernel
theorem own_d_prog_3_method_10_code_33 : decode prog_3_method_10_code 33 = .ok (.invokevirtual 77, 3) := by decide +kernel
theorem own_d_prog_3_method_10_code_36 : decode prog_3_method_10_code 36 = .ok (.laload, 1) := by decide +kernel
theorem own_d_prog_3_method_10_code_37 : decode prog_3_method_10_code 37 = .ok (.lreturn, 1) := by decide +kernel
theorem own_pn2 : plainFor (⟨"com/example/wache/wache/AttemptTimes", "get", "(II)J"⟩ : MethodName) = true := by decide +kernel
theorem own_pd1 : parseMethodDescriptor "(II)I" = some ⟨[.int, .int], some .int⟩ := by decide +kernel
def own_rm_get_Q (Z : State) (iv : Int32) (i : Nat) (a : Addr) (span : Int64) (cap : Int32) (sh : Addr) (ow : Addr) (hd : Addr) (sz : Addr) (ko : ClassId) (kh : ClassId) (ks : ClassId) (fw : Nat → Value) (fh : Nat → Int32) (fs : Nat → Int32) (fz : Nat → Int32) (fF : Nat → Nat → Int64) (k : Int32) (h0 : Heap) (n0 : Nat) (v : Option Value) (h : Heap) (L : List Loc) : Prop := Fr n0 L ∧ v = some (.long (fF i (own_idx (fh i) k (fz i)).toNatClampNeg)) ∧ h = h0
theorem own_rm_get_ef (m : MethodId) (a : Addr) (iv : Int32) (k : Int32)  : entryFrame m #[(.ref a), (.int iv), (.int k)] 4 = mkF m 0 #[.val (.ref a), .val (.int iv), .val (.int k), .unset] [] := by first | (simp [entryFrame, mkF, argsToLocals, Value.category]; done) | rfl
set_option maxRecDepth 65536 in
set_option maxHeartbeats 40000000 in
theorem own_rm_get (l : Launch) (Z : State) (a0 : Array Value) (hw : ∀ d ∈ tables_1, d.before a0 Z = true) (ws : List Jvm.Cond) (iv : Int32) (i : Nat) (a : Addr) (span : Int64) (cap : Int32) (sh : Addr) (ow : Addr) (hd : Addr) (sz : Addr) (ko : ClassId) (kh : ClassId) (ks : ClassId) (fw : Nat → Value) (fh : Nat → Int32) (fs : Nat → Int32) (fz : Nat → Int32) (fF : Nat → Nat → Int64) (k : Int32) (h0 : Heap) (n0 : Nat) (Z0 : n0 ≤ h0.size) (D : own_AT Z h0 n0 a span cap sh ow hd sz ko kh ks fw fh fs fz fF) (hi : own_I iv i) (hk : ¬ (own_idx (fh i) k (fz i)) < 0 ∧ (own_idx (fh i) k (fz i)) < (fz i)) :
    MetFree l (⟨"com/example/wache/wache/AttemptTimes", "get", "(II)J"⟩ : MethodName) (head1 (Jvm.Cond.code (⟨"com/example/wache/wache/AttemptTimes", "get", "(II)J"⟩ : MethodName) prog_3_method_10_code 4 (some .long) :: ws) ({ frames := 2, cells := 0, slots := 0, locals := 32 } : Room)) (fun aQ UQ => aQ = #[(.ref a), (.int iv), (.int k)] ∧ Z.Warmed39 UQ.vm ∧ UQ.heap = h0) (fun _ _ _ _ _ => True) (fun _ UQ oQ U2 => ∃ vQ LQ, oQ = .returned vQ ∧ own_rm_get_Q Z iv i a span cap sh ow hd sz ko kh ks fw fh fs fz fF k h0 n0 vQ U2.heap LQ ∧ FrameEnd UQ oQ U2 LQ ({ frames := 2, cells := 0, slots := 0, locals := 32 } : Room).cells ({ frames := 2, cells := 0, slots := 0, locals := 32 } : Room).slots) := by
  refine MetFree.of_bodySF own_pn2 hisR ?_
  intro p e s m args below meth c s₁ Bd hml0 hP hK
  obtain ⟨rfl, hZ, hh⟩ := hP
  have hx := Bd.exec
  have hby := Bd.bytes
  have hml : c.maxLocals = 4 := hml0
  have hlk := BodyLoose.notSynchronized Bd
  have hown : s.vm.findClass "com/example/wache/wache/AttemptTimes" = some m.cls := findClass_of_methodNamed Bd.named
  have hnm := (name_of_methodNamed Bd.named Bd.method).1
  have X0 : Stand p l e ({ frames := 2, cells := 0, slots := 0, locals := 32 } : Room) s m #[(.ref a), (.int iv), (.int k)] below meth c s₁ [] 0 0 := Stand.of_body Bd
  have e0 : s₁.heap = h0 := by rw [← hh, Bd.state]; rfl
  have N0 := Fr.nil n0
  show own_Go p e below s (own_rm_get_Q Z iv i a span cap sh ow hd sz ko kh ks fw fh fs fz fF k h0 n0) ({ frames := 2, cells := 0, slots := 0, locals := 32 } : Room).cells ({ frames := 2, cells := 0, slots := 0, locals := 32 } : Room).slots (s₁.setTop (entryFrame m #[(.ref a), (.int iv), (.int k)] 4))
  rw [own_rm_get_ef]
  show own_Go p e below s _ _ _ (s₁.setTop (mkF m 0 #[.val (.ref a), .val (.int iv), .val (.int k), .unset] []))
  obtain ⟨g0, L0, R0⟩ := own_AT.ring D hi
  rcases R0 with ⟨hwr, hz, hF⟩ | ⟨b, hwr, LB, gb, nb⟩
  · skip
    show own_Go p e below s _ _ _ (s₁.setTop (mkF m 0 #[.val (.ref a), .val (.int iv), .val (.int k), .unset] []))
    refine own_st (fun _ kQ => XS.aloadN X0.here hx rfl (hb hby own_d_prog_3_method_10_code_0) rfl rfl kQ) ?_
    show own_Go p e below s _ _ _ (s₁.setTop (mkF m 1 #[.val (.ref a), .val (.int iv), .val (.int k), .unset] [(.ref a)]))
    have F18 : Fld Z h0 a "com/example/wache/wache/AttemptTimes" "own" "[[J" (.ref ow) := D.fow
    obtain ⟨T19, X19, e19, st19⟩ := getF X0 hx hZ hown (host := "") (Or.inl (hw _ (List.mem_of_getElem? (i := 19) rfl))) Via.refl e0 F18 (g := (mkF m 1 #[.val (.ref a), .val (.int iv), .val (.int k), .unset] [(.ref a)])) rfl rfl (hb hby own_d_prog_3_method_10_code_1)
    refine own_st st19 ?_
    show own_Go p e below s _ _ _ (T19.setTop (mkF m 4 #[.val (.ref a), .val (.int iv), .val (.int k), .unset] [(.ref ow)]))
    refine own_st (fun _ kQ => XS.iloadN X19.here hx rfl (hb hby own_d_prog_3_method_10_code_4) rfl kQ) ?_
    show own_Go p e below s _ _ _ (T19.setTop (mkF m 5 #[.val (.ref a), .val (.int iv), .val (.int k), .unset] [(.int iv), (.ref ow)]))
    have F20 : Arv Z h0 ow ko (.array .long) (2 : Int32) [(fw 0), (fw 1)] .null := D.vow
    obtain ⟨cl21, Ar21, kc21, S21, Nn21, H21, G21⟩ := id F20
    have hin21 : ¬ (iv < 0 ∨ cl21.slots.size ≤ (iv : Int32).toNatClampNeg) := inb_of S21 (own_I.inb hi)
    have hat21 : cl21.slots[(iv : Int32).toNatClampNeg]? = some .null := H21.at hin21 ((own_I.get hi fw _).trans hwr)
    refine own_st (fun _ kQ => X19.aaload hx (j := iv) (v := .null) (own_hp e19 Ar21.1) (State.isArrayOf_alike hZ.alike Ar21.2.1) rfl Ar21.2.2 hin21 hat21 (g := (mkF m 5 #[.val (.ref a), .val (.int iv), .val (.int k), .unset] [(.int iv), (.ref ow)])) rfl rfl (hb hby own_d_prog_3_method_10_code_5) _ kQ) ?_
    show own_Go p e below s _ _ _ (T19.setTop (mkF m 6 #[.val (.ref a), .val (.int iv), .val (.int k), .unset] [.null]))
    refine own_st (fun _ kQ => XS.astoreN X19.here hx rfl (hb hby own_d_prog_3_method_10_code_6) rfl rfl (l' := #[.val (.ref a), .val (.int iv), .val (.int k), .val .null]) rfl kQ) ?_
    show own_Go p e below s _ _ _ (T19.setTop (mkF m 7 #[.val (.ref a), .val (.int iv), .val (.int k), .val .null] []))
    refine own_st (fun _ kQ => XS.aloadN X19.here hx rfl (hb hby own_d_prog_3_method_10_code_7) rfl rfl kQ) ?_
    show own_Go p e below s _ _ _ (T19.setTop (mkF m 8 #[.val (.ref a), .val (.int iv), .val (.int k), .val .null] [.null]))
    refine own_st (fun _ kQ => XT.ifnonnullNo X19.here hx rfl (hb hby own_d_prog_3_method_10_code_8) rfl kQ) ?_
    show own_Go p e below s _ _ _ (T19.setTop (mkF m 11 #[.val (.ref a), .val (.int iv), .val (.int k), .val .null] []))
    refine own_st (fun _ kQ => XS.aloadN X19.here hx rfl (hb hby own_d_prog_3_method_10_code_11) rfl rfl kQ) ?_
    show own_Go p e below s _ _ _ (T19.setTop (mkF m 12 #[.val (.ref a), .val (.int iv), .val (.int k), .val .null] [(.ref a)]))
    have F22 : Fld Z h0 a "com/example/wache/wache/AttemptTimes" "shared" "[J" (.ref sh) := D.fsh
    obtain ⟨T23, X23, e23, st23⟩ := getF X19 hx hZ hown (host := "") (Or.inl (hw _ (List.mem_of_getElem? (i := 15) rfl))) Via.refl e19 F22 (g := (mkF m 12 #[.val (.ref a), .val (.int iv), .val (.int k), .val .null] [(.ref a)])) rfl rfl (hb hby own_d_prog_3_method_10_code_12)
    refine own_st st23 ?_
    show own_Go p e below s _ _ _ (T23.setTop (mkF m 15 #[.val (.ref a), .val (.int iv), .val (.int k), .val .null] [(.ref sh)]))
    refine own_st (fun _ kQ => XS.iloadN X23.here hx rfl (hb hby own_d_prog_3_method_10_code_15) rfl kQ) ?_
    show own_Go p e below s _ _ _ (T23.setTop (mkF m 16 #[.val (.ref a), .val (.int iv), .val (.int k), .val .null] [(.int iv), (.ref sh)]))
    refine own_st (fun _ kQ => XT.iconstV X23.here hx rfl (2 : Int32) (hb hby own_d_prog_3_method_10_code_16) (by decide) kQ) ?_
    show own_Go p e below s _ _ _ (T23.setTop (mkF m 17 #[.val (.ref a), .val (.int iv), .val (.int k), .val .null] [(.int (2 : Int32)), (.int iv), (.ref sh)]))
    refine own_st (fun _ kQ => XS.imul X23.here hx rfl (hb hby own_d_prog_3_method_10_code_17) rfl kQ) ?_
    show own_Go p e below s _ _ _ (T23.setTop (mkF m 18 #[.val (.ref a), .val (.int iv), .val (.int k), .val .null] [(.int (iv * (2 : Int32))), (.ref sh)]))
    refine own_st (fun _ kQ => XS.aloadN X23.here hx rfl (hb hby own_d_prog_3_method_10_code_18) rfl rfl kQ) ?_
    show own_Go p e below s _ _ _ (T23.setTop (mkF m 19 #[.val (.ref a), .val (.int iv), .val (.int k), .val .null] [(.ref a), (.int (iv * (2 : Int32))), (.ref sh)]))
    refine own_st (fun _ kQ => XS.iloadN X23.here hx rfl (hb hby own_d_prog_3_method_10_code_19) rfl kQ) ?_
    show own_Go p e below s _ _ _ (T23.setTop (mkF m 20 #[.val (.ref a), .val (.int iv), .val (.int k), .val .null] [(.int iv), (.ref a), (.int (iv * (2 : Int32))), (.ref sh)]))
    refine own_st (fun _ kQ => XS.iloadN X23.here hx rfl (hb hby own_d_prog_3_method_10_code_20) rfl kQ) ?_
    show own_Go p e below s _ _ _ (T23.setTop (mkF m 21 #[.val (.ref a), .val (.int iv), .val (.int k), .val .null] [(.int k), (.int iv), (.ref a), (.int (iv * (2 : Int32))), (.ref sh)]))
    have F25 : Exa Z h0 a "com/example/wache/wache/AttemptTimes" := D.exa
    obtain ⟨cq24, q24, q24'⟩ := F25.cell
    obtain ⟨_, _, ⟨T24, L24, k24, n24⟩, -, X24, ⟨Lc24, hQ24, l24, y24, z24⟩, st24⟩ := X23.privateBack hx (y := (⟨"com/example/wache/wache/AttemptTimes", "index", "(II)I"⟩ : MethodName)) hown (mvT hZ (hw _ (List.mem_of_getElem? (i := 39) rfl))) (mvT hZ (hw _ (List.mem_of_getElem? (i := 40) rfl))) (mvT hZ (own_selP (hw _ (List.mem_of_getElem? (i := 40) rfl)) (hw _ (List.mem_of_getElem? (i := 41) rfl)) (hw _ (List.mem_of_getElem? (i := 2) rfl)) (by decide))) (Cond.privateMethod_at (mvP hZ (hw _ (List.mem_of_getElem? (i := 41) rfl)) (args := #[]))) (mvT hZ (hw _ (List.mem_of_getElem? (i := 42) rfl))) (by decide) (backOf (W := 2) (own_rm_index l Z a0 hw [] iv i a span cap sh ow hd sz ko kh ks fw fh fs fz fF k h0 n0 Z0 D hi) hZ (hw _ (List.mem_of_getElem? (i := 42) rfl)) (hw _ (List.mem_of_getElem? (i := 3) rfl)) (by decide) (by decide)) (g := (mkF m 21 #[.val (.ref a), .val (.int iv), .val (.int k), .val .null] [(.int k), (.int iv), (.ref a), (.int (iv * (2 : Int32))), (.ref sh)])) rfl (by rw [hml]; rfl) (Steps.refl _) (a := a) (own_hp e23 q24) q24' (argsL := [(.int iv), (.int k)]) (rest := [(.int (iv * (2 : Int32))), (.ref sh)]) (lenOf own_pd1 rfl) rfl (by show 2 * 0 + _ ≤ _; exact Nat.le_of_eq rfl) (hb hby own_d_prog_3_method_10_code_21) (fun _ _ => ⟨rfl, e23, (by decide : 0 + 0 ≤ _), (by decide : 0 + 0 ≤ _)⟩)
    dsimp only [Pt.U, Pt.locs, Pt.cells, Pt.slots] at X24 l24 y24 z24 st24 hQ24
    subst l24 y24 z24
    obtain ⟨N24q, rfl, eh24⟩ := hQ24
    have N26 := Fr.app N0 N24q
    refine own_tr st24 ?_
    show own_Go p e below s _ _ _ (T24.setTop (mkF m 24 #[.val (.ref a), .val (.int iv), .val (.int k), .val .null] [(.int (own_idx (fh i) k (fz i))), (.int (iv * (2 : Int32))), (.ref sh)]))
    refine own_st (fun _ kQ => XS.iadd X24.here hx rfl (hb hby own_d_prog_3_method_10_code_24) rfl kQ) ?_
    show own_Go p e below s _ _ _ (T24.setTop (mkF m 25 #[.val (.ref a), .val (.int iv), .val (.int k), .val .null] [(.int ((iv * (2 : Int32)) + (own_idx (fh i) k (fz i)))), (.ref sh)]))
    obtain ⟨cl27, Ar27, S27, Nn27, H27⟩ := id L0
    have hin27 : ¬ (((iv * (2 : Int32)) + (own_idx (fh i) k (fz i))) < 0 ∨ cl27.slots.size ≤ (((iv * (2 : Int32)) + (own_idx (fh i) k (fz i))) : Int32).toNatClampNeg) := inb_of S27 (own_sh hi hk hz).1
    have hat27 : cl27.slots[(((iv * (2 : Int32)) + (own_idx (fh i) k (fz i))) : Int32).toNatClampNeg]? = some (.long (fF i (own_idx (fh i) k (fz i)).toNatClampNeg)) := (H27 _ (Nat.lt_of_not_le fun q => hin27 (Or.inr q))).trans (congrArg (fun y => some (Value.long y)) ((congrArg g0 (own_sh hi hk hz).2.1).trans (hF _ (own_sh hi hk hz).2.2).symm))
    refine own_st (fun _ kQ => X24.laload hx (j := ((iv * (2 : Int32)) + (own_idx (fh i) k (fz i)))) (v := (.long (fF i (own_idx (fh i) k (fz i)).toNatClampNeg))) (own_hp eh24 Ar27.1) (State.isArrayOf_alike hZ.alike Ar27.2.1) Ar27.2.2 hin27 hat27 (g := (mkF m 25 #[.val (.ref a), .val (.int iv), .val (.int k), .val .null] [(.int ((iv * (2 : Int32)) + (own_idx (fh i) k (fz i)))), (.ref sh)])) rfl rfl (hb hby own_d_prog_3_method_10_code_25) _ kQ) ?_
    show own_Go p e below s _ _ _ (T24.setTop (mkF m 26 #[.val (.ref a), .val (.int iv), .val (.int k), .val .null] [(.long (fF i (own_idx (fh i) k (fz i)).toNatClampNeg))]))
    refine own_st (fun _ kQ => XS.goto X24.here hx rfl (pc0 := 26) (pc' := 37) rfl (hb hby own_d_prog_3_method_10_code_26) (by decide) (by decide) kQ) ?_
    show own_Go p e below s _ _ _ (T24.setTop (mkF m 37 #[.val (.ref a), .val (.int iv), .val (.int k), .val .null] [(.long (fF i (own_idx (fh i) k (fz i)).toNatClampNeg))]))
    refine own_retJ X24 hx hlk Bd.returns (hb hby own_d_prog_3_method_10_code_37) (by decide) (by decide) ?_
    rw [eh24]
    exact ⟨N26, rfl, rfl⟩
  · skip
    show own_Go p e below s _ _ _ (s₁.setTop (mkF m 0 #[.val (.ref a), .val (.int iv), .val (.int k), .unset] []))
    refine own_st (fun _ kQ => XS.aloadN X0.here hx rfl (hb hby own_d_prog_3_method_10_code_0) rfl rfl kQ) ?_
    show own_Go p e below s _ _ _ (s₁.setTop (mkF m 1 #[.val (.ref a), .val (.int iv), .val (.int k), .unset] [(.ref a)]))
    have F28 : Fld Z h0 a "com/example/wache/wache/AttemptTimes" "own" "[[J" (.ref ow) := D.fow
    obtain ⟨T29, X29, e29, st29⟩ := getF X0 hx hZ hown (host := "") (Or.inl (hw _ (List.mem_of_getElem? (i := 19) rfl))) Via.refl e0 F28 (g := (mkF m 1 #[.val (.ref a), .val (.int iv), .val (.int k), .unset] [(.ref a)])) rfl rfl (hb hby own_d_prog_3_method_10_code_1)
    refine own_st st29 ?_
    show own_Go p e below s _ _ _ (T29.setTop (mkF m 4 #[.val (.ref a), .val (.int iv), .val (.int k), .unset] [(.ref ow)]))
    refine own_st (fun _ kQ => XS.iloadN X29.here hx rfl (hb hby own_d_prog_3_method_10_code_4) rfl kQ) ?_
    show own_Go p e below s _ _ _ (T29.setTop (mkF m 5 #[.val (.ref a), .val (.int iv), .val (.int k), .unset] [(.int iv), (.ref ow)]))
    have F30 : Arv Z h0 ow ko (.array .long) (2 : Int32) [(fw 0), (fw 1)] .null := D.vow
    obtain ⟨cl31, Ar31, kc31, S31, Nn31, H31, G31⟩ := id F30
    have hin31 : ¬ (iv < 0 ∨ cl31.slots.size ≤ (iv : Int32).toNatClampNeg) := inb_of S31 (own_I.inb hi)
    have hat31 : cl31.slots[(iv : Int32).toNatClampNeg]? = some (.ref b) := H31.at hin31 ((own_I.get hi fw _).trans hwr)
    refine own_st (fun _ kQ => X29.aaload hx (j := iv) (v := (.ref b)) (own_hp e29 Ar31.1) (State.isArrayOf_alike hZ.alike Ar31.2.1) rfl Ar31.2.2 hin31 hat31 (g := (mkF m 5 #[.val (.ref a), .val (.int iv), .val (.int k), .unset] [(.int iv), (.ref ow)])) rfl rfl (hb hby own_d_prog_3_method_10_code_5) _ kQ) ?_
    show own_Go p e below s _ _ _ (T29.setTop (mkF m 6 #[.val (.ref a), .val (.int iv), .val (.int k), .unset] [(.ref b)]))
    refine own_st (fun _ kQ => XS.astoreN X29.here hx rfl (hb hby own_d_prog_3_method_10_code_6) rfl rfl (l' := #[.val (.ref a), .val (.int iv), .val (.int k), .val (.ref b)]) rfl kQ) ?_
    show own_Go p e below s _ _ _ (T29.setTop (mkF m 7 #[.val (.ref a), .val (.int iv), .val (.int k), .val (.ref b)] []))
    refine own_st (fun _ kQ => XS.aloadN X29.here hx rfl (hb hby own_d_prog_3_method_10_code_7) rfl rfl kQ) ?_
    show own_Go p e below s _ _ _ (T29.setTop (mkF m 8 #[.val (.ref a), .val (.int iv), .val (.int k), .val (.ref b)] [(.ref b)]))
    refine own_st (fun _ kQ => XT.ifnonnullYes X29.here hx rfl (pc0 := 8) (pc' := 29) rfl (hb hby own_d_prog_3_method_10_code_8) rfl (by decide) (by decide) kQ) ?_
    show own_Go p e below s _ _ _ (T29.setTop (mkF m 29 #[.val (.ref a), .val (.int iv), .val (.int k), .val (.ref b)] []))
    refine own_st (fun _ kQ => XS.aloadN X29.here hx rfl (hb hby own_d_prog_3_method_10_code_29) rfl rfl kQ) ?_
    show own_Go p e below s _ _ _ (T29.setTop (mkF m 30 #[.val (.ref a), .val (.int iv), .val (.int k), .val (.ref b)] [(.ref b)]))
    refine own_st (fun _ kQ => XS.aloadN X29.here hx rfl (hb hby own_d_prog_3_method_10_code_30) rfl rfl kQ) ?_
    show own_Go p e below s _ _ _ (T29.setTop (mkF m 31 #[.val (.ref a), .val (.int iv), .val (.int k), .val (.ref b)] [(.ref a), (.ref b)]))
    refine own_st (fun _ kQ => XS.iloadN X29.here hx rfl (hb hby own_d_prog_3_method_10_code_31) rfl kQ) ?_
    show own_Go p e below s _ _ _ (T29.setTop (mkF m 32 #[.val (.ref a), .val (.int iv), .val (.int k), .val (.ref b)] [(.int iv), (.ref a), (.ref b)]))
    refine own_st (fun _ kQ => XS.iloadN X29.here hx rfl (hb hby own_d_prog_3_method_10_code_32) rfl kQ) ?_
    show own_Go p e below s _ _ _ (T29.setTop (mkF m 33 #[.val (.ref a), .val (.int iv), .val (.int k), .val (.ref b)] [(.int k), (.int iv), (.ref a), (.ref b)]))
    have F33 : Exa Z h0 a "com/example/wache/wache/AttemptTimes" := D.exa
    obtain ⟨cq32, q32, q32'⟩ := F33.cell
    obtain ⟨_, _, ⟨T32, L32, k32, n32⟩, -, X32, ⟨Lc32, hQ32, l32, y32, z32⟩, st32⟩ := X29.privateBack hx (y := (⟨"com/example/wache/wache/AttemptTimes", "index", "(II)I"⟩ : MethodName)) hown (mvT hZ (hw _ (List.mem_of_getElem? (i := 39) rfl))) (mvT hZ (hw _ (List.mem_of_getElem? (i := 40) rfl))) (mvT hZ (own_selP (hw _ (List.mem_of_getElem? (i := 40) rfl)) (hw _ (List.mem_of_getElem? (i := 41) rfl)) (hw _ (List.mem_of_getElem? (i := 2) rfl)) (by decide))) (Cond.privateMethod_at (mvP hZ (hw _ (List.mem_of_getElem? (i := 41) rfl)) (args := #[]))) (mvT hZ (hw _ (List.mem_of_getElem? (i := 42) rfl))) (by decide) (backOf (W := 1) (own_rm_index l Z a0 hw [] iv i a span cap sh ow hd sz ko kh ks fw fh fs fz fF k h0 n0 Z0 D hi) hZ (hw _ (List.mem_of_getElem? (i := 42) rfl)) (hw _ (List.mem_of_getElem? (i := 3) rfl)) (by decide) (by decide)) (g := (mkF m 33 #[.val (.ref a), .val (.int iv), .val (.int k), .val (.ref b)] [(.int k), (.int iv), (.ref a), (.ref b)])) rfl (by rw [hml]; rfl) (Steps.refl _) (a := a) (own_hp e29 q32) q32' (argsL := [(.int iv), (.int k)]) (rest := [(.ref b)]) (lenOf own_pd1 rfl) rfl (by show 2 * 0 + _ ≤ _; exact Nat.le_of_eq rfl) (hb hby own_d_prog_3_method_10_code_33) (fun _ _ => ⟨rfl, e29, (by decide : 0 + 0 ≤ _), (by decide : 0 + 0 ≤ _)⟩)
    dsimp only [Pt.U, Pt.locs, Pt.cells, Pt.slots] at X32 l32 y32 z32 st32 hQ32
    subst l32 y32 z32
    obtain ⟨N32q, rfl, eh32⟩ := hQ32
    have N34 := Fr.app N0 N32q
    refine own_tr st32 ?_
    show own_Go p e below s _ _ _ (T32.setTop (mkF m 36 #[.val (.ref a), .val (.int iv), .val (.int k), .val (.ref b)] [(.int (own_idx (fh i) k (fz i))), (.ref b)]))
    obtain ⟨cl35, Ar35, S35, Nn35, H35⟩ := id LB
    have hin35 : ¬ ((own_idx (fh i) k (fz i)) < 0 ∨ cl35.slots.size ≤ ((own_idx (fh i) k (fz i)) : Int32).toNatClampNeg) := inb_of S35 hk
    have hat35 : cl35.slots[((own_idx (fh i) k (fz i)) : Int32).toNatClampNeg]? = some (.long (fF i (own_idx (fh i) k (fz i)).toNatClampNeg)) := (H35 _ (Nat.lt_of_not_le fun q => hin35 (Or.inr q))).trans (congrArg (fun y => some (Value.long y)) rfl)
    refine own_st (fun _ kQ => X32.laload hx (j := (own_idx (fh i) k (fz i))) (v := (.long (fF i (own_idx (fh i) k (fz i)).toNatClampNeg))) (own_hp eh32 Ar35.1) (State.isArrayOf_alike hZ.alike Ar35.2.1) Ar35.2.2 hin35 hat35 (g := (mkF m 36 #[.val (.ref a), .val (.int iv), .val (.int k), .val (.ref b)] [(.int (own_idx (fh i) k (fz i))), (.ref b)])) rfl rfl (hb hby own_d_prog_3_method_10_code_36) _ kQ) ?_
    show own_Go p e below s _ _ _ (T32.setTop (mkF m 37 #[.val (.ref a), .val (.int iv), .val (.int k), .val (.ref b)] [(.long (fF i (own_idx (fh i) k (fz i)).toNatClampNeg))]))
    refine own_retJ X32 hx hlk Bd.returns (hb hby own_d_prog_3_method_10_code_37) (by decide) (by decide) ?_
    rw [eh32]
    exact ⟨N34, rfl, rfl⟩
theorem own_d_prog_3_method_11_code_0 : decode prog_3_method_11_code 0 = .ok (.aload_n 0, 1) := by decide +kernel
theorem own_d_prog_3_method_11_code_1 : decode prog_3_method_11_code 1 = .ok (.getfield 22, 3) := by decide +kernel
theorem own_d_prog_3_method_11_code_4 : decode prog_3_method_11_code 4 = .ok (.iload_n 1, 1) := by decide +kernel
theorem own_d_prog_3_method_11_code_5 : decode prog_3_method_11_code 5 = .ok (.aaload, 1) := by decide +kernel
theorem own_d_prog_3_method_11_code_6 : decode prog_3_method_11_code 6 = .ok (.astore 5, 2) := by decide +kernel
theorem own_d_prog_3_method_11_code_8 : decode prog_3_method_11_code 8 = .ok (.aload 5, 2) := by decide +kernel
theorem own_d_prog_3_method_11_code_10 : decode prog_3_method_11_code 10 = .ok (.ifnonnull 22, 3) := by decide +kernel
theorem own_d_prog_3_method_11_code_13 : decode prog_3_method_11_code 13 = .ok (.aload_n 0, 1) := by decide +kernel
theorem own_d_prog_3_method_11_code_14 : decode prog_3_method_11_code 14 = .ok (.getfield 17, 3) := by decide +kernel
theorem own_d_prog_3_method_11_code_17 : decode prog_3_method_11_code 17 = .ok (.iload_n 1, 1) := by decide +kernel
theorem own_d_prog_3_method_11_code_18 : decode prog_3_method_11_code 18 = .ok (.iconst 2, 1) := by decide +kernel
theorem own_d_prog_3_method_11_code_19 : decode prog_3_method_11_code 19 = .ok (.imul, 1) := by decide +kernel
theorem own_d_prog_3_method_11_code_20 : decode prog_3_method_11_code 20 = .ok (.aload_n 0, 1) := by decide +kernel
theorem own_d_prog_3_method_11_code_21 : decode prog_3_method_11_code 21 = .ok (.iload_n 1, 1) := by decide +kernel
theorem own_d_prog_3_method_11_code_22 : decode prog_3_method_11_code 22 = .ok (.iload_n 2, 1) := by decide +kernel
theorem own_d_prog_3_method_11_code_23 : decode prog_3_method_11_code 23 = .ok (.invokevirtual 77, 3) := by decide +kernel
theorem own_d_prog_3_method_11_code_26 : decode prog_3_method_11_code 26 = .ok (.iadd, 1) := by decide +kernel
theorem own_d_prog_3_method_11_code_27 : decode prog_3_method_11_code 27 = .ok (.lload_n 3, 1) := by decide +kernel
theorem own_d_prog_3_method_11_code_28 : decode prog_3_method_11_code 28 = .ok (.lastore, 1) := by decide +kernel
theorem own_d_prog_3_method_11_code_29 : decode prog_3_method_11_code 29 = .ok (.goto 13, 3) := by decide +kernel
theorem own_d_prog_3_method_11_code_32 : decode prog_3_method_11_code 32 = .ok (.aload 5, 2) := by decide +kernel
theorem own_d_prog_3_method_11_code_34 : decode prog_3_method_11_code 34 = .ok (.aload_n 0, 1) := by decide +kernel
theorem own_d_prog_3_method_11_code_35 : decode prog_3_method_11_code 35 = .ok (.iload_n 1, 1) := by decide +kernel
theorem own_d_prog_3_method_11_code_36 : decode prog_3_method_11_code 36 = .ok (.iload_n 2, 1) := by decide +kernel
theorem own_d_prog_3_method_11_code_37 : decode prog_3_method_11_code 37 = .ok (.invokevirtual 77, 3) := by decide +kernel
theorem own_d_prog_3_method_11_code_40 : decode prog_3_method_11_code 40 = .ok (.lload_n 3, 1) := by decide +kernel
theorem own_d_prog_3_method_11_code_41 : decode prog_3_method_11_code 41 = .ok (.lastore, 1) := by decide +kernel
theorem own_d_prog_3_method_11_code_42 : decode prog_3_method_11_code 42 = .ok (.return_, 1) := by decide +kernel
theorem own_pn3 : plainFor (⟨"com/example/wache/wache/AttemptTimes", "put", "(IIJ)V"⟩ : MethodName) = true := by decide +kernel
def own_rm_put_Q (Z : State) (iv : Int32) (i : Nat) (a : Addr) (span : Int64) (cap : Int32) (sh : Addr) (ow : Addr) (hd : Addr) (sz : Addr) (ko : ClassId) (kh : ClassId) (ks : ClassId) (fw : Nat → Value) (fh : Nat → Int32) (fs : Nat → Int32) (fz : Nat → Int32) (fF : Nat → Nat → Int64) (k : Int32) (x : Int64) (h0 : Heap) (n0 : Nat) (v : Option Value) (h : Heap) (L : List Loc) : Prop := ∃ fF2 : Nat → Nat → Int64, Fr n0 L ∧ v = none ∧ own_AT Z h n0 a span cap sh ow hd sz ko kh ks fw fh fs fz fF2 ∧ fF2 i (own_idx (fh i) k (fz i)).toNatClampNeg = x ∧ (∀ q, q ≠ i → fF2 q = fF q) ∧ (∀ q, q ≠ (own_idx (fh i) k (fz i)).toNatClampNeg → fF2 i q = fF i q)
theorem own_rm_put_ef (m : MethodId) (a : Addr) (iv : Int32) (k : Int32) (x : Int64)  : entryFrame m #[(.ref a), (.int iv), (.int k), (.long x)] 6 = mkF m 0 #[.val (.ref a), .val (.int iv), .val (.int k), .val (.long x), .second, .unset] [] := by first | (simp [entryFrame, mkF, argsToLocals, Value.category]; done) | rfl
set_option maxRecDepth 65536 in
set_option maxHeartbeats 40000000 in
theorem own_rm_put (l : Launch) (Z : State) (a0 : Array Value) (hw : ∀ d ∈ tables_1, d.before a0 Z = true) (ws : List Jvm.Cond) (iv : Int32) (i : Nat) (a : Addr) (span : Int64) (cap : Int32) (sh : Addr) (ow : Addr) (hd : Addr) (sz : Addr) (ko : ClassId) (kh : ClassId) (ks : ClassId) (fw : Nat → Value) (fh : Nat → Int32) (fs : Nat → Int32) (fz : Nat → Int32) (fF : Nat → Nat → Int64) (k : Int32) (x : Int64) (h0 : Heap) (n0 : Nat) (Z0 : n0 ≤ h0.size) (D : own_AT Z h0 n0 a span cap sh ow hd sz ko kh ks fw fh fs fz fF) (hi : own_I iv i) (hk : ¬ (own_idx (fh i) k (fz i)) < 0 ∧ (own_idx (fh i) k (fz i)) < (fz i)) :
    MetFree l (⟨"com/example/wache/wache/AttemptTimes", "put", "(IIJ)V"⟩ : MethodName) (head1 (Jvm.Cond.code (⟨"com/example/wache/wache/AttemptTimes", "put", "(IIJ)V"⟩ : MethodName) prog_3_method_11_code 6 none :: ws) ({ frames := 2, cells := 0, slots := 0, locals := 32 } : Room)) (fun aQ UQ => aQ = #[(.ref a), (.int iv), (.int k), (.long x)] ∧ Z.Warmed39 UQ.vm ∧ UQ.heap = h0) (fun _ _ _ _ _ => True) (fun _ UQ oQ U2 => ∃ vQ LQ, oQ = .returned vQ ∧ own_rm_put_Q Z iv i a span cap sh ow hd sz ko kh ks fw fh fs fz fF k x h0 n0 vQ U2.heap LQ ∧ FrameEnd UQ oQ U2 LQ ({ frames := 2, cells := 0, slots := 0, locals := 32 } : Room).cells ({ frames := 2, cells := 0, slots := 0, locals := 32 } : Room).slots) := by
  refine MetFree.of_bodySF own_pn3 hisR ?_
  intro p e s m args below meth c s₁ Bd hml0 hP hK
  obtain ⟨rfl, hZ, hh⟩ := hP
  have hx := Bd.exec
  have hby := Bd.bytes
  have hml : c.maxLocals = 6 := hml0
  have hlk := BodyLoose.notSynchronized Bd
  have hown : s.vm.findClass "com/example/wache/wache/AttemptTimes" = some m.cls := findClass_of_methodNamed Bd.named
  have hnm := (name_of_methodNamed Bd.named Bd.method).1
  have X0 : Stand p l e ({ frames := 2, cells := 0, slots := 0, locals := 32 } : Room) s m #[(.ref a), (.int iv), (.int k), (.long x)] below meth c s₁ [] 0 0 := Stand.of_body Bd
  have e0 : s₁.heap = h0 := by rw [← hh, Bd.state]; rfl
  have N0 := Fr.nil n0
  show own_Go p e below s (own_rm_put_Q Z iv i a span cap sh ow hd sz ko kh ks fw fh fs fz fF k x h0 n0) ({ frames := 2, cells := 0, slots := 0, locals := 32 } : Room).cells ({ frames := 2, cells := 0, slots := 0, locals := 32 } : Room).slots (s₁.setTop (entryFrame m #[(.ref a), (.int iv), (.int k), (.long x)] 6))
  rw [own_rm_put_ef]
  show own_Go p e below s _ _ _ (s₁.setTop (mkF m 0 #[.val (.ref a), .val (.int iv), .val (.int k), .val (.long x), .second, .unset] []))
  obtain ⟨g0, L0, R0⟩ := own_AT.ring D hi
  rcases R0 with ⟨hwr, hz, hF⟩ | ⟨b, hwr, LB, gb, nb⟩
  · skip
    show own_Go p e below s _ _ _ (s₁.setTop (mkF m 0 #[.val (.ref a), .val (.int iv), .val (.int k), .val (.long x), .second, .unset] []))
    refine own_st (fun _ kQ => XS.aloadN X0.here hx rfl (hb hby own_d_prog_3_method_11_code_0) rfl rfl kQ) ?_
    show own_Go p e below s _ _ _ (s₁.setTop (mkF m 1 #[.val (.ref a), .val (.int iv), .val (.int k), .val (.long x), .second, .unset] [(.ref a)]))
    have F36 : Fld Z h0 a "com/example/wache/wache/AttemptTimes" "own" "[[J" (.ref ow) := D.fow
    obtain ⟨T37, X37, e37, st37⟩ := getF X0 hx hZ hown (host := "") (Or.inl (hw _ (List.mem_of_getElem? (i := 19) rfl))) Via.refl e0 F36 (g := (mkF m 1 #[.val (.ref a), .val (.int iv), .val (.int k), .val (.long x), .second, .unset] [(.ref a)])) rfl rfl (hb hby own_d_prog_3_method_11_code_1)
    refine own_st st37 ?_
    show own_Go p e below s _ _ _ (T37.setTop (mkF m 4 #[.val (.ref a), .val (.int iv), .val (.int k), .val (.long x), .second, .unset] [(.ref ow)]))
    refine own_st (fun _ kQ => XS.iloadN X37.here hx rfl (hb hby own_d_prog_3_method_11_code_4) rfl kQ) ?_
    show own_Go p e below s _ _ _ (T37.setTop (mkF m 5 #[.val (.ref a), .val (.int iv), .val (.int k), .val (.long x), .second, .unset] [(.int iv), (.ref ow)]))
    have F38 : Arv Z h0 ow ko (.array .long) (2 : Int32) [(fw 0), (fw 1)] .null := D.vow
    obtain ⟨cl39, Ar39, kc39, S39, Nn39, H39, G39⟩ := id F38
    have hin39 : ¬ (iv < 0 ∨ cl39.slots.size ≤ (iv : Int32).toNatClampNeg) := inb_of S39 (own_I.inb hi)
    have hat39 : cl39.slots[(iv : Int32).toNatClampNeg]? = some .null := H39.at hin39 ((own_I.get hi fw _).trans hwr)
    refine own_st (fun _ kQ => X37.aaload hx (j := iv) (v := .null) (own_hp e37 Ar39.1) (State.isArrayOf_alike hZ.alike Ar39.2.1) rfl Ar39.2.2 hin39 hat39 (g := (mkF m 5 #[.val (.ref a), .val (.int iv), .val (.int k), .val (.long x), .second, .unset] [(.int iv), (.ref ow)])) rfl rfl (hb hby own_d_prog_3_method_11_code_5) _ kQ) ?_
    show own_Go p e below s _ _ _ (T37.setTop (mkF m 6 #[.val (.ref a), .val (.int iv), .val (.int k), .val (.long x), .second, .unset] [.null]))
    refine own_st (fun _ kQ => XS.astore X37.here hx rfl (hb hby own_d_prog_3_method_11_code_6) rfl rfl (l' := #[.val (.ref a), .val (.int iv), .val (.int k), .val (.long x), .second, .val .null]) rfl kQ) ?_
    show own_Go p e below s _ _ _ (T37.setTop (mkF m 8 #[.val (.ref a), .val (.int iv), .val (.int k), .val (.long x), .second, .val .null] []))
    refine own_st (fun _ kQ => XS.aload X37.here hx rfl (hb hby own_d_prog_3_method_11_code_8) rfl rfl kQ) ?_
    show own_Go p e below s _ _ _ (T37.setTop (mkF m 10 #[.val (.ref a), .val (.int iv), .val (.int k), .val (.long x), .second, .val .null] [.null]))
    refine own_st (fun _ kQ => XT.ifnonnullNo X37.here hx rfl (hb hby own_d_prog_3_method_11_code_10) rfl kQ) ?_
    show own_Go p e below s _ _ _ (T37.setTop (mkF m 13 #[.val (.ref a), .val (.int iv), .val (.int k), .val (.long x), .second, .val .null] []))
    refine own_st (fun _ kQ => XS.aloadN X37.here hx rfl (hb hby own_d_prog_3_method_11_code_13) rfl rfl kQ) ?_
    show own_Go p e below s _ _ _ (T37.setTop (mkF m 14 #[.val (.ref a), .val (.int iv), .val (.int k), .val (.long x), .second, .val .null] [(.ref a)]))
    have F40 : Fld Z h0 a "com/example/wache/wache/AttemptTimes" "shared" "[J" (.ref sh) := D.fsh
    obtain ⟨T41, X41, e41, st41⟩ := getF X37 hx hZ hown (host := "") (Or.inl (hw _ (List.mem_of_getElem? (i := 15) rfl))) Via.refl e37 F40 (g := (mkF m 14 #[.val (.ref a), .val (.int iv), .val (.int k), .val (.long x), .second, .val .null] [(.ref a)])) rfl rfl (hb hby own_d_prog_3_method_11_code_14)
    refine own_st st41 ?_
    show own_Go p e below s _ _ _ (T41.setTop (mkF m 17 #[.val (.ref a), .val (.int iv), .val (.int k), .val (.long x), .second, .val .null] [(.ref sh)]))
    refine own_st (fun _ kQ => XS.iloadN X41.here hx rfl (hb hby own_d_prog_3_method_11_code_17) rfl kQ) ?_
    show own_Go p e below s _ _ _ (T41.setTop (mkF m 18 #[.val (.ref a), .val (.int iv), .val (.int k), .val (.long x), .second, .val .null] [(.int iv), (.ref sh)]))
    refine own_st (fun _ kQ => XT.iconstV X41.here hx rfl (2 : Int32) (hb hby own_d_prog_3_method_11_code_18) (by decide) kQ) ?_
    show own_Go p e below s _ _ _ (T41.setTop (mkF m 19 #[.val (.ref a), .val (.int iv), .val (.int k), .val (.long x), .second, .val .null] [(.int (2 : Int32)), (.int iv), (.ref sh)]))
    refine own_st (fun _ kQ => XS.imul X41.here hx rfl (hb hby own_d_prog_3_method_11_code_19) rfl kQ) ?_
    show own_Go p e below s _ _ _ (T41.setTop (mkF m 20 #[.val (.ref a), .val (.int iv), .val (.int k), .val (.long x), .second, .val .null] [(.int (iv * (2 : Int32))), (.ref sh)]))
    refine own_st (fun _ kQ => XS.aloadN X41.here hx rfl (hb hby own_d_prog_3_method_11_code_20) rfl rfl kQ) ?_
    show own_Go p e below s _ _ _ (T41.setTop (mkF m 21 #[.val (.ref a), .val (.int iv), .val (.int k), .val (.long x), .second, .val .null] [(.ref a), (.int (iv * (2 : Int32))), (.ref sh)]))
    refine own_st (fun _ kQ => XS.iloadN X41.here hx rfl (hb hby own_d_prog_3_method_11_code_21) rfl kQ) ?_
    show own_Go p e below s _ _ _ (T41.setTop (mkF m 22 #[.val (.ref a), .val (.int iv), .val (.int k), .val (.long x), .second, .val .null] [(.int iv), (.ref a), (.int (iv * (2 : Int32))), (.ref sh)]))
    refine own_st (fun _ kQ => XS.iloadN X41.here hx rfl (hb hby own_d_prog_3_method_11_code_22) rfl kQ) ?_
    show own_Go p e below s _ _ _ (T41.setTop (mkF m 23 #[.val (.ref a), .val (.int iv), .val (.int k), .val (.long x), .second, .val .null] [(.int k), (.int iv), (.ref a), (.int (iv * (2 : Int32))), (.ref sh)]))
    have F43 : Exa Z h0 a "com/example/wache/wache/AttemptTimes" := D.exa
    obtain ⟨cq42, q42, q42'⟩ := F43.cell
    obtain ⟨_, _, ⟨T42, L42, k42, n42⟩, -, X42, ⟨Lc42, hQ42, l42, y42, z42⟩, st42⟩ := X41.privateBack hx (y := (⟨"com/example/wache/wache/AttemptTimes", "index", "(II)I"⟩ : MethodName)) hown (mvT hZ (hw _ (List.mem_of_getElem? (i := 39) rfl))) (mvT hZ (hw _ (List.mem_of_getElem? (i := 40) rfl))) (mvT hZ (own_selP (hw _ (List.mem_of_getElem? (i := 40) rfl)) (hw _ (List.mem_of_getElem? (i := 41) rfl)) (hw _ (List.mem_of_getElem? (i := 2) rfl)) (by decide))) (Cond.privateMethod_at (mvP hZ (hw _ (List.mem_of_getElem? (i := 41) rfl)) (args := #[]))) (mvT hZ (hw _ (List.mem_of_getElem? (i := 42) rfl))) (by decide) (backOf (W := 2) (own_rm_index l Z a0 hw [] iv i a span cap sh ow hd sz ko kh ks fw fh fs fz fF k h0 n0 Z0 D hi) hZ (hw _ (List.mem_of_getElem? (i := 42) rfl)) (hw _ (List.mem_of_getElem? (i := 3) rfl)) (by decide) (by decide)) (g := (mkF m 23 #[.val (.ref a), .val (.int iv), .val (.int k), .val (.long x), .second, .val .null] [(.int k), (.int iv), (.ref a), (.int (iv * (2 : Int32))), (.ref sh)])) rfl (by rw [hml]; rfl) (Steps.refl _) (a := a) (own_hp e41 q42) q42' (argsL := [(.int iv), (.int k)]) (rest := [(.int (iv * (2 : Int32))), (.ref sh)]) (lenOf own_pd1 rfl) rfl (by show 2 * 0 + _ ≤ _; exact Nat.le_of_eq rfl) (hb hby own_d_prog_3_method_11_code_23) (fun _ _ => ⟨rfl, e41, (by decide : 0 + 0 ≤ _), (by decide : 0 + 0 ≤ _)⟩)
    dsimp only [Pt.U, Pt.locs, Pt.cells, Pt.slots] at X42 l42 y42 z42 st42 hQ42
    subst l42 y42 z42
    obtain ⟨N42q, rfl, eh42⟩ := hQ42
    have N44 := Fr.app N0 N42q
    refine own_tr st42 ?_
    show own_Go p e below s _ _ _ (T42.setTop (mkF m 26 #[.val (.ref a), .val (.int iv), .val (.int k), .val (.long x), .second, .val .null] [(.int (own_idx (fh i) k (fz i))), (.int (iv * (2 : Int32))), (.ref sh)]))
    refine own_st (fun _ kQ => XS.iadd X42.here hx rfl (hb hby own_d_prog_3_method_11_code_26) rfl kQ) ?_
    show own_Go p e below s _ _ _ (T42.setTop (mkF m 27 #[.val (.ref a), .val (.int iv), .val (.int k), .val (.long x), .second, .val .null] [(.int ((iv * (2 : Int32)) + (own_idx (fh i) k (fz i)))), (.ref sh)]))
    refine own_st (fun _ kQ => XT.lloadN X42.here hx rfl (hb hby own_d_prog_3_method_11_code_27) rfl kQ) ?_
    show own_Go p e below s _ _ _ (T42.setTop (mkF m 28 #[.val (.ref a), .val (.int iv), .val (.int k), .val (.long x), .second, .val .null] [(.long x), (.int ((iv * (2 : Int32)) + (own_idx (fh i) k (fz i)))), (.ref sh)]))
    obtain ⟨cl45, Ar45, S45, Nn45, H45⟩ := id L0
    have hin45 : ¬ (((iv * (2 : Int32)) + (own_idx (fh i) k (fz i))) < 0 ∨ cl45.slots.size ≤ (((iv * (2 : Int32)) + (own_idx (fh i) k (fz i))) : Int32).toNatClampNeg) := inb_of S45 (own_sh hi hk hz).1
    obtain ⟨T45, h45, X45, e45, W45, st45⟩ := stJ X42 hx hZ eh42 Ar45 (j := ((iv * (2 : Int32)) + (own_idx (fh i) k (fz i)))) hin45 (g := (mkF m 28 #[.val (.ref a), .val (.int iv), .val (.int k), .val (.long x), .second, .val .null] [(.long x), (.int ((iv * (2 : Int32)) + (own_idx (fh i) k (fz i)))), (.ref sh)])) rfl rfl (hb hby own_d_prog_3_method_11_code_28)
    refine own_st st45 ?_
    have N46 := Fr.snoc X45 N44 D.gs.2.1
    have D47 : own_AT Z h45 n0 a span cap sh ow hd sz ko kh ks fw fh fs fz (own_up fF i (own_up (fF i) (own_idx (fh i) k (fz i)).toNatClampNeg x)) := D.setG hi hwr (own_sh hi hk hz).2.2 (own_sh hi hk hz).2.1 W45
    have Zs48 : n0 ≤ h45.size := Nat.le_trans Z0 (Nat.le_of_eq W45.size.symm)
    show own_Go p e below s _ _ _ (T45.setTop (mkF m 29 #[.val (.ref a), .val (.int iv), .val (.int k), .val (.long x), .second, .val .null] []))
    refine own_st (fun _ kQ => XS.goto X45.here hx rfl (pc0 := 29) (pc' := 42) rfl (hb hby own_d_prog_3_method_11_code_29) (by decide) (by decide) kQ) ?_
    show own_Go p e below s _ _ _ (T45.setTop (mkF m 42 #[.val (.ref a), .val (.int iv), .val (.int k), .val (.long x), .second, .val .null] []))
    refine own_ret0 X45 hx hlk Bd.returns (hb hby own_d_prog_3_method_11_code_42) (by decide) (by decide) ?_
    rw [e45]
    exact ⟨(own_up fF i (own_up (fF i) (own_idx (fh i) k (fz i)).toNatClampNeg x)), N46, rfl, D47, ((congrFun (own_up_same _ _ _) _).trans (own_up_same _ _ _)), (fun q hq => own_up_ne hq), (fun q hq => (congrFun (own_up_same _ _ _) q).trans (own_up_ne hq))⟩
  · skip
    show own_Go p e below s _ _ _ (s₁.setTop (mkF m 0 #[.val (.ref a), .val (.int iv), .val (.int k), .val (.long x), .second, .unset] []))
    refine own_st (fun _ kQ => XS.aloadN X0.here hx rfl (hb hby own_d_prog_3_method_11_code_0) rfl rfl kQ) ?_
    show own_Go p e below s _ _ _ (s₁.setTop (mkF m 1 #[.val (.ref a), .val (.int iv), .val (.int k), .val (.long x), .second, .unset] [(.ref a)]))
    have F49 : Fld Z h0 a "com/example/wache/wache/AttemptTimes" "own" "[[J" (.ref ow) := D.fow
    obtain ⟨T50, X50, e50, st50⟩ := getF X0 hx hZ hown (host := "") (Or.inl (hw _ (List.mem_of_getElem? (i := 19) rfl))) Via.refl e0 F49 (g := (mkF m 1 #[.val (.ref a), .val (.int iv), .val (.int k), .val (.long x), .second, .unset] [(.ref a)])) rfl rfl (hb hby own_d_prog_3_method_11_code_1)
    refine own_st st50 ?_
    show own_Go p e below s _ _ _ (T50.setTop (mkF m 4 #[.val (.ref a), .val (.int iv), .val (.int k), .val (.long x), .second, .unset] [(.ref ow)]))
    refine own_st (fun _ kQ => XS.iloadN X50.here hx rfl (hb hby own_d_prog_3_method_11_code_4) rfl kQ) ?_
    show own_Go p e below s _ _ _ (T50.setTop (mkF m 5 #[.val (.ref a), .val (.int iv), .val (.int k), .val (.long x), .second, .unset] [(.int iv), (.ref ow)]))
    have F51 : Arv Z h0 ow ko (.array .long) (2 : Int32) [(fw 0), (fw 1)] .null := D.vow
    obtain ⟨cl52, Ar52, kc52, S52, Nn52, H52, G52⟩ := id F51
    have hin52 : ¬ (iv < 0 ∨ cl52.slots.size ≤ (iv : Int32).toNatClampNeg) := inb_of S52 (own_I.inb hi)
    have hat52 : cl52.slots[(iv : Int32).toNatClampNeg]? = some (.ref b) := H52.at hin52 ((own_I.get hi fw _).trans hwr)
    refine own_st (fun _ kQ => X50.aaload hx (j := iv) (v := (.ref b)) (own_hp e50 Ar52.1) (State.isArrayOf_alike hZ.alike Ar52.2.1) rfl Ar52.2.2 hin52 hat52 (g := (mkF m 5 #[.val (.ref a), .val (.int iv), .val (.int k), .val (.long x), .second, .unset] [(.int iv), (.ref ow)])) rfl rfl (hb hby own_d_prog_3_method_11_code_5) _ kQ) ?_
    show own_Go p e below s _ _ _ (T50.setTop (mkF m 6 #[.val (.ref a), .val (.int iv), .val (.int k), .val (.long x), .second, .unset] [(.ref b)]))
    refine own_st (fun _ kQ => XS.astore X50.here hx rfl (hb hby own_d_prog_3_method_11_code_6) rfl rfl (l' := #[.val (.ref a), .val (.int iv), .val (.int k), .val (.long x), .second, .val (.ref b)]) rfl kQ) ?_
    show own_Go p e below s _ _ _ (T50.setTop (mkF m 8 #[.val (.ref a), .val (.int iv), .val (.int k), .val (.long x), .second, .val (.ref b)] []))
    refine own_st (fun _ kQ => XS.aload X50.here hx rfl (hb hby own_d_prog_3_method_11_code_8) rfl rfl kQ) ?_
    show own_Go p e below s _ _ _ (T50.setTop (mkF m 10 #[.val (.ref a), .val (.int iv), .val (.int k), .val (.long x), .second, .val (.ref b)] [(.ref b)]))
    refine own_st (fun _ kQ => XT.ifnonnullYes X50.here hx rfl (pc0 := 10) (pc' := 32) rfl (hb hby own_d_prog_3_method_11_code_10) rfl (by decide) (by decide) kQ) ?_
    show own_Go p e below s _ _ _ (T50.setTop (mkF m 32 #[.val (.ref a), .val (.int iv), .val (.int k), .val (.long x), .second, .val (.ref b)] []))
    refine own_st (fun _ kQ => XS.aload X50.here hx rfl (hb hby own_d_prog_3_method_11_code_32) rfl rfl kQ) ?_
    show own_Go p e below s _ _ _ (T50.setTop (mkF m 34 #[.val (.ref a), .val (.int iv), .val (.int k), .val (.long x), .second, .val (.ref b)] [(.ref b)]))
    refine own_st (fun _ kQ => XS.aloadN X50.here hx rfl (hb hby own_d_prog_3_method_11_code_34) rfl rfl kQ) ?_
    show own_Go p e below s _ _ _ (T50.setTop (mkF m 35 #[.val (.ref a), .val (.int iv), .val (.int k), .val (.long x), .second, .val (.ref b)] [(.ref a), (.ref b)]))
    refine own_st (fun _ kQ => XS.iloadN X50.here hx rfl (hb hby own_d_prog_3_method_11_code_35) rfl kQ) ?_
    show own_Go p e below s _ _ _ (T50.setTop (mkF m 36 #[.val (.ref a), .val (.int iv), .val (.int k), .val (.long x), .second, .val (.ref b)] [(.int iv), (.ref a), (.ref b)]))
    refine own_st (fun _ kQ => XS.iloadN X50.here hx rfl (hb hby own_d_prog_3_method_11_code_36) rfl kQ) ?_
    show own_Go p e below s _ _ _ (T50.setTop (mkF m 37 #[.val (.ref a), .val (.int iv), .val (.int k), .val (.long x), .second, .val (.ref b)] [(.int k), (.int iv), (.ref a), (.ref b)]))
    have F54 : Exa Z h0 a "com/example/wache/wache/AttemptTimes" := D.exa
    obtain ⟨cq53, q53, q53'⟩ := F54.cell
    obtain ⟨_, _, ⟨T53, L53, k53, n53⟩, -, X53, ⟨Lc53, hQ53, l53, y53, z53⟩, st53⟩ := X50.privateBack hx (y := (⟨"com/example/wache/wache/AttemptTimes", "index", "(II)I"⟩ : MethodName)) hown (mvT hZ (hw _ (List.mem_of_getElem? (i := 39) rfl))) (mvT hZ (hw _ (List.mem_of_getElem? (i := 40) rfl))) (mvT hZ (own_selP (hw _ (List.mem_of_getElem? (i := 40) rfl)) (hw _ (List.mem_of_getElem? (i := 41) rfl)) (hw _ (List.mem_of_getElem? (i := 2) rfl)) (by decide))) (Cond.privateMethod_at (mvP hZ (hw _ (List.mem_of_getElem? (i := 41) rfl)) (args := #[]))) (mvT hZ (hw _ (List.mem_of_getElem? (i := 42) rfl))) (by decide) (backOf (W := 1) (own_rm_index l Z a0 hw [] iv i a span cap sh ow hd sz ko kh ks fw fh fs fz fF k h0 n0 Z0 D hi) hZ (hw _ (List.mem_of_getElem? (i := 42) rfl)) (hw _ (List.mem_of_getElem? (i := 3) rfl)) (by decide) (by decide)) (g := (mkF m 37 #[.val (.ref a), .val (.int iv), .val (.int k), .val (.long x), .second, .val (.ref b)] [(.int k), (.int iv), (.ref a), (.ref b)])) rfl (by rw [hml]; rfl) (Steps.refl _) (a := a) (own_hp e50 q53) q53' (argsL := [(.int iv), (.int k)]) (rest := [(.ref b)]) (lenOf own_pd1 rfl) rfl (by show 2 * 0 + _ ≤ _; exact Nat.le_of_eq rfl) (hb hby own_d_prog_3_method_11_code_37) (fun _ _ => ⟨rfl, e50, (by decide : 0 + 0 ≤ _), (by decide : 0 + 0 ≤ _)⟩)
    dsimp only [Pt.U, Pt.locs, Pt.cells, Pt.slots] at X53 l53 y53 z53 st53 hQ53
    subst l53 y53 z53
    obtain ⟨N53q, rfl, eh53⟩ := hQ53
    have N55 := Fr.app N0 N53q
    refine own_tr st53 ?_
    show own_Go p e below s _ _ _ (T53.setTop (mkF m 40 #[.val (.ref a), .val (.int iv), .val (.int k), .val (.long x), .second, .val (.ref b)] [(.int (own_idx (fh i) k (fz i))), (.ref b)]))
    refine own_st (fun _ kQ => XT.lloadN X53.here hx rfl (hb hby own_d_prog_3_method_11_code_40) rfl kQ) ?_
    show own_Go p e below s _ _ _ (T53.setTop (mkF m 41 #[.val (.ref a), .val (.int iv), .val (.int k), .val (.long x), .second, .val (.ref b)] [(.long x), (.int (own_idx (fh i) k (fz i))), (.ref b)]))
    obtain ⟨cl56, Ar56, S56, Nn56, H56⟩ := id LB
    have hin56 : ¬ ((own_idx (fh i) k (fz i)) < 0 ∨ cl56.slots.size ≤ ((own_idx (fh i) k (fz i)) : Int32).toNatClampNeg) := inb_of S56 hk
    obtain ⟨T56, h56, X56, e56, W56, st56⟩ := stJ X53 hx hZ eh53 Ar56 (j := (own_idx (fh i) k (fz i))) hin56 (g := (mkF m 41 #[.val (.ref a), .val (.int iv), .val (.int k), .val (.long x), .second, .val (.ref b)] [(.long x), (.int (own_idx (fh i) k (fz i))), (.ref b)])) rfl rfl (hb hby own_d_prog_3_method_11_code_41)
    refine own_st st56 ?_
    have N57 := Fr.snoc X56 N55 gb
    have D58 : own_AT Z h56 n0 a span cap sh ow hd sz ko kh ks fw fh fs fz (own_up fF i (own_up (fF i) (own_idx (fh i) k (fz i)).toNatClampNeg x)) := D.setB hi hwr W56
    have Zs59 : n0 ≤ h56.size := Nat.le_trans Z0 (Nat.le_of_eq W56.size.symm)
    show own_Go p e below s _ _ _ (T56.setTop (mkF m 42 #[.val (.ref a), .val (.int iv), .val (.int k), .val (.long x), .second, .val (.ref b)] []))
    refine own_ret0 X56 hx hlk Bd.returns (hb hby own_d_prog_3_method_11_code_42) (by decide) (by decide) ?_
    rw [e56]
    exact ⟨(own_up fF i (own_up (fF i) (own_idx (fh i) k (fz i)).toNatClampNeg x)), N57, rfl, D58, ((congrFun (own_up_same _ _ _) _).trans (own_up_same _ _ _)), (fun q hq => own_up_ne hq), (fun q hq => (congrFun (own_up_same _ _ _) q).trans (own_up_ne hq))⟩
theorem own_d_prog_3_method_8_code_0 : decode prog_3_method_8_code 0 = .ok (.aload_n 0, 1) := by decide +kernel
theorem own_d_prog_3_method_8_code_1 : decode prog_3_method_8_code 1 = .ok (.getfield 26, 3) := by decide +kernel
theorem own_d_prog_3_method_8_code_4 : decode prog_3_method_8_code 4 = .ok (.iload_n 1, 1) := by decide +kernel
theorem own_d_prog_3_method_8_code_5 : decode prog_3_method_8_code 5 = .ok (.aload_n 0, 1) := by decide +kernel
theorem own_d_prog_3_method_8_code_6 : decode prog_3_method_8_code 6 = .ok (.getfield 26, 3) := by decide +kernel
theorem own_d_prog_3_method_8_code_9 : decode prog_3_method_8_code 9 = .ok (.iload_n 1, 1) := by decide +kernel
theorem own_d_prog_3_method_8_code_10 : decode prog_3_method_8_code 10 = .ok (.iaload, 1) := by decide +kernel
theorem own_d_prog_3_method_8_code_11 : decode prog_3_method_8_code 11 = .ok (.iconst 1, 1) := by decide +kernel
theorem own_d_prog_3_method_8_code_12 : decode prog_3_method_8_code 12 = .ok (.iadd, 1) := by decide +kernel
theorem own_d_prog_3_method_8_code_13 : decode prog_3_method_8_code 13 = .ok (.aload_n 0, 1) := by decide +kernel
theorem own_d_prog_3_method_8_code_14 : decode prog_3_method_8_code 14 = .ok (.iload_n 1, 1) := by decide +kernel
theorem own_d_prog_3_method_8_code_15 : decode prog_3_method_8_code 15 = .ok (.invokevirtual 41, 3) := by decide +kernel
theorem own_d_prog_3_method_8_code_18 : decode prog_3_method_8_code 18 = .ok (.irem, 1) := by decide +kernel
theorem own_d_prog_3_method_8_code_19 : decode prog_3_method_8_code 19 = .ok (.iastore, 1) := by decide +kernel
theorem own_d_prog_3_method_8_code_20 : decode prog_3_method_8_code 20 = .ok (.aload_n 0, 1) := by decide +kernel
theorem own_d_prog_3_method_8_code_21 : decode prog_3_method_8_code 21 = .ok (.getfield 30, 3) := by decide +kernel
theorem own_d_prog_3_method_8_code_24 : decode prog_3_method_8_code 24 = .ok (.iload_n 1, 1) := by decide +kernel
theorem own_d_prog_3_method_8_code_25 : decode prog_3_method_8_code 25 = .ok (.dup2, 1) := by decide +kernel
theorem own_d_prog_3_method_8_code_26 : decode prog_3_method_8_code 26 = .ok (.iaload, 1) := by decide +kernel
theorem own_d_prog_3_method_8_code_27 : decode prog_3_method_8_code 27 = .ok (.iconst 1, 1) := by decide +kernel
theorem own_d_prog_3_method_8_code_28 : decode prog_3_method_8_code 28 = .ok (.isub, 1) := by decide +kernel
theorem own_d_prog_3_method_8_code_29 : decode prog_3_method_8_code 29 = .ok (.iastore, 1) := by decide +kernel
theorem own_d_prog_3_method_8_code_30 : decode prog_3_method_8_code 30 = .ok (.return_, 1) := by decide +kernel
theorem own_pn4 : plainFor (⟨"com/example/wache/wache/AttemptTimes", "dropOldest", "(I)V"⟩ : MethodName) = true := by decide +kernel
def own_rm_drop_Q (Z : State) (iv : Int32) (i : Nat) (a : Addr) (span : Int64) (cap : Int32) (sh : Addr) (ow : Addr) (hd : Addr) (sz : Addr) (ko : ClassId) (kh : ClassId) (ks : ClassId) (fw : Nat → Value) (fh : Nat → Int32) (fs : Nat → Int32) (fz : Nat → Int32) (fF : Nat → Nat → Int64) (h0 : Heap) (n0 : Nat) (v : Option Value) (h : Heap) (L : List Loc) : Prop := ∃ fh2 : Nat → Int32, ∃ fs2 : Nat → Int32, Fr n0 L ∧ v = none ∧ own_AT Z h n0 a span cap sh ow hd sz ko kh ks fw fh2 fs2 fz fF ∧ fh2 i = (((fh i) + (1 : Int32)) % (fz i)) ∧ fs2 i = ((fs i) - (1 : Int32)) ∧ (∀ q, q ≠ i → fh2 q = fh q ∧ fs2 q = fs q)
theorem own_rm_drop_ef (m : MethodId) (a : Addr) (iv : Int32)  : entryFrame m #[(.ref a), (.int iv)] 2 = mkF m 0 #[.val (.ref a), .val (.int iv)] [] := by first | (simp [entryFrame, mkF, argsToLocals, Value.category]; done) | rfl
set_option maxRecDepth 65536 in
set_option maxHeartbeats 40000000 in
theorem own_rm_drop (l : Launch) (Z : State) (a0 : Array Value) (hw : ∀ d ∈ tables_1, d.before a0 Z = true) (ws : List Jvm.Cond) (iv : Int32) (i : Nat) (a : Addr) (span : Int64) (cap : Int32) (sh : Addr) (ow : Addr) (hd : Addr) (sz : Addr) (ko : ClassId) (kh : ClassId) (ks : ClassId) (fw : Nat → Value) (fh : Nat → Int32) (fs : Nat → Int32) (fz : Nat → Int32) (fF : Nat → Nat → Int64) (h0 : Heap) (n0 : Nat) (Z0 : n0 ≤ h0.size) (D : own_AT Z h0 n0 a span cap sh ow hd sz ko kh ks fw fh fs fz fF) (hi : own_I iv i) (hnz : (fz i) ≠ 0) :
    MetFree l (⟨"com/example/wache/wache/AttemptTimes", "dropOldest", "(I)V"⟩ : MethodName) (head1 (Jvm.Cond.code (⟨"com/example/wache/wache/AttemptTimes", "dropOldest", "(I)V"⟩ : MethodName) prog_3_method_8_code 2 none :: ws) ({ frames := 1, cells := 0, slots := 0, locals := 17 } : Room)) (fun aQ UQ => aQ = #[(.ref a), (.int iv)] ∧ Z.Warmed39 UQ.vm ∧ UQ.heap = h0) (fun _ _ _ _ _ => True) (fun _ UQ oQ U2 => ∃ vQ LQ, oQ = .returned vQ ∧ own_rm_drop_Q Z iv i a span cap sh ow hd sz ko kh ks fw fh fs fz fF h0 n0 vQ U2.heap LQ ∧ FrameEnd UQ oQ U2 LQ ({ frames := 1, cells := 0, slots := 0, locals := 17 } : Room).cells ({ frames := 1, cells := 0, slots := 0, locals := 17 } : Room).slots) := by
  refine MetFree.of_bodySF own_pn4 hisR ?_
  intro p e s m args below meth c s₁ Bd hml0 hP hK
  obtain ⟨rfl, hZ, hh⟩ := hP
  have hx := Bd.exec
  have hby := Bd.bytes
  have hml : c.maxLocals = 2 := hml0
  have hlk := BodyLoose.notSynchronized Bd
  have hown : s.vm.findClass "com/example/wache/wache/AttemptTimes" = some m.cls := findClass_of_methodNamed Bd.named
  have hnm := (name_of_methodNamed Bd.named Bd.method).1
  have X0 : Stand p l e ({ frames := 1, cells := 0, slots := 0, locals := 17 } : Room) s m #[(.ref a), (.int iv)] below meth c s₁ [] 0 0 := Stand.of_body Bd
  have e0 : s₁.heap = h0 := by rw [← hh, Bd.state]; rfl
  have N0 := Fr.nil n0
  show own_Go p e below s (own_rm_drop_Q Z iv i a span cap sh ow hd sz ko kh ks fw fh fs fz fF h0 n0) ({ frames := 1, cells := 0, slots := 0, locals := 17 } : Room).cells ({ frames := 1, cells := 0, slots := 0, locals := 17 } : Room).slots (s₁.setTop (entryFrame m #[(.ref a), (.int iv)] 2))
  rw [own_rm_drop_ef]
  show own_Go p e below s _ _ _ (s₁.setTop (mkF m 0 #[.val (.ref a), .val (.int iv)] []))
  refine own_st (fun _ kQ => XS.aloadN X0.here hx rfl (hb hby own_d_prog_3_method_8_code_0) rfl rfl kQ) ?_
  show own_Go p e below s _ _ _ (s₁.setTop (mkF m 1 #[.val (.ref a), .val (.int iv)] [(.ref a)]))
  have F60 : Fld Z h0 a "com/example/wache/wache/AttemptTimes" "heads" "[I" (.ref hd) := D.fhd
  obtain ⟨T61, X61, e61, st61⟩ := getF X0 hx hZ hown (host := "") (Or.inl (hw _ (List.mem_of_getElem? (i := 22) rfl))) Via.refl e0 F60 (g := (mkF m 1 #[.val (.ref a), .val (.int iv)] [(.ref a)])) rfl rfl (hb hby own_d_prog_3_method_8_code_1)
  refine own_st st61 ?_
  show own_Go p e below s _ _ _ (T61.setTop (mkF m 4 #[.val (.ref a), .val (.int iv)] [(.ref hd)]))
  refine own_st (fun _ kQ => XS.iloadN X61.here hx rfl (hb hby own_d_prog_3_method_8_code_4) rfl kQ) ?_
  show own_Go p e below s _ _ _ (T61.setTop (mkF m 5 #[.val (.ref a), .val (.int iv)] [(.int iv), (.ref hd)]))
  refine own_st (fun _ kQ => XS.aloadN X61.here hx rfl (hb hby own_d_prog_3_method_8_code_5) rfl rfl kQ) ?_
  show own_Go p e below s _ _ _ (T61.setTop (mkF m 6 #[.val (.ref a), .val (.int iv)] [(.ref a), (.int iv), (.ref hd)]))
  have F62 : Fld Z h0 a "com/example/wache/wache/AttemptTimes" "heads" "[I" (.ref hd) := D.fhd
  obtain ⟨T63, X63, e63, st63⟩ := getF X61 hx hZ hown (host := "") (Or.inl (hw _ (List.mem_of_getElem? (i := 22) rfl))) Via.refl e61 F62 (g := (mkF m 6 #[.val (.ref a), .val (.int iv)] [(.ref a), (.int iv), (.ref hd)])) rfl rfl (hb hby own_d_prog_3_method_8_code_6)
  refine own_st st63 ?_
  show own_Go p e below s _ _ _ (T63.setTop (mkF m 9 #[.val (.ref a), .val (.int iv)] [(.ref hd), (.int iv), (.ref hd)]))
  refine own_st (fun _ kQ => XS.iloadN X63.here hx rfl (hb hby own_d_prog_3_method_8_code_9) rfl kQ) ?_
  show own_Go p e below s _ _ _ (T63.setTop (mkF m 10 #[.val (.ref a), .val (.int iv)] [(.int iv), (.ref hd), (.int iv), (.ref hd)]))
  have F64 : Arv Z h0 hd kh .int (2 : Int32) [(.int (fh 0)), (.int (fh 1))] (.int (0 : Int32)) := D.vhd
  obtain ⟨cl65, Ar65, kc65, S65, Nn65, H65, G65⟩ := id F64
  have hin65 : ¬ (iv < 0 ∨ cl65.slots.size ≤ (iv : Int32).toNatClampNeg) := inb_of S65 (own_I.inb hi)
  have hat65 : cl65.slots[(iv : Int32).toNatClampNeg]? = some (.int (fh i)) := H65.at hin65 (own_I.getI hi fh _)
  refine own_st (fun _ kQ => X63.iaload hx (j := iv) (v := (.int (fh i))) (own_hp e63 Ar65.1) (State.isArrayOf_alike hZ.alike Ar65.2.1) Ar65.2.2 hin65 hat65 (g := (mkF m 10 #[.val (.ref a), .val (.int iv)] [(.int iv), (.ref hd), (.int iv), (.ref hd)])) rfl rfl (hb hby own_d_prog_3_method_8_code_10) _ kQ) ?_
  show own_Go p e below s _ _ _ (T63.setTop (mkF m 11 #[.val (.ref a), .val (.int iv)] [(.int (fh i)), (.int iv), (.ref hd)]))
  refine own_st (fun _ kQ => XT.iconstV X63.here hx rfl (1 : Int32) (hb hby own_d_prog_3_method_8_code_11) (by decide) kQ) ?_
  show own_Go p e below s _ _ _ (T63.setTop (mkF m 12 #[.val (.ref a), .val (.int iv)] [(.int (1 : Int32)), (.int (fh i)), (.int iv), (.ref hd)]))
  refine own_st (fun _ kQ => XS.iadd X63.here hx rfl (hb hby own_d_prog_3_method_8_code_12) rfl kQ) ?_
  show own_Go p e below s _ _ _ (T63.setTop (mkF m 13 #[.val (.ref a), .val (.int iv)] [(.int ((fh i) + (1 : Int32))), (.int iv), (.ref hd)]))
  refine own_st (fun _ kQ => XS.aloadN X63.here hx rfl (hb hby own_d_prog_3_method_8_code_13) rfl rfl kQ) ?_
  show own_Go p e below s _ _ _ (T63.setTop (mkF m 14 #[.val (.ref a), .val (.int iv)] [(.ref a), (.int ((fh i) + (1 : Int32))), (.int iv), (.ref hd)]))
  refine own_st (fun _ kQ => XS.iloadN X63.here hx rfl (hb hby own_d_prog_3_method_8_code_14) rfl kQ) ?_
  show own_Go p e below s _ _ _ (T63.setTop (mkF m 15 #[.val (.ref a), .val (.int iv)] [(.int iv), (.ref a), (.int ((fh i) + (1 : Int32))), (.int iv), (.ref hd)]))
  have F67 : Exa Z h0 a "com/example/wache/wache/AttemptTimes" := D.exa
  obtain ⟨cq66, q66, q66'⟩ := F67.cell
  obtain ⟨_, _, ⟨T66, L66, k66, n66⟩, -, X66, ⟨Lc66, hQ66, l66, y66, z66⟩, st66⟩ := X63.privateBack hx (y := (⟨"com/example/wache/wache/AttemptTimes", "length", "(I)I"⟩ : MethodName)) hown (mvT hZ (hw _ (List.mem_of_getElem? (i := 31) rfl))) (mvT hZ (hw _ (List.mem_of_getElem? (i := 32) rfl))) (mvT hZ (own_selP (hw _ (List.mem_of_getElem? (i := 32) rfl)) (hw _ (List.mem_of_getElem? (i := 33) rfl)) (hw _ (List.mem_of_getElem? (i := 2) rfl)) (by decide))) (Cond.privateMethod_at (mvP hZ (hw _ (List.mem_of_getElem? (i := 33) rfl)) (args := #[]))) (mvT hZ (hw _ (List.mem_of_getElem? (i := 34) rfl))) (by decide) (backOf (W := 3) (own_rm_length l Z a0 hw [] iv i a span cap sh ow hd sz ko kh ks fw fh fs fz fF h0 n0 Z0 D hi) hZ (hw _ (List.mem_of_getElem? (i := 34) rfl)) (hw _ (List.mem_of_getElem? (i := 3) rfl)) (by decide) (by decide)) (g := (mkF m 15 #[.val (.ref a), .val (.int iv)] [(.int iv), (.ref a), (.int ((fh i) + (1 : Int32))), (.int iv), (.ref hd)])) rfl (by rw [hml]; rfl) (Steps.refl _) (a := a) (own_hp e63 q66) q66' (argsL := [(.int iv)]) (rest := [(.int ((fh i) + (1 : Int32))), (.int iv), (.ref hd)]) (lenOf own_pd0 rfl) rfl (by show 2 * 0 + _ ≤ _; exact Nat.le_of_eq rfl) (hb hby own_d_prog_3_method_8_code_15) (fun _ _ => ⟨rfl, e63, (by decide : 0 + 0 ≤ _), (by decide : 0 + 0 ≤ _)⟩)
  dsimp only [Pt.U, Pt.locs, Pt.cells, Pt.slots] at X66 l66 y66 z66 st66 hQ66
  subst l66 y66 z66
  obtain ⟨N66q, rfl, eh66⟩ := hQ66
  have N68 := Fr.app N0 N66q
  refine own_tr st66 ?_
  show own_Go p e below s _ _ _ (T66.setTop (mkF m 18 #[.val (.ref a), .val (.int iv)] [(.int (fz i)), (.int ((fh i) + (1 : Int32))), (.int iv), (.ref hd)]))
  refine own_st (fun _ kQ => iremM X66 hx rfl (hb hby own_d_prog_3_method_8_code_18) rfl hnz kQ) ?_
  show own_Go p e below s _ _ _ (T66.setTop (mkF m 19 #[.val (.ref a), .val (.int iv)] [(.int (((fh i) + (1 : Int32)) % (fz i))), (.int iv), (.ref hd)]))
  have F70 : Arv Z h0 hd kh .int (2 : Int32) [(.int (fh 0)), (.int (fh 1))] (.int (0 : Int32)) := D.vhd
  obtain ⟨cl69, Ar69, kc69, S69, Nn69, H69, G69⟩ := id F70
  have hin69 : ¬ (iv < 0 ∨ cl69.slots.size ≤ (iv : Int32).toNatClampNeg) := inb_of S69 (own_I.inb hi)
  obtain ⟨T69, h69, X69, e69, W69, st69⟩ := stI X66 hx hZ eh66 Ar69 (j := iv) hin69 (g := (mkF m 19 #[.val (.ref a), .val (.int iv)] [(.int (((fh i) + (1 : Int32)) % (fz i))), (.int iv), (.ref hd)])) rfl rfl (hb hby own_d_prog_3_method_8_code_19)
  refine own_st st69 ?_
  have N71 := Fr.snoc X69 N68 D.gs.2.2.2.1
  have D72 : own_AT Z h69 n0 a span cap sh ow hd sz ko kh ks fw (own_up fh i (((fh i) + (1 : Int32)) % (fz i))) fs fz fF := D.setH hi W69
  have Zs73 : n0 ≤ h69.size := Nat.le_trans Z0 (Nat.le_of_eq W69.size.symm)
  show own_Go p e below s _ _ _ (T69.setTop (mkF m 20 #[.val (.ref a), .val (.int iv)] []))
  refine own_st (fun _ kQ => XS.aloadN X69.here hx rfl (hb hby own_d_prog_3_method_8_code_20) rfl rfl kQ) ?_
  show own_Go p e below s _ _ _ (T69.setTop (mkF m 21 #[.val (.ref a), .val (.int iv)] [(.ref a)]))
  have F74 : Fld Z h69 a "com/example/wache/wache/AttemptTimes" "sizes" "[I" (.ref sz) := D72.fsz
  obtain ⟨T75, X75, e75, st75⟩ := getF X69 hx hZ hown (host := "") (Or.inl (hw _ (List.mem_of_getElem? (i := 24) rfl))) Via.refl e69 F74 (g := (mkF m 21 #[.val (.ref a), .val (.int iv)] [(.ref a)])) rfl rfl (hb hby own_d_prog_3_method_8_code_21)
  refine own_st st75 ?_
  show own_Go p e below s _ _ _ (T75.setTop (mkF m 24 #[.val (.ref a), .val (.int iv)] [(.ref sz)]))
  refine own_st (fun _ kQ => XS.iloadN X75.here hx rfl (hb hby own_d_prog_3_method_8_code_24) rfl kQ) ?_
  show own_Go p e below s _ _ _ (T75.setTop (mkF m 25 #[.val (.ref a), .val (.int iv)] [(.int iv), (.ref sz)]))
  refine own_st (fun _ kQ => XT.dup2 X75.here hx rfl (hb hby own_d_prog_3_method_8_code_25) rfl rfl rfl kQ) ?_
  show own_Go p e below s _ _ _ (T75.setTop (mkF m 26 #[.val (.ref a), .val (.int iv)] [(.int iv), (.ref sz), (.int iv), (.ref sz)]))
  have F76 : Arv Z h69 sz ks .int (2 : Int32) [(.int (fs 0)), (.int (fs 1))] (.int (0 : Int32)) := D72.vsz
  obtain ⟨cl77, Ar77, kc77, S77, Nn77, H77, G77⟩ := id F76
  have hin77 : ¬ (iv < 0 ∨ cl77.slots.size ≤ (iv : Int32).toNatClampNeg) := inb_of S77 (own_I.inb hi)
  have hat77 : cl77.slots[(iv : Int32).toNatClampNeg]? = some (.int (fs i)) := H77.at hin77 (own_I.getI hi fs _)
  refine own_st (fun _ kQ => X75.iaload hx (j := iv) (v := (.int (fs i))) (own_hp e75 Ar77.1) (State.isArrayOf_alike hZ.alike Ar77.2.1) Ar77.2.2 hin77 hat77 (g := (mkF m 26 #[.val (.ref a), .val (.int iv)] [(.int iv), (.ref sz), (.int iv), (.ref sz)])) rfl rfl (hb hby own_d_prog_3_method_8_code_26) _ kQ) ?_
  show own_Go p e below s _ _ _ (T75.setTop (mkF m 27 #[.val (.ref a), .val (.int iv)] [(.int (fs i)), (.int iv), (.ref sz)]))
  refine own_st (fun _ kQ => XT.iconstV X75.here hx rfl (1 : Int32) (hb hby own_d_prog_3_method_8_code_27) (by decide) kQ) ?_
  show own_Go p e below s _ _ _ (T75.setTop (mkF m 28 #[.val (.ref a), .val (.int iv)] [(.int (1 : Int32)), (.int (fs i)), (.int iv), (.ref sz)]))
  refine own_st (fun _ kQ => XS.isub X75.here hx rfl (hb hby own_d_prog_3_method_8_code_28) rfl kQ) ?_
  show own_Go p e below s _ _ _ (T75.setTop (mkF m 29 #[.val (.ref a), .val (.int iv)] [(.int ((fs i) - (1 : Int32))), (.int iv), (.ref sz)]))
  have F79 : Arv Z h69 sz ks .int (2 : Int32) [(.int (fs 0)), (.int (fs 1))] (.int (0 : Int32)) := D72.vsz
  obtain ⟨cl78, Ar78, kc78, S78, Nn78, H78, G78⟩ := id F79
  have hin78 : ¬ (iv < 0 ∨ cl78.slots.size ≤ (iv : Int32).toNatClampNeg) := inb_of S78 (own_I.inb hi)
  obtain ⟨T78, h78, X78, e78, W78, st78⟩ := stI X75 hx hZ e75 Ar78 (j := iv) hin78 (g := (mkF m 29 #[.val (.ref a), .val (.int iv)] [(.int ((fs i) - (1 : Int32))), (.int iv), (.ref sz)])) rfl rfl (hb hby own_d_prog_3_method_8_code_29)
  refine own_st st78 ?_
  have N80 := Fr.snoc X78 N71 D72.gs.2.2.2.2
  have D81 : own_AT Z h78 n0 a span cap sh ow hd sz ko kh ks fw (own_up fh i (((fh i) + (1 : Int32)) % (fz i))) (own_up fs i ((fs i) - (1 : Int32))) fz fF := D72.setS hi W78
  have Zs82 : n0 ≤ h78.size := Nat.le_trans Zs73 (Nat.le_of_eq W78.size.symm)
  show own_Go p e below s _ _ _ (T78.setTop (mkF m 30 #[.val (.ref a), .val (.int iv)] []))
  refine own_ret0 X78 hx hlk Bd.returns (hb hby own_d_prog_3_method_8_code_30) (by decide) (by decide) ?_
  rw [e78]
  exact ⟨(own_up fh i (((fh i) + (1 : Int32)) % (fz i))), (own_up fs i ((fs i) - (1 : Int32))), N80, rfl, D81, (own_up_same _ _ _), (own_up_same _ _ _), (fun q hq => ⟨own_up_ne hq, own_up_ne hq⟩)⟩
theorem own_d_prog_3_method_3_code_0 : decode prog_3_method_3_code 0 = .ok (.aload_n 0, 1) := by decide +kernel
theorem own_d_prog_3_method_3_code_1 : decode prog_3_method_3_code 1 = .ok (.iload_n 1, 1) := by decide +kernel
theorem own_d_prog_3_method_3_code_2 : decode prog_3_method_3_code 2 = .ok (.aload_n 0, 1) := by decide +kernel
theorem own_d_prog_3_method_3_code_3 : decode prog_3_method_3_code 3 = .ok (.getfield 30, 3) := by decide +kernel
theorem own_d_prog_3_method_3_code_6 : decode prog_3_method_3_code 6 = .ok (.iload_n 1, 1) := by decide +kernel
theorem own_d_prog_3_method_3_code_7 : decode prog_3_method_3_code 7 = .ok (.iaload, 1) := by decide +kernel
theorem own_d_prog_3_method_3_code_8 : decode prog_3_method_3_code 8 = .ok (.iconst 1, 1) := by decide +kernel
theorem own_d_prog_3_method_3_code_9 : decode prog_3_method_3_code 9 = .ok (.isub, 1) := by decide +kernel
theorem own_d_prog_3_method_3_code_10 : decode prog_3_method_3_code 10 = .ok (.invokevirtual 33, 3) := by decide +kernel
theorem own_d_prog_3_method_3_code_13 : decode prog_3_method_3_code 13 = .ok (.lreturn, 1) := by decide +kernel
theorem own_pn5 : plainFor (⟨"com/example/wache/wache/AttemptTimes", "latest", "(I)J"⟩ : MethodName) = true := by decide +kernel
theorem own_pd2 : parseMethodDescriptor "(II)J" = some ⟨[.int, .int], some .long⟩ := by decide +kernel
def own_rm_latest_Q (Z : State) (iv : Int32) (i : Nat) (a : Addr) (span : Int64) (cap : Int32) (sh : Addr) (ow : Addr) (hd : Addr) (sz : Addr) (ko : ClassId) (kh : ClassId) (ks : ClassId) (fw : Nat → Value) (fh : Nat → Int32) (fs : Nat → Int32) (fz : Nat → Int32) (fF : Nat → Nat → Int64) (h0 : Heap) (n0 : Nat) (v : Option Value) (h : Heap) (L : List Loc) : Prop := Fr n0 L ∧ v = some (.long (fF i (own_idx (fh i) ((fs i) - (1 : Int32)) (fz i)).toNatClampNeg)) ∧ h = h0
theorem own_rm_latest_ef (m : MethodId) (a : Addr) (iv : Int32)  : entryFrame m #[(.ref a), (.int iv)] 2 = mkF m 0 #[.val (.ref a), .val (.int iv)] [] := by first | (simp [entryFrame, mkF, argsToLocals, Value.category]; done) | rfl
set_option maxRecDepth 65536 in
set_option maxHeartbeats 40000000 in
theorem own_rm_latest (l : Launch) (Z : State) (a0 : Array Value) (hw : ∀ d ∈ tables_1, d.before a0 Z = true) (ws : List Jvm.Cond) (iv : Int32) (i : Nat) (a : Addr) (span : Int64) (cap : Int32) (sh : Addr) (ow : Addr) (hd : Addr) (sz : Addr) (ko : ClassId) (kh : ClassId) (ks : ClassId) (fw : Nat → Value) (fh : Nat → Int32) (fs : Nat → Int32) (fz : Nat → Int32) (fF : Nat → Nat → Int64) (h0 : Heap) (n0 : Nat) (Z0 : n0 ≤ h0.size) (D : own_AT Z h0 n0 a span cap sh ow hd sz ko kh ks fw fh fs fz fF) (hi : own_I iv i) (hl : ¬ (own_idx (fh i) ((fs i) - (1 : Int32)) (fz i)) < 0 ∧ (own_idx (fh i) ((fs i) - (1 : Int32)) (fz i)) < (fz i)) :
    MetFree l (⟨"com/example/wache/wache/AttemptTimes", "latest", "(I)J"⟩ : MethodName) (head1 (Jvm.Cond.code (⟨"com/example/wache/wache/AttemptTimes", "latest", "(I)J"⟩ : MethodName) prog_3_method_3_code 2 (some .long) :: ws) ({ frames := 3, cells := 0, slots := 0, locals := 47 } : Room)) (fun aQ UQ => aQ = #[(.ref a), (.int iv)] ∧ Z.Warmed39 UQ.vm ∧ UQ.heap = h0) (fun _ _ _ _ _ => True) (fun _ UQ oQ U2 => ∃ vQ LQ, oQ = .returned vQ ∧ own_rm_latest_Q Z iv i a span cap sh ow hd sz ko kh ks fw fh fs fz fF h0 n0 vQ U2.heap LQ ∧ FrameEnd UQ oQ U2 LQ ({ frames := 3, cells := 0, slots := 0, locals := 47 } : Room).cells ({ frames := 3, cells := 0, slots := 0, locals := 47 } : Room).slots) := by
  refine MetFree.of_bodySF own_pn5 hisR ?_
  intro p e s m args below meth c s₁ Bd hml0 hP hK
  obtain ⟨rfl, hZ, hh⟩ := hP
  have hx := Bd.exec
  have hby := Bd.bytes
  have hml : c.maxLocals = 2 := hml0
  have hlk := BodyLoose.notSynchronized Bd
  have hown : s.vm.findClass "com/example/wache/wache/AttemptTimes" = some m.cls := findClass_of_methodNamed Bd.named
  have hnm := (name_of_methodNamed Bd.named Bd.method).1
  have X0 : Stand p l e ({ frames := 3, cells := 0, slots := 0, locals := 47 } : Room) s m #[(.ref a), (.int iv)] below meth c s₁ [] 0 0 := Stand.of_body Bd
  have e0 : s₁.heap = h0 := by rw [← hh, Bd.state]; rfl
  have N0 := Fr.nil n0
  show own_Go p e below s (own_rm_latest_Q Z iv i a span cap sh ow hd sz ko kh ks fw fh fs fz fF h0 n0) ({ frames := 3, cells := 0, slots := 0, locals := 47 } : Room).cells ({ frames := 3, cells := 0, slots := 0, locals := 47 } : Room).slots (s₁.setTop (entryFrame m #[(.ref a), (.int iv)] 2))
  rw [own_rm_latest_ef]
  show own_Go p e below s _ _ _ (s₁.setTop (mkF m 0 #[.val (.ref a), .val (.int iv)] []))
  refine own_st (fun _ kQ => XS.aloadN X0.here hx rfl (hb hby own_d_prog_3_method_3_code_0) rfl rfl kQ) ?_
  show own_Go p e below s _ _ _ (s₁.setTop (mkF m 1 #[.val (.ref a), .val (.int iv)] [(.ref a)]))
  refine own_st (fun _ kQ => XS.iloadN X0.here hx rfl (hb hby own_d_prog_3_method_3_code_1) rfl kQ) ?_
  show own_Go p e below s _ _ _ (s₁.setTop (mkF m 2 #[.val (.ref a), .val (.int iv)] [(.int iv), (.ref a)]))
  refine own_st (fun _ kQ => XS.aloadN X0.here hx rfl (hb hby own_d_prog_3_method_3_code_2) rfl rfl kQ) ?_
  show own_Go p e below s _ _ _ (s₁.setTop (mkF m 3 #[.val (.ref a), .val (.int iv)] [(.ref a), (.int iv), (.ref a)]))
  have F83 : Fld Z h0 a "com/example/wache/wache/AttemptTimes" "sizes" "[I" (.ref sz) := D.fsz
  obtain ⟨T84, X84, e84, st84⟩ := getF X0 hx hZ hown (host := "") (Or.inl (hw _ (List.mem_of_getElem? (i := 24) rfl))) Via.refl e0 F83 (g := (mkF m 3 #[.val (.ref a), .val (.int iv)] [(.ref a), (.int iv), (.ref a)])) rfl rfl (hb hby own_d_prog_3_method_3_code_3)
  refine own_st st84 ?_
  show own_Go p e below s _ _ _ (T84.setTop (mkF m 6 #[.val (.ref a), .val (.int iv)] [(.ref sz), (.int iv), (.ref a)]))
  refine own_st (fun _ kQ => XS.iloadN X84.here hx rfl (hb hby own_d_prog_3_method_3_code_6) rfl kQ) ?_
  show own_Go p e below s _ _ _ (T84.setTop (mkF m 7 #[.val (.ref a), .val (.int iv)] [(.int iv), (.ref sz), (.int iv), (.ref a)]))
  have F85 : Arv Z h0 sz ks .int (2 : Int32) [(.int (fs 0)), (.int (fs 1))] (.int (0 : Int32)) := D.vsz
  obtain ⟨cl86, Ar86, kc86, S86, Nn86, H86, G86⟩ := id F85
  have hin86 : ¬ (iv < 0 ∨ cl86.slots.size ≤ (iv : Int32).toNatClampNeg) := inb_of S86 (own_I.inb hi)
  have hat86 : cl86.slots[(iv : Int32).toNatClampNeg]? = some (.int (fs i)) := H86.at hin86 (own_I.getI hi fs _)
  refine own_st (fun _ kQ => X84.iaload hx (j := iv) (v := (.int (fs i))) (own_hp e84 Ar86.1) (State.isArrayOf_alike hZ.alike Ar86.2.1) Ar86.2.2 hin86 hat86 (g := (mkF m 7 #[.val (.ref a), .val (.int iv)] [(.int iv), (.ref sz), (.int iv), (.ref a)])) rfl rfl (hb hby own_d_prog_3_method_3_code_7) _ kQ) ?_
  show own_Go p e below s _ _ _ (T84.setTop (mkF m 8 #[.val (.ref a), .val (.int iv)] [(.int (fs i)), (.int iv), (.ref a)]))
  refine own_st (fun _ kQ => XT.iconstV X84.here hx rfl (1 : Int32) (hb hby own_d_prog_3_method_3_code_8) (by decide) kQ) ?_
  show own_Go p e below s _ _ _ (T84.setTop (mkF m 9 #[.val (.ref a), .val (.int iv)] [(.int (1 : Int32)), (.int (fs i)), (.int iv), (.ref a)]))
  refine own_st (fun _ kQ => XS.isub X84.here hx rfl (hb hby own_d_prog_3_method_3_code_9) rfl kQ) ?_
  show own_Go p e below s _ _ _ (T84.setTop (mkF m 10 #[.val (.ref a), .val (.int iv)] [(.int ((fs i) - (1 : Int32))), (.int iv), (.ref a)]))
  have F88 : Exa Z h0 a "com/example/wache/wache/AttemptTimes" := D.exa
  obtain ⟨cq87, q87, q87'⟩ := F88.cell
  obtain ⟨_, _, ⟨T87, L87, k87, n87⟩, -, X87, ⟨Lc87, hQ87, l87, y87, z87⟩, st87⟩ := X84.privateBack hx (y := (⟨"com/example/wache/wache/AttemptTimes", "get", "(II)J"⟩ : MethodName)) hown (mvT hZ (hw _ (List.mem_of_getElem? (i := 48) rfl))) (mvT hZ (hw _ (List.mem_of_getElem? (i := 49) rfl))) (mvT hZ (own_selP (hw _ (List.mem_of_getElem? (i := 49) rfl)) (hw _ (List.mem_of_getElem? (i := 50) rfl)) (hw _ (List.mem_of_getElem? (i := 2) rfl)) (by decide))) (Cond.privateMethod_at (mvP hZ (hw _ (List.mem_of_getElem? (i := 50) rfl)) (args := #[]))) (mvT hZ (hw _ (List.mem_of_getElem? (i := 51) rfl))) (by decide) (backOf (W := 0) (own_rm_get l Z a0 hw [] iv i a span cap sh ow hd sz ko kh ks fw fh fs fz fF ((fs i) - (1 : Int32)) h0 n0 Z0 D hi hl) hZ (hw _ (List.mem_of_getElem? (i := 51) rfl)) (hw _ (List.mem_of_getElem? (i := 3) rfl)) (by decide) (by decide)) (g := (mkF m 10 #[.val (.ref a), .val (.int iv)] [(.int ((fs i) - (1 : Int32))), (.int iv), (.ref a)])) rfl (by rw [hml]; rfl) (Steps.refl _) (a := a) (own_hp e84 q87) q87' (argsL := [(.int iv), (.int ((fs i) - (1 : Int32)))]) (rest := []) (lenOf own_pd2 rfl) rfl (by show 2 * 0 + _ ≤ _; exact Nat.le_of_eq rfl) (hb hby own_d_prog_3_method_3_code_10) (fun _ _ => ⟨rfl, e84, (by decide : 0 + 0 ≤ _), (by decide : 0 + 0 ≤ _)⟩)
  dsimp only [Pt.U, Pt.locs, Pt.cells, Pt.slots] at X87 l87 y87 z87 st87 hQ87
  subst l87 y87 z87
  obtain ⟨N87q, rfl, eh87⟩ := hQ87
  have N89 := Fr.app N0 N87q
  refine own_tr st87 ?_
  show own_Go p e below s _ _ _ (T87.setTop (mkF m 13 #[.val (.ref a), .val (.int iv)] [(.long (fF i (own_idx (fh i) ((fs i) - (1 : Int32)) (fz i)).toNatClampNeg))]))
  refine own_retJ X87 hx hlk Bd.returns (hb hby own_d_prog_3_method_3_code_13) (by decide) (by decide) ?_
  rw [eh87]
  exact ⟨N89, rfl, rfl⟩
theorem own_d_jdk_29_method_70_code_0 : decode jdk_29_method_70_code 0 = .ok (.lload_n 0, 1) := by decide +kernel
theorem own_d_jdk_29_method_70_code_1 : decode jdk_29_method_70_code 1 = .ok (.lload_n 2, 1) := by decide +kernel
theorem own_d_jdk_29_method_70_code_2 : decode jdk_29_method_70_code 2 = .ok (.lcmp, 1) := by decide +kernel
theorem own_d_jdk_29_method_70_code_3 : decode jdk_29_method_70_code 3 = .ok (.ifCond .gt 7, 3) := by decide +kernel
theorem own_d_jdk_29_method_70_code_6 : decode jdk_29_method_70_code 6 = .ok (.lload_n 0, 1) := by decide +kernel
theorem own_d_jdk_29_method_70_code_7 : decode jdk_29_method_70_code 7 = .ok (.goto 4, 3) := by decide +kernel
theorem own_d_jdk_29_method_70_code_10 : decode jdk_29_method_70_code 10 = .ok (.lload_n 2, 1) := by decide +kernel
theorem own_d_jdk_29_method_70_code_11 : decode jdk_29_method_70_code 11 = .ok (.lreturn, 1) := by decide +kernel
theorem own_pn6 : plainFor (⟨"java/lang/Math", "min", "(JJ)J"⟩ : MethodName) = true := by decide +kernel
def own_rm_minJ_Q (Z : State) (p1 : Int64) (p2 : Int64) (h0 : Heap) (n0 : Nat) (v : Option Value) (h : Heap) (L : List Loc) : Prop := Fr n0 L ∧ v = some (.long (own_minJ p1 p2)) ∧ h = h0
theorem own_rm_minJ_ef (m : MethodId) (p1 : Int64) (p2 : Int64)  : entryFrame m #[(.long p1), (.long p2)] 4 = mkF m 0 #[.val (.long p1), .second, .val (.long p2), .second] [] := by first | (simp [entryFrame, mkF, argsToLocals, Value.category]; done) | rfl
set_option maxRecDepth 65536 in
set_option maxHeartbeats 40000000 in
theorem own_rm_minJ (l : Launch) (Z : State) (a0 : Array Value) (hw : ∀ d ∈ tables_1, d.before a0 Z = true) (ws : List Jvm.Cond) (p1 : Int64) (p2 : Int64) (h0 : Heap) (n0 : Nat) (Z0 : n0 ≤ h0.size)  :
    MetFree l (⟨"java/lang/Math", "min", "(JJ)J"⟩ : MethodName) (head1 (Jvm.Cond.code (⟨"java/lang/Math", "min", "(JJ)J"⟩ : MethodName) jdk_29_method_70_code 4 (some .long) :: ws) ({ frames := 0, cells := 0, slots := 0, locals := 0 } : Room)) (fun aQ UQ => aQ = #[(.long p1), (.long p2)] ∧ Z.Warmed39 UQ.vm ∧ UQ.heap = h0) (fun _ _ _ _ _ => True) (fun _ UQ oQ U2 => ∃ vQ LQ, oQ = .returned vQ ∧ own_rm_minJ_Q Z p1 p2 h0 n0 vQ U2.heap LQ ∧ FrameEnd UQ oQ U2 LQ ({ frames := 0, cells := 0, slots := 0, locals := 0 } : Room).cells ({ frames := 0, cells := 0, slots := 0, locals := 0 } : Room).slots) := by
  refine MetFree.of_bodySF own_pn6 hisR ?_
  intro p e s m args below meth c s₁ Bd hml0 hP hK
  obtain ⟨rfl, hZ, hh⟩ := hP
  have hx := Bd.exec
  have hby := Bd.bytes
  have hml : c.maxLocals = 4 := hml0
  have hlk := BodyLoose.notSynchronized Bd
  have hown : s.vm.findClass "java/lang/Math" = some m.cls := findClass_of_methodNamed Bd.named
  have hnm := (name_of_methodNamed Bd.named Bd.method).1
  have X0 : Stand p l e ({ frames := 0, cells := 0, slots := 0, locals := 0 } : Room) s m #[(.long p1), (.long p2)] below meth c s₁ [] 0 0 := Stand.of_body Bd
  have e0 : s₁.heap = h0 := by rw [← hh, Bd.state]; rfl
  have N0 := Fr.nil n0
  show own_Go p e below s (own_rm_minJ_Q Z p1 p2 h0 n0) ({ frames := 0, cells := 0, slots := 0, locals := 0 } : Room).cells ({ frames := 0, cells := 0, slots := 0, locals := 0 } : Room).slots (s₁.setTop (entryFrame m #[(.long p1), (.long p2)] 4))
  rw [own_rm_minJ_ef]
  show own_Go p e below s _ _ _ (s₁.setTop (mkF m 0 #[.val (.long p1), .second, .val (.long p2), .second] []))
  refine own_st (fun _ kQ => XT.lloadN X0.here hx rfl (hb hby own_d_jdk_29_method_70_code_0) rfl kQ) ?_
  show own_Go p e below s _ _ _ (s₁.setTop (mkF m 1 #[.val (.long p1), .second, .val (.long p2), .second] [(.long p1)]))
  refine own_st (fun _ kQ => XT.lloadN X0.here hx rfl (hb hby own_d_jdk_29_method_70_code_1) rfl kQ) ?_
  show own_Go p e below s _ _ _ (s₁.setTop (mkF m 2 #[.val (.long p1), .second, .val (.long p2), .second] [(.long p2), (.long p1)]))
  refine own_st (fun _ kQ => XT.lcmp X0.here hx rfl (hb hby own_d_jdk_29_method_70_code_2) rfl kQ) ?_
  show own_Go p e below s _ _ _ (s₁.setTop (mkF m 3 #[.val (.long p1), .second, .val (.long p2), .second] [(.int (XT.cmpL p1 p2))]))
  by_cases hc90 : p2 < p1
  · refine own_st (fun _ kQ => XS.ifYes X0.here hx rfl (pc0 := 3) (pc' := 10) rfl (hb hby own_d_jdk_29_method_70_code_3) rfl (XT.ll_gt_t hc90) (by decide) (by decide) kQ) ?_
    show own_Go p e below s _ _ _ (s₁.setTop (mkF m 10 #[.val (.long p1), .second, .val (.long p2), .second] []))
    refine own_st (fun _ kQ => XT.lloadN X0.here hx rfl (hb hby own_d_jdk_29_method_70_code_10) rfl kQ) ?_
    show own_Go p e below s _ _ _ (s₁.setTop (mkF m 11 #[.val (.long p1), .second, .val (.long p2), .second] [(.long p2)]))
    refine own_retJ X0 hx hlk Bd.returns (hb hby own_d_jdk_29_method_70_code_11) (by decide) (by decide) ?_
    rw [e0]
    exact ⟨N0, (by unfold own_minJ; rw [if_pos hc90]), rfl⟩
  · refine own_st (fun _ kQ => XS.ifNo X0.here hx rfl (hb hby own_d_jdk_29_method_70_code_3) rfl (XT.ll_gt_f hc90) kQ) ?_
    show own_Go p e below s _ _ _ (s₁.setTop (mkF m 6 #[.val (.long p1), .second, .val (.long p2), .second] []))
    refine own_st (fun _ kQ => XT.lloadN X0.here hx rfl (hb hby own_d_jdk_29_method_70_code_6) rfl kQ) ?_
    show own_Go p e below s _ _ _ (s₁.setTop (mkF m 7 #[.val (.long p1), .second, .val (.long p2), .second] [(.long p1)]))
    refine own_st (fun _ kQ => XS.goto X0.here hx rfl (pc0 := 7) (pc' := 11) rfl (hb hby own_d_jdk_29_method_70_code_7) (by decide) (by decide) kQ) ?_
    show own_Go p e below s _ _ _ (s₁.setTop (mkF m 11 #[.val (.long p1), .second, .val (.long p2), .second] [(.long p1)]))
    refine own_retJ X0 hx hlk Bd.returns (hb hby own_d_jdk_29_method_70_code_11) (by decide) (by decide) ?_
    rw [e0]
    exact ⟨N0, (by unfold own_minJ; rw [if_neg hc90]), rfl⟩
theorem own_d_prog_3_method_9_code_0 : decode prog_3_method_9_code 0 = .ok (.aload_n 0, 1) := by decide +kernel
theorem own_d_prog_3_method_9_code_1 : decode prog_3_method_9_code 1 = .ok (.getfield 13, 3) := by decide +kernel
theorem own_d_prog_3_method_9_code_4 : decode prog_3_method_9_code 4 = .ok (.i2l, 1) := by decide +kernel
theorem own_d_prog_3_method_9_code_5 : decode prog_3_method_9_code 5 = .ok (.ldc2_w 72, 3) := by decide +kernel
theorem own_d_prog_3_method_9_code_8 : decode prog_3_method_9_code 8 = .ok (.aload_n 0, 1) := by decide +kernel
theorem own_d_prog_3_method_9_code_9 : decode prog_3_method_9_code 9 = .ok (.iload_n 1, 1) := by decide +kernel
theorem own_d_prog_3_method_9_code_10 : decode prog_3_method_9_code 10 = .ok (.invokevirtual 41, 3) := by decide +kernel
theorem own_d_prog_3_method_9_code_13 : decode prog_3_method_9_code 13 = .ok (.i2l, 1) := by decide +kernel
theorem own_d_prog_3_method_9_code_14 : decode prog_3_method_9_code 14 = .ok (.lmul, 1) := by decide +kernel
theorem own_d_prog_3_method_9_code_15 : decode prog_3_method_9_code 15 = .ok (.invokestatic 74, 3) := by decide +kernel
theorem own_d_prog_3_method_9_code_18 : decode prog_3_method_9_code 18 = .ok (.l2i, 1) := by decide +kernel
theorem own_d_prog_3_method_9_code_19 : decode prog_3_method_9_code 19 = .ok (.newarray .long, 2) := by decide +kernel
theorem own_d_prog_3_method_9_code_21 : decode prog_3_method_9_code 21 = .ok (.astore_n 2, 1) := by decide +kernel
theorem own_d_prog_3_method_9_code_22 : decode prog_3_method_9_code 22 = .ok (.iconst 0, 1) := by decide +kernel
theorem own_d_prog_3_method_9_code_23 : decode prog_3_method_9_code 23 = .ok (.istore_n 3, 1) := by decide +kernel
theorem own_d_prog_3_method_9_code_24 : decode prog_3_method_9_code 24 = .ok (.iload_n 3, 1) := by decide +kernel
theorem own_d_prog_3_method_9_code_25 : decode prog_3_method_9_code 25 = .ok (.aload_n 0, 1) := by decide +kernel
theorem own_d_prog_3_method_9_code_26 : decode prog_3_method_9_code 26 = .ok (.getfield 30, 3) := by decide +kernel
theorem own_d_prog_3_method_9_code_29 : decode prog_3_method_9_code 29 = .ok (.iload_n 1, 1) := by decide +kernel
theorem own_d_prog_3_method_9_code_30 : decode prog_3_method_9_code 30 = .ok (.iaload, 1) := by decide +kernel
theorem own_d_prog_3_method_9_code_31 : decode prog_3_method_9_code 31 = .ok (.if_icmp .ge 18, 3) := by decide +kernel
theorem own_d_prog_3_method_9_code_34 : decode prog_3_method_9_code 34 = .ok (.aload_n 2, 1) := by decide +kernel
theorem own_d_prog_3_method_9_code_35 : decode prog_3_method_9_code 35 = .ok (.iload_n 3, 1) := by decide +kernel
theorem own_d_prog_3_method_9_code_36 : decode prog_3_method_9_code 36 = .ok (.aload_n 0, 1) := by decide +kernel
theorem own_d_prog_3_method_9_code_37 : decode prog_3_method_9_code 37 = .ok (.iload_n 1, 1) := by decide +kernel
theorem own_d_prog_3_method_9_code_38 : decode prog_3_method_9_code 38 = .ok (.iload_n 3, 1) := by decide +kernel
theorem own_d_prog_3_method_9_code_39 : decode prog_3_method_9_code 39 = .ok (.invokevirtual 33, 3) := by decide +kernel
theorem own_d_prog_3_method_9_code_42 : decode prog_3_method_9_code 42 = .ok (.lastore, 1) := by decide +kernel
theorem own_d_prog_3_method_9_code_43 : decode prog_3_method_9_code 43 = .ok (.iinc 3 1, 3) := by decide +kernel
theorem own_d_prog_3_method_9_code_46 : decode prog_3_method_9_code 46 = .ok (.goto (-22), 3) := by decide +kernel
theorem own_d_prog_3_method_9_code_49 : decode prog_3_method_9_code 49 = .ok (.aload_n 0, 1) := by decide +kernel
theorem own_d_prog_3_method_9_code_50 : decode prog_3_method_9_code 50 = .ok (.getfield 22, 3) := by decide +kernel
theorem own_d_prog_3_method_9_code_53 : decode prog_3_method_9_code 53 = .ok (.iload_n 1, 1) := by decide +kernel
theorem own_d_prog_3_method_9_code_54 : decode prog_3_method_9_code 54 = .ok (.aload_n 2, 1) := by decide +kernel
theorem own_d_prog_3_method_9_code_55 : decode prog_3_method_9_code 55 = .ok (.aastore, 1) := by decide +kernel
theorem own_d_prog_3_method_9_code_56 : decode prog_3_method_9_code 56 = .ok (.aload_n 0, 1) := by decide +kernel
theorem own_d_prog_3_method_9_code_57 : decode prog_3_method_9_code 57 = .ok (.getfield 26, 3) := by decide +kernel
theorem own_d_prog_3_method_9_code_60 : decode prog_3_method_9_code 60 = .ok (.iload_n 1, 1) := by decide +kernel
theorem own_d_prog_3_method_9_code_61 : decode prog_3_method_9_code 61 = .ok (.iconst 0, 1) := by decide +kernel
theorem own_d_prog_3_method_9_code_62 : decode prog_3_method_9_code 62 = .ok (.iastore, 1) := by decide +kernel
theorem own_d_prog_3_method_9_code_63 : decode prog_3_method_9_code 63 = .ok (.return_, 1) := by decide +kernel
theorem own_pn7 : plainFor (⟨"com/example/wache/wache/AttemptTimes", "grow", "(I)V"⟩ : MethodName) = true := by decide +kernel
theorem own_pd3 : parseMethodDescriptor "(JJ)J" = some ⟨[.long, .long], some .long⟩ := by decide +kernel
def own_rm_grow_Q (Z : State) (iv : Int32) (i : Nat) (a : Addr) (span : Int64) (cap : Int32) (sh : Addr) (ow : Addr) (hd : Addr) (sz : Addr) (ko : ClassId) (kh : ClassId) (ks : ClassId) (fw : Nat → Value) (fh : Nat → Int32) (fs : Nat → Int32) (fz : Nat → Int32) (fF : Nat → Nat → Int64) (h0 : Heap) (n0 : Nat) (v : Option Value) (h : Heap) (L : List Loc) : Prop := ∃ fw2 : Nat → Value, ∃ fh2 : Nat → Int32, ∃ fz2 : Nat → Int32, ∃ fF2 : Nat → Nat → Int64, Fr n0 L ∧ v = none ∧ own_AT Z h n0 a span cap sh ow hd sz ko kh ks fw2 fh2 fs fz2 fF2 ∧ fh2 i = 0 ∧ ((fz i).toInt < (fz2 i).toInt ∧ (fz2 i).toInt ≤ cap.toInt) ∧ (∀ q, q ≠ i → fh2 q = fh q ∧ fz2 q = fz q ∧ fF2 q = fF q)
theorem own_rm_grow_ef (m : MethodId) (a : Addr) (iv : Int32)  : entryFrame m #[(.ref a), (.int iv)] 4 = mkF m 0 #[.val (.ref a), .val (.int iv), .unset, .unset] [] := by first | (simp [entryFrame, mkF, argsToLocals, Value.category]; done) | rfl
set_option maxRecDepth 65536 in
set_option maxHeartbeats 40000000 in
theorem own_rm_grow (l : Launch) (Z : State) (a0 : Array Value) (hw : ∀ d ∈ tables_1, d.before a0 Z = true) (ws : List Jvm.Cond) (iv : Int32) (i : Nat) (a : Addr) (span : Int64) (cap : Int32) (sh : Addr) (ow : Addr) (hd : Addr) (sz : Addr) (ko : ClassId) (kh : ClassId) (ks : ClassId) (fw : Nat → Value) (fh : Nat → Int32) (fs : Nat → Int32) (fz : Nat → Int32) (fF : Nat → Nat → Int64) (h0 : Heap) (n0 : Nat) (Z0 : n0 ≤ h0.size) (D : own_AT Z h0 n0 a span cap sh ow hd sz ko kh ks fw fh fs fz fF) (hi : own_I iv i) (wf : own_WF cap (fh i) (fs i) (fz i)) (hs : (fs i) = (fz i)) (hc : ¬ (fs i) = cap) :
    MetFree l (⟨"com/example/wache/wache/AttemptTimes", "grow", "(I)V"⟩ : MethodName) (head1 (Jvm.Cond.code (⟨"com/example/wache/wache/AttemptTimes", "grow", "(I)V"⟩ : MethodName) prog_3_method_9_code 4 none :: ws) ({ frames := 3, cells := 1, slots := 5, locals := 49 } : Room)) (fun aQ UQ => aQ = #[(.ref a), (.int iv)] ∧ Z.Warmed39 UQ.vm ∧ UQ.heap = h0) (fun _ _ _ _ _ => True) (fun _ UQ oQ U2 => ∃ vQ LQ, oQ = .returned vQ ∧ own_rm_grow_Q Z iv i a span cap sh ow hd sz ko kh ks fw fh fs fz fF h0 n0 vQ U2.heap LQ ∧ FrameEnd UQ oQ U2 LQ ({ frames := 3, cells := 1, slots := 5, locals := 49 } : Room).cells ({ frames := 3, cells := 1, slots := 5, locals := 49 } : Room).slots) := by
  refine MetFree.of_bodySF own_pn7 hisR ?_
  intro p e s m args below meth c s₁ Bd hml0 hP hK
  obtain ⟨rfl, hZ, hh⟩ := hP
  have hx := Bd.exec
  have hby := Bd.bytes
  have hml : c.maxLocals = 4 := hml0
  have hlk := BodyLoose.notSynchronized Bd
  have hown : s.vm.findClass "com/example/wache/wache/AttemptTimes" = some m.cls := findClass_of_methodNamed Bd.named
  have hnm := (name_of_methodNamed Bd.named Bd.method).1
  have X0 : Stand p l e ({ frames := 3, cells := 1, slots := 5, locals := 49 } : Room) s m #[(.ref a), (.int iv)] below meth c s₁ [] 0 0 := Stand.of_body Bd
  have e0 : s₁.heap = h0 := by rw [← hh, Bd.state]; rfl
  have N0 := Fr.nil n0
  show own_Go p e below s (own_rm_grow_Q Z iv i a span cap sh ow hd sz ko kh ks fw fh fs fz fF h0 n0) ({ frames := 3, cells := 1, slots := 5, locals := 49 } : Room).cells ({ frames := 3, cells := 1, slots := 5, locals := 49 } : Room).slots (s₁.setTop (entryFrame m #[(.ref a), (.int iv)] 4))
  rw [own_rm_grow_ef]
  show own_Go p e below s _ _ _ (s₁.setTop (mkF m 0 #[.val (.ref a), .val (.int iv), .unset, .unset] []))
  have wf0 := wf
  obtain ⟨a1, a2, a3, a4, a5, a6, a7⟩ := wf0
  have hne : (fs i).toInt ≠ cap.toInt := fun q => hc (Int32.toInt_inj.mp q)
  have hst : (fs i).toInt = (fz i).toInt := by rw [hs]
  rcases own_lit3 (s := (fs i)) (by omega) (by omega) with hv | hv | hv
  · have hvi : (fs i).toInt = 2 := by rw [hv]; decide
    show own_Go p e below s _ _ _ (s₁.setTop (mkF m 0 #[.val (.ref a), .val (.int iv), .unset, .unset] []))
    refine own_st (fun _ kQ => XS.aloadN X0.here hx rfl (hb hby own_d_prog_3_method_9_code_0) rfl rfl kQ) ?_
    show own_Go p e below s _ _ _ (s₁.setTop (mkF m 1 #[.val (.ref a), .val (.int iv), .unset, .unset] [(.ref a)]))
    have F91 : Fld Z h0 a "com/example/wache/wache/AttemptTimes" "capacity" "I" (.int cap) := D.fcap
    obtain ⟨T92, X92, e92, st92⟩ := getF X0 hx hZ hown (host := "") (Or.inl (hw _ (List.mem_of_getElem? (i := 12) rfl))) Via.refl e0 F91 (g := (mkF m 1 #[.val (.ref a), .val (.int iv), .unset, .unset] [(.ref a)])) rfl rfl (hb hby own_d_prog_3_method_9_code_1)
    refine own_st st92 ?_
    show own_Go p e below s _ _ _ (T92.setTop (mkF m 4 #[.val (.ref a), .val (.int iv), .unset, .unset] [(.int cap)]))
    refine own_st (fun _ kQ => XT.i2l X92.here hx rfl (hb hby own_d_prog_3_method_9_code_4) rfl kQ) ?_
    show own_Go p e below s _ _ _ (T92.setTop (mkF m 5 #[.val (.ref a), .val (.int iv), .unset, .unset] [(.long (cap.toInt64))]))
    refine own_st (fun _ kQ => X92.ldc2J hx hown (mvT hZ (hw _ (List.mem_of_getElem? (i := 80) rfl))) rfl (hb hby own_d_prog_3_method_9_code_5) kQ) ?_
    show own_Go p e below s _ _ _ (T92.setTop (mkF m 8 #[.val (.ref a), .val (.int iv), .unset, .unset] [(.long (2 : Int64)), (.long (cap.toInt64))]))
    refine own_st (fun _ kQ => XS.aloadN X92.here hx rfl (hb hby own_d_prog_3_method_9_code_8) rfl rfl kQ) ?_
    show own_Go p e below s _ _ _ (T92.setTop (mkF m 9 #[.val (.ref a), .val (.int iv), .unset, .unset] [(.ref a), (.long (2 : Int64)), (.long (cap.toInt64))]))
    refine own_st (fun _ kQ => XS.iloadN X92.here hx rfl (hb hby own_d_prog_3_method_9_code_9) rfl kQ) ?_
    show own_Go p e below s _ _ _ (T92.setTop (mkF m 10 #[.val (.ref a), .val (.int iv), .unset, .unset] [(.int iv), (.ref a), (.long (2 : Int64)), (.long (cap.toInt64))]))
    have F94 : Exa Z h0 a "com/example/wache/wache/AttemptTimes" := D.exa
    obtain ⟨cq93, q93, q93'⟩ := F94.cell
    obtain ⟨_, _, ⟨T93, L93, k93, n93⟩, -, X93, ⟨Lc93, hQ93, l93, y93, z93⟩, st93⟩ := X92.privateBack hx (y := (⟨"com/example/wache/wache/AttemptTimes", "length", "(I)I"⟩ : MethodName)) hown (mvT hZ (hw _ (List.mem_of_getElem? (i := 31) rfl))) (mvT hZ (hw _ (List.mem_of_getElem? (i := 32) rfl))) (mvT hZ (own_selP (hw _ (List.mem_of_getElem? (i := 32) rfl)) (hw _ (List.mem_of_getElem? (i := 33) rfl)) (hw _ (List.mem_of_getElem? (i := 2) rfl)) (by decide))) (Cond.privateMethod_at (mvP hZ (hw _ (List.mem_of_getElem? (i := 33) rfl)) (args := #[]))) (mvT hZ (hw _ (List.mem_of_getElem? (i := 34) rfl))) (by decide) (backOf (W := 4) (own_rm_length l Z a0 hw [] iv i a span cap sh ow hd sz ko kh ks fw fh fs fz fF h0 n0 Z0 D hi) hZ (hw _ (List.mem_of_getElem? (i := 34) rfl)) (hw _ (List.mem_of_getElem? (i := 3) rfl)) (by decide) (by decide)) (g := (mkF m 10 #[.val (.ref a), .val (.int iv), .unset, .unset] [(.int iv), (.ref a), (.long (2 : Int64)), (.long (cap.toInt64))])) rfl (by rw [hml]; rfl) (Steps.refl _) (a := a) (own_hp e92 q93) q93' (argsL := [(.int iv)]) (rest := [(.long (2 : Int64)), (.long (cap.toInt64))]) (lenOf own_pd0 rfl) rfl (by show 2 * 0 + _ ≤ _; exact Nat.le_of_eq rfl) (hb hby own_d_prog_3_method_9_code_10) (fun _ _ => ⟨rfl, e92, (by decide : 0 + 0 ≤ _), (by decide : 0 + 0 ≤ _)⟩)
    dsimp only [Pt.U, Pt.locs, Pt.cells, Pt.slots] at X93 l93 y93 z93 st93 hQ93
    subst l93 y93 z93
    obtain ⟨N93q, rfl, eh93⟩ := hQ93
    have N95 := Fr.app N0 N93q
    refine own_tr st93 ?_
    show own_Go p e below s _ _ _ (T93.setTop (mkF m 13 #[.val (.ref a), .val (.int iv), .unset, .unset] [(.int (fz i)), (.long (2 : Int64)), (.long (cap.toInt64))]))
    refine own_st (fun _ kQ => XT.i2l X93.here hx rfl (hb hby own_d_prog_3_method_9_code_13) rfl kQ) ?_
    show own_Go p e below s _ _ _ (T93.setTop (mkF m 14 #[.val (.ref a), .val (.int iv), .unset, .unset] [(.long ((fz i).toInt64)), (.long (2 : Int64)), (.long (cap.toInt64))]))
    refine own_st (fun _ kQ => XT.lmul X93.here hx rfl (hb hby own_d_prog_3_method_9_code_14) rfl kQ) ?_
    show own_Go p e below s _ _ _ (T93.setTop (mkF m 15 #[.val (.ref a), .val (.int iv), .unset, .unset] [(.long ((2 : Int64) * ((fz i).toInt64))), (.long (cap.toInt64))]))
    obtain ⟨_, _, ⟨T96, L96, k96, n96⟩, -, X96, ⟨Lc96, hQ96, l96, y96, z96⟩, st96⟩ := Jvm.LawKit.callS X93 hx (y := (⟨"java/lang/Math", "min", "(JJ)J"⟩ : MethodName)) hown (mvT hZ (hw _ (List.mem_of_getElem? (i := 81) rfl))) (mvT hZ (hw _ (List.mem_of_getElem? (i := 82) rfl))) (mvT hZ (hw _ (List.mem_of_getElem? (i := 69) rfl))) (mvT hZ (hw _ (List.mem_of_getElem? (i := 83) rfl))) (by decide) (backOf (W := 0) (own_rm_minJ l Z a0 hw [] (cap.toInt64) ((2 : Int64) * ((fz i).toInt64)) h0 n0 Z0 ) hZ (hw _ (List.mem_of_getElem? (i := 83) rfl)) (hw _ (List.mem_of_getElem? (i := 69) rfl)) (by decide) (by decide)) (g := (mkF m 15 #[.val (.ref a), .val (.int iv), .unset, .unset] [(.long ((2 : Int64) * ((fz i).toInt64))), (.long (cap.toInt64))])) rfl (by rw [hml]; rfl) (argsL := [(.long (cap.toInt64)), (.long ((2 : Int64) * ((fz i).toInt64)))]) (rest := []) (lenOf own_pd3 rfl) rfl (by show 2 * 0 + _ ≤ _; exact Nat.le_of_eq rfl) (hb hby own_d_prog_3_method_9_code_15) (fun _ _ => ⟨rfl, eh93, (by decide : 0 + 0 ≤ _), (by decide : 0 + 0 ≤ _)⟩)
    dsimp only [Pt.U, Pt.locs, Pt.cells, Pt.slots] at X96 l96 y96 z96 st96 hQ96
    subst l96 y96 z96
    obtain ⟨N96q, rfl, eh96⟩ := hQ96
    have N97 := Fr.app N95 N96q
    refine own_st st96 ?_
    show own_Go p e below s _ _ _ (T96.setTop (mkF m 18 #[.val (.ref a), .val (.int iv), .unset, .unset] [(.long (own_minJ (cap.toInt64) ((2 : Int64) * ((fz i).toInt64))))]))
    refine own_st (fun _ kQ => XT.l2i X96.here hx rfl (hb hby own_d_prog_3_method_9_code_18) rfl kQ) ?_
    show own_Go p e below s _ _ _ (T96.setTop (mkF m 19 #[.val (.ref a), .val (.int iv), .unset, .unset] [(.int ((own_minJ (cap.toInt64) ((2 : Int64) * ((fz i).toInt64))).toInt32))]))
    obtain ⟨z2, hz2, z2a, z2b⟩ := own_growz wf hs hc
    rw [hz2]
    have z2c := own_small (z := z2) (n := 5) (by omega) (by omega)
    show own_Go p e below s _ _ _ (T96.setTop (mkF m 19 #[.val (.ref a), .val (.int iv), .unset, .unset] [(.int z2)]))
    obtain ⟨T98, h98, k98, X98, e98, E98, A98, Ea98, st98⟩ := newPE X96 hx hZ (aty := .long) (hw _ (List.mem_of_getElem? (i := 14) rfl)) eh96 (g := (mkF m 19 #[.val (.ref a), .val (.int iv), .unset, .unset] [(.int z2)])) rfl (hb hby own_d_prog_3_method_9_code_19) rfl z2c.1 (cap := 5) z2c.2 (by decide) (by decide) (by decide) (ad := "[J") (by decide +kernel)
    obtain ⟨b98, g98⟩ : ∃ z, z = h0.size := ⟨_, rfl⟩
    rw [← g98] at A98 Ea98 st98
    refine own_st st98 ?_
    have Zs99 : n0 ≤ h98.size := Nat.le_trans Z0 E98.1
    have g100 : n0 ≤ b98 := Nat.le_trans Z0 (Nat.le_of_eq g98.symm)
    have F101 : Arv Z h98 b98 k98 .long z2 [] (.long (0 : Int64)) := Arv.new A98 z2c.1
    have L102 : own_LA Z h98 b98 z2 (fun _ => 0) := own_LA.new A98 z2c.1
    have nf103 := own_AT.fresh D (Nat.le_of_eq g98.symm)
    show own_Go p e below s _ _ _ (T98.setTop (mkF m 21 #[.val (.ref a), .val (.int iv), .unset, .unset] [(.ref b98)]))
    refine own_st (fun _ kQ => XS.astoreN X98.here hx rfl (hb hby own_d_prog_3_method_9_code_21) rfl rfl (l' := #[.val (.ref a), .val (.int iv), .val (.ref b98), .unset]) rfl kQ) ?_
    show own_Go p e below s _ _ _ (T98.setTop (mkF m 22 #[.val (.ref a), .val (.int iv), .val (.ref b98), .unset] []))
    refine own_st (fun _ kQ => XT.iconstV X98.here hx rfl (0 : Int32) (hb hby own_d_prog_3_method_9_code_22) (by decide) kQ) ?_
    show own_Go p e below s _ _ _ (T98.setTop (mkF m 23 #[.val (.ref a), .val (.int iv), .val (.ref b98), .unset] [(.int (0 : Int32))]))
    refine own_st (fun _ kQ => XS.istoreN X98.here hx rfl (hb hby own_d_prog_3_method_9_code_23) rfl (l' := #[.val (.ref a), .val (.int iv), .val (.ref b98), .val (.int (0 : Int32))]) rfl kQ) ?_
    show own_Go p e below s _ _ _ (T98.setTop (mkF m 24 #[.val (.ref a), .val (.int iv), .val (.ref b98), .val (.int (0 : Int32))] []))
    refine own_st (fun _ kQ => XS.iloadN X98.here hx rfl (hb hby own_d_prog_3_method_9_code_24) rfl kQ) ?_
    show own_Go p e below s _ _ _ (T98.setTop (mkF m 25 #[.val (.ref a), .val (.int iv), .val (.ref b98), .val (.int (0 : Int32))] [(.int (0 : Int32))]))
    refine own_st (fun _ kQ => XS.aloadN X98.here hx rfl (hb hby own_d_prog_3_method_9_code_25) rfl rfl kQ) ?_
    show own_Go p e below s _ _ _ (T98.setTop (mkF m 26 #[.val (.ref a), .val (.int iv), .val (.ref b98), .val (.int (0 : Int32))] [(.ref a), (.int (0 : Int32))]))
    have F104 : own_AT Z h98 n0 a span cap sh ow hd sz ko kh ks fw fh fs fz fF := (D.ext E98)
    have F105 : Fld Z h98 a "com/example/wache/wache/AttemptTimes" "sizes" "[I" (.ref sz) := F104.fsz
    obtain ⟨T106, X106, e106, st106⟩ := getF X98 hx hZ hown (host := "") (Or.inl (hw _ (List.mem_of_getElem? (i := 24) rfl))) Via.refl e98 F105 (g := (mkF m 26 #[.val (.ref a), .val (.int iv), .val (.ref b98), .val (.int (0 : Int32))] [(.ref a), (.int (0 : Int32))])) rfl rfl (hb hby own_d_prog_3_method_9_code_26)
    refine own_st st106 ?_
    show own_Go p e below s _ _ _ (T106.setTop (mkF m 29 #[.val (.ref a), .val (.int iv), .val (.ref b98), .val (.int (0 : Int32))] [(.ref sz), (.int (0 : Int32))]))
    refine own_st (fun _ kQ => XS.iloadN X106.here hx rfl (hb hby own_d_prog_3_method_9_code_29) rfl kQ) ?_
    show own_Go p e below s _ _ _ (T106.setTop (mkF m 30 #[.val (.ref a), .val (.int iv), .val (.ref b98), .val (.int (0 : Int32))] [(.int iv), (.ref sz), (.int (0 : Int32))]))
    have F107 : Arv Z h98 sz ks .int (2 : Int32) [(.int (fs 0)), (.int (fs 1))] (.int (0 : Int32)) := F104.vsz
    obtain ⟨cl108, Ar108, kc108, S108, Nn108, H108, G108⟩ := id F107
    have hin108 : ¬ (iv < 0 ∨ cl108.slots.size ≤ (iv : Int32).toNatClampNeg) := inb_of S108 (own_I.inb hi)
    have hat108 : cl108.slots[(iv : Int32).toNatClampNeg]? = some (.int (2 : Int32)) := H108.at hin108 ((own_I.getI hi fs _).trans (congrArg Value.int hv))
    refine own_st (fun _ kQ => X106.iaload hx (j := iv) (v := (.int (2 : Int32))) (own_hp e106 Ar108.1) (State.isArrayOf_alike hZ.alike Ar108.2.1) Ar108.2.2 hin108 hat108 (g := (mkF m 30 #[.val (.ref a), .val (.int iv), .val (.ref b98), .val (.int (0 : Int32))] [(.int iv), (.ref sz), (.int (0 : Int32))])) rfl rfl (hb hby own_d_prog_3_method_9_code_30) _ kQ) ?_
    show own_Go p e below s _ _ _ (T106.setTop (mkF m 31 #[.val (.ref a), .val (.int iv), .val (.ref b98), .val (.int (0 : Int32))] [(.int (2 : Int32)), (.int (0 : Int32))]))
    refine own_st (fun _ kQ => XS.icmpNo X106.here hx rfl (hb hby own_d_prog_3_method_9_code_31) rfl (XT.ii_ge_f (by decide)) kQ) ?_
    show own_Go p e below s _ _ _ (T106.setTop (mkF m 34 #[.val (.ref a), .val (.int iv), .val (.ref b98), .val (.int (0 : Int32))] []))
    refine own_st (fun _ kQ => XS.aloadN X106.here hx rfl (hb hby own_d_prog_3_method_9_code_34) rfl rfl kQ) ?_
    show own_Go p e below s _ _ _ (T106.setTop (mkF m 35 #[.val (.ref a), .val (.int iv), .val (.ref b98), .val (.int (0 : Int32))] [(.ref b98)]))
    refine own_st (fun _ kQ => XS.iloadN X106.here hx rfl (hb hby own_d_prog_3_method_9_code_35) rfl kQ) ?_
    show own_Go p e below s _ _ _ (T106.setTop (mkF m 36 #[.val (.ref a), .val (.int iv), .val (.ref b98), .val (.int (0 : Int32))] [(.int (0 : Int32)), (.ref b98)]))
    refine own_st (fun _ kQ => XS.aloadN X106.here hx rfl (hb hby own_d_prog_3_method_9_code_36) rfl rfl kQ) ?_
    show own_Go p e below s _ _ _ (T106.setTop (mkF m 37 #[.val (.ref a), .val (.int iv), .val (.ref b98), .val (.int (0 : Int32))] [(.ref a), (.int (0 : Int32)), (.ref b98)]))
    refine own_st (fun _ kQ => XS.iloadN X106.here hx rfl (hb hby own_d_prog_3_method_9_code_37) rfl kQ) ?_
    show own_Go p e below s _ _ _ (T106.setTop (mkF m 38 #[.val (.ref a), .val (.int iv), .val (.ref b98), .val (.int (0 : Int32))] [(.int iv), (.ref a), (.int (0 : Int32)), (.ref b98)]))
    refine own_st (fun _ kQ => XS.iloadN X106.here hx rfl (hb hby own_d_prog_3_method_9_code_38) rfl kQ) ?_
    show own_Go p e below s _ _ _ (T106.setTop (mkF m 39 #[.val (.ref a), .val (.int iv), .val (.ref b98), .val (.int (0 : Int32))] [(.int (0 : Int32)), (.int iv), (.ref a), (.int (0 : Int32)), (.ref b98)]))
    have F110 : Exa Z h98 a "com/example/wache/wache/AttemptTimes" := F104.exa
    obtain ⟨cq109, q109, q109'⟩ := F110.cell
    obtain ⟨_, _, ⟨T109, L109, k109, n109⟩, -, X109, ⟨Lc109, hQ109, l109, y109, z109⟩, st109⟩ := X106.privateBack hx (y := (⟨"com/example/wache/wache/AttemptTimes", "get", "(II)J"⟩ : MethodName)) hown (mvT hZ (hw _ (List.mem_of_getElem? (i := 48) rfl))) (mvT hZ (hw _ (List.mem_of_getElem? (i := 49) rfl))) (mvT hZ (own_selP (hw _ (List.mem_of_getElem? (i := 49) rfl)) (hw _ (List.mem_of_getElem? (i := 50) rfl)) (hw _ (List.mem_of_getElem? (i := 2) rfl)) (by decide))) (Cond.privateMethod_at (mvP hZ (hw _ (List.mem_of_getElem? (i := 50) rfl)) (args := #[]))) (mvT hZ (hw _ (List.mem_of_getElem? (i := 51) rfl))) (by decide) (backOf (W := 2) (own_rm_get l Z a0 hw [] iv i a span cap sh ow hd sz ko kh ks fw fh fs fz fF (0 : Int32) h98 n0 Zs99 F104 hi (own_WF.idx wf (k := (0 : Int32)) (by decide) (by have e1 : ((0 : Int32)).toInt = 0 := (by decide); omega))) hZ (hw _ (List.mem_of_getElem? (i := 51) rfl)) (hw _ (List.mem_of_getElem? (i := 3) rfl)) (by decide) (by decide)) (g := (mkF m 39 #[.val (.ref a), .val (.int iv), .val (.ref b98), .val (.int (0 : Int32))] [(.int (0 : Int32)), (.int iv), (.ref a), (.int (0 : Int32)), (.ref b98)])) rfl (by rw [hml]; rfl) (Steps.refl _) (a := a) (own_hp e106 q109) q109' (argsL := [(.int iv), (.int (0 : Int32))]) (rest := [(.int (0 : Int32)), (.ref b98)]) (lenOf own_pd2 rfl) rfl (by show 2 * 0 + _ ≤ _; exact Nat.le_of_eq rfl) (hb hby own_d_prog_3_method_9_code_39) (fun _ _ => ⟨rfl, e106, (by decide : 1 + 0 ≤ _), (by decide : 5 + 0 ≤ _)⟩)
    dsimp only [Pt.U, Pt.locs, Pt.cells, Pt.slots] at X109 l109 y109 z109 st109 hQ109
    subst l109 y109 z109
    obtain ⟨N109q, rfl, eh109⟩ := hQ109
    have N111 := Fr.app N97 N109q
    refine own_tr st109 ?_
    show own_Go p e below s _ _ _ (T109.setTop (mkF m 42 #[.val (.ref a), .val (.int iv), .val (.ref b98), .val (.int (0 : Int32))] [(.long (fF i (own_idx (fh i) (0 : Int32) (fz i)).toNatClampNeg)), (.int (0 : Int32)), (.ref b98)]))
    obtain ⟨cl112, Ar112, S112, Nn112, H112⟩ := id L102
    have hin112 : ¬ ((0 : Int32) < 0 ∨ cl112.slots.size ≤ ((0 : Int32) : Int32).toNatClampNeg) := inb_of S112 (own_jin (j := (0 : Int32)) (by decide) (by have e1 : ((0 : Int32)).toInt = 0 := (by decide); omega))
    obtain ⟨T112, h112, X112, e112, W112, st112⟩ := stJ X109 hx hZ eh109 Ar112 (j := (0 : Int32)) hin112 (g := (mkF m 42 #[.val (.ref a), .val (.int iv), .val (.ref b98), .val (.int (0 : Int32))] [(.long (fF i (own_idx (fh i) (0 : Int32) (fz i)).toNatClampNeg)), (.int (0 : Int32)), (.ref b98)])) rfl rfl (hb hby own_d_prog_3_method_9_code_42)
    refine own_st st112 ?_
    have N113 := Fr.snoc X112 N111 g100
    have D114 : own_AT Z h112 n0 a span cap sh ow hd sz ko kh ks fw fh fs fz fF := F104.oth L102 nf103.1 nf103.2 W112
    have L115 : own_LA Z h112 b98 z2 (own_up (fun _ => 0) (0 : Int32).toNatClampNeg (fF i (own_idx (fh i) (0 : Int32) (fz i)).toNatClampNeg)) := L102.set W112
    have lt116 : b98 < h112.size := Nat.lt_of_lt_of_le A98.lt (Nat.le_of_eq W112.size.symm)
    have Zs117 : n0 ≤ h112.size := Nat.le_trans Zs99 (Nat.le_of_eq W112.size.symm)
    show own_Go p e below s _ _ _ (T112.setTop (mkF m 43 #[.val (.ref a), .val (.int iv), .val (.ref b98), .val (.int (0 : Int32))] []))
    refine own_st (fun _ kQ => XT.iincV X112.here hx rfl (1 : Int32) (hb hby own_d_prog_3_method_9_code_43) (by decide) rfl (l' := #[.val (.ref a), .val (.int iv), .val (.ref b98), .val (.int (1 : Int32))]) rfl kQ) ?_
    show own_Go p e below s _ _ _ (T112.setTop (mkF m 46 #[.val (.ref a), .val (.int iv), .val (.ref b98), .val (.int (1 : Int32))] []))
    refine own_st (fun _ kQ => XS.goto X112.here hx rfl (pc0 := 46) (pc' := 24) rfl (hb hby own_d_prog_3_method_9_code_46) (by decide) (by decide) kQ) ?_
    show own_Go p e below s _ _ _ (T112.setTop (mkF m 24 #[.val (.ref a), .val (.int iv), .val (.ref b98), .val (.int (1 : Int32))] []))
    refine own_st (fun _ kQ => XS.iloadN X112.here hx rfl (hb hby own_d_prog_3_method_9_code_24) rfl kQ) ?_
    show own_Go p e below s _ _ _ (T112.setTop (mkF m 25 #[.val (.ref a), .val (.int iv), .val (.ref b98), .val (.int (1 : Int32))] [(.int (1 : Int32))]))
    refine own_st (fun _ kQ => XS.aloadN X112.here hx rfl (hb hby own_d_prog_3_method_9_code_25) rfl rfl kQ) ?_
    show own_Go p e below s _ _ _ (T112.setTop (mkF m 26 #[.val (.ref a), .val (.int iv), .val (.ref b98), .val (.int (1 : Int32))] [(.ref a), (.int (1 : Int32))]))
    have F118 : Fld Z h112 a "com/example/wache/wache/AttemptTimes" "sizes" "[I" (.ref sz) := D114.fsz
    obtain ⟨T119, X119, e119, st119⟩ := getF X112 hx hZ hown (host := "") (Or.inl (hw _ (List.mem_of_getElem? (i := 24) rfl))) Via.refl e112 F118 (g := (mkF m 26 #[.val (.ref a), .val (.int iv), .val (.ref b98), .val (.int (1 : Int32))] [(.ref a), (.int (1 : Int32))])) rfl rfl (hb hby own_d_prog_3_method_9_code_26)
    refine own_st st119 ?_
    show own_Go p e below s _ _ _ (T119.setTop (mkF m 29 #[.val (.ref a), .val (.int iv), .val (.ref b98), .val (.int (1 : Int32))] [(.ref sz), (.int (1 : Int32))]))
    refine own_st (fun _ kQ => XS.iloadN X119.here hx rfl (hb hby own_d_prog_3_method_9_code_29) rfl kQ) ?_
    show own_Go p e below s _ _ _ (T119.setTop (mkF m 30 #[.val (.ref a), .val (.int iv), .val (.ref b98), .val (.int (1 : Int32))] [(.int iv), (.ref sz), (.int (1 : Int32))]))
    have F120 : Arv Z h112 sz ks .int (2 : Int32) [(.int (fs 0)), (.int (fs 1))] (.int (0 : Int32)) := D114.vsz
    obtain ⟨cl121, Ar121, kc121, S121, Nn121, H121, G121⟩ := id F120
    have hin121 : ¬ (iv < 0 ∨ cl121.slots.size ≤ (iv : Int32).toNatClampNeg) := inb_of S121 (own_I.inb hi)
    have hat121 : cl121.slots[(iv : Int32).toNatClampNeg]? = some (.int (2 : Int32)) := H121.at hin121 ((own_I.getI hi fs _).trans (congrArg Value.int hv))
    refine own_st (fun _ kQ => X119.iaload hx (j := iv) (v := (.int (2 : Int32))) (own_hp e119 Ar121.1) (State.isArrayOf_alike hZ.alike Ar121.2.1) Ar121.2.2 hin121 hat121 (g := (mkF m 30 #[.val (.ref a), .val (.int iv), .val (.ref b98), .val (.int (1 : Int32))] [(.int iv), (.ref sz), (.int (1 : Int32))])) rfl rfl (hb hby own_d_prog_3_method_9_code_30) _ kQ) ?_
    show own_Go p e below s _ _ _ (T119.setTop (mkF m 31 #[.val (.ref a), .val (.int iv), .val (.ref b98), .val (.int (1 : Int32))] [(.int (2 : Int32)), (.int (1 : Int32))]))
    refine own_st (fun _ kQ => XS.icmpNo X119.here hx rfl (hb hby own_d_prog_3_method_9_code_31) rfl (XT.ii_ge_f (by decide)) kQ) ?_
    show own_Go p e below s _ _ _ (T119.setTop (mkF m 34 #[.val (.ref a), .val (.int iv), .val (.ref b98), .val (.int (1 : Int32))] []))
    refine own_st (fun _ kQ => XS.aloadN X119.here hx rfl (hb hby own_d_prog_3_method_9_code_34) rfl rfl kQ) ?_
    show own_Go p e below s _ _ _ (T119.setTop (mkF m 35 #[.val (.ref a), .val (.int iv), .val (.ref b98), .val (.int (1 : Int32))] [(.ref b98)]))
    refine own_st (fun _ kQ => XS.iloadN X119.here hx rfl (hb hby own_d_prog_3_method_9_code_35) rfl kQ) ?_
    show own_Go p e below s _ _ _ (T119.setTop (mkF m 36 #[.val (.ref a), .val (.int iv), .val (.ref b98), .val (.int (1 : Int32))] [(.int (1 : Int32)), (.ref b98)]))
    refine own_st (fun _ kQ => XS.aloadN X119.here hx rfl (hb hby own_d_prog_3_method_9_code_36) rfl rfl kQ) ?_
    show own_Go p e below s _ _ _ (T119.setTop (mkF m 37 #[.val (.ref a), .val (.int iv), .val (.ref b98), .val (.int (1 : Int32))] [(.ref a), (.int (1 : Int32)), (.ref b98)]))
    refine own_st (fun _ kQ => XS.iloadN X119.here hx rfl (hb hby own_d_prog_3_method_9_code_37) rfl kQ) ?_
    show own_Go p e below s _ _ _ (T119.setTop (mkF m 38 #[.val (.ref a), .val (.int iv), .val (.ref b98), .val (.int (1 : Int32))] [(.int iv), (.ref a), (.int (1 : Int32)), (.ref b98)]))
    refine own_st (fun _ kQ => XS.iloadN X119.here hx rfl (hb hby own_d_prog_3_method_9_code_38) rfl kQ) ?_
    show own_Go p e below s _ _ _ (T119.setTop (mkF m 39 #[.val (.ref a), .val (.int iv), .val (.ref b98), .val (.int (1 : Int32))] [(.int (1 : Int32)), (.int iv), (.ref a), (.int (1 : Int32)), (.ref b98)]))
    have F123 : Exa Z h112 a "com/example/wache/wache/AttemptTimes" := D114.exa
    obtain ⟨cq122, q122, q122'⟩ := F123.cell
    obtain ⟨_, _, ⟨T122, L122, k122, n122⟩, -, X122, ⟨Lc122, hQ122, l122, y122, z122⟩, st122⟩ := X119.privateBack hx (y := (⟨"com/example/wache/wache/AttemptTimes", "get", "(II)J"⟩ : MethodName)) hown (mvT hZ (hw _ (List.mem_of_getElem? (i := 48) rfl))) (mvT hZ (hw _ (List.mem_of_getElem? (i := 49) rfl))) (mvT hZ (own_selP (hw _ (List.mem_of_getElem? (i := 49) rfl)) (hw _ (List.mem_of_getElem? (i := 50) rfl)) (hw _ (List.mem_of_getElem? (i := 2) rfl)) (by decide))) (Cond.privateMethod_at (mvP hZ (hw _ (List.mem_of_getElem? (i := 50) rfl)) (args := #[]))) (mvT hZ (hw _ (List.mem_of_getElem? (i := 51) rfl))) (by decide) (backOf (W := 2) (own_rm_get l Z a0 hw [] iv i a span cap sh ow hd sz ko kh ks fw fh fs fz fF (1 : Int32) h112 n0 Zs117 D114 hi (own_WF.idx wf (k := (1 : Int32)) (by decide) (by have e1 : ((1 : Int32)).toInt = 1 := (by decide); omega))) hZ (hw _ (List.mem_of_getElem? (i := 51) rfl)) (hw _ (List.mem_of_getElem? (i := 3) rfl)) (by decide) (by decide)) (g := (mkF m 39 #[.val (.ref a), .val (.int iv), .val (.ref b98), .val (.int (1 : Int32))] [(.int (1 : Int32)), (.int iv), (.ref a), (.int (1 : Int32)), (.ref b98)])) rfl (by rw [hml]; rfl) (Steps.refl _) (a := a) (own_hp e119 q122) q122' (argsL := [(.int iv), (.int (1 : Int32))]) (rest := [(.int (1 : Int32)), (.ref b98)]) (lenOf own_pd2 rfl) rfl (by show 2 * 0 + _ ≤ _; exact Nat.le_of_eq rfl) (hb hby own_d_prog_3_method_9_code_39) (fun _ _ => ⟨rfl, e119, (by decide : 1 + 0 ≤ _), (by decide : 5 + 0 ≤ _)⟩)
    dsimp only [Pt.U, Pt.locs, Pt.cells, Pt.slots] at X122 l122 y122 z122 st122 hQ122
    subst l122 y122 z122
    obtain ⟨N122q, rfl, eh122⟩ := hQ122
    have N124 := Fr.app N113 N122q
    refine own_tr st122 ?_
    show own_Go p e below s _ _ _ (T122.setTop (mkF m 42 #[.val (.ref a), .val (.int iv), .val (.ref b98), .val (.int (1 : Int32))] [(.long (fF i (own_idx (fh i) (1 : Int32) (fz i)).toNatClampNeg)), (.int (1 : Int32)), (.ref b98)]))
    obtain ⟨cl125, Ar125, S125, Nn125, H125⟩ := id L115
    have hin125 : ¬ ((1 : Int32) < 0 ∨ cl125.slots.size ≤ ((1 : Int32) : Int32).toNatClampNeg) := inb_of S125 (own_jin (j := (1 : Int32)) (by decide) (by have e1 : ((1 : Int32)).toInt = 1 := (by decide); omega))
    obtain ⟨T125, h125, X125, e125, W125, st125⟩ := stJ X122 hx hZ eh122 Ar125 (j := (1 : Int32)) hin125 (g := (mkF m 42 #[.val (.ref a), .val (.int iv), .val (.ref b98), .val (.int (1 : Int32))] [(.long (fF i (own_idx (fh i) (1 : Int32) (fz i)).toNatClampNeg)), (.int (1 : Int32)), (.ref b98)])) rfl rfl (hb hby own_d_prog_3_method_9_code_42)
    refine own_st st125 ?_
    have N126 := Fr.snoc X125 N124 g100
    have D127 : own_AT Z h125 n0 a span cap sh ow hd sz ko kh ks fw fh fs fz fF := D114.oth L115 nf103.1 nf103.2 W125
    have L128 : own_LA Z h125 b98 z2 (own_up (own_up (fun _ => 0) (0 : Int32).toNatClampNeg (fF i (own_idx (fh i) (0 : Int32) (fz i)).toNatClampNeg)) (1 : Int32).toNatClampNeg (fF i (own_idx (fh i) (1 : Int32) (fz i)).toNatClampNeg)) := L115.set W125
    have lt129 : b98 < h125.size := Nat.lt_of_lt_of_le lt116 (Nat.le_of_eq W125.size.symm)
    have Zs130 : n0 ≤ h125.size := Nat.le_trans Zs117 (Nat.le_of_eq W125.size.symm)
    show own_Go p e below s _ _ _ (T125.setTop (mkF m 43 #[.val (.ref a), .val (.int iv), .val (.ref b98), .val (.int (1 : Int32))] []))
    refine own_st (fun _ kQ => XT.iincV X125.here hx rfl (1 : Int32) (hb hby own_d_prog_3_method_9_code_43) (by decide) rfl (l' := #[.val (.ref a), .val (.int iv), .val (.ref b98), .val (.int (2 : Int32))]) rfl kQ) ?_
    show own_Go p e below s _ _ _ (T125.setTop (mkF m 46 #[.val (.ref a), .val (.int iv), .val (.ref b98), .val (.int (2 : Int32))] []))
    refine own_st (fun _ kQ => XS.goto X125.here hx rfl (pc0 := 46) (pc' := 24) rfl (hb hby own_d_prog_3_method_9_code_46) (by decide) (by decide) kQ) ?_
    show own_Go p e below s _ _ _ (T125.setTop (mkF m 24 #[.val (.ref a), .val (.int iv), .val (.ref b98), .val (.int (2 : Int32))] []))
    refine own_st (fun _ kQ => XS.iloadN X125.here hx rfl (hb hby own_d_prog_3_method_9_code_24) rfl kQ) ?_
    show own_Go p e below s _ _ _ (T125.setTop (mkF m 25 #[.val (.ref a), .val (.int iv), .val (.ref b98), .val (.int (2 : Int32))] [(.int (2 : Int32))]))
    refine own_st (fun _ kQ => XS.aloadN X125.here hx rfl (hb hby own_d_prog_3_method_9_code_25) rfl rfl kQ) ?_
    show own_Go p e below s _ _ _ (T125.setTop (mkF m 26 #[.val (.ref a), .val (.int iv), .val (.ref b98), .val (.int (2 : Int32))] [(.ref a), (.int (2 : Int32))]))
    have F131 : Fld Z h125 a "com/example/wache/wache/AttemptTimes" "sizes" "[I" (.ref sz) := D127.fsz
    obtain ⟨T132, X132, e132, st132⟩ := getF X125 hx hZ hown (host := "") (Or.inl (hw _ (List.mem_of_getElem? (i := 24) rfl))) Via.refl e125 F131 (g := (mkF m 26 #[.val (.ref a), .val (.int iv), .val (.ref b98), .val (.int (2 : Int32))] [(.ref a), (.int (2 : Int32))])) rfl rfl (hb hby own_d_prog_3_method_9_code_26)
    refine own_st st132 ?_
    show own_Go p e below s _ _ _ (T132.setTop (mkF m 29 #[.val (.ref a), .val (.int iv), .val (.ref b98), .val (.int (2 : Int32))] [(.ref sz), (.int (2 : Int32))]))
    refine own_st (fun _ kQ => XS.iloadN X132.here hx rfl (hb hby own_d_prog_3_method_9_code_29) rfl kQ) ?_
    show own_Go p e below s _ _ _ (T132.setTop (mkF m 30 #[.val (.ref a), .val (.int iv), .val (.ref b98), .val (.int (2 : Int32))] [(.int iv), (.ref sz), (.int (2 : Int32))]))
    have F133 : Arv Z h125 sz ks .int (2 : Int32) [(.int (fs 0)), (.int (fs 1))] (.int (0 : Int32)) := D127.vsz
    obtain ⟨cl134, Ar134, kc134, S134, Nn134, H134, G134⟩ := id F133
    have hin134 : ¬ (iv < 0 ∨ cl134.slots.size ≤ (iv : Int32).toNatClampNeg) := inb_of S134 (own_I.inb hi)
    have hat134 : cl134.slots[(iv : Int32).toNatClampNeg]? = some (.int (2 : Int32)) := H134.at hin134 ((own_I.getI hi fs _).trans (congrArg Value.int hv))
    refine own_st (fun _ kQ => X132.iaload hx (j := iv) (v := (.int (2 : Int32))) (own_hp e132 Ar134.1) (State.isArrayOf_alike hZ.alike Ar134.2.1) Ar134.2.2 hin134 hat134 (g := (mkF m 30 #[.val (.ref a), .val (.int iv), .val (.ref b98), .val (.int (2 : Int32))] [(.int iv), (.ref sz), (.int (2 : Int32))])) rfl rfl (hb hby own_d_prog_3_method_9_code_30) _ kQ) ?_
    show own_Go p e below s _ _ _ (T132.setTop (mkF m 31 #[.val (.ref a), .val (.int iv), .val (.ref b98), .val (.int (2 : Int32))] [(.int (2 : Int32)), (.int (2 : Int32))]))
    refine own_st (fun _ kQ => XS.icmpYes X132.here hx rfl (pc0 := 31) (pc' := 49) rfl (hb hby own_d_prog_3_method_9_code_31) rfl (XT.ii_ge_t (by decide)) (by decide) (by decide) kQ) ?_
    show own_Go p e below s _ _ _ (T132.setTop (mkF m 49 #[.val (.ref a), .val (.int iv), .val (.ref b98), .val (.int (2 : Int32))] []))
    refine own_st (fun _ kQ => XS.aloadN X132.here hx rfl (hb hby own_d_prog_3_method_9_code_49) rfl rfl kQ) ?_
    show own_Go p e below s _ _ _ (T132.setTop (mkF m 50 #[.val (.ref a), .val (.int iv), .val (.ref b98), .val (.int (2 : Int32))] [(.ref a)]))
    have F135 : Fld Z h125 a "com/example/wache/wache/AttemptTimes" "own" "[[J" (.ref ow) := D127.fow
    obtain ⟨T136, X136, e136, st136⟩ := getF X132 hx hZ hown (host := "") (Or.inl (hw _ (List.mem_of_getElem? (i := 19) rfl))) Via.refl e132 F135 (g := (mkF m 50 #[.val (.ref a), .val (.int iv), .val (.ref b98), .val (.int (2 : Int32))] [(.ref a)])) rfl rfl (hb hby own_d_prog_3_method_9_code_50)
    refine own_st st136 ?_
    show own_Go p e below s _ _ _ (T136.setTop (mkF m 53 #[.val (.ref a), .val (.int iv), .val (.ref b98), .val (.int (2 : Int32))] [(.ref ow)]))
    refine own_st (fun _ kQ => XS.iloadN X136.here hx rfl (hb hby own_d_prog_3_method_9_code_53) rfl kQ) ?_
    show own_Go p e below s _ _ _ (T136.setTop (mkF m 54 #[.val (.ref a), .val (.int iv), .val (.ref b98), .val (.int (2 : Int32))] [(.int iv), (.ref ow)]))
    refine own_st (fun _ kQ => XS.aloadN X136.here hx rfl (hb hby own_d_prog_3_method_9_code_54) rfl rfl kQ) ?_
    show own_Go p e below s _ _ _ (T136.setTop (mkF m 55 #[.val (.ref a), .val (.int iv), .val (.ref b98), .val (.int (2 : Int32))] [(.ref b98), (.int iv), (.ref ow)]))
    have F138 : Arv Z h125 ow ko (.array .long) (2 : Int32) [(fw 0), (fw 1)] .null := D127.vow
    obtain ⟨cl137, Ar137, kc137, S137, Nn137, H137, G137⟩ := id F138
    have hin137 : ¬ (iv < 0 ∨ cl137.slots.size ≤ (iv : Int32).toNatClampNeg) := inb_of S137 (own_I.inb hi)
    obtain ⟨T137, h137, X137, e137, W137, st137⟩ := stR X136 hx hZ e136 Ar137 (j := iv) hin137 rfl (Sto.ofVA Ar137 kc137 D127.ovr (Ins.self ((Ea98.wr W112).wr W125))) (g := (mkF m 55 #[.val (.ref a), .val (.int iv), .val (.ref b98), .val (.int (2 : Int32))] [(.ref b98), (.int iv), (.ref ow)])) rfl rfl (hb hby own_d_prog_3_method_9_code_55)
    refine own_st st137 ?_
    have N139 := Fr.snoc X137 N126 D127.gs.2.2.1
    have D140 : own_AT Z h137 n0 a span cap sh ow hd sz ko kh ks (own_up fw i (.ref b98)) fh fs (own_up fz i z2) (own_up fF i (own_up (own_up (fun _ => 0) (0 : Int32).toNatClampNeg (fF i (own_idx (fh i) (0 : Int32) (fz i)).toNatClampNeg)) (1 : Int32).toNatClampNeg (fF i (own_idx (fh i) (1 : Int32) (fz i)).toNatClampNeg))) := D127.setO hi L128 g100 nf103.1 nf103.2 W137
    have lt141 : b98 < h137.size := Nat.lt_of_lt_of_le lt129 (Nat.le_of_eq W137.size.symm)
    have Zs142 : n0 ≤ h137.size := Nat.le_trans Zs130 (Nat.le_of_eq W137.size.symm)
    show own_Go p e below s _ _ _ (T137.setTop (mkF m 56 #[.val (.ref a), .val (.int iv), .val (.ref b98), .val (.int (2 : Int32))] []))
    refine own_st (fun _ kQ => XS.aloadN X137.here hx rfl (hb hby own_d_prog_3_method_9_code_56) rfl rfl kQ) ?_
    show own_Go p e below s _ _ _ (T137.setTop (mkF m 57 #[.val (.ref a), .val (.int iv), .val (.ref b98), .val (.int (2 : Int32))] [(.ref a)]))
    have F143 : Fld Z h137 a "com/example/wache/wache/AttemptTimes" "heads" "[I" (.ref hd) := D140.fhd
    obtain ⟨T144, X144, e144, st144⟩ := getF X137 hx hZ hown (host := "") (Or.inl (hw _ (List.mem_of_getElem? (i := 22) rfl))) Via.refl e137 F143 (g := (mkF m 57 #[.val (.ref a), .val (.int iv), .val (.ref b98), .val (.int (2 : Int32))] [(.ref a)])) rfl rfl (hb hby own_d_prog_3_method_9_code_57)
    refine own_st st144 ?_
    show own_Go p e below s _ _ _ (T144.setTop (mkF m 60 #[.val (.ref a), .val (.int iv), .val (.ref b98), .val (.int (2 : Int32))] [(.ref hd)]))
    refine own_st (fun _ kQ => XS.iloadN X144.here hx rfl (hb hby own_d_prog_3_method_9_code_60) rfl kQ) ?_
    show own_Go p e below s _ _ _ (T144.setTop (mkF m 61 #[.val (.ref a), .val (.int iv), .val (.ref b98), .val (.int (2 : Int32))] [(.int iv), (.ref hd)]))
    refine own_st (fun _ kQ => XT.iconstV X144.here hx rfl (0 : Int32) (hb hby own_d_prog_3_method_9_code_61) (by decide) kQ) ?_
    show own_Go p e below s _ _ _ (T144.setTop (mkF m 62 #[.val (.ref a), .val (.int iv), .val (.ref b98), .val (.int (2 : Int32))] [(.int (0 : Int32)), (.int iv), (.ref hd)]))
    have F146 : Arv Z h137 hd kh .int (2 : Int32) [(.int (fh 0)), (.int (fh 1))] (.int (0 : Int32)) := D140.vhd
    obtain ⟨cl145, Ar145, kc145, S145, Nn145, H145, G145⟩ := id F146
    have hin145 : ¬ (iv < 0 ∨ cl145.slots.size ≤ (iv : Int32).toNatClampNeg) := inb_of S145 (own_I.inb hi)
    obtain ⟨T145, h145, X145, e145, W145, st145⟩ := stI X144 hx hZ e144 Ar145 (j := iv) hin145 (g := (mkF m 62 #[.val (.ref a), .val (.int iv), .val (.ref b98), .val (.int (2 : Int32))] [(.int (0 : Int32)), (.int iv), (.ref hd)])) rfl rfl (hb hby own_d_prog_3_method_9_code_62)
    refine own_st st145 ?_
    have N147 := Fr.snoc X145 N139 D140.gs.2.2.2.1
    have D148 : own_AT Z h145 n0 a span cap sh ow hd sz ko kh ks (own_up fw i (.ref b98)) (own_up fh i (0 : Int32)) fs (own_up fz i z2) (own_up fF i (own_up (own_up (fun _ => 0) (0 : Int32).toNatClampNeg (fF i (own_idx (fh i) (0 : Int32) (fz i)).toNatClampNeg)) (1 : Int32).toNatClampNeg (fF i (own_idx (fh i) (1 : Int32) (fz i)).toNatClampNeg))) := D140.setH hi W145
    have lt149 : b98 < h145.size := Nat.lt_of_lt_of_le lt141 (Nat.le_of_eq W145.size.symm)
    have Zs150 : n0 ≤ h145.size := Nat.le_trans Zs142 (Nat.le_of_eq W145.size.symm)
    show own_Go p e below s _ _ _ (T145.setTop (mkF m 63 #[.val (.ref a), .val (.int iv), .val (.ref b98), .val (.int (2 : Int32))] []))
    refine own_ret0 X145 hx hlk Bd.returns (hb hby own_d_prog_3_method_9_code_63) (by decide) (by decide) ?_
    rw [e145]
    exact ⟨(own_up fw i (.ref b98)), (own_up fh i (0 : Int32)), (own_up fz i z2), (own_up fF i (own_up (own_up (fun _ => 0) (0 : Int32).toNatClampNeg (fF i (own_idx (fh i) (0 : Int32) (fz i)).toNatClampNeg)) (1 : Int32).toNatClampNeg (fF i (own_idx (fh i) (1 : Int32) (fz i)).toNatClampNeg))), N147, rfl, D148, (own_up_same _ _ _), (by rw [own_up_same]; exact ⟨z2a, z2b⟩), (fun q hq => ⟨own_up_ne hq, own_up_ne hq, own_up_ne hq⟩)⟩
  · have hvi : (fs i).toInt = 3 := by rw [hv]; decide
    show own_Go p e below s _ _ _ (s₁.setTop (mkF m 0 #[.val (.ref a), .val (.int iv), .unset, .unset] []))
    refine own_st (fun _ kQ => XS.aloadN X0.here hx rfl (hb hby own_d_prog_3_method_9_code_0) rfl rfl kQ) ?_
    show own_Go p e below s _ _ _ (s₁.setTop (mkF m 1 #[.val (.ref a), .val (.int iv), .unset, .unset] [(.ref a)]))
    have F151 : Fld Z h0 a "com/example/wache/wache/AttemptTimes" "capacity" "I" (.int cap) := D.fcap
    obtain ⟨T152, X152, e152, st152⟩ := getF X0 hx hZ hown (host := "") (Or.inl (hw _ (List.mem_of_getElem? (i := 12) rfl))) Via.refl e0 F151 (g := (mkF m 1 #[.val (.ref a), .val (.int iv), .unset, .unset] [(.ref a)])) rfl rfl (hb hby own_d_prog_3_method_9_code_1)
    refine own_st st152 ?_
    show own_Go p e below s _ _ _ (T152.setTop (mkF m 4 #[.val (.ref a), .val (.int iv), .unset, .unset] [(.int cap)]))
    refine own_st (fun _ kQ => XT.i2l X152.here hx rfl (hb hby own_d_prog_3_method_9_code_4) rfl kQ) ?_
    show own_Go p e below s _ _ _ (T152.setTop (mkF m 5 #[.val (.ref a), .val (.int iv), .unset, .unset] [(.long (cap.toInt64))]))
    refine own_st (fun _ kQ => X152.ldc2J hx hown (mvT hZ (hw _ (List.mem_of_getElem? (i := 80) rfl))) rfl (hb hby own_d_prog_3_method_9_code_5) kQ) ?_
    show own_Go p e below s _ _ _ (T152.setTop (mkF m 8 #[.val (.ref a), .val (.int iv), .unset, .unset] [(.long (2 : Int64)), (.long (cap.toInt64))]))
    refine own_st (fun _ kQ => XS.aloadN X152.here hx rfl (hb hby own_d_prog_3_method_9_code_8) rfl rfl kQ) ?_
    show own_Go p e below s _ _ _ (T152.setTop (mkF m 9 #[.val (.ref a), .val (.int iv), .unset, .unset] [(.ref a), (.long (2 : Int64)), (.long (cap.toInt64))]))
    refine own_st (fun _ kQ => XS.iloadN X152.here hx rfl (hb hby own_d_prog_3_method_9_code_9) rfl kQ) ?_
    show own_Go p e below s _ _ _ (T152.setTop (mkF m 10 #[.val (.ref a), .val (.int iv), .unset, .unset] [(.int iv), (.ref a), (.long (2 : Int64)), (.long (cap.toInt64))]))
    have F154 : Exa Z h0 a "com/example/wache/wache/AttemptTimes" := D.exa
    obtain ⟨cq153, q153, q153'⟩ := F154.cell
    obtain ⟨_, _, ⟨T153, L153, k153, n153⟩, -, X153, ⟨Lc153, hQ153, l153, y153, z153⟩, st153⟩ := X152.privateBack hx (y := (⟨"com/example/wache/wache/AttemptTimes", "length", "(I)I"⟩ : MethodName)) hown (mvT hZ (hw _ (List.mem_of_getElem? (i := 31) rfl))) (mvT hZ (hw _ (List.mem_of_getElem? (i := 32) rfl))) (mvT hZ (own_selP (hw _ (List.mem_of_getElem? (i := 32) rfl)) (hw _ (List.mem_of_getElem? (i := 33) rfl)) (hw _ (List.mem_of_getElem? (i := 2) rfl)) (by decide))) (Cond.privateMethod_at (mvP hZ (hw _ (List.mem_of_getElem? (i := 33) rfl)) (args := #[]))) (mvT hZ (hw _ (List.mem_of_getElem? (i := 34) rfl))) (by decide) (backOf (W := 4) (own_rm_length l Z a0 hw [] iv i a span cap sh ow hd sz ko kh ks fw fh fs fz fF h0 n0 Z0 D hi) hZ (hw _ (List.mem_of_getElem? (i := 34) rfl)) (hw _ (List.mem_of_getElem? (i := 3) rfl)) (by decide) (by decide)) (g := (mkF m 10 #[.val (.ref a), .val (.int iv), .unset, .unset] [(.int iv), (.ref a), (.long (2 : Int64)), (.long (cap.toInt64))])) rfl (by rw [hml]; rfl) (Steps.refl _) (a := a) (own_hp e152 q153) q153' (argsL := [(.int iv)]) (rest := [(.long (2 : Int64)), (.long (cap.toInt64))]) (lenOf own_pd0 rfl) rfl (by show 2 * 0 + _ ≤ _; exact Nat.le_of_eq rfl) (hb hby own_d_prog_3_method_9_code_10) (fun _ _ => ⟨rfl, e152, (by decide : 0 + 0 ≤ _), (by decide : 0 + 0 ≤ _)⟩)
    dsimp only [Pt.U, Pt.locs, Pt.cells, Pt.slots] at X153 l153 y153 z153 st153 hQ153
    subst l153 y153 z153
    obtain ⟨N153q, rfl, eh153⟩ := hQ153
    have N155 := Fr.app N0 N153q
    refine own_tr st153 ?_
    show own_Go p e below s _ _ _ (T153.setTop (mkF m 13 #[.val (.ref a), .val (.int iv), .unset, .unset] [(.int (fz i)), (.long (2 : Int64)), (.long (cap.toInt64))]))
    refine own_st (fun _ kQ => XT.i2l X153.here hx rfl (hb hby own_d_prog_3_method_9_code_13) rfl kQ) ?_
    show own_Go p e below s _ _ _ (T153.setTop (mkF m 14 #[.val (.ref a), .val (.int iv), .unset, .unset] [(.long ((fz i).toInt64)), (.long (2 : Int64)), (.long (cap.toInt64))]))
    refine own_st (fun _ kQ => XT.lmul X153.here hx rfl (hb hby own_d_prog_3_method_9_code_14) rfl kQ) ?_
    show own_Go p e below s _ _ _ (T153.setTop (mkF m 15 #[.val (.ref a), .val (.int iv), .unset, .unset] [(.long ((2 : Int64) * ((fz i).toInt64))), (.long (cap.toInt64))]))
    obtain ⟨_, _, ⟨T156, L156, k156, n156⟩, -, X156, ⟨Lc156, hQ156, l156, y156, z156⟩, st156⟩ := Jvm.LawKit.callS X153 hx (y := (⟨"java/lang/Math", "min", "(JJ)J"⟩ : MethodName)) hown (mvT hZ (hw _ (List.mem_of_getElem? (i := 81) rfl))) (mvT hZ (hw _ (List.mem_of_getElem? (i := 82) rfl))) (mvT hZ (hw _ (List.mem_of_getElem? (i := 69) rfl))) (mvT hZ (hw _ (List.mem_of_getElem? (i := 83) rfl))) (by decide) (backOf (W := 0) (own_rm_minJ l Z a0 hw [] (cap.toInt64) ((2 : Int64) * ((fz i).toInt64)) h0 n0 Z0 ) hZ (hw _ (List.mem_of_getElem? (i := 83) rfl)) (hw _ (List.mem_of_getElem? (i := 69) rfl)) (by decide) (by decide)) (g := (mkF m 15 #[.val (.ref a), .val (.int iv), .unset, .unset] [(.long ((2 : Int64) * ((fz i).toInt64))), (.long (cap.toInt64))])) rfl (by rw [hml]; rfl) (argsL := [(.long (cap.toInt64)), (.long ((2 : Int64) * ((fz i).toInt64)))]) (rest := []) (lenOf own_pd3 rfl) rfl (by show 2 * 0 + _ ≤ _; exact Nat.le_of_eq rfl) (hb hby own_d_prog_3_method_9_code_15) (fun _ _ => ⟨rfl, eh153, (by decide : 0 + 0 ≤ _), (by decide : 0 + 0 ≤ _)⟩)
    dsimp only [Pt.U, Pt.locs, Pt.cells, Pt.slots] at X156 l156 y156 z156 st156 hQ156
    subst l156 y156 z156
    obtain ⟨N156q, rfl, eh156⟩ := hQ156
    have N157 := Fr.app N155 N156q
    refine own_st st156 ?_
    show own_Go p e below s _ _ _ (T156.setTop (mkF m 18 #[.val (.ref a), .val (.int iv), .unset, .unset] [(.long (own_minJ (cap.toInt64) ((2 : Int64) * ((fz i).toInt64))))]))
    refine own_st (fun _ kQ => XT.l2i X156.here hx rfl (hb hby own_d_prog_3_method_9_code_18) rfl kQ) ?_
    show own_Go p e below s _ _ _ (T156.setTop (mkF m 19 #[.val (.ref a), .val (.int iv), .unset, .unset] [(.int ((own_minJ (cap.toInt64) ((2 : Int64) * ((fz i).toInt64))).toInt32))]))
    obtain ⟨z2, hz2, z2a, z2b⟩ := own_growz wf hs hc
    rw [hz2]
    have z2c := own_small (z := z2) (n := 5) (by omega) (by omega)
    show own_Go p e below s _ _ _ (T156.setTop (mkF m 19 #[.val (.ref a), .val (.int iv), .unset, .unset] [(.int z2)]))
    obtain ⟨T158, h158, k158, X158, e158, E158, A158, Ea158, st158⟩ := newPE X156 hx hZ (aty := .long) (hw _ (List.mem_of_getElem? (i := 14) rfl)) eh156 (g := (mkF m 19 #[.val (.ref a), .val (.int iv), .unset, .unset] [(.int z2)])) rfl (hb hby own_d_prog_3_method_9_code_19) rfl z2c.1 (cap := 5) z2c.2 (by decide) (by decide) (by decide) (ad := "[J") (by decide +kernel)
    obtain ⟨b158, g158⟩ : ∃ z, z = h0.size := ⟨_, rfl⟩
    rw [← g158] at A158 Ea158 st158
    refine own_st st158 ?_
    have Zs159 : n0 ≤ h158.size := Nat.le_trans Z0 E158.1
    have g160 : n0 ≤ b158 := Nat.le_trans Z0 (Nat.le_of_eq g158.symm)
    have F161 : Arv Z h158 b158 k158 .long z2 [] (.long (0 : Int64)) := Arv.new A158 z2c.1
    have L162 : own_LA Z h158 b158 z2 (fun _ => 0) := own_LA.new A158 z2c.1
    have nf163 := own_AT.fresh D (Nat.le_of_eq g158.symm)
    show own_Go p e below s _ _ _ (T158.setTop (mkF m 21 #[.val (.ref a), .val (.int iv), .unset, .unset] [(.ref b158)]))
    refine own_st (fun _ kQ => XS.astoreN X158.here hx rfl (hb hby own_d_prog_3_method_9_code_21) rfl rfl (l' := #[.val (.ref a), .val (.int iv), .val (.ref b158), .unset]) rfl kQ) ?_
    show own_Go p e below s _ _ _ (T158.setTop (mkF m 22 #[.val (.ref a), .val (.int iv), .val (.ref b158), .unset] []))
    refine own_st (fun _ kQ => XT.iconstV X158.here hx rfl (0 : Int32) (hb hby own_d_prog_3_method_9_code_22) (by decide) kQ) ?_
    show own_Go p e below s _ _ _ (T158.setTop (mkF m 23 #[.val (.ref a), .val (.int iv), .val (.ref b158), .unset] [(.int (0 : Int32))]))
    refine own_st (fun _ kQ => XS.istoreN X158.here hx rfl (hb hby own_d_prog_3_method_9_code_23) rfl (l' := #[.val (.ref a), .val (.int iv), .val (.ref b158), .val (.int (0 : Int32))]) rfl kQ) ?_
    show own_Go p e below s _ _ _ (T158.setTop (mkF m 24 #[.val (.ref a), .val (.int iv), .val (.ref b158), .val (.int (0 : Int32))] []))
    refine own_st (fun _ kQ => XS.iloadN X158.here hx rfl (hb hby own_d_prog_3_method_9_code_24) rfl kQ) ?_
    show own_Go p e below s _ _ _ (T158.setTop (mkF m 25 #[.val (.ref a), .val (.int iv), .val (.ref b158), .val (.int (0 : Int32))] [(.int (0 : Int32))]))
    refine own_st (fun _ kQ => XS.aloadN X158.here hx rfl (hb hby own_d_prog_3_method_9_code_25) rfl rfl kQ) ?_
    show own_Go p e below s _ _ _ (T158.setTop (mkF m 26 #[.val (.ref a), .val (.int iv), .val (.ref b158), .val (.int (0 : Int32))] [(.ref a), (.int (0 : Int32))]))
    have F164 : own_AT Z h158 n0 a span cap sh ow hd sz ko kh ks fw fh fs fz fF := (D.ext E158)
    have F165 : Fld Z h158 a "com/example/wache/wache/AttemptTimes" "sizes" "[I" (.ref sz) := F164.fsz
    obtain ⟨T166, X166, e166, st166⟩ := getF X158 hx hZ hown (host := "") (Or.inl (hw _ (List.mem_of_getElem? (i := 24) rfl))) Via.refl e158 F165 (g := (mkF m 26 #[.val (.ref a), .val (.int iv), .val (.ref b158), .val (.int (0 : Int32))] [(.ref a), (.int (0 : Int32))])) rfl rfl (hb hby own_d_prog_3_method_9_code_26)
    refine own_st st166 ?_
    show own_Go p e below s _ _ _ (T166.setTop (mkF m 29 #[.val (.ref a), .val (.int iv), .val (.ref b158), .val (.int (0 : Int32))] [(.ref sz), (.int (0 : Int32))]))
    refine own_st (fun _ kQ => XS.iloadN X166.here hx rfl (hb hby own_d_prog_3_method_9_code_29) rfl kQ) ?_
    show own_Go p e below s _ _ _ (T166.setTop (mkF m 30 #[.val (.ref a), .val (.int iv), .val (.ref b158), .val (.int (0 : Int32))] [(.int iv), (.ref sz), (.int (0 : Int32))]))
    have F167 : Arv Z h158 sz ks .int (2 : Int32) [(.int (fs 0)), (.int (fs 1))] (.int (0 : Int32)) := F164.vsz
    obtain ⟨cl168, Ar168, kc168, S168, Nn168, H168, G168⟩ := id F167
    have hin168 : ¬ (iv < 0 ∨ cl168.slots.size ≤ (iv : Int32).toNatClampNeg) := inb_of S168 (own_I.inb hi)
    have hat168 : cl168.slots[(iv : Int32).toNatClampNeg]? = some (.int (3 : Int32)) := H168.at hin168 ((own_I.getI hi fs _).trans (congrArg Value.int hv))
    refine own_st (fun _ kQ => X166.iaload hx (j := iv) (v := (.int (3 : Int32))) (own_hp e166 Ar168.1) (State.isArrayOf_alike hZ.alike Ar168.2.1) Ar168.2.2 hin168 hat168 (g := (mkF m 30 #[.val (.ref a), .val (.int iv), .val (.ref b158), .val (.int (0 : Int32))] [(.int iv), (.ref sz), (.int (0 : Int32))])) rfl rfl (hb hby own_d_prog_3_method_9_code_30) _ kQ) ?_
    show own_Go p e below s _ _ _ (T166.setTop (mkF m 31 #[.val (.ref a), .val (.int iv), .val (.ref b158), .val (.int (0 : Int32))] [(.int (3 : Int32)), (.int (0 : Int32))]))
    refine own_st (fun _ kQ => XS.icmpNo X166.here hx rfl (hb hby own_d_prog_3_method_9_code_31) rfl (XT.ii_ge_f (by decide)) kQ) ?_
    show own_Go p e below s _ _ _ (T166.setTop (mkF m 34 #[.val (.ref a), .val (.int iv), .val (.ref b158), .val (.int (0 : Int32))] []))
    refine own_st (fun _ kQ => XS.aloadN X166.here hx rfl (hb hby own_d_prog_3_method_9_code_34) rfl rfl kQ) ?_
    show own_Go p e below s _ _ _ (T166.setTop (mkF m 35 #[.val (.ref a), .val (.int iv), .val (.ref b158), .val (.int (0 : Int32))] [(.ref b158)]))
    refine own_st (fun _ kQ => XS.iloadN X166.here hx rfl (hb hby own_d_prog_3_method_9_code_35) rfl kQ) ?_
    show own_Go p e below s _ _ _ (T166.setTop (mkF m 36 #[.val (.ref a), .val (.int iv), .val (.ref b158), .val (.int (0 : Int32))] [(.int (0 : Int32)), (.ref b158)]))
    refine own_st (fun _ kQ => XS.aloadN X166.here hx rfl (hb hby own_d_prog_3_method_9_code_36) rfl rfl kQ) ?_
    show own_Go p e below s _ _ _ (T166.setTop (mkF m 37 #[.val (.ref a), .val (.int iv), .val (.ref b158), .val (.int (0 : Int32))] [(.ref a), (.int (0 : Int32)), (.ref b158)]))
    refine own_st (fun _ kQ => XS.iloadN X166.here hx rfl (hb hby own_d_prog_3_method_9_code_37) rfl kQ) ?_
    show own_Go p e below s _ _ _ (T166.setTop (mkF m 38 #[.val (.ref a), .val (.int iv), .val (.ref b158), .val (.int (0 : Int32))] [(.int iv), (.ref a), (.int (0 : Int32)), (.ref b158)]))
    refine own_st (fun _ kQ => XS.iloadN X166.here hx rfl (hb hby own_d_prog_3_method_9_code_38) rfl kQ) ?_
    show own_Go p e below s _ _ _ (T166.setTop (mkF m 39 #[.val (.ref a), .val (.int iv), .val (.ref b158), .val (.int (0 : Int32))] [(.int (0 : Int32)), (.int iv), (.ref a), (.int (0 : Int32)), (.ref b158)]))
    have F170 : Exa Z h158 a "com/example/wache/wache/AttemptTimes" := F164.exa
    obtain ⟨cq169, q169, q169'⟩ := F170.cell
    obtain ⟨_, _, ⟨T169, L169, k169, n169⟩, -, X169, ⟨Lc169, hQ169, l169, y169, z169⟩, st169⟩ := X166.privateBack hx (y := (⟨"com/example/wache/wache/AttemptTimes", "get", "(II)J"⟩ : MethodName)) hown (mvT hZ (hw _ (List.mem_of_getElem? (i := 48) rfl))) (mvT hZ (hw _ (List.mem_of_getElem? (i := 49) rfl))) (mvT hZ (own_selP (hw _ (List.mem_of_getElem? (i := 49) rfl)) (hw _ (List.mem_of_getElem? (i := 50) rfl)) (hw _ (List.mem_of_getElem? (i := 2) rfl)) (by decide))) (Cond.privateMethod_at (mvP hZ (hw _ (List.mem_of_getElem? (i := 50) rfl)) (args := #[]))) (mvT hZ (hw _ (List.mem_of_getElem? (i := 51) rfl))) (by decide) (backOf (W := 2) (own_rm_get l Z a0 hw [] iv i a span cap sh ow hd sz ko kh ks fw fh fs fz fF (0 : Int32) h158 n0 Zs159 F164 hi (own_WF.idx wf (k := (0 : Int32)) (by decide) (by have e1 : ((0 : Int32)).toInt = 0 := (by decide); omega))) hZ (hw _ (List.mem_of_getElem? (i := 51) rfl)) (hw _ (List.mem_of_getElem? (i := 3) rfl)) (by decide) (by decide)) (g := (mkF m 39 #[.val (.ref a), .val (.int iv), .val (.ref b158), .val (.int (0 : Int32))] [(.int (0 : Int32)), (.int iv), (.ref a), (.int (0 : Int32)), (.ref b158)])) rfl (by rw [hml]; rfl) (Steps.refl _) (a := a) (own_hp e166 q169) q169' (argsL := [(.int iv), (.int (0 : Int32))]) (rest := [(.int (0 : Int32)), (.ref b158)]) (lenOf own_pd2 rfl) rfl (by show 2 * 0 + _ ≤ _; exact Nat.le_of_eq rfl) (hb hby own_d_prog_3_method_9_code_39) (fun _ _ => ⟨rfl, e166, (by decide : 1 + 0 ≤ _), (by decide : 5 + 0 ≤ _)⟩)
    dsimp only [Pt.U, Pt.locs, Pt.cells, Pt.slots] at X169 l169 y169 z169 st169 hQ169
    subst l169 y169 z169
    obtain ⟨N169q, rfl, eh169⟩ := hQ169
    have N171 := Fr.app N157 N169q
    refine own_tr st169 ?_
    show own_Go p e below s _ _ _ (T169.setTop (mkF m 42 #[.val (.ref a), .val (.int iv), .val (.ref b158), .val (.int (0 : Int32))] [(.long (fF i (own_idx (fh i) (0 : Int32) (fz i)).toNatClampNeg)), (.int (0 : Int32)), (.ref b158)]))
    obtain ⟨cl172, Ar172, S172, Nn172, H172⟩ := id L162
    have hin172 : ¬ ((0 : Int32) < 0 ∨ cl172.slots.size ≤ ((0 : Int32) : Int32).toNatClampNeg) := inb_of S172 (own_jin (j := (0 : Int32)) (by decide) (by have e1 : ((0 : Int32)).toInt = 0 := (by decide); omega))
    obtain ⟨T172, h172, X172, e172, W172, st172⟩ := stJ X169 hx hZ eh169 Ar172 (j := (0 : Int32)) hin172 (g := (mkF m 42 #[.val (.ref a), .val (.int iv), .val (.ref b158), .val (.int (0 : Int32))] [(.long (fF i (own_idx (fh i) (0 : Int32) (fz i)).toNatClampNeg)), (.int (0 : Int32)), (.ref b158)])) rfl rfl (hb hby own_d_prog_3_method_9_code_42)
    refine own_st st172 ?_
    have N173 := Fr.snoc X172 N171 g160
    have D174 : own_AT Z h172 n0 a span cap sh ow hd sz ko kh ks fw fh fs fz fF := F164.oth L162 nf163.1 nf163.2 W172
    have L175 : own_LA Z h172 b158 z2 (own_up (fun _ => 0) (0 : Int32).toNatClampNeg (fF i (own_idx (fh i) (0 : Int32) (fz i)).toNatClampNeg)) := L162.set W172
    have lt176 : b158 < h172.size := Nat.lt_of_lt_of_le A158.lt (Nat.le_of_eq W172.size.symm)
    have Zs177 : n0 ≤ h172.size := Nat.le_trans Zs159 (Nat.le_of_eq W172.size.symm)
    show own_Go p e below s _ _ _ (T172.setTop (mkF m 43 #[.val (.ref a), .val (.int iv), .val (.ref b158), .val (.int (0 : Int32))] []))
    refine own_st (fun _ kQ => XT.iincV X172.here hx rfl (1 : Int32) (hb hby own_d_prog_3_method_9_code_43) (by decide) rfl (l' := #[.val (.ref a), .val (.int iv), .val (.ref b158), .val (.int (1 : Int32))]) rfl kQ) ?_
    show own_Go p e below s _ _ _ (T172.setTop (mkF m 46 #[.val (.ref a), .val (.int iv), .val (.ref b158), .val (.int (1 : Int32))] []))
    refine own_st (fun _ kQ => XS.goto X172.here hx rfl (pc0 := 46) (pc' := 24) rfl (hb hby own_d_prog_3_method_9_code_46) (by decide) (by decide) kQ) ?_
    show own_Go p e below s _ _ _ (T172.setTop (mkF m 24 #[.val (.ref a), .val (.int iv), .val (.ref b158), .val (.int (1 : Int32))] []))
    refine own_st (fun _ kQ => XS.iloadN X172.here hx rfl (hb hby own_d_prog_3_method_9_code_24) rfl kQ) ?_
    show own_Go p e below s _ _ _ (T172.setTop (mkF m 25 #[.val (.ref a), .val (.int iv), .val (.ref b158), .val (.int (1 : Int32))] [(.int (1 : Int32))]))
    refine own_st (fun _ kQ => XS.aloadN X172.here hx rfl (hb hby own_d_prog_3_method_9_code_25) rfl rfl kQ) ?_
    show own_Go p e below s _ _ _ (T172.setTop (mkF m 26 #[.val (.ref a), .val (.int iv), .val (.ref b158), .val (.int (1 : Int32))] [(.ref a), (.int (1 : Int32))]))
    have F178 : Fld Z h172 a "com/example/wache/wache/AttemptTimes" "sizes" "[I" (.ref sz) := D174.fsz
    obtain ⟨T179, X179, e179, st179⟩ := getF X172 hx hZ hown (host := "") (Or.inl (hw _ (List.mem_of_getElem? (i := 24) rfl))) Via.refl e172 F178 (g := (mkF m 26 #[.val (.ref a), .val (.int iv), .val (.ref b158), .val (.int (1 : Int32))] [(.ref a), (.int (1 : Int32))])) rfl rfl (hb hby own_d_prog_3_method_9_code_26)
    refine own_st st179 ?_
    show own_Go p e below s _ _ _ (T179.setTop (mkF m 29 #[.val (.ref a), .val (.int iv), .val (.ref b158), .val (.int (1 : Int32))] [(.ref sz), (.int (1 : Int32))]))
    refine own_st (fun _ kQ => XS.iloadN X179.here hx rfl (hb hby own_d_prog_3_method_9_code_29) rfl kQ) ?_
    show own_Go p e below s _ _ _ (T179.setTop (mkF m 30 #[.val (.ref a), .val (.int iv), .val (.ref b158), .val (.int (1 : Int32))] [(.int iv), (.ref sz), (.int (1 : Int32))]))
    have F180 : Arv Z h172 sz ks .int (2 : Int32) [(.int (fs 0)), (.int (fs 1))] (.int (0 : Int32)) := D174.vsz
    obtain ⟨cl181, Ar181, kc181, S181, Nn181, H181, G181⟩ := id F180
    have hin181 : ¬ (iv < 0 ∨ cl181.slots.size ≤ (iv : Int32).toNatClampNeg) := inb_of S181 (own_I.inb hi)
    have hat181 : cl181.slots[(iv : Int32).toNatClampNeg]? = some (.int (3 : Int32)) := H181.at hin181 ((own_I.getI hi fs _).trans (congrArg Value.int hv))
    refine own_st (fun _ kQ => X179.iaload hx (j := iv) (v := (.int (3 : Int32))) (own_hp e179 Ar181.1) (State.isArrayOf_alike hZ.alike Ar181.2.1) Ar181.2.2 hin181 hat181 (g := (mkF m 30 #[.val (.ref a), .val (.int iv), .val (.ref b158), .val (.int (1 : Int32))] [(.int iv), (.ref sz), (.int (1 : Int32))])) rfl rfl (hb hby own_d_prog_3_method_9_code_30) _ kQ) ?_
    show own_Go p e below s _ _ _ (T179.setTop (mkF m 31 #[.val (.ref a), .val (.int iv), .val (.ref b158), .val (.int (1 : Int32))] [(.int (3 : Int32)), (.int (1 : Int32))]))
    refine own_st (fun _ kQ => XS.icmpNo X179.here hx rfl (hb hby own_d_prog_3_method_9_code_31) rfl (XT.ii_ge_f (by decide)) kQ) ?_
    show own_Go p e below s _ _ _ (T179.setTop (mkF m 34 #[.val (.ref a), .val (.int iv), .val (.ref b158), .val (.int (1 : Int32))] []))
    refine own_st (fun _ kQ => XS.aloadN X179.here hx rfl (hb hby own_d_prog_3_method_9_code_34) rfl rfl kQ) ?_
    show own_Go p e below s _ _ _ (T179.setTop (mkF m 35 #[.val (.ref a), .val (.int iv), .val (.ref b158), .val (.int (1 : Int32))] [(.ref b158)]))
    refine own_st (fun _ kQ => XS.iloadN X179.here hx rfl (hb hby own_d_prog_3_method_9_code_35) rfl kQ) ?_
    show own_Go p e below s _ _ _ (T179.setTop (mkF m 36 #[.val (.ref a), .val (.int iv), .val (.ref b158), .val (.int (1 : Int32))] [(.int (1 : Int32)), (.ref b158)]))
    refine own_st (fun _ kQ => XS.aloadN X179.here hx rfl (hb hby own_d_prog_3_method_9_code_36) rfl rfl kQ) ?_
    show own_Go p e below s _ _ _ (T179.setTop (mkF m 37 #[.val (.ref a), .val (.int iv), .val (.ref b158), .val (.int (1 : Int32))] [(.ref a), (.int (1 : Int32)), (.ref b158)]))
    refine own_st (fun _ kQ => XS.iloadN X179.here hx rfl (hb hby own_d_prog_3_method_9_code_37) rfl kQ) ?_
    show own_Go p e below s _ _ _ (T179.setTop (mkF m 38 #[.val (.ref a), .val (.int iv), .val (.ref b158), .val (.int (1 : Int32))] [(.int iv), (.ref a), (.int (1 : Int32)), (.ref b158)]))
    refine own_st (fun _ kQ => XS.iloadN X179.here hx rfl (hb hby own_d_prog_3_method_9_code_38) rfl kQ) ?_
    show own_Go p e below s _ _ _ (T179.setTop (mkF m 39 #[.val (.ref a), .val (.int iv), .val (.ref b158), .val (.int (1 : Int32))] [(.int (1 : Int32)), (.int iv), (.ref a), (.int (1 : Int32)), (.ref b158)]))
    have F183 : Exa Z h172 a "com/example/wache/wache/AttemptTimes" := D174.exa
    obtain ⟨cq182, q182, q182'⟩ := F183.cell
    obtain ⟨_, _, ⟨T182, L182, k182, n182⟩, -, X182, ⟨Lc182, hQ182, l182, y182, z182⟩, st182⟩ := X179.privateBack hx (y := (⟨"com/example/wache/wache/AttemptTimes", "get", "(II)J"⟩ : MethodName)) hown (mvT hZ (hw _ (List.mem_of_getElem? (i := 48) rfl))) (mvT hZ (hw _ (List.mem_of_getElem? (i := 49) rfl))) (mvT hZ (own_selP (hw _ (List.mem_of_getElem? (i := 49) rfl)) (hw _ (List.mem_of_getElem? (i := 50) rfl)) (hw _ (List.mem_of_getElem? (i := 2) rfl)) (by decide))) (Cond.privateMethod_at (mvP hZ (hw _ (List.mem_of_getElem? (i := 50) rfl)) (args := #[]))) (mvT hZ (hw _ (List.mem_of_getElem? (i := 51) rfl))) (by decide) (backOf (W := 2) (own_rm_get l Z a0 hw [] iv i a span cap sh ow hd sz ko kh ks fw fh fs fz fF (1 : Int32) h172 n0 Zs177 D174 hi (own_WF.idx wf (k := (1 : Int32)) (by decide) (by have e1 : ((1 : Int32)).toInt = 1 := (by decide); omega))) hZ (hw _ (List.mem_of_getElem? (i := 51) rfl)) (hw _ (List.mem_of_getElem? (i := 3) rfl)) (by decide) (by decide)) (g := (mkF m 39 #[.val (.ref a), .val (.int iv), .val (.ref b158), .val (.int (1 : Int32))] [(.int (1 : Int32)), (.int iv), (.ref a), (.int (1 : Int32)), (.ref b158)])) rfl (by rw [hml]; rfl) (Steps.refl _) (a := a) (own_hp e179 q182) q182' (argsL := [(.int iv), (.int (1 : Int32))]) (rest := [(.int (1 : Int32)), (.ref b158)]) (lenOf own_pd2 rfl) rfl (by show 2 * 0 + _ ≤ _; exact Nat.le_of_eq rfl) (hb hby own_d_prog_3_method_9_code_39) (fun _ _ => ⟨rfl, e179, (by decide : 1 + 0 ≤ _), (by decide : 5 + 0 ≤ _)⟩)
    dsimp only [Pt.U, Pt.locs, Pt.cells, Pt.slots] at X182 l182 y182 z182 st182 hQ182
    subst l182 y182 z182
    obtain ⟨N182q, rfl, eh182⟩ := hQ182
    have N184 := Fr.app N173 N182q
    refine own_tr st182 ?_
    show own_Go p e below s _ _ _ (T182.setTop (mkF m 42 #[.val (.ref a), .val (.int iv), .val (.ref b158), .val (.int (1 : Int32))] [(.long (fF i (own_idx (fh i) (1 : Int32) (fz i)).toNatClampNeg)), (.int (1 : Int32)), (.ref b158)]))
    obtain ⟨cl185, Ar185, S185, Nn185, H185⟩ := id L175
    have hin185 : ¬ ((1 : Int32) < 0 ∨ cl185.slots.size ≤ ((1 : Int32) : Int32).toNatClampNeg) := inb_of S185 (own_jin (j := (1 : Int32)) (by decide) (by have e1 : ((1 : Int32)).toInt = 1 := (by decide); omega))
    obtain ⟨T185, h185, X185, e185, W185, st185⟩ := stJ X182 hx hZ eh182 Ar185 (j := (1 : Int32)) hin185 (g := (mkF m 42 #[.val (.ref a), .val (.int iv), .val (.ref b158), .val (.int (1 : Int32))] [(.long (fF i (own_idx (fh i) (1 : Int32) (fz i)).toNatClampNeg)), (.int (1 : Int32)), (.ref b158)])) rfl rfl (hb hby own_d_prog_3_method_9_code_42)
    refine own_st st185 ?_
    have N186 := Fr.snoc X185 N184 g160
    have D187 : own_AT Z h185 n0 a span cap sh ow hd sz ko kh ks fw fh fs fz fF := D174.oth L175 nf163.1 nf163.2 W185
    have L188 : own_LA Z h185 b158 z2 (own_up (own_up (fun _ => 0) (0 : Int32).toNatClampNeg (fF i (own_idx (fh i) (0 : Int32) (fz i)).toNatClampNeg)) (1 : Int32).toNatClampNeg (fF i (own_idx (fh i) (1 : Int32) (fz i)).toNatClampNeg)) := L175.set W185
    have lt189 : b158 < h185.size := Nat.lt_of_lt_of_le lt176 (Nat.le_of_eq W185.size.symm)
    have Zs190 : n0 ≤ h185.size := Nat.le_trans Zs177 (Nat.le_of_eq W185.size.symm)
    show own_Go p e below s _ _ _ (T185.setTop (mkF m 43 #[.val (.ref a), .val (.int iv), .val (.ref b158), .val (.int (1 : Int32))] []))
    refine own_st (fun _ kQ => XT.iincV X185.here hx rfl (1 : Int32) (hb hby own_d_prog_3_method_9_code_43) (by decide) rfl (l' := #[.val (.ref a), .val (.int iv), .val (.ref b158), .val (.int (2 : Int32))]) rfl kQ) ?_
    show own_Go p e below s _ _ _ (T185.setTop (mkF m 46 #[.val (.ref a), .val (.int iv), .val (.ref b158), .val (.int (2 : Int32))] []))
    refine own_st (fun _ kQ => XS.goto X185.here hx rfl (pc0 := 46) (pc' := 24) rfl (hb hby own_d_prog_3_method_9_code_46) (by decide) (by decide) kQ) ?_
    show own_Go p e below s _ _ _ (T185.setTop (mkF m 24 #[.val (.ref a), .val (.int iv), .val (.ref b158), .val (.int (2 : Int32))] []))
    refine own_st (fun _ kQ => XS.iloadN X185.here hx rfl (hb hby own_d_prog_3_method_9_code_24) rfl kQ) ?_
    show own_Go p e below s _ _ _ (T185.setTop (mkF m 25 #[.val (.ref a), .val (.int iv), .val (.ref b158), .val (.int (2 : Int32))] [(.int (2 : Int32))]))
    refine own_st (fun _ kQ => XS.aloadN X185.here hx rfl (hb hby own_d_prog_3_method_9_code_25) rfl rfl kQ) ?_
    show own_Go p e below s _ _ _ (T185.setTop (mkF m 26 #[.val (.ref a), .val (.int iv), .val (.ref b158), .val (.int (2 : Int32))] [(.ref a), (.int (2 : Int32))]))
    have F191 : Fld Z h185 a "com/example/wache/wache/AttemptTimes" "sizes" "[I" (.ref sz) := D187.fsz
    obtain ⟨T192, X192, e192, st192⟩ := getF X185 hx hZ hown (host := "") (Or.inl (hw _ (List.mem_of_getElem? (i := 24) rfl))) Via.refl e185 F191 (g := (mkF m 26 #[.val (.ref a), .val (.int iv), .val (.ref b158), .val (.int (2 : Int32))] [(.ref a), (.int (2 : Int32))])) rfl rfl (hb hby own_d_prog_3_method_9_code_26)
    refine own_st st192 ?_
    show own_Go p e below s _ _ _ (T192.setTop (mkF m 29 #[.val (.ref a), .val (.int iv), .val (.ref b158), .val (.int (2 : Int32))] [(.ref sz), (.int (2 : Int32))]))
    refine own_st (fun _ kQ => XS.iloadN X192.here hx rfl (hb hby own_d_prog_3_method_9_code_29) rfl kQ) ?_
    show own_Go p e below s _ _ _ (T192.setTop (mkF m 30 #[.val (.ref a), .val (.int iv), .val (.ref b158), .val (.int (2 : Int32))] [(.int iv), (.ref sz), (.int (2 : Int32))]))
    have F193 : Arv Z h185 sz ks .int (2 : Int32) [(.int (fs 0)), (.int (fs 1))] (.int (0 : Int32)) := D187.vsz
    obtain ⟨cl194, Ar194, kc194, S194, Nn194, H194, G194⟩ := id F193
    have hin194 : ¬ (iv < 0 ∨ cl194.slots.size ≤ (iv : Int32).toNatClampNeg) := inb_of S194 (own_I.inb hi)
    have hat194 : cl194.slots[(iv : Int32).toNatClampNeg]? = some (.int (3 : Int32)) := H194.at hin194 ((own_I.getI hi fs _).trans (congrArg Value.int hv))
    refine own_st (fun _ kQ => X192.iaload hx (j := iv) (v := (.int (3 : Int32))) (own_hp e192 Ar194.1) (State.isArrayOf_alike hZ.alike Ar194.2.1) Ar194.2.2 hin194 hat194 (g := (mkF m 30 #[.val (.ref a), .val (.int iv), .val (.ref b158), .val (.int (2 : Int32))] [(.int iv), (.ref sz), (.int (2 : Int32))])) rfl rfl (hb hby own_d_prog_3_method_9_code_30) _ kQ) ?_
    show own_Go p e below s _ _ _ (T192.setTop (mkF m 31 #[.val (.ref a), .val (.int iv), .val (.ref b158), .val (.int (2 : Int32))] [(.int (3 : Int32)), (.int (2 : Int32))]))
    refine own_st (fun _ kQ => XS.icmpNo X192.here hx rfl (hb hby own_d_prog_3_method_9_code_31) rfl (XT.ii_ge_f (by decide)) kQ) ?_
    show own_Go p e below s _ _ _ (T192.setTop (mkF m 34 #[.val (.ref a), .val (.int iv), .val (.ref b158), .val (.int (2 : Int32))] []))
    refine own_st (fun _ kQ => XS.aloadN X192.here hx rfl (hb hby own_d_prog_3_method_9_code_34) rfl rfl kQ) ?_
    show own_Go p e below s _ _ _ (T192.setTop (mkF m 35 #[.val (.ref a), .val (.int iv), .val (.ref b158), .val (.int (2 : Int32))] [(.ref b158)]))
    refine own_st (fun _ kQ => XS.iloadN X192.here hx rfl (hb hby own_d_prog_3_method_9_code_35) rfl kQ) ?_
    show own_Go p e below s _ _ _ (T192.setTop (mkF m 36 #[.val (.ref a), .val (.int iv), .val (.ref b158), .val (.int (2 : Int32))] [(.int (2 : Int32)), (.ref b158)]))
    refine own_st (fun _ kQ => XS.aloadN X192.here hx rfl (hb hby own_d_prog_3_method_9_code_36) rfl rfl kQ) ?_
    show own_Go p e below s _ _ _ (T192.setTop (mkF m 37 #[.val (.ref a), .val (.int iv), .val (.ref b158), .val (.int (2 : Int32))] [(.ref a), (.int (2 : Int32)), (.ref b158)]))
    refine own_st (fun _ kQ => XS.iloadN X192.here hx rfl (hb hby own_d_prog_3_method_9_code_37) rfl kQ) ?_
    show own_Go p e below s _ _ _ (T192.setTop (mkF m 38 #[.val (.ref a), .val (.int iv), .val (.ref b158), .val (.int (2 : Int32))] [(.int iv), (.ref a), (.int (2 : Int32)), (.ref b158)]))
    refine own_st (fun _ kQ => XS.iloadN X192.here hx rfl (hb hby own_d_prog_3_method_9_code_38) rfl kQ) ?_
    show own_Go p e below s _ _ _ (T192.setTop (mkF m 39 #[.val (.ref a), .val (.int iv), .val (.ref b158), .val (.int (2 : Int32))] [(.int (2 : Int32)), (.int iv), (.ref a), (.int (2 : Int32)), (.ref b158)]))
    have F196 : Exa Z h185 a "com/example/wache/wache/AttemptTimes" := D187.exa
    obtain ⟨cq195, q195, q195'⟩ := F196.cell
    obtain ⟨_, _, ⟨T195, L195, k195, n195⟩, -, X195, ⟨Lc195, hQ195, l195, y195, z195⟩, st195⟩ := X192.privateBack hx (y := (⟨"com/example/wache/wache/AttemptTimes", "get", "(II)J"⟩ : MethodName)) hown (mvT hZ (hw _ (List.mem_of_getElem? (i := 48) rfl))) (mvT hZ (hw _ (List.mem_of_getElem? (i := 49) rfl))) (mvT hZ (own_selP (hw _ (List.mem_of_getElem? (i := 49) rfl)) (hw _ (List.mem_of_getElem? (i := 50) rfl)) (hw _ (List.mem_of_getElem? (i := 2) rfl)) (by decide))) (Cond.privateMethod_at (mvP hZ (hw _ (List.mem_of_getElem? (i := 50) rfl)) (args := #[]))) (mvT hZ (hw _ (List.mem_of_getElem? (i := 51) rfl))) (by decide) (backOf (W := 2) (own_rm_get l Z a0 hw [] iv i a span cap sh ow hd sz ko kh ks fw fh fs fz fF (2 : Int32) h185 n0 Zs190 D187 hi (own_WF.idx wf (k := (2 : Int32)) (by decide) (by have e1 : ((2 : Int32)).toInt = 2 := (by decide); omega))) hZ (hw _ (List.mem_of_getElem? (i := 51) rfl)) (hw _ (List.mem_of_getElem? (i := 3) rfl)) (by decide) (by decide)) (g := (mkF m 39 #[.val (.ref a), .val (.int iv), .val (.ref b158), .val (.int (2 : Int32))] [(.int (2 : Int32)), (.int iv), (.ref a), (.int (2 : Int32)), (.ref b158)])) rfl (by rw [hml]; rfl) (Steps.refl _) (a := a) (own_hp e192 q195) q195' (argsL := [(.int iv), (.int (2 : Int32))]) (rest := [(.int (2 : Int32)), (.ref b158)]) (lenOf own_pd2 rfl) rfl (by show 2 * 0 + _ ≤ _; exact Nat.le_of_eq rfl) (hb hby own_d_prog_3_method_9_code_39) (fun _ _ => ⟨rfl, e192, (by decide : 1 + 0 ≤ _), (by decide : 5 + 0 ≤ _)⟩)
    dsimp only [Pt.U, Pt.locs, Pt.cells, Pt.slots] at X195 l195 y195 z195 st195 hQ195
    subst l195 y195 z195
    obtain ⟨N195q, rfl, eh195⟩ := hQ195
    have N197 := Fr.app N186 N195q
    refine own_tr st195 ?_
    show own_Go p e below s _ _ _ (T195.setTop (mkF m 42 #[.val (.ref a), .val (.int iv), .val (.ref b158), .val (.int (2 : Int32))] [(.long (fF i (own_idx (fh i) (2 : Int32) (fz i)).toNatClampNeg)), (.int (2 : Int32)), (.ref b158)]))
    obtain ⟨cl198, Ar198, S198, Nn198, H198⟩ := id L188
    have hin198 : ¬ ((2 : Int32) < 0 ∨ cl198.slots.size ≤ ((2 : Int32) : Int32).toNatClampNeg) := inb_of S198 (own_jin (j := (2 : Int32)) (by decide) (by have e1 : ((2 : Int32)).toInt = 2 := (by decide); omega))
    obtain ⟨T198, h198, X198, e198, W198, st198⟩ := stJ X195 hx hZ eh195 Ar198 (j := (2 : Int32)) hin198 (g := (mkF m 42 #[.val (.ref a), .val (.int iv), .val (.ref b158), .val (.int (2 : Int32))] [(.long (fF i (own_idx (fh i) (2 : Int32) (fz i)).toNatClampNeg)), (.int (2 : Int32)), (.ref b158)])) rfl rfl (hb hby own_d_prog_3_method_9_code_42)
    refine own_st st198 ?_
    have N199 := Fr.snoc X198 N197 g160
    have D200 : own_AT Z h198 n0 a span cap sh ow hd sz ko kh ks fw fh fs fz fF := D187.oth L188 nf163.1 nf163.2 W198
    have L201 : own_LA Z h198 b158 z2 (own_up (own_up (own_up (fun _ => 0) (0 : Int32).toNatClampNeg (fF i (own_idx (fh i) (0 : Int32) (fz i)).toNatClampNeg)) (1 : Int32).toNatClampNeg (fF i (own_idx (fh i) (1 : Int32) (fz i)).toNatClampNeg)) (2 : Int32).toNatClampNeg (fF i (own_idx (fh i) (2 : Int32) (fz i)).toNatClampNeg)) := L188.set W198
    have lt202 : b158 < h198.size := Nat.lt_of_lt_of_le lt189 (Nat.le_of_eq W198.size.symm)
    have Zs203 : n0 ≤ h198.size := Nat.le_trans Zs190 (Nat.le_of_eq W198.size.symm)
    show own_Go p e below s _ _ _ (T198.setTop (mkF m 43 #[.val (.ref a), .val (.int iv), .val (.ref b158), .val (.int (2 : Int32))] []))
    refine own_st (fun _ kQ => XT.iincV X198.here hx rfl (1 : Int32) (hb hby own_d_prog_3_method_9_code_43) (by decide) rfl (l' := #[.val (.ref a), .val (.int iv), .val (.ref b158), .val (.int (3 : Int32))]) rfl kQ) ?_
    show own_Go p e below s _ _ _ (T198.setTop (mkF m 46 #[.val (.ref a), .val (.int iv), .val (.ref b158), .val (.int (3 : Int32))] []))
    refine own_st (fun _ kQ => XS.goto X198.here hx rfl (pc0 := 46) (pc' := 24) rfl (hb hby own_d_prog_3_method_9_code_46) (by decide) (by decide) kQ) ?_
    show own_Go p e below s _ _ _ (T198.setTop (mkF m 24 #[.val (.ref a), .val (.int iv), .val (.ref b158), .val (.int (3 : Int32))] []))
    refine own_st (fun _ kQ => XS.iloadN X198.here hx rfl (hb hby own_d_prog_3_method_9_code_24) rfl kQ) ?_
    show own_Go p e below s _ _ _ (T198.setTop (mkF m 25 #[.val (.ref a), .val (.int iv), .val (.ref b158), .val (.int (3 : Int32))] [(.int (3 : Int32))]))
    refine own_st (fun _ kQ => XS.aloadN X198.here hx rfl (hb hby own_d_prog_3_method_9_code_25) rfl rfl kQ) ?_
    show own_Go p e below s _ _ _ (T198.setTop (mkF m 26 #[.val (.ref a), .val (.int iv), .val (.ref b158), .val (.int (3 : Int32))] [(.ref a), (.int (3 : Int32))]))
    have F204 : Fld Z h198 a "com/example/wache/wache/AttemptTimes" "sizes" "[I" (.ref sz) := D200.fsz
    obtain ⟨T205, X205, e205, st205⟩ := getF X198 hx hZ hown (host := "") (Or.inl (hw _ (List.mem_of_getElem? (i := 24) rfl))) Via.refl e198 F204 (g := (mkF m 26 #[.val (.ref a), .val (.int iv), .val (.ref b158), .val (.int (3 : Int32))] [(.ref a), (.int (3 : Int32))])) rfl rfl (hb hby own_d_prog_3_method_9_code_26)
    refine own_st st205 ?_
    show own_Go p e below s _ _ _ (T205.setTop (mkF m 29 #[.val (.ref a), .val (.int iv), .val (.ref b158), .val (.int (3 : Int32))] [(.ref sz), (.int (3 : Int32))]))
    refine own_st (fun _ kQ => XS.iloadN X205.here hx rfl (hb hby own_d_prog_3_method_9_code_29) rfl kQ) ?_
    show own_Go p e below s _ _ _ (T205.setTop (mkF m 30 #[.val (.ref a), .val (.int iv), .val (.ref b158), .val (.int (3 : Int32))] [(.int iv), (.ref sz), (.int (3 : Int32))]))
    have F206 : Arv Z h198 sz ks .int (2 : Int32) [(.int (fs 0)), (.int (fs 1))] (.int (0 : Int32)) := D200.vsz
    obtain ⟨cl207, Ar207, kc207, S207, Nn207, H207, G207⟩ := id F206
    have hin207 : ¬ (iv < 0 ∨ cl207.slots.size ≤ (iv : Int32).toNatClampNeg) := inb_of S207 (own_I.inb hi)
    have hat207 : cl207.slots[(iv : Int32).toNatClampNeg]? = some (.int (3 : Int32)) := H207.at hin207 ((own_I.getI hi fs _).trans (congrArg Value.int hv))
    refine own_st (fun _ kQ => X205.iaload hx (j := iv) (v := (.int (3 : Int32))) (own_hp e205 Ar207.1) (State.isArrayOf_alike hZ.alike Ar207.2.1) Ar207.2.2 hin207 hat207 (g := (mkF m 30 #[.val (.ref a), .val (.int iv), .val (.ref b158), .val (.int (3 : Int32))] [(.int iv), (.ref sz), (.int (3 : Int32))])) rfl rfl (hb hby own_d_prog_3_method_9_code_30) _ kQ) ?_
    show own_Go p e below s _ _ _ (T205.setTop (mkF m 31 #[.val (.ref a), .val (.int iv), .val (.ref b158), .val (.int (3 : Int32))] [(.int (3 : Int32)), (.int (3 : Int32))]))
    refine own_st (fun _ kQ => XS.icmpYes X205.here hx rfl (pc0 := 31) (pc' := 49) rfl (hb hby own_d_prog_3_method_9_code_31) rfl (XT.ii_ge_t (by decide)) (by decide) (by decide) kQ) ?_
    show own_Go p e below s _ _ _ (T205.setTop (mkF m 49 #[.val (.ref a), .val (.int iv), .val (.ref b158), .val (.int (3 : Int32))] []))
    refine own_st (fun _ kQ => XS.aloadN X205.here hx rfl (hb hby own_d_prog_3_method_9_code_49) rfl rfl kQ) ?_
    show own_Go p e below s _ _ _ (T205.setTop (mkF m 50 #[.val (.ref a), .val (.int iv), .val (.ref b158), .val (.int (3 : Int32))] [(.ref a)]))
    have F208 : Fld Z h198 a "com/example/wache/wache/AttemptTimes" "own" "[[J" (.ref ow) := D200.fow
    obtain ⟨T209, X209, e209, st209⟩ := getF X205 hx hZ hown (host := "") (Or.inl (hw _ (List.mem_of_getElem? (i := 19) rfl))) Via.refl e205 F208 (g := (mkF m 50 #[.val (.ref a), .val (.int iv), .val (.ref b158), .val (.int (3 : Int32))] [(.ref a)])) rfl rfl (hb hby own_d_prog_3_method_9_code_50)
    refine own_st st209 ?_
    show own_Go p e below s _ _ _ (T209.setTop (mkF m 53 #[.val (.ref a), .val (.int iv), .val (.ref b158), .val (.int (3 : Int32))] [(.ref ow)]))
    refine own_st (fun _ kQ => XS.iloadN X209.here hx rfl (hb hby own_d_prog_3_method_9_code_53) rfl kQ) ?_
    show own_Go p e below s _ _ _ (T209.setTop (mkF m 54 #[.val (.ref a), .val (.int iv), .val (.ref b158), .val (.int (3 : Int32))] [(.int iv), (.ref ow)]))
    refine own_st (fun _ kQ => XS.aloadN X209.here hx rfl (hb hby own_d_prog_3_method_9_code_54) rfl rfl kQ) ?_
    show own_Go p e below s _ _ _ (T209.setTop (mkF m 55 #[.val (.ref a), .val (.int iv), .val (.ref b158), .val (.int (3 : Int32))] [(.ref b158), (.int iv), (.ref ow)]))
    have F211 : Arv Z h198 ow ko (.array .long) (2 : Int32) [(fw 0), (fw 1)] .null := D200.vow
    obtain ⟨cl210, Ar210, kc210, S210, Nn210, H210, G210⟩ := id F211
    have hin210 : ¬ (iv < 0 ∨ cl210.slots.size ≤ (iv : Int32).toNatClampNeg) := inb_of S210 (own_I.inb hi)
    obtain ⟨T210, h210, X210, e210, W210, st210⟩ := stR X209 hx hZ e209 Ar210 (j := iv) hin210 rfl (Sto.ofVA Ar210 kc210 D200.ovr (Ins.self (((Ea158.wr W172).wr W185).wr W198))) (g := (mkF m 55 #[.val (.ref a), .val (.int iv), .val (.ref b158), .val (.int (3 : Int32))] [(.ref b158), (.int iv), (.ref ow)])) rfl rfl (hb hby own_d_prog_3_method_9_code_55)
    refine own_st st210 ?_
    have N212 := Fr.snoc X210 N199 D200.gs.2.2.1
    have D213 : own_AT Z h210 n0 a span cap sh ow hd sz ko kh ks (own_up fw i (.ref b158)) fh fs (own_up fz i z2) (own_up fF i (own_up (own_up (own_up (fun _ => 0) (0 : Int32).toNatClampNeg (fF i (own_idx (fh i) (0 : Int32) (fz i)).toNatClampNeg)) (1 : Int32).toNatClampNeg (fF i (own_idx (fh i) (1 : Int32) (fz i)).toNatClampNeg)) (2 : Int32).toNatClampNeg (fF i (own_idx (fh i) (2 : Int32) (fz i)).toNatClampNeg))) := D200.setO hi L201 g160 nf163.1 nf163.2 W210
    have lt214 : b158 < h210.size := Nat.lt_of_lt_of_le lt202 (Nat.le_of_eq W210.size.symm)
    have Zs215 : n0 ≤ h210.size := Nat.le_trans Zs203 (Nat.le_of_eq W210.size.symm)
    show own_Go p e below s _ _ _ (T210.setTop (mkF m 56 #[.val (.ref a), .val (.int iv), .val (.ref b158), .val (.int (3 : Int32))] []))
    refine own_st (fun _ kQ => XS.aloadN X210.here hx rfl (hb hby own_d_prog_3_method_9_code_56) rfl rfl kQ) ?_
    show own_Go p e below s _ _ _ (T210.setTop (mkF m 57 #[.val (.ref a), .val (.int iv), .val (.ref b158), .val (.int (3 : Int32))] [(.ref a)]))
    have F216 : Fld Z h210 a "com/example/wache/wache/AttemptTimes" "heads" "[I" (.ref hd) := D213.fhd
    obtain ⟨T217, X217, e217, st217⟩ := getF X210 hx hZ hown (host := "") (Or.inl (hw _ (List.mem_of_getElem? (i := 22) rfl))) Via.refl e210 F216 (g := (mkF m 57 #[.val (.ref a), .val (.int iv), .val (.ref b158), .val (.int (3 : Int32))] [(.ref a)])) rfl rfl (hb hby own_d_prog_3_method_9_code_57)
    refine own_st st217 ?_
    show own_Go p e below s _ _ _ (T217.setTop (mkF m 60 #[.val (.ref a), .val (.int iv), .val (.ref b158), .val (.int (3 : Int32))] [(.ref hd)]))
    refine own_st (fun _ kQ => XS.iloadN X217.here hx rfl (hb hby own_d_prog_3_method_9_code_60) rfl kQ) ?_
    show own_Go p e below s _ _ _ (T217.setTop (mkF m 61 #[.val (.ref a), .val (.int iv), .val (.ref b158), .val (.int (3 : Int32))] [(.int iv), (.ref hd)]))
    refine own_st (fun _ kQ => XT.iconstV X217.here hx rfl (0 : Int32) (hb hby own_d_prog_3_method_9_code_61) (by decide) kQ) ?_
    show own_Go p e below s _ _ _ (T217.setTop (mkF m 62 #[.val (.ref a), .val (.int iv), .val (.ref b158), .val (.int (3 : Int32))] [(.int (0 : Int32)), (.int iv), (.ref hd)]))
    have F219 : Arv Z h210 hd kh .int (2 : Int32) [(.int (fh 0)), (.int (fh 1))] (.int (0 : Int32)) := D213.vhd
    obtain ⟨cl218, Ar218, kc218, S218, Nn218, H218, G218⟩ := id F219
    have hin218 : ¬ (iv < 0 ∨ cl218.slots.size ≤ (iv : Int32).toNatClampNeg) := inb_of S218 (own_I.inb hi)
    obtain ⟨T218, h218, X218, e218, W218, st218⟩ := stI X217 hx hZ e217 Ar218 (j := iv) hin218 (g := (mkF m 62 #[.val (.ref a), .val (.int iv), .val (.ref b158), .val (.int (3 : Int32))] [(.int (0 : Int32)), (.int iv), (.ref hd)])) rfl rfl (hb hby own_d_prog_3_method_9_code_62)
    refine own_st st218 ?_
    have N220 := Fr.snoc X218 N212 D213.gs.2.2.2.1
    have D221 : own_AT Z h218 n0 a span cap sh ow hd sz ko kh ks (own_up fw i (.ref b158)) (own_up fh i (0 : Int32)) fs (own_up fz i z2) (own_up fF i (own_up (own_up (own_up (fun _ => 0) (0 : Int32).toNatClampNeg (fF i (own_idx (fh i) (0 : Int32) (fz i)).toNatClampNeg)) (1 : Int32).toNatClampNeg (fF i (own_idx (fh i) (1 : Int32) (fz i)).toNatClampNeg)) (2 : Int32).toNatClampNeg (fF i (own_idx (fh i) (2 : Int32) (fz i)).toNatClampNeg))) := D213.setH hi W218
    have lt222 : b158 < h218.size := Nat.lt_of_lt_of_le lt214 (Nat.le_of_eq W218.size.symm)
    have Zs223 : n0 ≤ h218.size := Nat.le_trans Zs215 (Nat.le_of_eq W218.size.symm)
    show own_Go p e below s _ _ _ (T218.setTop (mkF m 63 #[.val (.ref a), .val (.int iv), .val (.ref b158), .val (.int (3 : Int32))] []))
    refine own_ret0 X218 hx hlk Bd.returns (hb hby own_d_prog_3_method_9_code_63) (by decide) (by decide) ?_
    rw [e218]
    exact ⟨(own_up fw i (.ref b158)), (own_up fh i (0 : Int32)), (own_up fz i z2), (own_up fF i (own_up (own_up (own_up (fun _ => 0) (0 : Int32).toNatClampNeg (fF i (own_idx (fh i) (0 : Int32) (fz i)).toNatClampNeg)) (1 : Int32).toNatClampNeg (fF i (own_idx (fh i) (1 : Int32) (fz i)).toNatClampNeg)) (2 : Int32).toNatClampNeg (fF i (own_idx (fh i) (2 : Int32) (fz i)).toNatClampNeg))), N220, rfl, D221, (own_up_same _ _ _), (by rw [own_up_same]; exact ⟨z2a, z2b⟩), (fun q hq => ⟨own_up_ne hq, own_up_ne hq, own_up_ne hq⟩)⟩
  · have hvi : (fs i).toInt = 4 := by rw [hv]; decide
    show own_Go p e below s _ _ _ (s₁.setTop (mkF m 0 #[.val (.ref a), .val (.int iv), .unset, .unset] []))
    refine own_st (fun _ kQ => XS.aloadN X0.here hx rfl (hb hby own_d_prog_3_method_9_code_0) rfl rfl kQ) ?_
    show own_Go p e below s _ _ _ (s₁.setTop (mkF m 1 #[.val (.ref a), .val (.int iv), .unset, .unset] [(.ref a)]))
    have F224 : Fld Z h0 a "com/example/wache/wache/AttemptTimes" "capacity" "I" (.int cap) := D.fcap
    obtain ⟨T225, X225, e225, st225⟩ := getF X0 hx hZ hown (host := "") (Or.inl (hw _ (List.mem_of_getElem? (i := 12) rfl))) Via.refl e0 F224 (g := (mkF m 1 #[.val (.ref a), .val (.int iv), .unset, .unset] [(.ref a)])) rfl rfl (hb hby own_d_prog_3_method_9_code_1)
    refine own_st st225 ?_
    show own_Go p e below s _ _ _ (T225.setTop (mkF m 4 #[.val (.ref a), .val (.int iv), .unset, .unset] [(.int cap)]))
    refine own_st (fun _ kQ => XT.i2l X225.here hx rfl (hb hby own_d_prog_3_method_9_code_4) rfl kQ) ?_
    show own_Go p e below s _ _ _ (T225.setTop (mkF m 5 #[.val (.ref a), .val (.int iv), .unset, .unset] [(.long (cap.toInt64))]))
    refine own_st (fun _ kQ => X225.ldc2J hx hown (mvT hZ (hw _ (List.mem_of_getElem? (i := 80) rfl))) rfl (hb hby own_d_prog_3_method_9_code_5) kQ) ?_
    show own_Go p e below s _ _ _ (T225.setTop (mkF m 8 #[.val (.ref a), .val (.int iv), .unset, .unset] [(.long (2 : Int64)), (.long (cap.toInt64))]))
    refine own_st (fun _ kQ => XS.aloadN X225.here hx rfl (hb hby own_d_prog_3_method_9_code_8) rfl rfl kQ) ?_
    show own_Go p e below s _ _ _ (T225.setTop (mkF m 9 #[.val (.ref a), .val (.int iv), .unset, .unset] [(.ref a), (.long (2 : Int64)), (.long (cap.toInt64))]))
    refine own_st (fun _ kQ => XS.iloadN X225.here hx rfl (hb hby own_d_prog_3_method_9_code_9) rfl kQ) ?_
    show own_Go p e below s _ _ _ (T225.setTop (mkF m 10 #[.val (.ref a), .val (.int iv), .unset, .unset] [(.int iv), (.ref a), (.long (2 : Int64)), (.long (cap.toInt64))]))
    have F227 : Exa Z h0 a "com/example/wache/wache/AttemptTimes" := D.exa
    obtain ⟨cq226, q226, q226'⟩ := F227.cell
    obtain ⟨_, _, ⟨T226, L226, k226, n226⟩, -, X226, ⟨Lc226, hQ226, l226, y226, z226⟩, st226⟩ := X225.privateBack hx (y := (⟨"com/example/wache/wache/AttemptTimes", "length", "(I)I"⟩ : MethodName)) hown (mvT hZ (hw _ (List.mem_of_getElem? (i := 31) rfl))) (mvT hZ (hw _ (List.mem_of_getElem? (i := 32) rfl))) (mvT hZ (own_selP (hw _ (List.mem_of_getElem? (i := 32) rfl)) (hw _ (List.mem_of_getElem? (i := 33) rfl)) (hw _ (List.mem_of_getElem? (i := 2) rfl)) (by decide))) (Cond.privateMethod_at (mvP hZ (hw _ (List.mem_of_getElem? (i := 33) rfl)) (args := #[]))) (mvT hZ (hw _ (List.mem_of_getElem? (i := 34) rfl))) (by decide) (backOf (W := 4) (own_rm_length l Z a0 hw [] iv i a span cap sh ow hd sz ko kh ks fw fh fs fz fF h0 n0 Z0 D hi) hZ (hw _ (List.mem_of_getElem? (i := 34) rfl)) (hw _ (List.mem_of_getElem? (i := 3) rfl)) (by decide) (by decide)) (g := (mkF m 10 #[.val (.ref a), .val (.int iv), .unset, .unset] [(.int iv), (.ref a), (.long (2 : Int64)), (.long (cap.toInt64))])) rfl (by rw [hml]; rfl) (Steps.refl _) (a := a) (own_hp e225 q226) q226' (argsL := [(.int iv)]) (rest := [(.long (2 : Int64)), (.long (cap.toInt64))]) (lenOf own_pd0 rfl) rfl (by show 2 * 0 + _ ≤ _; exact Nat.le_of_eq rfl) (hb hby own_d_prog_3_method_9_code_10) (fun _ _ => ⟨rfl, e225, (by decide : 0 + 0 ≤ _), (by decide : 0 + 0 ≤ _)⟩)
    dsimp only [Pt.U, Pt.locs, Pt.cells, Pt.slots] at X226 l226 y226 z226 st226 hQ226
    subst l226 y226 z226
    obtain ⟨N226q, rfl, eh226⟩ := hQ226
    have N228 := Fr.app N0 N226q
    refine own_tr st226 ?_
    show own_Go p e below s _ _ _ (T226.setTop (mkF m 13 #[.val (.ref a), .val (.int iv), .unset, .unset] [(.int (fz i)), (.long (2 : Int64)), (.long (cap.toInt64))]))
    refine own_st (fun _ kQ => XT.i2l X226.here hx rfl (hb hby own_d_prog_3_method_9_code_13) rfl kQ) ?_
    show own_Go p e below s _ _ _ (T226.setTop (mkF m 14 #[.val (.ref a), .val (.int iv), .unset, .unset] [(.long ((fz i).toInt64)), (.long (2 : Int64)), (.long (cap.toInt64))]))
    refine own_st (fun _ kQ => XT.lmul X226.here hx rfl (hb hby own_d_prog_3_method_9_code_14) rfl kQ) ?_
    show own_Go p e below s _ _ _ (T226.setTop (mkF m 15 #[.val (.ref a), .val (.int iv), .unset, .unset] [(.long ((2 : Int64) * ((fz i).toInt64))), (.long (cap.toInt64))]))
    obtain ⟨_, _, ⟨T229, L229, k229, n229⟩, -, X229, ⟨Lc229, hQ229, l229, y229, z229⟩, st229⟩ := Jvm.LawKit.callS X226 hx (y := (⟨"java/lang/Math", "min", "(JJ)J"⟩ : MethodName)) hown (mvT hZ (hw _ (List.mem_of_getElem? (i := 81) rfl))) (mvT hZ (hw _ (List.mem_of_getElem? (i := 82) rfl))) (mvT hZ (hw _ (List.mem_of_getElem? (i := 69) rfl))) (mvT hZ (hw _ (List.mem_of_getElem? (i := 83) rfl))) (by decide) (backOf (W := 0) (own_rm_minJ l Z a0 hw [] (cap.toInt64) ((2 : Int64) * ((fz i).toInt64)) h0 n0 Z0 ) hZ (hw _ (List.mem_of_getElem? (i := 83) rfl)) (hw _ (List.mem_of_getElem? (i := 69) rfl)) (by decide) (by decide)) (g := (mkF m 15 #[.val (.ref a), .val (.int iv), .unset, .unset] [(.long ((2 : Int64) * ((fz i).toInt64))), (.long (cap.toInt64))])) rfl (by rw [hml]; rfl) (argsL := [(.long (cap.toInt64)), (.long ((2 : Int64) * ((fz i).toInt64)))]) (rest := []) (lenOf own_pd3 rfl) rfl (by show 2 * 0 + _ ≤ _; exact Nat.le_of_eq rfl) (hb hby own_d_prog_3_method_9_code_15) (fun _ _ => ⟨rfl, eh226, (by decide : 0 + 0 ≤ _), (by decide : 0 + 0 ≤ _)⟩)
    dsimp only [Pt.U, Pt.locs, Pt.cells, Pt.slots] at X229 l229 y229 z229 st229 hQ229
    subst l229 y229 z229
    obtain ⟨N229q, rfl, eh229⟩ := hQ229
    have N230 := Fr.app N228 N229q
    refine own_st st229 ?_
    show own_Go p e below s _ _ _ (T229.setTop (mkF m 18 #[.val (.ref a), .val (.int iv), .unset, .unset] [(.long (own_minJ (cap.toInt64) ((2 : Int64) * ((fz i).toInt64))))]))
    refine own_st (fun _ kQ => XT.l2i X229.here hx rfl (hb hby own_d_prog_3_method_9_code_18) rfl kQ) ?_
    show own_Go p e below s _ _ _ (T229.setTop (mkF m 19 #[.val (.ref a), .val (.int iv), .unset, .unset] [(.int ((own_minJ (cap.toInt64) ((2 : Int64) * ((fz i).toInt64))).toInt32))]))
    obtain ⟨z2, hz2, z2a, z2b⟩ := own_growz wf hs hc
    rw [hz2]
    have z2c := own_small (z := z2) (n := 5) (by omega) (by omega)
    show own_Go p e below s _ _ _ (T229.setTop (mkF m 19 #[.val (.ref a), .val (.int iv), .unset, .unset] [(.int z2)]))
    obtain ⟨T231, h231, k231, X231, e231, E231, A231, Ea231, st231⟩ := newPE X229 hx hZ (aty := .long) (hw _ (List.mem_of_getElem? (i := 14) rfl)) eh229 (g := (mkF m 19 #[.val (.ref a), .val (.int iv), .unset, .unset] [(.int z2)])) rfl (hb hby own_d_prog_3_method_9_code_19) rfl z2c.1 (cap := 5) z2c.2 (by decide) (by decide) (by decide) (ad := "[J") (by decide +kernel)
    obtain ⟨b231, g231⟩ : ∃ z, z = h0.size := ⟨_, rfl⟩
    rw [← g231] at A231 Ea231 st231
    refine own_st st231 ?_
    have Zs232 : n0 ≤ h231.size := Nat.le_trans Z0 E231.1
    have g233 : n0 ≤ b231 := Nat.le_trans Z0 (Nat.le_of_eq g231.symm)
    have F234 : Arv Z h231 b231 k231 .long z2 [] (.long (0 : Int64)) := Arv.new A231 z2c.1
    have L235 : own_LA Z h231 b231 z2 (fun _ => 0) := own_LA.new A231 z2c.1
    have nf236 := own_AT.fresh D (Nat.le_of_eq g231.symm)
    show own_Go p e below s _ _ _ (T231.setTop (mkF m 21 #[.val (.ref a), .val (.int iv), .unset, .unset] [(.ref b231)]))
    refine own_st (fun _ kQ => XS.astoreN X231.here hx rfl (hb hby own_d_prog_3_method_9_code_21) rfl rfl (l' := #[.val (.ref a), .val (.int iv), .val (.ref b231), .unset]) rfl kQ) ?_
    show own_Go p e below s _ _ _ (T231.setTop (mkF m 22 #[.val (.ref a), .val (.int iv), .val (.ref b231), .unset] []))
    refine own_st (fun _ kQ => XT.iconstV X231.here hx rfl (0 : Int32) (hb hby own_d_prog_3_method_9_code_22) (by decide) kQ) ?_
    show own_Go p e below s _ _ _ (T231.setTop (mkF m 23 #[.val (.ref a), .val (.int iv), .val (.ref b231), .unset] [(.int (0 : Int32))]))
    refine own_st (fun _ kQ => XS.istoreN X231.here hx rfl (hb hby own_d_prog_3_method_9_code_23) rfl (l' := #[.val (.ref a), .val (.int iv), .val (.ref b231), .val (.int (0 : Int32))]) rfl kQ) ?_
    show own_Go p e below s _ _ _ (T231.setTop (mkF m 24 #[.val (.ref a), .val (.int iv), .val (.ref b231), .val (.int (0 : Int32))] []))
    refine own_st (fun _ kQ => XS.iloadN X231.here hx rfl (hb hby own_d_prog_3_method_9_code_24) rfl kQ) ?_
    show own_Go p e below s _ _ _ (T231.setTop (mkF m 25 #[.val (.ref a), .val (.int iv), .val (.ref b231), .val (.int (0 : Int32))] [(.int (0 : Int32))]))
    refine own_st (fun _ kQ => XS.aloadN X231.here hx rfl (hb hby own_d_prog_3_method_9_code_25) rfl rfl kQ) ?_
    show own_Go p e below s _ _ _ (T231.setTop (mkF m 26 #[.val (.ref a), .val (.int iv), .val (.ref b231), .val (.int (0 : Int32))] [(.ref a), (.int (0 : Int32))]))
    have F237 : own_AT Z h231 n0 a span cap sh ow hd sz ko kh ks fw fh fs fz fF := (D.ext E231)
    have F238 : Fld Z h231 a "com/example/wache/wache/AttemptTimes" "sizes" "[I" (.ref sz) := F237.fsz
    obtain ⟨T239, X239, e239, st239⟩ := getF X231 hx hZ hown (host := "") (Or.inl (hw _ (List.mem_of_getElem? (i := 24) rfl))) Via.refl e231 F238 (g := (mkF m 26 #[.val (.ref a), .val (.int iv), .val (.ref b231), .val (.int (0 : Int32))] [(.ref a), (.int (0 : Int32))])) rfl rfl (hb hby own_d_prog_3_method_9_code_26)
    refine own_st st239 ?_
    show own_Go p e below s _ _ _ (T239.setTop (mkF m 29 #[.val (.ref a), .val (.int iv), .val (.ref b231), .val (.int (0 : Int32))] [(.ref sz), (.int (0 : Int32))]))
    refine own_st (fun _ kQ => XS.iloadN X239.here hx rfl (hb hby own_d_prog_3_method_9_code_29) rfl kQ) ?_
    show own_Go p e below s _ _ _ (T239.setTop (mkF m 30 #[.val (.ref a), .val (.int iv), .val (.ref b231), .val (.int (0 : Int32))] [(.int iv), (.ref sz), (.int (0 : Int32))]))
    have F240 : Arv Z h231 sz ks .int (2 : Int32) [(.int (fs 0)), (.int (fs 1))] (.int (0 : Int32)) := F237.vsz
    obtain ⟨cl241, Ar241, kc241, S241, Nn241, H241, G241⟩ := id F240
    have hin241 : ¬ (iv < 0 ∨ cl241.slots.size ≤ (iv : Int32).toNatClampNeg) := inb_of S241 (own_I.inb hi)
    have hat241 : cl241.slots[(iv : Int32).toNatClampNeg]? = some (.int (4 : Int32)) := H241.at hin241 ((own_I.getI hi fs _).trans (congrArg Value.int hv))
    refine own_st (fun _ kQ => X239.iaload hx (j := iv) (v := (.int (4 : Int32))) (own_hp e239 Ar241.1) (State.isArrayOf_alike hZ.alike Ar241.2.1) Ar241.2.2 hin241 hat241 (g := (mkF m 30 #[.val (.ref a), .val (.int iv), .val (.ref b231), .val (.int (0 : Int32))] [(.int iv), (.ref sz), (.int (0 : Int32))])) rfl rfl (hb hby own_d_prog_3_method_9_code_30) _ kQ) ?_
    show own_Go p e below s _ _ _ (T239.setTop (mkF m 31 #[.val (.ref a), .val (.int iv), .val (.ref b231), .val (.int (0 : Int32))] [(.int (4 : Int32)), (.int (0 : Int32))]))
    refine own_st (fun _ kQ => XS.icmpNo X239.here hx rfl (hb hby own_d_prog_3_method_9_code_31) rfl (XT.ii_ge_f (by decide)) kQ) ?_
    show own_Go p e below s _ _ _ (T239.setTop (mkF m 34 #[.val (.ref a), .val (.int iv), .val (.ref b231), .val (.int (0 : Int32))] []))
    refine own_st (fun _ kQ => XS.aloadN X239.here hx rfl (hb hby own_d_prog_3_method_9_code_34) rfl rfl kQ) ?_
    show own_Go p e below s _ _ _ (T239.setTop (mkF m 35 #[.val (.ref a), .val (.int iv), .val (.ref b231), .val (.int (0 : Int32))] [(.ref b231)]))
    refine own_st (fun _ kQ => XS.iloadN X239.here hx rfl (hb hby own_d_prog_3_method_9_code_35) rfl kQ) ?_
    show own_Go p e below s _ _ _ (T239.setTop (mkF m 36 #[.val (.ref a), .val (.int iv), .val (.ref b231), .val (.int (0 : Int32))] [(.int (0 : Int32)), (.ref b231)]))
    refine own_st (fun _ kQ => XS.aloadN X239.here hx rfl (hb hby own_d_prog_3_method_9_code_36) rfl rfl kQ) ?_
    show own_Go p e below s _ _ _ (T239.setTop (mkF m 37 #[.val (.ref a), .val (.int iv), .val (.ref b231), .val (.int (0 : Int32))] [(.ref a), (.int (0 : Int32)), (.ref b231)]))
    refine own_st (fun _ kQ => XS.iloadN X239.here hx rfl (hb hby own_d_prog_3_method_9_code_37) rfl kQ) ?_
    show own_Go p e below s _ _ _ (T239.setTop (mkF m 38 #[.val (.ref a), .val (.int iv), .val (.ref b231), .val (.int (0 : Int32))] [(.int iv), (.ref a), (.int (0 : Int32)), (.ref b231)]))
    refine own_st (fun _ kQ => XS.iloadN X239.here hx rfl (hb hby own_d_prog_3_method_9_code_38) rfl kQ) ?_
    show own_Go p e below s _ _ _ (T239.setTop (mkF m 39 #[.val (.ref a), .val (.int iv), .val (.ref b231), .val (.int (0 : Int32))] [(.int (0 : Int32)), (.int iv), (.ref a), (.int (0 : Int32)), (.ref b231)]))
    have F243 : Exa Z h231 a "com/example/wache/wache/AttemptTimes" := F237.exa
    obtain ⟨cq242, q242, q242'⟩ := F243.cell
    obtain ⟨_, _, ⟨T242, L242, k242, n242⟩, -, X242, ⟨Lc242, hQ242, l242, y242, z242⟩, st242⟩ := X239.privateBack hx (y := (⟨"com/example/wache/wache/AttemptTimes", "get", "(II)J"⟩ : MethodName)) hown (mvT hZ (hw _ (List.mem_of_getElem? (i := 48) rfl))) (mvT hZ (hw _ (List.mem_of_getElem? (i := 49) rfl))) (mvT hZ (own_selP (hw _ (List.mem_of_getElem? (i := 49) rfl)) (hw _ (List.mem_of_getElem? (i := 50) rfl)) (hw _ (List.mem_of_getElem? (i := 2) rfl)) (by decide))) (Cond.privateMethod_at (mvP hZ (hw _ (List.mem_of_getElem? (i := 50) rfl)) (args := #[]))) (mvT hZ (hw _ (List.mem_of_getElem? (i := 51) rfl))) (by decide) (backOf (W := 2) (own_rm_get l Z a0 hw [] iv i a span cap sh ow hd sz ko kh ks fw fh fs fz fF (0 : Int32) h231 n0 Zs232 F237 hi (own_WF.idx wf (k := (0 : Int32)) (by decide) (by have e1 : ((0 : Int32)).toInt = 0 := (by decide); omega))) hZ (hw _ (List.mem_of_getElem? (i := 51) rfl)) (hw _ (List.mem_of_getElem? (i := 3) rfl)) (by decide) (by decide)) (g := (mkF m 39 #[.val (.ref a), .val (.int iv), .val (.ref b231), .val (.int (0 : Int32))] [(.int (0 : Int32)), (.int iv), (.ref a), (.int (0 : Int32)), (.ref b231)])) rfl (by rw [hml]; rfl) (Steps.refl _) (a := a) (own_hp e239 q242) q242' (argsL := [(.int iv), (.int (0 : Int32))]) (rest := [(.int (0 : Int32)), (.ref b231)]) (lenOf own_pd2 rfl) rfl (by show 2 * 0 + _ ≤ _; exact Nat.le_of_eq rfl) (hb hby own_d_prog_3_method_9_code_39) (fun _ _ => ⟨rfl, e239, (by decide : 1 + 0 ≤ _), (by decide : 5 + 0 ≤ _)⟩)
    dsimp only [Pt.U, Pt.locs, Pt.cells, Pt.slots] at X242 l242 y242 z242 st242 hQ242
    subst l242 y242 z242
    obtain ⟨N242q, rfl, eh242⟩ := hQ242
    have N244 := Fr.app N230 N242q
    refine own_tr st242 ?_
    show own_Go p e below s _ _ _ (T242.setTop (mkF m 42 #[.val (.ref a), .val (.int iv), .val (.ref b231), .val (.int (0 : Int32))] [(.long (fF i (own_idx (fh i) (0 : Int32) (fz i)).toNatClampNeg)), (.int (0 : Int32)), (.ref b231)]))
    obtain ⟨cl245, Ar245, S245, Nn245, H245⟩ := id L235
    have hin245 : ¬ ((0 : Int32) < 0 ∨ cl245.slots.size ≤ ((0 : Int32) : Int32).toNatClampNeg) := inb_of S245 (own_jin (j := (0 : Int32)) (by decide) (by have e1 : ((0 : Int32)).toInt = 0 := (by decide); omega))
    obtain ⟨T245, h245, X245, e245, W245, st245⟩ := stJ X242 hx hZ eh242 Ar245 (j := (0 : Int32)) hin245 (g := (mkF m 42 #[.val (.ref a), .val (.int iv), .val (.ref b231), .val (.int (0 : Int32))] [(.long (fF i (own_idx (fh i) (0 : Int32) (fz i)).toNatClampNeg)), (.int (0 : Int32)), (.ref b231)])) rfl rfl (hb hby own_d_prog_3_method_9_code_42)
    refine own_st st245 ?_
    have N246 := Fr.snoc X245 N244 g233
    have D247 : own_AT Z h245 n0 a span cap sh ow hd sz ko kh ks fw fh fs fz fF := F237.oth L235 nf236.1 nf236.2 W245
    have L248 : own_LA Z h245 b231 z2 (own_up (fun _ => 0) (0 : Int32).toNatClampNeg (fF i (own_idx (fh i) (0 : Int32) (fz i)).toNatClampNeg)) := L235.set W245
    have lt249 : b231 < h245.size := Nat.lt_of_lt_of_le A231.lt (Nat.le_of_eq W245.size.symm)
    have Zs250 : n0 ≤ h245.size := Nat.le_trans Zs232 (Nat.le_of_eq W245.size.symm)
    show own_Go p e below s _ _ _ (T245.setTop (mkF m 43 #[.val (.ref a), .val (.int iv), .val (.ref b231), .val (.int (0 : Int32))] []))
    refine own_st (fun _ kQ => XT.iincV X245.here hx rfl (1 : Int32) (hb hby own_d_prog_3_method_9_code_43) (by decide) rfl (l' := #[.val (.ref a), .val (.int iv), .val (.ref b231), .val (.int (1 : Int32))]) rfl kQ) ?_
    show own_Go p e below s _ _ _ (T245.setTop (mkF m 46 #[.val (.ref a), .val (.int iv), .val (.ref b231), .val (.int (1 : Int32))] []))
    refine own_st (fun _ kQ => XS.goto X245.here hx rfl (pc0 := 46) (pc' := 24) rfl (hb hby own_d_prog_3_method_9_code_46) (by decide) (by decide) kQ) ?_
    show own_Go p e below s _ _ _ (T245.setTop (mkF m 24 #[.val (.ref a), .val (.int iv), .val (.ref b231), .val (.int (1 : Int32))] []))
    refine own_st (fun _ kQ => XS.iloadN X245.here hx rfl (hb hby own_d_prog_3_method_9_code_24) rfl kQ) ?_
    show own_Go p e below s _ _ _ (T245.setTop (mkF m 25 #[.val (.ref a), .val (.int iv), .val (.ref b231), .val (.int (1 : Int32))] [(.int (1 : Int32))]))
    refine own_st (fun _ kQ => XS.aloadN X245.here hx rfl (hb hby own_d_prog_3_method_9_code_25) rfl rfl kQ) ?_
    show own_Go p e below s _ _ _ (T245.setTop (mkF m 26 #[.val (.ref a), .val (.int iv), .val (.ref b231), .val (.int (1 : Int32))] [(.ref a), (.int (1 : Int32))]))
    have F251 : Fld Z h245 a "com/example/wache/wache/AttemptTimes" "sizes" "[I" (.ref sz) := D247.fsz
    obtain ⟨T252, X252, e252, st252⟩ := getF X245 hx hZ hown (host := "") (Or.inl (hw _ (List.mem_of_getElem? (i := 24) rfl))) Via.refl e245 F251 (g := (mkF m 26 #[.val (.ref a), .val (.int iv), .val (.ref b231), .val (.int (1 : Int32))] [(.ref a), (.int (1 : Int32))])) rfl rfl (hb hby own_d_prog_3_method_9_code_26)
    refine own_st st252 ?_
    show own_Go p e below s _ _ _ (T252.setTop (mkF m 29 #[.val (.ref a), .val (.int iv), .val (.ref b231), .val (.int (1 : Int32))] [(.ref sz), (.int (1 : Int32))]))
    refine own_st (fun _ kQ => XS.iloadN X252.here hx rfl (hb hby own_d_prog_3_method_9_code_29) rfl kQ) ?_
    show own_Go p e below s _ _ _ (T252.setTop (mkF m 30 #[.val (.ref a), .val (.int iv), .val (.ref b231), .val (.int (1 : Int32))] [(.int iv), (.ref sz), (.int (1 : Int32))]))
    have F253 : Arv Z h245 sz ks .int (2 : Int32) [(.int (fs 0)), (.int (fs 1))] (.int (0 : Int32)) := D247.vsz
    obtain ⟨cl254, Ar254, kc254, S254, Nn254, H254, G254⟩ := id F253
    have hin254 : ¬ (iv < 0 ∨ cl254.slots.size ≤ (iv : Int32).toNatClampNeg) := inb_of S254 (own_I.inb hi)
    have hat254 : cl254.slots[(iv : Int32).toNatClampNeg]? = some (.int (4 : Int32)) := H254.at hin254 ((own_I.getI hi fs _).trans (congrArg Value.int hv))
    refine own_st (fun _ kQ => X252.iaload hx (j := iv) (v := (.int (4 : Int32))) (own_hp e252 Ar254.1) (State.isArrayOf_alike hZ.alike Ar254.2.1) Ar254.2.2 hin254 hat254 (g := (mkF m 30 #[.val (.ref a), .val (.int iv), .val (.ref b231), .val (.int (1 : Int32))] [(.int iv), (.ref sz), (.int (1 : Int32))])) rfl rfl (hb hby own_d_prog_3_method_9_code_30) _ kQ) ?_
    show own_Go p e below s _ _ _ (T252.setTop (mkF m 31 #[.val (.ref a), .val (.int iv), .val (.ref b231), .val (.int (1 : Int32))] [(.int (4 : Int32)), (.int (1 : Int32))]))
    refine own_st (fun _ kQ => XS.icmpNo X252.here hx rfl (hb hby own_d_prog_3_method_9_code_31) rfl (XT.ii_ge_f (by decide)) kQ) ?_
    show own_Go p e below s _ _ _ (T252.setTop (mkF m 34 #[.val (.ref a), .val (.int iv), .val (.ref b231), .val (.int (1 : Int32))] []))
    refine own_st (fun _ kQ => XS.aloadN X252.here hx rfl (hb hby own_d_prog_3_method_9_code_34) rfl rfl kQ) ?_
    show own_Go p e below s _ _ _ (T252.setTop (mkF m 35 #[.val (.ref a), .val (.int iv), .val (.ref b231), .val (.int (1 : Int32))] [(.ref b231)]))
    refine own_st (fun _ kQ => XS.iloadN X252.here hx rfl (hb hby own_d_prog_3_method_9_code_35) rfl kQ) ?_
    show own_Go p e below s _ _ _ (T252.setTop (mkF m 36 #[.val (.ref a), .val (.int iv), .val (.ref b231), .val (.int (1 : Int32))] [(.int (1 : Int32)), (.ref b231)]))
    refine own_st (fun _ kQ => XS.aloadN X252.here hx rfl (hb hby own_d_prog_3_method_9_code_36) rfl rfl kQ) ?_
    show own_Go p e below s _ _ _ (T252.setTop (mkF m 37 #[.val (.ref a), .val (.int iv), .val (.ref b231), .val (.int (1 : Int32))] [(.ref a), (.int (1 : Int32)), (.ref b231)]))
    refine own_st (fun _ kQ => XS.iloadN X252.here hx rfl (hb hby own_d_prog_3_method_9_code_37) rfl kQ) ?_
    show own_Go p e below s _ _ _ (T252.setTop (mkF m 38 #[.val (.ref a), .val (.int iv), .val (.ref b231), .val (.int (1 : Int32))] [(.int iv), (.ref a), (.int (1 : Int32)), (.ref b231)]))
    refine own_st (fun _ kQ => XS.iloadN X252.here hx rfl (hb hby own_d_prog_3_method_9_code_38) rfl kQ) ?_
    show own_Go p e below s _ _ _ (T252.setTop (mkF m 39 #[.val (.ref a), .val (.int iv), .val (.ref b231), .val (.int (1 : Int32))] [(.int (1 : Int32)), (.int iv), (.ref a), (.int (1 : Int32)), (.ref b231)]))
    have F256 : Exa Z h245 a "com/example/wache/wache/AttemptTimes" := D247.exa
    obtain ⟨cq255, q255, q255'⟩ := F256.cell
    obtain ⟨_, _, ⟨T255, L255, k255, n255⟩, -, X255, ⟨Lc255, hQ255, l255, y255, z255⟩, st255⟩ := X252.privateBack hx (y := (⟨"com/example/wache/wache/AttemptTimes", "get", "(II)J"⟩ : MethodName)) hown (mvT hZ (hw _ (List.mem_of_getElem? (i := 48) rfl))) (mvT hZ (hw _ (List.mem_of_getElem? (i := 49) rfl))) (mvT hZ (own_selP (hw _ (List.mem_of_getElem? (i := 49) rfl)) (hw _ (List.mem_of_getElem? (i := 50) rfl)) (hw _ (List.mem_of_getElem? (i := 2) rfl)) (by decide))) (Cond.privateMethod_at (mvP hZ (hw _ (List.mem_of_getElem? (i := 50) rfl)) (args := #[]))) (mvT hZ (hw _ (List.mem_of_getElem? (i := 51) rfl))) (by decide) (backOf (W := 2) (own_rm_get l Z a0 hw [] iv i a span cap sh ow hd sz ko kh ks fw fh fs fz fF (1 : Int32) h245 n0 Zs250 D247 hi (own_WF.idx wf (k := (1 : Int32)) (by decide) (by have e1 : ((1 : Int32)).toInt = 1 := (by decide); omega))) hZ (hw _ (List.mem_of_getElem? (i := 51) rfl)) (hw _ (List.mem_of_getElem? (i := 3) rfl)) (by decide) (by decide)) (g := (mkF m 39 #[.val (.ref a), .val (.int iv), .val (.ref b231), .val (.int (1 : Int32))] [(.int (1 : Int32)), (.int iv), (.ref a), (.int (1 : Int32)), (.ref b231)])) rfl (by rw [hml]; rfl) (Steps.refl _) (a := a) (own_hp e252 q255) q255' (argsL := [(.int iv), (.int (1 : Int32))]) (rest := [(.int (1 : Int32)), (.ref b231)]) (lenOf own_pd2 rfl) rfl (by show 2 * 0 + _ ≤ _; exact Nat.le_of_eq rfl) (hb hby own_d_prog_3_method_9_code_39) (fun _ _ => ⟨rfl, e252, (by decide : 1 + 0 ≤ _), (by decide : 5 + 0 ≤ _)⟩)
    dsimp only [Pt.U, Pt.locs, Pt.cells, Pt.slots] at X255 l255 y255 z255 st255 hQ255
    subst l255 y255 z255
    obtain ⟨N255q, rfl, eh255⟩ := hQ255
    have N257 := Fr.app N246 N255q
    refine own_tr st255 ?_
    show own_Go p e below s _ _ _ (T255.setTop (mkF m 42 #[.val (.ref a), .val (.int iv), .val (.ref b231), .val (.int (1 : Int32))] [(.long (fF i (own_idx (fh i) (1 : Int32) (fz i)).toNatClampNeg)), (.int (1 : Int32)), (.ref b231)]))
    obtain ⟨cl258, Ar258, S258, Nn258, H258⟩ := id L248
    have hin258 : ¬ ((1 : Int32) < 0 ∨ cl258.slots.size ≤ ((1 : Int32) : Int32).toNatClampNeg) := inb_of S258 (own_jin (j := (1 : Int32)) (by decide) (by have e1 : ((1 : Int32)).toInt = 1 := (by decide); omega))
    obtain ⟨T258, h258, X258, e258, W258, st258⟩ := stJ X255 hx hZ eh255 Ar258 (j := (1 : Int32)) hin258 (g := (mkF m 42 #[.val (.ref a), .val (.int iv), .val (.ref b231), .val (.int (1 : Int32))] [(.long (fF i (own_idx (fh i) (1 : Int32) (fz i)).toNatClampNeg)), (.int (1 : Int32)), (.ref b231)])) rfl rfl (hb hby own_d_prog_3_method_9_code_42)
    refine own_st st258 ?_
    have N259 := Fr.snoc X258 N257 g233
    have D260 : own_AT Z h258 n0 a span cap sh ow hd sz ko kh ks fw fh fs fz fF := D247.oth L248 nf236.1 nf236.2 W258
    have L261 : own_LA Z h258 b231 z2 (own_up (own_up (fun _ => 0) (0 : Int32).toNatClampNeg (fF i (own_idx (fh i) (0 : Int32) (fz i)).toNatClampNeg)) (1 : Int32).toNatClampNeg (fF i (own_idx (fh i) (1 : Int32) (fz i)).toNatClampNeg)) := L248.set W258
    have lt262 : b231 < h258.size := Nat.lt_of_lt_of_le lt249 (Nat.le_of_eq W258.size.symm)
    have Zs263 : n0 ≤ h258.size := Nat.le_trans Zs250 (Nat.le_of_eq W258.size.symm)
    show own_Go p e below s _ _ _ (T258.setTop (mkF m 43 #[.val (.ref a), .val (.int iv), .val (.ref b231), .val (.int (1 : Int32))] []))
    refine own_st (fun _ kQ => XT.iincV X258.here hx rfl (1 : Int32) (hb hby own_d_prog_3_method_9_code_43) (by decide) rfl (l' := #[.val (.ref a), .val (.int iv), .val (.ref b231), .val (.int (2 : Int32))]) rfl kQ) ?_
    show own_Go p e below s _ _ _ (T258.setTop (mkF m 46 #[.val (.ref a), .val (.int iv), .val (.ref b231), .val (.int (2 : Int32))] []))
    refine own_st (fun _ kQ => XS.goto X258.here hx rfl (pc0 := 46) (pc' := 24) rfl (hb hby own_d_prog_3_method_9_code_46) (by decide) (by decide) kQ) ?_
    show own_Go p e below s _ _ _ (T258.setTop (mkF m 24 #[.val (.ref a), .val (.int iv), .val (.ref b231), .val (.int (2 : Int32))] []))
    refine own_st (fun _ kQ => XS.iloadN X258.here hx rfl (hb hby own_d_prog_3_method_9_code_24) rfl kQ) ?_
    show own_Go p e below s _ _ _ (T258.setTop (mkF m 25 #[.val (.ref a), .val (.int iv), .val (.ref b231), .val (.int (2 : Int32))] [(.int (2 : Int32))]))
    refine own_st (fun _ kQ => XS.aloadN X258.here hx rfl (hb hby own_d_prog_3_method_9_code_25) rfl rfl kQ) ?_
    show own_Go p e below s _ _ _ (T258.setTop (mkF m 26 #[.val (.ref a), .val (.int iv), .val (.ref b231), .val (.int (2 : Int32))] [(.ref a), (.int (2 : Int32))]))
    have F264 : Fld Z h258 a "com/example/wache/wache/AttemptTimes" "sizes" "[I" (.ref sz) := D260.fsz
    obtain ⟨T265, X265, e265, st265⟩ := getF X258 hx hZ hown (host := "") (Or.inl (hw _ (List.mem_of_getElem? (i := 24) rfl))) Via.refl e258 F264 (g := (mkF m 26 #[.val (.ref a), .val (.int iv), .val (.ref b231), .val (.int (2 : Int32))] [(.ref a), (.int (2 : Int32))])) rfl rfl (hb hby own_d_prog_3_method_9_code_26)
    refine own_st st265 ?_
    show own_Go p e below s _ _ _ (T265.setTop (mkF m 29 #[.val (.ref a), .val (.int iv), .val (.ref b231), .val (.int (2 : Int32))] [(.ref sz), (.int (2 : Int32))]))
    refine own_st (fun _ kQ => XS.iloadN X265.here hx rfl (hb hby own_d_prog_3_method_9_code_29) rfl kQ) ?_
    show own_Go p e below s _ _ _ (T265.setTop (mkF m 30 #[.val (.ref a), .val (.int iv), .val (.ref b231), .val (.int (2 : Int32))] [(.int iv), (.ref sz), (.int (2 : Int32))]))
    have F266 : Arv Z h258 sz ks .int (2 : Int32) [(.int (fs 0)), (.int (fs 1))] (.int (0 : Int32)) := D260.vsz
    obtain ⟨cl267, Ar267, kc267, S267, Nn267, H267, G267⟩ := id F266
    have hin267 : ¬ (iv < 0 ∨ cl267.slots.size ≤ (iv : Int32).toNatClampNeg) := inb_of S267 (own_I.inb hi)
    have hat267 : cl267.slots[(iv : Int32).toNatClampNeg]? = some (.int (4 : Int32)) := H267.at hin267 ((own_I.getI hi fs _).trans (congrArg Value.int hv))
    refine own_st (fun _ kQ => X265.iaload hx (j := iv) (v := (.int (4 : Int32))) (own_hp e265 Ar267.1) (State.isArrayOf_alike hZ.alike Ar267.2.1) Ar267.2.2 hin267 hat267 (g := (mkF m 30 #[.val (.ref a), .val (.int iv), .val (.ref b231), .val (.int (2 : Int32))] [(.int iv), (.ref sz), (.int (2 : Int32))])) rfl rfl (hb hby own_d_prog_3_method_9_code_30) _ kQ) ?_
    show own_Go p e below s _ _ _ (T265.setTop (mkF m 31 #[.val (.ref a), .val (.int iv), .val (.ref b231), .val (.int (2 : Int32))] [(.int (4 : Int32)), (.int (2 : Int32))]))
    refine own_st (fun _ kQ => XS.icmpNo X265.here hx rfl (hb hby own_d_prog_3_method_9_code_31) rfl (XT.ii_ge_f (by decide)) kQ) ?_
    show own_Go p e below s _ _ _ (T265.setTop (mkF m 34 #[.val (.ref a), .val (.int iv), .val (.ref b231), .val (.int (2 : Int32))] []))
    refine own_st (fun _ kQ => XS.aloadN X265.here hx rfl (hb hby own_d_prog_3_method_9_code_34) rfl rfl kQ) ?_
    show own_Go p e below s _ _ _ (T265.setTop (mkF m 35 #[.val (.ref a), .val (.int iv), .val (.ref b231), .val (.int (2 : Int32))] [(.ref b231)]))
    refine own_st (fun _ kQ => XS.iloadN X265.here hx rfl (hb hby own_d_prog_3_method_9_code_35) rfl kQ) ?_
    show own_Go p e below s _ _ _ (T265.setTop (mkF m 36 #[.val (.ref a), .val (.int iv), .val (.ref b231), .val (.int (2 : Int32))] [(.int (2 : Int32)), (.ref b231)]))
    refine own_st (fun _ kQ => XS.aloadN X265.here hx rfl (hb hby own_d_prog_3_method_9_code_36) rfl rfl kQ) ?_
    show own_Go p e below s _ _ _ (T265.setTop (mkF m 37 #[.val (.ref a), .val (.int iv), .val (.ref b231), .val (.int (2 : Int32))] [(.ref a), (.int (2 : Int32)), (.ref b231)]))
    refine own_st (fun _ kQ => XS.iloadN X265.here hx rfl (hb hby own_d_prog_3_method_9_code_37) rfl kQ) ?_
    show own_Go p e below s _ _ _ (T265.setTop (mkF m 38 #[.val (.ref a), .val (.int iv), .val (.ref b231), .val (.int (2 : Int32))] [(.int iv), (.ref a), (.int (2 : Int32)), (.ref b231)]))
    refine own_st (fun _ kQ => XS.iloadN X265.here hx rfl (hb hby own_d_prog_3_method_9_code_38) rfl kQ) ?_
    show own_Go p e below s _ _ _ (T265.setTop (mkF m 39 #[.val (.ref a), .val (.int iv), .val (.ref b231), .val (.int (2 : Int32))] [(.int (2 : Int32)), (.int iv), (.ref a), (.int (2 : Int32)), (.ref b231)]))
    have F269 : Exa Z h258 a "com/example/wache/wache/AttemptTimes" := D260.exa
    obtain ⟨cq268, q268, q268'⟩ := F269.cell
    obtain ⟨_, _, ⟨T268, L268, k268, n268⟩, -, X268, ⟨Lc268, hQ268, l268, y268, z268⟩, st268⟩ := X265.privateBack hx (y := (⟨"com/example/wache/wache/AttemptTimes", "get", "(II)J"⟩ : MethodName)) hown (mvT hZ (hw _ (List.mem_of_getElem? (i := 48) rfl))) (mvT hZ (hw _ (List.mem_of_getElem? (i := 49) rfl))) (mvT hZ (own_selP (hw _ (List.mem_of_getElem? (i := 49) rfl)) (hw _ (List.mem_of_getElem? (i := 50) rfl)) (hw _ (List.mem_of_getElem? (i := 2) rfl)) (by decide))) (Cond.privateMethod_at (mvP hZ (hw _ (List.mem_of_getElem? (i := 50) rfl)) (args := #[]))) (mvT hZ (hw _ (List.mem_of_getElem? (i := 51) rfl))) (by decide) (backOf (W := 2) (own_rm_get l Z a0 hw [] iv i a span cap sh ow hd sz ko kh ks fw fh fs fz fF (2 : Int32) h258 n0 Zs263 D260 hi (own_WF.idx wf (k := (2 : Int32)) (by decide) (by have e1 : ((2 : Int32)).toInt = 2 := (by decide); omega))) hZ (hw _ (List.mem_of_getElem? (i := 51) rfl)) (hw _ (List.mem_of_getElem? (i := 3) rfl)) (by decide) (by decide)) (g := (mkF m 39 #[.val (.ref a), .val (.int iv), .val (.ref b231), .val (.int (2 : Int32))] [(.int (2 : Int32)), (.int iv), (.ref a), (.int (2 : Int32)), (.ref b231)])) rfl (by rw [hml]; rfl) (Steps.refl _) (a := a) (own_hp e265 q268) q268' (argsL := [(.int iv), (.int (2 : Int32))]) (rest := [(.int (2 : Int32)), (.ref b231)]) (lenOf own_pd2 rfl) rfl (by show 2 * 0 + _ ≤ _; exact Nat.le_of_eq rfl) (hb hby own_d_prog_3_method_9_code_39) (fun _ _ => ⟨rfl, e265, (by decide : 1 + 0 ≤ _), (by decide : 5 + 0 ≤ _)⟩)
    dsimp only [Pt.U, Pt.locs, Pt.cells, Pt.slots] at X268 l268 y268 z268 st268 hQ268
    subst l268 y268 z268
    obtain ⟨N268q, rfl, eh268⟩ := hQ268
    have N270 := Fr.app N259 N268q
    refine own_tr st268 ?_
    show own_Go p e below s _ _ _ (T268.setTop (mkF m 42 #[.val (.ref a), .val (.int iv), .val (.ref b231), .val (.int (2 : Int32))] [(.long (fF i (own_idx (fh i) (2 : Int32) (fz i)).toNatClampNeg)), (.int (2 : Int32)), (.ref b231)]))
    obtain ⟨cl271, Ar271, S271, Nn271, H271⟩ := id L261
    have hin271 : ¬ ((2 : Int32) < 0 ∨ cl271.slots.size ≤ ((2 : Int32) : Int32).toNatClampNeg) := inb_of S271 (own_jin (j := (2 : Int32)) (by decide) (by have e1 : ((2 : Int32)).toInt = 2 := (by decide); omega))
    obtain ⟨T271, h271, X271, e271, W271, st271⟩ := stJ X268 hx hZ eh268 Ar271 (j := (2 : Int32)) hin271 (g := (mkF m 42 #[.val (.ref a), .val (.int iv), .val (.ref b231), .val (.int (2 : Int32))] [(.long (fF i (own_idx (fh i) (2 : Int32) (fz i)).toNatClampNeg)), (.int (2 : Int32)), (.ref b231)])) rfl rfl (hb hby own_d_prog_3_method_9_code_42)
    refine own_st st271 ?_
    have N272 := Fr.snoc X271 N270 g233
    have D273 : own_AT Z h271 n0 a span cap sh ow hd sz ko kh ks fw fh fs fz fF := D260.oth L261 nf236.1 nf236.2 W271
    have L274 : own_LA Z h271 b231 z2 (own_up (own_up (own_up (fun _ => 0) (0 : Int32).toNatClampNeg (fF i (own_idx (fh i) (0 : Int32) (fz i)).toNatClampNeg)) (1 : Int32).toNatClampNeg (fF i (own_idx (fh i) (1 : Int32) (fz i)).toNatClampNeg)) (2 : Int32).toNatClampNeg (fF i (own_idx (fh i) (2 : Int32) (fz i)).toNatClampNeg)) := L261.set W271
    have lt275 : b231 < h271.size := Nat.lt_of_lt_of_le lt262 (Nat.le_of_eq W271.size.symm)
    have Zs276 : n0 ≤ h271.size := Nat.le_trans Zs263 (Nat.le_of_eq W271.size.symm)
    show own_Go p e below s _ _ _ (T271.setTop (mkF m 43 #[.val (.ref a), .val (.int iv), .val (.ref b231), .val (.int (2 : Int32))] []))
    refine own_st (fun _ kQ => XT.iincV X271.here hx rfl (1 : Int32) (hb hby own_d_prog_3_method_9_code_43) (by decide) rfl (l' := #[.val (.ref a), .val (.int iv), .val (.ref b231), .val (.int (3 : Int32))]) rfl kQ) ?_
    show own_Go p e below s _ _ _ (T271.setTop (mkF m 46 #[.val (.ref a), .val (.int iv), .val (.ref b231), .val (.int (3 : Int32))] []))
    refine own_st (fun _ kQ => XS.goto X271.here hx rfl (pc0 := 46) (pc' := 24) rfl (hb hby own_d_prog_3_method_9_code_46) (by decide) (by decide) kQ) ?_
    show own_Go p e below s _ _ _ (T271.setTop (mkF m 24 #[.val (.ref a), .val (.int iv), .val (.ref b231), .val (.int (3 : Int32))] []))
    refine own_st (fun _ kQ => XS.iloadN X271.here hx rfl (hb hby own_d_prog_3_method_9_code_24) rfl kQ) ?_
    show own_Go p e below s _ _ _ (T271.setTop (mkF m 25 #[.val (.ref a), .val (.int iv), .val (.ref b231), .val (.int (3 : Int32))] [(.int (3 : Int32))]))
    refine own_st (fun _ kQ => XS.aloadN X271.here hx rfl (hb hby own_d_prog_3_method_9_code_25) rfl rfl kQ) ?_
    show own_Go p e below s _ _ _ (T271.setTop (mkF m 26 #[.val (.ref a), .val (.int iv), .val (.ref b231), .val (.int (3 : Int32))] [(.ref a), (.int (3 : Int32))]))
    have F277 : Fld Z h271 a "com/example/wache/wache/AttemptTimes" "sizes" "[I" (.ref sz) := D273.fsz
    obtain ⟨T278, X278, e278, st278⟩ := getF X271 hx hZ hown (host := "") (Or.inl (hw _ (List.mem_of_getElem? (i := 24) rfl))) Via.refl e271 F277 (g := (mkF m 26 #[.val (.ref a), .val (.int iv), .val (.ref b231), .val (.int (3 : Int32))] [(.ref a), (.int (3 : Int32))])) rfl rfl (hb hby own_d_prog_3_method_9_code_26)
    refine own_st st278 ?_
    show own_Go p e below s _ _ _ (T278.setTop (mkF m 29 #[.val (.ref a), .val (.int iv), .val (.ref b231), .val (.int (3 : Int32))] [(.ref sz), (.int (3 : Int32))]))
    refine own_st (fun _ kQ => XS.iloadN X278.here hx rfl (hb hby own_d_prog_3_method_9_code_29) rfl kQ) ?_
    show own_Go p e below s _ _ _ (T278.setTop (mkF m 30 #[.val (.ref a), .val (.int iv), .val (.ref b231), .val (.int (3 : Int32))] [(.int iv), (.ref sz), (.int (3 : Int32))]))
    have F279 : Arv Z h271 sz ks .int (2 : Int32) [(.int (fs 0)), (.int (fs 1))] (.int (0 : Int32)) := D273.vsz
    obtain ⟨cl280, Ar280, kc280, S280, Nn280, H280, G280⟩ := id F279
    have hin280 : ¬ (iv < 0 ∨ cl280.slots.size ≤ (iv : Int32).toNatClampNeg) := inb_of S280 (own_I.inb hi)
    have hat280 : cl280.slots[(iv : Int32).toNatClampNeg]? = some (.int (4 : Int32)) := H280.at hin280 ((own_I.getI hi fs _).trans (congrArg Value.int hv))
    refine own_st (fun _ kQ => X278.iaload hx (j := iv) (v := (.int (4 : Int32))) (own_hp e278 Ar280.1) (State.isArrayOf_alike hZ.alike Ar280.2.1) Ar280.2.2 hin280 hat280 (g := (mkF m 30 #[.val (.ref a), .val (.int iv), .val (.ref b231), .val (.int (3 : Int32))] [(.int iv), (.ref sz), (.int (3 : Int32))])) rfl rfl (hb hby own_d_prog_3_method_9_code_30) _ kQ) ?_
    show own_Go p e below s _ _ _ (T278.setTop (mkF m 31 #[.val (.ref a), .val (.int iv), .val (.ref b231), .val (.int (3 : Int32))] [(.int (4 : Int32)), (.int (3 : Int32))]))
    refine own_st (fun _ kQ => XS.icmpNo X278.here hx rfl (hb hby own_d_prog_3_method_9_code_31) rfl (XT.ii_ge_f (by decide)) kQ) ?_
    show own_Go p e below s _ _ _ (T278.setTop (mkF m 34 #[.val (.ref a), .val (.int iv), .val (.ref b231), .val (.int (3 : Int32))] []))
    refine own_st (fun _ kQ => XS.aloadN X278.here hx rfl (hb hby own_d_prog_3_method_9_code_34) rfl rfl kQ) ?_
    show own_Go p e below s _ _ _ (T278.setTop (mkF m 35 #[.val (.ref a), .val (.int iv), .val (.ref b231), .val (.int (3 : Int32))] [(.ref b231)]))
    refine own_st (fun _ kQ => XS.iloadN X278.here hx rfl (hb hby own_d_prog_3_method_9_code_35) rfl kQ) ?_
    show own_Go p e below s _ _ _ (T278.setTop (mkF m 36 #[.val (.ref a), .val (.int iv), .val (.ref b231), .val (.int (3 : Int32))] [(.int (3 : Int32)), (.ref b231)]))
    refine own_st (fun _ kQ => XS.aloadN X278.here hx rfl (hb hby own_d_prog_3_method_9_code_36) rfl rfl kQ) ?_
    show own_Go p e below s _ _ _ (T278.setTop (mkF m 37 #[.val (.ref a), .val (.int iv), .val (.ref b231), .val (.int (3 : Int32))] [(.ref a), (.int (3 : Int32)), (.ref b231)]))
    refine own_st (fun _ kQ => XS.iloadN X278.here hx rfl (hb hby own_d_prog_3_method_9_code_37) rfl kQ) ?_
    show own_Go p e below s _ _ _ (T278.setTop (mkF m 38 #[.val (.ref a), .val (.int iv), .val (.ref b231), .val (.int (3 : Int32))] [(.int iv), (.ref a), (.int (3 : Int32)), (.ref b231)]))
    refine own_st (fun _ kQ => XS.iloadN X278.here hx rfl (hb hby own_d_prog_3_method_9_code_38) rfl kQ) ?_
    show own_Go p e below s _ _ _ (T278.setTop (mkF m 39 #[.val (.ref a), .val (.int iv), .val (.ref b231), .val (.int (3 : Int32))] [(.int (3 : Int32)), (.int iv), (.ref a), (.int (3 : Int32)), (.ref b231)]))
    have F282 : Exa Z h271 a "com/example/wache/wache/AttemptTimes" := D273.exa
    obtain ⟨cq281, q281, q281'⟩ := F282.cell
    obtain ⟨_, _, ⟨T281, L281, k281, n281⟩, -, X281, ⟨Lc281, hQ281, l281, y281, z281⟩, st281⟩ := X278.privateBack hx (y := (⟨"com/example/wache/wache/AttemptTimes", "get", "(II)J"⟩ : MethodName)) hown (mvT hZ (hw _ (List.mem_of_getElem? (i := 48) rfl))) (mvT hZ (hw _ (List.mem_of_getElem? (i := 49) rfl))) (mvT hZ (own_selP (hw _ (List.mem_of_getElem? (i := 49) rfl)) (hw _ (List.mem_of_getElem? (i := 50) rfl)) (hw _ (List.mem_of_getElem? (i := 2) rfl)) (by decide))) (Cond.privateMethod_at (mvP hZ (hw _ (List.mem_of_getElem? (i := 50) rfl)) (args := #[]))) (mvT hZ (hw _ (List.mem_of_getElem? (i := 51) rfl))) (by decide) (backOf (W := 2) (own_rm_get l Z a0 hw [] iv i a span cap sh ow hd sz ko kh ks fw fh fs fz fF (3 : Int32) h271 n0 Zs276 D273 hi (own_WF.idx wf (k := (3 : Int32)) (by decide) (by have e1 : ((3 : Int32)).toInt = 3 := (by decide); omega))) hZ (hw _ (List.mem_of_getElem? (i := 51) rfl)) (hw _ (List.mem_of_getElem? (i := 3) rfl)) (by decide) (by decide)) (g := (mkF m 39 #[.val (.ref a), .val (.int iv), .val (.ref b231), .val (.int (3 : Int32))] [(.int (3 : Int32)), (.int iv), (.ref a), (.int (3 : Int32)), (.ref b231)])) rfl (by rw [hml]; rfl) (Steps.refl _) (a := a) (own_hp e278 q281) q281' (argsL := [(.int iv), (.int (3 : Int32))]) (rest := [(.int (3 : Int32)), (.ref b231)]) (lenOf own_pd2 rfl) rfl (by show 2 * 0 + _ ≤ _; exact Nat.le_of_eq rfl) (hb hby own_d_prog_3_method_9_code_39) (fun _ _ => ⟨rfl, e278, (by decide : 1 + 0 ≤ _), (by decide : 5 + 0 ≤ _)⟩)
    dsimp only [Pt.U, Pt.locs, Pt.cells, Pt.slots] at X281 l281 y281 z281 st281 hQ281
    subst l281 y281 z281
    obtain ⟨N281q, rfl, eh281⟩ := hQ281
    have N283 := Fr.app N272 N281q
    refine own_tr st281 ?_
    show own_Go p e below s _ _ _ (T281.setTop (mkF m 42 #[.val (.ref a), .val (.int iv), .val (.ref b231), .val (.int (3 : Int32))] [(.long (fF i (own_idx (fh i) (3 : Int32) (fz i)).toNatClampNeg)), (.int (3 : Int32)), (.ref b231)]))
    obtain ⟨cl284, Ar284, S284, Nn284, H284⟩ := id L274
    have hin284 : ¬ ((3 : Int32) < 0 ∨ cl284.slots.size ≤ ((3 : Int32) : Int32).toNatClampNeg) := inb_of S284 (own_jin (j := (3 : Int32)) (by decide) (by have e1 : ((3 : Int32)).toInt = 3 := (by decide); omega))
    obtain ⟨T284, h284, X284, e284, W284, st284⟩ := stJ X281 hx hZ eh281 Ar284 (j := (3 : Int32)) hin284 (g := (mkF m 42 #[.val (.ref a), .val (.int iv), .val (.ref b231), .val (.int (3 : Int32))] [(.long (fF i (own_idx (fh i) (3 : Int32) (fz i)).toNatClampNeg)), (.int (3 : Int32)), (.ref b231)])) rfl rfl (hb hby own_d_prog_3_method_9_code_42)
    refine own_st st284 ?_
    have N285 := Fr.snoc X284 N283 g233
    have D286 : own_AT Z h284 n0 a span cap sh ow hd sz ko kh ks fw fh fs fz fF := D273.oth L274 nf236.1 nf236.2 W284
    have L287 : own_LA Z h284 b231 z2 (own_up (own_up (own_up (own_up (fun _ => 0) (0 : Int32).toNatClampNeg (fF i (own_idx (fh i) (0 : Int32) (fz i)).toNatClampNeg)) (1 : Int32).toNatClampNeg (fF i (own_idx (fh i) (1 : Int32) (fz i)).toNatClampNeg)) (2 : Int32).toNatClampNeg (fF i (own_idx (fh i) (2 : Int32) (fz i)).toNatClampNeg)) (3 : Int32).toNatClampNeg (fF i (own_idx (fh i) (3 : Int32) (fz i)).toNatClampNeg)) := L274.set W284
    have lt288 : b231 < h284.size := Nat.lt_of_lt_of_le lt275 (Nat.le_of_eq W284.size.symm)
    have Zs289 : n0 ≤ h284.size := Nat.le_trans Zs276 (Nat.le_of_eq W284.size.symm)
    show own_Go p e below s _ _ _ (T284.setTop (mkF m 43 #[.val (.ref a), .val (.int iv), .val (.ref b231), .val (.int (3 : Int32))] []))
    refine own_st (fun _ kQ => XT.iincV X284.here hx rfl (1 : Int32) (hb hby own_d_prog_3_method_9_code_43) (by decide) rfl (l' := #[.val (.ref a), .val (.int iv), .val (.ref b231), .val (.int (4 : Int32))]) rfl kQ) ?_
    show own_Go p e below s _ _ _ (T284.setTop (mkF m 46 #[.val (.ref a), .val (.int iv), .val (.ref b231), .val (.int (4 : Int32))] []))
    refine own_st (fun _ kQ => XS.goto X284.here hx rfl (pc0 := 46) (pc' := 24) rfl (hb hby own_d_prog_3_method_9_code_46) (by decide) (by decide) kQ) ?_
    show own_Go p e below s _ _ _ (T284.setTop (mkF m 24 #[.val (.ref a), .val (.int iv), .val (.ref b231), .val (.int (4 : Int32))] []))
    refine own_st (fun _ kQ => XS.iloadN X284.here hx rfl (hb hby own_d_prog_3_method_9_code_24) rfl kQ) ?_
    show own_Go p e below s _ _ _ (T284.setTop (mkF m 25 #[.val (.ref a), .val (.int iv), .val (.ref b231), .val (.int (4 : Int32))] [(.int (4 : Int32))]))
    refine own_st (fun _ kQ => XS.aloadN X284.here hx rfl (hb hby own_d_prog_3_method_9_code_25) rfl rfl kQ) ?_
    show own_Go p e below s _ _ _ (T284.setTop (mkF m 26 #[.val (.ref a), .val (.int iv), .val (.ref b231), .val (.int (4 : Int32))] [(.ref a), (.int (4 : Int32))]))
    have F290 : Fld Z h284 a "com/example/wache/wache/AttemptTimes" "sizes" "[I" (.ref sz) := D286.fsz
    obtain ⟨T291, X291, e291, st291⟩ := getF X284 hx hZ hown (host := "") (Or.inl (hw _ (List.mem_of_getElem? (i := 24) rfl))) Via.refl e284 F290 (g := (mkF m 26 #[.val (.ref a), .val (.int iv), .val (.ref b231), .val (.int (4 : Int32))] [(.ref a), (.int (4 : Int32))])) rfl rfl (hb hby own_d_prog_3_method_9_code_26)
    refine own_st st291 ?_
    show own_Go p e below s _ _ _ (T291.setTop (mkF m 29 #[.val (.ref a), .val (.int iv), .val (.ref b231), .val (.int (4 : Int32))] [(.ref sz), (.int (4 : Int32))]))
    refine own_st (fun _ kQ => XS.iloadN X291.here hx rfl (hb hby own_d_prog_3_method_9_code_29) rfl kQ) ?_
    show own_Go p e below s _ _ _ (T291.setTop (mkF m 30 #[.val (.ref a), .val (.int iv), .val (.ref b231), .val (.int (4 : Int32))] [(.int iv), (.ref sz), (.int (4 : Int32))]))
    have F292 : Arv Z h284 sz ks .int (2 : Int32) [(.int (fs 0)), (.int (fs 1))] (.int (0 : Int32)) := D286.vsz
    obtain ⟨cl293, Ar293, kc293, S293, Nn293, H293, G293⟩ := id F292
    have hin293 : ¬ (iv < 0 ∨ cl293.slots.size ≤ (iv : Int32).toNatClampNeg) := inb_of S293 (own_I.inb hi)
    have hat293 : cl293.slots[(iv : Int32).toNatClampNeg]? = some (.int (4 : Int32)) := H293.at hin293 ((own_I.getI hi fs _).trans (congrArg Value.int hv))
    refine own_st (fun _ kQ => X291.iaload hx (j := iv) (v := (.int (4 : Int32))) (own_hp e291 Ar293.1) (State.isArrayOf_alike hZ.alike Ar293.2.1) Ar293.2.2 hin293 hat293 (g := (mkF m 30 #[.val (.ref a), .val (.int iv), .val (.ref b231), .val (.int (4 : Int32))] [(.int iv), (.ref sz), (.int (4 : Int32))])) rfl rfl (hb hby own_d_prog_3_method_9_code_30) _ kQ) ?_
    show own_Go p e below s _ _ _ (T291.setTop (mkF m 31 #[.val (.ref a), .val (.int iv), .val (.ref b231), .val (.int (4 : Int32))] [(.int (4 : Int32)), (.int (4 : Int32))]))
    refine own_st (fun _ kQ => XS.icmpYes X291.here hx rfl (pc0 := 31) (pc' := 49) rfl (hb hby own_d_prog_3_method_9_code_31) rfl (XT.ii_ge_t (by decide)) (by decide) (by decide) kQ) ?_
    show own_Go p e below s _ _ _ (T291.setTop (mkF m 49 #[.val (.ref a), .val (.int iv), .val (.ref b231), .val (.int (4 : Int32))] []))
    refine own_st (fun _ kQ => XS.aloadN X291.here hx rfl (hb hby own_d_prog_3_method_9_code_49) rfl rfl kQ) ?_
    show own_Go p e below s _ _ _ (T291.setTop (mkF m 50 #[.val (.ref a), .val (.int iv), .val (.ref b231), .val (.int (4 : Int32))] [(.ref a)]))
    have F294 : Fld Z h284 a "com/example/wache/wache/AttemptTimes" "own" "[[J" (.ref ow) := D286.fow
    obtain ⟨T295, X295, e295, st295⟩ := getF X291 hx hZ hown (host := "") (Or.inl (hw _ (List.mem_of_getElem? (i := 19) rfl))) Via.refl e291 F294 (g := (mkF m 50 #[.val (.ref a), .val (.int iv), .val (.ref b231), .val (.int (4 : Int32))] [(.ref a)])) rfl rfl (hb hby own_d_prog_3_method_9_code_50)
    refine own_st st295 ?_
    show own_Go p e below s _ _ _ (T295.setTop (mkF m 53 #[.val (.ref a), .val (.int iv), .val (.ref b231), .val (.int (4 : Int32))] [(.ref ow)]))
    refine own_st (fun _ kQ => XS.iloadN X295.here hx rfl (hb hby own_d_prog_3_method_9_code_53) rfl kQ) ?_
    show own_Go p e below s _ _ _ (T295.setTop (mkF m 54 #[.val (.ref a), .val (.int iv), .val (.ref b231), .val (.int (4 : Int32))] [(.int iv), (.ref ow)]))
    refine own_st (fun _ kQ => XS.aloadN X295.here hx rfl (hb hby own_d_prog_3_method_9_code_54) rfl rfl kQ) ?_
    show own_Go p e below s _ _ _ (T295.setTop (mkF m 55 #[.val (.ref a), .val (.int iv), .val (.ref b231), .val (.int (4 : Int32))] [(.ref b231), (.int iv), (.ref ow)]))
    have F297 : Arv Z h284 ow ko (.array .long) (2 : Int32) [(fw 0), (fw 1)] .null := D286.vow
    obtain ⟨cl296, Ar296, kc296, S296, Nn296, H296, G296⟩ := id F297
    have hin296 : ¬ (iv < 0 ∨ cl296.slots.size ≤ (iv : Int32).toNatClampNeg) := inb_of S296 (own_I.inb hi)
    obtain ⟨T296, h296, X296, e296, W296, st296⟩ := stR X295 hx hZ e295 Ar296 (j := iv) hin296 rfl (Sto.ofVA Ar296 kc296 D286.ovr (Ins.self ((((Ea231.wr W245).wr W258).wr W271).wr W284))) (g := (mkF m 55 #[.val (.ref a), .val (.int iv), .val (.ref b231), .val (.int (4 : Int32))] [(.ref b231), (.int iv), (.ref ow)])) rfl rfl (hb hby own_d_prog_3_method_9_code_55)
    refine own_st st296 ?_
    have N298 := Fr.snoc X296 N285 D286.gs.2.2.1
    have D299 : own_AT Z h296 n0 a span cap sh ow hd sz ko kh ks (own_up fw i (.ref b231)) fh fs (own_up fz i z2) (own_up fF i (own_up (own_up (own_up (own_up (fun _ => 0) (0 : Int32).toNatClampNeg (fF i (own_idx (fh i) (0 : Int32) (fz i)).toNatClampNeg)) (1 : Int32).toNatClampNeg (fF i (own_idx (fh i) (1 : Int32) (fz i)).toNatClampNeg)) (2 : Int32).toNatClampNeg (fF i (own_idx (fh i) (2 : Int32) (fz i)).toNatClampNeg)) (3 : Int32).toNatClampNeg (fF i (own_idx (fh i) (3 : Int32) (fz i)).toNatClampNeg))) := D286.setO hi L287 g233 nf236.1 nf236.2 W296
    have lt300 : b231 < h296.size := Nat.lt_of_lt_of_le lt288 (Nat.le_of_eq W296.size.symm)
    have Zs301 : n0 ≤ h296.size := Nat.le_trans Zs289 (Nat.le_of_eq W296.size.symm)
    show own_Go p e below s _ _ _ (T296.setTop (mkF m 56 #[.val (.ref a), .val (.int iv), .val (.ref b231), .val (.int (4 : Int32))] []))
    refine own_st (fun _ kQ => XS.aloadN X296.here hx rfl (hb hby own_d_prog_3_method_9_code_56) rfl rfl kQ) ?_
    show own_Go p e below s _ _ _ (T296.setTop (mkF m 57 #[.val (.ref a), .val (.int iv), .val (.ref b231), .val (.int (4 : Int32))] [(.ref a)]))
    have F302 : Fld Z h296 a "com/example/wache/wache/AttemptTimes" "heads" "[I" (.ref hd) := D299.fhd
    obtain ⟨T303, X303, e303, st303⟩ := getF X296 hx hZ hown (host := "") (Or.inl (hw _ (List.mem_of_getElem? (i := 22) rfl))) Via.refl e296 F302 (g := (mkF m 57 #[.val (.ref a), .val (.int iv), .val (.ref b231), .val (.int (4 : Int32))] [(.ref a)])) rfl rfl (hb hby own_d_prog_3_method_9_code_57)
    refine own_st st303 ?_
    show own_Go p e below s _ _ _ (T303.setTop (mkF m 60 #[.val (.ref a), .val (.int iv), .val (.ref b231), .val (.int (4 : Int32))] [(.ref hd)]))
    refine own_st (fun _ kQ => XS.iloadN X303.here hx rfl (hb hby own_d_prog_3_method_9_code_60) rfl kQ) ?_
    show own_Go p e below s _ _ _ (T303.setTop (mkF m 61 #[.val (.ref a), .val (.int iv), .val (.ref b231), .val (.int (4 : Int32))] [(.int iv), (.ref hd)]))
    refine own_st (fun _ kQ => XT.iconstV X303.here hx rfl (0 : Int32) (hb hby own_d_prog_3_method_9_code_61) (by decide) kQ) ?_
    show own_Go p e below s _ _ _ (T303.setTop (mkF m 62 #[.val (.ref a), .val (.int iv), .val (.ref b231), .val (.int (4 : Int32))] [(.int (0 : Int32)), (.int iv), (.ref hd)]))
    have F305 : Arv Z h296 hd kh .int (2 : Int32) [(.int (fh 0)), (.int (fh 1))] (.int (0 : Int32)) := D299.vhd
    obtain ⟨cl304, Ar304, kc304, S304, Nn304, H304, G304⟩ := id F305
    have hin304 : ¬ (iv < 0 ∨ cl304.slots.size ≤ (iv : Int32).toNatClampNeg) := inb_of S304 (own_I.inb hi)
    obtain ⟨T304, h304, X304, e304, W304, st304⟩ := stI X303 hx hZ e303 Ar304 (j := iv) hin304 (g := (mkF m 62 #[.val (.ref a), .val (.int iv), .val (.ref b231), .val (.int (4 : Int32))] [(.int (0 : Int32)), (.int iv), (.ref hd)])) rfl rfl (hb hby own_d_prog_3_method_9_code_62)
    refine own_st st304 ?_
    have N306 := Fr.snoc X304 N298 D299.gs.2.2.2.1
    have D307 : own_AT Z h304 n0 a span cap sh ow hd sz ko kh ks (own_up fw i (.ref b231)) (own_up fh i (0 : Int32)) fs (own_up fz i z2) (own_up fF i (own_up (own_up (own_up (own_up (fun _ => 0) (0 : Int32).toNatClampNeg (fF i (own_idx (fh i) (0 : Int32) (fz i)).toNatClampNeg)) (1 : Int32).toNatClampNeg (fF i (own_idx (fh i) (1 : Int32) (fz i)).toNatClampNeg)) (2 : Int32).toNatClampNeg (fF i (own_idx (fh i) (2 : Int32) (fz i)).toNatClampNeg)) (3 : Int32).toNatClampNeg (fF i (own_idx (fh i) (3 : Int32) (fz i)).toNatClampNeg))) := D299.setH hi W304
    have lt308 : b231 < h304.size := Nat.lt_of_lt_of_le lt300 (Nat.le_of_eq W304.size.symm)
    have Zs309 : n0 ≤ h304.size := Nat.le_trans Zs301 (Nat.le_of_eq W304.size.symm)
    show own_Go p e below s _ _ _ (T304.setTop (mkF m 63 #[.val (.ref a), .val (.int iv), .val (.ref b231), .val (.int (4 : Int32))] []))
    refine own_ret0 X304 hx hlk Bd.returns (hb hby own_d_prog_3_method_9_code_63) (by decide) (by decide) ?_
    rw [e304]
    exact ⟨(own_up fw i (.ref b231)), (own_up fh i (0 : Int32)), (own_up fz i z2), (own_up fF i (own_up (own_up (own_up (own_up (fun _ => 0) (0 : Int32).toNatClampNeg (fF i (own_idx (fh i) (0 : Int32) (fz i)).toNatClampNeg)) (1 : Int32).toNatClampNeg (fF i (own_idx (fh i) (1 : Int32) (fz i)).toNatClampNeg)) (2 : Int32).toNatClampNeg (fF i (own_idx (fh i) (2 : Int32) (fz i)).toNatClampNeg)) (3 : Int32).toNatClampNeg (fF i (own_idx (fh i) (3 : Int32) (fz i)).toNatClampNeg))), N306, rfl, D307, (own_up_same _ _ _), (by rw [own_up_same]; exact ⟨z2a, z2b⟩), (fun q hq => ⟨own_up_ne hq, own_up_ne hq, own_up_ne hq⟩)⟩
theorem own_d_prog_3_method_2_code_0 : decode prog_3_method_2_code 0 = .ok (.aload_n 0, 1) := by decide +kernel
theorem own_d_prog_3_method_2_code_1 : decode prog_3_method_2_code 1 = .ok (.getfield 30, 3) := by decide +kernel
theorem own_d_prog_3_method_2_code_4 : decode prog_3_method_2_code 4 = .ok (.iload_n 1, 1) := by decide +kernel
theorem own_d_prog_3_method_2_code_5 : decode prog_3_method_2_code 5 = .ok (.iaload, 1) := by decide +kernel
theorem own_d_prog_3_method_2_code_6 : decode prog_3_method_2_code 6 = .ok (.ifCond .le 27, 3) := by decide +kernel
theorem own_d_prog_3_method_2_code_9 : decode prog_3_method_2_code 9 = .ok (.aload_n 0, 1) := by decide +kernel
theorem own_d_prog_3_method_2_code_10 : decode prog_3_method_2_code 10 = .ok (.iload_n 1, 1) := by decide +kernel
theorem own_d_prog_3_method_2_code_11 : decode prog_3_method_2_code 11 = .ok (.iconst 0, 1) := by decide +kernel
theorem own_d_prog_3_method_2_code_12 : decode prog_3_method_2_code 12 = .ok (.invokevirtual 33, 3) := by decide +kernel
theorem own_d_prog_3_method_2_code_15 : decode prog_3_method_2_code 15 = .ok (.lload_n 2, 1) := by decide +kernel
theorem own_d_prog_3_method_2_code_16 : decode prog_3_method_2_code 16 = .ok (.aload_n 0, 1) := by decide +kernel
theorem own_d_prog_3_method_2_code_17 : decode prog_3_method_2_code 17 = .ok (.getfield 7, 3) := by decide +kernel
theorem own_d_prog_3_method_2_code_20 : decode prog_3_method_2_code 20 = .ok (.lsub, 1) := by decide +kernel
theorem own_d_prog_3_method_2_code_21 : decode prog_3_method_2_code 21 = .ok (.lcmp, 1) := by decide +kernel
theorem own_d_prog_3_method_2_code_22 : decode prog_3_method_2_code 22 = .ok (.ifCond .gt 11, 3) := by decide +kernel
theorem own_d_prog_3_method_2_code_25 : decode prog_3_method_2_code 25 = .ok (.aload_n 0, 1) := by decide +kernel
theorem own_d_prog_3_method_2_code_26 : decode prog_3_method_2_code 26 = .ok (.iload_n 1, 1) := by decide +kernel
theorem own_d_prog_3_method_2_code_27 : decode prog_3_method_2_code 27 = .ok (.invokevirtual 37, 3) := by decide +kernel
theorem own_d_prog_3_method_2_code_30 : decode prog_3_method_2_code 30 = .ok (.goto (-30), 3) := by decide +kernel
theorem own_d_prog_3_method_2_code_33 : decode prog_3_method_2_code 33 = .ok (.aload_n 0, 1) := by decide +kernel
theorem own_d_prog_3_method_2_code_34 : decode prog_3_method_2_code 34 = .ok (.getfield 30, 3) := by decide +kernel
theorem own_d_prog_3_method_2_code_37 : decode prog_3_method_2_code 37 = .ok (.iload_n 1, 1) := by decide +kernel
theorem own_d_prog_3_method_2_code_38 : decode prog_3_method_2_code 38 = .ok (.iaload, 1) := by decide +kernel
theorem own_d_prog_3_method_2_code_39 : decode prog_3_method_2_code 39 = .ok (.aload_n 0, 1) := by decide +kernel
theorem own_d_prog_3_method_2_code_40 : decode prog_3_method_2_code 40 = .ok (.getfield 13, 3) := by decide +kernel
theorem own_d_prog_3_method_2_code_43 : decode prog_3_method_2_code 43 = .ok (.if_icmp .ne 11, 3) := by decide +kernel
theorem own_d_prog_3_method_2_code_46 : decode prog_3_method_2_code 46 = .ok (.aload_n 0, 1) := by decide +kernel
theorem own_d_prog_3_method_2_code_47 : decode prog_3_method_2_code 47 = .ok (.iload_n 1, 1) := by decide +kernel
theorem own_d_prog_3_method_2_code_48 : decode prog_3_method_2_code 48 = .ok (.invokevirtual 37, 3) := by decide +kernel
theorem own_d_prog_3_method_2_code_51 : decode prog_3_method_2_code 51 = .ok (.goto 22, 3) := by decide +kernel
theorem own_d_prog_3_method_2_code_54 : decode prog_3_method_2_code 54 = .ok (.aload_n 0, 1) := by decide +kernel
theorem own_d_prog_3_method_2_code_55 : decode prog_3_method_2_code 55 = .ok (.getfield 30, 3) := by decide +kernel
theorem own_d_prog_3_method_2_code_58 : decode prog_3_method_2_code 58 = .ok (.iload_n 1, 1) := by decide +kernel
theorem own_d_prog_3_method_2_code_59 : decode prog_3_method_2_code 59 = .ok (.iaload, 1) := by decide +kernel
theorem own_d_prog_3_method_2_code_60 : decode prog_3_method_2_code 60 = .ok (.aload_n 0, 1) := by decide +kernel
theorem own_d_prog_3_method_2_code_61 : decode prog_3_method_2_code 61 = .ok (.iload_n 1, 1) := by decide +kernel
theorem own_d_prog_3_method_2_code_62 : decode prog_3_method_2_code 62 = .ok (.invokevirtual 41, 3) := by decide +kernel
theorem own_d_prog_3_method_2_code_65 : decode prog_3_method_2_code 65 = .ok (.if_icmp .ne 8, 3) := by decide +kernel
theorem own_d_prog_3_method_2_code_68 : decode prog_3_method_2_code 68 = .ok (.aload_n 0, 1) := by decide +kernel
theorem own_d_prog_3_method_2_code_69 : decode prog_3_method_2_code 69 = .ok (.iload_n 1, 1) := by decide +kernel
theorem own_d_prog_3_method_2_code_70 : decode prog_3_method_2_code 70 = .ok (.invokevirtual 45, 3) := by decide +kernel
theorem own_d_prog_3_method_2_code_73 : decode prog_3_method_2_code 73 = .ok (.aload_n 0, 1) := by decide +kernel
theorem own_d_prog_3_method_2_code_74 : decode prog_3_method_2_code 74 = .ok (.iload_n 1, 1) := by decide +kernel
theorem own_d_prog_3_method_2_code_75 : decode prog_3_method_2_code 75 = .ok (.aload_n 0, 1) := by decide +kernel
theorem own_d_prog_3_method_2_code_76 : decode prog_3_method_2_code 76 = .ok (.getfield 30, 3) := by decide +kernel
theorem own_d_prog_3_method_2_code_79 : decode prog_3_method_2_code 79 = .ok (.iload_n 1, 1) := by decide +kernel
theorem own_d_prog_3_method_2_code_80 : decode prog_3_method_2_code 80 = .ok (.iaload, 1) := by decide +kernel
theorem own_d_prog_3_method_2_code_81 : decode prog_3_method_2_code 81 = .ok (.lload_n 2, 1) := by decide +kernel
theorem own_d_prog_3_method_2_code_82 : decode prog_3_method_2_code 82 = .ok (.invokevirtual 48, 3) := by decide +kernel
theorem own_d_prog_3_method_2_code_85 : decode prog_3_method_2_code 85 = .ok (.aload_n 0, 1) := by decide +kernel
theorem own_d_prog_3_method_2_code_86 : decode prog_3_method_2_code 86 = .ok (.getfield 30, 3) := by decide +kernel
theorem own_d_prog_3_method_2_code_89 : decode prog_3_method_2_code 89 = .ok (.iload_n 1, 1) := by decide +kernel
theorem own_d_prog_3_method_2_code_90 : decode prog_3_method_2_code 90 = .ok (.dup2, 1) := by decide +kernel
theorem own_d_prog_3_method_2_code_91 : decode prog_3_method_2_code 91 = .ok (.iaload, 1) := by decide +kernel
theorem own_d_prog_3_method_2_code_92 : decode prog_3_method_2_code 92 = .ok (.iconst 1, 1) := by decide +kernel
theorem own_d_prog_3_method_2_code_93 : decode prog_3_method_2_code 93 = .ok (.iadd, 1) := by decide +kernel
theorem own_d_prog_3_method_2_code_94 : decode prog_3_method_2_code 94 = .ok (.iastore, 1) := by decide +kernel
theorem own_d_prog_3_method_2_code_95 : decode prog_3_method_2_code 95 = .ok (.return_, 1) := by decide +kernel
theorem own_pn8 : plainFor (⟨"com/example/wache/wache/AttemptTimes", "add", "(IJ)V"⟩ : MethodName) = true := by decide +kernel
theorem own_pd4 : parseMethodDescriptor "(IIJ)V" = some ⟨[.int, .int, .long], none⟩ := by decide +kernel
theorem own_pd5 : parseMethodDescriptor "(I)V" = some ⟨[.int], none⟩ := by decide +kernel
def own_rm_add_Q (Z : State) (iv : Int32) (i : Nat) (a : Addr) (span : Int64) (cap : Int32) (sh : Addr) (ow : Addr) (hd : Addr) (sz : Addr) (ko : ClassId) (kh : ClassId) (ks : ClassId) (fw : Nat → Value) (fh : Nat → Int32) (fs : Nat → Int32) (fz : Nat → Int32) (fF : Nat → Nat → Int64) (x : Int64) (h0 : Heap) (n0 : Nat) (v : Option Value) (h : Heap) (L : List Loc) : Prop := ∃ fw2 : Nat → Value, ∃ fh2 : Nat → Int32, ∃ fs2 : Nat → Int32, ∃ fz2 : Nat → Int32, ∃ fF2 : Nat → Nat → Int64, Fr n0 L ∧ v = none ∧ own_AT Z h n0 a span cap sh ow hd sz ko kh ks fw2 fh2 fs2 fz2 fF2 ∧ own_WF cap (fh2 i) (fs2 i) (fz2 i) ∧ 1 ≤ (fs2 i).toInt ∧ fF2 i (own_idx (fh2 i) ((fs2 i) - (1 : Int32)) (fz2 i)).toNatClampNeg = x ∧ (∀ q, q ≠ i → fh2 q = fh q ∧ fs2 q = fs q ∧ fz2 q = fz q ∧ fF2 q = fF q)
theorem own_rm_add_ef (m : MethodId) (a : Addr) (iv : Int32) (x : Int64)  : entryFrame m #[(.ref a), (.int iv), (.long x)] 4 = mkF m 0 #[.val (.ref a), .val (.int iv), .val (.long x), .second] [] := by first | (simp [entryFrame, mkF, argsToLocals, Value.category]; done) | rfl
set_option maxRecDepth 65536 in
set_option maxHeartbeats 40000000 in
theorem own_rm_add (l : Launch) (Z : State) (a0 : Array Value) (hw : ∀ d ∈ tables_1, d.before a0 Z = true) (ws : List Jvm.Cond) (iv : Int32) (i : Nat) (a : Addr) (span : Int64) (cap : Int32) (sh : Addr) (ow : Addr) (hd : Addr) (sz : Addr) (ko : ClassId) (kh : ClassId) (ks : ClassId) (fw : Nat → Value) (fh : Nat → Int32) (fs : Nat → Int32) (fz : Nat → Int32) (fF : Nat → Nat → Int64) (x : Int64) (h0 : Heap) (n0 : Nat) (Z0 : n0 ≤ h0.size) (D : own_AT Z h0 n0 a span cap sh ow hd sz ko kh ks fw fh fs fz fF) (hi : own_I iv i) (wf : own_WF cap (fh i) (fs i) (fz i)) :
    MetFree l (⟨"com/example/wache/wache/AttemptTimes", "add", "(IJ)V"⟩ : MethodName) (head1 (Jvm.Cond.code (⟨"com/example/wache/wache/AttemptTimes", "add", "(IJ)V"⟩ : MethodName) prog_3_method_2_code 4 none :: ws) ({ frames := 4, cells := 1, slots := 5, locals := 64 } : Room)) (fun aQ UQ => aQ = #[(.ref a), (.int iv), (.long x)] ∧ Z.Warmed39 UQ.vm ∧ UQ.heap = h0) (fun _ _ _ _ _ => True) (fun _ UQ oQ U2 => ∃ vQ LQ, oQ = .returned vQ ∧ own_rm_add_Q Z iv i a span cap sh ow hd sz ko kh ks fw fh fs fz fF x h0 n0 vQ U2.heap LQ ∧ FrameEnd UQ oQ U2 LQ ({ frames := 4, cells := 1, slots := 5, locals := 64 } : Room).cells ({ frames := 4, cells := 1, slots := 5, locals := 64 } : Room).slots) := by
  refine MetFree.of_bodySF own_pn8 hisR ?_
  intro p e s m args below meth c s₁ Bd hml0 hP hK
  obtain ⟨rfl, hZ, hh⟩ := hP
  have hx := Bd.exec
  have hby := Bd.bytes
  have hml : c.maxLocals = 4 := hml0
  have hlk := BodyLoose.notSynchronized Bd
  have hown : s.vm.findClass "com/example/wache/wache/AttemptTimes" = some m.cls := findClass_of_methodNamed Bd.named
  have hnm := (name_of_methodNamed Bd.named Bd.method).1
  have X0 : Stand p l e ({ frames := 4, cells := 1, slots := 5, locals := 64 } : Room) s m #[(.ref a), (.int iv), (.long x)] below meth c s₁ [] 0 0 := Stand.of_body Bd
  have e0 : s₁.heap = h0 := by rw [← hh, Bd.state]; rfl
  have N0 := Fr.nil n0
  show own_Go p e below s (own_rm_add_Q Z iv i a span cap sh ow hd sz ko kh ks fw fh fs fz fF x h0 n0) ({ frames := 4, cells := 1, slots := 5, locals := 64 } : Room).cells ({ frames := 4, cells := 1, slots := 5, locals := 64 } : Room).slots (s₁.setTop (entryFrame m #[(.ref a), (.int iv), (.long x)] 4))
  rw [own_rm_add_ef]
  have fin : ∀ (T1 : State) (N1 : List Loc) (gw : Nat → Value) (gh gs gz : Nat → Int32) (gF : Nat → Nat → Int64), Stand p l e ({ frames := 4, cells := 1, slots := 5, locals := 64 } : Room) s m #[(.ref a), (.int iv), (.long x)] below meth c T1 N1 1 5 → Fr n0 N1 → own_AT Z T1.heap n0 a span cap sh ow hd sz ko kh ks gw gh gs gz gF → own_WF cap (gh i) (gs i) (gz i) → (gs i).toInt < (gz i).toInt → (∀ q, q ≠ i → gh q = fh q ∧ gs q = fs q ∧ gz q = fz q ∧ gF q = fF q) → own_Go p e below s (own_rm_add_Q Z iv i a span cap sh ow hd sz ko kh ks fw fh fs fz fF x h0 n0) ({ frames := 4, cells := 1, slots := 5, locals := 64 } : Room).cells ({ frames := 4, cells := 1, slots := 5, locals := 64 } : Room).slots (T1.setTop (mkF m 73 #[.val (.ref a), .val (.int iv), .val (.long x), .second] [])) := by
    intro T1 N1 gw gh gs gz gF X1 N2 D1 wf1 lt1 ho1
    have Z1 := D1.szle
    show own_Go p e below s _ _ _ (T1.setTop (mkF m 73 #[.val (.ref a), .val (.int iv), .val (.long x), .second] []))
    refine own_st (fun _ kQ => XS.aloadN X1.here hx rfl (hb hby own_d_prog_3_method_2_code_73) rfl rfl kQ) ?_
    show own_Go p e below s _ _ _ (T1.setTop (mkF m 74 #[.val (.ref a), .val (.int iv), .val (.long x), .second] [(.ref a)]))
    refine own_st (fun _ kQ => XS.iloadN X1.here hx rfl (hb hby own_d_prog_3_method_2_code_74) rfl kQ) ?_
    show own_Go p e below s _ _ _ (T1.setTop (mkF m 75 #[.val (.ref a), .val (.int iv), .val (.long x), .second] [(.int iv), (.ref a)]))
    refine own_st (fun _ kQ => XS.aloadN X1.here hx rfl (hb hby own_d_prog_3_method_2_code_75) rfl rfl kQ) ?_
    show own_Go p e below s _ _ _ (T1.setTop (mkF m 76 #[.val (.ref a), .val (.int iv), .val (.long x), .second] [(.ref a), (.int iv), (.ref a)]))
    have F310 : Fld Z T1.heap a "com/example/wache/wache/AttemptTimes" "sizes" "[I" (.ref sz) := D1.fsz
    obtain ⟨T311, X311, e311, st311⟩ := getF X1 hx hZ hown (host := "") (Or.inl (hw _ (List.mem_of_getElem? (i := 24) rfl))) Via.refl rfl F310 (g := (mkF m 76 #[.val (.ref a), .val (.int iv), .val (.long x), .second] [(.ref a), (.int iv), (.ref a)])) rfl rfl (hb hby own_d_prog_3_method_2_code_76)
    refine own_st st311 ?_
    show own_Go p e below s _ _ _ (T311.setTop (mkF m 79 #[.val (.ref a), .val (.int iv), .val (.long x), .second] [(.ref sz), (.int iv), (.ref a)]))
    refine own_st (fun _ kQ => XS.iloadN X311.here hx rfl (hb hby own_d_prog_3_method_2_code_79) rfl kQ) ?_
    show own_Go p e below s _ _ _ (T311.setTop (mkF m 80 #[.val (.ref a), .val (.int iv), .val (.long x), .second] [(.int iv), (.ref sz), (.int iv), (.ref a)]))
    have F312 : Arv Z T1.heap sz ks .int (2 : Int32) [(.int (gs 0)), (.int (gs 1))] (.int (0 : Int32)) := D1.vsz
    obtain ⟨cl313, Ar313, kc313, S313, Nn313, H313, G313⟩ := id F312
    have hin313 : ¬ (iv < 0 ∨ cl313.slots.size ≤ (iv : Int32).toNatClampNeg) := inb_of S313 (own_I.inb hi)
    have hat313 : cl313.slots[(iv : Int32).toNatClampNeg]? = some (.int (gs i)) := H313.at hin313 (own_I.getI hi gs _)
    refine own_st (fun _ kQ => X311.iaload hx (j := iv) (v := (.int (gs i))) (own_hp e311 Ar313.1) (State.isArrayOf_alike hZ.alike Ar313.2.1) Ar313.2.2 hin313 hat313 (g := (mkF m 80 #[.val (.ref a), .val (.int iv), .val (.long x), .second] [(.int iv), (.ref sz), (.int iv), (.ref a)])) rfl rfl (hb hby own_d_prog_3_method_2_code_80) _ kQ) ?_
    show own_Go p e below s _ _ _ (T311.setTop (mkF m 81 #[.val (.ref a), .val (.int iv), .val (.long x), .second] [(.int (gs i)), (.int iv), (.ref a)]))
    refine own_st (fun _ kQ => XT.lloadN X311.here hx rfl (hb hby own_d_prog_3_method_2_code_81) rfl kQ) ?_
    show own_Go p e below s _ _ _ (T311.setTop (mkF m 82 #[.val (.ref a), .val (.int iv), .val (.long x), .second] [(.long x), (.int (gs i)), (.int iv), (.ref a)]))
    have F315 : Exa Z T1.heap a "com/example/wache/wache/AttemptTimes" := D1.exa
    obtain ⟨cq314, q314, q314'⟩ := F315.cell
    obtain ⟨_, _, ⟨T314, L314, k314, n314⟩, -, X314, ⟨Lc314, hQ314, l314, y314, z314⟩, st314⟩ := X311.privateBack hx (y := (⟨"com/example/wache/wache/AttemptTimes", "put", "(IIJ)V"⟩ : MethodName)) hown (mvT hZ (hw _ (List.mem_of_getElem? (i := 35) rfl))) (mvT hZ (hw _ (List.mem_of_getElem? (i := 36) rfl))) (mvT hZ (own_selP (hw _ (List.mem_of_getElem? (i := 36) rfl)) (hw _ (List.mem_of_getElem? (i := 37) rfl)) (hw _ (List.mem_of_getElem? (i := 2) rfl)) (by decide))) (Cond.privateMethod_at (mvP hZ (hw _ (List.mem_of_getElem? (i := 37) rfl)) (args := #[]))) (mvT hZ (hw _ (List.mem_of_getElem? (i := 38) rfl))) (by decide) (backOf (W := 0) (own_rm_put l Z a0 hw [] iv i a span cap sh ow hd sz ko kh ks gw gh gs gz gF (gs i) x T1.heap n0 Z1 D1 hi (own_WF.idx wf1 wf1.2.2.2.2.1 lt1)) hZ (hw _ (List.mem_of_getElem? (i := 38) rfl)) (hw _ (List.mem_of_getElem? (i := 3) rfl)) (by decide) (by decide)) (g := (mkF m 82 #[.val (.ref a), .val (.int iv), .val (.long x), .second] [(.long x), (.int (gs i)), (.int iv), (.ref a)])) rfl (by rw [hml]; rfl) (Steps.refl _) (a := a) (own_hp e311 q314) q314' (argsL := [(.int iv), (.int (gs i)), (.long x)]) (rest := []) (lenOf own_pd4 rfl) rfl (by show 2 * 0 + _ ≤ _; exact Nat.le_of_eq rfl) (hb hby own_d_prog_3_method_2_code_82) (fun _ _ => ⟨rfl, e311, (by decide : 1 + 0 ≤ _), (by decide : 5 + 0 ≤ _)⟩)
    dsimp only [Pt.U, Pt.locs, Pt.cells, Pt.slots] at X314 l314 y314 z314 st314 hQ314
    subst l314 y314 z314
    obtain ⟨x316, N314q, rfl, q317, q318, q319, q320⟩ := hQ314
    have N321 := Fr.app N2 N314q
    refine own_tr st314 ?_
    have Zs322 : n0 ≤ T314.heap.size := q317.szle
    show own_Go p e below s _ _ _ (T314.setTop (mkF m 85 #[.val (.ref a), .val (.int iv), .val (.long x), .second] []))
    refine own_st (fun _ kQ => XS.aloadN X314.here hx rfl (hb hby own_d_prog_3_method_2_code_85) rfl rfl kQ) ?_
    show own_Go p e below s _ _ _ (T314.setTop (mkF m 86 #[.val (.ref a), .val (.int iv), .val (.long x), .second] [(.ref a)]))
    have F323 : Fld Z T314.heap a "com/example/wache/wache/AttemptTimes" "sizes" "[I" (.ref sz) := q317.fsz
    obtain ⟨T324, X324, e324, st324⟩ := getF X314 hx hZ hown (host := "") (Or.inl (hw _ (List.mem_of_getElem? (i := 24) rfl))) Via.refl rfl F323 (g := (mkF m 86 #[.val (.ref a), .val (.int iv), .val (.long x), .second] [(.ref a)])) rfl rfl (hb hby own_d_prog_3_method_2_code_86)
    refine own_st st324 ?_
    show own_Go p e below s _ _ _ (T324.setTop (mkF m 89 #[.val (.ref a), .val (.int iv), .val (.long x), .second] [(.ref sz)]))
    refine own_st (fun _ kQ => XS.iloadN X324.here hx rfl (hb hby own_d_prog_3_method_2_code_89) rfl kQ) ?_
    show own_Go p e below s _ _ _ (T324.setTop (mkF m 90 #[.val (.ref a), .val (.int iv), .val (.long x), .second] [(.int iv), (.ref sz)]))
    refine own_st (fun _ kQ => XT.dup2 X324.here hx rfl (hb hby own_d_prog_3_method_2_code_90) rfl rfl rfl kQ) ?_
    show own_Go p e below s _ _ _ (T324.setTop (mkF m 91 #[.val (.ref a), .val (.int iv), .val (.long x), .second] [(.int iv), (.ref sz), (.int iv), (.ref sz)]))
    have F325 : Arv Z T314.heap sz ks .int (2 : Int32) [(.int (gs 0)), (.int (gs 1))] (.int (0 : Int32)) := q317.vsz
    obtain ⟨cl326, Ar326, kc326, S326, Nn326, H326, G326⟩ := id F325
    have hin326 : ¬ (iv < 0 ∨ cl326.slots.size ≤ (iv : Int32).toNatClampNeg) := inb_of S326 (own_I.inb hi)
    have hat326 : cl326.slots[(iv : Int32).toNatClampNeg]? = some (.int (gs i)) := H326.at hin326 (own_I.getI hi gs _)
    refine own_st (fun _ kQ => X324.iaload hx (j := iv) (v := (.int (gs i))) (own_hp e324 Ar326.1) (State.isArrayOf_alike hZ.alike Ar326.2.1) Ar326.2.2 hin326 hat326 (g := (mkF m 91 #[.val (.ref a), .val (.int iv), .val (.long x), .second] [(.int iv), (.ref sz), (.int iv), (.ref sz)])) rfl rfl (hb hby own_d_prog_3_method_2_code_91) _ kQ) ?_
    show own_Go p e below s _ _ _ (T324.setTop (mkF m 92 #[.val (.ref a), .val (.int iv), .val (.long x), .second] [(.int (gs i)), (.int iv), (.ref sz)]))
    refine own_st (fun _ kQ => XT.iconstV X324.here hx rfl (1 : Int32) (hb hby own_d_prog_3_method_2_code_92) (by decide) kQ) ?_
    show own_Go p e below s _ _ _ (T324.setTop (mkF m 93 #[.val (.ref a), .val (.int iv), .val (.long x), .second] [(.int (1 : Int32)), (.int (gs i)), (.int iv), (.ref sz)]))
    refine own_st (fun _ kQ => XS.iadd X324.here hx rfl (hb hby own_d_prog_3_method_2_code_93) rfl kQ) ?_
    show own_Go p e below s _ _ _ (T324.setTop (mkF m 94 #[.val (.ref a), .val (.int iv), .val (.long x), .second] [(.int ((gs i) + (1 : Int32))), (.int iv), (.ref sz)]))
    have F328 : Arv Z T314.heap sz ks .int (2 : Int32) [(.int (gs 0)), (.int (gs 1))] (.int (0 : Int32)) := q317.vsz
    obtain ⟨cl327, Ar327, kc327, S327, Nn327, H327, G327⟩ := id F328
    have hin327 : ¬ (iv < 0 ∨ cl327.slots.size ≤ (iv : Int32).toNatClampNeg) := inb_of S327 (own_I.inb hi)
    obtain ⟨T327, h327, X327, e327, W327, st327⟩ := stI X324 hx hZ e324 Ar327 (j := iv) hin327 (g := (mkF m 94 #[.val (.ref a), .val (.int iv), .val (.long x), .second] [(.int ((gs i) + (1 : Int32))), (.int iv), (.ref sz)])) rfl rfl (hb hby own_d_prog_3_method_2_code_94)
    refine own_st st327 ?_
    have N329 := Fr.snoc X327 N321 q317.gs.2.2.2.2
    have D330 : own_AT Z h327 n0 a span cap sh ow hd sz ko kh ks gw gh (own_up gs i ((gs i) + (1 : Int32))) gz x316 := q317.setS hi W327
    have Zs331 : n0 ≤ h327.size := Nat.le_trans Zs322 (Nat.le_of_eq W327.size.symm)
    show own_Go p e below s _ _ _ (T327.setTop (mkF m 95 #[.val (.ref a), .val (.int iv), .val (.long x), .second] []))
    refine own_ret0 X327 hx hlk Bd.returns (hb hby own_d_prog_3_method_2_code_95) (by decide) (by decide) ?_
    rw [e327]
    exact ⟨gw, gh, (own_up gs i ((gs i) + (1 : Int32))), gz, x316, N329, rfl, D330, (by rw [own_up_same]; exact (own_WF.up wf1 lt1).1), (by rw [own_up_same]; exact (own_WF.up wf1 lt1).2), (by rw [own_up_same, show (gs i) + (1 : Int32) - (1 : Int32) = gs i from by simp]; exact q318), (fun q hq => ⟨(ho1 q hq).1, (own_up_ne hq).trans (ho1 q hq).2.1, (ho1 q hq).2.2.1, (q319 q hq).trans (ho1 q hq).2.2.2⟩)⟩
  have tail : ∀ (T1 : State) (N1 : List Loc) (gh gs : Nat → Int32), Stand p l e ({ frames := 4, cells := 1, slots := 5, locals := 64 } : Room) s m #[(.ref a), (.int iv), (.long x)] below meth c T1 N1 0 0 → Fr n0 N1 → own_AT Z T1.heap n0 a span cap sh ow hd sz ko kh ks fw gh gs fz fF → own_WF cap (gh i) (gs i) (fz i) → (∀ q, q ≠ i → gh q = fh q ∧ gs q = fs q) → own_Go p e below s (own_rm_add_Q Z iv i a span cap sh ow hd sz ko kh ks fw fh fs fz fF x h0 n0) ({ frames := 4, cells := 1, slots := 5, locals := 64 } : Room).cells ({ frames := 4, cells := 1, slots := 5, locals := 64 } : Room).slots (T1.setTop (mkF m 33 #[.val (.ref a), .val (.int iv), .val (.long x), .second] [])) := by
    intro T1 N1 gh gs X1 N2 D1 wf1 ho1
    have Z1 := D1.szle
    show own_Go p e below s _ _ _ (T1.setTop (mkF m 33 #[.val (.ref a), .val (.int iv), .val (.long x), .second] []))
    refine own_st (fun _ kQ => XS.aloadN X1.here hx rfl (hb hby own_d_prog_3_method_2_code_33) rfl rfl kQ) ?_
    show own_Go p e below s _ _ _ (T1.setTop (mkF m 34 #[.val (.ref a), .val (.int iv), .val (.long x), .second] [(.ref a)]))
    have F332 : Fld Z T1.heap a "com/example/wache/wache/AttemptTimes" "sizes" "[I" (.ref sz) := D1.fsz
    obtain ⟨T333, X333, e333, st333⟩ := getF X1 hx hZ hown (host := "") (Or.inl (hw _ (List.mem_of_getElem? (i := 24) rfl))) Via.refl rfl F332 (g := (mkF m 34 #[.val (.ref a), .val (.int iv), .val (.long x), .second] [(.ref a)])) rfl rfl (hb hby own_d_prog_3_method_2_code_34)
    refine own_st st333 ?_
    show own_Go p e below s _ _ _ (T333.setTop (mkF m 37 #[.val (.ref a), .val (.int iv), .val (.long x), .second] [(.ref sz)]))
    refine own_st (fun _ kQ => XS.iloadN X333.here hx rfl (hb hby own_d_prog_3_method_2_code_37) rfl kQ) ?_
    show own_Go p e below s _ _ _ (T333.setTop (mkF m 38 #[.val (.ref a), .val (.int iv), .val (.long x), .second] [(.int iv), (.ref sz)]))
    have F334 : Arv Z T1.heap sz ks .int (2 : Int32) [(.int (gs 0)), (.int (gs 1))] (.int (0 : Int32)) := D1.vsz
    obtain ⟨cl335, Ar335, kc335, S335, Nn335, H335, G335⟩ := id F334
    have hin335 : ¬ (iv < 0 ∨ cl335.slots.size ≤ (iv : Int32).toNatClampNeg) := inb_of S335 (own_I.inb hi)
    have hat335 : cl335.slots[(iv : Int32).toNatClampNeg]? = some (.int (gs i)) := H335.at hin335 (own_I.getI hi gs _)
    refine own_st (fun _ kQ => X333.iaload hx (j := iv) (v := (.int (gs i))) (own_hp e333 Ar335.1) (State.isArrayOf_alike hZ.alike Ar335.2.1) Ar335.2.2 hin335 hat335 (g := (mkF m 38 #[.val (.ref a), .val (.int iv), .val (.long x), .second] [(.int iv), (.ref sz)])) rfl rfl (hb hby own_d_prog_3_method_2_code_38) _ kQ) ?_
    show own_Go p e below s _ _ _ (T333.setTop (mkF m 39 #[.val (.ref a), .val (.int iv), .val (.long x), .second] [(.int (gs i))]))
    refine own_st (fun _ kQ => XS.aloadN X333.here hx rfl (hb hby own_d_prog_3_method_2_code_39) rfl rfl kQ) ?_
    show own_Go p e below s _ _ _ (T333.setTop (mkF m 40 #[.val (.ref a), .val (.int iv), .val (.long x), .second] [(.ref a), (.int (gs i))]))
    have F336 : Fld Z T1.heap a "com/example/wache/wache/AttemptTimes" "capacity" "I" (.int cap) := D1.fcap
    obtain ⟨T337, X337, e337, st337⟩ := getF X333 hx hZ hown (host := "") (Or.inl (hw _ (List.mem_of_getElem? (i := 12) rfl))) Via.refl e333 F336 (g := (mkF m 40 #[.val (.ref a), .val (.int iv), .val (.long x), .second] [(.ref a), (.int (gs i))])) rfl rfl (hb hby own_d_prog_3_method_2_code_40)
    refine own_st st337 ?_
    show own_Go p e below s _ _ _ (T337.setTop (mkF m 43 #[.val (.ref a), .val (.int iv), .val (.long x), .second] [(.int cap), (.int (gs i))]))
    by_cases hc338 : (gs i) = cap
    · refine own_st (fun _ kQ => XS.icmpNo X337.here hx rfl (hb hby own_d_prog_3_method_2_code_43) rfl (XT.ii_ne_f hc338) kQ) ?_
      show own_Go p e below s _ _ _ (T337.setTop (mkF m 46 #[.val (.ref a), .val (.int iv), .val (.long x), .second] []))
      refine own_st (fun _ kQ => XS.aloadN X337.here hx rfl (hb hby own_d_prog_3_method_2_code_46) rfl rfl kQ) ?_
      show own_Go p e below s _ _ _ (T337.setTop (mkF m 47 #[.val (.ref a), .val (.int iv), .val (.long x), .second] [(.ref a)]))
      refine own_st (fun _ kQ => XS.iloadN X337.here hx rfl (hb hby own_d_prog_3_method_2_code_47) rfl kQ) ?_
      show own_Go p e below s _ _ _ (T337.setTop (mkF m 48 #[.val (.ref a), .val (.int iv), .val (.long x), .second] [(.int iv), (.ref a)]))
      have F340 : Exa Z T1.heap a "com/example/wache/wache/AttemptTimes" := D1.exa
      obtain ⟨cq339, q339, q339'⟩ := F340.cell
      obtain ⟨_, _, ⟨T339, L339, k339, n339⟩, -, X339, ⟨Lc339, hQ339, l339, y339, z339⟩, st339⟩ := X337.privateBack hx (y := (⟨"com/example/wache/wache/AttemptTimes", "dropOldest", "(I)V"⟩ : MethodName)) hown (mvT hZ (hw _ (List.mem_of_getElem? (i := 72) rfl))) (mvT hZ (hw _ (List.mem_of_getElem? (i := 73) rfl))) (mvT hZ (own_selP (hw _ (List.mem_of_getElem? (i := 73) rfl)) (hw _ (List.mem_of_getElem? (i := 74) rfl)) (hw _ (List.mem_of_getElem? (i := 2) rfl)) (by decide))) (Cond.privateMethod_at (mvP hZ (hw _ (List.mem_of_getElem? (i := 74) rfl)) (args := #[]))) (mvT hZ (hw _ (List.mem_of_getElem? (i := 75) rfl))) (by decide) (backOf (W := 0) (own_rm_drop l Z a0 hw [] iv i a span cap sh ow hd sz ko kh ks fw gh gs fz fF T1.heap n0 Z1 D1 hi wf1.nz) hZ (hw _ (List.mem_of_getElem? (i := 75) rfl)) (hw _ (List.mem_of_getElem? (i := 3) rfl)) (by decide) (by decide)) (g := (mkF m 48 #[.val (.ref a), .val (.int iv), .val (.long x), .second] [(.int iv), (.ref a)])) rfl (by rw [hml]; rfl) (Steps.refl _) (a := a) (own_hp e337 q339) q339' (argsL := [(.int iv)]) (rest := []) (lenOf own_pd5 rfl) rfl (by show 2 * 0 + _ ≤ _; exact Nat.le_of_eq rfl) (hb hby own_d_prog_3_method_2_code_48) (fun _ _ => ⟨rfl, e337, (by decide : 0 + 0 ≤ _), (by decide : 0 + 0 ≤ _)⟩)
      dsimp only [Pt.U, Pt.locs, Pt.cells, Pt.slots] at X339 l339 y339 z339 st339 hQ339
      subst l339 y339 z339
      obtain ⟨x341, x342, N339q, rfl, q343, q344, q345, q346⟩ := hQ339
      have N347 := Fr.app N2 N339q
      refine own_tr st339 ?_
      have Zs348 : n0 ≤ T339.heap.size := q343.szle
      show own_Go p e below s _ _ _ (T339.setTop (mkF m 51 #[.val (.ref a), .val (.int iv), .val (.long x), .second] []))
      refine own_st (fun _ kQ => XS.goto X339.here hx rfl (pc0 := 51) (pc' := 73) rfl (hb hby own_d_prog_3_method_2_code_51) (by decide) (by decide) kQ) ?_
      show own_Go p e below s _ _ _ (T339.setTop (mkF m 73 #[.val (.ref a), .val (.int iv), .val (.long x), .second] []))
      have full1 : 1 ≤ (gs i).toInt := by rw [hc338]; exact Int.le_trans (by decide) (Int.le_trans wf1.2.2.1 wf1.2.2.2.1)
      exact fin _ _ fw x341 x342 fz fF (X339.more (by decide) (by decide)) N347 q343 (by rw [q344, q345]; exact wf1.drop full1) (by rw [q345, own_sub1 full1]; have q := wf1.2.2.2.2.2.1; omega) (fun q hq => ⟨(q346 q hq).1.trans (ho1 q hq).1, (q346 q hq).2.trans (ho1 q hq).2, rfl, rfl⟩)
    · refine own_st (fun _ kQ => XS.icmpYes X337.here hx rfl (pc0 := 43) (pc' := 54) rfl (hb hby own_d_prog_3_method_2_code_43) rfl (XT.ii_ne_t hc338) (by decide) (by decide) kQ) ?_
      show own_Go p e below s _ _ _ (T337.setTop (mkF m 54 #[.val (.ref a), .val (.int iv), .val (.long x), .second] []))
      refine own_st (fun _ kQ => XS.aloadN X337.here hx rfl (hb hby own_d_prog_3_method_2_code_54) rfl rfl kQ) ?_
      show own_Go p e below s _ _ _ (T337.setTop (mkF m 55 #[.val (.ref a), .val (.int iv), .val (.long x), .second] [(.ref a)]))
      have F349 : Fld Z T1.heap a "com/example/wache/wache/AttemptTimes" "sizes" "[I" (.ref sz) := D1.fsz
      obtain ⟨T350, X350, e350, st350⟩ := getF X337 hx hZ hown (host := "") (Or.inl (hw _ (List.mem_of_getElem? (i := 24) rfl))) Via.refl e337 F349 (g := (mkF m 55 #[.val (.ref a), .val (.int iv), .val (.long x), .second] [(.ref a)])) rfl rfl (hb hby own_d_prog_3_method_2_code_55)
      refine own_st st350 ?_
      show own_Go p e below s _ _ _ (T350.setTop (mkF m 58 #[.val (.ref a), .val (.int iv), .val (.long x), .second] [(.ref sz)]))
      refine own_st (fun _ kQ => XS.iloadN X350.here hx rfl (hb hby own_d_prog_3_method_2_code_58) rfl kQ) ?_
      show own_Go p e below s _ _ _ (T350.setTop (mkF m 59 #[.val (.ref a), .val (.int iv), .val (.long x), .second] [(.int iv), (.ref sz)]))
      have F351 : Arv Z T1.heap sz ks .int (2 : Int32) [(.int (gs 0)), (.int (gs 1))] (.int (0 : Int32)) := D1.vsz
      obtain ⟨cl352, Ar352, kc352, S352, Nn352, H352, G352⟩ := id F351
      have hin352 : ¬ (iv < 0 ∨ cl352.slots.size ≤ (iv : Int32).toNatClampNeg) := inb_of S352 (own_I.inb hi)
      have hat352 : cl352.slots[(iv : Int32).toNatClampNeg]? = some (.int (gs i)) := H352.at hin352 (own_I.getI hi gs _)
      refine own_st (fun _ kQ => X350.iaload hx (j := iv) (v := (.int (gs i))) (own_hp e350 Ar352.1) (State.isArrayOf_alike hZ.alike Ar352.2.1) Ar352.2.2 hin352 hat352 (g := (mkF m 59 #[.val (.ref a), .val (.int iv), .val (.long x), .second] [(.int iv), (.ref sz)])) rfl rfl (hb hby own_d_prog_3_method_2_code_59) _ kQ) ?_
      show own_Go p e below s _ _ _ (T350.setTop (mkF m 60 #[.val (.ref a), .val (.int iv), .val (.long x), .second] [(.int (gs i))]))
      refine own_st (fun _ kQ => XS.aloadN X350.here hx rfl (hb hby own_d_prog_3_method_2_code_60) rfl rfl kQ) ?_
      show own_Go p e below s _ _ _ (T350.setTop (mkF m 61 #[.val (.ref a), .val (.int iv), .val (.long x), .second] [(.ref a), (.int (gs i))]))
      refine own_st (fun _ kQ => XS.iloadN X350.here hx rfl (hb hby own_d_prog_3_method_2_code_61) rfl kQ) ?_
      show own_Go p e below s _ _ _ (T350.setTop (mkF m 62 #[.val (.ref a), .val (.int iv), .val (.long x), .second] [(.int iv), (.ref a), (.int (gs i))]))
      have F354 : Exa Z T1.heap a "com/example/wache/wache/AttemptTimes" := D1.exa
      obtain ⟨cq353, q353, q353'⟩ := F354.cell
      obtain ⟨_, _, ⟨T353, L353, k353, n353⟩, -, X353, ⟨Lc353, hQ353, l353, y353, z353⟩, st353⟩ := X350.privateBack hx (y := (⟨"com/example/wache/wache/AttemptTimes", "length", "(I)I"⟩ : MethodName)) hown (mvT hZ (hw _ (List.mem_of_getElem? (i := 31) rfl))) (mvT hZ (hw _ (List.mem_of_getElem? (i := 32) rfl))) (mvT hZ (own_selP (hw _ (List.mem_of_getElem? (i := 32) rfl)) (hw _ (List.mem_of_getElem? (i := 33) rfl)) (hw _ (List.mem_of_getElem? (i := 2) rfl)) (by decide))) (Cond.privateMethod_at (mvP hZ (hw _ (List.mem_of_getElem? (i := 33) rfl)) (args := #[]))) (mvT hZ (hw _ (List.mem_of_getElem? (i := 34) rfl))) (by decide) (backOf (W := 1) (own_rm_length l Z a0 hw [] iv i a span cap sh ow hd sz ko kh ks fw gh gs fz fF T1.heap n0 Z1 D1 hi) hZ (hw _ (List.mem_of_getElem? (i := 34) rfl)) (hw _ (List.mem_of_getElem? (i := 3) rfl)) (by decide) (by decide)) (g := (mkF m 62 #[.val (.ref a), .val (.int iv), .val (.long x), .second] [(.int iv), (.ref a), (.int (gs i))])) rfl (by rw [hml]; rfl) (Steps.refl _) (a := a) (own_hp e350 q353) q353' (argsL := [(.int iv)]) (rest := [(.int (gs i))]) (lenOf own_pd0 rfl) rfl (by show 2 * 0 + _ ≤ _; exact Nat.le_of_eq rfl) (hb hby own_d_prog_3_method_2_code_62) (fun _ _ => ⟨rfl, e350, (by decide : 0 + 0 ≤ _), (by decide : 0 + 0 ≤ _)⟩)
      dsimp only [Pt.U, Pt.locs, Pt.cells, Pt.slots] at X353 l353 y353 z353 st353 hQ353
      subst l353 y353 z353
      obtain ⟨N353q, rfl, eh353⟩ := hQ353
      have N355 := Fr.app N2 N353q
      refine own_tr st353 ?_
      show own_Go p e below s _ _ _ (T353.setTop (mkF m 65 #[.val (.ref a), .val (.int iv), .val (.long x), .second] [(.int (fz i)), (.int (gs i))]))
      by_cases hc356 : (gs i) = (fz i)
      · refine own_st (fun _ kQ => XS.icmpNo X353.here hx rfl (hb hby own_d_prog_3_method_2_code_65) rfl (XT.ii_ne_f hc356) kQ) ?_
        show own_Go p e below s _ _ _ (T353.setTop (mkF m 68 #[.val (.ref a), .val (.int iv), .val (.long x), .second] []))
        refine own_st (fun _ kQ => XS.aloadN X353.here hx rfl (hb hby own_d_prog_3_method_2_code_68) rfl rfl kQ) ?_
        show own_Go p e below s _ _ _ (T353.setTop (mkF m 69 #[.val (.ref a), .val (.int iv), .val (.long x), .second] [(.ref a)]))
        refine own_st (fun _ kQ => XS.iloadN X353.here hx rfl (hb hby own_d_prog_3_method_2_code_69) rfl kQ) ?_
        show own_Go p e below s _ _ _ (T353.setTop (mkF m 70 #[.val (.ref a), .val (.int iv), .val (.long x), .second] [(.int iv), (.ref a)]))
        have F358 : Exa Z T1.heap a "com/example/wache/wache/AttemptTimes" := D1.exa
        obtain ⟨cq357, q357, q357'⟩ := F358.cell
        obtain ⟨_, _, ⟨T357, L357, k357, n357⟩, -, X357, ⟨Lc357, hQ357, l357, y357, z357⟩, st357⟩ := X353.privateBack hx (y := (⟨"com/example/wache/wache/AttemptTimes", "grow", "(I)V"⟩ : MethodName)) hown (mvT hZ (hw _ (List.mem_of_getElem? (i := 76) rfl))) (mvT hZ (hw _ (List.mem_of_getElem? (i := 77) rfl))) (mvT hZ (own_selP (hw _ (List.mem_of_getElem? (i := 77) rfl)) (hw _ (List.mem_of_getElem? (i := 78) rfl)) (hw _ (List.mem_of_getElem? (i := 2) rfl)) (by decide))) (Cond.privateMethod_at (mvP hZ (hw _ (List.mem_of_getElem? (i := 78) rfl)) (args := #[]))) (mvT hZ (hw _ (List.mem_of_getElem? (i := 79) rfl))) (by decide) (backOf (W := 0) (own_rm_grow l Z a0 hw [] iv i a span cap sh ow hd sz ko kh ks fw gh gs fz fF T1.heap n0 Z1 D1 hi wf1 hc356 hc338) hZ (hw _ (List.mem_of_getElem? (i := 79) rfl)) (hw _ (List.mem_of_getElem? (i := 3) rfl)) (by decide) (by decide)) (g := (mkF m 70 #[.val (.ref a), .val (.int iv), .val (.long x), .second] [(.int iv), (.ref a)])) rfl (by rw [hml]; rfl) (Steps.refl _) (a := a) (own_hp eh353 q357) q357' (argsL := [(.int iv)]) (rest := []) (lenOf own_pd5 rfl) rfl (by show 2 * 0 + _ ≤ _; exact Nat.le_of_eq rfl) (hb hby own_d_prog_3_method_2_code_70) (fun _ _ => ⟨rfl, eh353, (by decide : 0 + 1 ≤ _), (by decide : 0 + 5 ≤ _)⟩)
        dsimp only [Pt.U, Pt.locs, Pt.cells, Pt.slots] at X357 l357 y357 z357 st357 hQ357
        subst l357 y357 z357
        obtain ⟨x359, x360, x361, x362, N357q, rfl, q363, q364, q365, q366⟩ := hQ357
        have N367 := Fr.app N355 N357q
        refine own_tr st357 ?_
        have Zs368 : n0 ≤ T357.heap.size := q363.szle
        show own_Go p e below s _ _ _ (T357.setTop (mkF m 73 #[.val (.ref a), .val (.int iv), .val (.long x), .second] []))
        exact fin _ _ x359 x360 gs x361 x362 X357 N367 q363 (by rw [q364]; have q := wf1; obtain ⟨a1, a2, a3, a4, a5, a6, a7⟩ := q; have e0 : (0 : Int32).toInt = 0 := (by decide); exact ⟨by omega, by omega, by omega, q365.2, a5, by omega, a7⟩) (by rw [hc356]; exact q365.1) (fun q hq => ⟨(q366 q hq).1.trans (ho1 q hq).1, (ho1 q hq).2, (q366 q hq).2.1, (q366 q hq).2.2⟩)
      · refine own_st (fun _ kQ => XS.icmpYes X353.here hx rfl (pc0 := 65) (pc' := 73) rfl (hb hby own_d_prog_3_method_2_code_65) rfl (XT.ii_ne_t hc356) (by decide) (by decide) kQ) ?_
        show own_Go p e below s _ _ _ (T353.setTop (mkF m 73 #[.val (.ref a), .val (.int iv), .val (.long x), .second] []))
        exact fin _ _ fw gh gs fz fF (X353.more (by decide) (by decide)) N355 (by rw [eh353]; exact D1) wf1 (by have q := wf1.2.2.2.2.2.1; have r : (gs i).toInt ≠ (fz i).toInt := fun t => hc356 (Int32.toInt_inj.mp t); omega) (fun q hq => ⟨(ho1 q hq).1, (ho1 q hq).2, rfl, rfl⟩)
  have loop : ∀ (k : Nat) (T1 : State) (N1 : List Loc) (gh gs : Nat → Int32), Stand p l e ({ frames := 4, cells := 1, slots := 5, locals := 64 } : Room) s m #[(.ref a), (.int iv), (.long x)] below meth c T1 N1 0 0 → Fr n0 N1 → own_AT Z T1.heap n0 a span cap sh ow hd sz ko kh ks fw gh gs fz fF → own_WF cap (gh i) (gs i) (fz i) → (gs i).toInt = k → (∀ q, q ≠ i → gh q = fh q ∧ gs q = fs q) → own_Go p e below s (own_rm_add_Q Z iv i a span cap sh ow hd sz ko kh ks fw fh fs fz fF x h0 n0) ({ frames := 4, cells := 1, slots := 5, locals := 64 } : Room).cells ({ frames := 4, cells := 1, slots := 5, locals := 64 } : Room).slots (T1.setTop (mkF m 0 #[.val (.ref a), .val (.int iv), .val (.long x), .second] [])) := by
    intro k
    induction k with
    | zero =>
      intro T1 N1 gh gs X1 N2 D1 wf1 hk1 ho1
      have Z1 := D1.szle
      have hz1 : ¬ 0 < (gs i) := by rw [Int32.lt_iff_toInt_lt]; have e0 : (0 : Int32).toInt = 0 := (by decide); omega
      show own_Go p e below s _ _ _ (T1.setTop (mkF m 0 #[.val (.ref a), .val (.int iv), .val (.long x), .second] []))
      refine own_st (fun _ kQ => XS.aloadN X1.here hx rfl (hb hby own_d_prog_3_method_2_code_0) rfl rfl kQ) ?_
      show own_Go p e below s _ _ _ (T1.setTop (mkF m 1 #[.val (.ref a), .val (.int iv), .val (.long x), .second] [(.ref a)]))
      have F369 : Fld Z T1.heap a "com/example/wache/wache/AttemptTimes" "sizes" "[I" (.ref sz) := D1.fsz
      obtain ⟨T370, X370, e370, st370⟩ := getF X1 hx hZ hown (host := "") (Or.inl (hw _ (List.mem_of_getElem? (i := 24) rfl))) Via.refl rfl F369 (g := (mkF m 1 #[.val (.ref a), .val (.int iv), .val (.long x), .second] [(.ref a)])) rfl rfl (hb hby own_d_prog_3_method_2_code_1)
      refine own_st st370 ?_
      show own_Go p e below s _ _ _ (T370.setTop (mkF m 4 #[.val (.ref a), .val (.int iv), .val (.long x), .second] [(.ref sz)]))
      refine own_st (fun _ kQ => XS.iloadN X370.here hx rfl (hb hby own_d_prog_3_method_2_code_4) rfl kQ) ?_
      show own_Go p e below s _ _ _ (T370.setTop (mkF m 5 #[.val (.ref a), .val (.int iv), .val (.long x), .second] [(.int iv), (.ref sz)]))
      have F371 : Arv Z T1.heap sz ks .int (2 : Int32) [(.int (gs 0)), (.int (gs 1))] (.int (0 : Int32)) := D1.vsz
      obtain ⟨cl372, Ar372, kc372, S372, Nn372, H372, G372⟩ := id F371
      have hin372 : ¬ (iv < 0 ∨ cl372.slots.size ≤ (iv : Int32).toNatClampNeg) := inb_of S372 (own_I.inb hi)
      have hat372 : cl372.slots[(iv : Int32).toNatClampNeg]? = some (.int (gs i)) := H372.at hin372 (own_I.getI hi gs _)
      refine own_st (fun _ kQ => X370.iaload hx (j := iv) (v := (.int (gs i))) (own_hp e370 Ar372.1) (State.isArrayOf_alike hZ.alike Ar372.2.1) Ar372.2.2 hin372 hat372 (g := (mkF m 5 #[.val (.ref a), .val (.int iv), .val (.long x), .second] [(.int iv), (.ref sz)])) rfl rfl (hb hby own_d_prog_3_method_2_code_5) _ kQ) ?_
      show own_Go p e below s _ _ _ (T370.setTop (mkF m 6 #[.val (.ref a), .val (.int iv), .val (.long x), .second] [(.int (gs i))]))
      refine own_st (fun _ kQ => XS.ifYes X370.here hx rfl (pc0 := 6) (pc' := 33) rfl (hb hby own_d_prog_3_method_2_code_6) rfl (XT.i0_le_t hz1) (by decide) (by decide) kQ) ?_
      show own_Go p e below s _ _ _ (T370.setTop (mkF m 33 #[.val (.ref a), .val (.int iv), .val (.long x), .second] []))
      exact tail _ _ gh gs X370 N2 (by rw [e370]; exact D1) wf1 ho1
    | succ k ih =>
      intro T1 N1 gh gs X1 N2 D1 wf1 hk1 ho1
      have Z1 := D1.szle
      have hz1 : 0 < (gs i) := by rw [Int32.lt_iff_toInt_lt]; have e0 : (0 : Int32).toInt = 0 := (by decide); omega
      have hz2 : 1 ≤ (gs i).toInt := by omega
      show own_Go p e below s _ _ _ (T1.setTop (mkF m 0 #[.val (.ref a), .val (.int iv), .val (.long x), .second] []))
      refine own_st (fun _ kQ => XS.aloadN X1.here hx rfl (hb hby own_d_prog_3_method_2_code_0) rfl rfl kQ) ?_
      show own_Go p e below s _ _ _ (T1.setTop (mkF m 1 #[.val (.ref a), .val (.int iv), .val (.long x), .second] [(.ref a)]))
      have F373 : Fld Z T1.heap a "com/example/wache/wache/AttemptTimes" "sizes" "[I" (.ref sz) := D1.fsz
      obtain ⟨T374, X374, e374, st374⟩ := getF X1 hx hZ hown (host := "") (Or.inl (hw _ (List.mem_of_getElem? (i := 24) rfl))) Via.refl rfl F373 (g := (mkF m 1 #[.val (.ref a), .val (.int iv), .val (.long x), .second] [(.ref a)])) rfl rfl (hb hby own_d_prog_3_method_2_code_1)
      refine own_st st374 ?_
      show own_Go p e below s _ _ _ (T374.setTop (mkF m 4 #[.val (.ref a), .val (.int iv), .val (.long x), .second] [(.ref sz)]))
      refine own_st (fun _ kQ => XS.iloadN X374.here hx rfl (hb hby own_d_prog_3_method_2_code_4) rfl kQ) ?_
      show own_Go p e below s _ _ _ (T374.setTop (mkF m 5 #[.val (.ref a), .val (.int iv), .val (.long x), .second] [(.int iv), (.ref sz)]))
      have F375 : Arv Z T1.heap sz ks .int (2 : Int32) [(.int (gs 0)), (.int (gs 1))] (.int (0 : Int32)) := D1.vsz
      obtain ⟨cl376, Ar376, kc376, S376, Nn376, H376, G376⟩ := id F375
      have hin376 : ¬ (iv < 0 ∨ cl376.slots.size ≤ (iv : Int32).toNatClampNeg) := inb_of S376 (own_I.inb hi)
      have hat376 : cl376.slots[(iv : Int32).toNatClampNeg]? = some (.int (gs i)) := H376.at hin376 (own_I.getI hi gs _)
      refine own_st (fun _ kQ => X374.iaload hx (j := iv) (v := (.int (gs i))) (own_hp e374 Ar376.1) (State.isArrayOf_alike hZ.alike Ar376.2.1) Ar376.2.2 hin376 hat376 (g := (mkF m 5 #[.val (.ref a), .val (.int iv), .val (.long x), .second] [(.int iv), (.ref sz)])) rfl rfl (hb hby own_d_prog_3_method_2_code_5) _ kQ) ?_
      show own_Go p e below s _ _ _ (T374.setTop (mkF m 6 #[.val (.ref a), .val (.int iv), .val (.long x), .second] [(.int (gs i))]))
      refine own_st (fun _ kQ => XS.ifNo X374.here hx rfl (hb hby own_d_prog_3_method_2_code_6) rfl (XT.i0_le_f hz1) kQ) ?_
      show own_Go p e below s _ _ _ (T374.setTop (mkF m 9 #[.val (.ref a), .val (.int iv), .val (.long x), .second] []))
      refine own_st (fun _ kQ => XS.aloadN X374.here hx rfl (hb hby own_d_prog_3_method_2_code_9) rfl rfl kQ) ?_
      show own_Go p e below s _ _ _ (T374.setTop (mkF m 10 #[.val (.ref a), .val (.int iv), .val (.long x), .second] [(.ref a)]))
      refine own_st (fun _ kQ => XS.iloadN X374.here hx rfl (hb hby own_d_prog_3_method_2_code_10) rfl kQ) ?_
      show own_Go p e below s _ _ _ (T374.setTop (mkF m 11 #[.val (.ref a), .val (.int iv), .val (.long x), .second] [(.int iv), (.ref a)]))
      refine own_st (fun _ kQ => XT.iconstV X374.here hx rfl (0 : Int32) (hb hby own_d_prog_3_method_2_code_11) (by decide) kQ) ?_
      show own_Go p e below s _ _ _ (T374.setTop (mkF m 12 #[.val (.ref a), .val (.int iv), .val (.long x), .second] [(.int (0 : Int32)), (.int iv), (.ref a)]))
      have F378 : Exa Z T1.heap a "com/example/wache/wache/AttemptTimes" := D1.exa
      obtain ⟨cq377, q377, q377'⟩ := F378.cell
      obtain ⟨_, _, ⟨T377, L377, k377, n377⟩, -, X377, ⟨Lc377, hQ377, l377, y377, z377⟩, st377⟩ := X374.privateBack hx (y := (⟨"com/example/wache/wache/AttemptTimes", "get", "(II)J"⟩ : MethodName)) hown (mvT hZ (hw _ (List.mem_of_getElem? (i := 48) rfl))) (mvT hZ (hw _ (List.mem_of_getElem? (i := 49) rfl))) (mvT hZ (own_selP (hw _ (List.mem_of_getElem? (i := 49) rfl)) (hw _ (List.mem_of_getElem? (i := 50) rfl)) (hw _ (List.mem_of_getElem? (i := 2) rfl)) (by decide))) (Cond.privateMethod_at (mvP hZ (hw _ (List.mem_of_getElem? (i := 50) rfl)) (args := #[]))) (mvT hZ (hw _ (List.mem_of_getElem? (i := 51) rfl))) (by decide) (backOf (W := 0) (own_rm_get l Z a0 hw [] iv i a span cap sh ow hd sz ko kh ks fw gh gs fz fF (0 : Int32) T1.heap n0 Z1 D1 hi (own_WF.idx wf1 (k := (0 : Int32)) (by decide) (by have e0 : (0 : Int32).toInt = 0 := (by decide); have q := wf1.2.2.1; omega))) hZ (hw _ (List.mem_of_getElem? (i := 51) rfl)) (hw _ (List.mem_of_getElem? (i := 3) rfl)) (by decide) (by decide)) (g := (mkF m 12 #[.val (.ref a), .val (.int iv), .val (.long x), .second] [(.int (0 : Int32)), (.int iv), (.ref a)])) rfl (by rw [hml]; rfl) (Steps.refl _) (a := a) (own_hp e374 q377) q377' (argsL := [(.int iv), (.int (0 : Int32))]) (rest := []) (lenOf own_pd2 rfl) rfl (by show 2 * 0 + _ ≤ _; exact Nat.le_of_eq rfl) (hb hby own_d_prog_3_method_2_code_12) (fun _ _ => ⟨rfl, e374, (by decide : 0 + 0 ≤ _), (by decide : 0 + 0 ≤ _)⟩)
      dsimp only [Pt.U, Pt.locs, Pt.cells, Pt.slots] at X377 l377 y377 z377 st377 hQ377
      subst l377 y377 z377
      obtain ⟨N377q, rfl, eh377⟩ := hQ377
      have N379 := Fr.app N2 N377q
      refine own_tr st377 ?_
      show own_Go p e below s _ _ _ (T377.setTop (mkF m 15 #[.val (.ref a), .val (.int iv), .val (.long x), .second] [(.long (fF i (own_idx (gh i) (0 : Int32) (fz i)).toNatClampNeg))]))
      refine own_st (fun _ kQ => XT.lloadN X377.here hx rfl (hb hby own_d_prog_3_method_2_code_15) rfl kQ) ?_
      show own_Go p e below s _ _ _ (T377.setTop (mkF m 16 #[.val (.ref a), .val (.int iv), .val (.long x), .second] [(.long x), (.long (fF i (own_idx (gh i) (0 : Int32) (fz i)).toNatClampNeg))]))
      refine own_st (fun _ kQ => XS.aloadN X377.here hx rfl (hb hby own_d_prog_3_method_2_code_16) rfl rfl kQ) ?_
      show own_Go p e below s _ _ _ (T377.setTop (mkF m 17 #[.val (.ref a), .val (.int iv), .val (.long x), .second] [(.ref a), (.long x), (.long (fF i (own_idx (gh i) (0 : Int32) (fz i)).toNatClampNeg))]))
      have F380 : Fld Z T1.heap a "com/example/wache/wache/AttemptTimes" "spanMillis" "J" (.long span) := D1.fspan
      obtain ⟨T381, X381, e381, st381⟩ := getF X377 hx hZ hown (host := "") (Or.inl (hw _ (List.mem_of_getElem? (i := 10) rfl))) Via.refl eh377 F380 (g := (mkF m 17 #[.val (.ref a), .val (.int iv), .val (.long x), .second] [(.ref a), (.long x), (.long (fF i (own_idx (gh i) (0 : Int32) (fz i)).toNatClampNeg))])) rfl rfl (hb hby own_d_prog_3_method_2_code_17)
      refine own_st st381 ?_
      show own_Go p e below s _ _ _ (T381.setTop (mkF m 20 #[.val (.ref a), .val (.int iv), .val (.long x), .second] [(.long span), (.long x), (.long (fF i (own_idx (gh i) (0 : Int32) (fz i)).toNatClampNeg))]))
      refine own_st (fun _ kQ => XT.lsub X381.here hx rfl (hb hby own_d_prog_3_method_2_code_20) rfl kQ) ?_
      show own_Go p e below s _ _ _ (T381.setTop (mkF m 21 #[.val (.ref a), .val (.int iv), .val (.long x), .second] [(.long (x - span)), (.long (fF i (own_idx (gh i) (0 : Int32) (fz i)).toNatClampNeg))]))
      refine own_st (fun _ kQ => XT.lcmp X381.here hx rfl (hb hby own_d_prog_3_method_2_code_21) rfl kQ) ?_
      show own_Go p e below s _ _ _ (T381.setTop (mkF m 22 #[.val (.ref a), .val (.int iv), .val (.long x), .second] [(.int (XT.cmpL (fF i (own_idx (gh i) (0 : Int32) (fz i)).toNatClampNeg) (x - span)))]))
      by_cases hc382 : (x - span) < (fF i (own_idx (gh i) (0 : Int32) (fz i)).toNatClampNeg)
      · refine own_st (fun _ kQ => XS.ifYes X381.here hx rfl (pc0 := 22) (pc' := 33) rfl (hb hby own_d_prog_3_method_2_code_22) rfl (XT.ll_gt_t hc382) (by decide) (by decide) kQ) ?_
        show own_Go p e below s _ _ _ (T381.setTop (mkF m 33 #[.val (.ref a), .val (.int iv), .val (.long x), .second] []))
        exact tail _ _ gh gs X381 N379 (by rw [e381]; exact D1) wf1 ho1
      · refine own_st (fun _ kQ => XS.ifNo X381.here hx rfl (hb hby own_d_prog_3_method_2_code_22) rfl (XT.ll_gt_f hc382) kQ) ?_
        show own_Go p e below s _ _ _ (T381.setTop (mkF m 25 #[.val (.ref a), .val (.int iv), .val (.long x), .second] []))
        refine own_st (fun _ kQ => XS.aloadN X381.here hx rfl (hb hby own_d_prog_3_method_2_code_25) rfl rfl kQ) ?_
        show own_Go p e below s _ _ _ (T381.setTop (mkF m 26 #[.val (.ref a), .val (.int iv), .val (.long x), .second] [(.ref a)]))
        refine own_st (fun _ kQ => XS.iloadN X381.here hx rfl (hb hby own_d_prog_3_method_2_code_26) rfl kQ) ?_
        show own_Go p e below s _ _ _ (T381.setTop (mkF m 27 #[.val (.ref a), .val (.int iv), .val (.long x), .second] [(.int iv), (.ref a)]))
        have F384 : Exa Z T1.heap a "com/example/wache/wache/AttemptTimes" := D1.exa
        obtain ⟨cq383, q383, q383'⟩ := F384.cell
        obtain ⟨_, _, ⟨T383, L383, k383, n383⟩, -, X383, ⟨Lc383, hQ383, l383, y383, z383⟩, st383⟩ := X381.privateBack hx (y := (⟨"com/example/wache/wache/AttemptTimes", "dropOldest", "(I)V"⟩ : MethodName)) hown (mvT hZ (hw _ (List.mem_of_getElem? (i := 72) rfl))) (mvT hZ (hw _ (List.mem_of_getElem? (i := 73) rfl))) (mvT hZ (own_selP (hw _ (List.mem_of_getElem? (i := 73) rfl)) (hw _ (List.mem_of_getElem? (i := 74) rfl)) (hw _ (List.mem_of_getElem? (i := 2) rfl)) (by decide))) (Cond.privateMethod_at (mvP hZ (hw _ (List.mem_of_getElem? (i := 74) rfl)) (args := #[]))) (mvT hZ (hw _ (List.mem_of_getElem? (i := 75) rfl))) (by decide) (backOf (W := 0) (own_rm_drop l Z a0 hw [] iv i a span cap sh ow hd sz ko kh ks fw gh gs fz fF T1.heap n0 Z1 D1 hi wf1.nz) hZ (hw _ (List.mem_of_getElem? (i := 75) rfl)) (hw _ (List.mem_of_getElem? (i := 3) rfl)) (by decide) (by decide)) (g := (mkF m 27 #[.val (.ref a), .val (.int iv), .val (.long x), .second] [(.int iv), (.ref a)])) rfl (by rw [hml]; rfl) (Steps.refl _) (a := a) (own_hp e381 q383) q383' (argsL := [(.int iv)]) (rest := []) (lenOf own_pd5 rfl) rfl (by show 2 * 0 + _ ≤ _; exact Nat.le_of_eq rfl) (hb hby own_d_prog_3_method_2_code_27) (fun _ _ => ⟨rfl, e381, (by decide : 0 + 0 ≤ _), (by decide : 0 + 0 ≤ _)⟩)
        dsimp only [Pt.U, Pt.locs, Pt.cells, Pt.slots] at X383 l383 y383 z383 st383 hQ383
        subst l383 y383 z383
        obtain ⟨x385, x386, N383q, rfl, q387, q388, q389, q390⟩ := hQ383
        have N391 := Fr.app N379 N383q
        refine own_tr st383 ?_
        have Zs392 : n0 ≤ T383.heap.size := q387.szle
        show own_Go p e below s _ _ _ (T383.setTop (mkF m 30 #[.val (.ref a), .val (.int iv), .val (.long x), .second] []))
        refine own_st (fun _ kQ => XS.goto X383.here hx rfl (pc0 := 30) (pc' := 0) rfl (hb hby own_d_prog_3_method_2_code_30) (by decide) (by decide) kQ) ?_
        show own_Go p e below s _ _ _ (T383.setTop (mkF m 0 #[.val (.ref a), .val (.int iv), .val (.long x), .second] []))
        exact ih _ _ x385 x386 X383 N391 q387 (by rw [q388, q389]; exact wf1.drop hz2) (by rw [q389, own_sub1 hz2]; omega) (fun q hq => ⟨(q390 q hq).1.trans (ho1 q hq).1, (q390 q hq).2.trans (ho1 q hq).2⟩)
  have e0r : s₁.heap = h0 := e0
  have D1 : own_AT Z s₁.heap n0 a span cap sh ow hd sz ko kh ks fw fh fs fz fF := by rw [e0]; exact D
  exact loop (fs i).toInt.toNat s₁ [] fh fs X0 N0 D1 wf (by have q := wf.2.2.2.2.1; omega) (fun q hq => ⟨rfl, rfl⟩)
theorem own_d_prog_3_method_1_code_0 : decode prog_3_method_1_code 0 = .ok (.aload_n 0, 1) := by decide +kernel
theorem own_d_prog_3_method_1_code_1 : decode prog_3_method_1_code 1 = .ok (.invokespecial 1, 3) := by decide +kernel
theorem own_d_prog_3_method_1_code_4 : decode prog_3_method_1_code 4 = .ok (.aload_n 0, 1) := by decide +kernel
theorem own_d_prog_3_method_1_code_5 : decode prog_3_method_1_code 5 = .ok (.lload_n 2, 1) := by decide +kernel
theorem own_d_prog_3_method_1_code_6 : decode prog_3_method_1_code 6 = .ok (.putfield 7, 3) := by decide +kernel
theorem own_d_prog_3_method_1_code_9 : decode prog_3_method_1_code 9 = .ok (.aload_n 0, 1) := by decide +kernel
theorem own_d_prog_3_method_1_code_10 : decode prog_3_method_1_code 10 = .ok (.iload 4, 2) := by decide +kernel
theorem own_d_prog_3_method_1_code_12 : decode prog_3_method_1_code 12 = .ok (.putfield 13, 3) := by decide +kernel
theorem own_d_prog_3_method_1_code_15 : decode prog_3_method_1_code 15 = .ok (.aload_n 0, 1) := by decide +kernel
theorem own_d_prog_3_method_1_code_16 : decode prog_3_method_1_code 16 = .ok (.iload_n 1, 1) := by decide +kernel
theorem own_d_prog_3_method_1_code_17 : decode prog_3_method_1_code 17 = .ok (.iconst 2, 1) := by decide +kernel
theorem own_d_prog_3_method_1_code_18 : decode prog_3_method_1_code 18 = .ok (.imul, 1) := by decide +kernel
theorem own_d_prog_3_method_1_code_19 : decode prog_3_method_1_code 19 = .ok (.newarray .long, 2) := by decide +kernel
theorem own_d_prog_3_method_1_code_21 : decode prog_3_method_1_code 21 = .ok (.putfield 17, 3) := by decide +kernel
theorem own_d_prog_3_method_1_code_24 : decode prog_3_method_1_code 24 = .ok (.aload_n 0, 1) := by decide +kernel
theorem own_d_prog_3_method_1_code_25 : decode prog_3_method_1_code 25 = .ok (.iload_n 1, 1) := by decide +kernel
theorem own_d_prog_3_method_1_code_26 : decode prog_3_method_1_code 26 = .ok (.anewarray 21, 3) := by decide +kernel
theorem own_d_prog_3_method_1_code_29 : decode prog_3_method_1_code 29 = .ok (.putfield 22, 3) := by decide +kernel
theorem own_d_prog_3_method_1_code_32 : decode prog_3_method_1_code 32 = .ok (.aload_n 0, 1) := by decide +kernel
theorem own_d_prog_3_method_1_code_33 : decode prog_3_method_1_code 33 = .ok (.iload_n 1, 1) := by decide +kernel
theorem own_d_prog_3_method_1_code_34 : decode prog_3_method_1_code 34 = .ok (.newarray .int, 2) := by decide +kernel
theorem own_d_prog_3_method_1_code_36 : decode prog_3_method_1_code 36 = .ok (.putfield 26, 3) := by decide +kernel
theorem own_d_prog_3_method_1_code_39 : decode prog_3_method_1_code 39 = .ok (.aload_n 0, 1) := by decide +kernel
theorem own_d_prog_3_method_1_code_40 : decode prog_3_method_1_code 40 = .ok (.iload_n 1, 1) := by decide +kernel
theorem own_d_prog_3_method_1_code_41 : decode prog_3_method_1_code 41 = .ok (.newarray .int, 2) := by decide +kernel
theorem own_d_prog_3_method_1_code_43 : decode prog_3_method_1_code 43 = .ok (.putfield 30, 3) := by decide +kernel
theorem own_d_prog_3_method_1_code_46 : decode prog_3_method_1_code 46 = .ok (.return_, 1) := by decide +kernel
theorem own_pn9 : plainFor (⟨"com/example/wache/wache/AttemptTimes", "<init>", "(IJI)V"⟩ : MethodName) = true := by decide +kernel
def own_rm_init_Q (Z : State) (a : Addr) (span : Int64) (cap : Int32) (h0 : Heap) (n0 : Nat) (v : Option Value) (h : Heap) (L : List Loc) : Prop := ∃ sh : Addr, ∃ ow : Addr, ∃ hd : Addr, ∃ sz : Addr, ∃ ko : ClassId, ∃ kh : ClassId, ∃ ks : ClassId, ∃ fw : Nat → Value, ∃ fh : Nat → Int32, ∃ fs : Nat → Int32, ∃ fz : Nat → Int32, ∃ fF : Nat → Nat → Int64, Fr n0 L ∧ v = none ∧ own_AT Z h n0 a span cap sh ow hd sz ko kh ks fw fh fs fz fF ∧ (∀ q, fh q = 0) ∧ (∀ q, fs q = 0) ∧ (∀ q, fz q = 2)
theorem own_rm_init_ef (m : MethodId) (a : Addr) (span : Int64) (cap : Int32)  : entryFrame m #[(.ref a), (.int (2 : Int32)), (.long span), (.int cap)] 5 = mkF m 0 #[.val (.ref a), .val (.int (2 : Int32)), .val (.long span), .second, .val (.int cap)] [] := by first | (simp [entryFrame, mkF, argsToLocals, Value.category]; done) | rfl
set_option maxRecDepth 65536 in
set_option maxHeartbeats 40000000 in
theorem own_rm_init (l : Launch) (Z : State) (a0 : Array Value) (hw : ∀ d ∈ tables_1, d.before a0 Z = true) (ws : List Jvm.Cond) (a : Addr) (span : Int64) (cap : Int32) (h0 : Heap) (n0 : Nat) (Z0 : n0 ≤ h0.size) (E1 : Exa Z h0 a "com/example/wache/wache/AttemptTimes") (F0 : Fld Z h0 a "com/example/wache/wache/AttemptTimes" "spanMillis" "J" (.long (0 : Int64))) (F1 : Fld Z h0 a "com/example/wache/wache/AttemptTimes" "capacity" "I" (.int (0 : Int32))) (F2 : Fld Z h0 a "com/example/wache/wache/AttemptTimes" "shared" "[J" .null) (F3 : Fld Z h0 a "com/example/wache/wache/AttemptTimes" "own" "[[J" .null) (F4 : Fld Z h0 a "com/example/wache/wache/AttemptTimes" "heads" "[I" .null) (F5 : Fld Z h0 a "com/example/wache/wache/AttemptTimes" "sizes" "[I" .null) (g1 : n0 ≤ a) :
    MetFree l (⟨"com/example/wache/wache/AttemptTimes", "<init>", "(IJI)V"⟩ : MethodName) (head1 (Jvm.Cond.code (⟨"com/example/wache/wache/AttemptTimes", "<init>", "(IJI)V"⟩ : MethodName) prog_3_method_1_code 5 none :: ws) ({ frames := 1, cells := 4, slots := 10, locals := 12 } : Room)) (fun aQ UQ => aQ = #[(.ref a), (.int (2 : Int32)), (.long span), (.int cap)] ∧ Z.Warmed39 UQ.vm ∧ UQ.heap = h0) (fun _ _ _ _ _ => True) (fun _ UQ oQ U2 => ∃ vQ LQ, oQ = .returned vQ ∧ own_rm_init_Q Z a span cap h0 n0 vQ U2.heap LQ ∧ FrameEnd UQ oQ U2 LQ ({ frames := 1, cells := 4, slots := 10, locals := 12 } : Room).cells ({ frames := 1, cells := 4, slots := 10, locals := 12 } : Room).slots) := by
  refine MetFree.of_bodySF own_pn9 hisR ?_
  intro p e s m args below meth c s₁ Bd hml0 hP hK
  obtain ⟨rfl, hZ, hh⟩ := hP
  have hx := Bd.exec
  have hby := Bd.bytes
  have hml : c.maxLocals = 5 := hml0
  have hlk := BodyLoose.notSynchronized Bd
  have hown : s.vm.findClass "com/example/wache/wache/AttemptTimes" = some m.cls := findClass_of_methodNamed Bd.named
  have hnm := (name_of_methodNamed Bd.named Bd.method).1
  have X0 : Stand p l e ({ frames := 1, cells := 4, slots := 10, locals := 12 } : Room) s m #[(.ref a), (.int (2 : Int32)), (.long span), (.int cap)] below meth c s₁ [] 0 0 := Stand.of_body Bd
  have e0 : s₁.heap = h0 := by rw [← hh, Bd.state]; rfl
  have N0 := Fr.nil n0
  show own_Go p e below s (own_rm_init_Q Z a span cap h0 n0) ({ frames := 1, cells := 4, slots := 10, locals := 12 } : Room).cells ({ frames := 1, cells := 4, slots := 10, locals := 12 } : Room).slots (s₁.setTop (entryFrame m #[(.ref a), (.int (2 : Int32)), (.long span), (.int cap)] 5))
  rw [own_rm_init_ef]
  show own_Go p e below s _ _ _ (s₁.setTop (mkF m 0 #[.val (.ref a), .val (.int (2 : Int32)), .val (.long span), .second, .val (.int cap)] []))
  refine own_st (fun _ kQ => XS.aloadN X0.here hx rfl (hb hby own_d_prog_3_method_1_code_0) rfl rfl kQ) ?_
  show own_Go p e below s _ _ _ (s₁.setTop (mkF m 1 #[.val (.ref a), .val (.int (2 : Int32)), .val (.long span), .second, .val (.int cap)] [(.ref a)]))
  obtain ⟨T393, X393, e393, st393⟩ := initO X0 hx hZ hown (hw _ (List.mem_of_getElem? (i := 7) rfl)) (hw _ (List.mem_of_getElem? (i := 8) rfl)) (hw _ (List.mem_of_getElem? (i := 9) rfl)) e0 (g := (mkF m 1 #[.val (.ref a), .val (.int (2 : Int32)), .val (.long span), .second, .val (.int cap)] [(.ref a)])) rfl (by rw [hml]; rfl) rfl (hb hby own_d_prog_3_method_1_code_1) (by decide) (W := 0) (by show 2 * 0 + _ ≤ _; exact Nat.le_of_eq rfl) (by decide)
  refine own_st st393 ?_
  show own_Go p e below s _ _ _ (T393.setTop (mkF m 4 #[.val (.ref a), .val (.int (2 : Int32)), .val (.long span), .second, .val (.int cap)] []))
  refine own_st (fun _ kQ => XS.aloadN X393.here hx rfl (hb hby own_d_prog_3_method_1_code_4) rfl rfl kQ) ?_
  show own_Go p e below s _ _ _ (T393.setTop (mkF m 5 #[.val (.ref a), .val (.int (2 : Int32)), .val (.long span), .second, .val (.int cap)] [(.ref a)]))
  refine own_st (fun _ kQ => XT.lloadN X393.here hx rfl (hb hby own_d_prog_3_method_1_code_5) rfl kQ) ?_
  show own_Go p e below s _ _ _ (T393.setTop (mkF m 6 #[.val (.ref a), .val (.int (2 : Int32)), .val (.long span), .second, .val (.int cap)] [(.long span), (.ref a)]))
  obtain ⟨T394, h394, X394, e394, W394, st394⟩ := putF X393 hx hZ hown (host := "") (Or.inl (hw _ (List.mem_of_getElem? (i := 10) rfl))) Via.refl e393 F0 E1 (Or.inr ⟨(hw _ (List.mem_of_getElem? (i := 11) rfl)), rfl, hnm⟩) (hw _ (List.mem_of_getElem? (i := 2) rfl)) (ty := .long) (by decide) rfl rfl (g := (mkF m 6 #[.val (.ref a), .val (.int (2 : Int32)), .val (.long span), .second, .val (.int cap)] [(.long span), (.ref a)])) rfl rfl (hb hby own_d_prog_3_method_1_code_6)
  refine own_st st394 ?_
  have N395 := Fr.snoc X394 N0 g1
  have F396 : Fld Z h394 a "com/example/wache/wache/AttemptTimes" "spanMillis" "J" (.long span) := F0.same W394
  have lt397 : a < h394.size := Nat.lt_of_lt_of_le F5.lt (Nat.le_of_eq W394.size.symm)
  have Zs398 : n0 ≤ h394.size := Nat.le_trans Z0 (Nat.le_of_eq W394.size.symm)
  show own_Go p e below s _ _ _ (T394.setTop (mkF m 9 #[.val (.ref a), .val (.int (2 : Int32)), .val (.long span), .second, .val (.int cap)] []))
  refine own_st (fun _ kQ => XS.aloadN X394.here hx rfl (hb hby own_d_prog_3_method_1_code_9) rfl rfl kQ) ?_
  show own_Go p e below s _ _ _ (T394.setTop (mkF m 10 #[.val (.ref a), .val (.int (2 : Int32)), .val (.long span), .second, .val (.int cap)] [(.ref a)]))
  refine own_st (fun _ kQ => XS.iload X394.here hx rfl (hb hby own_d_prog_3_method_1_code_10) rfl kQ) ?_
  show own_Go p e below s _ _ _ (T394.setTop (mkF m 12 #[.val (.ref a), .val (.int (2 : Int32)), .val (.long span), .second, .val (.int cap)] [(.int cap), (.ref a)]))
  have F399 : Fld Z h394 a "com/example/wache/wache/AttemptTimes" "capacity" "I" (.int (0 : Int32)) := (F1.other W394 (Or.inr (slot_ne (Or.inr (hw _ (List.mem_of_getElem? (i := 13) rfl))) (Or.inr (hw _ (List.mem_of_getElem? (i := 11) rfl))) (by decide) (t := .int) (t' := .long) (by decide) (by decide))))
  have F400 : Exa Z h394 a "com/example/wache/wache/AttemptTimes" := (E1.wr W394)
  obtain ⟨T401, h401, X401, e401, W401, st401⟩ := putF X394 hx hZ hown (host := "") (Or.inl (hw _ (List.mem_of_getElem? (i := 12) rfl))) Via.refl e394 F399 F400 (Or.inr ⟨(hw _ (List.mem_of_getElem? (i := 13) rfl)), rfl, hnm⟩) (hw _ (List.mem_of_getElem? (i := 2) rfl)) (ty := .int) (by decide) rfl rfl (g := (mkF m 12 #[.val (.ref a), .val (.int (2 : Int32)), .val (.long span), .second, .val (.int cap)] [(.int cap), (.ref a)])) rfl rfl (hb hby own_d_prog_3_method_1_code_12)
  refine own_st st401 ?_
  have N402 := Fr.snoc X401 N395 g1
  have F403 : Fld Z h401 a "com/example/wache/wache/AttemptTimes" "capacity" "I" (.int cap) := F399.same W401
  have lt404 : a < h401.size := Nat.lt_of_lt_of_le lt397 (Nat.le_of_eq W401.size.symm)
  have Zs405 : n0 ≤ h401.size := Nat.le_trans Zs398 (Nat.le_of_eq W401.size.symm)
  show own_Go p e below s _ _ _ (T401.setTop (mkF m 15 #[.val (.ref a), .val (.int (2 : Int32)), .val (.long span), .second, .val (.int cap)] []))
  refine own_st (fun _ kQ => XS.aloadN X401.here hx rfl (hb hby own_d_prog_3_method_1_code_15) rfl rfl kQ) ?_
  show own_Go p e below s _ _ _ (T401.setTop (mkF m 16 #[.val (.ref a), .val (.int (2 : Int32)), .val (.long span), .second, .val (.int cap)] [(.ref a)]))
  refine own_st (fun _ kQ => XS.iloadN X401.here hx rfl (hb hby own_d_prog_3_method_1_code_16) rfl kQ) ?_
  show own_Go p e below s _ _ _ (T401.setTop (mkF m 17 #[.val (.ref a), .val (.int (2 : Int32)), .val (.long span), .second, .val (.int cap)] [(.int (2 : Int32)), (.ref a)]))
  refine own_st (fun _ kQ => XT.iconstV X401.here hx rfl (2 : Int32) (hb hby own_d_prog_3_method_1_code_17) (by decide) kQ) ?_
  show own_Go p e below s _ _ _ (T401.setTop (mkF m 18 #[.val (.ref a), .val (.int (2 : Int32)), .val (.long span), .second, .val (.int cap)] [(.int (2 : Int32)), (.int (2 : Int32)), (.ref a)]))
  refine own_st (fun _ kQ => XS.imul X401.here hx rfl (hb hby own_d_prog_3_method_1_code_18) rfl kQ) ?_
  show own_Go p e below s _ _ _ (T401.setTop (mkF m 19 #[.val (.ref a), .val (.int (2 : Int32)), .val (.long span), .second, .val (.int cap)] [(.int (4 : Int32)), (.ref a)]))
  obtain ⟨T406, h406, k406, X406, e406, E406, A406, Ea406, st406⟩ := newPE X401 hx hZ (aty := .long) (hw _ (List.mem_of_getElem? (i := 14) rfl)) e401 (g := (mkF m 19 #[.val (.ref a), .val (.int (2 : Int32)), .val (.long span), .second, .val (.int cap)] [(.int (4 : Int32)), (.ref a)])) rfl (hb hby own_d_prog_3_method_1_code_19) rfl (by decide) (cap := 4) (by decide) (by decide) (by decide) (by decide) (ad := "[J") (by decide +kernel)
  obtain ⟨b406, g406⟩ : ∃ z, z = h401.size := ⟨_, rfl⟩
  rw [← g406] at A406 Ea406 st406
  refine own_st st406 ?_
  have lt407 : a < h406.size := Nat.lt_of_lt_of_le lt404 E406.1
  have Zs408 : n0 ≤ h406.size := Nat.le_trans Zs405 E406.1
  have ne409 : a ≠ b406 := Nat.ne_of_lt (Nat.lt_of_lt_of_le lt404 (Nat.le_of_eq g406.symm))
  have g410 : n0 ≤ b406 := Nat.le_trans Zs405 (Nat.le_of_eq g406.symm)
  have F411 : Arv Z h406 b406 k406 .long (4 : Int32) [(.long (0 : Int64)), (.long (0 : Int64)), (.long (0 : Int64)), (.long (0 : Int64))] (.long (0 : Int64)) := (Arv.new A406 (by decide)).pad (fun i => own_pad 4 _ i)
  have L412 : own_LA Z h406 b406 (4 : Int32) (fun _ => 0) := own_LA.new A406 (by decide)
  show own_Go p e below s _ _ _ (T406.setTop (mkF m 21 #[.val (.ref a), .val (.int (2 : Int32)), .val (.long span), .second, .val (.int cap)] [(.ref b406), (.ref a)]))
  have F413 : Fld Z h406 a "com/example/wache/wache/AttemptTimes" "shared" "[J" .null := (((F2.other W394 (Or.inr (slot_ne (Or.inr (hw _ (List.mem_of_getElem? (i := 16) rfl))) (Or.inr (hw _ (List.mem_of_getElem? (i := 11) rfl))) (by decide) (t := (.array .long)) (t' := .long) (by decide) (by decide)))).other W401 (Or.inr (slot_ne (Or.inr (hw _ (List.mem_of_getElem? (i := 16) rfl))) (Or.inr (hw _ (List.mem_of_getElem? (i := 13) rfl))) (by decide) (t := (.array .long)) (t' := .int) (by decide) (by decide)))).ext E406)
  have F414 : Exa Z h406 a "com/example/wache/wache/AttemptTimes" := ((F400.wr W401).ext E406)
  obtain ⟨T415, h415, X415, e415, W415, st415⟩ := putF X406 hx hZ hown (host := "") (Or.inl (hw _ (List.mem_of_getElem? (i := 15) rfl))) Via.refl e406 F413 F414 (Or.inr ⟨(hw _ (List.mem_of_getElem? (i := 16) rfl)), rfl, hnm⟩) (hw _ (List.mem_of_getElem? (i := 2) rfl)) (ty := (.array .long)) (by decide) rfl rfl (g := (mkF m 21 #[.val (.ref a), .val (.int (2 : Int32)), .val (.long span), .second, .val (.int cap)] [(.ref b406), (.ref a)])) rfl rfl (hb hby own_d_prog_3_method_1_code_21)
  refine own_st st415 ?_
  have N416 := Fr.snoc X415 N402 g1
  have F417 : Fld Z h415 a "com/example/wache/wache/AttemptTimes" "shared" "[J" (.ref b406) := F413.same W415
  have lt418 : a < h415.size := Nat.lt_of_lt_of_le lt407 (Nat.le_of_eq W415.size.symm)
  have lt419 : b406 < h415.size := Nat.lt_of_lt_of_le A406.lt (Nat.le_of_eq W415.size.symm)
  have Zs420 : n0 ≤ h415.size := Nat.le_trans Zs408 (Nat.le_of_eq W415.size.symm)
  show own_Go p e below s _ _ _ (T415.setTop (mkF m 24 #[.val (.ref a), .val (.int (2 : Int32)), .val (.long span), .second, .val (.int cap)] []))
  refine own_st (fun _ kQ => XS.aloadN X415.here hx rfl (hb hby own_d_prog_3_method_1_code_24) rfl rfl kQ) ?_
  show own_Go p e below s _ _ _ (T415.setTop (mkF m 25 #[.val (.ref a), .val (.int (2 : Int32)), .val (.long span), .second, .val (.int cap)] [(.ref a)]))
  refine own_st (fun _ kQ => XS.iloadN X415.here hx rfl (hb hby own_d_prog_3_method_1_code_25) rfl kQ) ?_
  show own_Go p e below s _ _ _ (T415.setTop (mkF m 26 #[.val (.ref a), .val (.int (2 : Int32)), .val (.long span), .second, .val (.int cap)] [(.int (2 : Int32)), (.ref a)]))
  obtain ⟨T421, h421, k421, X421, e421, E421, A421, Ea421, O421, st421⟩ := newRA X415 hx hZ hown (C := "[J") (ty := .long) (by decide +kernel) (hw _ (List.mem_of_getElem? (i := 17) rfl)) (hw _ (List.mem_of_getElem? (i := 18) rfl)) e415 (g := (mkF m 26 #[.val (.ref a), .val (.int (2 : Int32)), .val (.long span), .second, .val (.int cap)] [(.int (2 : Int32)), (.ref a)])) rfl (hb hby own_d_prog_3_method_1_code_26) rfl (by decide) (cap := 2) (by decide) (by decide) (by decide) (by decide) (ad := "[[J") (by decide +kernel)
  obtain ⟨b421, g421⟩ : ∃ z, z = h415.size := ⟨_, rfl⟩
  rw [← g421] at A421 st421
  refine own_st st421 ?_
  have lt422 : a < h421.size := Nat.lt_of_lt_of_le lt418 E421.1
  have lt423 : b406 < h421.size := Nat.lt_of_lt_of_le lt419 E421.1
  have Zs424 : n0 ≤ h421.size := Nat.le_trans Zs420 E421.1
  have ne425 : a ≠ b421 := Nat.ne_of_lt (Nat.lt_of_lt_of_le lt418 (Nat.le_of_eq g421.symm))
  have ne426 : b406 ≠ b421 := Nat.ne_of_lt (Nat.lt_of_lt_of_le lt419 (Nat.le_of_eq g421.symm))
  have g427 : n0 ≤ b421 := Nat.le_trans Zs420 (Nat.le_of_eq g421.symm)
  have F428 : Arv Z h421 b421 k421 (.array .long) (2 : Int32) [.null, .null] .null := (Arv.new A421 (by decide)).pad (fun i => own_pad 2 _ i)
  show own_Go p e below s _ _ _ (T421.setTop (mkF m 29 #[.val (.ref a), .val (.int (2 : Int32)), .val (.long span), .second, .val (.int cap)] [(.ref b421), (.ref a)]))
  have F429 : Fld Z h421 a "com/example/wache/wache/AttemptTimes" "own" "[[J" .null := (((((F3.other W394 (Or.inr (slot_ne (Or.inr (hw _ (List.mem_of_getElem? (i := 20) rfl))) (Or.inr (hw _ (List.mem_of_getElem? (i := 11) rfl))) (by decide) (t := (.array (.array .long))) (t' := .long) (by decide) (by decide)))).other W401 (Or.inr (slot_ne (Or.inr (hw _ (List.mem_of_getElem? (i := 20) rfl))) (Or.inr (hw _ (List.mem_of_getElem? (i := 13) rfl))) (by decide) (t := (.array (.array .long))) (t' := .int) (by decide) (by decide)))).ext E406).other W415 (Or.inr (slot_ne (Or.inr (hw _ (List.mem_of_getElem? (i := 20) rfl))) (Or.inr (hw _ (List.mem_of_getElem? (i := 16) rfl))) (by decide) (t := (.array (.array .long))) (t' := (.array .long)) (by decide) (by decide)))).ext E421)
  have F430 : Exa Z h421 a "com/example/wache/wache/AttemptTimes" := ((F414.wr W415).ext E421)
  obtain ⟨T431, h431, X431, e431, W431, st431⟩ := putF X421 hx hZ hown (host := "") (Or.inl (hw _ (List.mem_of_getElem? (i := 19) rfl))) Via.refl e421 F429 F430 (Or.inr ⟨(hw _ (List.mem_of_getElem? (i := 20) rfl)), rfl, hnm⟩) (hw _ (List.mem_of_getElem? (i := 2) rfl)) (ty := (.array (.array .long))) (by decide) rfl rfl (g := (mkF m 29 #[.val (.ref a), .val (.int (2 : Int32)), .val (.long span), .second, .val (.int cap)] [(.ref b421), (.ref a)])) rfl rfl (hb hby own_d_prog_3_method_1_code_29)
  refine own_st st431 ?_
  have N432 := Fr.snoc X431 N416 g1
  have F433 : Fld Z h431 a "com/example/wache/wache/AttemptTimes" "own" "[[J" (.ref b421) := F429.same W431
  have lt434 : a < h431.size := Nat.lt_of_lt_of_le lt422 (Nat.le_of_eq W431.size.symm)
  have lt435 : b406 < h431.size := Nat.lt_of_lt_of_le lt423 (Nat.le_of_eq W431.size.symm)
  have lt436 : b421 < h431.size := Nat.lt_of_lt_of_le A421.lt (Nat.le_of_eq W431.size.symm)
  have Zs437 : n0 ≤ h431.size := Nat.le_trans Zs424 (Nat.le_of_eq W431.size.symm)
  show own_Go p e below s _ _ _ (T431.setTop (mkF m 32 #[.val (.ref a), .val (.int (2 : Int32)), .val (.long span), .second, .val (.int cap)] []))
  refine own_st (fun _ kQ => XS.aloadN X431.here hx rfl (hb hby own_d_prog_3_method_1_code_32) rfl rfl kQ) ?_
  show own_Go p e below s _ _ _ (T431.setTop (mkF m 33 #[.val (.ref a), .val (.int (2 : Int32)), .val (.long span), .second, .val (.int cap)] [(.ref a)]))
  refine own_st (fun _ kQ => XS.iloadN X431.here hx rfl (hb hby own_d_prog_3_method_1_code_33) rfl kQ) ?_
  show own_Go p e below s _ _ _ (T431.setTop (mkF m 34 #[.val (.ref a), .val (.int (2 : Int32)), .val (.long span), .second, .val (.int cap)] [(.int (2 : Int32)), (.ref a)]))
  obtain ⟨T438, h438, k438, X438, e438, E438, A438, Ea438, st438⟩ := newPE X431 hx hZ (aty := .int) (hw _ (List.mem_of_getElem? (i := 21) rfl)) e431 (g := (mkF m 34 #[.val (.ref a), .val (.int (2 : Int32)), .val (.long span), .second, .val (.int cap)] [(.int (2 : Int32)), (.ref a)])) rfl (hb hby own_d_prog_3_method_1_code_34) rfl (by decide) (cap := 2) (by decide) (by decide) (by decide) (by decide) (ad := "[I") (by decide +kernel)
  obtain ⟨b438, g438⟩ : ∃ z, z = h431.size := ⟨_, rfl⟩
  rw [← g438] at A438 Ea438 st438
  refine own_st st438 ?_
  have lt439 : a < h438.size := Nat.lt_of_lt_of_le lt434 E438.1
  have lt440 : b406 < h438.size := Nat.lt_of_lt_of_le lt435 E438.1
  have lt441 : b421 < h438.size := Nat.lt_of_lt_of_le lt436 E438.1
  have Zs442 : n0 ≤ h438.size := Nat.le_trans Zs437 E438.1
  have ne443 : a ≠ b438 := Nat.ne_of_lt (Nat.lt_of_lt_of_le lt434 (Nat.le_of_eq g438.symm))
  have ne444 : b406 ≠ b438 := Nat.ne_of_lt (Nat.lt_of_lt_of_le lt435 (Nat.le_of_eq g438.symm))
  have ne445 : b421 ≠ b438 := Nat.ne_of_lt (Nat.lt_of_lt_of_le lt436 (Nat.le_of_eq g438.symm))
  have g446 : n0 ≤ b438 := Nat.le_trans Zs437 (Nat.le_of_eq g438.symm)
  have F447 : Arv Z h438 b438 k438 .int (2 : Int32) [(.int (0 : Int32)), (.int (0 : Int32))] (.int (0 : Int32)) := (Arv.new A438 (by decide)).pad (fun i => own_pad 2 _ i)
  show own_Go p e below s _ _ _ (T438.setTop (mkF m 36 #[.val (.ref a), .val (.int (2 : Int32)), .val (.long span), .second, .val (.int cap)] [(.ref b438), (.ref a)]))
  have F448 : Fld Z h438 a "com/example/wache/wache/AttemptTimes" "heads" "[I" .null := (((((((F4.other W394 (Or.inr (slot_ne (Or.inr (hw _ (List.mem_of_getElem? (i := 23) rfl))) (Or.inr (hw _ (List.mem_of_getElem? (i := 11) rfl))) (by decide) (t := (.array .int)) (t' := .long) (by decide) (by decide)))).other W401 (Or.inr (slot_ne (Or.inr (hw _ (List.mem_of_getElem? (i := 23) rfl))) (Or.inr (hw _ (List.mem_of_getElem? (i := 13) rfl))) (by decide) (t := (.array .int)) (t' := .int) (by decide) (by decide)))).ext E406).other W415 (Or.inr (slot_ne (Or.inr (hw _ (List.mem_of_getElem? (i := 23) rfl))) (Or.inr (hw _ (List.mem_of_getElem? (i := 16) rfl))) (by decide) (t := (.array .int)) (t' := (.array .long)) (by decide) (by decide)))).ext E421).other W431 (Or.inr (slot_ne (Or.inr (hw _ (List.mem_of_getElem? (i := 23) rfl))) (Or.inr (hw _ (List.mem_of_getElem? (i := 20) rfl))) (by decide) (t := (.array .int)) (t' := (.array (.array .long))) (by decide) (by decide)))).ext E438)
  have F449 : Exa Z h438 a "com/example/wache/wache/AttemptTimes" := ((F430.wr W431).ext E438)
  obtain ⟨T450, h450, X450, e450, W450, st450⟩ := putF X438 hx hZ hown (host := "") (Or.inl (hw _ (List.mem_of_getElem? (i := 22) rfl))) Via.refl e438 F448 F449 (Or.inr ⟨(hw _ (List.mem_of_getElem? (i := 23) rfl)), rfl, hnm⟩) (hw _ (List.mem_of_getElem? (i := 2) rfl)) (ty := (.array .int)) (by decide) rfl rfl (g := (mkF m 36 #[.val (.ref a), .val (.int (2 : Int32)), .val (.long span), .second, .val (.int cap)] [(.ref b438), (.ref a)])) rfl rfl (hb hby own_d_prog_3_method_1_code_36)
  refine own_st st450 ?_
  have N451 := Fr.snoc X450 N432 g1
  have F452 : Fld Z h450 a "com/example/wache/wache/AttemptTimes" "heads" "[I" (.ref b438) := F448.same W450
  have lt453 : a < h450.size := Nat.lt_of_lt_of_le lt439 (Nat.le_of_eq W450.size.symm)
  have lt454 : b406 < h450.size := Nat.lt_of_lt_of_le lt440 (Nat.le_of_eq W450.size.symm)
  have lt455 : b421 < h450.size := Nat.lt_of_lt_of_le lt441 (Nat.le_of_eq W450.size.symm)
  have lt456 : b438 < h450.size := Nat.lt_of_lt_of_le A438.lt (Nat.le_of_eq W450.size.symm)
  have Zs457 : n0 ≤ h450.size := Nat.le_trans Zs442 (Nat.le_of_eq W450.size.symm)
  show own_Go p e below s _ _ _ (T450.setTop (mkF m 39 #[.val (.ref a), .val (.int (2 : Int32)), .val (.long span), .second, .val (.int cap)] []))
  refine own_st (fun _ kQ => XS.aloadN X450.here hx rfl (hb hby own_d_prog_3_method_1_code_39) rfl rfl kQ) ?_
  show own_Go p e below s _ _ _ (T450.setTop (mkF m 40 #[.val (.ref a), .val (.int (2 : Int32)), .val (.long span), .second, .val (.int cap)] [(.ref a)]))
  refine own_st (fun _ kQ => XS.iloadN X450.here hx rfl (hb hby own_d_prog_3_method_1_code_40) rfl kQ) ?_
  show own_Go p e below s _ _ _ (T450.setTop (mkF m 41 #[.val (.ref a), .val (.int (2 : Int32)), .val (.long span), .second, .val (.int cap)] [(.int (2 : Int32)), (.ref a)]))
  obtain ⟨T458, h458, k458, X458, e458, E458, A458, Ea458, st458⟩ := newPE X450 hx hZ (aty := .int) (hw _ (List.mem_of_getElem? (i := 21) rfl)) e450 (g := (mkF m 41 #[.val (.ref a), .val (.int (2 : Int32)), .val (.long span), .second, .val (.int cap)] [(.int (2 : Int32)), (.ref a)])) rfl (hb hby own_d_prog_3_method_1_code_41) rfl (by decide) (cap := 2) (by decide) (by decide) (by decide) (by decide) (ad := "[I") (by decide +kernel)
  obtain ⟨b458, g458⟩ : ∃ z, z = h450.size := ⟨_, rfl⟩
  rw [← g458] at A458 Ea458 st458
  refine own_st st458 ?_
  have lt459 : a < h458.size := Nat.lt_of_lt_of_le lt453 E458.1
  have lt460 : b406 < h458.size := Nat.lt_of_lt_of_le lt454 E458.1
  have lt461 : b421 < h458.size := Nat.lt_of_lt_of_le lt455 E458.1
  have lt462 : b438 < h458.size := Nat.lt_of_lt_of_le lt456 E458.1
  have Zs463 : n0 ≤ h458.size := Nat.le_trans Zs457 E458.1
  have ne464 : a ≠ b458 := Nat.ne_of_lt (Nat.lt_of_lt_of_le lt453 (Nat.le_of_eq g458.symm))
  have ne465 : b406 ≠ b458 := Nat.ne_of_lt (Nat.lt_of_lt_of_le lt454 (Nat.le_of_eq g458.symm))
  have ne466 : b421 ≠ b458 := Nat.ne_of_lt (Nat.lt_of_lt_of_le lt455 (Nat.le_of_eq g458.symm))
  have ne467 : b438 ≠ b458 := Nat.ne_of_lt (Nat.lt_of_lt_of_le lt456 (Nat.le_of_eq g458.symm))
  have g468 : n0 ≤ b458 := Nat.le_trans Zs457 (Nat.le_of_eq g458.symm)
  have F469 : Arv Z h458 b458 k458 .int (2 : Int32) [(.int (0 : Int32)), (.int (0 : Int32))] (.int (0 : Int32)) := (Arv.new A458 (by decide)).pad (fun i => own_pad 2 _ i)
  show own_Go p e below s _ _ _ (T458.setTop (mkF m 43 #[.val (.ref a), .val (.int (2 : Int32)), .val (.long span), .second, .val (.int cap)] [(.ref b458), (.ref a)]))
  have F470 : Fld Z h458 a "com/example/wache/wache/AttemptTimes" "sizes" "[I" .null := (((((((((F5.other W394 (Or.inr (slot_ne (Or.inr (hw _ (List.mem_of_getElem? (i := 25) rfl))) (Or.inr (hw _ (List.mem_of_getElem? (i := 11) rfl))) (by decide) (t := (.array .int)) (t' := .long) (by decide) (by decide)))).other W401 (Or.inr (slot_ne (Or.inr (hw _ (List.mem_of_getElem? (i := 25) rfl))) (Or.inr (hw _ (List.mem_of_getElem? (i := 13) rfl))) (by decide) (t := (.array .int)) (t' := .int) (by decide) (by decide)))).ext E406).other W415 (Or.inr (slot_ne (Or.inr (hw _ (List.mem_of_getElem? (i := 25) rfl))) (Or.inr (hw _ (List.mem_of_getElem? (i := 16) rfl))) (by decide) (t := (.array .int)) (t' := (.array .long)) (by decide) (by decide)))).ext E421).other W431 (Or.inr (slot_ne (Or.inr (hw _ (List.mem_of_getElem? (i := 25) rfl))) (Or.inr (hw _ (List.mem_of_getElem? (i := 20) rfl))) (by decide) (t := (.array .int)) (t' := (.array (.array .long))) (by decide) (by decide)))).ext E438).other W450 (Or.inr (slot_ne (Or.inr (hw _ (List.mem_of_getElem? (i := 25) rfl))) (Or.inr (hw _ (List.mem_of_getElem? (i := 23) rfl))) (by decide) (t := (.array .int)) (t' := (.array .int)) (by decide) (by decide)))).ext E458)
  have F471 : Exa Z h458 a "com/example/wache/wache/AttemptTimes" := ((F449.wr W450).ext E458)
  obtain ⟨T472, h472, X472, e472, W472, st472⟩ := putF X458 hx hZ hown (host := "") (Or.inl (hw _ (List.mem_of_getElem? (i := 24) rfl))) Via.refl e458 F470 F471 (Or.inr ⟨(hw _ (List.mem_of_getElem? (i := 25) rfl)), rfl, hnm⟩) (hw _ (List.mem_of_getElem? (i := 2) rfl)) (ty := (.array .int)) (by decide) rfl rfl (g := (mkF m 43 #[.val (.ref a), .val (.int (2 : Int32)), .val (.long span), .second, .val (.int cap)] [(.ref b458), (.ref a)])) rfl rfl (hb hby own_d_prog_3_method_1_code_43)
  refine own_st st472 ?_
  have N473 := Fr.snoc X472 N451 g1
  have F474 : Fld Z h472 a "com/example/wache/wache/AttemptTimes" "sizes" "[I" (.ref b458) := F470.same W472
  have lt475 : a < h472.size := Nat.lt_of_lt_of_le lt459 (Nat.le_of_eq W472.size.symm)
  have lt476 : b406 < h472.size := Nat.lt_of_lt_of_le lt460 (Nat.le_of_eq W472.size.symm)
  have lt477 : b421 < h472.size := Nat.lt_of_lt_of_le lt461 (Nat.le_of_eq W472.size.symm)
  have lt478 : b438 < h472.size := Nat.lt_of_lt_of_le lt462 (Nat.le_of_eq W472.size.symm)
  have lt479 : b458 < h472.size := Nat.lt_of_lt_of_le A458.lt (Nat.le_of_eq W472.size.symm)
  have Zs480 : n0 ≤ h472.size := Nat.le_trans Zs463 (Nat.le_of_eq W472.size.symm)
  show own_Go p e below s _ _ _ (T472.setTop (mkF m 46 #[.val (.ref a), .val (.int (2 : Int32)), .val (.long span), .second, .val (.int cap)] []))
  have F481 : Fld Z h472 a "com/example/wache/wache/AttemptTimes" "spanMillis" "J" (.long span) := (((((((((F396.other W401 (Or.inr (slot_ne (Or.inr (hw _ (List.mem_of_getElem? (i := 11) rfl))) (Or.inr (hw _ (List.mem_of_getElem? (i := 13) rfl))) (by decide) (t := .long) (t' := .int) (by decide) (by decide)))).ext E406).other W415 (Or.inr (slot_ne (Or.inr (hw _ (List.mem_of_getElem? (i := 11) rfl))) (Or.inr (hw _ (List.mem_of_getElem? (i := 16) rfl))) (by decide) (t := .long) (t' := (.array .long)) (by decide) (by decide)))).ext E421).other W431 (Or.inr (slot_ne (Or.inr (hw _ (List.mem_of_getElem? (i := 11) rfl))) (Or.inr (hw _ (List.mem_of_getElem? (i := 20) rfl))) (by decide) (t := .long) (t' := (.array (.array .long))) (by decide) (by decide)))).ext E438).other W450 (Or.inr (slot_ne (Or.inr (hw _ (List.mem_of_getElem? (i := 11) rfl))) (Or.inr (hw _ (List.mem_of_getElem? (i := 23) rfl))) (by decide) (t := .long) (t' := (.array .int)) (by decide) (by decide)))).ext E458).other W472 (Or.inr (slot_ne (Or.inr (hw _ (List.mem_of_getElem? (i := 11) rfl))) (Or.inr (hw _ (List.mem_of_getElem? (i := 25) rfl))) (by decide) (t := .long) (t' := (.array .int)) (by decide) (by decide))))
  have F482 : Fld Z h472 a "com/example/wache/wache/AttemptTimes" "capacity" "I" (.int cap) := ((((((((F403.ext E406).other W415 (Or.inr (slot_ne (Or.inr (hw _ (List.mem_of_getElem? (i := 13) rfl))) (Or.inr (hw _ (List.mem_of_getElem? (i := 16) rfl))) (by decide) (t := .int) (t' := (.array .long)) (by decide) (by decide)))).ext E421).other W431 (Or.inr (slot_ne (Or.inr (hw _ (List.mem_of_getElem? (i := 13) rfl))) (Or.inr (hw _ (List.mem_of_getElem? (i := 20) rfl))) (by decide) (t := .int) (t' := (.array (.array .long))) (by decide) (by decide)))).ext E438).other W450 (Or.inr (slot_ne (Or.inr (hw _ (List.mem_of_getElem? (i := 13) rfl))) (Or.inr (hw _ (List.mem_of_getElem? (i := 23) rfl))) (by decide) (t := .int) (t' := (.array .int)) (by decide) (by decide)))).ext E458).other W472 (Or.inr (slot_ne (Or.inr (hw _ (List.mem_of_getElem? (i := 13) rfl))) (Or.inr (hw _ (List.mem_of_getElem? (i := 25) rfl))) (by decide) (t := .int) (t' := (.array .int)) (by decide) (by decide))))
  have F483 : Fld Z h472 a "com/example/wache/wache/AttemptTimes" "shared" "[J" (.ref b406) := ((((((F417.ext E421).other W431 (Or.inr (slot_ne (Or.inr (hw _ (List.mem_of_getElem? (i := 16) rfl))) (Or.inr (hw _ (List.mem_of_getElem? (i := 20) rfl))) (by decide) (t := (.array .long)) (t' := (.array (.array .long))) (by decide) (by decide)))).ext E438).other W450 (Or.inr (slot_ne (Or.inr (hw _ (List.mem_of_getElem? (i := 16) rfl))) (Or.inr (hw _ (List.mem_of_getElem? (i := 23) rfl))) (by decide) (t := (.array .long)) (t' := (.array .int)) (by decide) (by decide)))).ext E458).other W472 (Or.inr (slot_ne (Or.inr (hw _ (List.mem_of_getElem? (i := 16) rfl))) (Or.inr (hw _ (List.mem_of_getElem? (i := 25) rfl))) (by decide) (t := (.array .long)) (t' := (.array .int)) (by decide) (by decide))))
  have F484 : Fld Z h472 a "com/example/wache/wache/AttemptTimes" "own" "[[J" (.ref b421) := ((((F433.ext E438).other W450 (Or.inr (slot_ne (Or.inr (hw _ (List.mem_of_getElem? (i := 20) rfl))) (Or.inr (hw _ (List.mem_of_getElem? (i := 23) rfl))) (by decide) (t := (.array (.array .long))) (t' := (.array .int)) (by decide) (by decide)))).ext E458).other W472 (Or.inr (slot_ne (Or.inr (hw _ (List.mem_of_getElem? (i := 20) rfl))) (Or.inr (hw _ (List.mem_of_getElem? (i := 25) rfl))) (by decide) (t := (.array (.array .long))) (t' := (.array .int)) (by decide) (by decide))))
  have F485 : Fld Z h472 a "com/example/wache/wache/AttemptTimes" "heads" "[I" (.ref b438) := ((F452.ext E458).other W472 (Or.inr (slot_ne (Or.inr (hw _ (List.mem_of_getElem? (i := 23) rfl))) (Or.inr (hw _ (List.mem_of_getElem? (i := 25) rfl))) (by decide) (t := (.array .int)) (t' := (.array .int)) (by decide) (by decide))))
  have F486 : Exa Z h472 a "com/example/wache/wache/AttemptTimes" := (F471.wr W472)
  have F487 : Arv Z h472 b421 k421 (.array .long) (2 : Int32) [.null, .null] .null := (((((F428.other W431 ne425.symm).ext E438).other W450 ne425.symm).ext E458).other W472 ne425.symm)
  have F488 : Arv Z h472 b438 k438 .int (2 : Int32) [(.int (0 : Int32)), (.int (0 : Int32))] (.int (0 : Int32)) := (((F447.other W450 ne443.symm).ext E458).other W472 ne443.symm)
  have F489 : Arv Z h472 b458 k458 .int (2 : Int32) [(.int (0 : Int32)), (.int (0 : Int32))] (.int (0 : Int32)) := (F469.other W472 ne464.symm)
  have F490 : own_LA Z h472 b406 (4 : Int32) (fun _ => 0) := (((((((L412.other W415 ne409.symm).ext E421).other W431 ne409.symm).ext E438).other W450 ne409.symm).ext E458).other W472 ne409.symm)
  refine own_ret0 X472 hx hlk Bd.returns (hb hby own_d_prog_3_method_1_code_46) (by decide) (by decide) ?_
  rw [e472]
  exact ⟨b406, b421, b438, b458, k421, k438, k458, (fun _ => .null), (fun _ => 0), (fun _ => 0), (fun _ => 2), (fun _ _ => 0), N473, rfl, ⟨fun _ => 0, F486, F481, F482, F483, F484, F485, F474, F487, F488, F489, F490, fun q hq => Or.inl ⟨rfl, rfl, fun _ _ => rfl⟩, (by intro b e; cases e), O421, g1, g410, g427, g446, g468, ne467, a0, _, (hw _ (List.mem_of_getElem? (i := 2) rfl))⟩, (fun _ => rfl), (fun _ => rfl), (fun _ => rfl)⟩
theorem own_d_prog_3_method_5_code_0 : decode prog_3_method_5_code 0 = .ok (.aload_n 0, 1) := by decide +kernel
theorem own_d_prog_3_method_5_code_1 : decode prog_3_method_5_code 1 = .ok (.getfield 22, 3) := by decide +kernel
theorem own_d_prog_3_method_5_code_4 : decode prog_3_method_5_code 4 = .ok (.iload_n 1, 1) := by decide +kernel
theorem own_d_prog_3_method_5_code_5 : decode prog_3_method_5_code 5 = .ok (.aconst_null, 1) := by decide +kernel
theorem own_d_prog_3_method_5_code_6 : decode prog_3_method_5_code 6 = .ok (.aastore, 1) := by decide +kernel
theorem own_d_prog_3_method_5_code_7 : decode prog_3_method_5_code 7 = .ok (.aload_n 0, 1) := by decide +kernel
theorem own_d_prog_3_method_5_code_8 : decode prog_3_method_5_code 8 = .ok (.getfield 26, 3) := by decide +kernel
theorem own_d_prog_3_method_5_code_11 : decode prog_3_method_5_code 11 = .ok (.iload_n 1, 1) := by decide +kernel
theorem own_d_prog_3_method_5_code_12 : decode prog_3_method_5_code 12 = .ok (.iconst 0, 1) := by decide +kernel
theorem own_d_prog_3_method_5_code_13 : decode prog_3_method_5_code 13 = .ok (.iastore, 1) := by decide +kernel
theorem own_d_prog_3_method_5_code_14 : decode prog_3_method_5_code 14 = .ok (.aload_n 0, 1) := by decide +kernel
theorem own_d_prog_3_method_5_code_15 : decode prog_3_method_5_code 15 = .ok (.getfield 30, 3) := by decide +kernel
theorem own_d_prog_3_method_5_code_18 : decode prog_3_method_5_code 18 = .ok (.iload_n 1, 1) := by decide +kernel
theorem own_d_prog_3_method_5_code_19 : decode prog_3_method_5_code 19 = .ok (.iconst 0, 1) := by decide +kernel
theorem own_d_prog_3_method_5_code_20 : decode prog_3_method_5_code 20 = .ok (.iastore, 1) := by decide +kernel
theorem own_d_prog_3_method_5_code_21 : decode prog_3_method_5_code 21 = .ok (.return_, 1) := by decide +kernel
theorem own_pn10 : plainFor (⟨"com/example/wache/wache/AttemptTimes", "clear", "(I)V"⟩ : MethodName) = true := by decide +kernel
def own_rm_clear_Q (Z : State) (iv : Int32) (i : Nat) (a : Addr) (span : Int64) (cap : Int32) (sh : Addr) (ow : Addr) (hd : Addr) (sz : Addr) (ko : ClassId) (kh : ClassId) (ks : ClassId) (fw : Nat → Value) (fh : Nat → Int32) (fs : Nat → Int32) (fz : Nat → Int32) (fF : Nat → Nat → Int64) (h0 : Heap) (n0 : Nat) (v : Option Value) (h : Heap) (L : List Loc) : Prop := ∃ fw2 : Nat → Value, ∃ fh2 : Nat → Int32, ∃ fs2 : Nat → Int32, ∃ fz2 : Nat → Int32, ∃ fF2 : Nat → Nat → Int64, Fr n0 L ∧ v = none ∧ own_AT Z h n0 a span cap sh ow hd sz ko kh ks fw2 fh2 fs2 fz2 fF2 ∧ fh2 i = 0 ∧ fs2 i = 0 ∧ fz2 i = 2 ∧ (∀ q, q ≠ i → fh2 q = fh q ∧ fs2 q = fs q ∧ fz2 q = fz q ∧ fF2 q = fF q)
theorem own_rm_clear_ef (m : MethodId) (a : Addr) (iv : Int32)  : entryFrame m #[(.ref a), (.int iv)] 2 = mkF m 0 #[.val (.ref a), .val (.int iv)] [] := by first | (simp [entryFrame, mkF, argsToLocals, Value.category]; done) | rfl
set_option maxRecDepth 65536 in
set_option maxHeartbeats 40000000 in
theorem own_rm_clear (l : Launch) (Z : State) (a0 : Array Value) (hw : ∀ d ∈ tables_1, d.before a0 Z = true) (ws : List Jvm.Cond) (iv : Int32) (i : Nat) (a : Addr) (span : Int64) (cap : Int32) (sh : Addr) (ow : Addr) (hd : Addr) (sz : Addr) (ko : ClassId) (kh : ClassId) (ks : ClassId) (fw : Nat → Value) (fh : Nat → Int32) (fs : Nat → Int32) (fz : Nat → Int32) (fF : Nat → Nat → Int64) (h0 : Heap) (n0 : Nat) (Z0 : n0 ≤ h0.size) (D : own_AT Z h0 n0 a span cap sh ow hd sz ko kh ks fw fh fs fz fF) (hi : own_I iv i) :
    MetFree l (⟨"com/example/wache/wache/AttemptTimes", "clear", "(I)V"⟩ : MethodName) (head1 (Jvm.Cond.code (⟨"com/example/wache/wache/AttemptTimes", "clear", "(I)V"⟩ : MethodName) prog_3_method_5_code 2 none :: ws) ({ frames := 0, cells := 0, slots := 0, locals := 0 } : Room)) (fun aQ UQ => aQ = #[(.ref a), (.int iv)] ∧ Z.Warmed39 UQ.vm ∧ UQ.heap = h0) (fun _ _ _ _ _ => True) (fun _ UQ oQ U2 => ∃ vQ LQ, oQ = .returned vQ ∧ own_rm_clear_Q Z iv i a span cap sh ow hd sz ko kh ks fw fh fs fz fF h0 n0 vQ U2.heap LQ ∧ FrameEnd UQ oQ U2 LQ ({ frames := 0, cells := 0, slots := 0, locals := 0 } : Room).cells ({ frames := 0, cells := 0, slots := 0, locals := 0 } : Room).slots) := by
  refine MetFree.of_bodySF own_pn10 hisR ?_
  intro p e s m args below meth c s₁ Bd hml0 hP hK
  obtain ⟨rfl, hZ, hh⟩ := hP
  have hx := Bd.exec
  have hby := Bd.bytes
  have hml : c.maxLocals = 2 := hml0
  have hlk := BodyLoose.notSynchronized Bd
  have hown : s.vm.findClass "com/example/wache/wache/AttemptTimes" = some m.cls := findClass_of_methodNamed Bd.named
  have hnm := (name_of_methodNamed Bd.named Bd.method).1
  have X0 : Stand p l e ({ frames := 0, cells := 0, slots := 0, locals := 0 } : Room) s m #[(.ref a), (.int iv)] below meth c s₁ [] 0 0 := Stand.of_body Bd
  have e0 : s₁.heap = h0 := by rw [← hh, Bd.state]; rfl
  have N0 := Fr.nil n0
  show own_Go p e below s (own_rm_clear_Q Z iv i a span cap sh ow hd sz ko kh ks fw fh fs fz fF h0 n0) ({ frames := 0, cells := 0, slots := 0, locals := 0 } : Room).cells ({ frames := 0, cells := 0, slots := 0, locals := 0 } : Room).slots (s₁.setTop (entryFrame m #[(.ref a), (.int iv)] 2))
  rw [own_rm_clear_ef]
  show own_Go p e below s _ _ _ (s₁.setTop (mkF m 0 #[.val (.ref a), .val (.int iv)] []))
  refine own_st (fun _ kQ => XS.aloadN X0.here hx rfl (hb hby own_d_prog_3_method_5_code_0) rfl rfl kQ) ?_
  show own_Go p e below s _ _ _ (s₁.setTop (mkF m 1 #[.val (.ref a), .val (.int iv)] [(.ref a)]))
  have F491 : Fld Z h0 a "com/example/wache/wache/AttemptTimes" "own" "[[J" (.ref ow) := D.fow
  obtain ⟨T492, X492, e492, st492⟩ := getF X0 hx hZ hown (host := "") (Or.inl (hw _ (List.mem_of_getElem? (i := 19) rfl))) Via.refl e0 F491 (g := (mkF m 1 #[.val (.ref a), .val (.int iv)] [(.ref a)])) rfl rfl (hb hby own_d_prog_3_method_5_code_1)
  refine own_st st492 ?_
  show own_Go p e below s _ _ _ (T492.setTop (mkF m 4 #[.val (.ref a), .val (.int iv)] [(.ref ow)]))
  refine own_st (fun _ kQ => XS.iloadN X492.here hx rfl (hb hby own_d_prog_3_method_5_code_4) rfl kQ) ?_
  show own_Go p e below s _ _ _ (T492.setTop (mkF m 5 #[.val (.ref a), .val (.int iv)] [(.int iv), (.ref ow)]))
  refine own_st (fun _ kQ => XS.aconstNull X492.here hx rfl (hb hby own_d_prog_3_method_5_code_5) kQ) ?_
  show own_Go p e below s _ _ _ (T492.setTop (mkF m 6 #[.val (.ref a), .val (.int iv)] [.null, (.int iv), (.ref ow)]))
  have F494 : Arv Z h0 ow ko (.array .long) (2 : Int32) [(fw 0), (fw 1)] .null := D.vow
  obtain ⟨cl493, Ar493, kc493, S493, Nn493, H493, G493⟩ := id F494
  have hin493 : ¬ (iv < 0 ∨ cl493.slots.size ≤ (iv : Int32).toNatClampNeg) := inb_of S493 (own_I.inb hi)
  obtain ⟨T493, h493, X493, e493, W493, st493⟩ := stR X492 hx hZ e492 Ar493 (j := iv) hin493 rfl (Or.inl rfl) (g := (mkF m 6 #[.val (.ref a), .val (.int iv)] [.null, (.int iv), (.ref ow)])) rfl rfl (hb hby own_d_prog_3_method_5_code_6)
  refine own_st st493 ?_
  have N495 := Fr.snoc X493 N0 D.gs.2.2.1
  obtain ⟨G497, D496⟩ := D.clr hi W493
  have Zs498 : n0 ≤ h493.size := Nat.le_trans Z0 (Nat.le_of_eq W493.size.symm)
  show own_Go p e below s _ _ _ (T493.setTop (mkF m 7 #[.val (.ref a), .val (.int iv)] []))
  refine own_st (fun _ kQ => XS.aloadN X493.here hx rfl (hb hby own_d_prog_3_method_5_code_7) rfl rfl kQ) ?_
  show own_Go p e below s _ _ _ (T493.setTop (mkF m 8 #[.val (.ref a), .val (.int iv)] [(.ref a)]))
  have F499 : Fld Z h493 a "com/example/wache/wache/AttemptTimes" "heads" "[I" (.ref hd) := D496.fhd
  obtain ⟨T500, X500, e500, st500⟩ := getF X493 hx hZ hown (host := "") (Or.inl (hw _ (List.mem_of_getElem? (i := 22) rfl))) Via.refl e493 F499 (g := (mkF m 8 #[.val (.ref a), .val (.int iv)] [(.ref a)])) rfl rfl (hb hby own_d_prog_3_method_5_code_8)
  refine own_st st500 ?_
  show own_Go p e below s _ _ _ (T500.setTop (mkF m 11 #[.val (.ref a), .val (.int iv)] [(.ref hd)]))
  refine own_st (fun _ kQ => XS.iloadN X500.here hx rfl (hb hby own_d_prog_3_method_5_code_11) rfl kQ) ?_
  show own_Go p e below s _ _ _ (T500.setTop (mkF m 12 #[.val (.ref a), .val (.int iv)] [(.int iv), (.ref hd)]))
  refine own_st (fun _ kQ => XT.iconstV X500.here hx rfl (0 : Int32) (hb hby own_d_prog_3_method_5_code_12) (by decide) kQ) ?_
  show own_Go p e below s _ _ _ (T500.setTop (mkF m 13 #[.val (.ref a), .val (.int iv)] [(.int (0 : Int32)), (.int iv), (.ref hd)]))
  have F502 : Arv Z h493 hd kh .int (2 : Int32) [(.int (fh 0)), (.int (fh 1))] (.int (0 : Int32)) := D496.vhd
  obtain ⟨cl501, Ar501, kc501, S501, Nn501, H501, G501⟩ := id F502
  have hin501 : ¬ (iv < 0 ∨ cl501.slots.size ≤ (iv : Int32).toNatClampNeg) := inb_of S501 (own_I.inb hi)
  obtain ⟨T501, h501, X501, e501, W501, st501⟩ := stI X500 hx hZ e500 Ar501 (j := iv) hin501 (g := (mkF m 13 #[.val (.ref a), .val (.int iv)] [(.int (0 : Int32)), (.int iv), (.ref hd)])) rfl rfl (hb hby own_d_prog_3_method_5_code_13)
  refine own_st st501 ?_
  have N503 := Fr.snoc X501 N495 D496.gs.2.2.2.1
  have D504 : own_AT Z h501 n0 a span cap sh ow hd sz ko kh ks (own_up fw i .null) (own_up fh i (0 : Int32)) fs (own_up fz i 2) (own_up fF i G497) := D496.setH hi W501
  have Zs505 : n0 ≤ h501.size := Nat.le_trans Zs498 (Nat.le_of_eq W501.size.symm)
  show own_Go p e below s _ _ _ (T501.setTop (mkF m 14 #[.val (.ref a), .val (.int iv)] []))
  refine own_st (fun _ kQ => XS.aloadN X501.here hx rfl (hb hby own_d_prog_3_method_5_code_14) rfl rfl kQ) ?_
  show own_Go p e below s _ _ _ (T501.setTop (mkF m 15 #[.val (.ref a), .val (.int iv)] [(.ref a)]))
  have F506 : Fld Z h501 a "com/example/wache/wache/AttemptTimes" "sizes" "[I" (.ref sz) := D504.fsz
  obtain ⟨T507, X507, e507, st507⟩ := getF X501 hx hZ hown (host := "") (Or.inl (hw _ (List.mem_of_getElem? (i := 24) rfl))) Via.refl e501 F506 (g := (mkF m 15 #[.val (.ref a), .val (.int iv)] [(.ref a)])) rfl rfl (hb hby own_d_prog_3_method_5_code_15)
  refine own_st st507 ?_
  show own_Go p e below s _ _ _ (T507.setTop (mkF m 18 #[.val (.ref a), .val (.int iv)] [(.ref sz)]))
  refine own_st (fun _ kQ => XS.iloadN X507.here hx rfl (hb hby own_d_prog_3_method_5_code_18) rfl kQ) ?_
  show own_Go p e below s _ _ _ (T507.setTop (mkF m 19 #[.val (.ref a), .val (.int iv)] [(.int iv), (.ref sz)]))
  refine own_st (fun _ kQ => XT.iconstV X507.here hx rfl (0 : Int32) (hb hby own_d_prog_3_method_5_code_19) (by decide) kQ) ?_
  show own_Go p e below s _ _ _ (T507.setTop (mkF m 20 #[.val (.ref a), .val (.int iv)] [(.int (0 : Int32)), (.int iv), (.ref sz)]))
  have F509 : Arv Z h501 sz ks .int (2 : Int32) [(.int (fs 0)), (.int (fs 1))] (.int (0 : Int32)) := D504.vsz
  obtain ⟨cl508, Ar508, kc508, S508, Nn508, H508, G508⟩ := id F509
  have hin508 : ¬ (iv < 0 ∨ cl508.slots.size ≤ (iv : Int32).toNatClampNeg) := inb_of S508 (own_I.inb hi)
  obtain ⟨T508, h508, X508, e508, W508, st508⟩ := stI X507 hx hZ e507 Ar508 (j := iv) hin508 (g := (mkF m 20 #[.val (.ref a), .val (.int iv)] [(.int (0 : Int32)), (.int iv), (.ref sz)])) rfl rfl (hb hby own_d_prog_3_method_5_code_20)
  refine own_st st508 ?_
  have N510 := Fr.snoc X508 N503 D504.gs.2.2.2.2
  have D511 : own_AT Z h508 n0 a span cap sh ow hd sz ko kh ks (own_up fw i .null) (own_up fh i (0 : Int32)) (own_up fs i (0 : Int32)) (own_up fz i 2) (own_up fF i G497) := D504.setS hi W508
  have Zs512 : n0 ≤ h508.size := Nat.le_trans Zs505 (Nat.le_of_eq W508.size.symm)
  show own_Go p e below s _ _ _ (T508.setTop (mkF m 21 #[.val (.ref a), .val (.int iv)] []))
  refine own_ret0 X508 hx hlk Bd.returns (hb hby own_d_prog_3_method_5_code_21) (by decide) (by decide) ?_
  rw [e508]
  exact ⟨(own_up fw i .null), (own_up fh i (0 : Int32)), (own_up fs i (0 : Int32)), (own_up fz i 2), (own_up fF i G497), N510, rfl, D511, (own_up_same _ _ _), (own_up_same _ _ _), (own_up_same _ _ _), (fun q hq => ⟨own_up_ne hq, own_up_ne hq, own_up_ne hq, own_up_ne hq⟩)⟩
theorem own_d_jdk_29_method_69_code_0 : decode jdk_29_method_69_code 0 = .ok (.iload_n 0, 1) := by decide +kernel
theorem own_d_jdk_29_method_69_code_1 : decode jdk_29_method_69_code 1 = .ok (.iload_n 1, 1) := by decide +kernel
theorem own_d_jdk_29_method_69_code_2 : decode jdk_29_method_69_code 2 = .ok (.if_icmp .gt 7, 3) := by decide +kernel
theorem own_d_jdk_29_method_69_code_5 : decode jdk_29_method_69_code 5 = .ok (.iload_n 0, 1) := by decide +kernel
theorem own_d_jdk_29_method_69_code_6 : decode jdk_29_method_69_code 6 = .ok (.goto 4, 3) := by decide +kernel
theorem own_d_jdk_29_method_69_code_9 : decode jdk_29_method_69_code 9 = .ok (.iload_n 1, 1) := by decide +kernel
theorem own_d_jdk_29_method_69_code_10 : decode jdk_29_method_69_code 10 = .ok (.ireturn, 1) := by decide +kernel
theorem own_pn11 : plainFor (⟨"java/lang/Math", "min", "(II)I"⟩ : MethodName) = true := by decide +kernel
def own_rm_minI_Q (Z : State) (p1 : Int32) (p2 : Int32) (h0 : Heap) (n0 : Nat) (v : Option Value) (h : Heap) (L : List Loc) : Prop := Fr n0 L ∧ v = some (.int (own_minI p1 p2)) ∧ h = h0
theorem own_rm_minI_ef (m : MethodId) (p1 : Int32) (p2 : Int32)  : entryFrame m #[(.int p1), (.int p2)] 2 = mkF m 0 #[.val (.int p1), .val (.int p2)] [] := by first | (simp [entryFrame, mkF, argsToLocals, Value.category]; done) | rfl
set_option maxRecDepth 65536 in
set_option maxHeartbeats 40000000 in
theorem own_rm_minI (l : Launch) (Z : State) (a0 : Array Value) (hw : ∀ d ∈ tables_1, d.before a0 Z = true) (ws : List Jvm.Cond) (p1 : Int32) (p2 : Int32) (h0 : Heap) (n0 : Nat) (Z0 : n0 ≤ h0.size)  :
    MetFree l (⟨"java/lang/Math", "min", "(II)I"⟩ : MethodName) (head1 (Jvm.Cond.code (⟨"java/lang/Math", "min", "(II)I"⟩ : MethodName) jdk_29_method_69_code 2 (some .int) :: ws) ({ frames := 0, cells := 0, slots := 0, locals := 0 } : Room)) (fun aQ UQ => aQ = #[(.int p1), (.int p2)] ∧ Z.Warmed39 UQ.vm ∧ UQ.heap = h0) (fun _ _ _ _ _ => True) (fun _ UQ oQ U2 => ∃ vQ LQ, oQ = .returned vQ ∧ own_rm_minI_Q Z p1 p2 h0 n0 vQ U2.heap LQ ∧ FrameEnd UQ oQ U2 LQ ({ frames := 0, cells := 0, slots := 0, locals := 0 } : Room).cells ({ frames := 0, cells := 0, slots := 0, locals := 0 } : Room).slots) := by
  refine MetFree.of_bodySF own_pn11 hisR ?_
  intro p e s m args below meth c s₁ Bd hml0 hP hK
  obtain ⟨rfl, hZ, hh⟩ := hP
  have hx := Bd.exec
  have hby := Bd.bytes
  have hml : c.maxLocals = 2 := hml0
  have hlk := BodyLoose.notSynchronized Bd
  have hown : s.vm.findClass "java/lang/Math" = some m.cls := findClass_of_methodNamed Bd.named
  have hnm := (name_of_methodNamed Bd.named Bd.method).1
  have X0 : Stand p l e ({ frames := 0, cells := 0, slots := 0, locals := 0 } : Room) s m #[(.int p1), (.int p2)] below meth c s₁ [] 0 0 := Stand.of_body Bd
  have e0 : s₁.heap = h0 := by rw [← hh, Bd.state]; rfl
  have N0 := Fr.nil n0
  show own_Go p e below s (own_rm_minI_Q Z p1 p2 h0 n0) ({ frames := 0, cells := 0, slots := 0, locals := 0 } : Room).cells ({ frames := 0, cells := 0, slots := 0, locals := 0 } : Room).slots (s₁.setTop (entryFrame m #[(.int p1), (.int p2)] 2))
  rw [own_rm_minI_ef]
  show own_Go p e below s _ _ _ (s₁.setTop (mkF m 0 #[.val (.int p1), .val (.int p2)] []))
  refine own_st (fun _ kQ => XS.iloadN X0.here hx rfl (hb hby own_d_jdk_29_method_69_code_0) rfl kQ) ?_
  show own_Go p e below s _ _ _ (s₁.setTop (mkF m 1 #[.val (.int p1), .val (.int p2)] [(.int p1)]))
  refine own_st (fun _ kQ => XS.iloadN X0.here hx rfl (hb hby own_d_jdk_29_method_69_code_1) rfl kQ) ?_
  show own_Go p e below s _ _ _ (s₁.setTop (mkF m 2 #[.val (.int p1), .val (.int p2)] [(.int p2), (.int p1)]))
  by_cases hc513 : p2 < p1
  · refine own_st (fun _ kQ => XS.icmpYes X0.here hx rfl (pc0 := 2) (pc' := 9) rfl (hb hby own_d_jdk_29_method_69_code_2) rfl (XT.ii_gt_t hc513) (by decide) (by decide) kQ) ?_
    show own_Go p e below s _ _ _ (s₁.setTop (mkF m 9 #[.val (.int p1), .val (.int p2)] []))
    refine own_st (fun _ kQ => XS.iloadN X0.here hx rfl (hb hby own_d_jdk_29_method_69_code_9) rfl kQ) ?_
    show own_Go p e below s _ _ _ (s₁.setTop (mkF m 10 #[.val (.int p1), .val (.int p2)] [(.int p2)]))
    refine own_retI X0 hx hlk Bd.returns (hb hby own_d_jdk_29_method_69_code_10) (by decide) (by decide) ?_
    rw [e0]
    exact ⟨N0, (by unfold own_minI; rw [if_pos hc513]), rfl⟩
  · refine own_st (fun _ kQ => XS.icmpNo X0.here hx rfl (hb hby own_d_jdk_29_method_69_code_2) rfl (XT.ii_gt_f hc513) kQ) ?_
    show own_Go p e below s _ _ _ (s₁.setTop (mkF m 5 #[.val (.int p1), .val (.int p2)] []))
    refine own_st (fun _ kQ => XS.iloadN X0.here hx rfl (hb hby own_d_jdk_29_method_69_code_5) rfl kQ) ?_
    show own_Go p e below s _ _ _ (s₁.setTop (mkF m 6 #[.val (.int p1), .val (.int p2)] [(.int p1)]))
    refine own_st (fun _ kQ => XS.goto X0.here hx rfl (pc0 := 6) (pc' := 10) rfl (hb hby own_d_jdk_29_method_69_code_6) (by decide) (by decide) kQ) ?_
    show own_Go p e below s _ _ _ (s₁.setTop (mkF m 10 #[.val (.int p1), .val (.int p2)] [(.int p1)]))
    refine own_retI X0 hx hlk Bd.returns (hb hby own_d_jdk_29_method_69_code_10) (by decide) (by decide) ?_
    rw [e0]
    exact ⟨N0, (by unfold own_minI; rw [if_neg hc513]), rfl⟩
theorem own_d_prog_3_method_7_code_0 : decode prog_3_method_7_code 0 = .ok (.iconst 0, 1) := by decide +kernel
theorem own_d_prog_3_method_7_code_1 : decode prog_3_method_7_code 1 = .ok (.istore 4, 2) := by decide +kernel
theorem own_d_prog_3_method_7_code_3 : decode prog_3_method_7_code 3 = .ok (.aload_n 0, 1) := by decide +kernel
theorem own_d_prog_3_method_7_code_4 : decode prog_3_method_7_code 4 = .ok (.getfield 30, 3) := by decide +kernel
theorem own_d_prog_3_method_7_code_7 : decode prog_3_method_7_code 7 = .ok (.iload_n 1, 1) := by decide +kernel
theorem own_d_prog_3_method_7_code_8 : decode prog_3_method_7_code 8 = .ok (.iaload, 1) := by decide +kernel
theorem own_d_prog_3_method_7_code_9 : decode prog_3_method_7_code 9 = .ok (.istore 5, 2) := by decide +kernel
theorem own_d_prog_3_method_7_code_11 : decode prog_3_method_7_code 11 = .ok (.iload 4, 2) := by decide +kernel
theorem own_d_prog_3_method_7_code_13 : decode prog_3_method_7_code 13 = .ok (.iload 5, 2) := by decide +kernel
theorem own_d_prog_3_method_7_code_15 : decode prog_3_method_7_code 15 = .ok (.if_icmp .ge 40, 3) := by decide +kernel
theorem own_d_prog_3_method_7_code_18 : decode prog_3_method_7_code 18 = .ok (.iload 4, 2) := by decide +kernel
theorem own_d_prog_3_method_7_code_20 : decode prog_3_method_7_code 20 = .ok (.iload 5, 2) := by decide +kernel
theorem own_d_prog_3_method_7_code_22 : decode prog_3_method_7_code 22 = .ok (.iadd, 1) := by decide +kernel
theorem own_d_prog_3_method_7_code_23 : decode prog_3_method_7_code 23 = .ok (.iconst 1, 1) := by decide +kernel
theorem own_d_prog_3_method_7_code_24 : decode prog_3_method_7_code 24 = .ok (.iushr, 1) := by decide +kernel
theorem own_d_prog_3_method_7_code_25 : decode prog_3_method_7_code 25 = .ok (.istore 6, 2) := by decide +kernel
theorem own_d_prog_3_method_7_code_27 : decode prog_3_method_7_code 27 = .ok (.aload_n 0, 1) := by decide +kernel
theorem own_d_prog_3_method_7_code_28 : decode prog_3_method_7_code 28 = .ok (.iload_n 1, 1) := by decide +kernel
theorem own_d_prog_3_method_7_code_29 : decode prog_3_method_7_code 29 = .ok (.iload 6, 2) := by decide +kernel
theorem own_d_prog_3_method_7_code_31 : decode prog_3_method_7_code 31 = .ok (.invokevirtual 33, 3) := by decide +kernel
theorem own_d_prog_3_method_7_code_34 : decode prog_3_method_7_code 34 = .ok (.lload_n 2, 1) := by decide +kernel
theorem own_d_prog_3_method_7_code_35 : decode prog_3_method_7_code 35 = .ok (.lcmp, 1) := by decide +kernel
theorem own_d_prog_3_method_7_code_36 : decode prog_3_method_7_code 36 = .ok (.ifCond .le 10, 3) := by decide +kernel
theorem own_d_prog_3_method_7_code_39 : decode prog_3_method_7_code 39 = .ok (.iload 6, 2) := by decide +kernel
theorem own_d_prog_3_method_7_code_41 : decode prog_3_method_7_code 41 = .ok (.istore 5, 2) := by decide +kernel
theorem own_d_prog_3_method_7_code_43 : decode prog_3_method_7_code 43 = .ok (.goto 9, 3) := by decide +kernel
theorem own_d_prog_3_method_7_code_46 : decode prog_3_method_7_code 46 = .ok (.iload 6, 2) := by decide +kernel
theorem own_d_prog_3_method_7_code_48 : decode prog_3_method_7_code 48 = .ok (.iconst 1, 1) := by decide +kernel
theorem own_d_prog_3_method_7_code_49 : decode prog_3_method_7_code 49 = .ok (.iadd, 1) := by decide +kernel
theorem own_d_prog_3_method_7_code_50 : decode prog_3_method_7_code 50 = .ok (.istore 4, 2) := by decide +kernel
theorem own_d_prog_3_method_7_code_52 : decode prog_3_method_7_code 52 = .ok (.goto (-41), 3) := by decide +kernel
theorem own_d_prog_3_method_7_code_55 : decode prog_3_method_7_code 55 = .ok (.iload 4, 2) := by decide +kernel
theorem own_d_prog_3_method_7_code_57 : decode prog_3_method_7_code 57 = .ok (.ireturn, 1) := by decide +kernel
theorem own_pn12 : plainFor (⟨"com/example/wache/wache/AttemptTimes", "firstAfter", "(IJ)I"⟩ : MethodName) = true := by decide +kernel
def own_rm_fa1_Q (Z : State) (iv : Int32) (i : Nat) (a : Addr) (span : Int64) (cap : Int32) (sh : Addr) (ow : Addr) (hd : Addr) (sz : Addr) (ko : ClassId) (kh : ClassId) (ks : ClassId) (fw : Nat → Value) (fh : Nat → Int32) (fs : Nat → Int32) (fz : Nat → Int32) (fF : Nat → Nat → Int64) (lim : Int64) (el0 : Int64) (h0 : Heap) (n0 : Nat) (v : Option Value) (h : Heap) (L : List Loc) : Prop := Fr n0 L ∧ v = some (.int (own_fa1 lim el0)) ∧ h = h0
theorem own_rm_fa1_ef (m : MethodId) (a : Addr) (iv : Int32) (lim : Int64)  : entryFrame m #[(.ref a), (.int iv), (.long lim)] 7 = mkF m 0 #[.val (.ref a), .val (.int iv), .val (.long lim), .second, .unset, .unset, .unset] [] := by first | (simp [entryFrame, mkF, argsToLocals, Value.category]; done) | rfl
set_option maxRecDepth 65536 in
set_option maxHeartbeats 40000000 in
theorem own_rm_fa1 (l : Launch) (Z : State) (a0 : Array Value) (hw : ∀ d ∈ tables_1, d.before a0 Z = true) (ws : List Jvm.Cond) (iv : Int32) (i : Nat) (a : Addr) (span : Int64) (cap : Int32) (sh : Addr) (ow : Addr) (hd : Addr) (sz : Addr) (ko : ClassId) (kh : ClassId) (ks : ClassId) (fw : Nat → Value) (fh : Nat → Int32) (fs : Nat → Int32) (fz : Nat → Int32) (fF : Nat → Nat → Int64) (lim : Int64) (el0 : Int64) (h0 : Heap) (n0 : Nat) (Z0 : n0 ≤ h0.size) (D : own_AT Z h0 n0 a span cap sh ow hd sz ko kh ks fw fh fs fz fF) (hi : own_I iv i) (wf : own_WF cap (fh i) (fs i) (fz i)) (hsn : (fs i) = 1) (he0 : (fF i (own_idx (fh i) (0 : Int32) (fz i)).toNatClampNeg) = el0) :
    MetFree l (⟨"com/example/wache/wache/AttemptTimes", "firstAfter", "(IJ)I"⟩ : MethodName) (head1 (Jvm.Cond.code (⟨"com/example/wache/wache/AttemptTimes", "firstAfter", "(IJ)I"⟩ : MethodName) prog_3_method_7_code 7 (some .int) :: ws) ({ frames := 3, cells := 0, slots := 0, locals := 47 } : Room)) (fun aQ UQ => aQ = #[(.ref a), (.int iv), (.long lim)] ∧ Z.Warmed39 UQ.vm ∧ UQ.heap = h0) (fun _ _ _ _ _ => True) (fun _ UQ oQ U2 => ∃ vQ LQ, oQ = .returned vQ ∧ own_rm_fa1_Q Z iv i a span cap sh ow hd sz ko kh ks fw fh fs fz fF lim el0 h0 n0 vQ U2.heap LQ ∧ FrameEnd UQ oQ U2 LQ ({ frames := 3, cells := 0, slots := 0, locals := 47 } : Room).cells ({ frames := 3, cells := 0, slots := 0, locals := 47 } : Room).slots) := by
  refine MetFree.of_bodySF own_pn12 hisR ?_
  intro p e s m args below meth c s₁ Bd hml0 hP hK
  obtain ⟨rfl, hZ, hh⟩ := hP
  have hx := Bd.exec
  have hby := Bd.bytes
  have hml : c.maxLocals = 7 := hml0
  have hlk := BodyLoose.notSynchronized Bd
  have hown : s.vm.findClass "com/example/wache/wache/AttemptTimes" = some m.cls := findClass_of_methodNamed Bd.named
  have hnm := (name_of_methodNamed Bd.named Bd.method).1
  have X0 : Stand p l e ({ frames := 3, cells := 0, slots := 0, locals := 47 } : Room) s m #[(.ref a), (.int iv), (.long lim)] below meth c s₁ [] 0 0 := Stand.of_body Bd
  have e0 : s₁.heap = h0 := by rw [← hh, Bd.state]; rfl
  have N0 := Fr.nil n0
  show own_Go p e below s (own_rm_fa1_Q Z iv i a span cap sh ow hd sz ko kh ks fw fh fs fz fF lim el0 h0 n0) ({ frames := 3, cells := 0, slots := 0, locals := 47 } : Room).cells ({ frames := 3, cells := 0, slots := 0, locals := 47 } : Room).slots (s₁.setTop (entryFrame m #[(.ref a), (.int iv), (.long lim)] 7))
  rw [own_rm_fa1_ef]
  show own_Go p e below s _ _ _ (s₁.setTop (mkF m 0 #[.val (.ref a), .val (.int iv), .val (.long lim), .second, .unset, .unset, .unset] []))
  refine own_st (fun _ kQ => XT.iconstV X0.here hx rfl (0 : Int32) (hb hby own_d_prog_3_method_7_code_0) (by decide) kQ) ?_
  show own_Go p e below s _ _ _ (s₁.setTop (mkF m 1 #[.val (.ref a), .val (.int iv), .val (.long lim), .second, .unset, .unset, .unset] [(.int (0 : Int32))]))
  refine own_st (fun _ kQ => XS.istore X0.here hx rfl (hb hby own_d_prog_3_method_7_code_1) rfl (l' := #[.val (.ref a), .val (.int iv), .val (.long lim), .second, .val (.int (0 : Int32)), .unset, .unset]) rfl kQ) ?_
  show own_Go p e below s _ _ _ (s₁.setTop (mkF m 3 #[.val (.ref a), .val (.int iv), .val (.long lim), .second, .val (.int (0 : Int32)), .unset, .unset] []))
  refine own_st (fun _ kQ => XS.aloadN X0.here hx rfl (hb hby own_d_prog_3_method_7_code_3) rfl rfl kQ) ?_
  show own_Go p e below s _ _ _ (s₁.setTop (mkF m 4 #[.val (.ref a), .val (.int iv), .val (.long lim), .second, .val (.int (0 : Int32)), .unset, .unset] [(.ref a)]))
  have F514 : Fld Z h0 a "com/example/wache/wache/AttemptTimes" "sizes" "[I" (.ref sz) := D.fsz
  obtain ⟨T515, X515, e515, st515⟩ := getF X0 hx hZ hown (host := "") (Or.inl (hw _ (List.mem_of_getElem? (i := 24) rfl))) Via.refl e0 F514 (g := (mkF m 4 #[.val (.ref a), .val (.int iv), .val (.long lim), .second, .val (.int (0 : Int32)), .unset, .unset] [(.ref a)])) rfl rfl (hb hby own_d_prog_3_method_7_code_4)
  refine own_st st515 ?_
  show own_Go p e below s _ _ _ (T515.setTop (mkF m 7 #[.val (.ref a), .val (.int iv), .val (.long lim), .second, .val (.int (0 : Int32)), .unset, .unset] [(.ref sz)]))
  refine own_st (fun _ kQ => XS.iloadN X515.here hx rfl (hb hby own_d_prog_3_method_7_code_7) rfl kQ) ?_
  show own_Go p e below s _ _ _ (T515.setTop (mkF m 8 #[.val (.ref a), .val (.int iv), .val (.long lim), .second, .val (.int (0 : Int32)), .unset, .unset] [(.int iv), (.ref sz)]))
  have F516 : Arv Z h0 sz ks .int (2 : Int32) [(.int (fs 0)), (.int (fs 1))] (.int (0 : Int32)) := D.vsz
  obtain ⟨cl517, Ar517, kc517, S517, Nn517, H517, G517⟩ := id F516
  have hin517 : ¬ (iv < 0 ∨ cl517.slots.size ≤ (iv : Int32).toNatClampNeg) := inb_of S517 (own_I.inb hi)
  have hat517 : cl517.slots[(iv : Int32).toNatClampNeg]? = some (.int (1 : Int32)) := H517.at hin517 ((own_I.getI hi fs _).trans (congrArg Value.int hsn))
  refine own_st (fun _ kQ => X515.iaload hx (j := iv) (v := (.int (1 : Int32))) (own_hp e515 Ar517.1) (State.isArrayOf_alike hZ.alike Ar517.2.1) Ar517.2.2 hin517 hat517 (g := (mkF m 8 #[.val (.ref a), .val (.int iv), .val (.long lim), .second, .val (.int (0 : Int32)), .unset, .unset] [(.int iv), (.ref sz)])) rfl rfl (hb hby own_d_prog_3_method_7_code_8) _ kQ) ?_
  show own_Go p e below s _ _ _ (T515.setTop (mkF m 9 #[.val (.ref a), .val (.int iv), .val (.long lim), .second, .val (.int (0 : Int32)), .unset, .unset] [(.int (1 : Int32))]))
  refine own_st (fun _ kQ => XS.istore X515.here hx rfl (hb hby own_d_prog_3_method_7_code_9) rfl (l' := #[.val (.ref a), .val (.int iv), .val (.long lim), .second, .val (.int (0 : Int32)), .val (.int (1 : Int32)), .unset]) rfl kQ) ?_
  show own_Go p e below s _ _ _ (T515.setTop (mkF m 11 #[.val (.ref a), .val (.int iv), .val (.long lim), .second, .val (.int (0 : Int32)), .val (.int (1 : Int32)), .unset] []))
  refine own_st (fun _ kQ => XS.iload X515.here hx rfl (hb hby own_d_prog_3_method_7_code_11) rfl kQ) ?_
  show own_Go p e below s _ _ _ (T515.setTop (mkF m 13 #[.val (.ref a), .val (.int iv), .val (.long lim), .second, .val (.int (0 : Int32)), .val (.int (1 : Int32)), .unset] [(.int (0 : Int32))]))
  refine own_st (fun _ kQ => XS.iload X515.here hx rfl (hb hby own_d_prog_3_method_7_code_13) rfl kQ) ?_
  show own_Go p e below s _ _ _ (T515.setTop (mkF m 15 #[.val (.ref a), .val (.int iv), .val (.long lim), .second, .val (.int (0 : Int32)), .val (.int (1 : Int32)), .unset] [(.int (1 : Int32)), (.int (0 : Int32))]))
  refine own_st (fun _ kQ => XS.icmpNo X515.here hx rfl (hb hby own_d_prog_3_method_7_code_15) rfl (XT.ii_ge_f (by decide)) kQ) ?_
  show own_Go p e below s _ _ _ (T515.setTop (mkF m 18 #[.val (.ref a), .val (.int iv), .val (.long lim), .second, .val (.int (0 : Int32)), .val (.int (1 : Int32)), .unset] []))
  refine own_st (fun _ kQ => XS.iload X515.here hx rfl (hb hby own_d_prog_3_method_7_code_18) rfl kQ) ?_
  show own_Go p e below s _ _ _ (T515.setTop (mkF m 20 #[.val (.ref a), .val (.int iv), .val (.long lim), .second, .val (.int (0 : Int32)), .val (.int (1 : Int32)), .unset] [(.int (0 : Int32))]))
  refine own_st (fun _ kQ => XS.iload X515.here hx rfl (hb hby own_d_prog_3_method_7_code_20) rfl kQ) ?_
  show own_Go p e below s _ _ _ (T515.setTop (mkF m 22 #[.val (.ref a), .val (.int iv), .val (.long lim), .second, .val (.int (0 : Int32)), .val (.int (1 : Int32)), .unset] [(.int (1 : Int32)), (.int (0 : Int32))]))
  refine own_st (fun _ kQ => XS.iadd X515.here hx rfl (hb hby own_d_prog_3_method_7_code_22) rfl kQ) ?_
  show own_Go p e below s _ _ _ (T515.setTop (mkF m 23 #[.val (.ref a), .val (.int iv), .val (.long lim), .second, .val (.int (0 : Int32)), .val (.int (1 : Int32)), .unset] [(.int (1 : Int32))]))
  refine own_st (fun _ kQ => XT.iconstV X515.here hx rfl (1 : Int32) (hb hby own_d_prog_3_method_7_code_23) (by decide) kQ) ?_
  show own_Go p e below s _ _ _ (T515.setTop (mkF m 24 #[.val (.ref a), .val (.int iv), .val (.long lim), .second, .val (.int (0 : Int32)), .val (.int (1 : Int32)), .unset] [(.int (1 : Int32)), (.int (1 : Int32))]))
  refine own_st (fun _ kQ => XT.iushr X515.here hx rfl (hb hby own_d_prog_3_method_7_code_24) rfl kQ) ?_
  rw [show (XT.ushr (1 : Int32) (1 : Int32)) = (0 : Int32) from by decide]
  show own_Go p e below s _ _ _ (T515.setTop (mkF m 25 #[.val (.ref a), .val (.int iv), .val (.long lim), .second, .val (.int (0 : Int32)), .val (.int (1 : Int32)), .unset] [(.int (0 : Int32))]))
  refine own_st (fun _ kQ => XS.istore X515.here hx rfl (hb hby own_d_prog_3_method_7_code_25) rfl (l' := #[.val (.ref a), .val (.int iv), .val (.long lim), .second, .val (.int (0 : Int32)), .val (.int (1 : Int32)), .val (.int (0 : Int32))]) rfl kQ) ?_
  show own_Go p e below s _ _ _ (T515.setTop (mkF m 27 #[.val (.ref a), .val (.int iv), .val (.long lim), .second, .val (.int (0 : Int32)), .val (.int (1 : Int32)), .val (.int (0 : Int32))] []))
  refine own_st (fun _ kQ => XS.aloadN X515.here hx rfl (hb hby own_d_prog_3_method_7_code_27) rfl rfl kQ) ?_
  show own_Go p e below s _ _ _ (T515.setTop (mkF m 28 #[.val (.ref a), .val (.int iv), .val (.long lim), .second, .val (.int (0 : Int32)), .val (.int (1 : Int32)), .val (.int (0 : Int32))] [(.ref a)]))
  refine own_st (fun _ kQ => XS.iloadN X515.here hx rfl (hb hby own_d_prog_3_method_7_code_28) rfl kQ) ?_
  show own_Go p e below s _ _ _ (T515.setTop (mkF m 29 #[.val (.ref a), .val (.int iv), .val (.long lim), .second, .val (.int (0 : Int32)), .val (.int (1 : Int32)), .val (.int (0 : Int32))] [(.int iv), (.ref a)]))
  refine own_st (fun _ kQ => XS.iload X515.here hx rfl (hb hby own_d_prog_3_method_7_code_29) rfl kQ) ?_
  show own_Go p e below s _ _ _ (T515.setTop (mkF m 31 #[.val (.ref a), .val (.int iv), .val (.long lim), .second, .val (.int (0 : Int32)), .val (.int (1 : Int32)), .val (.int (0 : Int32))] [(.int (0 : Int32)), (.int iv), (.ref a)]))
  have F519 : Exa Z h0 a "com/example/wache/wache/AttemptTimes" := D.exa
  obtain ⟨cq518, q518, q518'⟩ := F519.cell
  obtain ⟨_, _, ⟨T518, L518, k518, n518⟩, -, X518, ⟨Lc518, hQ518, l518, y518, z518⟩, st518⟩ := X515.privateBack hx (y := (⟨"com/example/wache/wache/AttemptTimes", "get", "(II)J"⟩ : MethodName)) hown (mvT hZ (hw _ (List.mem_of_getElem? (i := 48) rfl))) (mvT hZ (hw _ (List.mem_of_getElem? (i := 49) rfl))) (mvT hZ (own_selP (hw _ (List.mem_of_getElem? (i := 49) rfl)) (hw _ (List.mem_of_getElem? (i := 50) rfl)) (hw _ (List.mem_of_getElem? (i := 2) rfl)) (by decide))) (Cond.privateMethod_at (mvP hZ (hw _ (List.mem_of_getElem? (i := 50) rfl)) (args := #[]))) (mvT hZ (hw _ (List.mem_of_getElem? (i := 51) rfl))) (by decide) (backOf (W := 0) (own_rm_get l Z a0 hw [] iv i a span cap sh ow hd sz ko kh ks fw fh fs fz fF (0 : Int32) h0 n0 Z0 D hi (own_WF.idx wf (k := (0 : Int32)) (by decide) (by have e1 : ((0 : Int32) : Int32).toInt = 0 := (by decide); have q1 := wf.2.2.1; omega))) hZ (hw _ (List.mem_of_getElem? (i := 51) rfl)) (hw _ (List.mem_of_getElem? (i := 3) rfl)) (by decide) (by decide)) (g := (mkF m 31 #[.val (.ref a), .val (.int iv), .val (.long lim), .second, .val (.int (0 : Int32)), .val (.int (1 : Int32)), .val (.int (0 : Int32))] [(.int (0 : Int32)), (.int iv), (.ref a)])) rfl (by rw [hml]; rfl) (Steps.refl _) (a := a) (own_hp e515 q518) q518' (argsL := [(.int iv), (.int (0 : Int32))]) (rest := []) (lenOf own_pd2 rfl) rfl (by show 2 * 0 + _ ≤ _; exact Nat.le_of_eq rfl) (hb hby own_d_prog_3_method_7_code_31) (fun _ _ => ⟨rfl, e515, (by decide : 0 + 0 ≤ _), (by decide : 0 + 0 ≤ _)⟩)
  dsimp only [Pt.U, Pt.locs, Pt.cells, Pt.slots] at X518 l518 y518 z518 st518 hQ518
  subst l518 y518 z518
  obtain ⟨N518q, rfl, eh518⟩ := hQ518
  have N520 := Fr.app N0 N518q
  refine own_tr st518 ?_
  show own_Go p e below s _ _ _ (T518.setTop (mkF m 34 #[.val (.ref a), .val (.int iv), .val (.long lim), .second, .val (.int (0 : Int32)), .val (.int (1 : Int32)), .val (.int (0 : Int32))] [(.long (fF i (own_idx (fh i) (0 : Int32) (fz i)).toNatClampNeg))]))
  refine own_st (fun _ kQ => XT.lloadN X518.here hx rfl (hb hby own_d_prog_3_method_7_code_34) rfl kQ) ?_
  show own_Go p e below s _ _ _ (T518.setTop (mkF m 35 #[.val (.ref a), .val (.int iv), .val (.long lim), .second, .val (.int (0 : Int32)), .val (.int (1 : Int32)), .val (.int (0 : Int32))] [(.long lim), (.long (fF i (own_idx (fh i) (0 : Int32) (fz i)).toNatClampNeg))]))
  refine own_st (fun _ kQ => XT.lcmp X518.here hx rfl (hb hby own_d_prog_3_method_7_code_35) rfl kQ) ?_
  show own_Go p e below s _ _ _ (T518.setTop (mkF m 36 #[.val (.ref a), .val (.int iv), .val (.long lim), .second, .val (.int (0 : Int32)), .val (.int (1 : Int32)), .val (.int (0 : Int32))] [(.int (XT.cmpL (fF i (own_idx (fh i) (0 : Int32) (fz i)).toNatClampNeg) lim))]))
  by_cases hc521 : lim < (fF i (own_idx (fh i) (0 : Int32) (fz i)).toNatClampNeg)
  · refine own_st (fun _ kQ => XS.ifNo X518.here hx rfl (hb hby own_d_prog_3_method_7_code_36) rfl (XT.ll_le_f hc521) kQ) ?_
    show own_Go p e below s _ _ _ (T518.setTop (mkF m 39 #[.val (.ref a), .val (.int iv), .val (.long lim), .second, .val (.int (0 : Int32)), .val (.int (1 : Int32)), .val (.int (0 : Int32))] []))
    refine own_st (fun _ kQ => XS.iload X518.here hx rfl (hb hby own_d_prog_3_method_7_code_39) rfl kQ) ?_
    show own_Go p e below s _ _ _ (T518.setTop (mkF m 41 #[.val (.ref a), .val (.int iv), .val (.long lim), .second, .val (.int (0 : Int32)), .val (.int (1 : Int32)), .val (.int (0 : Int32))] [(.int (0 : Int32))]))
    refine own_st (fun _ kQ => XS.istore X518.here hx rfl (hb hby own_d_prog_3_method_7_code_41) rfl (l' := #[.val (.ref a), .val (.int iv), .val (.long lim), .second, .val (.int (0 : Int32)), .val (.int (0 : Int32)), .val (.int (0 : Int32))]) rfl kQ) ?_
    show own_Go p e below s _ _ _ (T518.setTop (mkF m 43 #[.val (.ref a), .val (.int iv), .val (.long lim), .second, .val (.int (0 : Int32)), .val (.int (0 : Int32)), .val (.int (0 : Int32))] []))
    refine own_st (fun _ kQ => XS.goto X518.here hx rfl (pc0 := 43) (pc' := 52) rfl (hb hby own_d_prog_3_method_7_code_43) (by decide) (by decide) kQ) ?_
    show own_Go p e below s _ _ _ (T518.setTop (mkF m 52 #[.val (.ref a), .val (.int iv), .val (.long lim), .second, .val (.int (0 : Int32)), .val (.int (0 : Int32)), .val (.int (0 : Int32))] []))
    refine own_st (fun _ kQ => XS.goto X518.here hx rfl (pc0 := 52) (pc' := 11) rfl (hb hby own_d_prog_3_method_7_code_52) (by decide) (by decide) kQ) ?_
    show own_Go p e below s _ _ _ (T518.setTop (mkF m 11 #[.val (.ref a), .val (.int iv), .val (.long lim), .second, .val (.int (0 : Int32)), .val (.int (0 : Int32)), .val (.int (0 : Int32))] []))
    refine own_st (fun _ kQ => XS.iload X518.here hx rfl (hb hby own_d_prog_3_method_7_code_11) rfl kQ) ?_
    show own_Go p e below s _ _ _ (T518.setTop (mkF m 13 #[.val (.ref a), .val (.int iv), .val (.long lim), .second, .val (.int (0 : Int32)), .val (.int (0 : Int32)), .val (.int (0 : Int32))] [(.int (0 : Int32))]))
    refine own_st (fun _ kQ => XS.iload X518.here hx rfl (hb hby own_d_prog_3_method_7_code_13) rfl kQ) ?_
    show own_Go p e below s _ _ _ (T518.setTop (mkF m 15 #[.val (.ref a), .val (.int iv), .val (.long lim), .second, .val (.int (0 : Int32)), .val (.int (0 : Int32)), .val (.int (0 : Int32))] [(.int (0 : Int32)), (.int (0 : Int32))]))
    refine own_st (fun _ kQ => XS.icmpYes X518.here hx rfl (pc0 := 15) (pc' := 55) rfl (hb hby own_d_prog_3_method_7_code_15) rfl (XT.ii_ge_t (by decide)) (by decide) (by decide) kQ) ?_
    show own_Go p e below s _ _ _ (T518.setTop (mkF m 55 #[.val (.ref a), .val (.int iv), .val (.long lim), .second, .val (.int (0 : Int32)), .val (.int (0 : Int32)), .val (.int (0 : Int32))] []))
    refine own_st (fun _ kQ => XS.iload X518.here hx rfl (hb hby own_d_prog_3_method_7_code_55) rfl kQ) ?_
    show own_Go p e below s _ _ _ (T518.setTop (mkF m 57 #[.val (.ref a), .val (.int iv), .val (.long lim), .second, .val (.int (0 : Int32)), .val (.int (0 : Int32)), .val (.int (0 : Int32))] [(.int (0 : Int32))]))
    refine own_retI X518 hx hlk Bd.returns (hb hby own_d_prog_3_method_7_code_57) (by decide) (by decide) ?_
    rw [eh518]
    exact ⟨N520, (by rw [← he0]; unfold own_fa1; rw [if_pos hc521]), rfl⟩
  · refine own_st (fun _ kQ => XS.ifYes X518.here hx rfl (pc0 := 36) (pc' := 46) rfl (hb hby own_d_prog_3_method_7_code_36) rfl (XT.ll_le_t hc521) (by decide) (by decide) kQ) ?_
    show own_Go p e below s _ _ _ (T518.setTop (mkF m 46 #[.val (.ref a), .val (.int iv), .val (.long lim), .second, .val (.int (0 : Int32)), .val (.int (1 : Int32)), .val (.int (0 : Int32))] []))
    refine own_st (fun _ kQ => XS.iload X518.here hx rfl (hb hby own_d_prog_3_method_7_code_46) rfl kQ) ?_
    show own_Go p e below s _ _ _ (T518.setTop (mkF m 48 #[.val (.ref a), .val (.int iv), .val (.long lim), .second, .val (.int (0 : Int32)), .val (.int (1 : Int32)), .val (.int (0 : Int32))] [(.int (0 : Int32))]))
    refine own_st (fun _ kQ => XT.iconstV X518.here hx rfl (1 : Int32) (hb hby own_d_prog_3_method_7_code_48) (by decide) kQ) ?_
    show own_Go p e below s _ _ _ (T518.setTop (mkF m 49 #[.val (.ref a), .val (.int iv), .val (.long lim), .second, .val (.int (0 : Int32)), .val (.int (1 : Int32)), .val (.int (0 : Int32))] [(.int (1 : Int32)), (.int (0 : Int32))]))
    refine own_st (fun _ kQ => XS.iadd X518.here hx rfl (hb hby own_d_prog_3_method_7_code_49) rfl kQ) ?_
    show own_Go p e below s _ _ _ (T518.setTop (mkF m 50 #[.val (.ref a), .val (.int iv), .val (.long lim), .second, .val (.int (0 : Int32)), .val (.int (1 : Int32)), .val (.int (0 : Int32))] [(.int (1 : Int32))]))
    refine own_st (fun _ kQ => XS.istore X518.here hx rfl (hb hby own_d_prog_3_method_7_code_50) rfl (l' := #[.val (.ref a), .val (.int iv), .val (.long lim), .second, .val (.int (1 : Int32)), .val (.int (1 : Int32)), .val (.int (0 : Int32))]) rfl kQ) ?_
    show own_Go p e below s _ _ _ (T518.setTop (mkF m 52 #[.val (.ref a), .val (.int iv), .val (.long lim), .second, .val (.int (1 : Int32)), .val (.int (1 : Int32)), .val (.int (0 : Int32))] []))
    refine own_st (fun _ kQ => XS.goto X518.here hx rfl (pc0 := 52) (pc' := 11) rfl (hb hby own_d_prog_3_method_7_code_52) (by decide) (by decide) kQ) ?_
    show own_Go p e below s _ _ _ (T518.setTop (mkF m 11 #[.val (.ref a), .val (.int iv), .val (.long lim), .second, .val (.int (1 : Int32)), .val (.int (1 : Int32)), .val (.int (0 : Int32))] []))
    refine own_st (fun _ kQ => XS.iload X518.here hx rfl (hb hby own_d_prog_3_method_7_code_11) rfl kQ) ?_
    show own_Go p e below s _ _ _ (T518.setTop (mkF m 13 #[.val (.ref a), .val (.int iv), .val (.long lim), .second, .val (.int (1 : Int32)), .val (.int (1 : Int32)), .val (.int (0 : Int32))] [(.int (1 : Int32))]))
    refine own_st (fun _ kQ => XS.iload X518.here hx rfl (hb hby own_d_prog_3_method_7_code_13) rfl kQ) ?_
    show own_Go p e below s _ _ _ (T518.setTop (mkF m 15 #[.val (.ref a), .val (.int iv), .val (.long lim), .second, .val (.int (1 : Int32)), .val (.int (1 : Int32)), .val (.int (0 : Int32))] [(.int (1 : Int32)), (.int (1 : Int32))]))
    refine own_st (fun _ kQ => XS.icmpYes X518.here hx rfl (pc0 := 15) (pc' := 55) rfl (hb hby own_d_prog_3_method_7_code_15) rfl (XT.ii_ge_t (by decide)) (by decide) (by decide) kQ) ?_
    show own_Go p e below s _ _ _ (T518.setTop (mkF m 55 #[.val (.ref a), .val (.int iv), .val (.long lim), .second, .val (.int (1 : Int32)), .val (.int (1 : Int32)), .val (.int (0 : Int32))] []))
    refine own_st (fun _ kQ => XS.iload X518.here hx rfl (hb hby own_d_prog_3_method_7_code_55) rfl kQ) ?_
    show own_Go p e below s _ _ _ (T518.setTop (mkF m 57 #[.val (.ref a), .val (.int iv), .val (.long lim), .second, .val (.int (1 : Int32)), .val (.int (1 : Int32)), .val (.int (0 : Int32))] [(.int (1 : Int32))]))
    refine own_retI X518 hx hlk Bd.returns (hb hby own_d_prog_3_method_7_code_57) (by decide) (by decide) ?_
    rw [eh518]
    exact ⟨N520, (by rw [← he0]; unfold own_fa1; rw [if_neg hc521]), rfl⟩
theorem own_d_prog_3_method_4_code_0 : decode prog_3_method_4_code 0 = .ok (.aload_n 0, 1) := by decide +kernel
theorem own_d_prog_3_method_4_code_1 : decode prog_3_method_4_code 1 = .ok (.iload_n 1, 1) := by decide +kernel
theorem own_d_prog_3_method_4_code_2 : decode prog_3_method_4_code 2 = .ok (.aload_n 0, 1) := by decide +kernel
theorem own_d_prog_3_method_4_code_3 : decode prog_3_method_4_code 3 = .ok (.iload_n 1, 1) := by decide +kernel
theorem own_d_prog_3_method_4_code_4 : decode prog_3_method_4_code 4 = .ok (.invokevirtual 52, 3) := by decide +kernel
theorem own_d_prog_3_method_4_code_7 : decode prog_3_method_4_code 7 = .ok (.lload_n 2, 1) := by decide +kernel
theorem own_d_prog_3_method_4_code_8 : decode prog_3_method_4_code 8 = .ok (.lsub, 1) := by decide +kernel
theorem own_d_prog_3_method_4_code_9 : decode prog_3_method_4_code 9 = .ok (.invokevirtual 56, 3) := by decide +kernel
theorem own_d_prog_3_method_4_code_12 : decode prog_3_method_4_code 12 = .ok (.aload_n 0, 1) := by decide +kernel
theorem own_d_prog_3_method_4_code_13 : decode prog_3_method_4_code 13 = .ok (.getfield 30, 3) := by decide +kernel
theorem own_d_prog_3_method_4_code_16 : decode prog_3_method_4_code 16 = .ok (.iload_n 1, 1) := by decide +kernel
theorem own_d_prog_3_method_4_code_17 : decode prog_3_method_4_code 17 = .ok (.iaload, 1) := by decide +kernel
theorem own_d_prog_3_method_4_code_18 : decode prog_3_method_4_code 18 = .ok (.iconst 1, 1) := by decide +kernel
theorem own_d_prog_3_method_4_code_19 : decode prog_3_method_4_code 19 = .ok (.isub, 1) := by decide +kernel
theorem own_d_prog_3_method_4_code_20 : decode prog_3_method_4_code 20 = .ok (.invokestatic 60, 3) := by decide +kernel
theorem own_d_prog_3_method_4_code_23 : decode prog_3_method_4_code 23 = .ok (.istore 4, 2) := by decide +kernel
theorem own_d_prog_3_method_4_code_25 : decode prog_3_method_4_code 25 = .ok (.aload_n 0, 1) := by decide +kernel
theorem own_d_prog_3_method_4_code_26 : decode prog_3_method_4_code 26 = .ok (.getfield 30, 3) := by decide +kernel
theorem own_d_prog_3_method_4_code_29 : decode prog_3_method_4_code 29 = .ok (.iload_n 1, 1) := by decide +kernel
theorem own_d_prog_3_method_4_code_30 : decode prog_3_method_4_code 30 = .ok (.iaload, 1) := by decide +kernel
theorem own_d_prog_3_method_4_code_31 : decode prog_3_method_4_code 31 = .ok (.iload 4, 2) := by decide +kernel
theorem own_d_prog_3_method_4_code_33 : decode prog_3_method_4_code 33 = .ok (.isub, 1) := by decide +kernel
theorem own_d_prog_3_method_4_code_34 : decode prog_3_method_4_code 34 = .ok (.i2l, 1) := by decide +kernel
theorem own_d_prog_3_method_4_code_35 : decode prog_3_method_4_code 35 = .ok (.lreturn, 1) := by decide +kernel
theorem own_pn13 : plainFor (⟨"com/example/wache/wache/AttemptTimes", "countWithin", "(IJ)J"⟩ : MethodName) = true := by decide +kernel
theorem own_pd6 : parseMethodDescriptor "(I)J" = some ⟨[.int], some .long⟩ := by decide +kernel
theorem own_pd7 : parseMethodDescriptor "(IJ)I" = some ⟨[.int, .long], some .int⟩ := by decide +kernel
def own_rm_cw1_Q (Z : State) (iv : Int32) (i : Nat) (a : Addr) (span : Int64) (cap : Int32) (sh : Addr) (ow : Addr) (hd : Addr) (sz : Addr) (ko : ClassId) (kh : ClassId) (ks : ClassId) (fw : Nat → Value) (fh : Nat → Int32) (fs : Nat → Int32) (fz : Nat → Int32) (fF : Nat → Nat → Int64) (ww : Int64) (el0 : Int64) (h0 : Heap) (n0 : Nat) (v : Option Value) (h : Heap) (L : List Loc) : Prop := Fr n0 L ∧ v = some (.long (((1 : Int32) - (own_minI (own_fa1 (el0 - ww) el0) (0 : Int32))).toInt64)) ∧ h = h0
theorem own_rm_cw1_ef (m : MethodId) (a : Addr) (iv : Int32) (ww : Int64)  : entryFrame m #[(.ref a), (.int iv), (.long ww)] 5 = mkF m 0 #[.val (.ref a), .val (.int iv), .val (.long ww), .second, .unset] [] := by first | (simp [entryFrame, mkF, argsToLocals, Value.category]; done) | rfl
set_option maxRecDepth 65536 in
set_option maxHeartbeats 40000000 in
theorem own_rm_cw1 (l : Launch) (Z : State) (a0 : Array Value) (hw : ∀ d ∈ tables_1, d.before a0 Z = true) (ws : List Jvm.Cond) (iv : Int32) (i : Nat) (a : Addr) (span : Int64) (cap : Int32) (sh : Addr) (ow : Addr) (hd : Addr) (sz : Addr) (ko : ClassId) (kh : ClassId) (ks : ClassId) (fw : Nat → Value) (fh : Nat → Int32) (fs : Nat → Int32) (fz : Nat → Int32) (fF : Nat → Nat → Int64) (ww : Int64) (el0 : Int64) (h0 : Heap) (n0 : Nat) (Z0 : n0 ≤ h0.size) (D : own_AT Z h0 n0 a span cap sh ow hd sz ko kh ks fw fh fs fz fF) (hi : own_I iv i) (wf : own_WF cap (fh i) (fs i) (fz i)) (hsn : (fs i) = 1) (he0 : (fF i (own_idx (fh i) (0 : Int32) (fz i)).toNatClampNeg) = el0) :
    MetFree l (⟨"com/example/wache/wache/AttemptTimes", "countWithin", "(IJ)J"⟩ : MethodName) (head1 (Jvm.Cond.code (⟨"com/example/wache/wache/AttemptTimes", "countWithin", "(IJ)J"⟩ : MethodName) prog_3_method_4_code 5 (some .long) :: ws) ({ frames := 4, cells := 0, slots := 0, locals := 65 } : Room)) (fun aQ UQ => aQ = #[(.ref a), (.int iv), (.long ww)] ∧ Z.Warmed39 UQ.vm ∧ UQ.heap = h0) (fun _ _ _ _ _ => True) (fun _ UQ oQ U2 => ∃ vQ LQ, oQ = .returned vQ ∧ own_rm_cw1_Q Z iv i a span cap sh ow hd sz ko kh ks fw fh fs fz fF ww el0 h0 n0 vQ U2.heap LQ ∧ FrameEnd UQ oQ U2 LQ ({ frames := 4, cells := 0, slots := 0, locals := 65 } : Room).cells ({ frames := 4, cells := 0, slots := 0, locals := 65 } : Room).slots) := by
  refine MetFree.of_bodySF own_pn13 hisR ?_
  intro p e s m args below meth c s₁ Bd hml0 hP hK
  obtain ⟨rfl, hZ, hh⟩ := hP
  have hx := Bd.exec
  have hby := Bd.bytes
  have hml : c.maxLocals = 5 := hml0
  have hlk := BodyLoose.notSynchronized Bd
  have hown : s.vm.findClass "com/example/wache/wache/AttemptTimes" = some m.cls := findClass_of_methodNamed Bd.named
  have hnm := (name_of_methodNamed Bd.named Bd.method).1
  have X0 : Stand p l e ({ frames := 4, cells := 0, slots := 0, locals := 65 } : Room) s m #[(.ref a), (.int iv), (.long ww)] below meth c s₁ [] 0 0 := Stand.of_body Bd
  have e0 : s₁.heap = h0 := by rw [← hh, Bd.state]; rfl
  have N0 := Fr.nil n0
  show own_Go p e below s (own_rm_cw1_Q Z iv i a span cap sh ow hd sz ko kh ks fw fh fs fz fF ww el0 h0 n0) ({ frames := 4, cells := 0, slots := 0, locals := 65 } : Room).cells ({ frames := 4, cells := 0, slots := 0, locals := 65 } : Room).slots (s₁.setTop (entryFrame m #[(.ref a), (.int iv), (.long ww)] 5))
  rw [own_rm_cw1_ef]
  show own_Go p e below s _ _ _ (s₁.setTop (mkF m 0 #[.val (.ref a), .val (.int iv), .val (.long ww), .second, .unset] []))
  have hL : (fF i (own_idx (fh i) ((fs i) - (1 : Int32)) (fz i)).toNatClampNeg) = el0 := by rw [hsn]; exact he0
  have one1 : 1 ≤ (fs i).toInt := by rw [hsn]; decide
  refine own_st (fun _ kQ => XS.aloadN X0.here hx rfl (hb hby own_d_prog_3_method_4_code_0) rfl rfl kQ) ?_
  show own_Go p e below s _ _ _ (s₁.setTop (mkF m 1 #[.val (.ref a), .val (.int iv), .val (.long ww), .second, .unset] [(.ref a)]))
  refine own_st (fun _ kQ => XS.iloadN X0.here hx rfl (hb hby own_d_prog_3_method_4_code_1) rfl kQ) ?_
  show own_Go p e below s _ _ _ (s₁.setTop (mkF m 2 #[.val (.ref a), .val (.int iv), .val (.long ww), .second, .unset] [(.int iv), (.ref a)]))
  refine own_st (fun _ kQ => XS.aloadN X0.here hx rfl (hb hby own_d_prog_3_method_4_code_2) rfl rfl kQ) ?_
  show own_Go p e below s _ _ _ (s₁.setTop (mkF m 3 #[.val (.ref a), .val (.int iv), .val (.long ww), .second, .unset] [(.ref a), (.int iv), (.ref a)]))
  refine own_st (fun _ kQ => XS.iloadN X0.here hx rfl (hb hby own_d_prog_3_method_4_code_3) rfl kQ) ?_
  show own_Go p e below s _ _ _ (s₁.setTop (mkF m 4 #[.val (.ref a), .val (.int iv), .val (.long ww), .second, .unset] [(.int iv), (.ref a), (.int iv), (.ref a)]))
  have F523 : Exa Z h0 a "com/example/wache/wache/AttemptTimes" := D.exa
  obtain ⟨cq522, kq522, q522a, q522b, q522c⟩ := isOf hZ e0 F523
  obtain ⟨_, _, ⟨T522, L522, k522, n522⟩, -, X522, ⟨Lc522, hQ522, l522, y522, z522⟩, st522⟩ := X0.virtualBack hx (y := (⟨"com/example/wache/wache/AttemptTimes", "latest", "(I)J"⟩ : MethodName)) (z := (⟨"com/example/wache/wache/AttemptTimes", "latest", "(I)J"⟩ : MethodName)) hown (mvT hZ (hw _ (List.mem_of_getElem? (i := 58) rfl))) (mvT hZ (hw _ (List.mem_of_getElem? (i := 59) rfl))) (notFace_of_selects (args := #[]) (mvT hZ (hw _ (List.mem_of_getElem? (i := 61) rfl)))) (mvT hZ (hw _ (List.mem_of_getElem? (i := 61) rfl))) (mvT hZ (hw _ (List.mem_of_getElem? (i := 60) rfl))) (by decide) (backOf (W := 2) (own_rm_latest l Z a0 hw [] iv i a span cap sh ow hd sz ko kh ks fw fh fs fz fF h0 n0 Z0 D hi (own_WF.last wf one1)) hZ (hw _ (List.mem_of_getElem? (i := 62) rfl)) (hw _ (List.mem_of_getElem? (i := 3) rfl)) (by decide) (by decide)) q522a q522c (g := (mkF m 4 #[.val (.ref a), .val (.int iv), .val (.long ww), .second, .unset] [(.int iv), (.ref a), (.int iv), (.ref a)])) rfl (by rw [hml]; rfl) (Steps.refl _) (argsL := [(.int iv)]) (rest := [(.int iv), (.ref a)]) (lenOf own_pd6 rfl) rfl (by show 2 * 0 + _ ≤ _; exact Nat.le_of_eq rfl) (hb hby own_d_prog_3_method_4_code_4) (fun _ _ => ⟨rfl, e0, (by decide : 0 + 0 ≤ _), (by decide : 0 + 0 ≤ _)⟩)
  dsimp only [Pt.U, Pt.locs, Pt.cells, Pt.slots] at X522 l522 y522 z522 st522 hQ522
  subst l522 y522 z522
  obtain ⟨N522q, rfl, eh522⟩ := hQ522
  have N524 := Fr.app N0 N522q
  refine own_tr st522 ?_
  show own_Go p e below s _ _ _ (T522.setTop (mkF m 7 #[.val (.ref a), .val (.int iv), .val (.long ww), .second, .unset] [(.long (fF i (own_idx (fh i) ((fs i) - (1 : Int32)) (fz i)).toNatClampNeg)), (.int iv), (.ref a)]))
  refine own_st (fun _ kQ => XT.lloadN X522.here hx rfl (hb hby own_d_prog_3_method_4_code_7) rfl kQ) ?_
  show own_Go p e below s _ _ _ (T522.setTop (mkF m 8 #[.val (.ref a), .val (.int iv), .val (.long ww), .second, .unset] [(.long ww), (.long (fF i (own_idx (fh i) ((fs i) - (1 : Int32)) (fz i)).toNatClampNeg)), (.int iv), (.ref a)]))
  refine own_st (fun _ kQ => XT.lsub X522.here hx rfl (hb hby own_d_prog_3_method_4_code_8) rfl kQ) ?_
  show own_Go p e below s _ _ _ (T522.setTop (mkF m 9 #[.val (.ref a), .val (.int iv), .val (.long ww), .second, .unset] [(.long ((fF i (own_idx (fh i) ((fs i) - (1 : Int32)) (fz i)).toNatClampNeg) - ww)), (.int iv), (.ref a)]))
  have F526 : Exa Z h0 a "com/example/wache/wache/AttemptTimes" := D.exa
  obtain ⟨cq525, q525, q525'⟩ := F526.cell
  obtain ⟨_, _, ⟨T525, L525, k525, n525⟩, -, X525, ⟨Lc525, hQ525, l525, y525, z525⟩, st525⟩ := X522.privateBack hx (y := (⟨"com/example/wache/wache/AttemptTimes", "firstAfter", "(IJ)I"⟩ : MethodName)) hown (mvT hZ (hw _ (List.mem_of_getElem? (i := 63) rfl))) (mvT hZ (hw _ (List.mem_of_getElem? (i := 64) rfl))) (mvT hZ (own_selP (hw _ (List.mem_of_getElem? (i := 64) rfl)) (hw _ (List.mem_of_getElem? (i := 65) rfl)) (hw _ (List.mem_of_getElem? (i := 2) rfl)) (by decide))) (Cond.privateMethod_at (mvP hZ (hw _ (List.mem_of_getElem? (i := 65) rfl)) (args := #[]))) (mvT hZ (hw _ (List.mem_of_getElem? (i := 66) rfl))) (by decide) (backOf (W := 0) (own_rm_fa1 l Z a0 hw [] iv i a span cap sh ow hd sz ko kh ks fw fh fs fz fF ((fF i (own_idx (fh i) ((fs i) - (1 : Int32)) (fz i)).toNatClampNeg) - ww) el0 h0 n0 Z0 D hi wf hsn he0) hZ (hw _ (List.mem_of_getElem? (i := 66) rfl)) (hw _ (List.mem_of_getElem? (i := 3) rfl)) (by decide) (by decide)) (g := (mkF m 9 #[.val (.ref a), .val (.int iv), .val (.long ww), .second, .unset] [(.long ((fF i (own_idx (fh i) ((fs i) - (1 : Int32)) (fz i)).toNatClampNeg) - ww)), (.int iv), (.ref a)])) rfl (by rw [hml]; rfl) (Steps.refl _) (a := a) (own_hp eh522 q525) q525' (argsL := [(.int iv), (.long ((fF i (own_idx (fh i) ((fs i) - (1 : Int32)) (fz i)).toNatClampNeg) - ww))]) (rest := []) (lenOf own_pd7 rfl) rfl (by show 2 * 0 + _ ≤ _; exact Nat.le_of_eq rfl) (hb hby own_d_prog_3_method_4_code_9) (fun _ _ => ⟨rfl, eh522, (by decide : 0 + 0 ≤ _), (by decide : 0 + 0 ≤ _)⟩)
  dsimp only [Pt.U, Pt.locs, Pt.cells, Pt.slots] at X525 l525 y525 z525 st525 hQ525
  subst l525 y525 z525
  obtain ⟨N525q, rfl, eh525⟩ := hQ525
  have N527 := Fr.app N524 N525q
  refine own_tr st525 ?_
  show own_Go p e below s _ _ _ (T525.setTop (mkF m 12 #[.val (.ref a), .val (.int iv), .val (.long ww), .second, .unset] [(.int (own_fa1 ((fF i (own_idx (fh i) ((fs i) - (1 : Int32)) (fz i)).toNatClampNeg) - ww) el0))]))
  refine own_st (fun _ kQ => XS.aloadN X525.here hx rfl (hb hby own_d_prog_3_method_4_code_12) rfl rfl kQ) ?_
  show own_Go p e below s _ _ _ (T525.setTop (mkF m 13 #[.val (.ref a), .val (.int iv), .val (.long ww), .second, .unset] [(.ref a), (.int (own_fa1 ((fF i (own_idx (fh i) ((fs i) - (1 : Int32)) (fz i)).toNatClampNeg) - ww) el0))]))
  have F528 : Fld Z h0 a "com/example/wache/wache/AttemptTimes" "sizes" "[I" (.ref sz) := D.fsz
  obtain ⟨T529, X529, e529, st529⟩ := getF X525 hx hZ hown (host := "") (Or.inl (hw _ (List.mem_of_getElem? (i := 24) rfl))) Via.refl eh525 F528 (g := (mkF m 13 #[.val (.ref a), .val (.int iv), .val (.long ww), .second, .unset] [(.ref a), (.int (own_fa1 ((fF i (own_idx (fh i) ((fs i) - (1 : Int32)) (fz i)).toNatClampNeg) - ww) el0))])) rfl rfl (hb hby own_d_prog_3_method_4_code_13)
  refine own_st st529 ?_
  show own_Go p e below s _ _ _ (T529.setTop (mkF m 16 #[.val (.ref a), .val (.int iv), .val (.long ww), .second, .unset] [(.ref sz), (.int (own_fa1 ((fF i (own_idx (fh i) ((fs i) - (1 : Int32)) (fz i)).toNatClampNeg) - ww) el0))]))
  refine own_st (fun _ kQ => XS.iloadN X529.here hx rfl (hb hby own_d_prog_3_method_4_code_16) rfl kQ) ?_
  show own_Go p e below s _ _ _ (T529.setTop (mkF m 17 #[.val (.ref a), .val (.int iv), .val (.long ww), .second, .unset] [(.int iv), (.ref sz), (.int (own_fa1 ((fF i (own_idx (fh i) ((fs i) - (1 : Int32)) (fz i)).toNatClampNeg) - ww) el0))]))
  have F530 : Arv Z h0 sz ks .int (2 : Int32) [(.int (fs 0)), (.int (fs 1))] (.int (0 : Int32)) := D.vsz
  obtain ⟨cl531, Ar531, kc531, S531, Nn531, H531, G531⟩ := id F530
  have hin531 : ¬ (iv < 0 ∨ cl531.slots.size ≤ (iv : Int32).toNatClampNeg) := inb_of S531 (own_I.inb hi)
  have hat531 : cl531.slots[(iv : Int32).toNatClampNeg]? = some (.int (1 : Int32)) := H531.at hin531 ((own_I.getI hi fs _).trans (congrArg Value.int hsn))
  refine own_st (fun _ kQ => X529.iaload hx (j := iv) (v := (.int (1 : Int32))) (own_hp e529 Ar531.1) (State.isArrayOf_alike hZ.alike Ar531.2.1) Ar531.2.2 hin531 hat531 (g := (mkF m 17 #[.val (.ref a), .val (.int iv), .val (.long ww), .second, .unset] [(.int iv), (.ref sz), (.int (own_fa1 ((fF i (own_idx (fh i) ((fs i) - (1 : Int32)) (fz i)).toNatClampNeg) - ww) el0))])) rfl rfl (hb hby own_d_prog_3_method_4_code_17) _ kQ) ?_
  show own_Go p e below s _ _ _ (T529.setTop (mkF m 18 #[.val (.ref a), .val (.int iv), .val (.long ww), .second, .unset] [(.int (1 : Int32)), (.int (own_fa1 ((fF i (own_idx (fh i) ((fs i) - (1 : Int32)) (fz i)).toNatClampNeg) - ww) el0))]))
  refine own_st (fun _ kQ => XT.iconstV X529.here hx rfl (1 : Int32) (hb hby own_d_prog_3_method_4_code_18) (by decide) kQ) ?_
  show own_Go p e below s _ _ _ (T529.setTop (mkF m 19 #[.val (.ref a), .val (.int iv), .val (.long ww), .second, .unset] [(.int (1 : Int32)), (.int (1 : Int32)), (.int (own_fa1 ((fF i (own_idx (fh i) ((fs i) - (1 : Int32)) (fz i)).toNatClampNeg) - ww) el0))]))
  refine own_st (fun _ kQ => XS.isub X529.here hx rfl (hb hby own_d_prog_3_method_4_code_19) rfl kQ) ?_
  show own_Go p e below s _ _ _ (T529.setTop (mkF m 20 #[.val (.ref a), .val (.int iv), .val (.long ww), .second, .unset] [(.int (0 : Int32)), (.int (own_fa1 ((fF i (own_idx (fh i) ((fs i) - (1 : Int32)) (fz i)).toNatClampNeg) - ww) el0))]))
  obtain ⟨_, _, ⟨T532, L532, k532, n532⟩, -, X532, ⟨Lc532, hQ532, l532, y532, z532⟩, st532⟩ := Jvm.LawKit.callS X529 hx (y := (⟨"java/lang/Math", "min", "(II)I"⟩ : MethodName)) hown (mvT hZ (hw _ (List.mem_of_getElem? (i := 67) rfl))) (mvT hZ (hw _ (List.mem_of_getElem? (i := 68) rfl))) (mvT hZ (hw _ (List.mem_of_getElem? (i := 69) rfl))) (mvT hZ (hw _ (List.mem_of_getElem? (i := 70) rfl))) (by decide) (backOf (W := 0) (own_rm_minI l Z a0 hw [] (own_fa1 ((fF i (own_idx (fh i) ((fs i) - (1 : Int32)) (fz i)).toNatClampNeg) - ww) el0) (0 : Int32) h0 n0 Z0 ) hZ (hw _ (List.mem_of_getElem? (i := 70) rfl)) (hw _ (List.mem_of_getElem? (i := 69) rfl)) (by decide) (by decide)) (g := (mkF m 20 #[.val (.ref a), .val (.int iv), .val (.long ww), .second, .unset] [(.int (0 : Int32)), (.int (own_fa1 ((fF i (own_idx (fh i) ((fs i) - (1 : Int32)) (fz i)).toNatClampNeg) - ww) el0))])) rfl (by rw [hml]; rfl) (argsL := [(.int (own_fa1 ((fF i (own_idx (fh i) ((fs i) - (1 : Int32)) (fz i)).toNatClampNeg) - ww) el0)), (.int (0 : Int32))]) (rest := []) (lenOf own_pd1 rfl) rfl (by show 2 * 0 + _ ≤ _; exact Nat.le_of_eq rfl) (hb hby own_d_prog_3_method_4_code_20) (fun _ _ => ⟨rfl, e529, (by decide : 0 + 0 ≤ _), (by decide : 0 + 0 ≤ _)⟩)
  dsimp only [Pt.U, Pt.locs, Pt.cells, Pt.slots] at X532 l532 y532 z532 st532 hQ532
  subst l532 y532 z532
  obtain ⟨N532q, rfl, eh532⟩ := hQ532
  have N533 := Fr.app N527 N532q
  refine own_st st532 ?_
  show own_Go p e below s _ _ _ (T532.setTop (mkF m 23 #[.val (.ref a), .val (.int iv), .val (.long ww), .second, .unset] [(.int (own_minI (own_fa1 ((fF i (own_idx (fh i) ((fs i) - (1 : Int32)) (fz i)).toNatClampNeg) - ww) el0) (0 : Int32)))]))
  refine own_st (fun _ kQ => XS.istore X532.here hx rfl (hb hby own_d_prog_3_method_4_code_23) rfl (l' := #[.val (.ref a), .val (.int iv), .val (.long ww), .second, .val (.int (own_minI (own_fa1 ((fF i (own_idx (fh i) ((fs i) - (1 : Int32)) (fz i)).toNatClampNeg) - ww) el0) (0 : Int32)))]) rfl kQ) ?_
  show own_Go p e below s _ _ _ (T532.setTop (mkF m 25 #[.val (.ref a), .val (.int iv), .val (.long ww), .second, .val (.int (own_minI (own_fa1 ((fF i (own_idx (fh i) ((fs i) - (1 : Int32)) (fz i)).toNatClampNeg) - ww) el0) (0 : Int32)))] []))
  refine own_st (fun _ kQ => XS.aloadN X532.here hx rfl (hb hby own_d_prog_3_method_4_code_25) rfl rfl kQ) ?_
  show own_Go p e below s _ _ _ (T532.setTop (mkF m 26 #[.val (.ref a), .val (.int iv), .val (.long ww), .second, .val (.int (own_minI (own_fa1 ((fF i (own_idx (fh i) ((fs i) - (1 : Int32)) (fz i)).toNatClampNeg) - ww) el0) (0 : Int32)))] [(.ref a)]))
  have F534 : Fld Z h0 a "com/example/wache/wache/AttemptTimes" "sizes" "[I" (.ref sz) := D.fsz
  obtain ⟨T535, X535, e535, st535⟩ := getF X532 hx hZ hown (host := "") (Or.inl (hw _ (List.mem_of_getElem? (i := 24) rfl))) Via.refl eh532 F534 (g := (mkF m 26 #[.val (.ref a), .val (.int iv), .val (.long ww), .second, .val (.int (own_minI (own_fa1 ((fF i (own_idx (fh i) ((fs i) - (1 : Int32)) (fz i)).toNatClampNeg) - ww) el0) (0 : Int32)))] [(.ref a)])) rfl rfl (hb hby own_d_prog_3_method_4_code_26)
  refine own_st st535 ?_
  show own_Go p e below s _ _ _ (T535.setTop (mkF m 29 #[.val (.ref a), .val (.int iv), .val (.long ww), .second, .val (.int (own_minI (own_fa1 ((fF i (own_idx (fh i) ((fs i) - (1 : Int32)) (fz i)).toNatClampNeg) - ww) el0) (0 : Int32)))] [(.ref sz)]))
  refine own_st (fun _ kQ => XS.iloadN X535.here hx rfl (hb hby own_d_prog_3_method_4_code_29) rfl kQ) ?_
  show own_Go p e below s _ _ _ (T535.setTop (mkF m 30 #[.val (.ref a), .val (.int iv), .val (.long ww), .second, .val (.int (own_minI (own_fa1 ((fF i (own_idx (fh i) ((fs i) - (1 : Int32)) (fz i)).toNatClampNeg) - ww) el0) (0 : Int32)))] [(.int iv), (.ref sz)]))
  have F536 : Arv Z h0 sz ks .int (2 : Int32) [(.int (fs 0)), (.int (fs 1))] (.int (0 : Int32)) := D.vsz
  obtain ⟨cl537, Ar537, kc537, S537, Nn537, H537, G537⟩ := id F536
  have hin537 : ¬ (iv < 0 ∨ cl537.slots.size ≤ (iv : Int32).toNatClampNeg) := inb_of S537 (own_I.inb hi)
  have hat537 : cl537.slots[(iv : Int32).toNatClampNeg]? = some (.int (1 : Int32)) := H537.at hin537 ((own_I.getI hi fs _).trans (congrArg Value.int hsn))
  refine own_st (fun _ kQ => X535.iaload hx (j := iv) (v := (.int (1 : Int32))) (own_hp e535 Ar537.1) (State.isArrayOf_alike hZ.alike Ar537.2.1) Ar537.2.2 hin537 hat537 (g := (mkF m 30 #[.val (.ref a), .val (.int iv), .val (.long ww), .second, .val (.int (own_minI (own_fa1 ((fF i (own_idx (fh i) ((fs i) - (1 : Int32)) (fz i)).toNatClampNeg) - ww) el0) (0 : Int32)))] [(.int iv), (.ref sz)])) rfl rfl (hb hby own_d_prog_3_method_4_code_30) _ kQ) ?_
  show own_Go p e below s _ _ _ (T535.setTop (mkF m 31 #[.val (.ref a), .val (.int iv), .val (.long ww), .second, .val (.int (own_minI (own_fa1 ((fF i (own_idx (fh i) ((fs i) - (1 : Int32)) (fz i)).toNatClampNeg) - ww) el0) (0 : Int32)))] [(.int (1 : Int32))]))
  refine own_st (fun _ kQ => XS.iload X535.here hx rfl (hb hby own_d_prog_3_method_4_code_31) rfl kQ) ?_
  show own_Go p e below s _ _ _ (T535.setTop (mkF m 33 #[.val (.ref a), .val (.int iv), .val (.long ww), .second, .val (.int (own_minI (own_fa1 ((fF i (own_idx (fh i) ((fs i) - (1 : Int32)) (fz i)).toNatClampNeg) - ww) el0) (0 : Int32)))] [(.int (own_minI (own_fa1 ((fF i (own_idx (fh i) ((fs i) - (1 : Int32)) (fz i)).toNatClampNeg) - ww) el0) (0 : Int32))), (.int (1 : Int32))]))
  refine own_st (fun _ kQ => XS.isub X535.here hx rfl (hb hby own_d_prog_3_method_4_code_33) rfl kQ) ?_
  show own_Go p e below s _ _ _ (T535.setTop (mkF m 34 #[.val (.ref a), .val (.int iv), .val (.long ww), .second, .val (.int (own_minI (own_fa1 ((fF i (own_idx (fh i) ((fs i) - (1 : Int32)) (fz i)).toNatClampNeg) - ww) el0) (0 : Int32)))] [(.int ((1 : Int32) - (own_minI (own_fa1 ((fF i (own_idx (fh i) ((fs i) - (1 : Int32)) (fz i)).toNatClampNeg) - ww) el0) (0 : Int32))))]))
  refine own_st (fun _ kQ => XT.i2l X535.here hx rfl (hb hby own_d_prog_3_method_4_code_34) rfl kQ) ?_
  show own_Go p e below s _ _ _ (T535.setTop (mkF m 35 #[.val (.ref a), .val (.int iv), .val (.long ww), .second, .val (.int (own_minI (own_fa1 ((fF i (own_idx (fh i) ((fs i) - (1 : Int32)) (fz i)).toNatClampNeg) - ww) el0) (0 : Int32)))] [(.long (((1 : Int32) - (own_minI (own_fa1 ((fF i (own_idx (fh i) ((fs i) - (1 : Int32)) (fz i)).toNatClampNeg) - ww) el0) (0 : Int32))).toInt64))]))
  refine own_retJ X535 hx hlk Bd.returns (hb hby own_d_prog_3_method_4_code_35) (by decide) (by decide) ?_
  rw [e535]
  exact ⟨N533, (by rw [hL]), rfl⟩
def own_rm_fa2_Q (Z : State) (iv : Int32) (i : Nat) (a : Addr) (span : Int64) (cap : Int32) (sh : Addr) (ow : Addr) (hd : Addr) (sz : Addr) (ko : ClassId) (kh : ClassId) (ks : ClassId) (fw : Nat → Value) (fh : Nat → Int32) (fs : Nat → Int32) (fz : Nat → Int32) (fF : Nat → Nat → Int64) (lim : Int64) (el0 : Int64) (el1 : Int64) (h0 : Heap) (n0 : Nat) (v : Option Value) (h : Heap) (L : List Loc) : Prop := Fr n0 L ∧ v = some (.int (own_fa2 lim el0 el1)) ∧ h = h0
theorem own_rm_fa2_ef (m : MethodId) (a : Addr) (iv : Int32) (lim : Int64)  : entryFrame m #[(.ref a), (.int iv), (.long lim)] 7 = mkF m 0 #[.val (.ref a), .val (.int iv), .val (.long lim), .second, .unset, .unset, .unset] [] := by first | (simp [entryFrame, mkF, argsToLocals, Value.category]; done) | rfl
set_option maxRecDepth 65536 in
set_option maxHeartbeats 40000000 in
theorem own_rm_fa2 (l : Launch) (Z : State) (a0 : Array Value) (hw : ∀ d ∈ tables_1, d.before a0 Z = true) (ws : List Jvm.Cond) (iv : Int32) (i : Nat) (a : Addr) (span : Int64) (cap : Int32) (sh : Addr) (ow : Addr) (hd : Addr) (sz : Addr) (ko : ClassId) (kh : ClassId) (ks : ClassId) (fw : Nat → Value) (fh : Nat → Int32) (fs : Nat → Int32) (fz : Nat → Int32) (fF : Nat → Nat → Int64) (lim : Int64) (el0 : Int64) (el1 : Int64) (h0 : Heap) (n0 : Nat) (Z0 : n0 ≤ h0.size) (D : own_AT Z h0 n0 a span cap sh ow hd sz ko kh ks fw fh fs fz fF) (hi : own_I iv i) (wf : own_WF cap (fh i) (fs i) (fz i)) (hsn : (fs i) = 2) (he0 : (fF i (own_idx (fh i) (0 : Int32) (fz i)).toNatClampNeg) = el0) (he1 : (fF i (own_idx (fh i) (1 : Int32) (fz i)).toNatClampNeg) = el1) :
    MetFree l (⟨"com/example/wache/wache/AttemptTimes", "firstAfter", "(IJ)I"⟩ : MethodName) (head1 (Jvm.Cond.code (⟨"com/example/wache/wache/AttemptTimes", "firstAfter", "(IJ)I"⟩ : MethodName) prog_3_method_7_code 7 (some .int) :: ws) ({ frames := 3, cells := 0, slots := 0, locals := 47 } : Room)) (fun aQ UQ => aQ = #[(.ref a), (.int iv), (.long lim)] ∧ Z.Warmed39 UQ.vm ∧ UQ.heap = h0) (fun _ _ _ _ _ => True) (fun _ UQ oQ U2 => ∃ vQ LQ, oQ = .returned vQ ∧ own_rm_fa2_Q Z iv i a span cap sh ow hd sz ko kh ks fw fh fs fz fF lim el0 el1 h0 n0 vQ U2.heap LQ ∧ FrameEnd UQ oQ U2 LQ ({ frames := 3, cells := 0, slots := 0, locals := 47 } : Room).cells ({ frames := 3, cells := 0, slots := 0, locals := 47 } : Room).slots) := by
  refine MetFree.of_bodySF own_pn12 hisR ?_
  intro p e s m args below meth c s₁ Bd hml0 hP hK
  obtain ⟨rfl, hZ, hh⟩ := hP
  have hx := Bd.exec
  have hby := Bd.bytes
  have hml : c.maxLocals = 7 := hml0
  have hlk := BodyLoose.notSynchronized Bd
  have hown : s.vm.findClass "com/example/wache/wache/AttemptTimes" = some m.cls := findClass_of_methodNamed Bd.named
  have hnm := (name_of_methodNamed Bd.named Bd.method).1
  have X0 : Stand p l e ({ frames := 3, cells := 0, slots := 0, locals := 47 } : Room) s m #[(.ref a), (.int iv), (.long lim)] below meth c s₁ [] 0 0 := Stand.of_body Bd
  have e0 : s₁.heap = h0 := by rw [← hh, Bd.state]; rfl
  have N0 := Fr.nil n0
  show own_Go p e below s (own_rm_fa2_Q Z iv i a span cap sh ow hd sz ko kh ks fw fh fs fz fF lim el0 el1 h0 n0) ({ frames := 3, cells := 0, slots := 0, locals := 47 } : Room).cells ({ frames := 3, cells := 0, slots := 0, locals := 47 } : Room).slots (s₁.setTop (entryFrame m #[(.ref a), (.int iv), (.long lim)] 7))
  rw [own_rm_fa2_ef]
  show own_Go p e below s _ _ _ (s₁.setTop (mkF m 0 #[.val (.ref a), .val (.int iv), .val (.long lim), .second, .unset, .unset, .unset] []))
  refine own_st (fun _ kQ => XT.iconstV X0.here hx rfl (0 : Int32) (hb hby own_d_prog_3_method_7_code_0) (by decide) kQ) ?_
  show own_Go p e below s _ _ _ (s₁.setTop (mkF m 1 #[.val (.ref a), .val (.int iv), .val (.long lim), .second, .unset, .unset, .unset] [(.int (0 : Int32))]))
  refine own_st (fun _ kQ => XS.istore X0.here hx rfl (hb hby own_d_prog_3_method_7_code_1) rfl (l' := #[.val (.ref a), .val (.int iv), .val (.long lim), .second, .val (.int (0 : Int32)), .unset, .unset]) rfl kQ) ?_
  show own_Go p e below s _ _ _ (s₁.setTop (mkF m 3 #[.val (.ref a), .val (.int iv), .val (.long lim), .second, .val (.int (0 : Int32)), .unset, .unset] []))
  refine own_st (fun _ kQ => XS.aloadN X0.here hx rfl (hb hby own_d_prog_3_method_7_code_3) rfl rfl kQ) ?_
  show own_Go p e below s _ _ _ (s₁.setTop (mkF m 4 #[.val (.ref a), .val (.int iv), .val (.long lim), .second, .val (.int (0 : Int32)), .unset, .unset] [(.ref a)]))
  have F538 : Fld Z h0 a "com/example/wache/wache/AttemptTimes" "sizes" "[I" (.ref sz) := D.fsz
  obtain ⟨T539, X539, e539, st539⟩ := getF X0 hx hZ hown (host := "") (Or.inl (hw _ (List.mem_of_getElem? (i := 24) rfl))) Via.refl e0 F538 (g := (mkF m 4 #[.val (.ref a), .val (.int iv), .val (.long lim), .second, .val (.int (0 : Int32)), .unset, .unset] [(.ref a)])) rfl rfl (hb hby own_d_prog_3_method_7_code_4)
  refine own_st st539 ?_
  show own_Go p e below s _ _ _ (T539.setTop (mkF m 7 #[.val (.ref a), .val (.int iv), .val (.long lim), .second, .val (.int (0 : Int32)), .unset, .unset] [(.ref sz)]))
  refine own_st (fun _ kQ => XS.iloadN X539.here hx rfl (hb hby own_d_prog_3_method_7_code_7) rfl kQ) ?_
  show own_Go p e below s _ _ _ (T539.setTop (mkF m 8 #[.val (.ref a), .val (.int iv), .val (.long lim), .second, .val (.int (0 : Int32)), .unset, .unset] [(.int iv), (.ref sz)]))
  have F540 : Arv Z h0 sz ks .int (2 : Int32) [(.int (fs 0)), (.int (fs 1))] (.int (0 : Int32)) := D.vsz
  obtain ⟨cl541, Ar541, kc541, S541, Nn541, H541, G541⟩ := id F540
  have hin541 : ¬ (iv < 0 ∨ cl541.slots.size ≤ (iv : Int32).toNatClampNeg) := inb_of S541 (own_I.inb hi)
  have hat541 : cl541.slots[(iv : Int32).toNatClampNeg]? = some (.int (2 : Int32)) := H541.at hin541 ((own_I.getI hi fs _).trans (congrArg Value.int hsn))
  refine own_st (fun _ kQ => X539.iaload hx (j := iv) (v := (.int (2 : Int32))) (own_hp e539 Ar541.1) (State.isArrayOf_alike hZ.alike Ar541.2.1) Ar541.2.2 hin541 hat541 (g := (mkF m 8 #[.val (.ref a), .val (.int iv), .val (.long lim), .second, .val (.int (0 : Int32)), .unset, .unset] [(.int iv), (.ref sz)])) rfl rfl (hb hby own_d_prog_3_method_7_code_8) _ kQ) ?_
  show own_Go p e below s _ _ _ (T539.setTop (mkF m 9 #[.val (.ref a), .val (.int iv), .val (.long lim), .second, .val (.int (0 : Int32)), .unset, .unset] [(.int (2 : Int32))]))
  refine own_st (fun _ kQ => XS.istore X539.here hx rfl (hb hby own_d_prog_3_method_7_code_9) rfl (l' := #[.val (.ref a), .val (.int iv), .val (.long lim), .second, .val (.int (0 : Int32)), .val (.int (2 : Int32)), .unset]) rfl kQ) ?_
  show own_Go p e below s _ _ _ (T539.setTop (mkF m 11 #[.val (.ref a), .val (.int iv), .val (.long lim), .second, .val (.int (0 : Int32)), .val (.int (2 : Int32)), .unset] []))
  refine own_st (fun _ kQ => XS.iload X539.here hx rfl (hb hby own_d_prog_3_method_7_code_11) rfl kQ) ?_
  show own_Go p e below s _ _ _ (T539.setTop (mkF m 13 #[.val (.ref a), .val (.int iv), .val (.long lim), .second, .val (.int (0 : Int32)), .val (.int (2 : Int32)), .unset] [(.int (0 : Int32))]))
  refine own_st (fun _ kQ => XS.iload X539.here hx rfl (hb hby own_d_prog_3_method_7_code_13) rfl kQ) ?_
  show own_Go p e below s _ _ _ (T539.setTop (mkF m 15 #[.val (.ref a), .val (.int iv), .val (.long lim), .second, .val (.int (0 : Int32)), .val (.int (2 : Int32)), .unset] [(.int (2 : Int32)), (.int (0 : Int32))]))
  refine own_st (fun _ kQ => XS.icmpNo X539.here hx rfl (hb hby own_d_prog_3_method_7_code_15) rfl (XT.ii_ge_f (by decide)) kQ) ?_
  show own_Go p e below s _ _ _ (T539.setTop (mkF m 18 #[.val (.ref a), .val (.int iv), .val (.long lim), .second, .val (.int (0 : Int32)), .val (.int (2 : Int32)), .unset] []))
  refine own_st (fun _ kQ => XS.iload X539.here hx rfl (hb hby own_d_prog_3_method_7_code_18) rfl kQ) ?_
  show own_Go p e below s _ _ _ (T539.setTop (mkF m 20 #[.val (.ref a), .val (.int iv), .val (.long lim), .second, .val (.int (0 : Int32)), .val (.int (2 : Int32)), .unset] [(.int (0 : Int32))]))
  refine own_st (fun _ kQ => XS.iload X539.here hx rfl (hb hby own_d_prog_3_method_7_code_20) rfl kQ) ?_
  show own_Go p e below s _ _ _ (T539.setTop (mkF m 22 #[.val (.ref a), .val (.int iv), .val (.long lim), .second, .val (.int (0 : Int32)), .val (.int (2 : Int32)), .unset] [(.int (2 : Int32)), (.int (0 : Int32))]))
  refine own_st (fun _ kQ => XS.iadd X539.here hx rfl (hb hby own_d_prog_3_method_7_code_22) rfl kQ) ?_
  show own_Go p e below s _ _ _ (T539.setTop (mkF m 23 #[.val (.ref a), .val (.int iv), .val (.long lim), .second, .val (.int (0 : Int32)), .val (.int (2 : Int32)), .unset] [(.int (2 : Int32))]))
  refine own_st (fun _ kQ => XT.iconstV X539.here hx rfl (1 : Int32) (hb hby own_d_prog_3_method_7_code_23) (by decide) kQ) ?_
  show own_Go p e below s _ _ _ (T539.setTop (mkF m 24 #[.val (.ref a), .val (.int iv), .val (.long lim), .second, .val (.int (0 : Int32)), .val (.int (2 : Int32)), .unset] [(.int (1 : Int32)), (.int (2 : Int32))]))
  refine own_st (fun _ kQ => XT.iushr X539.here hx rfl (hb hby own_d_prog_3_method_7_code_24) rfl kQ) ?_
  rw [show (XT.ushr (2 : Int32) (1 : Int32)) = (1 : Int32) from by decide]
  show own_Go p e below s _ _ _ (T539.setTop (mkF m 25 #[.val (.ref a), .val (.int iv), .val (.long lim), .second, .val (.int (0 : Int32)), .val (.int (2 : Int32)), .unset] [(.int (1 : Int32))]))
  refine own_st (fun _ kQ => XS.istore X539.here hx rfl (hb hby own_d_prog_3_method_7_code_25) rfl (l' := #[.val (.ref a), .val (.int iv), .val (.long lim), .second, .val (.int (0 : Int32)), .val (.int (2 : Int32)), .val (.int (1 : Int32))]) rfl kQ) ?_
  show own_Go p e below s _ _ _ (T539.setTop (mkF m 27 #[.val (.ref a), .val (.int iv), .val (.long lim), .second, .val (.int (0 : Int32)), .val (.int (2 : Int32)), .val (.int (1 : Int32))] []))
  refine own_st (fun _ kQ => XS.aloadN X539.here hx rfl (hb hby own_d_prog_3_method_7_code_27) rfl rfl kQ) ?_
  show own_Go p e below s _ _ _ (T539.setTop (mkF m 28 #[.val (.ref a), .val (.int iv), .val (.long lim), .second, .val (.int (0 : Int32)), .val (.int (2 : Int32)), .val (.int (1 : Int32))] [(.ref a)]))
  refine own_st (fun _ kQ => XS.iloadN X539.here hx rfl (hb hby own_d_prog_3_method_7_code_28) rfl kQ) ?_
  show own_Go p e below s _ _ _ (T539.setTop (mkF m 29 #[.val (.ref a), .val (.int iv), .val (.long lim), .second, .val (.int (0 : Int32)), .val (.int (2 : Int32)), .val (.int (1 : Int32))] [(.int iv), (.ref a)]))
  refine own_st (fun _ kQ => XS.iload X539.here hx rfl (hb hby own_d_prog_3_method_7_code_29) rfl kQ) ?_
  show own_Go p e below s _ _ _ (T539.setTop (mkF m 31 #[.val (.ref a), .val (.int iv), .val (.long lim), .second, .val (.int (0 : Int32)), .val (.int (2 : Int32)), .val (.int (1 : Int32))] [(.int (1 : Int32)), (.int iv), (.ref a)]))
  have F543 : Exa Z h0 a "com/example/wache/wache/AttemptTimes" := D.exa
  obtain ⟨cq542, q542, q542'⟩ := F543.cell
  obtain ⟨_, _, ⟨T542, L542, k542, n542⟩, -, X542, ⟨Lc542, hQ542, l542, y542, z542⟩, st542⟩ := X539.privateBack hx (y := (⟨"com/example/wache/wache/AttemptTimes", "get", "(II)J"⟩ : MethodName)) hown (mvT hZ (hw _ (List.mem_of_getElem? (i := 48) rfl))) (mvT hZ (hw _ (List.mem_of_getElem? (i := 49) rfl))) (mvT hZ (own_selP (hw _ (List.mem_of_getElem? (i := 49) rfl)) (hw _ (List.mem_of_getElem? (i := 50) rfl)) (hw _ (List.mem_of_getElem? (i := 2) rfl)) (by decide))) (Cond.privateMethod_at (mvP hZ (hw _ (List.mem_of_getElem? (i := 50) rfl)) (args := #[]))) (mvT hZ (hw _ (List.mem_of_getElem? (i := 51) rfl))) (by decide) (backOf (W := 0) (own_rm_get l Z a0 hw [] iv i a span cap sh ow hd sz ko kh ks fw fh fs fz fF (1 : Int32) h0 n0 Z0 D hi (own_WF.idx wf (k := (1 : Int32)) (by decide) (by have e1 : ((1 : Int32) : Int32).toInt = 1 := (by decide); have q1 := wf.2.2.1; omega))) hZ (hw _ (List.mem_of_getElem? (i := 51) rfl)) (hw _ (List.mem_of_getElem? (i := 3) rfl)) (by decide) (by decide)) (g := (mkF m 31 #[.val (.ref a), .val (.int iv), .val (.long lim), .second, .val (.int (0 : Int32)), .val (.int (2 : Int32)), .val (.int (1 : Int32))] [(.int (1 : Int32)), (.int iv), (.ref a)])) rfl (by rw [hml]; rfl) (Steps.refl _) (a := a) (own_hp e539 q542) q542' (argsL := [(.int iv), (.int (1 : Int32))]) (rest := []) (lenOf own_pd2 rfl) rfl (by show 2 * 0 + _ ≤ _; exact Nat.le_of_eq rfl) (hb hby own_d_prog_3_method_7_code_31) (fun _ _ => ⟨rfl, e539, (by decide : 0 + 0 ≤ _), (by decide : 0 + 0 ≤ _)⟩)
  dsimp only [Pt.U, Pt.locs, Pt.cells, Pt.slots] at X542 l542 y542 z542 st542 hQ542
  subst l542 y542 z542
  obtain ⟨N542q, rfl, eh542⟩ := hQ542
  have N544 := Fr.app N0 N542q
  refine own_tr st542 ?_
  show own_Go p e below s _ _ _ (T542.setTop (mkF m 34 #[.val (.ref a), .val (.int iv), .val (.long lim), .second, .val (.int (0 : Int32)), .val (.int (2 : Int32)), .val (.int (1 : Int32))] [(.long (fF i (own_idx (fh i) (1 : Int32) (fz i)).toNatClampNeg))]))
  refine own_st (fun _ kQ => XT.lloadN X542.here hx rfl (hb hby own_d_prog_3_method_7_code_34) rfl kQ) ?_
  show own_Go p e below s _ _ _ (T542.setTop (mkF m 35 #[.val (.ref a), .val (.int iv), .val (.long lim), .second, .val (.int (0 : Int32)), .val (.int (2 : Int32)), .val (.int (1 : Int32))] [(.long lim), (.long (fF i (own_idx (fh i) (1 : Int32) (fz i)).toNatClampNeg))]))
  refine own_st (fun _ kQ => XT.lcmp X542.here hx rfl (hb hby own_d_prog_3_method_7_code_35) rfl kQ) ?_
  show own_Go p e below s _ _ _ (T542.setTop (mkF m 36 #[.val (.ref a), .val (.int iv), .val (.long lim), .second, .val (.int (0 : Int32)), .val (.int (2 : Int32)), .val (.int (1 : Int32))] [(.int (XT.cmpL (fF i (own_idx (fh i) (1 : Int32) (fz i)).toNatClampNeg) lim))]))
  by_cases hc545 : lim < (fF i (own_idx (fh i) (1 : Int32) (fz i)).toNatClampNeg)
  · refine own_st (fun _ kQ => XS.ifNo X542.here hx rfl (hb hby own_d_prog_3_method_7_code_36) rfl (XT.ll_le_f hc545) kQ) ?_
    show own_Go p e below s _ _ _ (T542.setTop (mkF m 39 #[.val (.ref a), .val (.int iv), .val (.long lim), .second, .val (.int (0 : Int32)), .val (.int (2 : Int32)), .val (.int (1 : Int32))] []))
    refine own_st (fun _ kQ => XS.iload X542.here hx rfl (hb hby own_d_prog_3_method_7_code_39) rfl kQ) ?_
    show own_Go p e below s _ _ _ (T542.setTop (mkF m 41 #[.val (.ref a), .val (.int iv), .val (.long lim), .second, .val (.int (0 : Int32)), .val (.int (2 : Int32)), .val (.int (1 : Int32))] [(.int (1 : Int32))]))
    refine own_st (fun _ kQ => XS.istore X542.here hx rfl (hb hby own_d_prog_3_method_7_code_41) rfl (l' := #[.val (.ref a), .val (.int iv), .val (.long lim), .second, .val (.int (0 : Int32)), .val (.int (1 : Int32)), .val (.int (1 : Int32))]) rfl kQ) ?_
    show own_Go p e below s _ _ _ (T542.setTop (mkF m 43 #[.val (.ref a), .val (.int iv), .val (.long lim), .second, .val (.int (0 : Int32)), .val (.int (1 : Int32)), .val (.int (1 : Int32))] []))
    refine own_st (fun _ kQ => XS.goto X542.here hx rfl (pc0 := 43) (pc' := 52) rfl (hb hby own_d_prog_3_method_7_code_43) (by decide) (by decide) kQ) ?_
    show own_Go p e below s _ _ _ (T542.setTop (mkF m 52 #[.val (.ref a), .val (.int iv), .val (.long lim), .second, .val (.int (0 : Int32)), .val (.int (1 : Int32)), .val (.int (1 : Int32))] []))
    refine own_st (fun _ kQ => XS.goto X542.here hx rfl (pc0 := 52) (pc' := 11) rfl (hb hby own_d_prog_3_method_7_code_52) (by decide) (by decide) kQ) ?_
    show own_Go p e below s _ _ _ (T542.setTop (mkF m 11 #[.val (.ref a), .val (.int iv), .val (.long lim), .second, .val (.int (0 : Int32)), .val (.int (1 : Int32)), .val (.int (1 : Int32))] []))
    refine own_st (fun _ kQ => XS.iload X542.here hx rfl (hb hby own_d_prog_3_method_7_code_11) rfl kQ) ?_
    show own_Go p e below s _ _ _ (T542.setTop (mkF m 13 #[.val (.ref a), .val (.int iv), .val (.long lim), .second, .val (.int (0 : Int32)), .val (.int (1 : Int32)), .val (.int (1 : Int32))] [(.int (0 : Int32))]))
    refine own_st (fun _ kQ => XS.iload X542.here hx rfl (hb hby own_d_prog_3_method_7_code_13) rfl kQ) ?_
    show own_Go p e below s _ _ _ (T542.setTop (mkF m 15 #[.val (.ref a), .val (.int iv), .val (.long lim), .second, .val (.int (0 : Int32)), .val (.int (1 : Int32)), .val (.int (1 : Int32))] [(.int (1 : Int32)), (.int (0 : Int32))]))
    refine own_st (fun _ kQ => XS.icmpNo X542.here hx rfl (hb hby own_d_prog_3_method_7_code_15) rfl (XT.ii_ge_f (by decide)) kQ) ?_
    show own_Go p e below s _ _ _ (T542.setTop (mkF m 18 #[.val (.ref a), .val (.int iv), .val (.long lim), .second, .val (.int (0 : Int32)), .val (.int (1 : Int32)), .val (.int (1 : Int32))] []))
    refine own_st (fun _ kQ => XS.iload X542.here hx rfl (hb hby own_d_prog_3_method_7_code_18) rfl kQ) ?_
    show own_Go p e below s _ _ _ (T542.setTop (mkF m 20 #[.val (.ref a), .val (.int iv), .val (.long lim), .second, .val (.int (0 : Int32)), .val (.int (1 : Int32)), .val (.int (1 : Int32))] [(.int (0 : Int32))]))
    refine own_st (fun _ kQ => XS.iload X542.here hx rfl (hb hby own_d_prog_3_method_7_code_20) rfl kQ) ?_
    show own_Go p e below s _ _ _ (T542.setTop (mkF m 22 #[.val (.ref a), .val (.int iv), .val (.long lim), .second, .val (.int (0 : Int32)), .val (.int (1 : Int32)), .val (.int (1 : Int32))] [(.int (1 : Int32)), (.int (0 : Int32))]))
    refine own_st (fun _ kQ => XS.iadd X542.here hx rfl (hb hby own_d_prog_3_method_7_code_22) rfl kQ) ?_
    show own_Go p e below s _ _ _ (T542.setTop (mkF m 23 #[.val (.ref a), .val (.int iv), .val (.long lim), .second, .val (.int (0 : Int32)), .val (.int (1 : Int32)), .val (.int (1 : Int32))] [(.int (1 : Int32))]))
    refine own_st (fun _ kQ => XT.iconstV X542.here hx rfl (1 : Int32) (hb hby own_d_prog_3_method_7_code_23) (by decide) kQ) ?_
    show own_Go p e below s _ _ _ (T542.setTop (mkF m 24 #[.val (.ref a), .val (.int iv), .val (.long lim), .second, .val (.int (0 : Int32)), .val (.int (1 : Int32)), .val (.int (1 : Int32))] [(.int (1 : Int32)), (.int (1 : Int32))]))
    refine own_st (fun _ kQ => XT.iushr X542.here hx rfl (hb hby own_d_prog_3_method_7_code_24) rfl kQ) ?_
    rw [show (XT.ushr (1 : Int32) (1 : Int32)) = (0 : Int32) from by decide]
    show own_Go p e below s _ _ _ (T542.setTop (mkF m 25 #[.val (.ref a), .val (.int iv), .val (.long lim), .second, .val (.int (0 : Int32)), .val (.int (1 : Int32)), .val (.int (1 : Int32))] [(.int (0 : Int32))]))
    refine own_st (fun _ kQ => XS.istore X542.here hx rfl (hb hby own_d_prog_3_method_7_code_25) rfl (l' := #[.val (.ref a), .val (.int iv), .val (.long lim), .second, .val (.int (0 : Int32)), .val (.int (1 : Int32)), .val (.int (0 : Int32))]) rfl kQ) ?_
    show own_Go p e below s _ _ _ (T542.setTop (mkF m 27 #[.val (.ref a), .val (.int iv), .val (.long lim), .second, .val (.int (0 : Int32)), .val (.int (1 : Int32)), .val (.int (0 : Int32))] []))
    refine own_st (fun _ kQ => XS.aloadN X542.here hx rfl (hb hby own_d_prog_3_method_7_code_27) rfl rfl kQ) ?_
    show own_Go p e below s _ _ _ (T542.setTop (mkF m 28 #[.val (.ref a), .val (.int iv), .val (.long lim), .second, .val (.int (0 : Int32)), .val (.int (1 : Int32)), .val (.int (0 : Int32))] [(.ref a)]))
    refine own_st (fun _ kQ => XS.iloadN X542.here hx rfl (hb hby own_d_prog_3_method_7_code_28) rfl kQ) ?_
    show own_Go p e below s _ _ _ (T542.setTop (mkF m 29 #[.val (.ref a), .val (.int iv), .val (.long lim), .second, .val (.int (0 : Int32)), .val (.int (1 : Int32)), .val (.int (0 : Int32))] [(.int iv), (.ref a)]))
    refine own_st (fun _ kQ => XS.iload X542.here hx rfl (hb hby own_d_prog_3_method_7_code_29) rfl kQ) ?_
    show own_Go p e below s _ _ _ (T542.setTop (mkF m 31 #[.val (.ref a), .val (.int iv), .val (.long lim), .second, .val (.int (0 : Int32)), .val (.int (1 : Int32)), .val (.int (0 : Int32))] [(.int (0 : Int32)), (.int iv), (.ref a)]))
    have F547 : Exa Z h0 a "com/example/wache/wache/AttemptTimes" := D.exa
    obtain ⟨cq546, q546, q546'⟩ := F547.cell
    obtain ⟨_, _, ⟨T546, L546, k546, n546⟩, -, X546, ⟨Lc546, hQ546, l546, y546, z546⟩, st546⟩ := X542.privateBack hx (y := (⟨"com/example/wache/wache/AttemptTimes", "get", "(II)J"⟩ : MethodName)) hown (mvT hZ (hw _ (List.mem_of_getElem? (i := 48) rfl))) (mvT hZ (hw _ (List.mem_of_getElem? (i := 49) rfl))) (mvT hZ (own_selP (hw _ (List.mem_of_getElem? (i := 49) rfl)) (hw _ (List.mem_of_getElem? (i := 50) rfl)) (hw _ (List.mem_of_getElem? (i := 2) rfl)) (by decide))) (Cond.privateMethod_at (mvP hZ (hw _ (List.mem_of_getElem? (i := 50) rfl)) (args := #[]))) (mvT hZ (hw _ (List.mem_of_getElem? (i := 51) rfl))) (by decide) (backOf (W := 0) (own_rm_get l Z a0 hw [] iv i a span cap sh ow hd sz ko kh ks fw fh fs fz fF (0 : Int32) h0 n0 Z0 D hi (own_WF.idx wf (k := (0 : Int32)) (by decide) (by have e1 : ((0 : Int32) : Int32).toInt = 0 := (by decide); have q1 := wf.2.2.1; omega))) hZ (hw _ (List.mem_of_getElem? (i := 51) rfl)) (hw _ (List.mem_of_getElem? (i := 3) rfl)) (by decide) (by decide)) (g := (mkF m 31 #[.val (.ref a), .val (.int iv), .val (.long lim), .second, .val (.int (0 : Int32)), .val (.int (1 : Int32)), .val (.int (0 : Int32))] [(.int (0 : Int32)), (.int iv), (.ref a)])) rfl (by rw [hml]; rfl) (Steps.refl _) (a := a) (own_hp eh542 q546) q546' (argsL := [(.int iv), (.int (0 : Int32))]) (rest := []) (lenOf own_pd2 rfl) rfl (by show 2 * 0 + _ ≤ _; exact Nat.le_of_eq rfl) (hb hby own_d_prog_3_method_7_code_31) (fun _ _ => ⟨rfl, eh542, (by decide : 0 + 0 ≤ _), (by decide : 0 + 0 ≤ _)⟩)
    dsimp only [Pt.U, Pt.locs, Pt.cells, Pt.slots] at X546 l546 y546 z546 st546 hQ546
    subst l546 y546 z546
    obtain ⟨N546q, rfl, eh546⟩ := hQ546
    have N548 := Fr.app N544 N546q
    refine own_tr st546 ?_
    show own_Go p e below s _ _ _ (T546.setTop (mkF m 34 #[.val (.ref a), .val (.int iv), .val (.long lim), .second, .val (.int (0 : Int32)), .val (.int (1 : Int32)), .val (.int (0 : Int32))] [(.long (fF i (own_idx (fh i) (0 : Int32) (fz i)).toNatClampNeg))]))
    refine own_st (fun _ kQ => XT.lloadN X546.here hx rfl (hb hby own_d_prog_3_method_7_code_34) rfl kQ) ?_
    show own_Go p e below s _ _ _ (T546.setTop (mkF m 35 #[.val (.ref a), .val (.int iv), .val (.long lim), .second, .val (.int (0 : Int32)), .val (.int (1 : Int32)), .val (.int (0 : Int32))] [(.long lim), (.long (fF i (own_idx (fh i) (0 : Int32) (fz i)).toNatClampNeg))]))
    refine own_st (fun _ kQ => XT.lcmp X546.here hx rfl (hb hby own_d_prog_3_method_7_code_35) rfl kQ) ?_
    show own_Go p e below s _ _ _ (T546.setTop (mkF m 36 #[.val (.ref a), .val (.int iv), .val (.long lim), .second, .val (.int (0 : Int32)), .val (.int (1 : Int32)), .val (.int (0 : Int32))] [(.int (XT.cmpL (fF i (own_idx (fh i) (0 : Int32) (fz i)).toNatClampNeg) lim))]))
    by_cases hc549 : lim < (fF i (own_idx (fh i) (0 : Int32) (fz i)).toNatClampNeg)
    · refine own_st (fun _ kQ => XS.ifNo X546.here hx rfl (hb hby own_d_prog_3_method_7_code_36) rfl (XT.ll_le_f hc549) kQ) ?_
      show own_Go p e below s _ _ _ (T546.setTop (mkF m 39 #[.val (.ref a), .val (.int iv), .val (.long lim), .second, .val (.int (0 : Int32)), .val (.int (1 : Int32)), .val (.int (0 : Int32))] []))
      refine own_st (fun _ kQ => XS.iload X546.here hx rfl (hb hby own_d_prog_3_method_7_code_39) rfl kQ) ?_
      show own_Go p e below s _ _ _ (T546.setTop (mkF m 41 #[.val (.ref a), .val (.int iv), .val (.long lim), .second, .val (.int (0 : Int32)), .val (.int (1 : Int32)), .val (.int (0 : Int32))] [(.int (0 : Int32))]))
      refine own_st (fun _ kQ => XS.istore X546.here hx rfl (hb hby own_d_prog_3_method_7_code_41) rfl (l' := #[.val (.ref a), .val (.int iv), .val (.long lim), .second, .val (.int (0 : Int32)), .val (.int (0 : Int32)), .val (.int (0 : Int32))]) rfl kQ) ?_
      show own_Go p e below s _ _ _ (T546.setTop (mkF m 43 #[.val (.ref a), .val (.int iv), .val (.long lim), .second, .val (.int (0 : Int32)), .val (.int (0 : Int32)), .val (.int (0 : Int32))] []))
      refine own_st (fun _ kQ => XS.goto X546.here hx rfl (pc0 := 43) (pc' := 52) rfl (hb hby own_d_prog_3_method_7_code_43) (by decide) (by decide) kQ) ?_
      show own_Go p e below s _ _ _ (T546.setTop (mkF m 52 #[.val (.ref a), .val (.int iv), .val (.long lim), .second, .val (.int (0 : Int32)), .val (.int (0 : Int32)), .val (.int (0 : Int32))] []))
      refine own_st (fun _ kQ => XS.goto X546.here hx rfl (pc0 := 52) (pc' := 11) rfl (hb hby own_d_prog_3_method_7_code_52) (by decide) (by decide) kQ) ?_
      show own_Go p e below s _ _ _ (T546.setTop (mkF m 11 #[.val (.ref a), .val (.int iv), .val (.long lim), .second, .val (.int (0 : Int32)), .val (.int (0 : Int32)), .val (.int (0 : Int32))] []))
      refine own_st (fun _ kQ => XS.iload X546.here hx rfl (hb hby own_d_prog_3_method_7_code_11) rfl kQ) ?_
      show own_Go p e below s _ _ _ (T546.setTop (mkF m 13 #[.val (.ref a), .val (.int iv), .val (.long lim), .second, .val (.int (0 : Int32)), .val (.int (0 : Int32)), .val (.int (0 : Int32))] [(.int (0 : Int32))]))
      refine own_st (fun _ kQ => XS.iload X546.here hx rfl (hb hby own_d_prog_3_method_7_code_13) rfl kQ) ?_
      show own_Go p e below s _ _ _ (T546.setTop (mkF m 15 #[.val (.ref a), .val (.int iv), .val (.long lim), .second, .val (.int (0 : Int32)), .val (.int (0 : Int32)), .val (.int (0 : Int32))] [(.int (0 : Int32)), (.int (0 : Int32))]))
      refine own_st (fun _ kQ => XS.icmpYes X546.here hx rfl (pc0 := 15) (pc' := 55) rfl (hb hby own_d_prog_3_method_7_code_15) rfl (XT.ii_ge_t (by decide)) (by decide) (by decide) kQ) ?_
      show own_Go p e below s _ _ _ (T546.setTop (mkF m 55 #[.val (.ref a), .val (.int iv), .val (.long lim), .second, .val (.int (0 : Int32)), .val (.int (0 : Int32)), .val (.int (0 : Int32))] []))
      refine own_st (fun _ kQ => XS.iload X546.here hx rfl (hb hby own_d_prog_3_method_7_code_55) rfl kQ) ?_
      show own_Go p e below s _ _ _ (T546.setTop (mkF m 57 #[.val (.ref a), .val (.int iv), .val (.long lim), .second, .val (.int (0 : Int32)), .val (.int (0 : Int32)), .val (.int (0 : Int32))] [(.int (0 : Int32))]))
      refine own_retI X546 hx hlk Bd.returns (hb hby own_d_prog_3_method_7_code_57) (by decide) (by decide) ?_
      rw [eh546]
      exact ⟨N548, (by rw [← he0, ← he1]; unfold own_fa2; rw [if_pos hc545, if_pos hc549]), rfl⟩
    · refine own_st (fun _ kQ => XS.ifYes X546.here hx rfl (pc0 := 36) (pc' := 46) rfl (hb hby own_d_prog_3_method_7_code_36) rfl (XT.ll_le_t hc549) (by decide) (by decide) kQ) ?_
      show own_Go p e below s _ _ _ (T546.setTop (mkF m 46 #[.val (.ref a), .val (.int iv), .val (.long lim), .second, .val (.int (0 : Int32)), .val (.int (1 : Int32)), .val (.int (0 : Int32))] []))
      refine own_st (fun _ kQ => XS.iload X546.here hx rfl (hb hby own_d_prog_3_method_7_code_46) rfl kQ) ?_
      show own_Go p e below s _ _ _ (T546.setTop (mkF m 48 #[.val (.ref a), .val (.int iv), .val (.long lim), .second, .val (.int (0 : Int32)), .val (.int (1 : Int32)), .val (.int (0 : Int32))] [(.int (0 : Int32))]))
      refine own_st (fun _ kQ => XT.iconstV X546.here hx rfl (1 : Int32) (hb hby own_d_prog_3_method_7_code_48) (by decide) kQ) ?_
      show own_Go p e below s _ _ _ (T546.setTop (mkF m 49 #[.val (.ref a), .val (.int iv), .val (.long lim), .second, .val (.int (0 : Int32)), .val (.int (1 : Int32)), .val (.int (0 : Int32))] [(.int (1 : Int32)), (.int (0 : Int32))]))
      refine own_st (fun _ kQ => XS.iadd X546.here hx rfl (hb hby own_d_prog_3_method_7_code_49) rfl kQ) ?_
      show own_Go p e below s _ _ _ (T546.setTop (mkF m 50 #[.val (.ref a), .val (.int iv), .val (.long lim), .second, .val (.int (0 : Int32)), .val (.int (1 : Int32)), .val (.int (0 : Int32))] [(.int (1 : Int32))]))
      refine own_st (fun _ kQ => XS.istore X546.here hx rfl (hb hby own_d_prog_3_method_7_code_50) rfl (l' := #[.val (.ref a), .val (.int iv), .val (.long lim), .second, .val (.int (1 : Int32)), .val (.int (1 : Int32)), .val (.int (0 : Int32))]) rfl kQ) ?_
      show own_Go p e below s _ _ _ (T546.setTop (mkF m 52 #[.val (.ref a), .val (.int iv), .val (.long lim), .second, .val (.int (1 : Int32)), .val (.int (1 : Int32)), .val (.int (0 : Int32))] []))
      refine own_st (fun _ kQ => XS.goto X546.here hx rfl (pc0 := 52) (pc' := 11) rfl (hb hby own_d_prog_3_method_7_code_52) (by decide) (by decide) kQ) ?_
      show own_Go p e below s _ _ _ (T546.setTop (mkF m 11 #[.val (.ref a), .val (.int iv), .val (.long lim), .second, .val (.int (1 : Int32)), .val (.int (1 : Int32)), .val (.int (0 : Int32))] []))
      refine own_st (fun _ kQ => XS.iload X546.here hx rfl (hb hby own_d_prog_3_method_7_code_11) rfl kQ) ?_
      show own_Go p e below s _ _ _ (T546.setTop (mkF m 13 #[.val (.ref a), .val (.int iv), .val (.long lim), .second, .val (.int (1 : Int32)), .val (.int (1 : Int32)), .val (.int (0 : Int32))] [(.int (1 : Int32))]))
      refine own_st (fun _ kQ => XS.iload X546.here hx rfl (hb hby own_d_prog_3_method_7_code_13) rfl kQ) ?_
      show own_Go p e below s _ _ _ (T546.setTop (mkF m 15 #[.val (.ref a), .val (.int iv), .val (.long lim), .second, .val (.int (1 : Int32)), .val (.int (1 : Int32)), .val (.int (0 : Int32))] [(.int (1 : Int32)), (.int (1 : Int32))]))
      refine own_st (fun _ kQ => XS.icmpYes X546.here hx rfl (pc0 := 15) (pc' := 55) rfl (hb hby own_d_prog_3_method_7_code_15) rfl (XT.ii_ge_t (by decide)) (by decide) (by decide) kQ) ?_
      show own_Go p e below s _ _ _ (T546.setTop (mkF m 55 #[.val (.ref a), .val (.int iv), .val (.long lim), .second, .val (.int (1 : Int32)), .val (.int (1 : Int32)), .val (.int (0 : Int32))] []))
      refine own_st (fun _ kQ => XS.iload X546.here hx rfl (hb hby own_d_prog_3_method_7_code_55) rfl kQ) ?_
      show own_Go p e below s _ _ _ (T546.setTop (mkF m 57 #[.val (.ref a), .val (.int iv), .val (.long lim), .second, .val (.int (1 : Int32)), .val (.int (1 : Int32)), .val (.int (0 : Int32))] [(.int (1 : Int32))]))
      refine own_retI X546 hx hlk Bd.returns (hb hby own_d_prog_3_method_7_code_57) (by decide) (by decide) ?_
      rw [eh546]
      exact ⟨N548, (by rw [← he0, ← he1]; unfold own_fa2; rw [if_pos hc545, if_neg hc549]), rfl⟩
  · refine own_st (fun _ kQ => XS.ifYes X542.here hx rfl (pc0 := 36) (pc' := 46) rfl (hb hby own_d_prog_3_method_7_code_36) rfl (XT.ll_le_t hc545) (by decide) (by decide) kQ) ?_
    show own_Go p e below s _ _ _ (T542.setTop (mkF m 46 #[.val (.ref a), .val (.int iv), .val (.long lim), .second, .val (.int (0 : Int32)), .val (.int (2 : Int32)), .val (.int (1 : Int32))] []))
    refine own_st (fun _ kQ => XS.iload X542.here hx rfl (hb hby own_d_prog_3_method_7_code_46) rfl kQ) ?_
    show own_Go p e below s _ _ _ (T542.setTop (mkF m 48 #[.val (.ref a), .val (.int iv), .val (.long lim), .second, .val (.int (0 : Int32)), .val (.int (2 : Int32)), .val (.int (1 : Int32))] [(.int (1 : Int32))]))
    refine own_st (fun _ kQ => XT.iconstV X542.here hx rfl (1 : Int32) (hb hby own_d_prog_3_method_7_code_48) (by decide) kQ) ?_
    show own_Go p e below s _ _ _ (T542.setTop (mkF m 49 #[.val (.ref a), .val (.int iv), .val (.long lim), .second, .val (.int (0 : Int32)), .val (.int (2 : Int32)), .val (.int (1 : Int32))] [(.int (1 : Int32)), (.int (1 : Int32))]))
    refine own_st (fun _ kQ => XS.iadd X542.here hx rfl (hb hby own_d_prog_3_method_7_code_49) rfl kQ) ?_
    show own_Go p e below s _ _ _ (T542.setTop (mkF m 50 #[.val (.ref a), .val (.int iv), .val (.long lim), .second, .val (.int (0 : Int32)), .val (.int (2 : Int32)), .val (.int (1 : Int32))] [(.int (2 : Int32))]))
    refine own_st (fun _ kQ => XS.istore X542.here hx rfl (hb hby own_d_prog_3_method_7_code_50) rfl (l' := #[.val (.ref a), .val (.int iv), .val (.long lim), .second, .val (.int (2 : Int32)), .val (.int (2 : Int32)), .val (.int (1 : Int32))]) rfl kQ) ?_
    show own_Go p e below s _ _ _ (T542.setTop (mkF m 52 #[.val (.ref a), .val (.int iv), .val (.long lim), .second, .val (.int (2 : Int32)), .val (.int (2 : Int32)), .val (.int (1 : Int32))] []))
    refine own_st (fun _ kQ => XS.goto X542.here hx rfl (pc0 := 52) (pc' := 11) rfl (hb hby own_d_prog_3_method_7_code_52) (by decide) (by decide) kQ) ?_
    show own_Go p e below s _ _ _ (T542.setTop (mkF m 11 #[.val (.ref a), .val (.int iv), .val (.long lim), .second, .val (.int (2 : Int32)), .val (.int (2 : Int32)), .val (.int (1 : Int32))] []))
    refine own_st (fun _ kQ => XS.iload X542.here hx rfl (hb hby own_d_prog_3_method_7_code_11) rfl kQ) ?_
    show own_Go p e below s _ _ _ (T542.setTop (mkF m 13 #[.val (.ref a), .val (.int iv), .val (.long lim), .second, .val (.int (2 : Int32)), .val (.int (2 : Int32)), .val (.int (1 : Int32))] [(.int (2 : Int32))]))
    refine own_st (fun _ kQ => XS.iload X542.here hx rfl (hb hby own_d_prog_3_method_7_code_13) rfl kQ) ?_
    show own_Go p e below s _ _ _ (T542.setTop (mkF m 15 #[.val (.ref a), .val (.int iv), .val (.long lim), .second, .val (.int (2 : Int32)), .val (.int (2 : Int32)), .val (.int (1 : Int32))] [(.int (2 : Int32)), (.int (2 : Int32))]))
    refine own_st (fun _ kQ => XS.icmpYes X542.here hx rfl (pc0 := 15) (pc' := 55) rfl (hb hby own_d_prog_3_method_7_code_15) rfl (XT.ii_ge_t (by decide)) (by decide) (by decide) kQ) ?_
    show own_Go p e below s _ _ _ (T542.setTop (mkF m 55 #[.val (.ref a), .val (.int iv), .val (.long lim), .second, .val (.int (2 : Int32)), .val (.int (2 : Int32)), .val (.int (1 : Int32))] []))
    refine own_st (fun _ kQ => XS.iload X542.here hx rfl (hb hby own_d_prog_3_method_7_code_55) rfl kQ) ?_
    show own_Go p e below s _ _ _ (T542.setTop (mkF m 57 #[.val (.ref a), .val (.int iv), .val (.long lim), .second, .val (.int (2 : Int32)), .val (.int (2 : Int32)), .val (.int (1 : Int32))] [(.int (2 : Int32))]))
    refine own_retI X542 hx hlk Bd.returns (hb hby own_d_prog_3_method_7_code_57) (by decide) (by decide) ?_
    rw [eh542]
    exact ⟨N544, (by rw [← he0, ← he1]; unfold own_fa2; rw [if_neg hc545]), rfl⟩
def own_rm_cw2_Q (Z : State) (iv : Int32) (i : Nat) (a : Addr) (span : Int64) (cap : Int32) (sh : Addr) (ow : Addr) (hd : Addr) (sz : Addr) (ko : ClassId) (kh : ClassId) (ks : ClassId) (fw : Nat → Value) (fh : Nat → Int32) (fs : Nat → Int32) (fz : Nat → Int32) (fF : Nat → Nat → Int64) (ww : Int64) (el0 : Int64) (el1 : Int64) (h0 : Heap) (n0 : Nat) (v : Option Value) (h : Heap) (L : List Loc) : Prop := Fr n0 L ∧ v = some (.long (((2 : Int32) - (own_minI (own_fa2 (el1 - ww) el0 el1) (1 : Int32))).toInt64)) ∧ h = h0
theorem own_rm_cw2_ef (m : MethodId) (a : Addr) (iv : Int32) (ww : Int64)  : entryFrame m #[(.ref a), (.int iv), (.long ww)] 5 = mkF m 0 #[.val (.ref a), .val (.int iv), .val (.long ww), .second, .unset] [] := by first | (simp [entryFrame, mkF, argsToLocals, Value.category]; done) | rfl
set_option maxRecDepth 65536 in
set_option maxHeartbeats 40000000 in
theorem own_rm_cw2 (l : Launch) (Z : State) (a0 : Array Value) (hw : ∀ d ∈ tables_1, d.before a0 Z = true) (ws : List Jvm.Cond) (iv : Int32) (i : Nat) (a : Addr) (span : Int64) (cap : Int32) (sh : Addr) (ow : Addr) (hd : Addr) (sz : Addr) (ko : ClassId) (kh : ClassId) (ks : ClassId) (fw : Nat → Value) (fh : Nat → Int32) (fs : Nat → Int32) (fz : Nat → Int32) (fF : Nat → Nat → Int64) (ww : Int64) (el0 : Int64) (el1 : Int64) (h0 : Heap) (n0 : Nat) (Z0 : n0 ≤ h0.size) (D : own_AT Z h0 n0 a span cap sh ow hd sz ko kh ks fw fh fs fz fF) (hi : own_I iv i) (wf : own_WF cap (fh i) (fs i) (fz i)) (hsn : (fs i) = 2) (he0 : (fF i (own_idx (fh i) (0 : Int32) (fz i)).toNatClampNeg) = el0) (he1 : (fF i (own_idx (fh i) (1 : Int32) (fz i)).toNatClampNeg) = el1) :
    MetFree l (⟨"com/example/wache/wache/AttemptTimes", "countWithin", "(IJ)J"⟩ : MethodName) (head1 (Jvm.Cond.code (⟨"com/example/wache/wache/AttemptTimes", "countWithin", "(IJ)J"⟩ : MethodName) prog_3_method_4_code 5 (some .long) :: ws) ({ frames := 4, cells := 0, slots := 0, locals := 65 } : Room)) (fun aQ UQ => aQ = #[(.ref a), (.int iv), (.long ww)] ∧ Z.Warmed39 UQ.vm ∧ UQ.heap = h0) (fun _ _ _ _ _ => True) (fun _ UQ oQ U2 => ∃ vQ LQ, oQ = .returned vQ ∧ own_rm_cw2_Q Z iv i a span cap sh ow hd sz ko kh ks fw fh fs fz fF ww el0 el1 h0 n0 vQ U2.heap LQ ∧ FrameEnd UQ oQ U2 LQ ({ frames := 4, cells := 0, slots := 0, locals := 65 } : Room).cells ({ frames := 4, cells := 0, slots := 0, locals := 65 } : Room).slots) := by
  refine MetFree.of_bodySF own_pn13 hisR ?_
  intro p e s m args below meth c s₁ Bd hml0 hP hK
  obtain ⟨rfl, hZ, hh⟩ := hP
  have hx := Bd.exec
  have hby := Bd.bytes
  have hml : c.maxLocals = 5 := hml0
  have hlk := BodyLoose.notSynchronized Bd
  have hown : s.vm.findClass "com/example/wache/wache/AttemptTimes" = some m.cls := findClass_of_methodNamed Bd.named
  have hnm := (name_of_methodNamed Bd.named Bd.method).1
  have X0 : Stand p l e ({ frames := 4, cells := 0, slots := 0, locals := 65 } : Room) s m #[(.ref a), (.int iv), (.long ww)] below meth c s₁ [] 0 0 := Stand.of_body Bd
  have e0 : s₁.heap = h0 := by rw [← hh, Bd.state]; rfl
  have N0 := Fr.nil n0
  show own_Go p e below s (own_rm_cw2_Q Z iv i a span cap sh ow hd sz ko kh ks fw fh fs fz fF ww el0 el1 h0 n0) ({ frames := 4, cells := 0, slots := 0, locals := 65 } : Room).cells ({ frames := 4, cells := 0, slots := 0, locals := 65 } : Room).slots (s₁.setTop (entryFrame m #[(.ref a), (.int iv), (.long ww)] 5))
  rw [own_rm_cw2_ef]
  show own_Go p e below s _ _ _ (s₁.setTop (mkF m 0 #[.val (.ref a), .val (.int iv), .val (.long ww), .second, .unset] []))
  have hL : (fF i (own_idx (fh i) ((fs i) - (1 : Int32)) (fz i)).toNatClampNeg) = el1 := by rw [hsn]; exact he1
  have one1 : 1 ≤ (fs i).toInt := by rw [hsn]; decide
  refine own_st (fun _ kQ => XS.aloadN X0.here hx rfl (hb hby own_d_prog_3_method_4_code_0) rfl rfl kQ) ?_
  show own_Go p e below s _ _ _ (s₁.setTop (mkF m 1 #[.val (.ref a), .val (.int iv), .val (.long ww), .second, .unset] [(.ref a)]))
  refine own_st (fun _ kQ => XS.iloadN X0.here hx rfl (hb hby own_d_prog_3_method_4_code_1) rfl kQ) ?_
  show own_Go p e below s _ _ _ (s₁.setTop (mkF m 2 #[.val (.ref a), .val (.int iv), .val (.long ww), .second, .unset] [(.int iv), (.ref a)]))
  refine own_st (fun _ kQ => XS.aloadN X0.here hx rfl (hb hby own_d_prog_3_method_4_code_2) rfl rfl kQ) ?_
  show own_Go p e below s _ _ _ (s₁.setTop (mkF m 3 #[.val (.ref a), .val (.int iv), .val (.long ww), .second, .unset] [(.ref a), (.int iv), (.ref a)]))
  refine own_st (fun _ kQ => XS.iloadN X0.here hx rfl (hb hby own_d_prog_3_method_4_code_3) rfl kQ) ?_
  show own_Go p e below s _ _ _ (s₁.setTop (mkF m 4 #[.val (.ref a), .val (.int iv), .val (.long ww), .second, .unset] [(.int iv), (.ref a), (.int iv), (.ref a)]))
  have F551 : Exa Z h0 a "com/example/wache/wache/AttemptTimes" := D.exa
  obtain ⟨cq550, kq550, q550a, q550b, q550c⟩ := isOf hZ e0 F551
  obtain ⟨_, _, ⟨T550, L550, k550, n550⟩, -, X550, ⟨Lc550, hQ550, l550, y550, z550⟩, st550⟩ := X0.virtualBack hx (y := (⟨"com/example/wache/wache/AttemptTimes", "latest", "(I)J"⟩ : MethodName)) (z := (⟨"com/example/wache/wache/AttemptTimes", "latest", "(I)J"⟩ : MethodName)) hown (mvT hZ (hw _ (List.mem_of_getElem? (i := 58) rfl))) (mvT hZ (hw _ (List.mem_of_getElem? (i := 59) rfl))) (notFace_of_selects (args := #[]) (mvT hZ (hw _ (List.mem_of_getElem? (i := 61) rfl)))) (mvT hZ (hw _ (List.mem_of_getElem? (i := 61) rfl))) (mvT hZ (hw _ (List.mem_of_getElem? (i := 60) rfl))) (by decide) (backOf (W := 2) (own_rm_latest l Z a0 hw [] iv i a span cap sh ow hd sz ko kh ks fw fh fs fz fF h0 n0 Z0 D hi (own_WF.last wf one1)) hZ (hw _ (List.mem_of_getElem? (i := 62) rfl)) (hw _ (List.mem_of_getElem? (i := 3) rfl)) (by decide) (by decide)) q550a q550c (g := (mkF m 4 #[.val (.ref a), .val (.int iv), .val (.long ww), .second, .unset] [(.int iv), (.ref a), (.int iv), (.ref a)])) rfl (by rw [hml]; rfl) (Steps.refl _) (argsL := [(.int iv)]) (rest := [(.int iv), (.ref a)]) (lenOf own_pd6 rfl) rfl (by show 2 * 0 + _ ≤ _; exact Nat.le_of_eq rfl) (hb hby own_d_prog_3_method_4_code_4) (fun _ _ => ⟨rfl, e0, (by decide : 0 + 0 ≤ _), (by decide : 0 + 0 ≤ _)⟩)
  dsimp only [Pt.U, Pt.locs, Pt.cells, Pt.slots] at X550 l550 y550 z550 st550 hQ550
  subst l550 y550 z550
  obtain ⟨N550q, rfl, eh550⟩ := hQ550
  have N552 := Fr.app N0 N550q
  refine own_tr st550 ?_
  show own_Go p e below s _ _ _ (T550.setTop (mkF m 7 #[.val (.ref a), .val (.int iv), .val (.long ww), .second, .unset] [(.long (fF i (own_idx (fh i) ((fs i) - (1 : Int32)) (fz i)).toNatClampNeg)), (.int iv), (.ref a)]))
  refine own_st (fun _ kQ => XT.lloadN X550.here hx rfl (hb hby own_d_prog_3_method_4_code_7) rfl kQ) ?_
  show own_Go p e below s _ _ _ (T550.setTop (mkF m 8 #[.val (.ref a), .val (.int iv), .val (.long ww), .second, .unset] [(.long ww), (.long (fF i (own_idx (fh i) ((fs i) - (1 : Int32)) (fz i)).toNatClampNeg)), (.int iv), (.ref a)]))
  refine own_st (fun _ kQ => XT.lsub X550.here hx rfl (hb hby own_d_prog_3_method_4_code_8) rfl kQ) ?_
  show own_Go p e below s _ _ _ (T550.setTop (mkF m 9 #[.val (.ref a), .val (.int iv), .val (.long ww), .second, .unset] [(.long ((fF i (own_idx (fh i) ((fs i) - (1 : Int32)) (fz i)).toNatClampNeg) - ww)), (.int iv), (.ref a)]))
  have F554 : Exa Z h0 a "com/example/wache/wache/AttemptTimes" := D.exa
  obtain ⟨cq553, q553, q553'⟩ := F554.cell
  obtain ⟨_, _, ⟨T553, L553, k553, n553⟩, -, X553, ⟨Lc553, hQ553, l553, y553, z553⟩, st553⟩ := X550.privateBack hx (y := (⟨"com/example/wache/wache/AttemptTimes", "firstAfter", "(IJ)I"⟩ : MethodName)) hown (mvT hZ (hw _ (List.mem_of_getElem? (i := 63) rfl))) (mvT hZ (hw _ (List.mem_of_getElem? (i := 64) rfl))) (mvT hZ (own_selP (hw _ (List.mem_of_getElem? (i := 64) rfl)) (hw _ (List.mem_of_getElem? (i := 65) rfl)) (hw _ (List.mem_of_getElem? (i := 2) rfl)) (by decide))) (Cond.privateMethod_at (mvP hZ (hw _ (List.mem_of_getElem? (i := 65) rfl)) (args := #[]))) (mvT hZ (hw _ (List.mem_of_getElem? (i := 66) rfl))) (by decide) (backOf (W := 0) (own_rm_fa2 l Z a0 hw [] iv i a span cap sh ow hd sz ko kh ks fw fh fs fz fF ((fF i (own_idx (fh i) ((fs i) - (1 : Int32)) (fz i)).toNatClampNeg) - ww) el0 el1 h0 n0 Z0 D hi wf hsn he0 he1) hZ (hw _ (List.mem_of_getElem? (i := 66) rfl)) (hw _ (List.mem_of_getElem? (i := 3) rfl)) (by decide) (by decide)) (g := (mkF m 9 #[.val (.ref a), .val (.int iv), .val (.long ww), .second, .unset] [(.long ((fF i (own_idx (fh i) ((fs i) - (1 : Int32)) (fz i)).toNatClampNeg) - ww)), (.int iv), (.ref a)])) rfl (by rw [hml]; rfl) (Steps.refl _) (a := a) (own_hp eh550 q553) q553' (argsL := [(.int iv), (.long ((fF i (own_idx (fh i) ((fs i) - (1 : Int32)) (fz i)).toNatClampNeg) - ww))]) (rest := []) (lenOf own_pd7 rfl) rfl (by show 2 * 0 + _ ≤ _; exact Nat.le_of_eq rfl) (hb hby own_d_prog_3_method_4_code_9) (fun _ _ => ⟨rfl, eh550, (by decide : 0 + 0 ≤ _), (by decide : 0 + 0 ≤ _)⟩)
  dsimp only [Pt.U, Pt.locs, Pt.cells, Pt.slots] at X553 l553 y553 z553 st553 hQ553
  subst l553 y553 z553
  obtain ⟨N553q, rfl, eh553⟩ := hQ553
  have N555 := Fr.app N552 N553q
  refine own_tr st553 ?_
  show own_Go p e below s _ _ _ (T553.setTop (mkF m 12 #[.val (.ref a), .val (.int iv), .val (.long ww), .second, .unset] [(.int (own_fa2 ((fF i (own_idx (fh i) ((fs i) - (1 : Int32)) (fz i)).toNatClampNeg) - ww) el0 el1))]))
  refine own_st (fun _ kQ => XS.aloadN X553.here hx rfl (hb hby own_d_prog_3_method_4_code_12) rfl rfl kQ) ?_
  show own_Go p e below s _ _ _ (T553.setTop (mkF m 13 #[.val (.ref a), .val (.int iv), .val (.long ww), .second, .unset] [(.ref a), (.int (own_fa2 ((fF i (own_idx (fh i) ((fs i) - (1 : Int32)) (fz i)).toNatClampNeg) - ww) el0 el1))]))
  have F556 : Fld Z h0 a "com/example/wache/wache/AttemptTimes" "sizes" "[I" (.ref sz) := D.fsz
  obtain ⟨T557, X557, e557, st557⟩ := getF X553 hx hZ hown (host := "") (Or.inl (hw _ (List.mem_of_getElem? (i := 24) rfl))) Via.refl eh553 F556 (g := (mkF m 13 #[.val (.ref a), .val (.int iv), .val (.long ww), .second, .unset] [(.ref a), (.int (own_fa2 ((fF i (own_idx (fh i) ((fs i) - (1 : Int32)) (fz i)).toNatClampNeg) - ww) el0 el1))])) rfl rfl (hb hby own_d_prog_3_method_4_code_13)
  refine own_st st557 ?_
  show own_Go p e below s _ _ _ (T557.setTop (mkF m 16 #[.val (.ref a), .val (.int iv), .val (.long ww), .second, .unset] [(.ref sz), (.int (own_fa2 ((fF i (own_idx (fh i) ((fs i) - (1 : Int32)) (fz i)).toNatClampNeg) - ww) el0 el1))]))
  refine own_st (fun _ kQ => XS.iloadN X557.here hx rfl (hb hby own_d_prog_3_method_4_code_16) rfl kQ) ?_
  show own_Go p e below s _ _ _ (T557.setTop (mkF m 17 #[.val (.ref a), .val (.int iv), .val (.long ww), .second, .unset] [(.int iv), (.ref sz), (.int (own_fa2 ((fF i (own_idx (fh i) ((fs i) - (1 : Int32)) (fz i)).toNatClampNeg) - ww) el0 el1))]))
  have F558 : Arv Z h0 sz ks .int (2 : Int32) [(.int (fs 0)), (.int (fs 1))] (.int (0 : Int32)) := D.vsz
  obtain ⟨cl559, Ar559, kc559, S559, Nn559, H559, G559⟩ := id F558
  have hin559 : ¬ (iv < 0 ∨ cl559.slots.size ≤ (iv : Int32).toNatClampNeg) := inb_of S559 (own_I.inb hi)
  have hat559 : cl559.slots[(iv : Int32).toNatClampNeg]? = some (.int (2 : Int32)) := H559.at hin559 ((own_I.getI hi fs _).trans (congrArg Value.int hsn))
  refine own_st (fun _ kQ => X557.iaload hx (j := iv) (v := (.int (2 : Int32))) (own_hp e557 Ar559.1) (State.isArrayOf_alike hZ.alike Ar559.2.1) Ar559.2.2 hin559 hat559 (g := (mkF m 17 #[.val (.ref a), .val (.int iv), .val (.long ww), .second, .unset] [(.int iv), (.ref sz), (.int (own_fa2 ((fF i (own_idx (fh i) ((fs i) - (1 : Int32)) (fz i)).toNatClampNeg) - ww) el0 el1))])) rfl rfl (hb hby own_d_prog_3_method_4_code_17) _ kQ) ?_
  show own_Go p e below s _ _ _ (T557.setTop (mkF m 18 #[.val (.ref a), .val (.int iv), .val (.long ww), .second, .unset] [(.int (2 : Int32)), (.int (own_fa2 ((fF i (own_idx (fh i) ((fs i) - (1 : Int32)) (fz i)).toNatClampNeg) - ww) el0 el1))]))
  refine own_st (fun _ kQ => XT.iconstV X557.here hx rfl (1 : Int32) (hb hby own_d_prog_3_method_4_code_18) (by decide) kQ) ?_
  show own_Go p e below s _ _ _ (T557.setTop (mkF m 19 #[.val (.ref a), .val (.int iv), .val (.long ww), .second, .unset] [(.int (1 : Int32)), (.int (2 : Int32)), (.int (own_fa2 ((fF i (own_idx (fh i) ((fs i) - (1 : Int32)) (fz i)).toNatClampNeg) - ww) el0 el1))]))
  refine own_st (fun _ kQ => XS.isub X557.here hx rfl (hb hby own_d_prog_3_method_4_code_19) rfl kQ) ?_
  show own_Go p e below s _ _ _ (T557.setTop (mkF m 20 #[.val (.ref a), .val (.int iv), .val (.long ww), .second, .unset] [(.int (1 : Int32)), (.int (own_fa2 ((fF i (own_idx (fh i) ((fs i) - (1 : Int32)) (fz i)).toNatClampNeg) - ww) el0 el1))]))
  obtain ⟨_, _, ⟨T560, L560, k560, n560⟩, -, X560, ⟨Lc560, hQ560, l560, y560, z560⟩, st560⟩ := Jvm.LawKit.callS X557 hx (y := (⟨"java/lang/Math", "min", "(II)I"⟩ : MethodName)) hown (mvT hZ (hw _ (List.mem_of_getElem? (i := 67) rfl))) (mvT hZ (hw _ (List.mem_of_getElem? (i := 68) rfl))) (mvT hZ (hw _ (List.mem_of_getElem? (i := 69) rfl))) (mvT hZ (hw _ (List.mem_of_getElem? (i := 70) rfl))) (by decide) (backOf (W := 0) (own_rm_minI l Z a0 hw [] (own_fa2 ((fF i (own_idx (fh i) ((fs i) - (1 : Int32)) (fz i)).toNatClampNeg) - ww) el0 el1) (1 : Int32) h0 n0 Z0 ) hZ (hw _ (List.mem_of_getElem? (i := 70) rfl)) (hw _ (List.mem_of_getElem? (i := 69) rfl)) (by decide) (by decide)) (g := (mkF m 20 #[.val (.ref a), .val (.int iv), .val (.long ww), .second, .unset] [(.int (1 : Int32)), (.int (own_fa2 ((fF i (own_idx (fh i) ((fs i) - (1 : Int32)) (fz i)).toNatClampNeg) - ww) el0 el1))])) rfl (by rw [hml]; rfl) (argsL := [(.int (own_fa2 ((fF i (own_idx (fh i) ((fs i) - (1 : Int32)) (fz i)).toNatClampNeg) - ww) el0 el1)), (.int (1 : Int32))]) (rest := []) (lenOf own_pd1 rfl) rfl (by show 2 * 0 + _ ≤ _; exact Nat.le_of_eq rfl) (hb hby own_d_prog_3_method_4_code_20) (fun _ _ => ⟨rfl, e557, (by decide : 0 + 0 ≤ _), (by decide : 0 + 0 ≤ _)⟩)
  dsimp only [Pt.U, Pt.locs, Pt.cells, Pt.slots] at X560 l560 y560 z560 st560 hQ560
  subst l560 y560 z560
  obtain ⟨N560q, rfl, eh560⟩ := hQ560
  have N561 := Fr.app N555 N560q
  refine own_st st560 ?_
  show own_Go p e below s _ _ _ (T560.setTop (mkF m 23 #[.val (.ref a), .val (.int iv), .val (.long ww), .second, .unset] [(.int (own_minI (own_fa2 ((fF i (own_idx (fh i) ((fs i) - (1 : Int32)) (fz i)).toNatClampNeg) - ww) el0 el1) (1 : Int32)))]))
  refine own_st (fun _ kQ => XS.istore X560.here hx rfl (hb hby own_d_prog_3_method_4_code_23) rfl (l' := #[.val (.ref a), .val (.int iv), .val (.long ww), .second, .val (.int (own_minI (own_fa2 ((fF i (own_idx (fh i) ((fs i) - (1 : Int32)) (fz i)).toNatClampNeg) - ww) el0 el1) (1 : Int32)))]) rfl kQ) ?_
  show own_Go p e below s _ _ _ (T560.setTop (mkF m 25 #[.val (.ref a), .val (.int iv), .val (.long ww), .second, .val (.int (own_minI (own_fa2 ((fF i (own_idx (fh i) ((fs i) - (1 : Int32)) (fz i)).toNatClampNeg) - ww) el0 el1) (1 : Int32)))] []))
  refine own_st (fun _ kQ => XS.aloadN X560.here hx rfl (hb hby own_d_prog_3_method_4_code_25) rfl rfl kQ) ?_
  show own_Go p e below s _ _ _ (T560.setTop (mkF m 26 #[.val (.ref a), .val (.int iv), .val (.long ww), .second, .val (.int (own_minI (own_fa2 ((fF i (own_idx (fh i) ((fs i) - (1 : Int32)) (fz i)).toNatClampNeg) - ww) el0 el1) (1 : Int32)))] [(.ref a)]))
  have F562 : Fld Z h0 a "com/example/wache/wache/AttemptTimes" "sizes" "[I" (.ref sz) := D.fsz
  obtain ⟨T563, X563, e563, st563⟩ := getF X560 hx hZ hown (host := "") (Or.inl (hw _ (List.mem_of_getElem? (i := 24) rfl))) Via.refl eh560 F562 (g := (mkF m 26 #[.val (.ref a), .val (.int iv), .val (.long ww), .second, .val (.int (own_minI (own_fa2 ((fF i (own_idx (fh i) ((fs i) - (1 : Int32)) (fz i)).toNatClampNeg) - ww) el0 el1) (1 : Int32)))] [(.ref a)])) rfl rfl (hb hby own_d_prog_3_method_4_code_26)
  refine own_st st563 ?_
  show own_Go p e below s _ _ _ (T563.setTop (mkF m 29 #[.val (.ref a), .val (.int iv), .val (.long ww), .second, .val (.int (own_minI (own_fa2 ((fF i (own_idx (fh i) ((fs i) - (1 : Int32)) (fz i)).toNatClampNeg) - ww) el0 el1) (1 : Int32)))] [(.ref sz)]))
  refine own_st (fun _ kQ => XS.iloadN X563.here hx rfl (hb hby own_d_prog_3_method_4_code_29) rfl kQ) ?_
  show own_Go p e below s _ _ _ (T563.setTop (mkF m 30 #[.val (.ref a), .val (.int iv), .val (.long ww), .second, .val (.int (own_minI (own_fa2 ((fF i (own_idx (fh i) ((fs i) - (1 : Int32)) (fz i)).toNatClampNeg) - ww) el0 el1) (1 : Int32)))] [(.int iv), (.ref sz)]))
  have F564 : Arv Z h0 sz ks .int (2 : Int32) [(.int (fs 0)), (.int (fs 1))] (.int (0 : Int32)) := D.vsz
  obtain ⟨cl565, Ar565, kc565, S565, Nn565, H565, G565⟩ := id F564
  have hin565 : ¬ (iv < 0 ∨ cl565.slots.size ≤ (iv : Int32).toNatClampNeg) := inb_of S565 (own_I.inb hi)
  have hat565 : cl565.slots[(iv : Int32).toNatClampNeg]? = some (.int (2 : Int32)) := H565.at hin565 ((own_I.getI hi fs _).trans (congrArg Value.int hsn))
  refine own_st (fun _ kQ => X563.iaload hx (j := iv) (v := (.int (2 : Int32))) (own_hp e563 Ar565.1) (State.isArrayOf_alike hZ.alike Ar565.2.1) Ar565.2.2 hin565 hat565 (g := (mkF m 30 #[.val (.ref a), .val (.int iv), .val (.long ww), .second, .val (.int (own_minI (own_fa2 ((fF i (own_idx (fh i) ((fs i) - (1 : Int32)) (fz i)).toNatClampNeg) - ww) el0 el1) (1 : Int32)))] [(.int iv), (.ref sz)])) rfl rfl (hb hby own_d_prog_3_method_4_code_30) _ kQ) ?_
  show own_Go p e below s _ _ _ (T563.setTop (mkF m 31 #[.val (.ref a), .val (.int iv), .val (.long ww), .second, .val (.int (own_minI (own_fa2 ((fF i (own_idx (fh i) ((fs i) - (1 : Int32)) (fz i)).toNatClampNeg) - ww) el0 el1) (1 : Int32)))] [(.int (2 : Int32))]))
  refine own_st (fun _ kQ => XS.iload X563.here hx rfl (hb hby own_d_prog_3_method_4_code_31) rfl kQ) ?_
  show own_Go p e below s _ _ _ (T563.setTop (mkF m 33 #[.val (.ref a), .val (.int iv), .val (.long ww), .second, .val (.int (own_minI (own_fa2 ((fF i (own_idx (fh i) ((fs i) - (1 : Int32)) (fz i)).toNatClampNeg) - ww) el0 el1) (1 : Int32)))] [(.int (own_minI (own_fa2 ((fF i (own_idx (fh i) ((fs i) - (1 : Int32)) (fz i)).toNatClampNeg) - ww) el0 el1) (1 : Int32))), (.int (2 : Int32))]))
  refine own_st (fun _ kQ => XS.isub X563.here hx rfl (hb hby own_d_prog_3_method_4_code_33) rfl kQ) ?_
  show own_Go p e below s _ _ _ (T563.setTop (mkF m 34 #[.val (.ref a), .val (.int iv), .val (.long ww), .second, .val (.int (own_minI (own_fa2 ((fF i (own_idx (fh i) ((fs i) - (1 : Int32)) (fz i)).toNatClampNeg) - ww) el0 el1) (1 : Int32)))] [(.int ((2 : Int32) - (own_minI (own_fa2 ((fF i (own_idx (fh i) ((fs i) - (1 : Int32)) (fz i)).toNatClampNeg) - ww) el0 el1) (1 : Int32))))]))
  refine own_st (fun _ kQ => XT.i2l X563.here hx rfl (hb hby own_d_prog_3_method_4_code_34) rfl kQ) ?_
  show own_Go p e below s _ _ _ (T563.setTop (mkF m 35 #[.val (.ref a), .val (.int iv), .val (.long ww), .second, .val (.int (own_minI (own_fa2 ((fF i (own_idx (fh i) ((fs i) - (1 : Int32)) (fz i)).toNatClampNeg) - ww) el0 el1) (1 : Int32)))] [(.long (((2 : Int32) - (own_minI (own_fa2 ((fF i (own_idx (fh i) ((fs i) - (1 : Int32)) (fz i)).toNatClampNeg) - ww) el0 el1) (1 : Int32))).toInt64))]))
  refine own_retJ X563 hx hlk Bd.returns (hb hby own_d_prog_3_method_4_code_35) (by decide) (by decide) ?_
  rw [e563]
  exact ⟨N561, (by rw [hL]), rfl⟩
def own_rm_addE_Q (Z : State) (iv : Int32) (i : Nat) (a : Addr) (span : Int64) (cap : Int32) (sh : Addr) (ow : Addr) (hd : Addr) (sz : Addr) (ko : ClassId) (kh : ClassId) (ks : ClassId) (fw : Nat → Value) (fh : Nat → Int32) (fs : Nat → Int32) (fz : Nat → Int32) (fF : Nat → Nat → Int64) (x : Int64) (h0 : Heap) (n0 : Nat) (v : Option Value) (h : Heap) (L : List Loc) : Prop := ∃ fs2 : Nat → Int32, ∃ fF2 : Nat → Nat → Int64, Fr n0 L ∧ v = none ∧ own_AT Z h n0 a span cap sh ow hd sz ko kh ks fw fh fs2 fz fF2 ∧ fs2 i = 1 ∧ fF2 i (own_idx (fh i) (0 : Int32) (fz i)).toNatClampNeg = x ∧ (∀ q, q ≠ i → fs2 q = fs q ∧ fF2 q = fF q)
theorem own_rm_addE_ef (m : MethodId) (a : Addr) (iv : Int32) (x : Int64)  : entryFrame m #[(.ref a), (.int iv), (.long x)] 4 = mkF m 0 #[.val (.ref a), .val (.int iv), .val (.long x), .second] [] := by first | (simp [entryFrame, mkF, argsToLocals, Value.category]; done) | rfl
set_option maxRecDepth 65536 in
set_option maxHeartbeats 40000000 in
theorem own_rm_addE (l : Launch) (Z : State) (a0 : Array Value) (hw : ∀ d ∈ tables_1, d.before a0 Z = true) (ws : List Jvm.Cond) (iv : Int32) (i : Nat) (a : Addr) (span : Int64) (cap : Int32) (sh : Addr) (ow : Addr) (hd : Addr) (sz : Addr) (ko : ClassId) (kh : ClassId) (ks : ClassId) (fw : Nat → Value) (fh : Nat → Int32) (fs : Nat → Int32) (fz : Nat → Int32) (fF : Nat → Nat → Int64) (x : Int64) (h0 : Heap) (n0 : Nat) (Z0 : n0 ≤ h0.size) (D : own_AT Z h0 n0 a span cap sh ow hd sz ko kh ks fw fh fs fz fF) (hi : own_I iv i) (wf : own_WF cap (fh i) (fs i) (fz i)) (hs0 : (fs i) = 0) :
    MetFree l (⟨"com/example/wache/wache/AttemptTimes", "add", "(IJ)V"⟩ : MethodName) (head1 (Jvm.Cond.code (⟨"com/example/wache/wache/AttemptTimes", "add", "(IJ)V"⟩ : MethodName) prog_3_method_2_code 4 none :: ws) ({ frames := 3, cells := 0, slots := 0, locals := 49 } : Room)) (fun aQ UQ => aQ = #[(.ref a), (.int iv), (.long x)] ∧ Z.Warmed39 UQ.vm ∧ UQ.heap = h0) (fun _ _ _ _ _ => True) (fun _ UQ oQ U2 => ∃ vQ LQ, oQ = .returned vQ ∧ own_rm_addE_Q Z iv i a span cap sh ow hd sz ko kh ks fw fh fs fz fF x h0 n0 vQ U2.heap LQ ∧ FrameEnd UQ oQ U2 LQ ({ frames := 3, cells := 0, slots := 0, locals := 49 } : Room).cells ({ frames := 3, cells := 0, slots := 0, locals := 49 } : Room).slots) := by
  refine MetFree.of_bodySF own_pn8 hisR ?_
  intro p e s m args below meth c s₁ Bd hml0 hP hK
  obtain ⟨rfl, hZ, hh⟩ := hP
  have hx := Bd.exec
  have hby := Bd.bytes
  have hml : c.maxLocals = 4 := hml0
  have hlk := BodyLoose.notSynchronized Bd
  have hown : s.vm.findClass "com/example/wache/wache/AttemptTimes" = some m.cls := findClass_of_methodNamed Bd.named
  have hnm := (name_of_methodNamed Bd.named Bd.method).1
  have X0 : Stand p l e ({ frames := 3, cells := 0, slots := 0, locals := 49 } : Room) s m #[(.ref a), (.int iv), (.long x)] below meth c s₁ [] 0 0 := Stand.of_body Bd
  have e0 : s₁.heap = h0 := by rw [← hh, Bd.state]; rfl
  have N0 := Fr.nil n0
  show own_Go p e below s (own_rm_addE_Q Z iv i a span cap sh ow hd sz ko kh ks fw fh fs fz fF x h0 n0) ({ frames := 3, cells := 0, slots := 0, locals := 49 } : Room).cells ({ frames := 3, cells := 0, slots := 0, locals := 49 } : Room).slots (s₁.setTop (entryFrame m #[(.ref a), (.int iv), (.long x)] 4))
  rw [own_rm_addE_ef]
  show own_Go p e below s _ _ _ (s₁.setTop (mkF m 0 #[.val (.ref a), .val (.int iv), .val (.long x), .second] []))
  refine own_st (fun _ kQ => XS.aloadN X0.here hx rfl (hb hby own_d_prog_3_method_2_code_0) rfl rfl kQ) ?_
  show own_Go p e below s _ _ _ (s₁.setTop (mkF m 1 #[.val (.ref a), .val (.int iv), .val (.long x), .second] [(.ref a)]))
  have F566 : Fld Z h0 a "com/example/wache/wache/AttemptTimes" "sizes" "[I" (.ref sz) := D.fsz
  obtain ⟨T567, X567, e567, st567⟩ := getF X0 hx hZ hown (host := "") (Or.inl (hw _ (List.mem_of_getElem? (i := 24) rfl))) Via.refl e0 F566 (g := (mkF m 1 #[.val (.ref a), .val (.int iv), .val (.long x), .second] [(.ref a)])) rfl rfl (hb hby own_d_prog_3_method_2_code_1)
  refine own_st st567 ?_
  show own_Go p e below s _ _ _ (T567.setTop (mkF m 4 #[.val (.ref a), .val (.int iv), .val (.long x), .second] [(.ref sz)]))
  refine own_st (fun _ kQ => XS.iloadN X567.here hx rfl (hb hby own_d_prog_3_method_2_code_4) rfl kQ) ?_
  show own_Go p e below s _ _ _ (T567.setTop (mkF m 5 #[.val (.ref a), .val (.int iv), .val (.long x), .second] [(.int iv), (.ref sz)]))
  have F568 : Arv Z h0 sz ks .int (2 : Int32) [(.int (fs 0)), (.int (fs 1))] (.int (0 : Int32)) := D.vsz
  obtain ⟨cl569, Ar569, kc569, S569, Nn569, H569, G569⟩ := id F568
  have hin569 : ¬ (iv < 0 ∨ cl569.slots.size ≤ (iv : Int32).toNatClampNeg) := inb_of S569 (own_I.inb hi)
  have hat569 : cl569.slots[(iv : Int32).toNatClampNeg]? = some (.int (0 : Int32)) := H569.at hin569 ((own_I.getI hi fs _).trans (congrArg Value.int hs0))
  refine own_st (fun _ kQ => X567.iaload hx (j := iv) (v := (.int (0 : Int32))) (own_hp e567 Ar569.1) (State.isArrayOf_alike hZ.alike Ar569.2.1) Ar569.2.2 hin569 hat569 (g := (mkF m 5 #[.val (.ref a), .val (.int iv), .val (.long x), .second] [(.int iv), (.ref sz)])) rfl rfl (hb hby own_d_prog_3_method_2_code_5) _ kQ) ?_
  show own_Go p e below s _ _ _ (T567.setTop (mkF m 6 #[.val (.ref a), .val (.int iv), .val (.long x), .second] [(.int (0 : Int32))]))
  refine own_st (fun _ kQ => XS.ifYes X567.here hx rfl (pc0 := 6) (pc' := 33) rfl (hb hby own_d_prog_3_method_2_code_6) rfl (XT.i0_le_t (by decide)) (by decide) (by decide) kQ) ?_
  show own_Go p e below s _ _ _ (T567.setTop (mkF m 33 #[.val (.ref a), .val (.int iv), .val (.long x), .second] []))
  refine own_st (fun _ kQ => XS.aloadN X567.here hx rfl (hb hby own_d_prog_3_method_2_code_33) rfl rfl kQ) ?_
  show own_Go p e below s _ _ _ (T567.setTop (mkF m 34 #[.val (.ref a), .val (.int iv), .val (.long x), .second] [(.ref a)]))
  have F570 : Fld Z h0 a "com/example/wache/wache/AttemptTimes" "sizes" "[I" (.ref sz) := D.fsz
  obtain ⟨T571, X571, e571, st571⟩ := getF X567 hx hZ hown (host := "") (Or.inl (hw _ (List.mem_of_getElem? (i := 24) rfl))) Via.refl e567 F570 (g := (mkF m 34 #[.val (.ref a), .val (.int iv), .val (.long x), .second] [(.ref a)])) rfl rfl (hb hby own_d_prog_3_method_2_code_34)
  refine own_st st571 ?_
  show own_Go p e below s _ _ _ (T571.setTop (mkF m 37 #[.val (.ref a), .val (.int iv), .val (.long x), .second] [(.ref sz)]))
  refine own_st (fun _ kQ => XS.iloadN X571.here hx rfl (hb hby own_d_prog_3_method_2_code_37) rfl kQ) ?_
  show own_Go p e below s _ _ _ (T571.setTop (mkF m 38 #[.val (.ref a), .val (.int iv), .val (.long x), .second] [(.int iv), (.ref sz)]))
  have F572 : Arv Z h0 sz ks .int (2 : Int32) [(.int (fs 0)), (.int (fs 1))] (.int (0 : Int32)) := D.vsz
  obtain ⟨cl573, Ar573, kc573, S573, Nn573, H573, G573⟩ := id F572
  have hin573 : ¬ (iv < 0 ∨ cl573.slots.size ≤ (iv : Int32).toNatClampNeg) := inb_of S573 (own_I.inb hi)
  have hat573 : cl573.slots[(iv : Int32).toNatClampNeg]? = some (.int (0 : Int32)) := H573.at hin573 ((own_I.getI hi fs _).trans (congrArg Value.int hs0))
  refine own_st (fun _ kQ => X571.iaload hx (j := iv) (v := (.int (0 : Int32))) (own_hp e571 Ar573.1) (State.isArrayOf_alike hZ.alike Ar573.2.1) Ar573.2.2 hin573 hat573 (g := (mkF m 38 #[.val (.ref a), .val (.int iv), .val (.long x), .second] [(.int iv), (.ref sz)])) rfl rfl (hb hby own_d_prog_3_method_2_code_38) _ kQ) ?_
  show own_Go p e below s _ _ _ (T571.setTop (mkF m 39 #[.val (.ref a), .val (.int iv), .val (.long x), .second] [(.int (0 : Int32))]))
  refine own_st (fun _ kQ => XS.aloadN X571.here hx rfl (hb hby own_d_prog_3_method_2_code_39) rfl rfl kQ) ?_
  show own_Go p e below s _ _ _ (T571.setTop (mkF m 40 #[.val (.ref a), .val (.int iv), .val (.long x), .second] [(.ref a), (.int (0 : Int32))]))
  have F574 : Fld Z h0 a "com/example/wache/wache/AttemptTimes" "capacity" "I" (.int cap) := D.fcap
  obtain ⟨T575, X575, e575, st575⟩ := getF X571 hx hZ hown (host := "") (Or.inl (hw _ (List.mem_of_getElem? (i := 12) rfl))) Via.refl e571 F574 (g := (mkF m 40 #[.val (.ref a), .val (.int iv), .val (.long x), .second] [(.ref a), (.int (0 : Int32))])) rfl rfl (hb hby own_d_prog_3_method_2_code_40)
  refine own_st st575 ?_
  show own_Go p e below s _ _ _ (T575.setTop (mkF m 43 #[.val (.ref a), .val (.int iv), .val (.long x), .second] [(.int cap), (.int (0 : Int32))]))
  refine own_st (fun _ kQ => XS.icmpYes X575.here hx rfl (pc0 := 43) (pc' := 54) rfl (hb hby own_d_prog_3_method_2_code_43) rfl (XT.ii_ne_t (own_WF.ncap wf (k := (0 : Int32)) (by decide)).1) (by decide) (by decide) kQ) ?_
  show own_Go p e below s _ _ _ (T575.setTop (mkF m 54 #[.val (.ref a), .val (.int iv), .val (.long x), .second] []))
  refine own_st (fun _ kQ => XS.aloadN X575.here hx rfl (hb hby own_d_prog_3_method_2_code_54) rfl rfl kQ) ?_
  show own_Go p e below s _ _ _ (T575.setTop (mkF m 55 #[.val (.ref a), .val (.int iv), .val (.long x), .second] [(.ref a)]))
  have F576 : Fld Z h0 a "com/example/wache/wache/AttemptTimes" "sizes" "[I" (.ref sz) := D.fsz
  obtain ⟨T577, X577, e577, st577⟩ := getF X575 hx hZ hown (host := "") (Or.inl (hw _ (List.mem_of_getElem? (i := 24) rfl))) Via.refl e575 F576 (g := (mkF m 55 #[.val (.ref a), .val (.int iv), .val (.long x), .second] [(.ref a)])) rfl rfl (hb hby own_d_prog_3_method_2_code_55)
  refine own_st st577 ?_
  show own_Go p e below s _ _ _ (T577.setTop (mkF m 58 #[.val (.ref a), .val (.int iv), .val (.long x), .second] [(.ref sz)]))
  refine own_st (fun _ kQ => XS.iloadN X577.here hx rfl (hb hby own_d_prog_3_method_2_code_58) rfl kQ) ?_
  show own_Go p e below s _ _ _ (T577.setTop (mkF m 59 #[.val (.ref a), .val (.int iv), .val (.long x), .second] [(.int iv), (.ref sz)]))
  have F578 : Arv Z h0 sz ks .int (2 : Int32) [(.int (fs 0)), (.int (fs 1))] (.int (0 : Int32)) := D.vsz
  obtain ⟨cl579, Ar579, kc579, S579, Nn579, H579, G579⟩ := id F578
  have hin579 : ¬ (iv < 0 ∨ cl579.slots.size ≤ (iv : Int32).toNatClampNeg) := inb_of S579 (own_I.inb hi)
  have hat579 : cl579.slots[(iv : Int32).toNatClampNeg]? = some (.int (0 : Int32)) := H579.at hin579 ((own_I.getI hi fs _).trans (congrArg Value.int hs0))
  refine own_st (fun _ kQ => X577.iaload hx (j := iv) (v := (.int (0 : Int32))) (own_hp e577 Ar579.1) (State.isArrayOf_alike hZ.alike Ar579.2.1) Ar579.2.2 hin579 hat579 (g := (mkF m 59 #[.val (.ref a), .val (.int iv), .val (.long x), .second] [(.int iv), (.ref sz)])) rfl rfl (hb hby own_d_prog_3_method_2_code_59) _ kQ) ?_
  show own_Go p e below s _ _ _ (T577.setTop (mkF m 60 #[.val (.ref a), .val (.int iv), .val (.long x), .second] [(.int (0 : Int32))]))
  refine own_st (fun _ kQ => XS.aloadN X577.here hx rfl (hb hby own_d_prog_3_method_2_code_60) rfl rfl kQ) ?_
  show own_Go p e below s _ _ _ (T577.setTop (mkF m 61 #[.val (.ref a), .val (.int iv), .val (.long x), .second] [(.ref a), (.int (0 : Int32))]))
  refine own_st (fun _ kQ => XS.iloadN X577.here hx rfl (hb hby own_d_prog_3_method_2_code_61) rfl kQ) ?_
  show own_Go p e below s _ _ _ (T577.setTop (mkF m 62 #[.val (.ref a), .val (.int iv), .val (.long x), .second] [(.int iv), (.ref a), (.int (0 : Int32))]))
  have F581 : Exa Z h0 a "com/example/wache/wache/AttemptTimes" := D.exa
  obtain ⟨cq580, q580, q580'⟩ := F581.cell
  obtain ⟨_, _, ⟨T580, L580, k580, n580⟩, -, X580, ⟨Lc580, hQ580, l580, y580, z580⟩, st580⟩ := X577.privateBack hx (y := (⟨"com/example/wache/wache/AttemptTimes", "length", "(I)I"⟩ : MethodName)) hown (mvT hZ (hw _ (List.mem_of_getElem? (i := 31) rfl))) (mvT hZ (hw _ (List.mem_of_getElem? (i := 32) rfl))) (mvT hZ (own_selP (hw _ (List.mem_of_getElem? (i := 32) rfl)) (hw _ (List.mem_of_getElem? (i := 33) rfl)) (hw _ (List.mem_of_getElem? (i := 2) rfl)) (by decide))) (Cond.privateMethod_at (mvP hZ (hw _ (List.mem_of_getElem? (i := 33) rfl)) (args := #[]))) (mvT hZ (hw _ (List.mem_of_getElem? (i := 34) rfl))) (by decide) (backOf (W := 1) (own_rm_length l Z a0 hw [] iv i a span cap sh ow hd sz ko kh ks fw fh fs fz fF h0 n0 Z0 D hi) hZ (hw _ (List.mem_of_getElem? (i := 34) rfl)) (hw _ (List.mem_of_getElem? (i := 3) rfl)) (by decide) (by decide)) (g := (mkF m 62 #[.val (.ref a), .val (.int iv), .val (.long x), .second] [(.int iv), (.ref a), (.int (0 : Int32))])) rfl (by rw [hml]; rfl) (Steps.refl _) (a := a) (own_hp e577 q580) q580' (argsL := [(.int iv)]) (rest := [(.int (0 : Int32))]) (lenOf own_pd0 rfl) rfl (by show 2 * 0 + _ ≤ _; exact Nat.le_of_eq rfl) (hb hby own_d_prog_3_method_2_code_62) (fun _ _ => ⟨rfl, e577, (by decide : 0 + 0 ≤ _), (by decide : 0 + 0 ≤ _)⟩)
  dsimp only [Pt.U, Pt.locs, Pt.cells, Pt.slots] at X580 l580 y580 z580 st580 hQ580
  subst l580 y580 z580
  obtain ⟨N580q, rfl, eh580⟩ := hQ580
  have N582 := Fr.app N0 N580q
  refine own_tr st580 ?_
  show own_Go p e below s _ _ _ (T580.setTop (mkF m 65 #[.val (.ref a), .val (.int iv), .val (.long x), .second] [(.int (fz i)), (.int (0 : Int32))]))
  refine own_st (fun _ kQ => XS.icmpYes X580.here hx rfl (pc0 := 65) (pc' := 73) rfl (hb hby own_d_prog_3_method_2_code_65) rfl (XT.ii_ne_t (own_WF.ncap wf (k := (0 : Int32)) (by decide)).2) (by decide) (by decide) kQ) ?_
  show own_Go p e below s _ _ _ (T580.setTop (mkF m 73 #[.val (.ref a), .val (.int iv), .val (.long x), .second] []))
  refine own_st (fun _ kQ => XS.aloadN X580.here hx rfl (hb hby own_d_prog_3_method_2_code_73) rfl rfl kQ) ?_
  show own_Go p e below s _ _ _ (T580.setTop (mkF m 74 #[.val (.ref a), .val (.int iv), .val (.long x), .second] [(.ref a)]))
  refine own_st (fun _ kQ => XS.iloadN X580.here hx rfl (hb hby own_d_prog_3_method_2_code_74) rfl kQ) ?_
  show own_Go p e below s _ _ _ (T580.setTop (mkF m 75 #[.val (.ref a), .val (.int iv), .val (.long x), .second] [(.int iv), (.ref a)]))
  refine own_st (fun _ kQ => XS.aloadN X580.here hx rfl (hb hby own_d_prog_3_method_2_code_75) rfl rfl kQ) ?_
  show own_Go p e below s _ _ _ (T580.setTop (mkF m 76 #[.val (.ref a), .val (.int iv), .val (.long x), .second] [(.ref a), (.int iv), (.ref a)]))
  have F583 : Fld Z h0 a "com/example/wache/wache/AttemptTimes" "sizes" "[I" (.ref sz) := D.fsz
  obtain ⟨T584, X584, e584, st584⟩ := getF X580 hx hZ hown (host := "") (Or.inl (hw _ (List.mem_of_getElem? (i := 24) rfl))) Via.refl eh580 F583 (g := (mkF m 76 #[.val (.ref a), .val (.int iv), .val (.long x), .second] [(.ref a), (.int iv), (.ref a)])) rfl rfl (hb hby own_d_prog_3_method_2_code_76)
  refine own_st st584 ?_
  show own_Go p e below s _ _ _ (T584.setTop (mkF m 79 #[.val (.ref a), .val (.int iv), .val (.long x), .second] [(.ref sz), (.int iv), (.ref a)]))
  refine own_st (fun _ kQ => XS.iloadN X584.here hx rfl (hb hby own_d_prog_3_method_2_code_79) rfl kQ) ?_
  show own_Go p e below s _ _ _ (T584.setTop (mkF m 80 #[.val (.ref a), .val (.int iv), .val (.long x), .second] [(.int iv), (.ref sz), (.int iv), (.ref a)]))
  have F585 : Arv Z h0 sz ks .int (2 : Int32) [(.int (fs 0)), (.int (fs 1))] (.int (0 : Int32)) := D.vsz
  obtain ⟨cl586, Ar586, kc586, S586, Nn586, H586, G586⟩ := id F585
  have hin586 : ¬ (iv < 0 ∨ cl586.slots.size ≤ (iv : Int32).toNatClampNeg) := inb_of S586 (own_I.inb hi)
  have hat586 : cl586.slots[(iv : Int32).toNatClampNeg]? = some (.int (0 : Int32)) := H586.at hin586 ((own_I.getI hi fs _).trans (congrArg Value.int hs0))
  refine own_st (fun _ kQ => X584.iaload hx (j := iv) (v := (.int (0 : Int32))) (own_hp e584 Ar586.1) (State.isArrayOf_alike hZ.alike Ar586.2.1) Ar586.2.2 hin586 hat586 (g := (mkF m 80 #[.val (.ref a), .val (.int iv), .val (.long x), .second] [(.int iv), (.ref sz), (.int iv), (.ref a)])) rfl rfl (hb hby own_d_prog_3_method_2_code_80) _ kQ) ?_
  show own_Go p e below s _ _ _ (T584.setTop (mkF m 81 #[.val (.ref a), .val (.int iv), .val (.long x), .second] [(.int (0 : Int32)), (.int iv), (.ref a)]))
  refine own_st (fun _ kQ => XT.lloadN X584.here hx rfl (hb hby own_d_prog_3_method_2_code_81) rfl kQ) ?_
  show own_Go p e below s _ _ _ (T584.setTop (mkF m 82 #[.val (.ref a), .val (.int iv), .val (.long x), .second] [(.long x), (.int (0 : Int32)), (.int iv), (.ref a)]))
  have F588 : Exa Z h0 a "com/example/wache/wache/AttemptTimes" := D.exa
  obtain ⟨cq587, q587, q587'⟩ := F588.cell
  obtain ⟨_, _, ⟨T587, L587, k587, n587⟩, -, X587, ⟨Lc587, hQ587, l587, y587, z587⟩, st587⟩ := X584.privateBack hx (y := (⟨"com/example/wache/wache/AttemptTimes", "put", "(IIJ)V"⟩ : MethodName)) hown (mvT hZ (hw _ (List.mem_of_getElem? (i := 35) rfl))) (mvT hZ (hw _ (List.mem_of_getElem? (i := 36) rfl))) (mvT hZ (own_selP (hw _ (List.mem_of_getElem? (i := 36) rfl)) (hw _ (List.mem_of_getElem? (i := 37) rfl)) (hw _ (List.mem_of_getElem? (i := 2) rfl)) (by decide))) (Cond.privateMethod_at (mvP hZ (hw _ (List.mem_of_getElem? (i := 37) rfl)) (args := #[]))) (mvT hZ (hw _ (List.mem_of_getElem? (i := 38) rfl))) (by decide) (backOf (W := 0) (own_rm_put l Z a0 hw [] iv i a span cap sh ow hd sz ko kh ks fw fh fs fz fF (0 : Int32) x h0 n0 Z0 D hi (own_WF.idx wf (k := (0 : Int32)) (by decide) (by have e1 : ((0 : Int32) : Int32).toInt = 0 := (by decide); have q1 := wf.2.2.1; omega))) hZ (hw _ (List.mem_of_getElem? (i := 38) rfl)) (hw _ (List.mem_of_getElem? (i := 3) rfl)) (by decide) (by decide)) (g := (mkF m 82 #[.val (.ref a), .val (.int iv), .val (.long x), .second] [(.long x), (.int (0 : Int32)), (.int iv), (.ref a)])) rfl (by rw [hml]; rfl) (Steps.refl _) (a := a) (own_hp e584 q587) q587' (argsL := [(.int iv), (.int (0 : Int32)), (.long x)]) (rest := []) (lenOf own_pd4 rfl) rfl (by show 2 * 0 + _ ≤ _; exact Nat.le_of_eq rfl) (hb hby own_d_prog_3_method_2_code_82) (fun _ _ => ⟨rfl, e584, (by decide : 0 + 0 ≤ _), (by decide : 0 + 0 ≤ _)⟩)
  dsimp only [Pt.U, Pt.locs, Pt.cells, Pt.slots] at X587 l587 y587 z587 st587 hQ587
  subst l587 y587 z587
  obtain ⟨x589, N587q, rfl, q590, q591, q592, q593⟩ := hQ587
  have N594 := Fr.app N582 N587q
  refine own_tr st587 ?_
  have Zs595 : n0 ≤ T587.heap.size := q590.szle
  show own_Go p e below s _ _ _ (T587.setTop (mkF m 85 #[.val (.ref a), .val (.int iv), .val (.long x), .second] []))
  refine own_st (fun _ kQ => XS.aloadN X587.here hx rfl (hb hby own_d_prog_3_method_2_code_85) rfl rfl kQ) ?_
  show own_Go p e below s _ _ _ (T587.setTop (mkF m 86 #[.val (.ref a), .val (.int iv), .val (.long x), .second] [(.ref a)]))
  have F596 : Fld Z T587.heap a "com/example/wache/wache/AttemptTimes" "sizes" "[I" (.ref sz) := q590.fsz
  obtain ⟨T597, X597, e597, st597⟩ := getF X587 hx hZ hown (host := "") (Or.inl (hw _ (List.mem_of_getElem? (i := 24) rfl))) Via.refl rfl F596 (g := (mkF m 86 #[.val (.ref a), .val (.int iv), .val (.long x), .second] [(.ref a)])) rfl rfl (hb hby own_d_prog_3_method_2_code_86)
  refine own_st st597 ?_
  show own_Go p e below s _ _ _ (T597.setTop (mkF m 89 #[.val (.ref a), .val (.int iv), .val (.long x), .second] [(.ref sz)]))
  refine own_st (fun _ kQ => XS.iloadN X597.here hx rfl (hb hby own_d_prog_3_method_2_code_89) rfl kQ) ?_
  show own_Go p e below s _ _ _ (T597.setTop (mkF m 90 #[.val (.ref a), .val (.int iv), .val (.long x), .second] [(.int iv), (.ref sz)]))
  refine own_st (fun _ kQ => XT.dup2 X597.here hx rfl (hb hby own_d_prog_3_method_2_code_90) rfl rfl rfl kQ) ?_
  show own_Go p e below s _ _ _ (T597.setTop (mkF m 91 #[.val (.ref a), .val (.int iv), .val (.long x), .second] [(.int iv), (.ref sz), (.int iv), (.ref sz)]))
  have F598 : Arv Z T587.heap sz ks .int (2 : Int32) [(.int (fs 0)), (.int (fs 1))] (.int (0 : Int32)) := q590.vsz
  obtain ⟨cl599, Ar599, kc599, S599, Nn599, H599, G599⟩ := id F598
  have hin599 : ¬ (iv < 0 ∨ cl599.slots.size ≤ (iv : Int32).toNatClampNeg) := inb_of S599 (own_I.inb hi)
  have hat599 : cl599.slots[(iv : Int32).toNatClampNeg]? = some (.int (0 : Int32)) := H599.at hin599 ((own_I.getI hi fs _).trans (congrArg Value.int hs0))
  refine own_st (fun _ kQ => X597.iaload hx (j := iv) (v := (.int (0 : Int32))) (own_hp e597 Ar599.1) (State.isArrayOf_alike hZ.alike Ar599.2.1) Ar599.2.2 hin599 hat599 (g := (mkF m 91 #[.val (.ref a), .val (.int iv), .val (.long x), .second] [(.int iv), (.ref sz), (.int iv), (.ref sz)])) rfl rfl (hb hby own_d_prog_3_method_2_code_91) _ kQ) ?_
  show own_Go p e below s _ _ _ (T597.setTop (mkF m 92 #[.val (.ref a), .val (.int iv), .val (.long x), .second] [(.int (0 : Int32)), (.int iv), (.ref sz)]))
  refine own_st (fun _ kQ => XT.iconstV X597.here hx rfl (1 : Int32) (hb hby own_d_prog_3_method_2_code_92) (by decide) kQ) ?_
  show own_Go p e below s _ _ _ (T597.setTop (mkF m 93 #[.val (.ref a), .val (.int iv), .val (.long x), .second] [(.int (1 : Int32)), (.int (0 : Int32)), (.int iv), (.ref sz)]))
  refine own_st (fun _ kQ => XS.iadd X597.here hx rfl (hb hby own_d_prog_3_method_2_code_93) rfl kQ) ?_
  show own_Go p e below s _ _ _ (T597.setTop (mkF m 94 #[.val (.ref a), .val (.int iv), .val (.long x), .second] [(.int (1 : Int32)), (.int iv), (.ref sz)]))
  have F601 : Arv Z T587.heap sz ks .int (2 : Int32) [(.int (fs 0)), (.int (fs 1))] (.int (0 : Int32)) := q590.vsz
  obtain ⟨cl600, Ar600, kc600, S600, Nn600, H600, G600⟩ := id F601
  have hin600 : ¬ (iv < 0 ∨ cl600.slots.size ≤ (iv : Int32).toNatClampNeg) := inb_of S600 (own_I.inb hi)
  obtain ⟨T600, h600, X600, e600, W600, st600⟩ := stI X597 hx hZ e597 Ar600 (j := iv) hin600 (g := (mkF m 94 #[.val (.ref a), .val (.int iv), .val (.long x), .second] [(.int (1 : Int32)), (.int iv), (.ref sz)])) rfl rfl (hb hby own_d_prog_3_method_2_code_94)
  refine own_st st600 ?_
  have N602 := Fr.snoc X600 N594 q590.gs.2.2.2.2
  have D603 : own_AT Z h600 n0 a span cap sh ow hd sz ko kh ks fw fh (own_up fs i (1 : Int32)) fz x589 := q590.setS hi W600
  have Zs604 : n0 ≤ h600.size := Nat.le_trans Zs595 (Nat.le_of_eq W600.size.symm)
  show own_Go p e below s _ _ _ (T600.setTop (mkF m 95 #[.val (.ref a), .val (.int iv), .val (.long x), .second] []))
  refine own_ret0 X600 hx hlk Bd.returns (hb hby own_d_prog_3_method_2_code_95) (by decide) (by decide) ?_
  rw [e600]
  exact ⟨(own_up fs i (1 : Int32)), x589, N602, rfl, D603, (own_up_same _ _ _), q591, (fun q hq => ⟨own_up_ne hq, q592 q hq⟩)⟩
def own_rm_addO1_Q (Z : State) (iv : Int32) (i : Nat) (a : Addr) (span : Int64) (cap : Int32) (sh : Addr) (ow : Addr) (hd : Addr) (sz : Addr) (ko : ClassId) (kh : ClassId) (ks : ClassId) (fw : Nat → Value) (fh : Nat → Int32) (fs : Nat → Int32) (fz : Nat → Int32) (fF : Nat → Nat → Int64) (x : Int64) (h0 : Heap) (n0 : Nat) (v : Option Value) (h : Heap) (L : List Loc) : Prop := ∃ fs2 : Nat → Int32, ∃ fF2 : Nat → Nat → Int64, Fr n0 L ∧ v = none ∧ own_AT Z h n0 a span cap sh ow hd sz ko kh ks fw fh fs2 fz fF2 ∧ fs2 i = 2 ∧ fF2 i (own_idx (fh i) (1 : Int32) (fz i)).toNatClampNeg = x ∧ fF2 i (own_idx (fh i) (0 : Int32) (fz i)).toNatClampNeg = fF i (own_idx (fh i) (0 : Int32) (fz i)).toNatClampNeg ∧ (∀ q, q ≠ i → fs2 q = fs q ∧ fF2 q = fF q)
theorem own_rm_addO1_ef (m : MethodId) (a : Addr) (iv : Int32) (x : Int64)  : entryFrame m #[(.ref a), (.int iv), (.long x)] 4 = mkF m 0 #[.val (.ref a), .val (.int iv), .val (.long x), .second] [] := by first | (simp [entryFrame, mkF, argsToLocals, Value.category]; done) | rfl
set_option maxRecDepth 65536 in
set_option maxHeartbeats 40000000 in
theorem own_rm_addO1 (l : Launch) (Z : State) (a0 : Array Value) (hw : ∀ d ∈ tables_1, d.before a0 Z = true) (ws : List Jvm.Cond) (iv : Int32) (i : Nat) (a : Addr) (span : Int64) (cap : Int32) (sh : Addr) (ow : Addr) (hd : Addr) (sz : Addr) (ko : ClassId) (kh : ClassId) (ks : ClassId) (fw : Nat → Value) (fh : Nat → Int32) (fs : Nat → Int32) (fz : Nat → Int32) (fF : Nat → Nat → Int64) (x : Int64) (h0 : Heap) (n0 : Nat) (Z0 : n0 ≤ h0.size) (D : own_AT Z h0 n0 a span cap sh ow hd sz ko kh ks fw fh fs fz fF) (hi : own_I iv i) (wf : own_WF cap (fh i) (fs i) (fz i)) (hs1 : (fs i) = 1) (hh0 : (fh i) = 0) (hz2 : (fz i) = 2) (hg : (x - span) < (fF i (own_idx (fh i) (0 : Int32) (fz i)).toNatClampNeg)) :
    MetFree l (⟨"com/example/wache/wache/AttemptTimes", "add", "(IJ)V"⟩ : MethodName) (head1 (Jvm.Cond.code (⟨"com/example/wache/wache/AttemptTimes", "add", "(IJ)V"⟩ : MethodName) prog_3_method_2_code 4 none :: ws) ({ frames := 3, cells := 0, slots := 0, locals := 49 } : Room)) (fun aQ UQ => aQ = #[(.ref a), (.int iv), (.long x)] ∧ Z.Warmed39 UQ.vm ∧ UQ.heap = h0) (fun _ _ _ _ _ => True) (fun _ UQ oQ U2 => ∃ vQ LQ, oQ = .returned vQ ∧ own_rm_addO1_Q Z iv i a span cap sh ow hd sz ko kh ks fw fh fs fz fF x h0 n0 vQ U2.heap LQ ∧ FrameEnd UQ oQ U2 LQ ({ frames := 3, cells := 0, slots := 0, locals := 49 } : Room).cells ({ frames := 3, cells := 0, slots := 0, locals := 49 } : Room).slots) := by
  refine MetFree.of_bodySF own_pn8 hisR ?_
  intro p e s m args below meth c s₁ Bd hml0 hP hK
  obtain ⟨rfl, hZ, hh⟩ := hP
  have hx := Bd.exec
  have hby := Bd.bytes
  have hml : c.maxLocals = 4 := hml0
  have hlk := BodyLoose.notSynchronized Bd
  have hown : s.vm.findClass "com/example/wache/wache/AttemptTimes" = some m.cls := findClass_of_methodNamed Bd.named
  have hnm := (name_of_methodNamed Bd.named Bd.method).1
  have X0 : Stand p l e ({ frames := 3, cells := 0, slots := 0, locals := 49 } : Room) s m #[(.ref a), (.int iv), (.long x)] below meth c s₁ [] 0 0 := Stand.of_body Bd
  have e0 : s₁.heap = h0 := by rw [← hh, Bd.state]; rfl
  have N0 := Fr.nil n0
  show own_Go p e below s (own_rm_addO1_Q Z iv i a span cap sh ow hd sz ko kh ks fw fh fs fz fF x h0 n0) ({ frames := 3, cells := 0, slots := 0, locals := 49 } : Room).cells ({ frames := 3, cells := 0, slots := 0, locals := 49 } : Room).slots (s₁.setTop (entryFrame m #[(.ref a), (.int iv), (.long x)] 4))
  rw [own_rm_addO1_ef]
  show own_Go p e below s _ _ _ (s₁.setTop (mkF m 0 #[.val (.ref a), .val (.int iv), .val (.long x), .second] []))
  have one1 : 1 ≤ (fs i).toInt := by rw [hs1]; decide
  refine own_st (fun _ kQ => XS.aloadN X0.here hx rfl (hb hby own_d_prog_3_method_2_code_0) rfl rfl kQ) ?_
  show own_Go p e below s _ _ _ (s₁.setTop (mkF m 1 #[.val (.ref a), .val (.int iv), .val (.long x), .second] [(.ref a)]))
  have F605 : Fld Z h0 a "com/example/wache/wache/AttemptTimes" "sizes" "[I" (.ref sz) := D.fsz
  obtain ⟨T606, X606, e606, st606⟩ := getF X0 hx hZ hown (host := "") (Or.inl (hw _ (List.mem_of_getElem? (i := 24) rfl))) Via.refl e0 F605 (g := (mkF m 1 #[.val (.ref a), .val (.int iv), .val (.long x), .second] [(.ref a)])) rfl rfl (hb hby own_d_prog_3_method_2_code_1)
  refine own_st st606 ?_
  show own_Go p e below s _ _ _ (T606.setTop (mkF m 4 #[.val (.ref a), .val (.int iv), .val (.long x), .second] [(.ref sz)]))
  refine own_st (fun _ kQ => XS.iloadN X606.here hx rfl (hb hby own_d_prog_3_method_2_code_4) rfl kQ) ?_
  show own_Go p e below s _ _ _ (T606.setTop (mkF m 5 #[.val (.ref a), .val (.int iv), .val (.long x), .second] [(.int iv), (.ref sz)]))
  have F607 : Arv Z h0 sz ks .int (2 : Int32) [(.int (fs 0)), (.int (fs 1))] (.int (0 : Int32)) := D.vsz
  obtain ⟨cl608, Ar608, kc608, S608, Nn608, H608, G608⟩ := id F607
  have hin608 : ¬ (iv < 0 ∨ cl608.slots.size ≤ (iv : Int32).toNatClampNeg) := inb_of S608 (own_I.inb hi)
  have hat608 : cl608.slots[(iv : Int32).toNatClampNeg]? = some (.int (1 : Int32)) := H608.at hin608 ((own_I.getI hi fs _).trans (congrArg Value.int hs1))
  refine own_st (fun _ kQ => X606.iaload hx (j := iv) (v := (.int (1 : Int32))) (own_hp e606 Ar608.1) (State.isArrayOf_alike hZ.alike Ar608.2.1) Ar608.2.2 hin608 hat608 (g := (mkF m 5 #[.val (.ref a), .val (.int iv), .val (.long x), .second] [(.int iv), (.ref sz)])) rfl rfl (hb hby own_d_prog_3_method_2_code_5) _ kQ) ?_
  show own_Go p e below s _ _ _ (T606.setTop (mkF m 6 #[.val (.ref a), .val (.int iv), .val (.long x), .second] [(.int (1 : Int32))]))
  refine own_st (fun _ kQ => XS.ifNo X606.here hx rfl (hb hby own_d_prog_3_method_2_code_6) rfl (XT.i0_le_f (by decide)) kQ) ?_
  show own_Go p e below s _ _ _ (T606.setTop (mkF m 9 #[.val (.ref a), .val (.int iv), .val (.long x), .second] []))
  refine own_st (fun _ kQ => XS.aloadN X606.here hx rfl (hb hby own_d_prog_3_method_2_code_9) rfl rfl kQ) ?_
  show own_Go p e below s _ _ _ (T606.setTop (mkF m 10 #[.val (.ref a), .val (.int iv), .val (.long x), .second] [(.ref a)]))
  refine own_st (fun _ kQ => XS.iloadN X606.here hx rfl (hb hby own_d_prog_3_method_2_code_10) rfl kQ) ?_
  show own_Go p e below s _ _ _ (T606.setTop (mkF m 11 #[.val (.ref a), .val (.int iv), .val (.long x), .second] [(.int iv), (.ref a)]))
  refine own_st (fun _ kQ => XT.iconstV X606.here hx rfl (0 : Int32) (hb hby own_d_prog_3_method_2_code_11) (by decide) kQ) ?_
  show own_Go p e below s _ _ _ (T606.setTop (mkF m 12 #[.val (.ref a), .val (.int iv), .val (.long x), .second] [(.int (0 : Int32)), (.int iv), (.ref a)]))
  have F610 : Exa Z h0 a "com/example/wache/wache/AttemptTimes" := D.exa
  obtain ⟨cq609, q609, q609'⟩ := F610.cell
  obtain ⟨_, _, ⟨T609, L609, k609, n609⟩, -, X609, ⟨Lc609, hQ609, l609, y609, z609⟩, st609⟩ := X606.privateBack hx (y := (⟨"com/example/wache/wache/AttemptTimes", "get", "(II)J"⟩ : MethodName)) hown (mvT hZ (hw _ (List.mem_of_getElem? (i := 48) rfl))) (mvT hZ (hw _ (List.mem_of_getElem? (i := 49) rfl))) (mvT hZ (own_selP (hw _ (List.mem_of_getElem? (i := 49) rfl)) (hw _ (List.mem_of_getElem? (i := 50) rfl)) (hw _ (List.mem_of_getElem? (i := 2) rfl)) (by decide))) (Cond.privateMethod_at (mvP hZ (hw _ (List.mem_of_getElem? (i := 50) rfl)) (args := #[]))) (mvT hZ (hw _ (List.mem_of_getElem? (i := 51) rfl))) (by decide) (backOf (W := 0) (own_rm_get l Z a0 hw [] iv i a span cap sh ow hd sz ko kh ks fw fh fs fz fF (0 : Int32) h0 n0 Z0 D hi (own_WF.idx wf (k := (0 : Int32)) (by decide) (by have e1 : ((0 : Int32) : Int32).toInt = 0 := (by decide); have q1 := wf.2.2.1; omega))) hZ (hw _ (List.mem_of_getElem? (i := 51) rfl)) (hw _ (List.mem_of_getElem? (i := 3) rfl)) (by decide) (by decide)) (g := (mkF m 12 #[.val (.ref a), .val (.int iv), .val (.long x), .second] [(.int (0 : Int32)), (.int iv), (.ref a)])) rfl (by rw [hml]; rfl) (Steps.refl _) (a := a) (own_hp e606 q609) q609' (argsL := [(.int iv), (.int (0 : Int32))]) (rest := []) (lenOf own_pd2 rfl) rfl (by show 2 * 0 + _ ≤ _; exact Nat.le_of_eq rfl) (hb hby own_d_prog_3_method_2_code_12) (fun _ _ => ⟨rfl, e606, (by decide : 0 + 0 ≤ _), (by decide : 0 + 0 ≤ _)⟩)
  dsimp only [Pt.U, Pt.locs, Pt.cells, Pt.slots] at X609 l609 y609 z609 st609 hQ609
  subst l609 y609 z609
  obtain ⟨N609q, rfl, eh609⟩ := hQ609
  have N611 := Fr.app N0 N609q
  refine own_tr st609 ?_
  show own_Go p e below s _ _ _ (T609.setTop (mkF m 15 #[.val (.ref a), .val (.int iv), .val (.long x), .second] [(.long (fF i (own_idx (fh i) (0 : Int32) (fz i)).toNatClampNeg))]))
  refine own_st (fun _ kQ => XT.lloadN X609.here hx rfl (hb hby own_d_prog_3_method_2_code_15) rfl kQ) ?_
  show own_Go p e below s _ _ _ (T609.setTop (mkF m 16 #[.val (.ref a), .val (.int iv), .val (.long x), .second] [(.long x), (.long (fF i (own_idx (fh i) (0 : Int32) (fz i)).toNatClampNeg))]))
  refine own_st (fun _ kQ => XS.aloadN X609.here hx rfl (hb hby own_d_prog_3_method_2_code_16) rfl rfl kQ) ?_
  show own_Go p e below s _ _ _ (T609.setTop (mkF m 17 #[.val (.ref a), .val (.int iv), .val (.long x), .second] [(.ref a), (.long x), (.long (fF i (own_idx (fh i) (0 : Int32) (fz i)).toNatClampNeg))]))
  have F612 : Fld Z h0 a "com/example/wache/wache/AttemptTimes" "spanMillis" "J" (.long span) := D.fspan
  obtain ⟨T613, X613, e613, st613⟩ := getF X609 hx hZ hown (host := "") (Or.inl (hw _ (List.mem_of_getElem? (i := 10) rfl))) Via.refl eh609 F612 (g := (mkF m 17 #[.val (.ref a), .val (.int iv), .val (.long x), .second] [(.ref a), (.long x), (.long (fF i (own_idx (fh i) (0 : Int32) (fz i)).toNatClampNeg))])) rfl rfl (hb hby own_d_prog_3_method_2_code_17)
  refine own_st st613 ?_
  show own_Go p e below s _ _ _ (T613.setTop (mkF m 20 #[.val (.ref a), .val (.int iv), .val (.long x), .second] [(.long span), (.long x), (.long (fF i (own_idx (fh i) (0 : Int32) (fz i)).toNatClampNeg))]))
  refine own_st (fun _ kQ => XT.lsub X613.here hx rfl (hb hby own_d_prog_3_method_2_code_20) rfl kQ) ?_
  show own_Go p e below s _ _ _ (T613.setTop (mkF m 21 #[.val (.ref a), .val (.int iv), .val (.long x), .second] [(.long (x - span)), (.long (fF i (own_idx (fh i) (0 : Int32) (fz i)).toNatClampNeg))]))
  refine own_st (fun _ kQ => XT.lcmp X613.here hx rfl (hb hby own_d_prog_3_method_2_code_21) rfl kQ) ?_
  show own_Go p e below s _ _ _ (T613.setTop (mkF m 22 #[.val (.ref a), .val (.int iv), .val (.long x), .second] [(.int (XT.cmpL (fF i (own_idx (fh i) (0 : Int32) (fz i)).toNatClampNeg) (x - span)))]))
  refine own_st (fun _ kQ => XS.ifYes X613.here hx rfl (pc0 := 22) (pc' := 33) rfl (hb hby own_d_prog_3_method_2_code_22) rfl (XT.ll_gt_t hg) (by decide) (by decide) kQ) ?_
  show own_Go p e below s _ _ _ (T613.setTop (mkF m 33 #[.val (.ref a), .val (.int iv), .val (.long x), .second] []))
  refine own_st (fun _ kQ => XS.aloadN X613.here hx rfl (hb hby own_d_prog_3_method_2_code_33) rfl rfl kQ) ?_
  show own_Go p e below s _ _ _ (T613.setTop (mkF m 34 #[.val (.ref a), .val (.int iv), .val (.long x), .second] [(.ref a)]))
  have F614 : Fld Z h0 a "com/example/wache/wache/AttemptTimes" "sizes" "[I" (.ref sz) := D.fsz
  obtain ⟨T615, X615, e615, st615⟩ := getF X613 hx hZ hown (host := "") (Or.inl (hw _ (List.mem_of_getElem? (i := 24) rfl))) Via.refl e613 F614 (g := (mkF m 34 #[.val (.ref a), .val (.int iv), .val (.long x), .second] [(.ref a)])) rfl rfl (hb hby own_d_prog_3_method_2_code_34)
  refine own_st st615 ?_
  show own_Go p e below s _ _ _ (T615.setTop (mkF m 37 #[.val (.ref a), .val (.int iv), .val (.long x), .second] [(.ref sz)]))
  refine own_st (fun _ kQ => XS.iloadN X615.here hx rfl (hb hby own_d_prog_3_method_2_code_37) rfl kQ) ?_
  show own_Go p e below s _ _ _ (T615.setTop (mkF m 38 #[.val (.ref a), .val (.int iv), .val (.long x), .second] [(.int iv), (.ref sz)]))
  have F616 : Arv Z h0 sz ks .int (2 : Int32) [(.int (fs 0)), (.int (fs 1))] (.int (0 : Int32)) := D.vsz
  obtain ⟨cl617, Ar617, kc617, S617, Nn617, H617, G617⟩ := id F616
  have hin617 : ¬ (iv < 0 ∨ cl617.slots.size ≤ (iv : Int32).toNatClampNeg) := inb_of S617 (own_I.inb hi)
  have hat617 : cl617.slots[(iv : Int32).toNatClampNeg]? = some (.int (1 : Int32)) := H617.at hin617 ((own_I.getI hi fs _).trans (congrArg Value.int hs1))
  refine own_st (fun _ kQ => X615.iaload hx (j := iv) (v := (.int (1 : Int32))) (own_hp e615 Ar617.1) (State.isArrayOf_alike hZ.alike Ar617.2.1) Ar617.2.2 hin617 hat617 (g := (mkF m 38 #[.val (.ref a), .val (.int iv), .val (.long x), .second] [(.int iv), (.ref sz)])) rfl rfl (hb hby own_d_prog_3_method_2_code_38) _ kQ) ?_
  show own_Go p e below s _ _ _ (T615.setTop (mkF m 39 #[.val (.ref a), .val (.int iv), .val (.long x), .second] [(.int (1 : Int32))]))
  refine own_st (fun _ kQ => XS.aloadN X615.here hx rfl (hb hby own_d_prog_3_method_2_code_39) rfl rfl kQ) ?_
  show own_Go p e below s _ _ _ (T615.setTop (mkF m 40 #[.val (.ref a), .val (.int iv), .val (.long x), .second] [(.ref a), (.int (1 : Int32))]))
  have F618 : Fld Z h0 a "com/example/wache/wache/AttemptTimes" "capacity" "I" (.int cap) := D.fcap
  obtain ⟨T619, X619, e619, st619⟩ := getF X615 hx hZ hown (host := "") (Or.inl (hw _ (List.mem_of_getElem? (i := 12) rfl))) Via.refl e615 F618 (g := (mkF m 40 #[.val (.ref a), .val (.int iv), .val (.long x), .second] [(.ref a), (.int (1 : Int32))])) rfl rfl (hb hby own_d_prog_3_method_2_code_40)
  refine own_st st619 ?_
  show own_Go p e below s _ _ _ (T619.setTop (mkF m 43 #[.val (.ref a), .val (.int iv), .val (.long x), .second] [(.int cap), (.int (1 : Int32))]))
  refine own_st (fun _ kQ => XS.icmpYes X619.here hx rfl (pc0 := 43) (pc' := 54) rfl (hb hby own_d_prog_3_method_2_code_43) rfl (XT.ii_ne_t (own_WF.ncap wf (k := (1 : Int32)) (by decide)).1) (by decide) (by decide) kQ) ?_
  show own_Go p e below s _ _ _ (T619.setTop (mkF m 54 #[.val (.ref a), .val (.int iv), .val (.long x), .second] []))
  refine own_st (fun _ kQ => XS.aloadN X619.here hx rfl (hb hby own_d_prog_3_method_2_code_54) rfl rfl kQ) ?_
  show own_Go p e below s _ _ _ (T619.setTop (mkF m 55 #[.val (.ref a), .val (.int iv), .val (.long x), .second] [(.ref a)]))
  have F620 : Fld Z h0 a "com/example/wache/wache/AttemptTimes" "sizes" "[I" (.ref sz) := D.fsz
  obtain ⟨T621, X621, e621, st621⟩ := getF X619 hx hZ hown (host := "") (Or.inl (hw _ (List.mem_of_getElem? (i := 24) rfl))) Via.refl e619 F620 (g := (mkF m 55 #[.val (.ref a), .val (.int iv), .val (.long x), .second] [(.ref a)])) rfl rfl (hb hby own_d_prog_3_method_2_code_55)
  refine own_st st621 ?_
  show own_Go p e below s _ _ _ (T621.setTop (mkF m 58 #[.val (.ref a), .val (.int iv), .val (.long x), .second] [(.ref sz)]))
  refine own_st (fun _ kQ => XS.iloadN X621.here hx rfl (hb hby own_d_prog_3_method_2_code_58) rfl kQ) ?_
  show own_Go p e below s _ _ _ (T621.setTop (mkF m 59 #[.val (.ref a), .val (.int iv), .val (.long x), .second] [(.int iv), (.ref sz)]))
  have F622 : Arv Z h0 sz ks .int (2 : Int32) [(.int (fs 0)), (.int (fs 1))] (.int (0 : Int32)) := D.vsz
  obtain ⟨cl623, Ar623, kc623, S623, Nn623, H623, G623⟩ := id F622
  have hin623 : ¬ (iv < 0 ∨ cl623.slots.size ≤ (iv : Int32).toNatClampNeg) := inb_of S623 (own_I.inb hi)
  have hat623 : cl623.slots[(iv : Int32).toNatClampNeg]? = some (.int (1 : Int32)) := H623.at hin623 ((own_I.getI hi fs _).trans (congrArg Value.int hs1))
  refine own_st (fun _ kQ => X621.iaload hx (j := iv) (v := (.int (1 : Int32))) (own_hp e621 Ar623.1) (State.isArrayOf_alike hZ.alike Ar623.2.1) Ar623.2.2 hin623 hat623 (g := (mkF m 59 #[.val (.ref a), .val (.int iv), .val (.long x), .second] [(.int iv), (.ref sz)])) rfl rfl (hb hby own_d_prog_3_method_2_code_59) _ kQ) ?_
  show own_Go p e below s _ _ _ (T621.setTop (mkF m 60 #[.val (.ref a), .val (.int iv), .val (.long x), .second] [(.int (1 : Int32))]))
  refine own_st (fun _ kQ => XS.aloadN X621.here hx rfl (hb hby own_d_prog_3_method_2_code_60) rfl rfl kQ) ?_
  show own_Go p e below s _ _ _ (T621.setTop (mkF m 61 #[.val (.ref a), .val (.int iv), .val (.long x), .second] [(.ref a), (.int (1 : Int32))]))
  refine own_st (fun _ kQ => XS.iloadN X621.here hx rfl (hb hby own_d_prog_3_method_2_code_61) rfl kQ) ?_
  show own_Go p e below s _ _ _ (T621.setTop (mkF m 62 #[.val (.ref a), .val (.int iv), .val (.long x), .second] [(.int iv), (.ref a), (.int (1 : Int32))]))
  have F625 : Exa Z h0 a "com/example/wache/wache/AttemptTimes" := D.exa
  obtain ⟨cq624, q624, q624'⟩ := F625.cell
  obtain ⟨_, _, ⟨T624, L624, k624, n624⟩, -, X624, ⟨Lc624, hQ624, l624, y624, z624⟩, st624⟩ := X621.privateBack hx (y := (⟨"com/example/wache/wache/AttemptTimes", "length", "(I)I"⟩ : MethodName)) hown (mvT hZ (hw _ (List.mem_of_getElem? (i := 31) rfl))) (mvT hZ (hw _ (List.mem_of_getElem? (i := 32) rfl))) (mvT hZ (own_selP (hw _ (List.mem_of_getElem? (i := 32) rfl)) (hw _ (List.mem_of_getElem? (i := 33) rfl)) (hw _ (List.mem_of_getElem? (i := 2) rfl)) (by decide))) (Cond.privateMethod_at (mvP hZ (hw _ (List.mem_of_getElem? (i := 33) rfl)) (args := #[]))) (mvT hZ (hw _ (List.mem_of_getElem? (i := 34) rfl))) (by decide) (backOf (W := 1) (own_rm_length l Z a0 hw [] iv i a span cap sh ow hd sz ko kh ks fw fh fs fz fF h0 n0 Z0 D hi) hZ (hw _ (List.mem_of_getElem? (i := 34) rfl)) (hw _ (List.mem_of_getElem? (i := 3) rfl)) (by decide) (by decide)) (g := (mkF m 62 #[.val (.ref a), .val (.int iv), .val (.long x), .second] [(.int iv), (.ref a), (.int (1 : Int32))])) rfl (by rw [hml]; rfl) (Steps.refl _) (a := a) (own_hp e621 q624) q624' (argsL := [(.int iv)]) (rest := [(.int (1 : Int32))]) (lenOf own_pd0 rfl) rfl (by show 2 * 0 + _ ≤ _; exact Nat.le_of_eq rfl) (hb hby own_d_prog_3_method_2_code_62) (fun _ _ => ⟨rfl, e621, (by decide : 0 + 0 ≤ _), (by decide : 0 + 0 ≤ _)⟩)
  dsimp only [Pt.U, Pt.locs, Pt.cells, Pt.slots] at X624 l624 y624 z624 st624 hQ624
  subst l624 y624 z624
  obtain ⟨N624q, rfl, eh624⟩ := hQ624
  have N626 := Fr.app N611 N624q
  refine own_tr st624 ?_
  show own_Go p e below s _ _ _ (T624.setTop (mkF m 65 #[.val (.ref a), .val (.int iv), .val (.long x), .second] [(.int (fz i)), (.int (1 : Int32))]))
  refine own_st (fun _ kQ => XS.icmpYes X624.here hx rfl (pc0 := 65) (pc' := 73) rfl (hb hby own_d_prog_3_method_2_code_65) rfl (XT.ii_ne_t (own_WF.ncap wf (k := (1 : Int32)) (by decide)).2) (by decide) (by decide) kQ) ?_
  show own_Go p e below s _ _ _ (T624.setTop (mkF m 73 #[.val (.ref a), .val (.int iv), .val (.long x), .second] []))
  refine own_st (fun _ kQ => XS.aloadN X624.here hx rfl (hb hby own_d_prog_3_method_2_code_73) rfl rfl kQ) ?_
  show own_Go p e below s _ _ _ (T624.setTop (mkF m 74 #[.val (.ref a), .val (.int iv), .val (.long x), .second] [(.ref a)]))
  refine own_st (fun _ kQ => XS.iloadN X624.here hx rfl (hb hby own_d_prog_3_method_2_code_74) rfl kQ) ?_
  show own_Go p e below s _ _ _ (T624.setTop (mkF m 75 #[.val (.ref a), .val (.int iv), .val (.long x), .second] [(.int iv), (.ref a)]))
  refine own_st (fun _ kQ => XS.aloadN X624.here hx rfl (hb hby own_d_prog_3_method_2_code_75) rfl rfl kQ) ?_
  show own_Go p e below s _ _ _ (T624.setTop (mkF m 76 #[.val (.ref a), .val (.int iv), .val (.long x), .second] [(.ref a), (.int iv), (.ref a)]))
  have F627 : Fld Z h0 a "com/example/wache/wache/AttemptTimes" "sizes" "[I" (.ref sz) := D.fsz
  obtain ⟨T628, X628, e628, st628⟩ := getF X624 hx hZ hown (host := "") (Or.inl (hw _ (List.mem_of_getElem? (i := 24) rfl))) Via.refl eh624 F627 (g := (mkF m 76 #[.val (.ref a), .val (.int iv), .val (.long x), .second] [(.ref a), (.int iv), (.ref a)])) rfl rfl (hb hby own_d_prog_3_method_2_code_76)
  refine own_st st628 ?_
  show own_Go p e below s _ _ _ (T628.setTop (mkF m 79 #[.val (.ref a), .val (.int iv), .val (.long x), .second] [(.ref sz), (.int iv), (.ref a)]))
  refine own_st (fun _ kQ => XS.iloadN X628.here hx rfl (hb hby own_d_prog_3_method_2_code_79) rfl kQ) ?_
  show own_Go p e below s _ _ _ (T628.setTop (mkF m 80 #[.val (.ref a), .val (.int iv), .val (.long x), .second] [(.int iv), (.ref sz), (.int iv), (.ref a)]))
  have F629 : Arv Z h0 sz ks .int (2 : Int32) [(.int (fs 0)), (.int (fs 1))] (.int (0 : Int32)) := D.vsz
  obtain ⟨cl630, Ar630, kc630, S630, Nn630, H630, G630⟩ := id F629
  have hin630 : ¬ (iv < 0 ∨ cl630.slots.size ≤ (iv : Int32).toNatClampNeg) := inb_of S630 (own_I.inb hi)
  have hat630 : cl630.slots[(iv : Int32).toNatClampNeg]? = some (.int (1 : Int32)) := H630.at hin630 ((own_I.getI hi fs _).trans (congrArg Value.int hs1))
  refine own_st (fun _ kQ => X628.iaload hx (j := iv) (v := (.int (1 : Int32))) (own_hp e628 Ar630.1) (State.isArrayOf_alike hZ.alike Ar630.2.1) Ar630.2.2 hin630 hat630 (g := (mkF m 80 #[.val (.ref a), .val (.int iv), .val (.long x), .second] [(.int iv), (.ref sz), (.int iv), (.ref a)])) rfl rfl (hb hby own_d_prog_3_method_2_code_80) _ kQ) ?_
  show own_Go p e below s _ _ _ (T628.setTop (mkF m 81 #[.val (.ref a), .val (.int iv), .val (.long x), .second] [(.int (1 : Int32)), (.int iv), (.ref a)]))
  refine own_st (fun _ kQ => XT.lloadN X628.here hx rfl (hb hby own_d_prog_3_method_2_code_81) rfl kQ) ?_
  show own_Go p e below s _ _ _ (T628.setTop (mkF m 82 #[.val (.ref a), .val (.int iv), .val (.long x), .second] [(.long x), (.int (1 : Int32)), (.int iv), (.ref a)]))
  have F632 : Exa Z h0 a "com/example/wache/wache/AttemptTimes" := D.exa
  obtain ⟨cq631, q631, q631'⟩ := F632.cell
  obtain ⟨_, _, ⟨T631, L631, k631, n631⟩, -, X631, ⟨Lc631, hQ631, l631, y631, z631⟩, st631⟩ := X628.privateBack hx (y := (⟨"com/example/wache/wache/AttemptTimes", "put", "(IIJ)V"⟩ : MethodName)) hown (mvT hZ (hw _ (List.mem_of_getElem? (i := 35) rfl))) (mvT hZ (hw _ (List.mem_of_getElem? (i := 36) rfl))) (mvT hZ (own_selP (hw _ (List.mem_of_getElem? (i := 36) rfl)) (hw _ (List.mem_of_getElem? (i := 37) rfl)) (hw _ (List.mem_of_getElem? (i := 2) rfl)) (by decide))) (Cond.privateMethod_at (mvP hZ (hw _ (List.mem_of_getElem? (i := 37) rfl)) (args := #[]))) (mvT hZ (hw _ (List.mem_of_getElem? (i := 38) rfl))) (by decide) (backOf (W := 0) (own_rm_put l Z a0 hw [] iv i a span cap sh ow hd sz ko kh ks fw fh fs fz fF (1 : Int32) x h0 n0 Z0 D hi (own_WF.idx wf (k := (1 : Int32)) (by decide) (by have e1 : ((1 : Int32) : Int32).toInt = 1 := (by decide); have q1 := wf.2.2.1; omega))) hZ (hw _ (List.mem_of_getElem? (i := 38) rfl)) (hw _ (List.mem_of_getElem? (i := 3) rfl)) (by decide) (by decide)) (g := (mkF m 82 #[.val (.ref a), .val (.int iv), .val (.long x), .second] [(.long x), (.int (1 : Int32)), (.int iv), (.ref a)])) rfl (by rw [hml]; rfl) (Steps.refl _) (a := a) (own_hp e628 q631) q631' (argsL := [(.int iv), (.int (1 : Int32)), (.long x)]) (rest := []) (lenOf own_pd4 rfl) rfl (by show 2 * 0 + _ ≤ _; exact Nat.le_of_eq rfl) (hb hby own_d_prog_3_method_2_code_82) (fun _ _ => ⟨rfl, e628, (by decide : 0 + 0 ≤ _), (by decide : 0 + 0 ≤ _)⟩)
  dsimp only [Pt.U, Pt.locs, Pt.cells, Pt.slots] at X631 l631 y631 z631 st631 hQ631
  subst l631 y631 z631
  obtain ⟨x633, N631q, rfl, q634, q635, q636, q637⟩ := hQ631
  have N638 := Fr.app N626 N631q
  refine own_tr st631 ?_
  have Zs639 : n0 ≤ T631.heap.size := q634.szle
  show own_Go p e below s _ _ _ (T631.setTop (mkF m 85 #[.val (.ref a), .val (.int iv), .val (.long x), .second] []))
  refine own_st (fun _ kQ => XS.aloadN X631.here hx rfl (hb hby own_d_prog_3_method_2_code_85) rfl rfl kQ) ?_
  show own_Go p e below s _ _ _ (T631.setTop (mkF m 86 #[.val (.ref a), .val (.int iv), .val (.long x), .second] [(.ref a)]))
  have F640 : Fld Z T631.heap a "com/example/wache/wache/AttemptTimes" "sizes" "[I" (.ref sz) := q634.fsz
  obtain ⟨T641, X641, e641, st641⟩ := getF X631 hx hZ hown (host := "") (Or.inl (hw _ (List.mem_of_getElem? (i := 24) rfl))) Via.refl rfl F640 (g := (mkF m 86 #[.val (.ref a), .val (.int iv), .val (.long x), .second] [(.ref a)])) rfl rfl (hb hby own_d_prog_3_method_2_code_86)
  refine own_st st641 ?_
  show own_Go p e below s _ _ _ (T641.setTop (mkF m 89 #[.val (.ref a), .val (.int iv), .val (.long x), .second] [(.ref sz)]))
  refine own_st (fun _ kQ => XS.iloadN X641.here hx rfl (hb hby own_d_prog_3_method_2_code_89) rfl kQ) ?_
  show own_Go p e below s _ _ _ (T641.setTop (mkF m 90 #[.val (.ref a), .val (.int iv), .val (.long x), .second] [(.int iv), (.ref sz)]))
  refine own_st (fun _ kQ => XT.dup2 X641.here hx rfl (hb hby own_d_prog_3_method_2_code_90) rfl rfl rfl kQ) ?_
  show own_Go p e below s _ _ _ (T641.setTop (mkF m 91 #[.val (.ref a), .val (.int iv), .val (.long x), .second] [(.int iv), (.ref sz), (.int iv), (.ref sz)]))
  have F642 : Arv Z T631.heap sz ks .int (2 : Int32) [(.int (fs 0)), (.int (fs 1))] (.int (0 : Int32)) := q634.vsz
  obtain ⟨cl643, Ar643, kc643, S643, Nn643, H643, G643⟩ := id F642
  have hin643 : ¬ (iv < 0 ∨ cl643.slots.size ≤ (iv : Int32).toNatClampNeg) := inb_of S643 (own_I.inb hi)
  have hat643 : cl643.slots[(iv : Int32).toNatClampNeg]? = some (.int (1 : Int32)) := H643.at hin643 ((own_I.getI hi fs _).trans (congrArg Value.int hs1))
  refine own_st (fun _ kQ => X641.iaload hx (j := iv) (v := (.int (1 : Int32))) (own_hp e641 Ar643.1) (State.isArrayOf_alike hZ.alike Ar643.2.1) Ar643.2.2 hin643 hat643 (g := (mkF m 91 #[.val (.ref a), .val (.int iv), .val (.long x), .second] [(.int iv), (.ref sz), (.int iv), (.ref sz)])) rfl rfl (hb hby own_d_prog_3_method_2_code_91) _ kQ) ?_
  show own_Go p e below s _ _ _ (T641.setTop (mkF m 92 #[.val (.ref a), .val (.int iv), .val (.long x), .second] [(.int (1 : Int32)), (.int iv), (.ref sz)]))
  refine own_st (fun _ kQ => XT.iconstV X641.here hx rfl (1 : Int32) (hb hby own_d_prog_3_method_2_code_92) (by decide) kQ) ?_
  show own_Go p e below s _ _ _ (T641.setTop (mkF m 93 #[.val (.ref a), .val (.int iv), .val (.long x), .second] [(.int (1 : Int32)), (.int (1 : Int32)), (.int iv), (.ref sz)]))
  refine own_st (fun _ kQ => XS.iadd X641.here hx rfl (hb hby own_d_prog_3_method_2_code_93) rfl kQ) ?_
  show own_Go p e below s _ _ _ (T641.setTop (mkF m 94 #[.val (.ref a), .val (.int iv), .val (.long x), .second] [(.int (2 : Int32)), (.int iv), (.ref sz)]))
  have F645 : Arv Z T631.heap sz ks .int (2 : Int32) [(.int (fs 0)), (.int (fs 1))] (.int (0 : Int32)) := q634.vsz
  obtain ⟨cl644, Ar644, kc644, S644, Nn644, H644, G644⟩ := id F645
  have hin644 : ¬ (iv < 0 ∨ cl644.slots.size ≤ (iv : Int32).toNatClampNeg) := inb_of S644 (own_I.inb hi)
  obtain ⟨T644, h644, X644, e644, W644, st644⟩ := stI X641 hx hZ e641 Ar644 (j := iv) hin644 (g := (mkF m 94 #[.val (.ref a), .val (.int iv), .val (.long x), .second] [(.int (2 : Int32)), (.int iv), (.ref sz)])) rfl rfl (hb hby own_d_prog_3_method_2_code_94)
  refine own_st st644 ?_
  have N646 := Fr.snoc X644 N638 q634.gs.2.2.2.2
  have D647 : own_AT Z h644 n0 a span cap sh ow hd sz ko kh ks fw fh (own_up fs i (2 : Int32)) fz x633 := q634.setS hi W644
  have Zs648 : n0 ≤ h644.size := Nat.le_trans Zs639 (Nat.le_of_eq W644.size.symm)
  show own_Go p e below s _ _ _ (T644.setTop (mkF m 95 #[.val (.ref a), .val (.int iv), .val (.long x), .second] []))
  refine own_ret0 X644 hx hlk Bd.returns (hb hby own_d_prog_3_method_2_code_95) (by decide) (by decide) ?_
  rw [e644]
  exact ⟨(own_up fs i (2 : Int32)), x633, N646, rfl, D647, (own_up_same _ _ _), q635, (q637 _ (by rw [hh0, hz2]; decide)), (fun q hq => ⟨own_up_ne hq, q636 q hq⟩)⟩
def own_rm_addO2_Q (Z : State) (iv : Int32) (i : Nat) (a : Addr) (span : Int64) (cap : Int32) (sh : Addr) (ow : Addr) (hd : Addr) (sz : Addr) (ko : ClassId) (kh : ClassId) (ks : ClassId) (fw : Nat → Value) (fh : Nat → Int32) (fs : Nat → Int32) (fz : Nat → Int32) (fF : Nat → Nat → Int64) (x : Int64) (h0 : Heap) (n0 : Nat) (v : Option Value) (h : Heap) (L : List Loc) : Prop := ∃ fh2 : Nat → Int32, ∃ fs2 : Nat → Int32, ∃ fF2 : Nat → Nat → Int64, Fr n0 L ∧ v = none ∧ own_AT Z h n0 a span cap sh ow hd sz ko kh ks fw fh2 fs2 fz fF2 ∧ fh2 i = 1 ∧ fs2 i = 1 ∧ fF2 i (own_idx (fh2 i) (0 : Int32) (fz i)).toNatClampNeg = x ∧ (∀ q, q ≠ i → fh2 q = fh q ∧ fs2 q = fs q ∧ fF2 q = fF q)
theorem own_rm_addO2_ef (m : MethodId) (a : Addr) (iv : Int32) (x : Int64)  : entryFrame m #[(.ref a), (.int iv), (.long x)] 4 = mkF m 0 #[.val (.ref a), .val (.int iv), .val (.long x), .second] [] := by first | (simp [entryFrame, mkF, argsToLocals, Value.category]; done) | rfl
set_option maxRecDepth 65536 in
set_option maxHeartbeats 40000000 in
theorem own_rm_addO2 (l : Launch) (Z : State) (a0 : Array Value) (hw : ∀ d ∈ tables_1, d.before a0 Z = true) (ws : List Jvm.Cond) (iv : Int32) (i : Nat) (a : Addr) (span : Int64) (cap : Int32) (sh : Addr) (ow : Addr) (hd : Addr) (sz : Addr) (ko : ClassId) (kh : ClassId) (ks : ClassId) (fw : Nat → Value) (fh : Nat → Int32) (fs : Nat → Int32) (fz : Nat → Int32) (fF : Nat → Nat → Int64) (x : Int64) (h0 : Heap) (n0 : Nat) (Z0 : n0 ≤ h0.size) (D : own_AT Z h0 n0 a span cap sh ow hd sz ko kh ks fw fh fs fz fF) (hi : own_I iv i) (wf : own_WF cap (fh i) (fs i) (fz i)) (hs1 : (fs i) = 1) (hh0 : (fh i) = 0) (hz2 : (fz i) = 2) (hg : ¬ (x - span) < (fF i (own_idx (fh i) (0 : Int32) (fz i)).toNatClampNeg)) :
    MetFree l (⟨"com/example/wache/wache/AttemptTimes", "add", "(IJ)V"⟩ : MethodName) (head1 (Jvm.Cond.code (⟨"com/example/wache/wache/AttemptTimes", "add", "(IJ)V"⟩ : MethodName) prog_3_method_2_code 4 none :: ws) ({ frames := 3, cells := 0, slots := 0, locals := 49 } : Room)) (fun aQ UQ => aQ = #[(.ref a), (.int iv), (.long x)] ∧ Z.Warmed39 UQ.vm ∧ UQ.heap = h0) (fun _ _ _ _ _ => True) (fun _ UQ oQ U2 => ∃ vQ LQ, oQ = .returned vQ ∧ own_rm_addO2_Q Z iv i a span cap sh ow hd sz ko kh ks fw fh fs fz fF x h0 n0 vQ U2.heap LQ ∧ FrameEnd UQ oQ U2 LQ ({ frames := 3, cells := 0, slots := 0, locals := 49 } : Room).cells ({ frames := 3, cells := 0, slots := 0, locals := 49 } : Room).slots) := by
  refine MetFree.of_bodySF own_pn8 hisR ?_
  intro p e s m args below meth c s₁ Bd hml0 hP hK
  obtain ⟨rfl, hZ, hh⟩ := hP
  have hx := Bd.exec
  have hby := Bd.bytes
  have hml : c.maxLocals = 4 := hml0
  have hlk := BodyLoose.notSynchronized Bd
  have hown : s.vm.findClass "com/example/wache/wache/AttemptTimes" = some m.cls := findClass_of_methodNamed Bd.named
  have hnm := (name_of_methodNamed Bd.named Bd.method).1
  have X0 : Stand p l e ({ frames := 3, cells := 0, slots := 0, locals := 49 } : Room) s m #[(.ref a), (.int iv), (.long x)] below meth c s₁ [] 0 0 := Stand.of_body Bd
  have e0 : s₁.heap = h0 := by rw [← hh, Bd.state]; rfl
  have N0 := Fr.nil n0
  show own_Go p e below s (own_rm_addO2_Q Z iv i a span cap sh ow hd sz ko kh ks fw fh fs fz fF x h0 n0) ({ frames := 3, cells := 0, slots := 0, locals := 49 } : Room).cells ({ frames := 3, cells := 0, slots := 0, locals := 49 } : Room).slots (s₁.setTop (entryFrame m #[(.ref a), (.int iv), (.long x)] 4))
  rw [own_rm_addO2_ef]
  show own_Go p e below s _ _ _ (s₁.setTop (mkF m 0 #[.val (.ref a), .val (.int iv), .val (.long x), .second] []))
  have one1 : 1 ≤ (fs i).toInt := by rw [hs1]; decide
  refine own_st (fun _ kQ => XS.aloadN X0.here hx rfl (hb hby own_d_prog_3_method_2_code_0) rfl rfl kQ) ?_
  show own_Go p e below s _ _ _ (s₁.setTop (mkF m 1 #[.val (.ref a), .val (.int iv), .val (.long x), .second] [(.ref a)]))
  have F649 : Fld Z h0 a "com/example/wache/wache/AttemptTimes" "sizes" "[I" (.ref sz) := D.fsz
  obtain ⟨T650, X650, e650, st650⟩ := getF X0 hx hZ hown (host := "") (Or.inl (hw _ (List.mem_of_getElem? (i := 24) rfl))) Via.refl e0 F649 (g := (mkF m 1 #[.val (.ref a), .val (.int iv), .val (.long x), .second] [(.ref a)])) rfl rfl (hb hby own_d_prog_3_method_2_code_1)
  refine own_st st650 ?_
  show own_Go p e below s _ _ _ (T650.setTop (mkF m 4 #[.val (.ref a), .val (.int iv), .val (.long x), .second] [(.ref sz)]))
  refine own_st (fun _ kQ => XS.iloadN X650.here hx rfl (hb hby own_d_prog_3_method_2_code_4) rfl kQ) ?_
  show own_Go p e below s _ _ _ (T650.setTop (mkF m 5 #[.val (.ref a), .val (.int iv), .val (.long x), .second] [(.int iv), (.ref sz)]))
  have F651 : Arv Z h0 sz ks .int (2 : Int32) [(.int (fs 0)), (.int (fs 1))] (.int (0 : Int32)) := D.vsz
  obtain ⟨cl652, Ar652, kc652, S652, Nn652, H652, G652⟩ := id F651
  have hin652 : ¬ (iv < 0 ∨ cl652.slots.size ≤ (iv : Int32).toNatClampNeg) := inb_of S652 (own_I.inb hi)
  have hat652 : cl652.slots[(iv : Int32).toNatClampNeg]? = some (.int (1 : Int32)) := H652.at hin652 ((own_I.getI hi fs _).trans (congrArg Value.int hs1))
  refine own_st (fun _ kQ => X650.iaload hx (j := iv) (v := (.int (1 : Int32))) (own_hp e650 Ar652.1) (State.isArrayOf_alike hZ.alike Ar652.2.1) Ar652.2.2 hin652 hat652 (g := (mkF m 5 #[.val (.ref a), .val (.int iv), .val (.long x), .second] [(.int iv), (.ref sz)])) rfl rfl (hb hby own_d_prog_3_method_2_code_5) _ kQ) ?_
  show own_Go p e below s _ _ _ (T650.setTop (mkF m 6 #[.val (.ref a), .val (.int iv), .val (.long x), .second] [(.int (1 : Int32))]))
  refine own_st (fun _ kQ => XS.ifNo X650.here hx rfl (hb hby own_d_prog_3_method_2_code_6) rfl (XT.i0_le_f (by decide)) kQ) ?_
  show own_Go p e below s _ _ _ (T650.setTop (mkF m 9 #[.val (.ref a), .val (.int iv), .val (.long x), .second] []))
  refine own_st (fun _ kQ => XS.aloadN X650.here hx rfl (hb hby own_d_prog_3_method_2_code_9) rfl rfl kQ) ?_
  show own_Go p e below s _ _ _ (T650.setTop (mkF m 10 #[.val (.ref a), .val (.int iv), .val (.long x), .second] [(.ref a)]))
  refine own_st (fun _ kQ => XS.iloadN X650.here hx rfl (hb hby own_d_prog_3_method_2_code_10) rfl kQ) ?_
  show own_Go p e below s _ _ _ (T650.setTop (mkF m 11 #[.val (.ref a), .val (.int iv), .val (.long x), .second] [(.int iv), (.ref a)]))
  refine own_st (fun _ kQ => XT.iconstV X650.here hx rfl (0 : Int32) (hb hby own_d_prog_3_method_2_code_11) (by decide) kQ) ?_
  show own_Go p e below s _ _ _ (T650.setTop (mkF m 12 #[.val (.ref a), .val (.int iv), .val (.long x), .second] [(.int (0 : Int32)), (.int iv), (.ref a)]))
  have F654 : Exa Z h0 a "com/example/wache/wache/AttemptTimes" := D.exa
  obtain ⟨cq653, q653, q653'⟩ := F654.cell
  obtain ⟨_, _, ⟨T653, L653, k653, n653⟩, -, X653, ⟨Lc653, hQ653, l653, y653, z653⟩, st653⟩ := X650.privateBack hx (y := (⟨"com/example/wache/wache/AttemptTimes", "get", "(II)J"⟩ : MethodName)) hown (mvT hZ (hw _ (List.mem_of_getElem? (i := 48) rfl))) (mvT hZ (hw _ (List.mem_of_getElem? (i := 49) rfl))) (mvT hZ (own_selP (hw _ (List.mem_of_getElem? (i := 49) rfl)) (hw _ (List.mem_of_getElem? (i := 50) rfl)) (hw _ (List.mem_of_getElem? (i := 2) rfl)) (by decide))) (Cond.privateMethod_at (mvP hZ (hw _ (List.mem_of_getElem? (i := 50) rfl)) (args := #[]))) (mvT hZ (hw _ (List.mem_of_getElem? (i := 51) rfl))) (by decide) (backOf (W := 0) (own_rm_get l Z a0 hw [] iv i a span cap sh ow hd sz ko kh ks fw fh fs fz fF (0 : Int32) h0 n0 Z0 D hi (own_WF.idx wf (k := (0 : Int32)) (by decide) (by have e1 : ((0 : Int32) : Int32).toInt = 0 := (by decide); have q1 := wf.2.2.1; omega))) hZ (hw _ (List.mem_of_getElem? (i := 51) rfl)) (hw _ (List.mem_of_getElem? (i := 3) rfl)) (by decide) (by decide)) (g := (mkF m 12 #[.val (.ref a), .val (.int iv), .val (.long x), .second] [(.int (0 : Int32)), (.int iv), (.ref a)])) rfl (by rw [hml]; rfl) (Steps.refl _) (a := a) (own_hp e650 q653) q653' (argsL := [(.int iv), (.int (0 : Int32))]) (rest := []) (lenOf own_pd2 rfl) rfl (by show 2 * 0 + _ ≤ _; exact Nat.le_of_eq rfl) (hb hby own_d_prog_3_method_2_code_12) (fun _ _ => ⟨rfl, e650, (by decide : 0 + 0 ≤ _), (by decide : 0 + 0 ≤ _)⟩)
  dsimp only [Pt.U, Pt.locs, Pt.cells, Pt.slots] at X653 l653 y653 z653 st653 hQ653
  subst l653 y653 z653
  obtain ⟨N653q, rfl, eh653⟩ := hQ653
  have N655 := Fr.app N0 N653q
  refine own_tr st653 ?_
  show own_Go p e below s _ _ _ (T653.setTop (mkF m 15 #[.val (.ref a), .val (.int iv), .val (.long x), .second] [(.long (fF i (own_idx (fh i) (0 : Int32) (fz i)).toNatClampNeg))]))
  refine own_st (fun _ kQ => XT.lloadN X653.here hx rfl (hb hby own_d_prog_3_method_2_code_15) rfl kQ) ?_
  show own_Go p e below s _ _ _ (T653.setTop (mkF m 16 #[.val (.ref a), .val (.int iv), .val (.long x), .second] [(.long x), (.long (fF i (own_idx (fh i) (0 : Int32) (fz i)).toNatClampNeg))]))
  refine own_st (fun _ kQ => XS.aloadN X653.here hx rfl (hb hby own_d_prog_3_method_2_code_16) rfl rfl kQ) ?_
  show own_Go p e below s _ _ _ (T653.setTop (mkF m 17 #[.val (.ref a), .val (.int iv), .val (.long x), .second] [(.ref a), (.long x), (.long (fF i (own_idx (fh i) (0 : Int32) (fz i)).toNatClampNeg))]))
  have F656 : Fld Z h0 a "com/example/wache/wache/AttemptTimes" "spanMillis" "J" (.long span) := D.fspan
  obtain ⟨T657, X657, e657, st657⟩ := getF X653 hx hZ hown (host := "") (Or.inl (hw _ (List.mem_of_getElem? (i := 10) rfl))) Via.refl eh653 F656 (g := (mkF m 17 #[.val (.ref a), .val (.int iv), .val (.long x), .second] [(.ref a), (.long x), (.long (fF i (own_idx (fh i) (0 : Int32) (fz i)).toNatClampNeg))])) rfl rfl (hb hby own_d_prog_3_method_2_code_17)
  refine own_st st657 ?_
  show own_Go p e below s _ _ _ (T657.setTop (mkF m 20 #[.val (.ref a), .val (.int iv), .val (.long x), .second] [(.long span), (.long x), (.long (fF i (own_idx (fh i) (0 : Int32) (fz i)).toNatClampNeg))]))
  refine own_st (fun _ kQ => XT.lsub X657.here hx rfl (hb hby own_d_prog_3_method_2_code_20) rfl kQ) ?_
  show own_Go p e below s _ _ _ (T657.setTop (mkF m 21 #[.val (.ref a), .val (.int iv), .val (.long x), .second] [(.long (x - span)), (.long (fF i (own_idx (fh i) (0 : Int32) (fz i)).toNatClampNeg))]))
  refine own_st (fun _ kQ => XT.lcmp X657.here hx rfl (hb hby own_d_prog_3_method_2_code_21) rfl kQ) ?_
  show own_Go p e below s _ _ _ (T657.setTop (mkF m 22 #[.val (.ref a), .val (.int iv), .val (.long x), .second] [(.int (XT.cmpL (fF i (own_idx (fh i) (0 : Int32) (fz i)).toNatClampNeg) (x - span)))]))
  refine own_st (fun _ kQ => XS.ifNo X657.here hx rfl (hb hby own_d_prog_3_method_2_code_22) rfl (XT.ll_gt_f hg) kQ) ?_
  show own_Go p e below s _ _ _ (T657.setTop (mkF m 25 #[.val (.ref a), .val (.int iv), .val (.long x), .second] []))
  refine own_st (fun _ kQ => XS.aloadN X657.here hx rfl (hb hby own_d_prog_3_method_2_code_25) rfl rfl kQ) ?_
  show own_Go p e below s _ _ _ (T657.setTop (mkF m 26 #[.val (.ref a), .val (.int iv), .val (.long x), .second] [(.ref a)]))
  refine own_st (fun _ kQ => XS.iloadN X657.here hx rfl (hb hby own_d_prog_3_method_2_code_26) rfl kQ) ?_
  show own_Go p e below s _ _ _ (T657.setTop (mkF m 27 #[.val (.ref a), .val (.int iv), .val (.long x), .second] [(.int iv), (.ref a)]))
  have F659 : Exa Z h0 a "com/example/wache/wache/AttemptTimes" := D.exa
  obtain ⟨cq658, q658, q658'⟩ := F659.cell
  obtain ⟨_, _, ⟨T658, L658, k658, n658⟩, -, X658, ⟨Lc658, hQ658, l658, y658, z658⟩, st658⟩ := X657.privateBack hx (y := (⟨"com/example/wache/wache/AttemptTimes", "dropOldest", "(I)V"⟩ : MethodName)) hown (mvT hZ (hw _ (List.mem_of_getElem? (i := 72) rfl))) (mvT hZ (hw _ (List.mem_of_getElem? (i := 73) rfl))) (mvT hZ (own_selP (hw _ (List.mem_of_getElem? (i := 73) rfl)) (hw _ (List.mem_of_getElem? (i := 74) rfl)) (hw _ (List.mem_of_getElem? (i := 2) rfl)) (by decide))) (Cond.privateMethod_at (mvP hZ (hw _ (List.mem_of_getElem? (i := 74) rfl)) (args := #[]))) (mvT hZ (hw _ (List.mem_of_getElem? (i := 75) rfl))) (by decide) (backOf (W := 0) (own_rm_drop l Z a0 hw [] iv i a span cap sh ow hd sz ko kh ks fw fh fs fz fF h0 n0 Z0 D hi wf.nz) hZ (hw _ (List.mem_of_getElem? (i := 75) rfl)) (hw _ (List.mem_of_getElem? (i := 3) rfl)) (by decide) (by decide)) (g := (mkF m 27 #[.val (.ref a), .val (.int iv), .val (.long x), .second] [(.int iv), (.ref a)])) rfl (by rw [hml]; rfl) (Steps.refl _) (a := a) (own_hp e657 q658) q658' (argsL := [(.int iv)]) (rest := []) (lenOf own_pd5 rfl) rfl (by show 2 * 0 + _ ≤ _; exact Nat.le_of_eq rfl) (hb hby own_d_prog_3_method_2_code_27) (fun _ _ => ⟨rfl, e657, (by decide : 0 + 0 ≤ _), (by decide : 0 + 0 ≤ _)⟩)
  dsimp only [Pt.U, Pt.locs, Pt.cells, Pt.slots] at X658 l658 y658 z658 st658 hQ658
  subst l658 y658 z658
  obtain ⟨x660, x661, N658q, rfl, q662, q663, q664, q665⟩ := hQ658
  have N666 := Fr.app N655 N658q
  refine own_tr st658 ?_
  have Zs667 : n0 ≤ T658.heap.size := q662.szle
  show own_Go p e below s _ _ _ (T658.setTop (mkF m 30 #[.val (.ref a), .val (.int iv), .val (.long x), .second] []))
  refine own_st (fun _ kQ => XS.goto X658.here hx rfl (pc0 := 30) (pc' := 0) rfl (hb hby own_d_prog_3_method_2_code_30) (by decide) (by decide) kQ) ?_
  show own_Go p e below s _ _ _ (T658.setTop (mkF m 0 #[.val (.ref a), .val (.int iv), .val (.long x), .second] []))
  have hs2 : (x661 i) = 0 := by rw [q664, hs1]; decide
  have hh2 : (x660 i) = 1 := by rw [q663, hh0, hz2]; decide
  have wf2 : own_WF cap (x660 i) (x661 i) (fz i) := by rw [q663, q664]; exact wf.drop one1
  refine own_st (fun _ kQ => XS.aloadN X658.here hx rfl (hb hby own_d_prog_3_method_2_code_0) rfl rfl kQ) ?_
  show own_Go p e below s _ _ _ (T658.setTop (mkF m 1 #[.val (.ref a), .val (.int iv), .val (.long x), .second] [(.ref a)]))
  have F668 : Fld Z T658.heap a "com/example/wache/wache/AttemptTimes" "sizes" "[I" (.ref sz) := q662.fsz
  obtain ⟨T669, X669, e669, st669⟩ := getF X658 hx hZ hown (host := "") (Or.inl (hw _ (List.mem_of_getElem? (i := 24) rfl))) Via.refl rfl F668 (g := (mkF m 1 #[.val (.ref a), .val (.int iv), .val (.long x), .second] [(.ref a)])) rfl rfl (hb hby own_d_prog_3_method_2_code_1)
  refine own_st st669 ?_
  show own_Go p e below s _ _ _ (T669.setTop (mkF m 4 #[.val (.ref a), .val (.int iv), .val (.long x), .second] [(.ref sz)]))
  refine own_st (fun _ kQ => XS.iloadN X669.here hx rfl (hb hby own_d_prog_3_method_2_code_4) rfl kQ) ?_
  show own_Go p e below s _ _ _ (T669.setTop (mkF m 5 #[.val (.ref a), .val (.int iv), .val (.long x), .second] [(.int iv), (.ref sz)]))
  have F670 : Arv Z T658.heap sz ks .int (2 : Int32) [(.int (x661 0)), (.int (x661 1))] (.int (0 : Int32)) := q662.vsz
  obtain ⟨cl671, Ar671, kc671, S671, Nn671, H671, G671⟩ := id F670
  have hin671 : ¬ (iv < 0 ∨ cl671.slots.size ≤ (iv : Int32).toNatClampNeg) := inb_of S671 (own_I.inb hi)
  have hat671 : cl671.slots[(iv : Int32).toNatClampNeg]? = some (.int (0 : Int32)) := H671.at hin671 ((own_I.getI hi x661 _).trans (congrArg Value.int hs2))
  refine own_st (fun _ kQ => X669.iaload hx (j := iv) (v := (.int (0 : Int32))) (own_hp e669 Ar671.1) (State.isArrayOf_alike hZ.alike Ar671.2.1) Ar671.2.2 hin671 hat671 (g := (mkF m 5 #[.val (.ref a), .val (.int iv), .val (.long x), .second] [(.int iv), (.ref sz)])) rfl rfl (hb hby own_d_prog_3_method_2_code_5) _ kQ) ?_
  show own_Go p e below s _ _ _ (T669.setTop (mkF m 6 #[.val (.ref a), .val (.int iv), .val (.long x), .second] [(.int (0 : Int32))]))
  refine own_st (fun _ kQ => XS.ifYes X669.here hx rfl (pc0 := 6) (pc' := 33) rfl (hb hby own_d_prog_3_method_2_code_6) rfl (XT.i0_le_t (by decide)) (by decide) (by decide) kQ) ?_
  show own_Go p e below s _ _ _ (T669.setTop (mkF m 33 #[.val (.ref a), .val (.int iv), .val (.long x), .second] []))
  refine own_st (fun _ kQ => XS.aloadN X669.here hx rfl (hb hby own_d_prog_3_method_2_code_33) rfl rfl kQ) ?_
  show own_Go p e below s _ _ _ (T669.setTop (mkF m 34 #[.val (.ref a), .val (.int iv), .val (.long x), .second] [(.ref a)]))
  have F672 : Fld Z T658.heap a "com/example/wache/wache/AttemptTimes" "sizes" "[I" (.ref sz) := q662.fsz
  obtain ⟨T673, X673, e673, st673⟩ := getF X669 hx hZ hown (host := "") (Or.inl (hw _ (List.mem_of_getElem? (i := 24) rfl))) Via.refl e669 F672 (g := (mkF m 34 #[.val (.ref a), .val (.int iv), .val (.long x), .second] [(.ref a)])) rfl rfl (hb hby own_d_prog_3_method_2_code_34)
  refine own_st st673 ?_
  show own_Go p e below s _ _ _ (T673.setTop (mkF m 37 #[.val (.ref a), .val (.int iv), .val (.long x), .second] [(.ref sz)]))
  refine own_st (fun _ kQ => XS.iloadN X673.here hx rfl (hb hby own_d_prog_3_method_2_code_37) rfl kQ) ?_
  show own_Go p e below s _ _ _ (T673.setTop (mkF m 38 #[.val (.ref a), .val (.int iv), .val (.long x), .second] [(.int iv), (.ref sz)]))
  have F674 : Arv Z T658.heap sz ks .int (2 : Int32) [(.int (x661 0)), (.int (x661 1))] (.int (0 : Int32)) := q662.vsz
  obtain ⟨cl675, Ar675, kc675, S675, Nn675, H675, G675⟩ := id F674
  have hin675 : ¬ (iv < 0 ∨ cl675.slots.size ≤ (iv : Int32).toNatClampNeg) := inb_of S675 (own_I.inb hi)
  have hat675 : cl675.slots[(iv : Int32).toNatClampNeg]? = some (.int (0 : Int32)) := H675.at hin675 ((own_I.getI hi x661 _).trans (congrArg Value.int hs2))
  refine own_st (fun _ kQ => X673.iaload hx (j := iv) (v := (.int (0 : Int32))) (own_hp e673 Ar675.1) (State.isArrayOf_alike hZ.alike Ar675.2.1) Ar675.2.2 hin675 hat675 (g := (mkF m 38 #[.val (.ref a), .val (.int iv), .val (.long x), .second] [(.int iv), (.ref sz)])) rfl rfl (hb hby own_d_prog_3_method_2_code_38) _ kQ) ?_
  show own_Go p e below s _ _ _ (T673.setTop (mkF m 39 #[.val (.ref a), .val (.int iv), .val (.long x), .second] [(.int (0 : Int32))]))
  refine own_st (fun _ kQ => XS.aloadN X673.here hx rfl (hb hby own_d_prog_3_method_2_code_39) rfl rfl kQ) ?_
  show own_Go p e below s _ _ _ (T673.setTop (mkF m 40 #[.val (.ref a), .val (.int iv), .val (.long x), .second] [(.ref a), (.int (0 : Int32))]))
  have F676 : Fld Z T658.heap a "com/example/wache/wache/AttemptTimes" "capacity" "I" (.int cap) := q662.fcap
  obtain ⟨T677, X677, e677, st677⟩ := getF X673 hx hZ hown (host := "") (Or.inl (hw _ (List.mem_of_getElem? (i := 12) rfl))) Via.refl e673 F676 (g := (mkF m 40 #[.val (.ref a), .val (.int iv), .val (.long x), .second] [(.ref a), (.int (0 : Int32))])) rfl rfl (hb hby own_d_prog_3_method_2_code_40)
  refine own_st st677 ?_
  show own_Go p e below s _ _ _ (T677.setTop (mkF m 43 #[.val (.ref a), .val (.int iv), .val (.long x), .second] [(.int cap), (.int (0 : Int32))]))
  refine own_st (fun _ kQ => XS.icmpYes X677.here hx rfl (pc0 := 43) (pc' := 54) rfl (hb hby own_d_prog_3_method_2_code_43) rfl (XT.ii_ne_t (own_WF.ncap wf2 (k := (0 : Int32)) (by decide)).1) (by decide) (by decide) kQ) ?_
  show own_Go p e below s _ _ _ (T677.setTop (mkF m 54 #[.val (.ref a), .val (.int iv), .val (.long x), .second] []))
  refine own_st (fun _ kQ => XS.aloadN X677.here hx rfl (hb hby own_d_prog_3_method_2_code_54) rfl rfl kQ) ?_
  show own_Go p e below s _ _ _ (T677.setTop (mkF m 55 #[.val (.ref a), .val (.int iv), .val (.long x), .second] [(.ref a)]))
  have F678 : Fld Z T658.heap a "com/example/wache/wache/AttemptTimes" "sizes" "[I" (.ref sz) := q662.fsz
  obtain ⟨T679, X679, e679, st679⟩ := getF X677 hx hZ hown (host := "") (Or.inl (hw _ (List.mem_of_getElem? (i := 24) rfl))) Via.refl e677 F678 (g := (mkF m 55 #[.val (.ref a), .val (.int iv), .val (.long x), .second] [(.ref a)])) rfl rfl (hb hby own_d_prog_3_method_2_code_55)
  refine own_st st679 ?_
  show own_Go p e below s _ _ _ (T679.setTop (mkF m 58 #[.val (.ref a), .val (.int iv), .val (.long x), .second] [(.ref sz)]))
  refine own_st (fun _ kQ => XS.iloadN X679.here hx rfl (hb hby own_d_prog_3_method_2_code_58) rfl kQ) ?_
  show own_Go p e below s _ _ _ (T679.setTop (mkF m 59 #[.val (.ref a), .val (.int iv), .val (.long x), .second] [(.int iv), (.ref sz)]))
  have F680 : Arv Z T658.heap sz ks .int (2 : Int32) [(.int (x661 0)), (.int (x661 1))] (.int (0 : Int32)) := q662.vsz
  obtain ⟨cl681, Ar681, kc681, S681, Nn681, H681, G681⟩ := id F680
  have hin681 : ¬ (iv < 0 ∨ cl681.slots.size ≤ (iv : Int32).toNatClampNeg) := inb_of S681 (own_I.inb hi)
  have hat681 : cl681.slots[(iv : Int32).toNatClampNeg]? = some (.int (0 : Int32)) := H681.at hin681 ((own_I.getI hi x661 _).trans (congrArg Value.int hs2))
  refine own_st (fun _ kQ => X679.iaload hx (j := iv) (v := (.int (0 : Int32))) (own_hp e679 Ar681.1) (State.isArrayOf_alike hZ.alike Ar681.2.1) Ar681.2.2 hin681 hat681 (g := (mkF m 59 #[.val (.ref a), .val (.int iv), .val (.long x), .second] [(.int iv), (.ref sz)])) rfl rfl (hb hby own_d_prog_3_method_2_code_59) _ kQ) ?_
  show own_Go p e below s _ _ _ (T679.setTop (mkF m 60 #[.val (.ref a), .val (.int iv), .val (.long x), .second] [(.int (0 : Int32))]))
  refine own_st (fun _ kQ => XS.aloadN X679.here hx rfl (hb hby own_d_prog_3_method_2_code_60) rfl rfl kQ) ?_
  show own_Go p e below s _ _ _ (T679.setTop (mkF m 61 #[.val (.ref a), .val (.int iv), .val (.long x), .second] [(.ref a), (.int (0 : Int32))]))
  refine own_st (fun _ kQ => XS.iloadN X679.here hx rfl (hb hby own_d_prog_3_method_2_code_61) rfl kQ) ?_
  show own_Go p e below s _ _ _ (T679.setTop (mkF m 62 #[.val (.ref a), .val (.int iv), .val (.long x), .second] [(.int iv), (.ref a), (.int (0 : Int32))]))
  have F683 : Exa Z T658.heap a "com/example/wache/wache/AttemptTimes" := q662.exa
  obtain ⟨cq682, q682, q682'⟩ := F683.cell
  obtain ⟨_, _, ⟨T682, L682, k682, n682⟩, -, X682, ⟨Lc682, hQ682, l682, y682, z682⟩, st682⟩ := X679.privateBack hx (y := (⟨"com/example/wache/wache/AttemptTimes", "length", "(I)I"⟩ : MethodName)) hown (mvT hZ (hw _ (List.mem_of_getElem? (i := 31) rfl))) (mvT hZ (hw _ (List.mem_of_getElem? (i := 32) rfl))) (mvT hZ (own_selP (hw _ (List.mem_of_getElem? (i := 32) rfl)) (hw _ (List.mem_of_getElem? (i := 33) rfl)) (hw _ (List.mem_of_getElem? (i := 2) rfl)) (by decide))) (Cond.privateMethod_at (mvP hZ (hw _ (List.mem_of_getElem? (i := 33) rfl)) (args := #[]))) (mvT hZ (hw _ (List.mem_of_getElem? (i := 34) rfl))) (by decide) (backOf (W := 1) (own_rm_length l Z a0 hw [] iv i a span cap sh ow hd sz ko kh ks fw x660 x661 fz fF T658.heap n0 Zs667 q662 hi) hZ (hw _ (List.mem_of_getElem? (i := 34) rfl)) (hw _ (List.mem_of_getElem? (i := 3) rfl)) (by decide) (by decide)) (g := (mkF m 62 #[.val (.ref a), .val (.int iv), .val (.long x), .second] [(.int iv), (.ref a), (.int (0 : Int32))])) rfl (by rw [hml]; rfl) (Steps.refl _) (a := a) (own_hp e679 q682) q682' (argsL := [(.int iv)]) (rest := [(.int (0 : Int32))]) (lenOf own_pd0 rfl) rfl (by show 2 * 0 + _ ≤ _; exact Nat.le_of_eq rfl) (hb hby own_d_prog_3_method_2_code_62) (fun _ _ => ⟨rfl, e679, (by decide : 0 + 0 ≤ _), (by decide : 0 + 0 ≤ _)⟩)
  dsimp only [Pt.U, Pt.locs, Pt.cells, Pt.slots] at X682 l682 y682 z682 st682 hQ682
  subst l682 y682 z682
  obtain ⟨N682q, rfl, eh682⟩ := hQ682
  have N684 := Fr.app N666 N682q
  refine own_tr st682 ?_
  show own_Go p e below s _ _ _ (T682.setTop (mkF m 65 #[.val (.ref a), .val (.int iv), .val (.long x), .second] [(.int (fz i)), (.int (0 : Int32))]))
  refine own_st (fun _ kQ => XS.icmpYes X682.here hx rfl (pc0 := 65) (pc' := 73) rfl (hb hby own_d_prog_3_method_2_code_65) rfl (XT.ii_ne_t (own_WF.ncap wf2 (k := (0 : Int32)) (by decide)).2) (by decide) (by decide) kQ) ?_
  show own_Go p e below s _ _ _ (T682.setTop (mkF m 73 #[.val (.ref a), .val (.int iv), .val (.long x), .second] []))
  refine own_st (fun _ kQ => XS.aloadN X682.here hx rfl (hb hby own_d_prog_3_method_2_code_73) rfl rfl kQ) ?_
  show own_Go p e below s _ _ _ (T682.setTop (mkF m 74 #[.val (.ref a), .val (.int iv), .val (.long x), .second] [(.ref a)]))
  refine own_st (fun _ kQ => XS.iloadN X682.here hx rfl (hb hby own_d_prog_3_method_2_code_74) rfl kQ) ?_
  show own_Go p e below s _ _ _ (T682.setTop (mkF m 75 #[.val (.ref a), .val (.int iv), .val (.long x), .second] [(.int iv), (.ref a)]))
  refine own_st (fun _ kQ => XS.aloadN X682.here hx rfl (hb hby own_d_prog_3_method_2_code_75) rfl rfl kQ) ?_
  show own_Go p e below s _ _ _ (T682.setTop (mkF m 76 #[.val (.ref a), .val (.int iv), .val (.long x), .second] [(.ref a), (.int iv), (.ref a)]))
  have F685 : Fld Z T658.heap a "com/example/wache/wache/AttemptTimes" "sizes" "[I" (.ref sz) := q662.fsz
  obtain ⟨T686, X686, e686, st686⟩ := getF X682 hx hZ hown (host := "") (Or.inl (hw _ (List.mem_of_getElem? (i := 24) rfl))) Via.refl eh682 F685 (g := (mkF m 76 #[.val (.ref a), .val (.int iv), .val (.long x), .second] [(.ref a), (.int iv), (.ref a)])) rfl rfl (hb hby own_d_prog_3_method_2_code_76)
  refine own_st st686 ?_
  show own_Go p e below s _ _ _ (T686.setTop (mkF m 79 #[.val (.ref a), .val (.int iv), .val (.long x), .second] [(.ref sz), (.int iv), (.ref a)]))
  refine own_st (fun _ kQ => XS.iloadN X686.here hx rfl (hb hby own_d_prog_3_method_2_code_79) rfl kQ) ?_
  show own_Go p e below s _ _ _ (T686.setTop (mkF m 80 #[.val (.ref a), .val (.int iv), .val (.long x), .second] [(.int iv), (.ref sz), (.int iv), (.ref a)]))
  have F687 : Arv Z T658.heap sz ks .int (2 : Int32) [(.int (x661 0)), (.int (x661 1))] (.int (0 : Int32)) := q662.vsz
  obtain ⟨cl688, Ar688, kc688, S688, Nn688, H688, G688⟩ := id F687
  have hin688 : ¬ (iv < 0 ∨ cl688.slots.size ≤ (iv : Int32).toNatClampNeg) := inb_of S688 (own_I.inb hi)
  have hat688 : cl688.slots[(iv : Int32).toNatClampNeg]? = some (.int (0 : Int32)) := H688.at hin688 ((own_I.getI hi x661 _).trans (congrArg Value.int hs2))
  refine own_st (fun _ kQ => X686.iaload hx (j := iv) (v := (.int (0 : Int32))) (own_hp e686 Ar688.1) (State.isArrayOf_alike hZ.alike Ar688.2.1) Ar688.2.2 hin688 hat688 (g := (mkF m 80 #[.val (.ref a), .val (.int iv), .val (.long x), .second] [(.int iv), (.ref sz), (.int iv), (.ref a)])) rfl rfl (hb hby own_d_prog_3_method_2_code_80) _ kQ) ?_
  show own_Go p e below s _ _ _ (T686.setTop (mkF m 81 #[.val (.ref a), .val (.int iv), .val (.long x), .second] [(.int (0 : Int32)), (.int iv), (.ref a)]))
  refine own_st (fun _ kQ => XT.lloadN X686.here hx rfl (hb hby own_d_prog_3_method_2_code_81) rfl kQ) ?_
  show own_Go p e below s _ _ _ (T686.setTop (mkF m 82 #[.val (.ref a), .val (.int iv), .val (.long x), .second] [(.long x), (.int (0 : Int32)), (.int iv), (.ref a)]))
  have F690 : Exa Z T658.heap a "com/example/wache/wache/AttemptTimes" := q662.exa
  obtain ⟨cq689, q689, q689'⟩ := F690.cell
  obtain ⟨_, _, ⟨T689, L689, k689, n689⟩, -, X689, ⟨Lc689, hQ689, l689, y689, z689⟩, st689⟩ := X686.privateBack hx (y := (⟨"com/example/wache/wache/AttemptTimes", "put", "(IIJ)V"⟩ : MethodName)) hown (mvT hZ (hw _ (List.mem_of_getElem? (i := 35) rfl))) (mvT hZ (hw _ (List.mem_of_getElem? (i := 36) rfl))) (mvT hZ (own_selP (hw _ (List.mem_of_getElem? (i := 36) rfl)) (hw _ (List.mem_of_getElem? (i := 37) rfl)) (hw _ (List.mem_of_getElem? (i := 2) rfl)) (by decide))) (Cond.privateMethod_at (mvP hZ (hw _ (List.mem_of_getElem? (i := 37) rfl)) (args := #[]))) (mvT hZ (hw _ (List.mem_of_getElem? (i := 38) rfl))) (by decide) (backOf (W := 0) (own_rm_put l Z a0 hw [] iv i a span cap sh ow hd sz ko kh ks fw x660 x661 fz fF (0 : Int32) x T658.heap n0 Zs667 q662 hi (own_WF.idx wf2 (k := (0 : Int32)) (by decide) (by have e1 : ((0 : Int32) : Int32).toInt = 0 := (by decide); have q1 := wf2.2.2.1; omega))) hZ (hw _ (List.mem_of_getElem? (i := 38) rfl)) (hw _ (List.mem_of_getElem? (i := 3) rfl)) (by decide) (by decide)) (g := (mkF m 82 #[.val (.ref a), .val (.int iv), .val (.long x), .second] [(.long x), (.int (0 : Int32)), (.int iv), (.ref a)])) rfl (by rw [hml]; rfl) (Steps.refl _) (a := a) (own_hp e686 q689) q689' (argsL := [(.int iv), (.int (0 : Int32)), (.long x)]) (rest := []) (lenOf own_pd4 rfl) rfl (by show 2 * 0 + _ ≤ _; exact Nat.le_of_eq rfl) (hb hby own_d_prog_3_method_2_code_82) (fun _ _ => ⟨rfl, e686, (by decide : 0 + 0 ≤ _), (by decide : 0 + 0 ≤ _)⟩)
  dsimp only [Pt.U, Pt.locs, Pt.cells, Pt.slots] at X689 l689 y689 z689 st689 hQ689
  subst l689 y689 z689
  obtain ⟨x691, N689q, rfl, q692, q693, q694, q695⟩ := hQ689
  have N696 := Fr.app N684 N689q
  refine own_tr st689 ?_
  have Zs697 : n0 ≤ T689.heap.size := q692.szle
  show own_Go p e below s _ _ _ (T689.setTop (mkF m 85 #[.val (.ref a), .val (.int iv), .val (.long x), .second] []))
  refine own_st (fun _ kQ => XS.aloadN X689.here hx rfl (hb hby own_d_prog_3_method_2_code_85) rfl rfl kQ) ?_
  show own_Go p e below s _ _ _ (T689.setTop (mkF m 86 #[.val (.ref a), .val (.int iv), .val (.long x), .second] [(.ref a)]))
  have F698 : Fld Z T689.heap a "com/example/wache/wache/AttemptTimes" "sizes" "[I" (.ref sz) := q692.fsz
  obtain ⟨T699, X699, e699, st699⟩ := getF X689 hx hZ hown (host := "") (Or.inl (hw _ (List.mem_of_getElem? (i := 24) rfl))) Via.refl rfl F698 (g := (mkF m 86 #[.val (.ref a), .val (.int iv), .val (.long x), .second] [(.ref a)])) rfl rfl (hb hby own_d_prog_3_method_2_code_86)
  refine own_st st699 ?_
  show own_Go p e below s _ _ _ (T699.setTop (mkF m 89 #[.val (.ref a), .val (.int iv), .val (.long x), .second] [(.ref sz)]))
  refine own_st (fun _ kQ => XS.iloadN X699.here hx rfl (hb hby own_d_prog_3_method_2_code_89) rfl kQ) ?_
  show own_Go p e below s _ _ _ (T699.setTop (mkF m 90 #[.val (.ref a), .val (.int iv), .val (.long x), .second] [(.int iv), (.ref sz)]))
  refine own_st (fun _ kQ => XT.dup2 X699.here hx rfl (hb hby own_d_prog_3_method_2_code_90) rfl rfl rfl kQ) ?_
  show own_Go p e below s _ _ _ (T699.setTop (mkF m 91 #[.val (.ref a), .val (.int iv), .val (.long x), .second] [(.int iv), (.ref sz), (.int iv), (.ref sz)]))
  have F700 : Arv Z T689.heap sz ks .int (2 : Int32) [(.int (x661 0)), (.int (x661 1))] (.int (0 : Int32)) := q692.vsz
  obtain ⟨cl701, Ar701, kc701, S701, Nn701, H701, G701⟩ := id F700
  have hin701 : ¬ (iv < 0 ∨ cl701.slots.size ≤ (iv : Int32).toNatClampNeg) := inb_of S701 (own_I.inb hi)
  have hat701 : cl701.slots[(iv : Int32).toNatClampNeg]? = some (.int (0 : Int32)) := H701.at hin701 ((own_I.getI hi x661 _).trans (congrArg Value.int hs2))
  refine own_st (fun _ kQ => X699.iaload hx (j := iv) (v := (.int (0 : Int32))) (own_hp e699 Ar701.1) (State.isArrayOf_alike hZ.alike Ar701.2.1) Ar701.2.2 hin701 hat701 (g := (mkF m 91 #[.val (.ref a), .val (.int iv), .val (.long x), .second] [(.int iv), (.ref sz), (.int iv), (.ref sz)])) rfl rfl (hb hby own_d_prog_3_method_2_code_91) _ kQ) ?_
  show own_Go p e below s _ _ _ (T699.setTop (mkF m 92 #[.val (.ref a), .val (.int iv), .val (.long x), .second] [(.int (0 : Int32)), (.int iv), (.ref sz)]))
  refine own_st (fun _ kQ => XT.iconstV X699.here hx rfl (1 : Int32) (hb hby own_d_prog_3_method_2_code_92) (by decide) kQ) ?_
  show own_Go p e below s _ _ _ (T699.setTop (mkF m 93 #[.val (.ref a), .val (.int iv), .val (.long x), .second] [(.int (1 : Int32)), (.int (0 : Int32)), (.int iv), (.ref sz)]))
  refine own_st (fun _ kQ => XS.iadd X699.here hx rfl (hb hby own_d_prog_3_method_2_code_93) rfl kQ) ?_
  show own_Go p e below s _ _ _ (T699.setTop (mkF m 94 #[.val (.ref a), .val (.int iv), .val (.long x), .second] [(.int (1 : Int32)), (.int iv), (.ref sz)]))
  have F703 : Arv Z T689.heap sz ks .int (2 : Int32) [(.int (x661 0)), (.int (x661 1))] (.int (0 : Int32)) := q692.vsz
  obtain ⟨cl702, Ar702, kc702, S702, Nn702, H702, G702⟩ := id F703
  have hin702 : ¬ (iv < 0 ∨ cl702.slots.size ≤ (iv : Int32).toNatClampNeg) := inb_of S702 (own_I.inb hi)
  obtain ⟨T702, h702, X702, e702, W702, st702⟩ := stI X699 hx hZ e699 Ar702 (j := iv) hin702 (g := (mkF m 94 #[.val (.ref a), .val (.int iv), .val (.long x), .second] [(.int (1 : Int32)), (.int iv), (.ref sz)])) rfl rfl (hb hby own_d_prog_3_method_2_code_94)
  refine own_st st702 ?_
  have N704 := Fr.snoc X702 N696 q692.gs.2.2.2.2
  have D705 : own_AT Z h702 n0 a span cap sh ow hd sz ko kh ks fw x660 (own_up x661 i (1 : Int32)) fz x691 := q692.setS hi W702
  have Zs706 : n0 ≤ h702.size := Nat.le_trans Zs697 (Nat.le_of_eq W702.size.symm)
  show own_Go p e below s _ _ _ (T702.setTop (mkF m 95 #[.val (.ref a), .val (.int iv), .val (.long x), .second] []))
  refine own_ret0 X702 hx hlk Bd.returns (hb hby own_d_prog_3_method_2_code_95) (by decide) (by decide) ?_
  rw [e702]
  exact ⟨x660, (own_up x661 i (1 : Int32)), x691, N704, rfl, D705, hh2, (own_up_same _ _ _), q693, (fun q hq => ⟨(q665 q hq).1, (own_up_ne hq).trans (q665 q hq).2, q694 q hq⟩)⟩
theorem own_pn14 : plainFor (⟨"com/example/wache/wache/AttemptTimesClearPinLaw", "law", "(JJIIII)Z"⟩ : MethodName) = true := by decide +kernel
theorem own_pd8 : parseMethodDescriptor "(IJI)V" = some ⟨[.int, .long, .int], none⟩ := by decide +kernel
theorem own_pd9 : parseMethodDescriptor "(IJ)V" = some ⟨[.int, .long], none⟩ := by decide +kernel
theorem own_pd10 : parseMethodDescriptor "(IJ)J" = some ⟨[.int, .long], some .long⟩ := by decide +kernel
def own_law_Q (Z : State) (n0 : Nat) (v : Option Value) (h : Heap) (L : List Loc) : Prop := Fr n0 L ∧ v = some (.int 1)
theorem own_law_ef (m : MethodId) (p1 : Int64) (p2 : Int64) (p3 : Int32) (p4 : Int32) (p5 : Int32) (p6 : Int32) : entryFrame m #[(.long p1), (.long p2), (.int p3), (.int p4), (.int p5), (.int p6)] maxLocals = mkF m 0 #[.val (.long p1), .second, .val (.long p2), .second, .val (.int p3), .val (.int p4), .val (.int p5), .val (.int p6), .unset, .unset, .unset, .unset, .unset, .unset, .unset, .unset, .unset, .unset, .unset, .unset, .unset, .unset, .unset, .unset, .unset, .unset, .unset, .unset, .unset, .unset, .unset, .unset, .unset] [] := by first | (simp [entryFrame, mkF, argsToLocals, Value.category, maxLocals]; done) | rfl
set_option maxRecDepth 65536 in
set_option maxHeartbeats 40000000 in
theorem own_law (l : Launch) (Z : State) (a0 : Array Value) (hw : ∀ d ∈ tables_1, d.before a0 Z = true) (ws : List Jvm.Cond) (p1 : Int64) (p2 : Int64) (p3 : Int32) (p4 : Int32) (p5 : Int32) (p6 : Int32) (h0 : Heap) (n0 : Nat) (Z0 : n0 ≤ h0.size)  :
    MetFree l x (head1 (Jvm.Cond.code x code maxLocals ret :: ws) room_1) (fun a U => a = #[(.long p1), (.long p2), (.int p3), (.int p4), (.int p5), (.int p6)] ∧ Z.Warmed39 U.vm ∧ U.heap = h0) (fun _ _ _ _ _ => True) (fun _ U o U' => ∃ v L, o = .returned v ∧ own_law_Q Z n0 v U'.heap L ∧ FrameEnd U o U' L 24 128) := by
  refine MetFree.of_bodySF own_pn14 hisR ?_
  intro p e s m args below meth c s₁ Bd hml0 hP hK
  obtain ⟨rfl, hZ, hh⟩ := hP
  have hx := Bd.exec
  have hby := Bd.bytes
  have hml : c.maxLocals = 33 := hml0
  have hlk := BodyLoose.notSynchronized Bd
  have hown : s.vm.findClass "com/example/wache/wache/AttemptTimesClearPinLaw" = some m.cls := findClass_of_methodNamed Bd.named
  have hnm := (name_of_methodNamed Bd.named Bd.method).1
  have X0 : Stand p l e room_1 s m #[(.long p1), (.long p2), (.int p3), (.int p4), (.int p5), (.int p6)] below meth c s₁ [] 0 0 := Stand.of_body Bd
  have e0 : s₁.heap = h0 := by rw [← hh, Bd.state]; rfl
  have N0 := Fr.nil n0
  show own_Go p e below s (own_law_Q Z n0) 24 128 (s₁.setTop (entryFrame m #[(.long p1), (.long p2), (.int p3), (.int p4), (.int p5), (.int p6)] maxLocals))
  rw [own_law_ef]
  show own_Go p e below s _ _ _ (s₁.setTop (mkF m 0 #[.val (.long p1), .second, .val (.long p2), .second, .val (.int p3), .val (.int p4), .val (.int p5), .val (.int p6), .unset, .unset, .unset, .unset, .unset, .unset, .unset, .unset, .unset, .unset, .unset, .unset, .unset, .unset, .unset, .unset, .unset, .unset, .unset, .unset, .unset, .unset, .unset, .unset, .unset] []))
  refine own_st (fun _ kQ => XS.iload X0.here hx rfl (hb hby at_0) rfl kQ) ?_
  show own_Go p e below s _ _ _ (s₁.setTop (mkF m 2 #[.val (.long p1), .second, .val (.long p2), .second, .val (.int p3), .val (.int p4), .val (.int p5), .val (.int p6), .unset, .unset, .unset, .unset, .unset, .unset, .unset, .unset, .unset, .unset, .unset, .unset, .unset, .unset, .unset, .unset, .unset, .unset, .unset, .unset, .unset, .unset, .unset, .unset, .unset] [(.int p3)]))
  refine own_st (fun _ kQ => XT.iconstV X0.here hx rfl (1 : Int32) (hb hby at_2) (by decide) kQ) ?_
  show own_Go p e below s _ _ _ (s₁.setTop (mkF m 3 #[.val (.long p1), .second, .val (.long p2), .second, .val (.int p3), .val (.int p4), .val (.int p5), .val (.int p6), .unset, .unset, .unset, .unset, .unset, .unset, .unset, .unset, .unset, .unset, .unset, .unset, .unset, .unset, .unset, .unset, .unset, .unset, .unset, .unset, .unset, .unset, .unset, .unset, .unset] [(.int (1 : Int32)), (.int p3)]))
  refine own_st (fun _ kQ => XS.iand X0.here hx rfl (hb hby at_3) rfl kQ) ?_
  show own_Go p e below s _ _ _ (s₁.setTop (mkF m 4 #[.val (.long p1), .second, .val (.long p2), .second, .val (.int p3), .val (.int p4), .val (.int p5), .val (.int p6), .unset, .unset, .unset, .unset, .unset, .unset, .unset, .unset, .unset, .unset, .unset, .unset, .unset, .unset, .unset, .unset, .unset, .unset, .unset, .unset, .unset, .unset, .unset, .unset, .unset] [(.int (p3 &&& (1 : Int32)))]))
  generalize hk_sI : (p3 &&& (1 : Int32)) = sI
  show own_Go p e below s _ _ _ (s₁.setTop (mkF m 4 #[.val (.long p1), .second, .val (.long p2), .second, .val (.int p3), .val (.int p4), .val (.int p5), .val (.int p6), .unset, .unset, .unset, .unset, .unset, .unset, .unset, .unset, .unset, .unset, .unset, .unset, .unset, .unset, .unset, .unset, .unset, .unset, .unset, .unset, .unset, .unset, .unset, .unset, .unset] [(.int sI)]))
  refine own_st (fun _ kQ => XS.istore X0.here hx rfl (hb hby at_4) rfl (l' := #[.val (.long p1), .second, .val (.long p2), .second, .val (.int p3), .val (.int p4), .val (.int p5), .val (.int p6), .val (.int sI), .unset, .unset, .unset, .unset, .unset, .unset, .unset, .unset, .unset, .unset, .unset, .unset, .unset, .unset, .unset, .unset, .unset, .unset, .unset, .unset, .unset, .unset, .unset, .unset]) rfl kQ) ?_
  show own_Go p e below s _ _ _ (s₁.setTop (mkF m 6 #[.val (.long p1), .second, .val (.long p2), .second, .val (.int p3), .val (.int p4), .val (.int p5), .val (.int p6), .val (.int sI), .unset, .unset, .unset, .unset, .unset, .unset, .unset, .unset, .unset, .unset, .unset, .unset, .unset, .unset, .unset, .unset, .unset, .unset, .unset, .unset, .unset, .unset, .unset, .unset] []))
  refine own_st (fun _ kQ => XT.iconstV X0.here hx rfl (1 : Int32) (hb hby at_6) (by decide) kQ) ?_
  show own_Go p e below s _ _ _ (s₁.setTop (mkF m 7 #[.val (.long p1), .second, .val (.long p2), .second, .val (.int p3), .val (.int p4), .val (.int p5), .val (.int p6), .val (.int sI), .unset, .unset, .unset, .unset, .unset, .unset, .unset, .unset, .unset, .unset, .unset, .unset, .unset, .unset, .unset, .unset, .unset, .unset, .unset, .unset, .unset, .unset, .unset, .unset] [(.int (1 : Int32))]))
  refine own_st (fun _ kQ => XS.iload X0.here hx rfl (hb hby at_7) rfl kQ) ?_
  show own_Go p e below s _ _ _ (s₁.setTop (mkF m 9 #[.val (.long p1), .second, .val (.long p2), .second, .val (.int p3), .val (.int p4), .val (.int p5), .val (.int p6), .val (.int sI), .unset, .unset, .unset, .unset, .unset, .unset, .unset, .unset, .unset, .unset, .unset, .unset, .unset, .unset, .unset, .unset, .unset, .unset, .unset, .unset, .unset, .unset, .unset, .unset] [(.int sI), (.int (1 : Int32))]))
  refine own_st (fun _ kQ => XS.isub X0.here hx rfl (hb hby at_9) rfl kQ) ?_
  show own_Go p e below s _ _ _ (s₁.setTop (mkF m 10 #[.val (.long p1), .second, .val (.long p2), .second, .val (.int p3), .val (.int p4), .val (.int p5), .val (.int p6), .val (.int sI), .unset, .unset, .unset, .unset, .unset, .unset, .unset, .unset, .unset, .unset, .unset, .unset, .unset, .unset, .unset, .unset, .unset, .unset, .unset, .unset, .unset, .unset, .unset, .unset] [(.int ((1 : Int32) - sI))]))
  generalize hk_oI : ((1 : Int32) - sI) = oI
  show own_Go p e below s _ _ _ (s₁.setTop (mkF m 10 #[.val (.long p1), .second, .val (.long p2), .second, .val (.int p3), .val (.int p4), .val (.int p5), .val (.int p6), .val (.int sI), .unset, .unset, .unset, .unset, .unset, .unset, .unset, .unset, .unset, .unset, .unset, .unset, .unset, .unset, .unset, .unset, .unset, .unset, .unset, .unset, .unset, .unset, .unset, .unset] [(.int oI)]))
  refine own_st (fun _ kQ => XS.istore X0.here hx rfl (hb hby at_10) rfl (l' := #[.val (.long p1), .second, .val (.long p2), .second, .val (.int p3), .val (.int p4), .val (.int p5), .val (.int p6), .val (.int sI), .val (.int oI), .unset, .unset, .unset, .unset, .unset, .unset, .unset, .unset, .unset, .unset, .unset, .unset, .unset, .unset, .unset, .unset, .unset, .unset, .unset, .unset, .unset, .unset, .unset]) rfl kQ) ?_
  show own_Go p e below s _ _ _ (s₁.setTop (mkF m 12 #[.val (.long p1), .second, .val (.long p2), .second, .val (.int p3), .val (.int p4), .val (.int p5), .val (.int p6), .val (.int sI), .val (.int oI), .unset, .unset, .unset, .unset, .unset, .unset, .unset, .unset, .unset, .unset, .unset, .unset, .unset, .unset, .unset, .unset, .unset, .unset, .unset, .unset, .unset, .unset, .unset] []))
  refine own_st (fun _ kQ => XT.iconstV X0.here hx rfl (2 : Int32) (hb hby at_12) (by decide) kQ) ?_
  show own_Go p e below s _ _ _ (s₁.setTop (mkF m 13 #[.val (.long p1), .second, .val (.long p2), .second, .val (.int p3), .val (.int p4), .val (.int p5), .val (.int p6), .val (.int sI), .val (.int oI), .unset, .unset, .unset, .unset, .unset, .unset, .unset, .unset, .unset, .unset, .unset, .unset, .unset, .unset, .unset, .unset, .unset, .unset, .unset, .unset, .unset, .unset, .unset] [(.int (2 : Int32))]))
  refine own_st (fun _ kQ => XS.iload X0.here hx rfl (hb hby at_13) rfl kQ) ?_
  show own_Go p e below s _ _ _ (s₁.setTop (mkF m 15 #[.val (.long p1), .second, .val (.long p2), .second, .val (.int p3), .val (.int p4), .val (.int p5), .val (.int p6), .val (.int sI), .val (.int oI), .unset, .unset, .unset, .unset, .unset, .unset, .unset, .unset, .unset, .unset, .unset, .unset, .unset, .unset, .unset, .unset, .unset, .unset, .unset, .unset, .unset, .unset, .unset] [(.int p3), (.int (2 : Int32))]))
  refine own_st (fun _ kQ => XT.iconstV X0.here hx rfl (1 : Int32) (hb hby at_15) (by decide) kQ) ?_
  show own_Go p e below s _ _ _ (s₁.setTop (mkF m 16 #[.val (.long p1), .second, .val (.long p2), .second, .val (.int p3), .val (.int p4), .val (.int p5), .val (.int p6), .val (.int sI), .val (.int oI), .unset, .unset, .unset, .unset, .unset, .unset, .unset, .unset, .unset, .unset, .unset, .unset, .unset, .unset, .unset, .unset, .unset, .unset, .unset, .unset, .unset, .unset, .unset] [(.int (1 : Int32)), (.int p3), (.int (2 : Int32))]))
  refine own_st (fun _ kQ => XT.iushr X0.here hx rfl (hb hby at_16) rfl kQ) ?_
  show own_Go p e below s _ _ _ (s₁.setTop (mkF m 17 #[.val (.long p1), .second, .val (.long p2), .second, .val (.int p3), .val (.int p4), .val (.int p5), .val (.int p6), .val (.int sI), .val (.int oI), .unset, .unset, .unset, .unset, .unset, .unset, .unset, .unset, .unset, .unset, .unset, .unset, .unset, .unset, .unset, .unset, .unset, .unset, .unset, .unset, .unset, .unset, .unset] [(.int (XT.ushr p3 (1 : Int32))), (.int (2 : Int32))]))
  refine own_st (fun _ kQ => XT.iconstV X0.here hx rfl (3 : Int32) (hb hby at_17) (by decide) kQ) ?_
  show own_Go p e below s _ _ _ (s₁.setTop (mkF m 18 #[.val (.long p1), .second, .val (.long p2), .second, .val (.int p3), .val (.int p4), .val (.int p5), .val (.int p6), .val (.int sI), .val (.int oI), .unset, .unset, .unset, .unset, .unset, .unset, .unset, .unset, .unset, .unset, .unset, .unset, .unset, .unset, .unset, .unset, .unset, .unset, .unset, .unset, .unset, .unset, .unset] [(.int (3 : Int32)), (.int (XT.ushr p3 (1 : Int32))), (.int (2 : Int32))]))
  refine own_st (fun _ kQ => XS.iand X0.here hx rfl (hb hby at_18) rfl kQ) ?_
  show own_Go p e below s _ _ _ (s₁.setTop (mkF m 19 #[.val (.long p1), .second, .val (.long p2), .second, .val (.int p3), .val (.int p4), .val (.int p5), .val (.int p6), .val (.int sI), .val (.int oI), .unset, .unset, .unset, .unset, .unset, .unset, .unset, .unset, .unset, .unset, .unset, .unset, .unset, .unset, .unset, .unset, .unset, .unset, .unset, .unset, .unset, .unset, .unset] [(.int ((XT.ushr p3 (1 : Int32)) &&& (3 : Int32))), (.int (2 : Int32))]))
  refine own_st (fun _ kQ => XS.iadd X0.here hx rfl (hb hby at_19) rfl kQ) ?_
  show own_Go p e below s _ _ _ (s₁.setTop (mkF m 20 #[.val (.long p1), .second, .val (.long p2), .second, .val (.int p3), .val (.int p4), .val (.int p5), .val (.int p6), .val (.int sI), .val (.int oI), .unset, .unset, .unset, .unset, .unset, .unset, .unset, .unset, .unset, .unset, .unset, .unset, .unset, .unset, .unset, .unset, .unset, .unset, .unset, .unset, .unset, .unset, .unset] [(.int ((2 : Int32) + ((XT.ushr p3 (1 : Int32)) &&& (3 : Int32))))]))
  generalize hk_cp : ((2 : Int32) + ((XT.ushr p3 (1 : Int32)) &&& (3 : Int32))) = cp
  show own_Go p e below s _ _ _ (s₁.setTop (mkF m 20 #[.val (.long p1), .second, .val (.long p2), .second, .val (.int p3), .val (.int p4), .val (.int p5), .val (.int p6), .val (.int sI), .val (.int oI), .unset, .unset, .unset, .unset, .unset, .unset, .unset, .unset, .unset, .unset, .unset, .unset, .unset, .unset, .unset, .unset, .unset, .unset, .unset, .unset, .unset, .unset, .unset] [(.int cp)]))
  refine own_st (fun _ kQ => XS.istore X0.here hx rfl (hb hby at_20) rfl (l' := #[.val (.long p1), .second, .val (.long p2), .second, .val (.int p3), .val (.int p4), .val (.int p5), .val (.int p6), .val (.int sI), .val (.int oI), .val (.int cp), .unset, .unset, .unset, .unset, .unset, .unset, .unset, .unset, .unset, .unset, .unset, .unset, .unset, .unset, .unset, .unset, .unset, .unset, .unset, .unset, .unset, .unset]) rfl kQ) ?_
  show own_Go p e below s _ _ _ (s₁.setTop (mkF m 22 #[.val (.long p1), .second, .val (.long p2), .second, .val (.int p3), .val (.int p4), .val (.int p5), .val (.int p6), .val (.int sI), .val (.int oI), .val (.int cp), .unset, .unset, .unset, .unset, .unset, .unset, .unset, .unset, .unset, .unset, .unset, .unset, .unset, .unset, .unset, .unset, .unset, .unset, .unset, .unset, .unset, .unset] []))
  refine own_st (fun _ kQ => XS.iload X0.here hx rfl (hb hby at_22) rfl kQ) ?_
  show own_Go p e below s _ _ _ (s₁.setTop (mkF m 24 #[.val (.long p1), .second, .val (.long p2), .second, .val (.int p3), .val (.int p4), .val (.int p5), .val (.int p6), .val (.int sI), .val (.int oI), .val (.int cp), .unset, .unset, .unset, .unset, .unset, .unset, .unset, .unset, .unset, .unset, .unset, .unset, .unset, .unset, .unset, .unset, .unset, .unset, .unset, .unset, .unset, .unset] [(.int p3)]))
  refine own_st (fun _ kQ => XT.iconstV X0.here hx rfl (3 : Int32) (hb hby at_24) (by decide) kQ) ?_
  show own_Go p e below s _ _ _ (s₁.setTop (mkF m 25 #[.val (.long p1), .second, .val (.long p2), .second, .val (.int p3), .val (.int p4), .val (.int p5), .val (.int p6), .val (.int sI), .val (.int oI), .val (.int cp), .unset, .unset, .unset, .unset, .unset, .unset, .unset, .unset, .unset, .unset, .unset, .unset, .unset, .unset, .unset, .unset, .unset, .unset, .unset, .unset, .unset, .unset] [(.int (3 : Int32)), (.int p3)]))
  refine own_st (fun _ kQ => XT.iushr X0.here hx rfl (hb hby at_25) rfl kQ) ?_
  show own_Go p e below s _ _ _ (s₁.setTop (mkF m 26 #[.val (.long p1), .second, .val (.long p2), .second, .val (.int p3), .val (.int p4), .val (.int p5), .val (.int p6), .val (.int sI), .val (.int oI), .val (.int cp), .unset, .unset, .unset, .unset, .unset, .unset, .unset, .unset, .unset, .unset, .unset, .unset, .unset, .unset, .unset, .unset, .unset, .unset, .unset, .unset, .unset, .unset] [(.int (XT.ushr p3 (3 : Int32)))]))
  refine own_st (fun _ kQ => XT.iconstV X0.here hx rfl (5 : Int32) (hb hby at_26) (by decide) kQ) ?_
  show own_Go p e below s _ _ _ (s₁.setTop (mkF m 27 #[.val (.long p1), .second, .val (.long p2), .second, .val (.int p3), .val (.int p4), .val (.int p5), .val (.int p6), .val (.int sI), .val (.int oI), .val (.int cp), .unset, .unset, .unset, .unset, .unset, .unset, .unset, .unset, .unset, .unset, .unset, .unset, .unset, .unset, .unset, .unset, .unset, .unset, .unset, .unset, .unset, .unset] [(.int (5 : Int32)), (.int (XT.ushr p3 (3 : Int32)))]))
  refine own_st (fun _ kQ => iremM X0 hx rfl (hb hby at_27) rfl (by decide) kQ) ?_
  show own_Go p e below s _ _ _ (s₁.setTop (mkF m 28 #[.val (.long p1), .second, .val (.long p2), .second, .val (.int p3), .val (.int p4), .val (.int p5), .val (.int p6), .val (.int sI), .val (.int oI), .val (.int cp), .unset, .unset, .unset, .unset, .unset, .unset, .unset, .unset, .unset, .unset, .unset, .unset, .unset, .unset, .unset, .unset, .unset, .unset, .unset, .unset, .unset, .unset] [(.int ((XT.ushr p3 (3 : Int32)) % (5 : Int32)))]))
  generalize hk_nn : ((XT.ushr p3 (3 : Int32)) % (5 : Int32)) = nn
  show own_Go p e below s _ _ _ (s₁.setTop (mkF m 28 #[.val (.long p1), .second, .val (.long p2), .second, .val (.int p3), .val (.int p4), .val (.int p5), .val (.int p6), .val (.int sI), .val (.int oI), .val (.int cp), .unset, .unset, .unset, .unset, .unset, .unset, .unset, .unset, .unset, .unset, .unset, .unset, .unset, .unset, .unset, .unset, .unset, .unset, .unset, .unset, .unset, .unset] [(.int nn)]))
  refine own_st (fun _ kQ => XS.istore X0.here hx rfl (hb hby at_28) rfl (l' := #[.val (.long p1), .second, .val (.long p2), .second, .val (.int p3), .val (.int p4), .val (.int p5), .val (.int p6), .val (.int sI), .val (.int oI), .val (.int cp), .val (.int nn), .unset, .unset, .unset, .unset, .unset, .unset, .unset, .unset, .unset, .unset, .unset, .unset, .unset, .unset, .unset, .unset, .unset, .unset, .unset, .unset, .unset]) rfl kQ) ?_
  show own_Go p e below s _ _ _ (s₁.setTop (mkF m 30 #[.val (.long p1), .second, .val (.long p2), .second, .val (.int p3), .val (.int p4), .val (.int p5), .val (.int p6), .val (.int sI), .val (.int oI), .val (.int cp), .val (.int nn), .unset, .unset, .unset, .unset, .unset, .unset, .unset, .unset, .unset, .unset, .unset, .unset, .unset, .unset, .unset, .unset, .unset, .unset, .unset, .unset, .unset] []))
  refine own_st (fun _ kQ => XT.lconstV X0.here hx rfl (1 : Int64) (hb hby at_30) (by decide) kQ) ?_
  show own_Go p e below s _ _ _ (s₁.setTop (mkF m 31 #[.val (.long p1), .second, .val (.long p2), .second, .val (.int p3), .val (.int p4), .val (.int p5), .val (.int p6), .val (.int sI), .val (.int oI), .val (.int cp), .val (.int nn), .unset, .unset, .unset, .unset, .unset, .unset, .unset, .unset, .unset, .unset, .unset, .unset, .unset, .unset, .unset, .unset, .unset, .unset, .unset, .unset, .unset] [(.long (1 : Int64))]))
  refine own_st (fun _ kQ => XS.iload X0.here hx rfl (hb hby at_31) rfl kQ) ?_
  show own_Go p e below s _ _ _ (s₁.setTop (mkF m 33 #[.val (.long p1), .second, .val (.long p2), .second, .val (.int p3), .val (.int p4), .val (.int p5), .val (.int p6), .val (.int sI), .val (.int oI), .val (.int cp), .val (.int nn), .unset, .unset, .unset, .unset, .unset, .unset, .unset, .unset, .unset, .unset, .unset, .unset, .unset, .unset, .unset, .unset, .unset, .unset, .unset, .unset, .unset] [(.int p3), (.long (1 : Int64))]))
  refine own_st (fun _ kQ => XT.bipushV X0.here hx rfl (6 : Int32) (hb hby at_33) (by decide) kQ) ?_
  show own_Go p e below s _ _ _ (s₁.setTop (mkF m 35 #[.val (.long p1), .second, .val (.long p2), .second, .val (.int p3), .val (.int p4), .val (.int p5), .val (.int p6), .val (.int sI), .val (.int oI), .val (.int cp), .val (.int nn), .unset, .unset, .unset, .unset, .unset, .unset, .unset, .unset, .unset, .unset, .unset, .unset, .unset, .unset, .unset, .unset, .unset, .unset, .unset, .unset, .unset] [(.int (6 : Int32)), (.int p3), (.long (1 : Int64))]))
  refine own_st (fun _ kQ => XT.iushr X0.here hx rfl (hb hby at_35) rfl kQ) ?_
  show own_Go p e below s _ _ _ (s₁.setTop (mkF m 36 #[.val (.long p1), .second, .val (.long p2), .second, .val (.int p3), .val (.int p4), .val (.int p5), .val (.int p6), .val (.int sI), .val (.int oI), .val (.int cp), .val (.int nn), .unset, .unset, .unset, .unset, .unset, .unset, .unset, .unset, .unset, .unset, .unset, .unset, .unset, .unset, .unset, .unset, .unset, .unset, .unset, .unset, .unset] [(.int (XT.ushr p3 (6 : Int32))), (.long (1 : Int64))]))
  refine own_st (fun _ kQ => XT.sipushV X0.here hx rfl (511 : Int32) (hb hby at_36) (by decide) kQ) ?_
  show own_Go p e below s _ _ _ (s₁.setTop (mkF m 39 #[.val (.long p1), .second, .val (.long p2), .second, .val (.int p3), .val (.int p4), .val (.int p5), .val (.int p6), .val (.int sI), .val (.int oI), .val (.int cp), .val (.int nn), .unset, .unset, .unset, .unset, .unset, .unset, .unset, .unset, .unset, .unset, .unset, .unset, .unset, .unset, .unset, .unset, .unset, .unset, .unset, .unset, .unset] [(.int (511 : Int32)), (.int (XT.ushr p3 (6 : Int32))), (.long (1 : Int64))]))
  refine own_st (fun _ kQ => XS.iand X0.here hx rfl (hb hby at_39) rfl kQ) ?_
  show own_Go p e below s _ _ _ (s₁.setTop (mkF m 40 #[.val (.long p1), .second, .val (.long p2), .second, .val (.int p3), .val (.int p4), .val (.int p5), .val (.int p6), .val (.int sI), .val (.int oI), .val (.int cp), .val (.int nn), .unset, .unset, .unset, .unset, .unset, .unset, .unset, .unset, .unset, .unset, .unset, .unset, .unset, .unset, .unset, .unset, .unset, .unset, .unset, .unset, .unset] [(.int ((XT.ushr p3 (6 : Int32)) &&& (511 : Int32))), (.long (1 : Int64))]))
  refine own_st (fun _ kQ => XT.i2l X0.here hx rfl (hb hby at_40) rfl kQ) ?_
  show own_Go p e below s _ _ _ (s₁.setTop (mkF m 41 #[.val (.long p1), .second, .val (.long p2), .second, .val (.int p3), .val (.int p4), .val (.int p5), .val (.int p6), .val (.int sI), .val (.int oI), .val (.int cp), .val (.int nn), .unset, .unset, .unset, .unset, .unset, .unset, .unset, .unset, .unset, .unset, .unset, .unset, .unset, .unset, .unset, .unset, .unset, .unset, .unset, .unset, .unset] [(.long (((XT.ushr p3 (6 : Int32)) &&& (511 : Int32)).toInt64)), (.long (1 : Int64))]))
  refine own_st (fun _ kQ => XT.ladd X0.here hx rfl (hb hby at_41) rfl kQ) ?_
  show own_Go p e below s _ _ _ (s₁.setTop (mkF m 42 #[.val (.long p1), .second, .val (.long p2), .second, .val (.int p3), .val (.int p4), .val (.int p5), .val (.int p6), .val (.int sI), .val (.int oI), .val (.int cp), .val (.int nn), .unset, .unset, .unset, .unset, .unset, .unset, .unset, .unset, .unset, .unset, .unset, .unset, .unset, .unset, .unset, .unset, .unset, .unset, .unset, .unset, .unset] [(.long ((1 : Int64) + (((XT.ushr p3 (6 : Int32)) &&& (511 : Int32)).toInt64)))]))
  generalize hk_sp : ((1 : Int64) + (((XT.ushr p3 (6 : Int32)) &&& (511 : Int32)).toInt64)) = sp
  show own_Go p e below s _ _ _ (s₁.setTop (mkF m 42 #[.val (.long p1), .second, .val (.long p2), .second, .val (.int p3), .val (.int p4), .val (.int p5), .val (.int p6), .val (.int sI), .val (.int oI), .val (.int cp), .val (.int nn), .unset, .unset, .unset, .unset, .unset, .unset, .unset, .unset, .unset, .unset, .unset, .unset, .unset, .unset, .unset, .unset, .unset, .unset, .unset, .unset, .unset] [(.long sp)]))
  refine own_st (fun _ kQ => XT.lstore X0.here hx rfl (hb hby at_42) rfl (l' := #[.val (.long p1), .second, .val (.long p2), .second, .val (.int p3), .val (.int p4), .val (.int p5), .val (.int p6), .val (.int sI), .val (.int oI), .val (.int cp), .val (.int nn), .val (.long sp), .second, .unset, .unset, .unset, .unset, .unset, .unset, .unset, .unset, .unset, .unset, .unset, .unset, .unset, .unset, .unset, .unset, .unset, .unset, .unset]) rfl kQ) ?_
  show own_Go p e below s _ _ _ (s₁.setTop (mkF m 44 #[.val (.long p1), .second, .val (.long p2), .second, .val (.int p3), .val (.int p4), .val (.int p5), .val (.int p6), .val (.int sI), .val (.int oI), .val (.int cp), .val (.int nn), .val (.long sp), .second, .unset, .unset, .unset, .unset, .unset, .unset, .unset, .unset, .unset, .unset, .unset, .unset, .unset, .unset, .unset, .unset, .unset, .unset, .unset] []))
  refine own_st (fun _ kQ => XT.lloadN X0.here hx rfl (hb hby at_44) rfl kQ) ?_
  show own_Go p e below s _ _ _ (s₁.setTop (mkF m 45 #[.val (.long p1), .second, .val (.long p2), .second, .val (.int p3), .val (.int p4), .val (.int p5), .val (.int p6), .val (.int sI), .val (.int oI), .val (.int cp), .val (.int nn), .val (.long sp), .second, .unset, .unset, .unset, .unset, .unset, .unset, .unset, .unset, .unset, .unset, .unset, .unset, .unset, .unset, .unset, .unset, .unset, .unset, .unset] [(.long p1)]))
  refine own_st (fun _ kQ => X0.ldc2J hx hown (mvT hZ (hw _ (List.mem_of_getElem? (i := 0) rfl))) rfl (hb hby at_45) kQ) ?_
  show own_Go p e below s _ _ _ (s₁.setTop (mkF m 48 #[.val (.long p1), .second, .val (.long p2), .second, .val (.int p3), .val (.int p4), .val (.int p5), .val (.int p6), .val (.int sI), .val (.int oI), .val (.int cp), .val (.int nn), .val (.long sp), .second, .unset, .unset, .unset, .unset, .unset, .unset, .unset, .unset, .unset, .unset, .unset, .unset, .unset, .unset, .unset, .unset, .unset, .unset, .unset] [(.long (4611686018427387903 : Int64)), (.long p1)]))
  refine own_st (fun _ kQ => XT.land X0.here hx rfl (hb hby at_48) rfl kQ) ?_
  show own_Go p e below s _ _ _ (s₁.setTop (mkF m 49 #[.val (.long p1), .second, .val (.long p2), .second, .val (.int p3), .val (.int p4), .val (.int p5), .val (.int p6), .val (.int sI), .val (.int oI), .val (.int cp), .val (.int nn), .val (.long sp), .second, .unset, .unset, .unset, .unset, .unset, .unset, .unset, .unset, .unset, .unset, .unset, .unset, .unset, .unset, .unset, .unset, .unset, .unset, .unset] [(.long (p1 &&& (4611686018427387903 : Int64)))]))
  generalize hk_ba : (p1 &&& (4611686018427387903 : Int64)) = ba
  show own_Go p e below s _ _ _ (s₁.setTop (mkF m 49 #[.val (.long p1), .second, .val (.long p2), .second, .val (.int p3), .val (.int p4), .val (.int p5), .val (.int p6), .val (.int sI), .val (.int oI), .val (.int cp), .val (.int nn), .val (.long sp), .second, .unset, .unset, .unset, .unset, .unset, .unset, .unset, .unset, .unset, .unset, .unset, .unset, .unset, .unset, .unset, .unset, .unset, .unset, .unset] [(.long ba)]))
  refine own_st (fun _ kQ => XT.lstore X0.here hx rfl (hb hby at_49) rfl (l' := #[.val (.long p1), .second, .val (.long p2), .second, .val (.int p3), .val (.int p4), .val (.int p5), .val (.int p6), .val (.int sI), .val (.int oI), .val (.int cp), .val (.int nn), .val (.long sp), .second, .val (.long ba), .second, .unset, .unset, .unset, .unset, .unset, .unset, .unset, .unset, .unset, .unset, .unset, .unset, .unset, .unset, .unset, .unset, .unset]) rfl kQ) ?_
  show own_Go p e below s _ _ _ (s₁.setTop (mkF m 51 #[.val (.long p1), .second, .val (.long p2), .second, .val (.int p3), .val (.int p4), .val (.int p5), .val (.int p6), .val (.int sI), .val (.int oI), .val (.int cp), .val (.int nn), .val (.long sp), .second, .val (.long ba), .second, .unset, .unset, .unset, .unset, .unset, .unset, .unset, .unset, .unset, .unset, .unset, .unset, .unset, .unset, .unset, .unset, .unset] []))
  refine own_st (fun _ kQ => XT.lload X0.here hx rfl (hb hby at_51) rfl kQ) ?_
  show own_Go p e below s _ _ _ (s₁.setTop (mkF m 53 #[.val (.long p1), .second, .val (.long p2), .second, .val (.int p3), .val (.int p4), .val (.int p5), .val (.int p6), .val (.int sI), .val (.int oI), .val (.int cp), .val (.int nn), .val (.long sp), .second, .val (.long ba), .second, .unset, .unset, .unset, .unset, .unset, .unset, .unset, .unset, .unset, .unset, .unset, .unset, .unset, .unset, .unset, .unset, .unset] [(.long ba)]))
  refine own_st (fun _ kQ => XS.iload X0.here hx rfl (hb hby at_53) rfl kQ) ?_
  show own_Go p e below s _ _ _ (s₁.setTop (mkF m 55 #[.val (.long p1), .second, .val (.long p2), .second, .val (.int p3), .val (.int p4), .val (.int p5), .val (.int p6), .val (.int sI), .val (.int oI), .val (.int cp), .val (.int nn), .val (.long sp), .second, .val (.long ba), .second, .unset, .unset, .unset, .unset, .unset, .unset, .unset, .unset, .unset, .unset, .unset, .unset, .unset, .unset, .unset, .unset, .unset] [(.int p4), (.long ba)]))
  refine own_st (fun _ kQ => XT.sipushV X0.here hx rfl (255 : Int32) (hb hby at_55) (by decide) kQ) ?_
  show own_Go p e below s _ _ _ (s₁.setTop (mkF m 58 #[.val (.long p1), .second, .val (.long p2), .second, .val (.int p3), .val (.int p4), .val (.int p5), .val (.int p6), .val (.int sI), .val (.int oI), .val (.int cp), .val (.int nn), .val (.long sp), .second, .val (.long ba), .second, .unset, .unset, .unset, .unset, .unset, .unset, .unset, .unset, .unset, .unset, .unset, .unset, .unset, .unset, .unset, .unset, .unset] [(.int (255 : Int32)), (.int p4), (.long ba)]))
  refine own_st (fun _ kQ => XS.iand X0.here hx rfl (hb hby at_58) rfl kQ) ?_
  show own_Go p e below s _ _ _ (s₁.setTop (mkF m 59 #[.val (.long p1), .second, .val (.long p2), .second, .val (.int p3), .val (.int p4), .val (.int p5), .val (.int p6), .val (.int sI), .val (.int oI), .val (.int cp), .val (.int nn), .val (.long sp), .second, .val (.long ba), .second, .unset, .unset, .unset, .unset, .unset, .unset, .unset, .unset, .unset, .unset, .unset, .unset, .unset, .unset, .unset, .unset, .unset] [(.int (p4 &&& (255 : Int32))), (.long ba)]))
  refine own_st (fun _ kQ => XT.i2l X0.here hx rfl (hb hby at_59) rfl kQ) ?_
  show own_Go p e below s _ _ _ (s₁.setTop (mkF m 60 #[.val (.long p1), .second, .val (.long p2), .second, .val (.int p3), .val (.int p4), .val (.int p5), .val (.int p6), .val (.int sI), .val (.int oI), .val (.int cp), .val (.int nn), .val (.long sp), .second, .val (.long ba), .second, .unset, .unset, .unset, .unset, .unset, .unset, .unset, .unset, .unset, .unset, .unset, .unset, .unset, .unset, .unset, .unset, .unset] [(.long ((p4 &&& (255 : Int32)).toInt64)), (.long ba)]))
  refine own_st (fun _ kQ => XT.ladd X0.here hx rfl (hb hby at_60) rfl kQ) ?_
  show own_Go p e below s _ _ _ (s₁.setTop (mkF m 61 #[.val (.long p1), .second, .val (.long p2), .second, .val (.int p3), .val (.int p4), .val (.int p5), .val (.int p6), .val (.int sI), .val (.int oI), .val (.int cp), .val (.int nn), .val (.long sp), .second, .val (.long ba), .second, .unset, .unset, .unset, .unset, .unset, .unset, .unset, .unset, .unset, .unset, .unset, .unset, .unset, .unset, .unset, .unset, .unset] [(.long (ba + ((p4 &&& (255 : Int32)).toInt64)))]))
  generalize hk_q2 : (ba + ((p4 &&& (255 : Int32)).toInt64)) = q2
  show own_Go p e below s _ _ _ (s₁.setTop (mkF m 61 #[.val (.long p1), .second, .val (.long p2), .second, .val (.int p3), .val (.int p4), .val (.int p5), .val (.int p6), .val (.int sI), .val (.int oI), .val (.int cp), .val (.int nn), .val (.long sp), .second, .val (.long ba), .second, .unset, .unset, .unset, .unset, .unset, .unset, .unset, .unset, .unset, .unset, .unset, .unset, .unset, .unset, .unset, .unset, .unset] [(.long q2)]))
  refine own_st (fun _ kQ => XT.lstore X0.here hx rfl (hb hby at_61) rfl (l' := #[.val (.long p1), .second, .val (.long p2), .second, .val (.int p3), .val (.int p4), .val (.int p5), .val (.int p6), .val (.int sI), .val (.int oI), .val (.int cp), .val (.int nn), .val (.long sp), .second, .val (.long ba), .second, .val (.long q2), .second, .unset, .unset, .unset, .unset, .unset, .unset, .unset, .unset, .unset, .unset, .unset, .unset, .unset, .unset, .unset]) rfl kQ) ?_
  show own_Go p e below s _ _ _ (s₁.setTop (mkF m 63 #[.val (.long p1), .second, .val (.long p2), .second, .val (.int p3), .val (.int p4), .val (.int p5), .val (.int p6), .val (.int sI), .val (.int oI), .val (.int cp), .val (.int nn), .val (.long sp), .second, .val (.long ba), .second, .val (.long q2), .second, .unset, .unset, .unset, .unset, .unset, .unset, .unset, .unset, .unset, .unset, .unset, .unset, .unset, .unset, .unset] []))
  refine own_st (fun _ kQ => XT.lload X0.here hx rfl (hb hby at_63) rfl kQ) ?_
  show own_Go p e below s _ _ _ (s₁.setTop (mkF m 65 #[.val (.long p1), .second, .val (.long p2), .second, .val (.int p3), .val (.int p4), .val (.int p5), .val (.int p6), .val (.int sI), .val (.int oI), .val (.int cp), .val (.int nn), .val (.long sp), .second, .val (.long ba), .second, .val (.long q2), .second, .unset, .unset, .unset, .unset, .unset, .unset, .unset, .unset, .unset, .unset, .unset, .unset, .unset, .unset, .unset] [(.long q2)]))
  refine own_st (fun _ kQ => XS.iload X0.here hx rfl (hb hby at_65) rfl kQ) ?_
  show own_Go p e below s _ _ _ (s₁.setTop (mkF m 67 #[.val (.long p1), .second, .val (.long p2), .second, .val (.int p3), .val (.int p4), .val (.int p5), .val (.int p6), .val (.int sI), .val (.int oI), .val (.int cp), .val (.int nn), .val (.long sp), .second, .val (.long ba), .second, .val (.long q2), .second, .unset, .unset, .unset, .unset, .unset, .unset, .unset, .unset, .unset, .unset, .unset, .unset, .unset, .unset, .unset] [(.int p4), (.long q2)]))
  refine own_st (fun _ kQ => XT.bipushV X0.here hx rfl (8 : Int32) (hb hby at_67) (by decide) kQ) ?_
  show own_Go p e below s _ _ _ (s₁.setTop (mkF m 69 #[.val (.long p1), .second, .val (.long p2), .second, .val (.int p3), .val (.int p4), .val (.int p5), .val (.int p6), .val (.int sI), .val (.int oI), .val (.int cp), .val (.int nn), .val (.long sp), .second, .val (.long ba), .second, .val (.long q2), .second, .unset, .unset, .unset, .unset, .unset, .unset, .unset, .unset, .unset, .unset, .unset, .unset, .unset, .unset, .unset] [(.int (8 : Int32)), (.int p4), (.long q2)]))
  refine own_st (fun _ kQ => XT.iushr X0.here hx rfl (hb hby at_69) rfl kQ) ?_
  show own_Go p e below s _ _ _ (s₁.setTop (mkF m 70 #[.val (.long p1), .second, .val (.long p2), .second, .val (.int p3), .val (.int p4), .val (.int p5), .val (.int p6), .val (.int sI), .val (.int oI), .val (.int cp), .val (.int nn), .val (.long sp), .second, .val (.long ba), .second, .val (.long q2), .second, .unset, .unset, .unset, .unset, .unset, .unset, .unset, .unset, .unset, .unset, .unset, .unset, .unset, .unset, .unset] [(.int (XT.ushr p4 (8 : Int32))), (.long q2)]))
  refine own_st (fun _ kQ => XT.sipushV X0.here hx rfl (255 : Int32) (hb hby at_70) (by decide) kQ) ?_
  show own_Go p e below s _ _ _ (s₁.setTop (mkF m 73 #[.val (.long p1), .second, .val (.long p2), .second, .val (.int p3), .val (.int p4), .val (.int p5), .val (.int p6), .val (.int sI), .val (.int oI), .val (.int cp), .val (.int nn), .val (.long sp), .second, .val (.long ba), .second, .val (.long q2), .second, .unset, .unset, .unset, .unset, .unset, .unset, .unset, .unset, .unset, .unset, .unset, .unset, .unset, .unset, .unset] [(.int (255 : Int32)), (.int (XT.ushr p4 (8 : Int32))), (.long q2)]))
  refine own_st (fun _ kQ => XS.iand X0.here hx rfl (hb hby at_73) rfl kQ) ?_
  show own_Go p e below s _ _ _ (s₁.setTop (mkF m 74 #[.val (.long p1), .second, .val (.long p2), .second, .val (.int p3), .val (.int p4), .val (.int p5), .val (.int p6), .val (.int sI), .val (.int oI), .val (.int cp), .val (.int nn), .val (.long sp), .second, .val (.long ba), .second, .val (.long q2), .second, .unset, .unset, .unset, .unset, .unset, .unset, .unset, .unset, .unset, .unset, .unset, .unset, .unset, .unset, .unset] [(.int ((XT.ushr p4 (8 : Int32)) &&& (255 : Int32))), (.long q2)]))
  refine own_st (fun _ kQ => XT.i2l X0.here hx rfl (hb hby at_74) rfl kQ) ?_
  show own_Go p e below s _ _ _ (s₁.setTop (mkF m 75 #[.val (.long p1), .second, .val (.long p2), .second, .val (.int p3), .val (.int p4), .val (.int p5), .val (.int p6), .val (.int sI), .val (.int oI), .val (.int cp), .val (.int nn), .val (.long sp), .second, .val (.long ba), .second, .val (.long q2), .second, .unset, .unset, .unset, .unset, .unset, .unset, .unset, .unset, .unset, .unset, .unset, .unset, .unset, .unset, .unset] [(.long (((XT.ushr p4 (8 : Int32)) &&& (255 : Int32)).toInt64)), (.long q2)]))
  refine own_st (fun _ kQ => XT.ladd X0.here hx rfl (hb hby at_75) rfl kQ) ?_
  show own_Go p e below s _ _ _ (s₁.setTop (mkF m 76 #[.val (.long p1), .second, .val (.long p2), .second, .val (.int p3), .val (.int p4), .val (.int p5), .val (.int p6), .val (.int sI), .val (.int oI), .val (.int cp), .val (.int nn), .val (.long sp), .second, .val (.long ba), .second, .val (.long q2), .second, .unset, .unset, .unset, .unset, .unset, .unset, .unset, .unset, .unset, .unset, .unset, .unset, .unset, .unset, .unset] [(.long (q2 + (((XT.ushr p4 (8 : Int32)) &&& (255 : Int32)).toInt64)))]))
  generalize hk_q3 : (q2 + (((XT.ushr p4 (8 : Int32)) &&& (255 : Int32)).toInt64)) = q3
  show own_Go p e below s _ _ _ (s₁.setTop (mkF m 76 #[.val (.long p1), .second, .val (.long p2), .second, .val (.int p3), .val (.int p4), .val (.int p5), .val (.int p6), .val (.int sI), .val (.int oI), .val (.int cp), .val (.int nn), .val (.long sp), .second, .val (.long ba), .second, .val (.long q2), .second, .unset, .unset, .unset, .unset, .unset, .unset, .unset, .unset, .unset, .unset, .unset, .unset, .unset, .unset, .unset] [(.long q3)]))
  refine own_st (fun _ kQ => XT.lstore X0.here hx rfl (hb hby at_76) rfl (l' := #[.val (.long p1), .second, .val (.long p2), .second, .val (.int p3), .val (.int p4), .val (.int p5), .val (.int p6), .val (.int sI), .val (.int oI), .val (.int cp), .val (.int nn), .val (.long sp), .second, .val (.long ba), .second, .val (.long q2), .second, .val (.long q3), .second, .unset, .unset, .unset, .unset, .unset, .unset, .unset, .unset, .unset, .unset, .unset, .unset, .unset]) rfl kQ) ?_
  show own_Go p e below s _ _ _ (s₁.setTop (mkF m 78 #[.val (.long p1), .second, .val (.long p2), .second, .val (.int p3), .val (.int p4), .val (.int p5), .val (.int p6), .val (.int sI), .val (.int oI), .val (.int cp), .val (.int nn), .val (.long sp), .second, .val (.long ba), .second, .val (.long q2), .second, .val (.long q3), .second, .unset, .unset, .unset, .unset, .unset, .unset, .unset, .unset, .unset, .unset, .unset, .unset, .unset] []))
  refine own_st (fun _ kQ => XT.lload X0.here hx rfl (hb hby at_78) rfl kQ) ?_
  show own_Go p e below s _ _ _ (s₁.setTop (mkF m 80 #[.val (.long p1), .second, .val (.long p2), .second, .val (.int p3), .val (.int p4), .val (.int p5), .val (.int p6), .val (.int sI), .val (.int oI), .val (.int cp), .val (.int nn), .val (.long sp), .second, .val (.long ba), .second, .val (.long q2), .second, .val (.long q3), .second, .unset, .unset, .unset, .unset, .unset, .unset, .unset, .unset, .unset, .unset, .unset, .unset, .unset] [(.long q3)]))
  refine own_st (fun _ kQ => XS.iload X0.here hx rfl (hb hby at_80) rfl kQ) ?_
  show own_Go p e below s _ _ _ (s₁.setTop (mkF m 82 #[.val (.long p1), .second, .val (.long p2), .second, .val (.int p3), .val (.int p4), .val (.int p5), .val (.int p6), .val (.int sI), .val (.int oI), .val (.int cp), .val (.int nn), .val (.long sp), .second, .val (.long ba), .second, .val (.long q2), .second, .val (.long q3), .second, .unset, .unset, .unset, .unset, .unset, .unset, .unset, .unset, .unset, .unset, .unset, .unset, .unset] [(.int p4), (.long q3)]))
  refine own_st (fun _ kQ => XT.bipushV X0.here hx rfl (16 : Int32) (hb hby at_82) (by decide) kQ) ?_
  show own_Go p e below s _ _ _ (s₁.setTop (mkF m 84 #[.val (.long p1), .second, .val (.long p2), .second, .val (.int p3), .val (.int p4), .val (.int p5), .val (.int p6), .val (.int sI), .val (.int oI), .val (.int cp), .val (.int nn), .val (.long sp), .second, .val (.long ba), .second, .val (.long q2), .second, .val (.long q3), .second, .unset, .unset, .unset, .unset, .unset, .unset, .unset, .unset, .unset, .unset, .unset, .unset, .unset] [(.int (16 : Int32)), (.int p4), (.long q3)]))
  refine own_st (fun _ kQ => XT.iushr X0.here hx rfl (hb hby at_84) rfl kQ) ?_
  show own_Go p e below s _ _ _ (s₁.setTop (mkF m 85 #[.val (.long p1), .second, .val (.long p2), .second, .val (.int p3), .val (.int p4), .val (.int p5), .val (.int p6), .val (.int sI), .val (.int oI), .val (.int cp), .val (.int nn), .val (.long sp), .second, .val (.long ba), .second, .val (.long q2), .second, .val (.long q3), .second, .unset, .unset, .unset, .unset, .unset, .unset, .unset, .unset, .unset, .unset, .unset, .unset, .unset] [(.int (XT.ushr p4 (16 : Int32))), (.long q3)]))
  refine own_st (fun _ kQ => XT.sipushV X0.here hx rfl (255 : Int32) (hb hby at_85) (by decide) kQ) ?_
  show own_Go p e below s _ _ _ (s₁.setTop (mkF m 88 #[.val (.long p1), .second, .val (.long p2), .second, .val (.int p3), .val (.int p4), .val (.int p5), .val (.int p6), .val (.int sI), .val (.int oI), .val (.int cp), .val (.int nn), .val (.long sp), .second, .val (.long ba), .second, .val (.long q2), .second, .val (.long q3), .second, .unset, .unset, .unset, .unset, .unset, .unset, .unset, .unset, .unset, .unset, .unset, .unset, .unset] [(.int (255 : Int32)), (.int (XT.ushr p4 (16 : Int32))), (.long q3)]))
  refine own_st (fun _ kQ => XS.iand X0.here hx rfl (hb hby at_88) rfl kQ) ?_
  show own_Go p e below s _ _ _ (s₁.setTop (mkF m 89 #[.val (.long p1), .second, .val (.long p2), .second, .val (.int p3), .val (.int p4), .val (.int p5), .val (.int p6), .val (.int sI), .val (.int oI), .val (.int cp), .val (.int nn), .val (.long sp), .second, .val (.long ba), .second, .val (.long q2), .second, .val (.long q3), .second, .unset, .unset, .unset, .unset, .unset, .unset, .unset, .unset, .unset, .unset, .unset, .unset, .unset] [(.int ((XT.ushr p4 (16 : Int32)) &&& (255 : Int32))), (.long q3)]))
  refine own_st (fun _ kQ => XT.i2l X0.here hx rfl (hb hby at_89) rfl kQ) ?_
  show own_Go p e below s _ _ _ (s₁.setTop (mkF m 90 #[.val (.long p1), .second, .val (.long p2), .second, .val (.int p3), .val (.int p4), .val (.int p5), .val (.int p6), .val (.int sI), .val (.int oI), .val (.int cp), .val (.int nn), .val (.long sp), .second, .val (.long ba), .second, .val (.long q2), .second, .val (.long q3), .second, .unset, .unset, .unset, .unset, .unset, .unset, .unset, .unset, .unset, .unset, .unset, .unset, .unset] [(.long (((XT.ushr p4 (16 : Int32)) &&& (255 : Int32)).toInt64)), (.long q3)]))
  refine own_st (fun _ kQ => XT.ladd X0.here hx rfl (hb hby at_90) rfl kQ) ?_
  show own_Go p e below s _ _ _ (s₁.setTop (mkF m 91 #[.val (.long p1), .second, .val (.long p2), .second, .val (.int p3), .val (.int p4), .val (.int p5), .val (.int p6), .val (.int sI), .val (.int oI), .val (.int cp), .val (.int nn), .val (.long sp), .second, .val (.long ba), .second, .val (.long q2), .second, .val (.long q3), .second, .unset, .unset, .unset, .unset, .unset, .unset, .unset, .unset, .unset, .unset, .unset, .unset, .unset] [(.long (q3 + (((XT.ushr p4 (16 : Int32)) &&& (255 : Int32)).toInt64)))]))
  generalize hk_q4 : (q3 + (((XT.ushr p4 (16 : Int32)) &&& (255 : Int32)).toInt64)) = q4
  show own_Go p e below s _ _ _ (s₁.setTop (mkF m 91 #[.val (.long p1), .second, .val (.long p2), .second, .val (.int p3), .val (.int p4), .val (.int p5), .val (.int p6), .val (.int sI), .val (.int oI), .val (.int cp), .val (.int nn), .val (.long sp), .second, .val (.long ba), .second, .val (.long q2), .second, .val (.long q3), .second, .unset, .unset, .unset, .unset, .unset, .unset, .unset, .unset, .unset, .unset, .unset, .unset, .unset] [(.long q4)]))
  refine own_st (fun _ kQ => XT.lstore X0.here hx rfl (hb hby at_91) rfl (l' := #[.val (.long p1), .second, .val (.long p2), .second, .val (.int p3), .val (.int p4), .val (.int p5), .val (.int p6), .val (.int sI), .val (.int oI), .val (.int cp), .val (.int nn), .val (.long sp), .second, .val (.long ba), .second, .val (.long q2), .second, .val (.long q3), .second, .val (.long q4), .second, .unset, .unset, .unset, .unset, .unset, .unset, .unset, .unset, .unset, .unset, .unset]) rfl kQ) ?_
  show own_Go p e below s _ _ _ (s₁.setTop (mkF m 93 #[.val (.long p1), .second, .val (.long p2), .second, .val (.int p3), .val (.int p4), .val (.int p5), .val (.int p6), .val (.int sI), .val (.int oI), .val (.int cp), .val (.int nn), .val (.long sp), .second, .val (.long ba), .second, .val (.long q2), .second, .val (.long q3), .second, .val (.long q4), .second, .unset, .unset, .unset, .unset, .unset, .unset, .unset, .unset, .unset, .unset, .unset] []))
  refine own_st (fun _ kQ => XT.lloadN X0.here hx rfl (hb hby at_93) rfl kQ) ?_
  show own_Go p e below s _ _ _ (s₁.setTop (mkF m 94 #[.val (.long p1), .second, .val (.long p2), .second, .val (.int p3), .val (.int p4), .val (.int p5), .val (.int p6), .val (.int sI), .val (.int oI), .val (.int cp), .val (.int nn), .val (.long sp), .second, .val (.long ba), .second, .val (.long q2), .second, .val (.long q3), .second, .val (.long q4), .second, .unset, .unset, .unset, .unset, .unset, .unset, .unset, .unset, .unset, .unset, .unset] [(.long p2)]))
  refine own_st (fun _ kQ => X0.ldc2J hx hown (mvT hZ (hw _ (List.mem_of_getElem? (i := 0) rfl))) rfl (hb hby at_94) kQ) ?_
  show own_Go p e below s _ _ _ (s₁.setTop (mkF m 97 #[.val (.long p1), .second, .val (.long p2), .second, .val (.int p3), .val (.int p4), .val (.int p5), .val (.int p6), .val (.int sI), .val (.int oI), .val (.int cp), .val (.int nn), .val (.long sp), .second, .val (.long ba), .second, .val (.long q2), .second, .val (.long q3), .second, .val (.long q4), .second, .unset, .unset, .unset, .unset, .unset, .unset, .unset, .unset, .unset, .unset, .unset] [(.long (4611686018427387903 : Int64)), (.long p2)]))
  refine own_st (fun _ kQ => XT.land X0.here hx rfl (hb hby at_97) rfl kQ) ?_
  show own_Go p e below s _ _ _ (s₁.setTop (mkF m 98 #[.val (.long p1), .second, .val (.long p2), .second, .val (.int p3), .val (.int p4), .val (.int p5), .val (.int p6), .val (.int sI), .val (.int oI), .val (.int cp), .val (.int nn), .val (.long sp), .second, .val (.long ba), .second, .val (.long q2), .second, .val (.long q3), .second, .val (.long q4), .second, .unset, .unset, .unset, .unset, .unset, .unset, .unset, .unset, .unset, .unset, .unset] [(.long (p2 &&& (4611686018427387903 : Int64)))]))
  generalize hk_tt : (p2 &&& (4611686018427387903 : Int64)) = tt
  show own_Go p e below s _ _ _ (s₁.setTop (mkF m 98 #[.val (.long p1), .second, .val (.long p2), .second, .val (.int p3), .val (.int p4), .val (.int p5), .val (.int p6), .val (.int sI), .val (.int oI), .val (.int cp), .val (.int nn), .val (.long sp), .second, .val (.long ba), .second, .val (.long q2), .second, .val (.long q3), .second, .val (.long q4), .second, .unset, .unset, .unset, .unset, .unset, .unset, .unset, .unset, .unset, .unset, .unset] [(.long tt)]))
  refine own_st (fun _ kQ => XT.lstore X0.here hx rfl (hb hby at_98) rfl (l' := #[.val (.long p1), .second, .val (.long p2), .second, .val (.int p3), .val (.int p4), .val (.int p5), .val (.int p6), .val (.int sI), .val (.int oI), .val (.int cp), .val (.int nn), .val (.long sp), .second, .val (.long ba), .second, .val (.long q2), .second, .val (.long q3), .second, .val (.long q4), .second, .val (.long tt), .second, .unset, .unset, .unset, .unset, .unset, .unset, .unset, .unset, .unset]) rfl kQ) ?_
  show own_Go p e below s _ _ _ (s₁.setTop (mkF m 100 #[.val (.long p1), .second, .val (.long p2), .second, .val (.int p3), .val (.int p4), .val (.int p5), .val (.int p6), .val (.int sI), .val (.int oI), .val (.int cp), .val (.int nn), .val (.long sp), .second, .val (.long ba), .second, .val (.long q2), .second, .val (.long q3), .second, .val (.long q4), .second, .val (.long tt), .second, .unset, .unset, .unset, .unset, .unset, .unset, .unset, .unset, .unset] []))
  refine own_st (fun _ kQ => XS.iload X0.here hx rfl (hb hby at_100) rfl kQ) ?_
  show own_Go p e below s _ _ _ (s₁.setTop (mkF m 102 #[.val (.long p1), .second, .val (.long p2), .second, .val (.int p3), .val (.int p4), .val (.int p5), .val (.int p6), .val (.int sI), .val (.int oI), .val (.int cp), .val (.int nn), .val (.long sp), .second, .val (.long ba), .second, .val (.long q2), .second, .val (.long q3), .second, .val (.long q4), .second, .val (.long tt), .second, .unset, .unset, .unset, .unset, .unset, .unset, .unset, .unset, .unset] [(.int p5)]))
  refine own_st (fun _ kQ => XT.sipushV X0.here hx rfl (1023 : Int32) (hb hby at_102) (by decide) kQ) ?_
  show own_Go p e below s _ _ _ (s₁.setTop (mkF m 105 #[.val (.long p1), .second, .val (.long p2), .second, .val (.int p3), .val (.int p4), .val (.int p5), .val (.int p6), .val (.int sI), .val (.int oI), .val (.int cp), .val (.int nn), .val (.long sp), .second, .val (.long ba), .second, .val (.long q2), .second, .val (.long q3), .second, .val (.long q4), .second, .val (.long tt), .second, .unset, .unset, .unset, .unset, .unset, .unset, .unset, .unset, .unset] [(.int (1023 : Int32)), (.int p5)]))
  refine own_st (fun _ kQ => XS.iand X0.here hx rfl (hb hby at_105) rfl kQ) ?_
  show own_Go p e below s _ _ _ (s₁.setTop (mkF m 106 #[.val (.long p1), .second, .val (.long p2), .second, .val (.int p3), .val (.int p4), .val (.int p5), .val (.int p6), .val (.int sI), .val (.int oI), .val (.int cp), .val (.int nn), .val (.long sp), .second, .val (.long ba), .second, .val (.long q2), .second, .val (.long q3), .second, .val (.long q4), .second, .val (.long tt), .second, .unset, .unset, .unset, .unset, .unset, .unset, .unset, .unset, .unset] [(.int (p5 &&& (1023 : Int32)))]))
  refine own_st (fun _ kQ => XT.i2l X0.here hx rfl (hb hby at_106) rfl kQ) ?_
  show own_Go p e below s _ _ _ (s₁.setTop (mkF m 107 #[.val (.long p1), .second, .val (.long p2), .second, .val (.int p3), .val (.int p4), .val (.int p5), .val (.int p6), .val (.int sI), .val (.int oI), .val (.int cp), .val (.int nn), .val (.long sp), .second, .val (.long ba), .second, .val (.long q2), .second, .val (.long q3), .second, .val (.long q4), .second, .val (.long tt), .second, .unset, .unset, .unset, .unset, .unset, .unset, .unset, .unset, .unset] [(.long ((p5 &&& (1023 : Int32)).toInt64))]))
  generalize hk_dd : ((p5 &&& (1023 : Int32)).toInt64) = dd
  show own_Go p e below s _ _ _ (s₁.setTop (mkF m 107 #[.val (.long p1), .second, .val (.long p2), .second, .val (.int p3), .val (.int p4), .val (.int p5), .val (.int p6), .val (.int sI), .val (.int oI), .val (.int cp), .val (.int nn), .val (.long sp), .second, .val (.long ba), .second, .val (.long q2), .second, .val (.long q3), .second, .val (.long q4), .second, .val (.long tt), .second, .unset, .unset, .unset, .unset, .unset, .unset, .unset, .unset, .unset] [(.long dd)]))
  refine own_st (fun _ kQ => XT.lstore X0.here hx rfl (hb hby at_107) rfl (l' := #[.val (.long p1), .second, .val (.long p2), .second, .val (.int p3), .val (.int p4), .val (.int p5), .val (.int p6), .val (.int sI), .val (.int oI), .val (.int cp), .val (.int nn), .val (.long sp), .second, .val (.long ba), .second, .val (.long q2), .second, .val (.long q3), .second, .val (.long q4), .second, .val (.long tt), .second, .val (.long dd), .second, .unset, .unset, .unset, .unset, .unset, .unset, .unset]) rfl kQ) ?_
  show own_Go p e below s _ _ _ (s₁.setTop (mkF m 109 #[.val (.long p1), .second, .val (.long p2), .second, .val (.int p3), .val (.int p4), .val (.int p5), .val (.int p6), .val (.int sI), .val (.int oI), .val (.int cp), .val (.int nn), .val (.long sp), .second, .val (.long ba), .second, .val (.long q2), .second, .val (.long q3), .second, .val (.long q4), .second, .val (.long tt), .second, .val (.long dd), .second, .unset, .unset, .unset, .unset, .unset, .unset, .unset] []))
  refine own_st (fun _ kQ => XT.lload X0.here hx rfl (hb hby at_109) rfl kQ) ?_
  show own_Go p e below s _ _ _ (s₁.setTop (mkF m 111 #[.val (.long p1), .second, .val (.long p2), .second, .val (.int p3), .val (.int p4), .val (.int p5), .val (.int p6), .val (.int sI), .val (.int oI), .val (.int cp), .val (.int nn), .val (.long sp), .second, .val (.long ba), .second, .val (.long q2), .second, .val (.long q3), .second, .val (.long q4), .second, .val (.long tt), .second, .val (.long dd), .second, .unset, .unset, .unset, .unset, .unset, .unset, .unset] [(.long tt)]))
  refine own_st (fun _ kQ => XT.lload X0.here hx rfl (hb hby at_111) rfl kQ) ?_
  show own_Go p e below s _ _ _ (s₁.setTop (mkF m 113 #[.val (.long p1), .second, .val (.long p2), .second, .val (.int p3), .val (.int p4), .val (.int p5), .val (.int p6), .val (.int sI), .val (.int oI), .val (.int cp), .val (.int nn), .val (.long sp), .second, .val (.long ba), .second, .val (.long q2), .second, .val (.long q3), .second, .val (.long q4), .second, .val (.long tt), .second, .val (.long dd), .second, .unset, .unset, .unset, .unset, .unset, .unset, .unset] [(.long dd), (.long tt)]))
  refine own_st (fun _ kQ => XT.ladd X0.here hx rfl (hb hby at_113) rfl kQ) ?_
  show own_Go p e below s _ _ _ (s₁.setTop (mkF m 114 #[.val (.long p1), .second, .val (.long p2), .second, .val (.int p3), .val (.int p4), .val (.int p5), .val (.int p6), .val (.int sI), .val (.int oI), .val (.int cp), .val (.int nn), .val (.long sp), .second, .val (.long ba), .second, .val (.long q2), .second, .val (.long q3), .second, .val (.long q4), .second, .val (.long tt), .second, .val (.long dd), .second, .unset, .unset, .unset, .unset, .unset, .unset, .unset] [(.long (tt + dd))]))
  generalize hk_t2 : (tt + dd) = t2
  show own_Go p e below s _ _ _ (s₁.setTop (mkF m 114 #[.val (.long p1), .second, .val (.long p2), .second, .val (.int p3), .val (.int p4), .val (.int p5), .val (.int p6), .val (.int sI), .val (.int oI), .val (.int cp), .val (.int nn), .val (.long sp), .second, .val (.long ba), .second, .val (.long q2), .second, .val (.long q3), .second, .val (.long q4), .second, .val (.long tt), .second, .val (.long dd), .second, .unset, .unset, .unset, .unset, .unset, .unset, .unset] [(.long t2)]))
  refine own_st (fun _ kQ => XT.lstore X0.here hx rfl (hb hby at_114) rfl (l' := #[.val (.long p1), .second, .val (.long p2), .second, .val (.int p3), .val (.int p4), .val (.int p5), .val (.int p6), .val (.int sI), .val (.int oI), .val (.int cp), .val (.int nn), .val (.long sp), .second, .val (.long ba), .second, .val (.long q2), .second, .val (.long q3), .second, .val (.long q4), .second, .val (.long tt), .second, .val (.long dd), .second, .val (.long t2), .second, .unset, .unset, .unset, .unset, .unset]) rfl kQ) ?_
  show own_Go p e below s _ _ _ (s₁.setTop (mkF m 116 #[.val (.long p1), .second, .val (.long p2), .second, .val (.int p3), .val (.int p4), .val (.int p5), .val (.int p6), .val (.int sI), .val (.int oI), .val (.int cp), .val (.int nn), .val (.long sp), .second, .val (.long ba), .second, .val (.long q2), .second, .val (.long q3), .second, .val (.long q4), .second, .val (.long tt), .second, .val (.long dd), .second, .val (.long t2), .second, .unset, .unset, .unset, .unset, .unset] []))
  refine own_st (fun _ kQ => XS.iload X0.here hx rfl (hb hby at_116) rfl kQ) ?_
  show own_Go p e below s _ _ _ (s₁.setTop (mkF m 118 #[.val (.long p1), .second, .val (.long p2), .second, .val (.int p3), .val (.int p4), .val (.int p5), .val (.int p6), .val (.int sI), .val (.int oI), .val (.int cp), .val (.int nn), .val (.long sp), .second, .val (.long ba), .second, .val (.long q2), .second, .val (.long q3), .second, .val (.long q4), .second, .val (.long tt), .second, .val (.long dd), .second, .val (.long t2), .second, .unset, .unset, .unset, .unset, .unset] [(.int p6)]))
  refine own_st (fun _ kQ => XT.sipushV X0.here hx rfl (2047 : Int32) (hb hby at_118) (by decide) kQ) ?_
  show own_Go p e below s _ _ _ (s₁.setTop (mkF m 121 #[.val (.long p1), .second, .val (.long p2), .second, .val (.int p3), .val (.int p4), .val (.int p5), .val (.int p6), .val (.int sI), .val (.int oI), .val (.int cp), .val (.int nn), .val (.long sp), .second, .val (.long ba), .second, .val (.long q2), .second, .val (.long q3), .second, .val (.long q4), .second, .val (.long tt), .second, .val (.long dd), .second, .val (.long t2), .second, .unset, .unset, .unset, .unset, .unset] [(.int (2047 : Int32)), (.int p6)]))
  refine own_st (fun _ kQ => XS.iand X0.here hx rfl (hb hby at_121) rfl kQ) ?_
  show own_Go p e below s _ _ _ (s₁.setTop (mkF m 122 #[.val (.long p1), .second, .val (.long p2), .second, .val (.int p3), .val (.int p4), .val (.int p5), .val (.int p6), .val (.int sI), .val (.int oI), .val (.int cp), .val (.int nn), .val (.long sp), .second, .val (.long ba), .second, .val (.long q2), .second, .val (.long q3), .second, .val (.long q4), .second, .val (.long tt), .second, .val (.long dd), .second, .val (.long t2), .second, .unset, .unset, .unset, .unset, .unset] [(.int (p6 &&& (2047 : Int32)))]))
  refine own_st (fun _ kQ => XT.i2l X0.here hx rfl (hb hby at_122) rfl kQ) ?_
  show own_Go p e below s _ _ _ (s₁.setTop (mkF m 123 #[.val (.long p1), .second, .val (.long p2), .second, .val (.int p3), .val (.int p4), .val (.int p5), .val (.int p6), .val (.int sI), .val (.int oI), .val (.int cp), .val (.int nn), .val (.long sp), .second, .val (.long ba), .second, .val (.long q2), .second, .val (.long q3), .second, .val (.long q4), .second, .val (.long tt), .second, .val (.long dd), .second, .val (.long t2), .second, .unset, .unset, .unset, .unset, .unset] [(.long ((p6 &&& (2047 : Int32)).toInt64))]))
  generalize hk_ww : ((p6 &&& (2047 : Int32)).toInt64) = ww
  show own_Go p e below s _ _ _ (s₁.setTop (mkF m 123 #[.val (.long p1), .second, .val (.long p2), .second, .val (.int p3), .val (.int p4), .val (.int p5), .val (.int p6), .val (.int sI), .val (.int oI), .val (.int cp), .val (.int nn), .val (.long sp), .second, .val (.long ba), .second, .val (.long q2), .second, .val (.long q3), .second, .val (.long q4), .second, .val (.long tt), .second, .val (.long dd), .second, .val (.long t2), .second, .unset, .unset, .unset, .unset, .unset] [(.long ww)]))
  refine own_st (fun _ kQ => XT.lstore X0.here hx rfl (hb hby at_123) rfl (l' := #[.val (.long p1), .second, .val (.long p2), .second, .val (.int p3), .val (.int p4), .val (.int p5), .val (.int p6), .val (.int sI), .val (.int oI), .val (.int cp), .val (.int nn), .val (.long sp), .second, .val (.long ba), .second, .val (.long q2), .second, .val (.long q3), .second, .val (.long q4), .second, .val (.long tt), .second, .val (.long dd), .second, .val (.long t2), .second, .val (.long ww), .second, .unset, .unset, .unset]) rfl kQ) ?_
  show own_Go p e below s _ _ _ (s₁.setTop (mkF m 125 #[.val (.long p1), .second, .val (.long p2), .second, .val (.int p3), .val (.int p4), .val (.int p5), .val (.int p6), .val (.int sI), .val (.int oI), .val (.int cp), .val (.int nn), .val (.long sp), .second, .val (.long ba), .second, .val (.long q2), .second, .val (.long q3), .second, .val (.long q4), .second, .val (.long tt), .second, .val (.long dd), .second, .val (.long t2), .second, .val (.long ww), .second, .unset, .unset, .unset] []))
  obtain ⟨i, j, hi, hj, hij, hji⟩ := own_so p3 hk_sI hk_oI
  have hcp := own_capm p3 hk_cp
  have hnum := own_nums p2 p3 p5 p6 hk_sp hk_tt hk_dd hk_t2 hk_ww
  obtain ⟨T707, h707, X707, e707, E707, A707, D707, -, st707⟩ := newO X0 hx hZ hown (hw _ (List.mem_of_getElem? (i := 1) rfl)) (hw _ (List.mem_of_getElem? (i := 2) rfl)) (hw _ (List.mem_of_getElem? (i := 3) rfl)) e0 (g := (mkF m 125 #[.val (.long p1), .second, .val (.long p2), .second, .val (.int p3), .val (.int p4), .val (.int p5), .val (.int p6), .val (.int sI), .val (.int oI), .val (.int cp), .val (.int nn), .val (.long sp), .second, .val (.long ba), .second, .val (.long q2), .second, .val (.long q3), .second, .val (.long q4), .second, .val (.long tt), .second, .val (.long dd), .second, .val (.long t2), .second, .val (.long ww), .second, .unset, .unset, .unset] [])) rfl (hb hby at_125) (by decide) (by decide)
  obtain ⟨b707, g707⟩ : ∃ z, z = h0.size := ⟨_, rfl⟩
  rw [← g707] at A707 D707 st707
  refine own_st st707 ?_
  have Zs708 : n0 ≤ h707.size := Nat.le_trans Z0 E707.1
  have g709 : n0 ≤ b707 := Nat.le_trans Z0 (Nat.le_of_eq g707.symm)
  have F710 : Fld Z h707 b707 "com/example/wache/wache/AttemptTimes" "spanMillis" "J" (.long (0 : Int64)) := D707 (Or.inr (hw _ (List.mem_of_getElem? (i := 11) rfl))) (ty := .long) (by decide)
  have F711 : Fld Z h707 b707 "com/example/wache/wache/AttemptTimes" "capacity" "I" (.int (0 : Int32)) := D707 (Or.inr (hw _ (List.mem_of_getElem? (i := 13) rfl))) (ty := .int) (by decide)
  have F712 : Fld Z h707 b707 "com/example/wache/wache/AttemptTimes" "shared" "[J" .null := D707 (Or.inr (hw _ (List.mem_of_getElem? (i := 16) rfl))) (ty := (.array .long)) (by decide)
  have F713 : Fld Z h707 b707 "com/example/wache/wache/AttemptTimes" "own" "[[J" .null := D707 (Or.inr (hw _ (List.mem_of_getElem? (i := 20) rfl))) (ty := (.array (.array .long))) (by decide)
  have F714 : Fld Z h707 b707 "com/example/wache/wache/AttemptTimes" "heads" "[I" .null := D707 (Or.inr (hw _ (List.mem_of_getElem? (i := 23) rfl))) (ty := (.array .int)) (by decide)
  have F715 : Fld Z h707 b707 "com/example/wache/wache/AttemptTimes" "sizes" "[I" .null := D707 (Or.inr (hw _ (List.mem_of_getElem? (i := 25) rfl))) (ty := (.array .int)) (by decide)
  show own_Go p e below s _ _ _ (T707.setTop (mkF m 128 #[.val (.long p1), .second, .val (.long p2), .second, .val (.int p3), .val (.int p4), .val (.int p5), .val (.int p6), .val (.int sI), .val (.int oI), .val (.int cp), .val (.int nn), .val (.long sp), .second, .val (.long ba), .second, .val (.long q2), .second, .val (.long q3), .second, .val (.long q4), .second, .val (.long tt), .second, .val (.long dd), .second, .val (.long t2), .second, .val (.long ww), .second, .unset, .unset, .unset] [(.ref b707)]))
  refine own_st (fun _ kQ => XS.dup X707.here hx rfl (hb hby at_128) rfl rfl kQ) ?_
  show own_Go p e below s _ _ _ (T707.setTop (mkF m 129 #[.val (.long p1), .second, .val (.long p2), .second, .val (.int p3), .val (.int p4), .val (.int p5), .val (.int p6), .val (.int sI), .val (.int oI), .val (.int cp), .val (.int nn), .val (.long sp), .second, .val (.long ba), .second, .val (.long q2), .second, .val (.long q3), .second, .val (.long q4), .second, .val (.long tt), .second, .val (.long dd), .second, .val (.long t2), .second, .val (.long ww), .second, .unset, .unset, .unset] [(.ref b707), (.ref b707)]))
  refine own_st (fun _ kQ => XT.iconstV X707.here hx rfl (2 : Int32) (hb hby at_129) (by decide) kQ) ?_
  show own_Go p e below s _ _ _ (T707.setTop (mkF m 130 #[.val (.long p1), .second, .val (.long p2), .second, .val (.int p3), .val (.int p4), .val (.int p5), .val (.int p6), .val (.int sI), .val (.int oI), .val (.int cp), .val (.int nn), .val (.long sp), .second, .val (.long ba), .second, .val (.long q2), .second, .val (.long q3), .second, .val (.long q4), .second, .val (.long tt), .second, .val (.long dd), .second, .val (.long t2), .second, .val (.long ww), .second, .unset, .unset, .unset] [(.int (2 : Int32)), (.ref b707), (.ref b707)]))
  refine own_st (fun _ kQ => XT.lload X707.here hx rfl (hb hby at_130) rfl kQ) ?_
  show own_Go p e below s _ _ _ (T707.setTop (mkF m 132 #[.val (.long p1), .second, .val (.long p2), .second, .val (.int p3), .val (.int p4), .val (.int p5), .val (.int p6), .val (.int sI), .val (.int oI), .val (.int cp), .val (.int nn), .val (.long sp), .second, .val (.long ba), .second, .val (.long q2), .second, .val (.long q3), .second, .val (.long q4), .second, .val (.long tt), .second, .val (.long dd), .second, .val (.long t2), .second, .val (.long ww), .second, .unset, .unset, .unset] [(.long sp), (.int (2 : Int32)), (.ref b707), (.ref b707)]))
  refine own_st (fun _ kQ => XS.iload X707.here hx rfl (hb hby at_132) rfl kQ) ?_
  show own_Go p e below s _ _ _ (T707.setTop (mkF m 134 #[.val (.long p1), .second, .val (.long p2), .second, .val (.int p3), .val (.int p4), .val (.int p5), .val (.int p6), .val (.int sI), .val (.int oI), .val (.int cp), .val (.int nn), .val (.long sp), .second, .val (.long ba), .second, .val (.long q2), .second, .val (.long q3), .second, .val (.long q4), .second, .val (.long tt), .second, .val (.long dd), .second, .val (.long t2), .second, .val (.long ww), .second, .unset, .unset, .unset] [(.int cp), (.long sp), (.int (2 : Int32)), (.ref b707), (.ref b707)]))
  obtain ⟨_, _, ⟨T716, L716, k716, n716⟩, -, X716, ⟨Lc716, hQ716, l716, y716, z716⟩, st716⟩ := X707.specialBack hx (y := (⟨"com/example/wache/wache/AttemptTimes", "<init>", "(IJI)V"⟩ : MethodName)) rfl hown (mvT hZ (hw _ (List.mem_of_getElem? (i := 4) rfl))) (mvT hZ (hw _ (List.mem_of_getElem? (i := 5) rfl))) (mvT hZ (hw _ (List.mem_of_getElem? (i := 6) rfl))) (by decide) (backOf (W := 1) (own_rm_init l Z a0 hw [] b707 sp cp h707 n0 Zs708 A707 F710 F711 F712 F713 F714 F715 g709) hZ (hw _ (List.mem_of_getElem? (i := 6) rfl)) (hw _ (List.mem_of_getElem? (i := 3) rfl)) (by decide) (by decide)) (g := (mkF m 134 #[.val (.long p1), .second, .val (.long p2), .second, .val (.int p3), .val (.int p4), .val (.int p5), .val (.int p6), .val (.int sI), .val (.int oI), .val (.int cp), .val (.int nn), .val (.long sp), .second, .val (.long ba), .second, .val (.long q2), .second, .val (.long q3), .second, .val (.long q4), .second, .val (.long tt), .second, .val (.long dd), .second, .val (.long t2), .second, .val (.long ww), .second, .unset, .unset, .unset] [(.int cp), (.long sp), (.int (2 : Int32)), (.ref b707), (.ref b707)])) rfl (by rw [hml]; rfl) (Steps.refl _) (a := b707) (argsL := [(.int (2 : Int32)), (.long sp), (.int cp)]) (rest := [(.ref b707)]) (lenOf own_pd8 rfl) rfl (by show 2 * 0 + _ ≤ _; exact Nat.le_of_eq rfl) (hb hby at_134) (fun _ _ => ⟨rfl, e707, (by decide : 1 + 4 ≤ _), (by decide : 6 + 10 ≤ _)⟩)
  dsimp only [Pt.U, Pt.locs, Pt.cells, Pt.slots] at X716 l716 y716 z716 st716 hQ716
  subst l716 y716 z716
  obtain ⟨x717, x718, x719, x720, x721, x722, x723, x724, x725, x726, x727, x728, N716q, rfl, q729, q730, q731, q732⟩ := hQ716
  have N733 := Fr.app N0 N716q
  refine own_tr st716 ?_
  have Zs734 : n0 ≤ T716.heap.size := q729.szle
  show own_Go p e below s _ _ _ (T716.setTop (mkF m 137 #[.val (.long p1), .second, .val (.long p2), .second, .val (.int p3), .val (.int p4), .val (.int p5), .val (.int p6), .val (.int sI), .val (.int oI), .val (.int cp), .val (.int nn), .val (.long sp), .second, .val (.long ba), .second, .val (.long q2), .second, .val (.long q3), .second, .val (.long q4), .second, .val (.long tt), .second, .val (.long dd), .second, .val (.long t2), .second, .val (.long ww), .second, .unset, .unset, .unset] [(.ref b707)]))
  have wf735 : own_WF cp (x725 i) (x726 i) (x727 i) := by rw [q730 i, q731 i, q732 i]; exact ⟨by decide, by decide, by decide, by have e : (2 : Int32).toInt = 2 := (by decide); omega, by decide, by decide, hcp.2⟩
  have wf736 : own_WF cp (x725 j) (x726 j) (x727 j) := by rw [q730 j, q731 j, q732 j]; exact ⟨by decide, by decide, by decide, by have e : (2 : Int32).toInt = 2 := (by decide); omega, by decide, by decide, hcp.2⟩
  refine own_st (fun _ kQ => XS.astore X716.here hx rfl (hb hby at_137) rfl rfl (l' := #[.val (.long p1), .second, .val (.long p2), .second, .val (.int p3), .val (.int p4), .val (.int p5), .val (.int p6), .val (.int sI), .val (.int oI), .val (.int cp), .val (.int nn), .val (.long sp), .second, .val (.long ba), .second, .val (.long q2), .second, .val (.long q3), .second, .val (.long q4), .second, .val (.long tt), .second, .val (.long dd), .second, .val (.long t2), .second, .val (.long ww), .second, .val (.ref b707), .unset, .unset]) rfl kQ) ?_
  show own_Go p e below s _ _ _ (T716.setTop (mkF m 139 #[.val (.long p1), .second, .val (.long p2), .second, .val (.int p3), .val (.int p4), .val (.int p5), .val (.int p6), .val (.int sI), .val (.int oI), .val (.int cp), .val (.int nn), .val (.long sp), .second, .val (.long ba), .second, .val (.long q2), .second, .val (.long q3), .second, .val (.long q4), .second, .val (.long tt), .second, .val (.long dd), .second, .val (.long t2), .second, .val (.long ww), .second, .val (.ref b707), .unset, .unset] []))
  refine own_st (fun _ kQ => XS.aload X716.here hx rfl (hb hby at_139) rfl rfl kQ) ?_
  show own_Go p e below s _ _ _ (T716.setTop (mkF m 141 #[.val (.long p1), .second, .val (.long p2), .second, .val (.int p3), .val (.int p4), .val (.int p5), .val (.int p6), .val (.int sI), .val (.int oI), .val (.int cp), .val (.int nn), .val (.long sp), .second, .val (.long ba), .second, .val (.long q2), .second, .val (.long q3), .second, .val (.long q4), .second, .val (.long tt), .second, .val (.long dd), .second, .val (.long t2), .second, .val (.long ww), .second, .val (.ref b707), .unset, .unset] [(.ref b707)]))
  refine own_st (fun _ kQ => XS.iload X716.here hx rfl (hb hby at_141) rfl kQ) ?_
  show own_Go p e below s _ _ _ (T716.setTop (mkF m 143 #[.val (.long p1), .second, .val (.long p2), .second, .val (.int p3), .val (.int p4), .val (.int p5), .val (.int p6), .val (.int sI), .val (.int oI), .val (.int cp), .val (.int nn), .val (.long sp), .second, .val (.long ba), .second, .val (.long q2), .second, .val (.long q3), .second, .val (.long q4), .second, .val (.long tt), .second, .val (.long dd), .second, .val (.long t2), .second, .val (.long ww), .second, .val (.ref b707), .unset, .unset] [(.int oI), (.ref b707)]))
  refine own_st (fun _ kQ => XT.lload X716.here hx rfl (hb hby at_143) rfl kQ) ?_
  show own_Go p e below s _ _ _ (T716.setTop (mkF m 145 #[.val (.long p1), .second, .val (.long p2), .second, .val (.int p3), .val (.int p4), .val (.int p5), .val (.int p6), .val (.int sI), .val (.int oI), .val (.int cp), .val (.int nn), .val (.long sp), .second, .val (.long ba), .second, .val (.long q2), .second, .val (.long q3), .second, .val (.long q4), .second, .val (.long tt), .second, .val (.long dd), .second, .val (.long t2), .second, .val (.long ww), .second, .val (.ref b707), .unset, .unset] [(.long ba), (.int oI), (.ref b707)]))
  have F738 : Exa Z T716.heap b707 "com/example/wache/wache/AttemptTimes" := q729.exa
  obtain ⟨cq737, kq737, q737a, q737b, q737c⟩ := isOf hZ rfl F738
  obtain ⟨_, _, ⟨T737, L737, k737, n737⟩, -, X737, ⟨Lc737, hQ737, l737, y737, z737⟩, st737⟩ := X716.virtualBack hx (y := (⟨"com/example/wache/wache/AttemptTimes", "add", "(IJ)V"⟩ : MethodName)) (z := (⟨"com/example/wache/wache/AttemptTimes", "add", "(IJ)V"⟩ : MethodName)) hown (mvT hZ (hw _ (List.mem_of_getElem? (i := 26) rfl))) (mvT hZ (hw _ (List.mem_of_getElem? (i := 27) rfl))) (notFace_of_selects (args := #[]) (mvT hZ (hw _ (List.mem_of_getElem? (i := 29) rfl)))) (mvT hZ (hw _ (List.mem_of_getElem? (i := 29) rfl))) (mvT hZ (hw _ (List.mem_of_getElem? (i := 28) rfl))) (by decide) (backOf (W := 0) (own_rm_add l Z a0 hw [] oI j b707 sp cp x717 x718 x719 x720 x721 x722 x723 x724 x725 x726 x727 x728 ba T716.heap n0 Zs734 q729 hj wf736) hZ (hw _ (List.mem_of_getElem? (i := 30) rfl)) (hw _ (List.mem_of_getElem? (i := 3) rfl)) (by decide) (by decide)) q737a q737c (g := (mkF m 145 #[.val (.long p1), .second, .val (.long p2), .second, .val (.int p3), .val (.int p4), .val (.int p5), .val (.int p6), .val (.int sI), .val (.int oI), .val (.int cp), .val (.int nn), .val (.long sp), .second, .val (.long ba), .second, .val (.long q2), .second, .val (.long q3), .second, .val (.long q4), .second, .val (.long tt), .second, .val (.long dd), .second, .val (.long t2), .second, .val (.long ww), .second, .val (.ref b707), .unset, .unset] [(.long ba), (.int oI), (.ref b707)])) rfl (by rw [hml]; rfl) (Steps.refl _) (argsL := [(.int oI), (.long ba)]) (rest := []) (lenOf own_pd9 rfl) rfl (by show 2 * 0 + _ ≤ _; exact Nat.le_of_eq rfl) (hb hby at_145) (fun _ _ => ⟨rfl, rfl, (by decide : 5 + 1 ≤ _), (by decide : 16 + 5 ≤ _)⟩)
  dsimp only [Pt.U, Pt.locs, Pt.cells, Pt.slots] at X737 l737 y737 z737 st737 hQ737
  subst l737 y737 z737
  obtain ⟨x739, x740, x741, x742, x743, N737q, rfl, q744, q745, q746, q747, q748⟩ := hQ737
  have N749 := Fr.app N733 N737q
  refine own_tr st737 ?_
  have Zs750 : n0 ≤ T737.heap.size := q744.szle
  show own_Go p e below s _ _ _ (T737.setTop (mkF m 148 #[.val (.long p1), .second, .val (.long p2), .second, .val (.int p3), .val (.int p4), .val (.int p5), .val (.int p6), .val (.int sI), .val (.int oI), .val (.int cp), .val (.int nn), .val (.long sp), .second, .val (.long ba), .second, .val (.long q2), .second, .val (.long q3), .second, .val (.long q4), .second, .val (.long tt), .second, .val (.long dd), .second, .val (.long t2), .second, .val (.long ww), .second, .val (.ref b707), .unset, .unset] []))
  have oq751 := q748 i hij
  have wf752 : own_WF cp (x740 i) (x741 i) (x742 i) := by rw [oq751.1, oq751.2.1, oq751.2.2.1]; exact wf735
  have J208 : ∀ (T1 : State) (N1 : List Loc) (gw : Nat → Value) (gh gs gz : Nat → Int32) (gF : Nat → Nat → Int64), Stand p l e room_1 s m #[(.long p1), (.long p2), (.int p3), (.int p4), (.int p5), (.int p6)] below meth c T1 N1 10 41 → Fr n0 N1 → own_AT Z T1.heap n0 b707 sp cp x717 x718 x719 x720 x721 x722 x723 gw gh gs gz gF → own_WF cp (gh i) (gs i) (gz i) → own_WF cp (gh j) (gs j) (gz j) → 1 ≤ (gs j).toInt → gF j (own_idx (gh j) ((gs j) - (1 : Int32)) (gz j)).toNatClampNeg = ba → own_Go p e below s (own_law_Q Z n0) 24 128 (T1.setTop (mkF m 208 #[.val (.long p1), .second, .val (.long p2), .second, .val (.int p3), .val (.int p4), .val (.int p5), .val (.int p6), .val (.int sI), .val (.int oI), .val (.int cp), .val (.int nn), .val (.long sp), .second, .val (.long ba), .second, .val (.long q2), .second, .val (.long q3), .second, .val (.long q4), .second, .val (.long tt), .second, .val (.long dd), .second, .val (.long t2), .second, .val (.long ww), .second, .val (.ref b707), .unset, .unset] [])) := by
    intro T1 N1 gw gh gs gz gF X1 N2 D1 wfi wfj one1 lat1
    have Z1 := D1.szle
    show own_Go p e below s _ _ _ (T1.setTop (mkF m 208 #[.val (.long p1), .second, .val (.long p2), .second, .val (.int p3), .val (.int p4), .val (.int p5), .val (.int p6), .val (.int sI), .val (.int oI), .val (.int cp), .val (.int nn), .val (.long sp), .second, .val (.long ba), .second, .val (.long q2), .second, .val (.long q3), .second, .val (.long q4), .second, .val (.long tt), .second, .val (.long dd), .second, .val (.long t2), .second, .val (.long ww), .second, .val (.ref b707), .unset, .unset] []))
    refine own_st (fun _ kQ => XS.aload X1.here hx rfl (hb hby at_208) rfl rfl kQ) ?_
    show own_Go p e below s _ _ _ (T1.setTop (mkF m 210 #[.val (.long p1), .second, .val (.long p2), .second, .val (.int p3), .val (.int p4), .val (.int p5), .val (.int p6), .val (.int sI), .val (.int oI), .val (.int cp), .val (.int nn), .val (.long sp), .second, .val (.long ba), .second, .val (.long q2), .second, .val (.long q3), .second, .val (.long q4), .second, .val (.long tt), .second, .val (.long dd), .second, .val (.long t2), .second, .val (.long ww), .second, .val (.ref b707), .unset, .unset] [(.ref b707)]))
    refine own_st (fun _ kQ => XS.iload X1.here hx rfl (hb hby at_210) rfl kQ) ?_
    show own_Go p e below s _ _ _ (T1.setTop (mkF m 212 #[.val (.long p1), .second, .val (.long p2), .second, .val (.int p3), .val (.int p4), .val (.int p5), .val (.int p6), .val (.int sI), .val (.int oI), .val (.int cp), .val (.int nn), .val (.long sp), .second, .val (.long ba), .second, .val (.long q2), .second, .val (.long q3), .second, .val (.long q4), .second, .val (.long tt), .second, .val (.long dd), .second, .val (.long t2), .second, .val (.long ww), .second, .val (.ref b707), .unset, .unset] [(.int sI), (.ref b707)]))
    have F754 : Exa Z T1.heap b707 "com/example/wache/wache/AttemptTimes" := D1.exa
    obtain ⟨cq753, kq753, q753a, q753b, q753c⟩ := isOf hZ rfl F754
    obtain ⟨_, _, ⟨T753, L753, k753, n753⟩, -, X753, ⟨Lc753, hQ753, l753, y753, z753⟩, st753⟩ := X1.virtualBack hx (y := (⟨"com/example/wache/wache/AttemptTimes", "clear", "(I)V"⟩ : MethodName)) (z := (⟨"com/example/wache/wache/AttemptTimes", "clear", "(I)V"⟩ : MethodName)) hown (mvT hZ (hw _ (List.mem_of_getElem? (i := 43) rfl))) (mvT hZ (hw _ (List.mem_of_getElem? (i := 44) rfl))) (notFace_of_selects (args := #[]) (mvT hZ (hw _ (List.mem_of_getElem? (i := 46) rfl)))) (mvT hZ (hw _ (List.mem_of_getElem? (i := 46) rfl))) (mvT hZ (hw _ (List.mem_of_getElem? (i := 45) rfl))) (by decide) (backOf (W := 0) (own_rm_clear l Z a0 hw [] sI i b707 sp cp x717 x718 x719 x720 x721 x722 x723 gw gh gs gz gF T1.heap n0 Z1 D1 hi) hZ (hw _ (List.mem_of_getElem? (i := 47) rfl)) (hw _ (List.mem_of_getElem? (i := 3) rfl)) (by decide) (by decide)) q753a q753c (g := (mkF m 212 #[.val (.long p1), .second, .val (.long p2), .second, .val (.int p3), .val (.int p4), .val (.int p5), .val (.int p6), .val (.int sI), .val (.int oI), .val (.int cp), .val (.int nn), .val (.long sp), .second, .val (.long ba), .second, .val (.long q2), .second, .val (.long q3), .second, .val (.long q4), .second, .val (.long tt), .second, .val (.long dd), .second, .val (.long t2), .second, .val (.long ww), .second, .val (.ref b707), .unset, .unset] [(.int sI), (.ref b707)])) rfl (by rw [hml]; rfl) (Steps.refl _) (argsL := [(.int sI)]) (rest := []) (lenOf own_pd5 rfl) rfl (by show 2 * 0 + _ ≤ _; exact Nat.le_of_eq rfl) (hb hby at_212) (fun _ _ => ⟨rfl, rfl, (by decide : 10 + 0 ≤ _), (by decide : 41 + 0 ≤ _)⟩)
    dsimp only [Pt.U, Pt.locs, Pt.cells, Pt.slots] at X753 l753 y753 z753 st753 hQ753
    subst l753 y753 z753
    obtain ⟨x755, x756, x757, x758, x759, N753q, rfl, q760, q761, q762, q763, q764⟩ := hQ753
    have N765 := Fr.app N2 N753q
    refine own_tr st753 ?_
    have Zs766 : n0 ≤ T753.heap.size := q760.szle
    show own_Go p e below s _ _ _ (T753.setTop (mkF m 215 #[.val (.long p1), .second, .val (.long p2), .second, .val (.int p3), .val (.int p4), .val (.int p5), .val (.int p6), .val (.int sI), .val (.int oI), .val (.int cp), .val (.int nn), .val (.long sp), .second, .val (.long ba), .second, .val (.long q2), .second, .val (.long q3), .second, .val (.long q4), .second, .val (.long tt), .second, .val (.long dd), .second, .val (.long t2), .second, .val (.long ww), .second, .val (.ref b707), .unset, .unset] []))
    have oq767 := q764 j hji
    have wf768 : own_WF cp (x756 j) (x757 j) (x758 j) := by rw [oq767.1, oq767.2.1, oq767.2.2.1]; exact wfj
    have on769 : 1 ≤ (x757 j).toInt := by rw [oq767.2.1]; exact one1
    have la770 : x759 j (own_idx (x756 j) ((x757 j) - (1 : Int32)) (x758 j)).toNatClampNeg = ba := by rw [oq767.2.2.2, oq767.1, oq767.2.1, oq767.2.2.1]; exact lat1
    have wf771 : own_WF cp (x756 i) (x757 i) (x758 i) := by rw [q761, q762, q763]; exact ⟨by decide, by decide, by decide, by have e : (2 : Int32).toInt = 2 := (by decide); omega, by decide, by decide, hcp.2⟩
    refine own_st (fun _ kQ => XS.aload X753.here hx rfl (hb hby at_215) rfl rfl kQ) ?_
    show own_Go p e below s _ _ _ (T753.setTop (mkF m 217 #[.val (.long p1), .second, .val (.long p2), .second, .val (.int p3), .val (.int p4), .val (.int p5), .val (.int p6), .val (.int sI), .val (.int oI), .val (.int cp), .val (.int nn), .val (.long sp), .second, .val (.long ba), .second, .val (.long q2), .second, .val (.long q3), .second, .val (.long q4), .second, .val (.long tt), .second, .val (.long dd), .second, .val (.long t2), .second, .val (.long ww), .second, .val (.ref b707), .unset, .unset] [(.ref b707)]))
    refine own_st (fun _ kQ => XS.iload X753.here hx rfl (hb hby at_217) rfl kQ) ?_
    show own_Go p e below s _ _ _ (T753.setTop (mkF m 219 #[.val (.long p1), .second, .val (.long p2), .second, .val (.int p3), .val (.int p4), .val (.int p5), .val (.int p6), .val (.int sI), .val (.int oI), .val (.int cp), .val (.int nn), .val (.long sp), .second, .val (.long ba), .second, .val (.long q2), .second, .val (.long q3), .second, .val (.long q4), .second, .val (.long tt), .second, .val (.long dd), .second, .val (.long t2), .second, .val (.long ww), .second, .val (.ref b707), .unset, .unset] [(.int sI), (.ref b707)]))
    refine own_st (fun _ kQ => XT.lload X753.here hx rfl (hb hby at_219) rfl kQ) ?_
    show own_Go p e below s _ _ _ (T753.setTop (mkF m 221 #[.val (.long p1), .second, .val (.long p2), .second, .val (.int p3), .val (.int p4), .val (.int p5), .val (.int p6), .val (.int sI), .val (.int oI), .val (.int cp), .val (.int nn), .val (.long sp), .second, .val (.long ba), .second, .val (.long q2), .second, .val (.long q3), .second, .val (.long q4), .second, .val (.long tt), .second, .val (.long dd), .second, .val (.long t2), .second, .val (.long ww), .second, .val (.ref b707), .unset, .unset] [(.long tt), (.int sI), (.ref b707)]))
    have F773 : Exa Z T753.heap b707 "com/example/wache/wache/AttemptTimes" := q760.exa
    obtain ⟨cq772, kq772, q772a, q772b, q772c⟩ := isOf hZ rfl F773
    obtain ⟨_, _, ⟨T772, L772, k772, n772⟩, -, X772, ⟨Lc772, hQ772, l772, y772, z772⟩, st772⟩ := X753.virtualBack hx (y := (⟨"com/example/wache/wache/AttemptTimes", "add", "(IJ)V"⟩ : MethodName)) (z := (⟨"com/example/wache/wache/AttemptTimes", "add", "(IJ)V"⟩ : MethodName)) hown (mvT hZ (hw _ (List.mem_of_getElem? (i := 26) rfl))) (mvT hZ (hw _ (List.mem_of_getElem? (i := 27) rfl))) (notFace_of_selects (args := #[]) (mvT hZ (hw _ (List.mem_of_getElem? (i := 29) rfl)))) (mvT hZ (hw _ (List.mem_of_getElem? (i := 29) rfl))) (mvT hZ (hw _ (List.mem_of_getElem? (i := 28) rfl))) (by decide) (backOf (W := 0) (own_rm_addE l Z a0 hw [] sI i b707 sp cp x717 x718 x719 x720 x721 x722 x723 x755 x756 x757 x758 x759 tt T753.heap n0 Zs766 q760 hi wf771 q762) hZ (hw _ (List.mem_of_getElem? (i := 30) rfl)) (hw _ (List.mem_of_getElem? (i := 3) rfl)) (by decide) (by decide)) q772a q772c (g := (mkF m 221 #[.val (.long p1), .second, .val (.long p2), .second, .val (.int p3), .val (.int p4), .val (.int p5), .val (.int p6), .val (.int sI), .val (.int oI), .val (.int cp), .val (.int nn), .val (.long sp), .second, .val (.long ba), .second, .val (.long q2), .second, .val (.long q3), .second, .val (.long q4), .second, .val (.long tt), .second, .val (.long dd), .second, .val (.long t2), .second, .val (.long ww), .second, .val (.ref b707), .unset, .unset] [(.long tt), (.int sI), (.ref b707)])) rfl (by rw [hml]; rfl) (Steps.refl _) (argsL := [(.int sI), (.long tt)]) (rest := []) (lenOf own_pd9 rfl) rfl (by show 2 * 0 + _ ≤ _; exact Nat.le_of_eq rfl) (hb hby at_221) (fun _ _ => ⟨rfl, rfl, (by decide : 10 + 0 ≤ _), (by decide : 41 + 0 ≤ _)⟩)
    dsimp only [Pt.U, Pt.locs, Pt.cells, Pt.slots] at X772 l772 y772 z772 st772 hQ772
    subst l772 y772 z772
    obtain ⟨x774, x775, N772q, rfl, q776, q777, q778, q779⟩ := hQ772
    have N780 := Fr.app N765 N772q
    refine own_tr st772 ?_
    have Zs781 : n0 ≤ T772.heap.size := q776.szle
    show own_Go p e below s _ _ _ (T772.setTop (mkF m 224 #[.val (.long p1), .second, .val (.long p2), .second, .val (.int p3), .val (.int p4), .val (.int p5), .val (.int p6), .val (.int sI), .val (.int oI), .val (.int cp), .val (.int nn), .val (.long sp), .second, .val (.long ba), .second, .val (.long q2), .second, .val (.long q3), .second, .val (.long q4), .second, .val (.long tt), .second, .val (.long dd), .second, .val (.long t2), .second, .val (.long ww), .second, .val (.ref b707), .unset, .unset] []))
    have oq782 := q779 j hji
    have wf783 : own_WF cp (x756 j) (x774 j) (x758 j) := by rw [oq782.1]; exact wf768
    have on784 : 1 ≤ (x774 j).toInt := by rw [oq782.1]; exact on769
    have la785 : x775 j (own_idx (x756 j) ((x774 j) - (1 : Int32)) (x758 j)).toNatClampNeg = ba := by rw [oq782.2, oq782.1]; exact la770
    have wf786 : own_WF cp (x756 i) (x774 i) (x758 i) := by rw [q761, q777, q763]; exact ⟨by decide, by decide, by decide, by have e : (2 : Int32).toInt = 2 := (by decide); omega, by decide, by decide, hcp.2⟩
    refine own_st (fun _ kQ => XS.aload X772.here hx rfl (hb hby at_224) rfl rfl kQ) ?_
    show own_Go p e below s _ _ _ (T772.setTop (mkF m 226 #[.val (.long p1), .second, .val (.long p2), .second, .val (.int p3), .val (.int p4), .val (.int p5), .val (.int p6), .val (.int sI), .val (.int oI), .val (.int cp), .val (.int nn), .val (.long sp), .second, .val (.long ba), .second, .val (.long q2), .second, .val (.long q3), .second, .val (.long q4), .second, .val (.long tt), .second, .val (.long dd), .second, .val (.long t2), .second, .val (.long ww), .second, .val (.ref b707), .unset, .unset] [(.ref b707)]))
    refine own_st (fun _ kQ => XS.iload X772.here hx rfl (hb hby at_226) rfl kQ) ?_
    show own_Go p e below s _ _ _ (T772.setTop (mkF m 228 #[.val (.long p1), .second, .val (.long p2), .second, .val (.int p3), .val (.int p4), .val (.int p5), .val (.int p6), .val (.int sI), .val (.int oI), .val (.int cp), .val (.int nn), .val (.long sp), .second, .val (.long ba), .second, .val (.long q2), .second, .val (.long q3), .second, .val (.long q4), .second, .val (.long tt), .second, .val (.long dd), .second, .val (.long t2), .second, .val (.long ww), .second, .val (.ref b707), .unset, .unset] [(.int sI), (.ref b707)]))
    refine own_st (fun _ kQ => XT.lload X772.here hx rfl (hb hby at_228) rfl kQ) ?_
    show own_Go p e below s _ _ _ (T772.setTop (mkF m 230 #[.val (.long p1), .second, .val (.long p2), .second, .val (.int p3), .val (.int p4), .val (.int p5), .val (.int p6), .val (.int sI), .val (.int oI), .val (.int cp), .val (.int nn), .val (.long sp), .second, .val (.long ba), .second, .val (.long q2), .second, .val (.long q3), .second, .val (.long q4), .second, .val (.long tt), .second, .val (.long dd), .second, .val (.long t2), .second, .val (.long ww), .second, .val (.ref b707), .unset, .unset] [(.long t2), (.int sI), (.ref b707)]))
    by_cases hg0 : (t2 - sp) < tt
    · skip
      show own_Go p e below s _ _ _ (T772.setTop (mkF m 230 #[.val (.long p1), .second, .val (.long p2), .second, .val (.int p3), .val (.int p4), .val (.int p5), .val (.int p6), .val (.int sI), .val (.int oI), .val (.int cp), .val (.int nn), .val (.long sp), .second, .val (.long ba), .second, .val (.long q2), .second, .val (.long q3), .second, .val (.long q4), .second, .val (.long tt), .second, .val (.long dd), .second, .val (.long t2), .second, .val (.long ww), .second, .val (.ref b707), .unset, .unset] [(.long t2), (.int sI), (.ref b707)]))
      have F788 : Exa Z T772.heap b707 "com/example/wache/wache/AttemptTimes" := q776.exa
      obtain ⟨cq787, kq787, q787a, q787b, q787c⟩ := isOf hZ rfl F788
      obtain ⟨_, _, ⟨T787, L787, k787, n787⟩, -, X787, ⟨Lc787, hQ787, l787, y787, z787⟩, st787⟩ := X772.virtualBack hx (y := (⟨"com/example/wache/wache/AttemptTimes", "add", "(IJ)V"⟩ : MethodName)) (z := (⟨"com/example/wache/wache/AttemptTimes", "add", "(IJ)V"⟩ : MethodName)) hown (mvT hZ (hw _ (List.mem_of_getElem? (i := 26) rfl))) (mvT hZ (hw _ (List.mem_of_getElem? (i := 27) rfl))) (notFace_of_selects (args := #[]) (mvT hZ (hw _ (List.mem_of_getElem? (i := 29) rfl)))) (mvT hZ (hw _ (List.mem_of_getElem? (i := 29) rfl))) (mvT hZ (hw _ (List.mem_of_getElem? (i := 28) rfl))) (by decide) (backOf (W := 0) (own_rm_addO1 l Z a0 hw [] sI i b707 sp cp x717 x718 x719 x720 x721 x722 x723 x755 x756 x774 x758 x775 t2 T772.heap n0 Zs781 q776 hi wf786 q777 q761 q763 (by rw [q778]; exact hg0)) hZ (hw _ (List.mem_of_getElem? (i := 30) rfl)) (hw _ (List.mem_of_getElem? (i := 3) rfl)) (by decide) (by decide)) q787a q787c (g := (mkF m 230 #[.val (.long p1), .second, .val (.long p2), .second, .val (.int p3), .val (.int p4), .val (.int p5), .val (.int p6), .val (.int sI), .val (.int oI), .val (.int cp), .val (.int nn), .val (.long sp), .second, .val (.long ba), .second, .val (.long q2), .second, .val (.long q3), .second, .val (.long q4), .second, .val (.long tt), .second, .val (.long dd), .second, .val (.long t2), .second, .val (.long ww), .second, .val (.ref b707), .unset, .unset] [(.long t2), (.int sI), (.ref b707)])) rfl (by rw [hml]; rfl) (Steps.refl _) (argsL := [(.int sI), (.long t2)]) (rest := []) (lenOf own_pd9 rfl) rfl (by show 2 * 0 + _ ≤ _; exact Nat.le_of_eq rfl) (hb hby at_230) (fun _ _ => ⟨rfl, rfl, (by decide : 10 + 0 ≤ _), (by decide : 41 + 0 ≤ _)⟩)
      dsimp only [Pt.U, Pt.locs, Pt.cells, Pt.slots] at X787 l787 y787 z787 st787 hQ787
      subst l787 y787 z787
      obtain ⟨x789, x790, N787q, rfl, q791, q792, q793, q794, q795⟩ := hQ787
      have N796 := Fr.app N780 N787q
      refine own_tr st787 ?_
      have Zs797 : n0 ≤ T787.heap.size := q791.szle
      show own_Go p e below s _ _ _ (T787.setTop (mkF m 233 #[.val (.long p1), .second, .val (.long p2), .second, .val (.int p3), .val (.int p4), .val (.int p5), .val (.int p6), .val (.int sI), .val (.int oI), .val (.int cp), .val (.int nn), .val (.long sp), .second, .val (.long ba), .second, .val (.long q2), .second, .val (.long q3), .second, .val (.long q4), .second, .val (.long tt), .second, .val (.long dd), .second, .val (.long t2), .second, .val (.long ww), .second, .val (.ref b707), .unset, .unset] []))
      have oq798 := q795 j hji
      have wf799 : own_WF cp (x756 j) (x789 j) (x758 j) := by rw [oq798.1]; exact wf783
      have on800 : 1 ≤ (x789 j).toInt := by rw [oq798.1]; exact on784
      have la801 : x790 j (own_idx (x756 j) ((x789 j) - (1 : Int32)) (x758 j)).toNatClampNeg = ba := by rw [oq798.2, oq798.1]; exact la785
      have wf802 : own_WF cp (x756 i) (x789 i) (x758 i) := by rw [q761, q792, q763]; exact ⟨by decide, by decide, by decide, by have e : (2 : Int32).toInt = 2 := (by decide); omega, by decide, by decide, hcp.2⟩
      have on803 : 1 ≤ (x789 i).toInt := by rw [q792]; decide
      have la804 : x790 i (own_idx (x756 i) ((x789 i) - (1 : Int32)) (x758 i)).toNatClampNeg = t2 := by rw [q792]; exact q793
      refine own_st (fun _ kQ => XT.lload X787.here hx rfl (hb hby at_233) rfl kQ) ?_
      show own_Go p e below s _ _ _ (T787.setTop (mkF m 235 #[.val (.long p1), .second, .val (.long p2), .second, .val (.int p3), .val (.int p4), .val (.int p5), .val (.int p6), .val (.int sI), .val (.int oI), .val (.int cp), .val (.int nn), .val (.long sp), .second, .val (.long ba), .second, .val (.long q2), .second, .val (.long q3), .second, .val (.long q4), .second, .val (.long tt), .second, .val (.long dd), .second, .val (.long t2), .second, .val (.long ww), .second, .val (.ref b707), .unset, .unset] [(.long dd)]))
      refine own_st (fun _ kQ => XT.lload X787.here hx rfl (hb hby at_235) rfl kQ) ?_
      show own_Go p e below s _ _ _ (T787.setTop (mkF m 237 #[.val (.long p1), .second, .val (.long p2), .second, .val (.int p3), .val (.int p4), .val (.int p5), .val (.int p6), .val (.int sI), .val (.int oI), .val (.int cp), .val (.int nn), .val (.long sp), .second, .val (.long ba), .second, .val (.long q2), .second, .val (.long q3), .second, .val (.long q4), .second, .val (.long tt), .second, .val (.long dd), .second, .val (.long t2), .second, .val (.long ww), .second, .val (.ref b707), .unset, .unset] [(.long sp), (.long dd)]))
      refine own_st (fun _ kQ => XT.lcmp X787.here hx rfl (hb hby at_237) rfl kQ) ?_
      show own_Go p e below s _ _ _ (T787.setTop (mkF m 238 #[.val (.long p1), .second, .val (.long p2), .second, .val (.int p3), .val (.int p4), .val (.int p5), .val (.int p6), .val (.int sI), .val (.int oI), .val (.int cp), .val (.int nn), .val (.long sp), .second, .val (.long ba), .second, .val (.long q2), .second, .val (.long q3), .second, .val (.long q4), .second, .val (.long tt), .second, .val (.long dd), .second, .val (.long t2), .second, .val (.long ww), .second, .val (.ref b707), .unset, .unset] [(.int (XT.cmpL dd sp))]))
      refine own_st (fun _ kQ => XS.ifNo X787.here hx rfl (hb hby at_238) rfl (XT.ll_ge_f (hnum.1.mp hg0)) kQ) ?_
      show own_Go p e below s _ _ _ (T787.setTop (mkF m 241 #[.val (.long p1), .second, .val (.long p2), .second, .val (.int p3), .val (.int p4), .val (.int p5), .val (.int p6), .val (.int sI), .val (.int oI), .val (.int cp), .val (.int nn), .val (.long sp), .second, .val (.long ba), .second, .val (.long q2), .second, .val (.long q3), .second, .val (.long q4), .second, .val (.long tt), .second, .val (.long dd), .second, .val (.long t2), .second, .val (.long ww), .second, .val (.ref b707), .unset, .unset] []))
      refine own_st (fun _ kQ => XT.lload X787.here hx rfl (hb hby at_241) rfl kQ) ?_
      show own_Go p e below s _ _ _ (T787.setTop (mkF m 243 #[.val (.long p1), .second, .val (.long p2), .second, .val (.int p3), .val (.int p4), .val (.int p5), .val (.int p6), .val (.int sI), .val (.int oI), .val (.int cp), .val (.int nn), .val (.long sp), .second, .val (.long ba), .second, .val (.long q2), .second, .val (.long q3), .second, .val (.long q4), .second, .val (.long tt), .second, .val (.long dd), .second, .val (.long t2), .second, .val (.long ww), .second, .val (.ref b707), .unset, .unset] [(.long dd)]))
      refine own_st (fun _ kQ => XT.lload X787.here hx rfl (hb hby at_243) rfl kQ) ?_
      show own_Go p e below s _ _ _ (T787.setTop (mkF m 245 #[.val (.long p1), .second, .val (.long p2), .second, .val (.int p3), .val (.int p4), .val (.int p5), .val (.int p6), .val (.int sI), .val (.int oI), .val (.int cp), .val (.int nn), .val (.long sp), .second, .val (.long ba), .second, .val (.long q2), .second, .val (.long q3), .second, .val (.long q4), .second, .val (.long tt), .second, .val (.long dd), .second, .val (.long t2), .second, .val (.long ww), .second, .val (.ref b707), .unset, .unset] [(.long ww), (.long dd)]))
      refine own_st (fun _ kQ => XT.lcmp X787.here hx rfl (hb hby at_245) rfl kQ) ?_
      show own_Go p e below s _ _ _ (T787.setTop (mkF m 246 #[.val (.long p1), .second, .val (.long p2), .second, .val (.int p3), .val (.int p4), .val (.int p5), .val (.int p6), .val (.int sI), .val (.int oI), .val (.int cp), .val (.int nn), .val (.long sp), .second, .val (.long ba), .second, .val (.long q2), .second, .val (.long q3), .second, .val (.long q4), .second, .val (.long tt), .second, .val (.long dd), .second, .val (.long t2), .second, .val (.long ww), .second, .val (.ref b707), .unset, .unset] [(.int (XT.cmpL dd ww))]))
      by_cases hc805 : dd < ww
      · refine own_st (fun _ kQ => XS.ifNo X787.here hx rfl (hb hby at_246) rfl (XT.ll_ge_f hc805) kQ) ?_
        show own_Go p e below s _ _ _ (T787.setTop (mkF m 249 #[.val (.long p1), .second, .val (.long p2), .second, .val (.int p3), .val (.int p4), .val (.int p5), .val (.int p6), .val (.int sI), .val (.int oI), .val (.int cp), .val (.int nn), .val (.long sp), .second, .val (.long ba), .second, .val (.long q2), .second, .val (.long q3), .second, .val (.long q4), .second, .val (.long tt), .second, .val (.long dd), .second, .val (.long t2), .second, .val (.long ww), .second, .val (.ref b707), .unset, .unset] []))
        refine own_st (fun _ kQ => X787.ldc2J hx hown (mvT hZ (hw _ (List.mem_of_getElem? (i := 52) rfl))) rfl (hb hby at_249) kQ) ?_
        show own_Go p e below s _ _ _ (T787.setTop (mkF m 252 #[.val (.long p1), .second, .val (.long p2), .second, .val (.int p3), .val (.int p4), .val (.int p5), .val (.int p6), .val (.int sI), .val (.int oI), .val (.int cp), .val (.int nn), .val (.long sp), .second, .val (.long ba), .second, .val (.long q2), .second, .val (.long q3), .second, .val (.long q4), .second, .val (.long tt), .second, .val (.long dd), .second, .val (.long t2), .second, .val (.long ww), .second, .val (.ref b707), .unset, .unset] [(.long (2 : Int64))]))
        refine own_st (fun _ kQ => XS.goto X787.here hx rfl (pc0 := 252) (pc' := 256) rfl (hb hby at_252) (by decide) (by decide) kQ) ?_
        show own_Go p e below s _ _ _ (T787.setTop (mkF m 256 #[.val (.long p1), .second, .val (.long p2), .second, .val (.int p3), .val (.int p4), .val (.int p5), .val (.int p6), .val (.int sI), .val (.int oI), .val (.int cp), .val (.int nn), .val (.long sp), .second, .val (.long ba), .second, .val (.long q2), .second, .val (.long q3), .second, .val (.long q4), .second, .val (.long tt), .second, .val (.long dd), .second, .val (.long t2), .second, .val (.long ww), .second, .val (.ref b707), .unset, .unset] [(.long (2 : Int64))]))
        refine own_st (fun _ kQ => XT.lstore X787.here hx rfl (hb hby at_256) rfl (l' := #[.val (.long p1), .second, .val (.long p2), .second, .val (.int p3), .val (.int p4), .val (.int p5), .val (.int p6), .val (.int sI), .val (.int oI), .val (.int cp), .val (.int nn), .val (.long sp), .second, .val (.long ba), .second, .val (.long q2), .second, .val (.long q3), .second, .val (.long q4), .second, .val (.long tt), .second, .val (.long dd), .second, .val (.long t2), .second, .val (.long ww), .second, .val (.ref b707), .val (.long (2 : Int64)), .second]) rfl kQ) ?_
        show own_Go p e below s _ _ _ (T787.setTop (mkF m 258 #[.val (.long p1), .second, .val (.long p2), .second, .val (.int p3), .val (.int p4), .val (.int p5), .val (.int p6), .val (.int sI), .val (.int oI), .val (.int cp), .val (.int nn), .val (.long sp), .second, .val (.long ba), .second, .val (.long q2), .second, .val (.long q3), .second, .val (.long q4), .second, .val (.long tt), .second, .val (.long dd), .second, .val (.long t2), .second, .val (.long ww), .second, .val (.ref b707), .val (.long (2 : Int64)), .second] []))
        refine own_st (fun _ kQ => XS.aload X787.here hx rfl (hb hby at_258) rfl rfl kQ) ?_
        show own_Go p e below s _ _ _ (T787.setTop (mkF m 260 #[.val (.long p1), .second, .val (.long p2), .second, .val (.int p3), .val (.int p4), .val (.int p5), .val (.int p6), .val (.int sI), .val (.int oI), .val (.int cp), .val (.int nn), .val (.long sp), .second, .val (.long ba), .second, .val (.long q2), .second, .val (.long q3), .second, .val (.long q4), .second, .val (.long tt), .second, .val (.long dd), .second, .val (.long t2), .second, .val (.long ww), .second, .val (.ref b707), .val (.long (2 : Int64)), .second] [(.ref b707)]))
        refine own_st (fun _ kQ => XS.iload X787.here hx rfl (hb hby at_260) rfl kQ) ?_
        show own_Go p e below s _ _ _ (T787.setTop (mkF m 262 #[.val (.long p1), .second, .val (.long p2), .second, .val (.int p3), .val (.int p4), .val (.int p5), .val (.int p6), .val (.int sI), .val (.int oI), .val (.int cp), .val (.int nn), .val (.long sp), .second, .val (.long ba), .second, .val (.long q2), .second, .val (.long q3), .second, .val (.long q4), .second, .val (.long tt), .second, .val (.long dd), .second, .val (.long t2), .second, .val (.long ww), .second, .val (.ref b707), .val (.long (2 : Int64)), .second] [(.int sI), (.ref b707)]))
        refine own_st (fun _ kQ => XT.lload X787.here hx rfl (hb hby at_262) rfl kQ) ?_
        show own_Go p e below s _ _ _ (T787.setTop (mkF m 264 #[.val (.long p1), .second, .val (.long p2), .second, .val (.int p3), .val (.int p4), .val (.int p5), .val (.int p6), .val (.int sI), .val (.int oI), .val (.int cp), .val (.int nn), .val (.long sp), .second, .val (.long ba), .second, .val (.long q2), .second, .val (.long q3), .second, .val (.long q4), .second, .val (.long tt), .second, .val (.long dd), .second, .val (.long t2), .second, .val (.long ww), .second, .val (.ref b707), .val (.long (2 : Int64)), .second] [(.long ww), (.int sI), (.ref b707)]))
        have F807 : Exa Z T787.heap b707 "com/example/wache/wache/AttemptTimes" := q791.exa
        obtain ⟨cq806, kq806, q806a, q806b, q806c⟩ := isOf hZ rfl F807
        obtain ⟨_, _, ⟨T806, L806, k806, n806⟩, -, X806, ⟨Lc806, hQ806, l806, y806, z806⟩, st806⟩ := X787.virtualBack hx (y := (⟨"com/example/wache/wache/AttemptTimes", "countWithin", "(IJ)J"⟩ : MethodName)) (z := (⟨"com/example/wache/wache/AttemptTimes", "countWithin", "(IJ)J"⟩ : MethodName)) hown (mvT hZ (hw _ (List.mem_of_getElem? (i := 53) rfl))) (mvT hZ (hw _ (List.mem_of_getElem? (i := 54) rfl))) (notFace_of_selects (args := #[]) (mvT hZ (hw _ (List.mem_of_getElem? (i := 56) rfl)))) (mvT hZ (hw _ (List.mem_of_getElem? (i := 56) rfl))) (mvT hZ (hw _ (List.mem_of_getElem? (i := 55) rfl))) (by decide) (backOf (W := 0) (own_rm_cw2 l Z a0 hw [] sI i b707 sp cp x717 x718 x719 x720 x721 x722 x723 x755 x756 x789 x758 x790 ww tt t2 T787.heap n0 Zs797 q791 hi wf802 q792 (q794.trans q778) q793) hZ (hw _ (List.mem_of_getElem? (i := 57) rfl)) (hw _ (List.mem_of_getElem? (i := 3) rfl)) (by decide) (by decide)) q806a q806c (g := (mkF m 264 #[.val (.long p1), .second, .val (.long p2), .second, .val (.int p3), .val (.int p4), .val (.int p5), .val (.int p6), .val (.int sI), .val (.int oI), .val (.int cp), .val (.int nn), .val (.long sp), .second, .val (.long ba), .second, .val (.long q2), .second, .val (.long q3), .second, .val (.long q4), .second, .val (.long tt), .second, .val (.long dd), .second, .val (.long t2), .second, .val (.long ww), .second, .val (.ref b707), .val (.long (2 : Int64)), .second] [(.long ww), (.int sI), (.ref b707)])) rfl (by rw [hml]; rfl) (Steps.refl _) (argsL := [(.int sI), (.long ww)]) (rest := []) (lenOf own_pd10 rfl) rfl (by show 2 * 0 + _ ≤ _; exact Nat.le_of_eq rfl) (hb hby at_264) (fun _ _ => ⟨rfl, rfl, (by decide : 10 + 0 ≤ _), (by decide : 41 + 0 ≤ _)⟩)
        dsimp only [Pt.U, Pt.locs, Pt.cells, Pt.slots] at X806 l806 y806 z806 st806 hQ806
        subst l806 y806 z806
        obtain ⟨N806q, rfl, eh806⟩ := hQ806
        have N808 := Fr.app N796 N806q
        refine own_tr st806 ?_
        show own_Go p e below s _ _ _ (T806.setTop (mkF m 267 #[.val (.long p1), .second, .val (.long p2), .second, .val (.int p3), .val (.int p4), .val (.int p5), .val (.int p6), .val (.int sI), .val (.int oI), .val (.int cp), .val (.int nn), .val (.long sp), .second, .val (.long ba), .second, .val (.long q2), .second, .val (.long q3), .second, .val (.long q4), .second, .val (.long tt), .second, .val (.long dd), .second, .val (.long t2), .second, .val (.long ww), .second, .val (.ref b707), .val (.long (2 : Int64)), .second] [(.long (((2 : Int32) - (own_minI (own_fa2 (t2 - ww) tt t2) (1 : Int32))).toInt64))]))
        refine own_st (fun _ kQ => XT.lload X806.here hx rfl (hb hby at_267) rfl kQ) ?_
        show own_Go p e below s _ _ _ (T806.setTop (mkF m 269 #[.val (.long p1), .second, .val (.long p2), .second, .val (.int p3), .val (.int p4), .val (.int p5), .val (.int p6), .val (.int sI), .val (.int oI), .val (.int cp), .val (.int nn), .val (.long sp), .second, .val (.long ba), .second, .val (.long q2), .second, .val (.long q3), .second, .val (.long q4), .second, .val (.long tt), .second, .val (.long dd), .second, .val (.long t2), .second, .val (.long ww), .second, .val (.ref b707), .val (.long (2 : Int64)), .second] [(.long (2 : Int64)), (.long (((2 : Int32) - (own_minI (own_fa2 (t2 - ww) tt t2) (1 : Int32))).toInt64))]))
        refine own_st (fun _ kQ => XT.lcmp X806.here hx rfl (hb hby at_269) rfl kQ) ?_
        show own_Go p e below s _ _ _ (T806.setTop (mkF m 270 #[.val (.long p1), .second, .val (.long p2), .second, .val (.int p3), .val (.int p4), .val (.int p5), .val (.int p6), .val (.int sI), .val (.int oI), .val (.int cp), .val (.int nn), .val (.long sp), .second, .val (.long ba), .second, .val (.long q2), .second, .val (.long q3), .second, .val (.long q4), .second, .val (.long tt), .second, .val (.long dd), .second, .val (.long t2), .second, .val (.long ww), .second, .val (.ref b707), .val (.long (2 : Int64)), .second] [(.int (XT.cmpL (((2 : Int32) - (own_minI (own_fa2 (t2 - ww) tt t2) (1 : Int32))).toInt64) (2 : Int64)))]))
        refine own_st (fun _ kQ => XS.ifNo X806.here hx rfl (hb hby at_270) rfl (XT.ll_ne_f (own_cnt2 (hnum.2.1.mpr hc805) (hnum.2.2 hc805))) kQ) ?_
        show own_Go p e below s _ _ _ (T806.setTop (mkF m 273 #[.val (.long p1), .second, .val (.long p2), .second, .val (.int p3), .val (.int p4), .val (.int p5), .val (.int p6), .val (.int sI), .val (.int oI), .val (.int cp), .val (.int nn), .val (.long sp), .second, .val (.long ba), .second, .val (.long q2), .second, .val (.long q3), .second, .val (.long q4), .second, .val (.long tt), .second, .val (.long dd), .second, .val (.long t2), .second, .val (.long ww), .second, .val (.ref b707), .val (.long (2 : Int64)), .second] []))
        refine own_st (fun _ kQ => XS.aload X806.here hx rfl (hb hby at_273) rfl rfl kQ) ?_
        show own_Go p e below s _ _ _ (T806.setTop (mkF m 275 #[.val (.long p1), .second, .val (.long p2), .second, .val (.int p3), .val (.int p4), .val (.int p5), .val (.int p6), .val (.int sI), .val (.int oI), .val (.int cp), .val (.int nn), .val (.long sp), .second, .val (.long ba), .second, .val (.long q2), .second, .val (.long q3), .second, .val (.long q4), .second, .val (.long tt), .second, .val (.long dd), .second, .val (.long t2), .second, .val (.long ww), .second, .val (.ref b707), .val (.long (2 : Int64)), .second] [(.ref b707)]))
        refine own_st (fun _ kQ => XS.iload X806.here hx rfl (hb hby at_275) rfl kQ) ?_
        show own_Go p e below s _ _ _ (T806.setTop (mkF m 277 #[.val (.long p1), .second, .val (.long p2), .second, .val (.int p3), .val (.int p4), .val (.int p5), .val (.int p6), .val (.int sI), .val (.int oI), .val (.int cp), .val (.int nn), .val (.long sp), .second, .val (.long ba), .second, .val (.long q2), .second, .val (.long q3), .second, .val (.long q4), .second, .val (.long tt), .second, .val (.long dd), .second, .val (.long t2), .second, .val (.long ww), .second, .val (.ref b707), .val (.long (2 : Int64)), .second] [(.int sI), (.ref b707)]))
        have F810 : Exa Z T787.heap b707 "com/example/wache/wache/AttemptTimes" := q791.exa
        obtain ⟨cq809, kq809, q809a, q809b, q809c⟩ := isOf hZ eh806 F810
        obtain ⟨_, _, ⟨T809, L809, k809, n809⟩, -, X809, ⟨Lc809, hQ809, l809, y809, z809⟩, st809⟩ := X806.virtualBack hx (y := (⟨"com/example/wache/wache/AttemptTimes", "latest", "(I)J"⟩ : MethodName)) (z := (⟨"com/example/wache/wache/AttemptTimes", "latest", "(I)J"⟩ : MethodName)) hown (mvT hZ (hw _ (List.mem_of_getElem? (i := 71) rfl))) (mvT hZ (hw _ (List.mem_of_getElem? (i := 59) rfl))) (notFace_of_selects (args := #[]) (mvT hZ (hw _ (List.mem_of_getElem? (i := 61) rfl)))) (mvT hZ (hw _ (List.mem_of_getElem? (i := 61) rfl))) (mvT hZ (hw _ (List.mem_of_getElem? (i := 60) rfl))) (by decide) (backOf (W := 0) (own_rm_latest l Z a0 hw [] sI i b707 sp cp x717 x718 x719 x720 x721 x722 x723 x755 x756 x789 x758 x790 T787.heap n0 Zs797 q791 hi (own_WF.last wf802 on803)) hZ (hw _ (List.mem_of_getElem? (i := 62) rfl)) (hw _ (List.mem_of_getElem? (i := 3) rfl)) (by decide) (by decide)) q809a q809c (g := (mkF m 277 #[.val (.long p1), .second, .val (.long p2), .second, .val (.int p3), .val (.int p4), .val (.int p5), .val (.int p6), .val (.int sI), .val (.int oI), .val (.int cp), .val (.int nn), .val (.long sp), .second, .val (.long ba), .second, .val (.long q2), .second, .val (.long q3), .second, .val (.long q4), .second, .val (.long tt), .second, .val (.long dd), .second, .val (.long t2), .second, .val (.long ww), .second, .val (.ref b707), .val (.long (2 : Int64)), .second] [(.int sI), (.ref b707)])) rfl (by rw [hml]; rfl) (Steps.refl _) (argsL := [(.int sI)]) (rest := []) (lenOf own_pd6 rfl) rfl (by show 2 * 0 + _ ≤ _; exact Nat.le_of_eq rfl) (hb hby at_277) (fun _ _ => ⟨rfl, eh806, (by decide : 10 + 0 ≤ _), (by decide : 41 + 0 ≤ _)⟩)
        dsimp only [Pt.U, Pt.locs, Pt.cells, Pt.slots] at X809 l809 y809 z809 st809 hQ809
        subst l809 y809 z809
        obtain ⟨N809q, rfl, eh809⟩ := hQ809
        have N811 := Fr.app N808 N809q
        refine own_tr st809 ?_
        show own_Go p e below s _ _ _ (T809.setTop (mkF m 280 #[.val (.long p1), .second, .val (.long p2), .second, .val (.int p3), .val (.int p4), .val (.int p5), .val (.int p6), .val (.int sI), .val (.int oI), .val (.int cp), .val (.int nn), .val (.long sp), .second, .val (.long ba), .second, .val (.long q2), .second, .val (.long q3), .second, .val (.long q4), .second, .val (.long tt), .second, .val (.long dd), .second, .val (.long t2), .second, .val (.long ww), .second, .val (.ref b707), .val (.long (2 : Int64)), .second] [(.long (x790 i (own_idx (x756 i) ((x789 i) - (1 : Int32)) (x758 i)).toNatClampNeg))]))
        refine own_st (fun _ kQ => XT.lload X809.here hx rfl (hb hby at_280) rfl kQ) ?_
        show own_Go p e below s _ _ _ (T809.setTop (mkF m 282 #[.val (.long p1), .second, .val (.long p2), .second, .val (.int p3), .val (.int p4), .val (.int p5), .val (.int p6), .val (.int sI), .val (.int oI), .val (.int cp), .val (.int nn), .val (.long sp), .second, .val (.long ba), .second, .val (.long q2), .second, .val (.long q3), .second, .val (.long q4), .second, .val (.long tt), .second, .val (.long dd), .second, .val (.long t2), .second, .val (.long ww), .second, .val (.ref b707), .val (.long (2 : Int64)), .second] [(.long t2), (.long (x790 i (own_idx (x756 i) ((x789 i) - (1 : Int32)) (x758 i)).toNatClampNeg))]))
        refine own_st (fun _ kQ => XT.lcmp X809.here hx rfl (hb hby at_282) rfl kQ) ?_
        show own_Go p e below s _ _ _ (T809.setTop (mkF m 283 #[.val (.long p1), .second, .val (.long p2), .second, .val (.int p3), .val (.int p4), .val (.int p5), .val (.int p6), .val (.int sI), .val (.int oI), .val (.int cp), .val (.int nn), .val (.long sp), .second, .val (.long ba), .second, .val (.long q2), .second, .val (.long q3), .second, .val (.long q4), .second, .val (.long tt), .second, .val (.long dd), .second, .val (.long t2), .second, .val (.long ww), .second, .val (.ref b707), .val (.long (2 : Int64)), .second] [(.int (XT.cmpL (x790 i (own_idx (x756 i) ((x789 i) - (1 : Int32)) (x758 i)).toNatClampNeg) t2))]))
        refine own_st (fun _ kQ => XS.ifNo X809.here hx rfl (hb hby at_283) rfl (XT.ll_ne_f la804) kQ) ?_
        show own_Go p e below s _ _ _ (T809.setTop (mkF m 286 #[.val (.long p1), .second, .val (.long p2), .second, .val (.int p3), .val (.int p4), .val (.int p5), .val (.int p6), .val (.int sI), .val (.int oI), .val (.int cp), .val (.int nn), .val (.long sp), .second, .val (.long ba), .second, .val (.long q2), .second, .val (.long q3), .second, .val (.long q4), .second, .val (.long tt), .second, .val (.long dd), .second, .val (.long t2), .second, .val (.long ww), .second, .val (.ref b707), .val (.long (2 : Int64)), .second] []))
        refine own_st (fun _ kQ => XS.aload X809.here hx rfl (hb hby at_286) rfl rfl kQ) ?_
        show own_Go p e below s _ _ _ (T809.setTop (mkF m 288 #[.val (.long p1), .second, .val (.long p2), .second, .val (.int p3), .val (.int p4), .val (.int p5), .val (.int p6), .val (.int sI), .val (.int oI), .val (.int cp), .val (.int nn), .val (.long sp), .second, .val (.long ba), .second, .val (.long q2), .second, .val (.long q3), .second, .val (.long q4), .second, .val (.long tt), .second, .val (.long dd), .second, .val (.long t2), .second, .val (.long ww), .second, .val (.ref b707), .val (.long (2 : Int64)), .second] [(.ref b707)]))
        refine own_st (fun _ kQ => XS.iload X809.here hx rfl (hb hby at_288) rfl kQ) ?_
        show own_Go p e below s _ _ _ (T809.setTop (mkF m 290 #[.val (.long p1), .second, .val (.long p2), .second, .val (.int p3), .val (.int p4), .val (.int p5), .val (.int p6), .val (.int sI), .val (.int oI), .val (.int cp), .val (.int nn), .val (.long sp), .second, .val (.long ba), .second, .val (.long q2), .second, .val (.long q3), .second, .val (.long q4), .second, .val (.long tt), .second, .val (.long dd), .second, .val (.long t2), .second, .val (.long ww), .second, .val (.ref b707), .val (.long (2 : Int64)), .second] [(.int oI), (.ref b707)]))
        have F813 : Exa Z T787.heap b707 "com/example/wache/wache/AttemptTimes" := q791.exa
        obtain ⟨cq812, kq812, q812a, q812b, q812c⟩ := isOf hZ eh809 F813
        obtain ⟨_, _, ⟨T812, L812, k812, n812⟩, -, X812, ⟨Lc812, hQ812, l812, y812, z812⟩, st812⟩ := X809.virtualBack hx (y := (⟨"com/example/wache/wache/AttemptTimes", "latest", "(I)J"⟩ : MethodName)) (z := (⟨"com/example/wache/wache/AttemptTimes", "latest", "(I)J"⟩ : MethodName)) hown (mvT hZ (hw _ (List.mem_of_getElem? (i := 71) rfl))) (mvT hZ (hw _ (List.mem_of_getElem? (i := 59) rfl))) (notFace_of_selects (args := #[]) (mvT hZ (hw _ (List.mem_of_getElem? (i := 61) rfl)))) (mvT hZ (hw _ (List.mem_of_getElem? (i := 61) rfl))) (mvT hZ (hw _ (List.mem_of_getElem? (i := 60) rfl))) (by decide) (backOf (W := 0) (own_rm_latest l Z a0 hw [] oI j b707 sp cp x717 x718 x719 x720 x721 x722 x723 x755 x756 x789 x758 x790 T787.heap n0 Zs797 q791 hj (own_WF.last wf799 on800)) hZ (hw _ (List.mem_of_getElem? (i := 62) rfl)) (hw _ (List.mem_of_getElem? (i := 3) rfl)) (by decide) (by decide)) q812a q812c (g := (mkF m 290 #[.val (.long p1), .second, .val (.long p2), .second, .val (.int p3), .val (.int p4), .val (.int p5), .val (.int p6), .val (.int sI), .val (.int oI), .val (.int cp), .val (.int nn), .val (.long sp), .second, .val (.long ba), .second, .val (.long q2), .second, .val (.long q3), .second, .val (.long q4), .second, .val (.long tt), .second, .val (.long dd), .second, .val (.long t2), .second, .val (.long ww), .second, .val (.ref b707), .val (.long (2 : Int64)), .second] [(.int oI), (.ref b707)])) rfl (by rw [hml]; rfl) (Steps.refl _) (argsL := [(.int oI)]) (rest := []) (lenOf own_pd6 rfl) rfl (by show 2 * 0 + _ ≤ _; exact Nat.le_of_eq rfl) (hb hby at_290) (fun _ _ => ⟨rfl, eh809, (by decide : 10 + 0 ≤ _), (by decide : 41 + 0 ≤ _)⟩)
        dsimp only [Pt.U, Pt.locs, Pt.cells, Pt.slots] at X812 l812 y812 z812 st812 hQ812
        subst l812 y812 z812
        obtain ⟨N812q, rfl, eh812⟩ := hQ812
        have N814 := Fr.app N811 N812q
        refine own_tr st812 ?_
        show own_Go p e below s _ _ _ (T812.setTop (mkF m 293 #[.val (.long p1), .second, .val (.long p2), .second, .val (.int p3), .val (.int p4), .val (.int p5), .val (.int p6), .val (.int sI), .val (.int oI), .val (.int cp), .val (.int nn), .val (.long sp), .second, .val (.long ba), .second, .val (.long q2), .second, .val (.long q3), .second, .val (.long q4), .second, .val (.long tt), .second, .val (.long dd), .second, .val (.long t2), .second, .val (.long ww), .second, .val (.ref b707), .val (.long (2 : Int64)), .second] [(.long (x790 j (own_idx (x756 j) ((x789 j) - (1 : Int32)) (x758 j)).toNatClampNeg))]))
        refine own_st (fun _ kQ => XT.lload X812.here hx rfl (hb hby at_293) rfl kQ) ?_
        show own_Go p e below s _ _ _ (T812.setTop (mkF m 295 #[.val (.long p1), .second, .val (.long p2), .second, .val (.int p3), .val (.int p4), .val (.int p5), .val (.int p6), .val (.int sI), .val (.int oI), .val (.int cp), .val (.int nn), .val (.long sp), .second, .val (.long ba), .second, .val (.long q2), .second, .val (.long q3), .second, .val (.long q4), .second, .val (.long tt), .second, .val (.long dd), .second, .val (.long t2), .second, .val (.long ww), .second, .val (.ref b707), .val (.long (2 : Int64)), .second] [(.long ba), (.long (x790 j (own_idx (x756 j) ((x789 j) - (1 : Int32)) (x758 j)).toNatClampNeg))]))
        refine own_st (fun _ kQ => XT.lcmp X812.here hx rfl (hb hby at_295) rfl kQ) ?_
        show own_Go p e below s _ _ _ (T812.setTop (mkF m 296 #[.val (.long p1), .second, .val (.long p2), .second, .val (.int p3), .val (.int p4), .val (.int p5), .val (.int p6), .val (.int sI), .val (.int oI), .val (.int cp), .val (.int nn), .val (.long sp), .second, .val (.long ba), .second, .val (.long q2), .second, .val (.long q3), .second, .val (.long q4), .second, .val (.long tt), .second, .val (.long dd), .second, .val (.long t2), .second, .val (.long ww), .second, .val (.ref b707), .val (.long (2 : Int64)), .second] [(.int (XT.cmpL (x790 j (own_idx (x756 j) ((x789 j) - (1 : Int32)) (x758 j)).toNatClampNeg) ba))]))
        refine own_st (fun _ kQ => XS.ifNo X812.here hx rfl (hb hby at_296) rfl (XT.ll_ne_f la801) kQ) ?_
        show own_Go p e below s _ _ _ (T812.setTop (mkF m 299 #[.val (.long p1), .second, .val (.long p2), .second, .val (.int p3), .val (.int p4), .val (.int p5), .val (.int p6), .val (.int sI), .val (.int oI), .val (.int cp), .val (.int nn), .val (.long sp), .second, .val (.long ba), .second, .val (.long q2), .second, .val (.long q3), .second, .val (.long q4), .second, .val (.long tt), .second, .val (.long dd), .second, .val (.long t2), .second, .val (.long ww), .second, .val (.ref b707), .val (.long (2 : Int64)), .second] []))
        refine own_st (fun _ kQ => XT.iconstV X812.here hx rfl (1 : Int32) (hb hby at_299) (by decide) kQ) ?_
        show own_Go p e below s _ _ _ (T812.setTop (mkF m 300 #[.val (.long p1), .second, .val (.long p2), .second, .val (.int p3), .val (.int p4), .val (.int p5), .val (.int p6), .val (.int sI), .val (.int oI), .val (.int cp), .val (.int nn), .val (.long sp), .second, .val (.long ba), .second, .val (.long q2), .second, .val (.long q3), .second, .val (.long q4), .second, .val (.long tt), .second, .val (.long dd), .second, .val (.long t2), .second, .val (.long ww), .second, .val (.ref b707), .val (.long (2 : Int64)), .second] [(.int (1 : Int32))]))
        refine own_st (fun _ kQ => XS.goto X812.here hx rfl (pc0 := 300) (pc' := 304) rfl (hb hby at_300) (by decide) (by decide) kQ) ?_
        show own_Go p e below s _ _ _ (T812.setTop (mkF m 304 #[.val (.long p1), .second, .val (.long p2), .second, .val (.int p3), .val (.int p4), .val (.int p5), .val (.int p6), .val (.int sI), .val (.int oI), .val (.int cp), .val (.int nn), .val (.long sp), .second, .val (.long ba), .second, .val (.long q2), .second, .val (.long q3), .second, .val (.long q4), .second, .val (.long tt), .second, .val (.long dd), .second, .val (.long t2), .second, .val (.long ww), .second, .val (.ref b707), .val (.long (2 : Int64)), .second] [(.int (1 : Int32))]))
        refine own_retN X812 hx hlk Bd.returns (t := .boolean) (z' := (1 : Int32)) (by simp) (by decide) (hb hby at_304) (by decide) (by decide) ?_
        rw [eh812]
        exact ⟨N814, rfl⟩
      · refine own_st (fun _ kQ => XS.ifYes X787.here hx rfl (pc0 := 246) (pc' := 255) rfl (hb hby at_246) rfl (XT.ll_ge_t hc805) (by decide) (by decide) kQ) ?_
        show own_Go p e below s _ _ _ (T787.setTop (mkF m 255 #[.val (.long p1), .second, .val (.long p2), .second, .val (.int p3), .val (.int p4), .val (.int p5), .val (.int p6), .val (.int sI), .val (.int oI), .val (.int cp), .val (.int nn), .val (.long sp), .second, .val (.long ba), .second, .val (.long q2), .second, .val (.long q3), .second, .val (.long q4), .second, .val (.long tt), .second, .val (.long dd), .second, .val (.long t2), .second, .val (.long ww), .second, .val (.ref b707), .unset, .unset] []))
        refine own_st (fun _ kQ => XT.lconstV X787.here hx rfl (1 : Int64) (hb hby at_255) (by decide) kQ) ?_
        show own_Go p e below s _ _ _ (T787.setTop (mkF m 256 #[.val (.long p1), .second, .val (.long p2), .second, .val (.int p3), .val (.int p4), .val (.int p5), .val (.int p6), .val (.int sI), .val (.int oI), .val (.int cp), .val (.int nn), .val (.long sp), .second, .val (.long ba), .second, .val (.long q2), .second, .val (.long q3), .second, .val (.long q4), .second, .val (.long tt), .second, .val (.long dd), .second, .val (.long t2), .second, .val (.long ww), .second, .val (.ref b707), .unset, .unset] [(.long (1 : Int64))]))
        refine own_st (fun _ kQ => XT.lstore X787.here hx rfl (hb hby at_256) rfl (l' := #[.val (.long p1), .second, .val (.long p2), .second, .val (.int p3), .val (.int p4), .val (.int p5), .val (.int p6), .val (.int sI), .val (.int oI), .val (.int cp), .val (.int nn), .val (.long sp), .second, .val (.long ba), .second, .val (.long q2), .second, .val (.long q3), .second, .val (.long q4), .second, .val (.long tt), .second, .val (.long dd), .second, .val (.long t2), .second, .val (.long ww), .second, .val (.ref b707), .val (.long (1 : Int64)), .second]) rfl kQ) ?_
        show own_Go p e below s _ _ _ (T787.setTop (mkF m 258 #[.val (.long p1), .second, .val (.long p2), .second, .val (.int p3), .val (.int p4), .val (.int p5), .val (.int p6), .val (.int sI), .val (.int oI), .val (.int cp), .val (.int nn), .val (.long sp), .second, .val (.long ba), .second, .val (.long q2), .second, .val (.long q3), .second, .val (.long q4), .second, .val (.long tt), .second, .val (.long dd), .second, .val (.long t2), .second, .val (.long ww), .second, .val (.ref b707), .val (.long (1 : Int64)), .second] []))
        refine own_st (fun _ kQ => XS.aload X787.here hx rfl (hb hby at_258) rfl rfl kQ) ?_
        show own_Go p e below s _ _ _ (T787.setTop (mkF m 260 #[.val (.long p1), .second, .val (.long p2), .second, .val (.int p3), .val (.int p4), .val (.int p5), .val (.int p6), .val (.int sI), .val (.int oI), .val (.int cp), .val (.int nn), .val (.long sp), .second, .val (.long ba), .second, .val (.long q2), .second, .val (.long q3), .second, .val (.long q4), .second, .val (.long tt), .second, .val (.long dd), .second, .val (.long t2), .second, .val (.long ww), .second, .val (.ref b707), .val (.long (1 : Int64)), .second] [(.ref b707)]))
        refine own_st (fun _ kQ => XS.iload X787.here hx rfl (hb hby at_260) rfl kQ) ?_
        show own_Go p e below s _ _ _ (T787.setTop (mkF m 262 #[.val (.long p1), .second, .val (.long p2), .second, .val (.int p3), .val (.int p4), .val (.int p5), .val (.int p6), .val (.int sI), .val (.int oI), .val (.int cp), .val (.int nn), .val (.long sp), .second, .val (.long ba), .second, .val (.long q2), .second, .val (.long q3), .second, .val (.long q4), .second, .val (.long tt), .second, .val (.long dd), .second, .val (.long t2), .second, .val (.long ww), .second, .val (.ref b707), .val (.long (1 : Int64)), .second] [(.int sI), (.ref b707)]))
        refine own_st (fun _ kQ => XT.lload X787.here hx rfl (hb hby at_262) rfl kQ) ?_
        show own_Go p e below s _ _ _ (T787.setTop (mkF m 264 #[.val (.long p1), .second, .val (.long p2), .second, .val (.int p3), .val (.int p4), .val (.int p5), .val (.int p6), .val (.int sI), .val (.int oI), .val (.int cp), .val (.int nn), .val (.long sp), .second, .val (.long ba), .second, .val (.long q2), .second, .val (.long q3), .second, .val (.long q4), .second, .val (.long tt), .second, .val (.long dd), .second, .val (.long t2), .second, .val (.long ww), .second, .val (.ref b707), .val (.long (1 : Int64)), .second] [(.long ww), (.int sI), (.ref b707)]))
        have F816 : Exa Z T787.heap b707 "com/example/wache/wache/AttemptTimes" := q791.exa
        obtain ⟨cq815, kq815, q815a, q815b, q815c⟩ := isOf hZ rfl F816
        obtain ⟨_, _, ⟨T815, L815, k815, n815⟩, -, X815, ⟨Lc815, hQ815, l815, y815, z815⟩, st815⟩ := X787.virtualBack hx (y := (⟨"com/example/wache/wache/AttemptTimes", "countWithin", "(IJ)J"⟩ : MethodName)) (z := (⟨"com/example/wache/wache/AttemptTimes", "countWithin", "(IJ)J"⟩ : MethodName)) hown (mvT hZ (hw _ (List.mem_of_getElem? (i := 53) rfl))) (mvT hZ (hw _ (List.mem_of_getElem? (i := 54) rfl))) (notFace_of_selects (args := #[]) (mvT hZ (hw _ (List.mem_of_getElem? (i := 56) rfl)))) (mvT hZ (hw _ (List.mem_of_getElem? (i := 56) rfl))) (mvT hZ (hw _ (List.mem_of_getElem? (i := 55) rfl))) (by decide) (backOf (W := 0) (own_rm_cw2 l Z a0 hw [] sI i b707 sp cp x717 x718 x719 x720 x721 x722 x723 x755 x756 x789 x758 x790 ww tt t2 T787.heap n0 Zs797 q791 hi wf802 q792 (q794.trans q778) q793) hZ (hw _ (List.mem_of_getElem? (i := 57) rfl)) (hw _ (List.mem_of_getElem? (i := 3) rfl)) (by decide) (by decide)) q815a q815c (g := (mkF m 264 #[.val (.long p1), .second, .val (.long p2), .second, .val (.int p3), .val (.int p4), .val (.int p5), .val (.int p6), .val (.int sI), .val (.int oI), .val (.int cp), .val (.int nn), .val (.long sp), .second, .val (.long ba), .second, .val (.long q2), .second, .val (.long q3), .second, .val (.long q4), .second, .val (.long tt), .second, .val (.long dd), .second, .val (.long t2), .second, .val (.long ww), .second, .val (.ref b707), .val (.long (1 : Int64)), .second] [(.long ww), (.int sI), (.ref b707)])) rfl (by rw [hml]; rfl) (Steps.refl _) (argsL := [(.int sI), (.long ww)]) (rest := []) (lenOf own_pd10 rfl) rfl (by show 2 * 0 + _ ≤ _; exact Nat.le_of_eq rfl) (hb hby at_264) (fun _ _ => ⟨rfl, rfl, (by decide : 10 + 0 ≤ _), (by decide : 41 + 0 ≤ _)⟩)
        dsimp only [Pt.U, Pt.locs, Pt.cells, Pt.slots] at X815 l815 y815 z815 st815 hQ815
        subst l815 y815 z815
        obtain ⟨N815q, rfl, eh815⟩ := hQ815
        have N817 := Fr.app N796 N815q
        refine own_tr st815 ?_
        show own_Go p e below s _ _ _ (T815.setTop (mkF m 267 #[.val (.long p1), .second, .val (.long p2), .second, .val (.int p3), .val (.int p4), .val (.int p5), .val (.int p6), .val (.int sI), .val (.int oI), .val (.int cp), .val (.int nn), .val (.long sp), .second, .val (.long ba), .second, .val (.long q2), .second, .val (.long q3), .second, .val (.long q4), .second, .val (.long tt), .second, .val (.long dd), .second, .val (.long t2), .second, .val (.long ww), .second, .val (.ref b707), .val (.long (1 : Int64)), .second] [(.long (((2 : Int32) - (own_minI (own_fa2 (t2 - ww) tt t2) (1 : Int32))).toInt64))]))
        refine own_st (fun _ kQ => XT.lload X815.here hx rfl (hb hby at_267) rfl kQ) ?_
        show own_Go p e below s _ _ _ (T815.setTop (mkF m 269 #[.val (.long p1), .second, .val (.long p2), .second, .val (.int p3), .val (.int p4), .val (.int p5), .val (.int p6), .val (.int sI), .val (.int oI), .val (.int cp), .val (.int nn), .val (.long sp), .second, .val (.long ba), .second, .val (.long q2), .second, .val (.long q3), .second, .val (.long q4), .second, .val (.long tt), .second, .val (.long dd), .second, .val (.long t2), .second, .val (.long ww), .second, .val (.ref b707), .val (.long (1 : Int64)), .second] [(.long (1 : Int64)), (.long (((2 : Int32) - (own_minI (own_fa2 (t2 - ww) tt t2) (1 : Int32))).toInt64))]))
        refine own_st (fun _ kQ => XT.lcmp X815.here hx rfl (hb hby at_269) rfl kQ) ?_
        show own_Go p e below s _ _ _ (T815.setTop (mkF m 270 #[.val (.long p1), .second, .val (.long p2), .second, .val (.int p3), .val (.int p4), .val (.int p5), .val (.int p6), .val (.int sI), .val (.int oI), .val (.int cp), .val (.int nn), .val (.long sp), .second, .val (.long ba), .second, .val (.long q2), .second, .val (.long q3), .second, .val (.long q4), .second, .val (.long tt), .second, .val (.long dd), .second, .val (.long t2), .second, .val (.long ww), .second, .val (.ref b707), .val (.long (1 : Int64)), .second] [(.int (XT.cmpL (((2 : Int32) - (own_minI (own_fa2 (t2 - ww) tt t2) (1 : Int32))).toInt64) (1 : Int64)))]))
        refine own_st (fun _ kQ => XS.ifNo X815.here hx rfl (hb hby at_270) rfl (XT.ll_ne_f (own_cnt2n (fun q => hc805 (hnum.2.1.mp q)))) kQ) ?_
        show own_Go p e below s _ _ _ (T815.setTop (mkF m 273 #[.val (.long p1), .second, .val (.long p2), .second, .val (.int p3), .val (.int p4), .val (.int p5), .val (.int p6), .val (.int sI), .val (.int oI), .val (.int cp), .val (.int nn), .val (.long sp), .second, .val (.long ba), .second, .val (.long q2), .second, .val (.long q3), .second, .val (.long q4), .second, .val (.long tt), .second, .val (.long dd), .second, .val (.long t2), .second, .val (.long ww), .second, .val (.ref b707), .val (.long (1 : Int64)), .second] []))
        refine own_st (fun _ kQ => XS.aload X815.here hx rfl (hb hby at_273) rfl rfl kQ) ?_
        show own_Go p e below s _ _ _ (T815.setTop (mkF m 275 #[.val (.long p1), .second, .val (.long p2), .second, .val (.int p3), .val (.int p4), .val (.int p5), .val (.int p6), .val (.int sI), .val (.int oI), .val (.int cp), .val (.int nn), .val (.long sp), .second, .val (.long ba), .second, .val (.long q2), .second, .val (.long q3), .second, .val (.long q4), .second, .val (.long tt), .second, .val (.long dd), .second, .val (.long t2), .second, .val (.long ww), .second, .val (.ref b707), .val (.long (1 : Int64)), .second] [(.ref b707)]))
        refine own_st (fun _ kQ => XS.iload X815.here hx rfl (hb hby at_275) rfl kQ) ?_
        show own_Go p e below s _ _ _ (T815.setTop (mkF m 277 #[.val (.long p1), .second, .val (.long p2), .second, .val (.int p3), .val (.int p4), .val (.int p5), .val (.int p6), .val (.int sI), .val (.int oI), .val (.int cp), .val (.int nn), .val (.long sp), .second, .val (.long ba), .second, .val (.long q2), .second, .val (.long q3), .second, .val (.long q4), .second, .val (.long tt), .second, .val (.long dd), .second, .val (.long t2), .second, .val (.long ww), .second, .val (.ref b707), .val (.long (1 : Int64)), .second] [(.int sI), (.ref b707)]))
        have F819 : Exa Z T787.heap b707 "com/example/wache/wache/AttemptTimes" := q791.exa
        obtain ⟨cq818, kq818, q818a, q818b, q818c⟩ := isOf hZ eh815 F819
        obtain ⟨_, _, ⟨T818, L818, k818, n818⟩, -, X818, ⟨Lc818, hQ818, l818, y818, z818⟩, st818⟩ := X815.virtualBack hx (y := (⟨"com/example/wache/wache/AttemptTimes", "latest", "(I)J"⟩ : MethodName)) (z := (⟨"com/example/wache/wache/AttemptTimes", "latest", "(I)J"⟩ : MethodName)) hown (mvT hZ (hw _ (List.mem_of_getElem? (i := 71) rfl))) (mvT hZ (hw _ (List.mem_of_getElem? (i := 59) rfl))) (notFace_of_selects (args := #[]) (mvT hZ (hw _ (List.mem_of_getElem? (i := 61) rfl)))) (mvT hZ (hw _ (List.mem_of_getElem? (i := 61) rfl))) (mvT hZ (hw _ (List.mem_of_getElem? (i := 60) rfl))) (by decide) (backOf (W := 0) (own_rm_latest l Z a0 hw [] sI i b707 sp cp x717 x718 x719 x720 x721 x722 x723 x755 x756 x789 x758 x790 T787.heap n0 Zs797 q791 hi (own_WF.last wf802 on803)) hZ (hw _ (List.mem_of_getElem? (i := 62) rfl)) (hw _ (List.mem_of_getElem? (i := 3) rfl)) (by decide) (by decide)) q818a q818c (g := (mkF m 277 #[.val (.long p1), .second, .val (.long p2), .second, .val (.int p3), .val (.int p4), .val (.int p5), .val (.int p6), .val (.int sI), .val (.int oI), .val (.int cp), .val (.int nn), .val (.long sp), .second, .val (.long ba), .second, .val (.long q2), .second, .val (.long q3), .second, .val (.long q4), .second, .val (.long tt), .second, .val (.long dd), .second, .val (.long t2), .second, .val (.long ww), .second, .val (.ref b707), .val (.long (1 : Int64)), .second] [(.int sI), (.ref b707)])) rfl (by rw [hml]; rfl) (Steps.refl _) (argsL := [(.int sI)]) (rest := []) (lenOf own_pd6 rfl) rfl (by show 2 * 0 + _ ≤ _; exact Nat.le_of_eq rfl) (hb hby at_277) (fun _ _ => ⟨rfl, eh815, (by decide : 10 + 0 ≤ _), (by decide : 41 + 0 ≤ _)⟩)
        dsimp only [Pt.U, Pt.locs, Pt.cells, Pt.slots] at X818 l818 y818 z818 st818 hQ818
        subst l818 y818 z818
        obtain ⟨N818q, rfl, eh818⟩ := hQ818
        have N820 := Fr.app N817 N818q
        refine own_tr st818 ?_
        show own_Go p e below s _ _ _ (T818.setTop (mkF m 280 #[.val (.long p1), .second, .val (.long p2), .second, .val (.int p3), .val (.int p4), .val (.int p5), .val (.int p6), .val (.int sI), .val (.int oI), .val (.int cp), .val (.int nn), .val (.long sp), .second, .val (.long ba), .second, .val (.long q2), .second, .val (.long q3), .second, .val (.long q4), .second, .val (.long tt), .second, .val (.long dd), .second, .val (.long t2), .second, .val (.long ww), .second, .val (.ref b707), .val (.long (1 : Int64)), .second] [(.long (x790 i (own_idx (x756 i) ((x789 i) - (1 : Int32)) (x758 i)).toNatClampNeg))]))
        refine own_st (fun _ kQ => XT.lload X818.here hx rfl (hb hby at_280) rfl kQ) ?_
        show own_Go p e below s _ _ _ (T818.setTop (mkF m 282 #[.val (.long p1), .second, .val (.long p2), .second, .val (.int p3), .val (.int p4), .val (.int p5), .val (.int p6), .val (.int sI), .val (.int oI), .val (.int cp), .val (.int nn), .val (.long sp), .second, .val (.long ba), .second, .val (.long q2), .second, .val (.long q3), .second, .val (.long q4), .second, .val (.long tt), .second, .val (.long dd), .second, .val (.long t2), .second, .val (.long ww), .second, .val (.ref b707), .val (.long (1 : Int64)), .second] [(.long t2), (.long (x790 i (own_idx (x756 i) ((x789 i) - (1 : Int32)) (x758 i)).toNatClampNeg))]))
        refine own_st (fun _ kQ => XT.lcmp X818.here hx rfl (hb hby at_282) rfl kQ) ?_
        show own_Go p e below s _ _ _ (T818.setTop (mkF m 283 #[.val (.long p1), .second, .val (.long p2), .second, .val (.int p3), .val (.int p4), .val (.int p5), .val (.int p6), .val (.int sI), .val (.int oI), .val (.int cp), .val (.int nn), .val (.long sp), .second, .val (.long ba), .second, .val (.long q2), .second, .val (.long q3), .second, .val (.long q4), .second, .val (.long tt), .second, .val (.long dd), .second, .val (.long t2), .second, .val (.long ww), .second, .val (.ref b707), .val (.long (1 : Int64)), .second] [(.int (XT.cmpL (x790 i (own_idx (x756 i) ((x789 i) - (1 : Int32)) (x758 i)).toNatClampNeg) t2))]))
        refine own_st (fun _ kQ => XS.ifNo X818.here hx rfl (hb hby at_283) rfl (XT.ll_ne_f la804) kQ) ?_
        show own_Go p e below s _ _ _ (T818.setTop (mkF m 286 #[.val (.long p1), .second, .val (.long p2), .second, .val (.int p3), .val (.int p4), .val (.int p5), .val (.int p6), .val (.int sI), .val (.int oI), .val (.int cp), .val (.int nn), .val (.long sp), .second, .val (.long ba), .second, .val (.long q2), .second, .val (.long q3), .second, .val (.long q4), .second, .val (.long tt), .second, .val (.long dd), .second, .val (.long t2), .second, .val (.long ww), .second, .val (.ref b707), .val (.long (1 : Int64)), .second] []))
        refine own_st (fun _ kQ => XS.aload X818.here hx rfl (hb hby at_286) rfl rfl kQ) ?_
        show own_Go p e below s _ _ _ (T818.setTop (mkF m 288 #[.val (.long p1), .second, .val (.long p2), .second, .val (.int p3), .val (.int p4), .val (.int p5), .val (.int p6), .val (.int sI), .val (.int oI), .val (.int cp), .val (.int nn), .val (.long sp), .second, .val (.long ba), .second, .val (.long q2), .second, .val (.long q3), .second, .val (.long q4), .second, .val (.long tt), .second, .val (.long dd), .second, .val (.long t2), .second, .val (.long ww), .second, .val (.ref b707), .val (.long (1 : Int64)), .second] [(.ref b707)]))
        refine own_st (fun _ kQ => XS.iload X818.here hx rfl (hb hby at_288) rfl kQ) ?_
        show own_Go p e below s _ _ _ (T818.setTop (mkF m 290 #[.val (.long p1), .second, .val (.long p2), .second, .val (.int p3), .val (.int p4), .val (.int p5), .val (.int p6), .val (.int sI), .val (.int oI), .val (.int cp), .val (.int nn), .val (.long sp), .second, .val (.long ba), .second, .val (.long q2), .second, .val (.long q3), .second, .val (.long q4), .second, .val (.long tt), .second, .val (.long dd), .second, .val (.long t2), .second, .val (.long ww), .second, .val (.ref b707), .val (.long (1 : Int64)), .second] [(.int oI), (.ref b707)]))
        have F822 : Exa Z T787.heap b707 "com/example/wache/wache/AttemptTimes" := q791.exa
        obtain ⟨cq821, kq821, q821a, q821b, q821c⟩ := isOf hZ eh818 F822
        obtain ⟨_, _, ⟨T821, L821, k821, n821⟩, -, X821, ⟨Lc821, hQ821, l821, y821, z821⟩, st821⟩ := X818.virtualBack hx (y := (⟨"com/example/wache/wache/AttemptTimes", "latest", "(I)J"⟩ : MethodName)) (z := (⟨"com/example/wache/wache/AttemptTimes", "latest", "(I)J"⟩ : MethodName)) hown (mvT hZ (hw _ (List.mem_of_getElem? (i := 71) rfl))) (mvT hZ (hw _ (List.mem_of_getElem? (i := 59) rfl))) (notFace_of_selects (args := #[]) (mvT hZ (hw _ (List.mem_of_getElem? (i := 61) rfl)))) (mvT hZ (hw _ (List.mem_of_getElem? (i := 61) rfl))) (mvT hZ (hw _ (List.mem_of_getElem? (i := 60) rfl))) (by decide) (backOf (W := 0) (own_rm_latest l Z a0 hw [] oI j b707 sp cp x717 x718 x719 x720 x721 x722 x723 x755 x756 x789 x758 x790 T787.heap n0 Zs797 q791 hj (own_WF.last wf799 on800)) hZ (hw _ (List.mem_of_getElem? (i := 62) rfl)) (hw _ (List.mem_of_getElem? (i := 3) rfl)) (by decide) (by decide)) q821a q821c (g := (mkF m 290 #[.val (.long p1), .second, .val (.long p2), .second, .val (.int p3), .val (.int p4), .val (.int p5), .val (.int p6), .val (.int sI), .val (.int oI), .val (.int cp), .val (.int nn), .val (.long sp), .second, .val (.long ba), .second, .val (.long q2), .second, .val (.long q3), .second, .val (.long q4), .second, .val (.long tt), .second, .val (.long dd), .second, .val (.long t2), .second, .val (.long ww), .second, .val (.ref b707), .val (.long (1 : Int64)), .second] [(.int oI), (.ref b707)])) rfl (by rw [hml]; rfl) (Steps.refl _) (argsL := [(.int oI)]) (rest := []) (lenOf own_pd6 rfl) rfl (by show 2 * 0 + _ ≤ _; exact Nat.le_of_eq rfl) (hb hby at_290) (fun _ _ => ⟨rfl, eh818, (by decide : 10 + 0 ≤ _), (by decide : 41 + 0 ≤ _)⟩)
        dsimp only [Pt.U, Pt.locs, Pt.cells, Pt.slots] at X821 l821 y821 z821 st821 hQ821
        subst l821 y821 z821
        obtain ⟨N821q, rfl, eh821⟩ := hQ821
        have N823 := Fr.app N820 N821q
        refine own_tr st821 ?_
        show own_Go p e below s _ _ _ (T821.setTop (mkF m 293 #[.val (.long p1), .second, .val (.long p2), .second, .val (.int p3), .val (.int p4), .val (.int p5), .val (.int p6), .val (.int sI), .val (.int oI), .val (.int cp), .val (.int nn), .val (.long sp), .second, .val (.long ba), .second, .val (.long q2), .second, .val (.long q3), .second, .val (.long q4), .second, .val (.long tt), .second, .val (.long dd), .second, .val (.long t2), .second, .val (.long ww), .second, .val (.ref b707), .val (.long (1 : Int64)), .second] [(.long (x790 j (own_idx (x756 j) ((x789 j) - (1 : Int32)) (x758 j)).toNatClampNeg))]))
        refine own_st (fun _ kQ => XT.lload X821.here hx rfl (hb hby at_293) rfl kQ) ?_
        show own_Go p e below s _ _ _ (T821.setTop (mkF m 295 #[.val (.long p1), .second, .val (.long p2), .second, .val (.int p3), .val (.int p4), .val (.int p5), .val (.int p6), .val (.int sI), .val (.int oI), .val (.int cp), .val (.int nn), .val (.long sp), .second, .val (.long ba), .second, .val (.long q2), .second, .val (.long q3), .second, .val (.long q4), .second, .val (.long tt), .second, .val (.long dd), .second, .val (.long t2), .second, .val (.long ww), .second, .val (.ref b707), .val (.long (1 : Int64)), .second] [(.long ba), (.long (x790 j (own_idx (x756 j) ((x789 j) - (1 : Int32)) (x758 j)).toNatClampNeg))]))
        refine own_st (fun _ kQ => XT.lcmp X821.here hx rfl (hb hby at_295) rfl kQ) ?_
        show own_Go p e below s _ _ _ (T821.setTop (mkF m 296 #[.val (.long p1), .second, .val (.long p2), .second, .val (.int p3), .val (.int p4), .val (.int p5), .val (.int p6), .val (.int sI), .val (.int oI), .val (.int cp), .val (.int nn), .val (.long sp), .second, .val (.long ba), .second, .val (.long q2), .second, .val (.long q3), .second, .val (.long q4), .second, .val (.long tt), .second, .val (.long dd), .second, .val (.long t2), .second, .val (.long ww), .second, .val (.ref b707), .val (.long (1 : Int64)), .second] [(.int (XT.cmpL (x790 j (own_idx (x756 j) ((x789 j) - (1 : Int32)) (x758 j)).toNatClampNeg) ba))]))
        refine own_st (fun _ kQ => XS.ifNo X821.here hx rfl (hb hby at_296) rfl (XT.ll_ne_f la801) kQ) ?_
        show own_Go p e below s _ _ _ (T821.setTop (mkF m 299 #[.val (.long p1), .second, .val (.long p2), .second, .val (.int p3), .val (.int p4), .val (.int p5), .val (.int p6), .val (.int sI), .val (.int oI), .val (.int cp), .val (.int nn), .val (.long sp), .second, .val (.long ba), .second, .val (.long q2), .second, .val (.long q3), .second, .val (.long q4), .second, .val (.long tt), .second, .val (.long dd), .second, .val (.long t2), .second, .val (.long ww), .second, .val (.ref b707), .val (.long (1 : Int64)), .second] []))
        refine own_st (fun _ kQ => XT.iconstV X821.here hx rfl (1 : Int32) (hb hby at_299) (by decide) kQ) ?_
        show own_Go p e below s _ _ _ (T821.setTop (mkF m 300 #[.val (.long p1), .second, .val (.long p2), .second, .val (.int p3), .val (.int p4), .val (.int p5), .val (.int p6), .val (.int sI), .val (.int oI), .val (.int cp), .val (.int nn), .val (.long sp), .second, .val (.long ba), .second, .val (.long q2), .second, .val (.long q3), .second, .val (.long q4), .second, .val (.long tt), .second, .val (.long dd), .second, .val (.long t2), .second, .val (.long ww), .second, .val (.ref b707), .val (.long (1 : Int64)), .second] [(.int (1 : Int32))]))
        refine own_st (fun _ kQ => XS.goto X821.here hx rfl (pc0 := 300) (pc' := 304) rfl (hb hby at_300) (by decide) (by decide) kQ) ?_
        show own_Go p e below s _ _ _ (T821.setTop (mkF m 304 #[.val (.long p1), .second, .val (.long p2), .second, .val (.int p3), .val (.int p4), .val (.int p5), .val (.int p6), .val (.int sI), .val (.int oI), .val (.int cp), .val (.int nn), .val (.long sp), .second, .val (.long ba), .second, .val (.long q2), .second, .val (.long q3), .second, .val (.long q4), .second, .val (.long tt), .second, .val (.long dd), .second, .val (.long t2), .second, .val (.long ww), .second, .val (.ref b707), .val (.long (1 : Int64)), .second] [(.int (1 : Int32))]))
        refine own_retN X821 hx hlk Bd.returns (t := .boolean) (z' := (1 : Int32)) (by simp) (by decide) (hb hby at_304) (by decide) (by decide) ?_
        rw [eh821]
        exact ⟨N823, rfl⟩
    · skip
      show own_Go p e below s _ _ _ (T772.setTop (mkF m 230 #[.val (.long p1), .second, .val (.long p2), .second, .val (.int p3), .val (.int p4), .val (.int p5), .val (.int p6), .val (.int sI), .val (.int oI), .val (.int cp), .val (.int nn), .val (.long sp), .second, .val (.long ba), .second, .val (.long q2), .second, .val (.long q3), .second, .val (.long q4), .second, .val (.long tt), .second, .val (.long dd), .second, .val (.long t2), .second, .val (.long ww), .second, .val (.ref b707), .unset, .unset] [(.long t2), (.int sI), (.ref b707)]))
      have F825 : Exa Z T772.heap b707 "com/example/wache/wache/AttemptTimes" := q776.exa
      obtain ⟨cq824, kq824, q824a, q824b, q824c⟩ := isOf hZ rfl F825
      obtain ⟨_, _, ⟨T824, L824, k824, n824⟩, -, X824, ⟨Lc824, hQ824, l824, y824, z824⟩, st824⟩ := X772.virtualBack hx (y := (⟨"com/example/wache/wache/AttemptTimes", "add", "(IJ)V"⟩ : MethodName)) (z := (⟨"com/example/wache/wache/AttemptTimes", "add", "(IJ)V"⟩ : MethodName)) hown (mvT hZ (hw _ (List.mem_of_getElem? (i := 26) rfl))) (mvT hZ (hw _ (List.mem_of_getElem? (i := 27) rfl))) (notFace_of_selects (args := #[]) (mvT hZ (hw _ (List.mem_of_getElem? (i := 29) rfl)))) (mvT hZ (hw _ (List.mem_of_getElem? (i := 29) rfl))) (mvT hZ (hw _ (List.mem_of_getElem? (i := 28) rfl))) (by decide) (backOf (W := 0) (own_rm_addO2 l Z a0 hw [] sI i b707 sp cp x717 x718 x719 x720 x721 x722 x723 x755 x756 x774 x758 x775 t2 T772.heap n0 Zs781 q776 hi wf786 q777 q761 q763 (by rw [q778]; exact hg0)) hZ (hw _ (List.mem_of_getElem? (i := 30) rfl)) (hw _ (List.mem_of_getElem? (i := 3) rfl)) (by decide) (by decide)) q824a q824c (g := (mkF m 230 #[.val (.long p1), .second, .val (.long p2), .second, .val (.int p3), .val (.int p4), .val (.int p5), .val (.int p6), .val (.int sI), .val (.int oI), .val (.int cp), .val (.int nn), .val (.long sp), .second, .val (.long ba), .second, .val (.long q2), .second, .val (.long q3), .second, .val (.long q4), .second, .val (.long tt), .second, .val (.long dd), .second, .val (.long t2), .second, .val (.long ww), .second, .val (.ref b707), .unset, .unset] [(.long t2), (.int sI), (.ref b707)])) rfl (by rw [hml]; rfl) (Steps.refl _) (argsL := [(.int sI), (.long t2)]) (rest := []) (lenOf own_pd9 rfl) rfl (by show 2 * 0 + _ ≤ _; exact Nat.le_of_eq rfl) (hb hby at_230) (fun _ _ => ⟨rfl, rfl, (by decide : 10 + 0 ≤ _), (by decide : 41 + 0 ≤ _)⟩)
      dsimp only [Pt.U, Pt.locs, Pt.cells, Pt.slots] at X824 l824 y824 z824 st824 hQ824
      subst l824 y824 z824
      obtain ⟨x826, x827, x828, N824q, rfl, q829, q830, q831, q832, q833⟩ := hQ824
      have N834 := Fr.app N780 N824q
      refine own_tr st824 ?_
      have Zs835 : n0 ≤ T824.heap.size := q829.szle
      show own_Go p e below s _ _ _ (T824.setTop (mkF m 233 #[.val (.long p1), .second, .val (.long p2), .second, .val (.int p3), .val (.int p4), .val (.int p5), .val (.int p6), .val (.int sI), .val (.int oI), .val (.int cp), .val (.int nn), .val (.long sp), .second, .val (.long ba), .second, .val (.long q2), .second, .val (.long q3), .second, .val (.long q4), .second, .val (.long tt), .second, .val (.long dd), .second, .val (.long t2), .second, .val (.long ww), .second, .val (.ref b707), .unset, .unset] []))
      have oq836 := q833 j hji
      have wf837 : own_WF cp (x826 j) (x827 j) (x758 j) := by rw [oq836.1, oq836.2.1]; exact wf783
      have on838 : 1 ≤ (x827 j).toInt := by rw [oq836.2.1]; exact on784
      have la839 : x828 j (own_idx (x826 j) ((x827 j) - (1 : Int32)) (x758 j)).toNatClampNeg = ba := by rw [oq836.2.2, oq836.1, oq836.2.1]; exact la785
      have wf840 : own_WF cp (x826 i) (x827 i) (x758 i) := by rw [q830, q831, q763]; exact ⟨by decide, by decide, by decide, by have e : (2 : Int32).toInt = 2 := (by decide); omega, by decide, by decide, hcp.2⟩
      have on841 : 1 ≤ (x827 i).toInt := by rw [q831]; decide
      have la842 : x828 i (own_idx (x826 i) ((x827 i) - (1 : Int32)) (x758 i)).toNatClampNeg = t2 := by rw [q831]; exact q832
      refine own_st (fun _ kQ => XT.lload X824.here hx rfl (hb hby at_233) rfl kQ) ?_
      show own_Go p e below s _ _ _ (T824.setTop (mkF m 235 #[.val (.long p1), .second, .val (.long p2), .second, .val (.int p3), .val (.int p4), .val (.int p5), .val (.int p6), .val (.int sI), .val (.int oI), .val (.int cp), .val (.int nn), .val (.long sp), .second, .val (.long ba), .second, .val (.long q2), .second, .val (.long q3), .second, .val (.long q4), .second, .val (.long tt), .second, .val (.long dd), .second, .val (.long t2), .second, .val (.long ww), .second, .val (.ref b707), .unset, .unset] [(.long dd)]))
      refine own_st (fun _ kQ => XT.lload X824.here hx rfl (hb hby at_235) rfl kQ) ?_
      show own_Go p e below s _ _ _ (T824.setTop (mkF m 237 #[.val (.long p1), .second, .val (.long p2), .second, .val (.int p3), .val (.int p4), .val (.int p5), .val (.int p6), .val (.int sI), .val (.int oI), .val (.int cp), .val (.int nn), .val (.long sp), .second, .val (.long ba), .second, .val (.long q2), .second, .val (.long q3), .second, .val (.long q4), .second, .val (.long tt), .second, .val (.long dd), .second, .val (.long t2), .second, .val (.long ww), .second, .val (.ref b707), .unset, .unset] [(.long sp), (.long dd)]))
      refine own_st (fun _ kQ => XT.lcmp X824.here hx rfl (hb hby at_237) rfl kQ) ?_
      show own_Go p e below s _ _ _ (T824.setTop (mkF m 238 #[.val (.long p1), .second, .val (.long p2), .second, .val (.int p3), .val (.int p4), .val (.int p5), .val (.int p6), .val (.int sI), .val (.int oI), .val (.int cp), .val (.int nn), .val (.long sp), .second, .val (.long ba), .second, .val (.long q2), .second, .val (.long q3), .second, .val (.long q4), .second, .val (.long tt), .second, .val (.long dd), .second, .val (.long t2), .second, .val (.long ww), .second, .val (.ref b707), .unset, .unset] [(.int (XT.cmpL dd sp))]))
      refine own_st (fun _ kQ => XS.ifYes X824.here hx rfl (pc0 := 238) (pc' := 255) rfl (hb hby at_238) rfl (XT.ll_ge_t (fun q => hg0 (hnum.1.mpr q))) (by decide) (by decide) kQ) ?_
      show own_Go p e below s _ _ _ (T824.setTop (mkF m 255 #[.val (.long p1), .second, .val (.long p2), .second, .val (.int p3), .val (.int p4), .val (.int p5), .val (.int p6), .val (.int sI), .val (.int oI), .val (.int cp), .val (.int nn), .val (.long sp), .second, .val (.long ba), .second, .val (.long q2), .second, .val (.long q3), .second, .val (.long q4), .second, .val (.long tt), .second, .val (.long dd), .second, .val (.long t2), .second, .val (.long ww), .second, .val (.ref b707), .unset, .unset] []))
      refine own_st (fun _ kQ => XT.lconstV X824.here hx rfl (1 : Int64) (hb hby at_255) (by decide) kQ) ?_
      show own_Go p e below s _ _ _ (T824.setTop (mkF m 256 #[.val (.long p1), .second, .val (.long p2), .second, .val (.int p3), .val (.int p4), .val (.int p5), .val (.int p6), .val (.int sI), .val (.int oI), .val (.int cp), .val (.int nn), .val (.long sp), .second, .val (.long ba), .second, .val (.long q2), .second, .val (.long q3), .second, .val (.long q4), .second, .val (.long tt), .second, .val (.long dd), .second, .val (.long t2), .second, .val (.long ww), .second, .val (.ref b707), .unset, .unset] [(.long (1 : Int64))]))
      refine own_st (fun _ kQ => XT.lstore X824.here hx rfl (hb hby at_256) rfl (l' := #[.val (.long p1), .second, .val (.long p2), .second, .val (.int p3), .val (.int p4), .val (.int p5), .val (.int p6), .val (.int sI), .val (.int oI), .val (.int cp), .val (.int nn), .val (.long sp), .second, .val (.long ba), .second, .val (.long q2), .second, .val (.long q3), .second, .val (.long q4), .second, .val (.long tt), .second, .val (.long dd), .second, .val (.long t2), .second, .val (.long ww), .second, .val (.ref b707), .val (.long (1 : Int64)), .second]) rfl kQ) ?_
      show own_Go p e below s _ _ _ (T824.setTop (mkF m 258 #[.val (.long p1), .second, .val (.long p2), .second, .val (.int p3), .val (.int p4), .val (.int p5), .val (.int p6), .val (.int sI), .val (.int oI), .val (.int cp), .val (.int nn), .val (.long sp), .second, .val (.long ba), .second, .val (.long q2), .second, .val (.long q3), .second, .val (.long q4), .second, .val (.long tt), .second, .val (.long dd), .second, .val (.long t2), .second, .val (.long ww), .second, .val (.ref b707), .val (.long (1 : Int64)), .second] []))
      refine own_st (fun _ kQ => XS.aload X824.here hx rfl (hb hby at_258) rfl rfl kQ) ?_
      show own_Go p e below s _ _ _ (T824.setTop (mkF m 260 #[.val (.long p1), .second, .val (.long p2), .second, .val (.int p3), .val (.int p4), .val (.int p5), .val (.int p6), .val (.int sI), .val (.int oI), .val (.int cp), .val (.int nn), .val (.long sp), .second, .val (.long ba), .second, .val (.long q2), .second, .val (.long q3), .second, .val (.long q4), .second, .val (.long tt), .second, .val (.long dd), .second, .val (.long t2), .second, .val (.long ww), .second, .val (.ref b707), .val (.long (1 : Int64)), .second] [(.ref b707)]))
      refine own_st (fun _ kQ => XS.iload X824.here hx rfl (hb hby at_260) rfl kQ) ?_
      show own_Go p e below s _ _ _ (T824.setTop (mkF m 262 #[.val (.long p1), .second, .val (.long p2), .second, .val (.int p3), .val (.int p4), .val (.int p5), .val (.int p6), .val (.int sI), .val (.int oI), .val (.int cp), .val (.int nn), .val (.long sp), .second, .val (.long ba), .second, .val (.long q2), .second, .val (.long q3), .second, .val (.long q4), .second, .val (.long tt), .second, .val (.long dd), .second, .val (.long t2), .second, .val (.long ww), .second, .val (.ref b707), .val (.long (1 : Int64)), .second] [(.int sI), (.ref b707)]))
      refine own_st (fun _ kQ => XT.lload X824.here hx rfl (hb hby at_262) rfl kQ) ?_
      show own_Go p e below s _ _ _ (T824.setTop (mkF m 264 #[.val (.long p1), .second, .val (.long p2), .second, .val (.int p3), .val (.int p4), .val (.int p5), .val (.int p6), .val (.int sI), .val (.int oI), .val (.int cp), .val (.int nn), .val (.long sp), .second, .val (.long ba), .second, .val (.long q2), .second, .val (.long q3), .second, .val (.long q4), .second, .val (.long tt), .second, .val (.long dd), .second, .val (.long t2), .second, .val (.long ww), .second, .val (.ref b707), .val (.long (1 : Int64)), .second] [(.long ww), (.int sI), (.ref b707)]))
      have F844 : Exa Z T824.heap b707 "com/example/wache/wache/AttemptTimes" := q829.exa
      obtain ⟨cq843, kq843, q843a, q843b, q843c⟩ := isOf hZ rfl F844
      obtain ⟨_, _, ⟨T843, L843, k843, n843⟩, -, X843, ⟨Lc843, hQ843, l843, y843, z843⟩, st843⟩ := X824.virtualBack hx (y := (⟨"com/example/wache/wache/AttemptTimes", "countWithin", "(IJ)J"⟩ : MethodName)) (z := (⟨"com/example/wache/wache/AttemptTimes", "countWithin", "(IJ)J"⟩ : MethodName)) hown (mvT hZ (hw _ (List.mem_of_getElem? (i := 53) rfl))) (mvT hZ (hw _ (List.mem_of_getElem? (i := 54) rfl))) (notFace_of_selects (args := #[]) (mvT hZ (hw _ (List.mem_of_getElem? (i := 56) rfl)))) (mvT hZ (hw _ (List.mem_of_getElem? (i := 56) rfl))) (mvT hZ (hw _ (List.mem_of_getElem? (i := 55) rfl))) (by decide) (backOf (W := 0) (own_rm_cw1 l Z a0 hw [] sI i b707 sp cp x717 x718 x719 x720 x721 x722 x723 x755 x826 x827 x758 x828 ww t2 T824.heap n0 Zs835 q829 hi wf840 q831 q832) hZ (hw _ (List.mem_of_getElem? (i := 57) rfl)) (hw _ (List.mem_of_getElem? (i := 3) rfl)) (by decide) (by decide)) q843a q843c (g := (mkF m 264 #[.val (.long p1), .second, .val (.long p2), .second, .val (.int p3), .val (.int p4), .val (.int p5), .val (.int p6), .val (.int sI), .val (.int oI), .val (.int cp), .val (.int nn), .val (.long sp), .second, .val (.long ba), .second, .val (.long q2), .second, .val (.long q3), .second, .val (.long q4), .second, .val (.long tt), .second, .val (.long dd), .second, .val (.long t2), .second, .val (.long ww), .second, .val (.ref b707), .val (.long (1 : Int64)), .second] [(.long ww), (.int sI), (.ref b707)])) rfl (by rw [hml]; rfl) (Steps.refl _) (argsL := [(.int sI), (.long ww)]) (rest := []) (lenOf own_pd10 rfl) rfl (by show 2 * 0 + _ ≤ _; exact Nat.le_of_eq rfl) (hb hby at_264) (fun _ _ => ⟨rfl, rfl, (by decide : 10 + 0 ≤ _), (by decide : 41 + 0 ≤ _)⟩)
      dsimp only [Pt.U, Pt.locs, Pt.cells, Pt.slots] at X843 l843 y843 z843 st843 hQ843
      subst l843 y843 z843
      obtain ⟨N843q, rfl, eh843⟩ := hQ843
      have N845 := Fr.app N834 N843q
      refine own_tr st843 ?_
      show own_Go p e below s _ _ _ (T843.setTop (mkF m 267 #[.val (.long p1), .second, .val (.long p2), .second, .val (.int p3), .val (.int p4), .val (.int p5), .val (.int p6), .val (.int sI), .val (.int oI), .val (.int cp), .val (.int nn), .val (.long sp), .second, .val (.long ba), .second, .val (.long q2), .second, .val (.long q3), .second, .val (.long q4), .second, .val (.long tt), .second, .val (.long dd), .second, .val (.long t2), .second, .val (.long ww), .second, .val (.ref b707), .val (.long (1 : Int64)), .second] [(.long (((1 : Int32) - (own_minI (own_fa1 (t2 - ww) t2) (0 : Int32))).toInt64))]))
      refine own_st (fun _ kQ => XT.lload X843.here hx rfl (hb hby at_267) rfl kQ) ?_
      show own_Go p e below s _ _ _ (T843.setTop (mkF m 269 #[.val (.long p1), .second, .val (.long p2), .second, .val (.int p3), .val (.int p4), .val (.int p5), .val (.int p6), .val (.int sI), .val (.int oI), .val (.int cp), .val (.int nn), .val (.long sp), .second, .val (.long ba), .second, .val (.long q2), .second, .val (.long q3), .second, .val (.long q4), .second, .val (.long tt), .second, .val (.long dd), .second, .val (.long t2), .second, .val (.long ww), .second, .val (.ref b707), .val (.long (1 : Int64)), .second] [(.long (1 : Int64)), (.long (((1 : Int32) - (own_minI (own_fa1 (t2 - ww) t2) (0 : Int32))).toInt64))]))
      refine own_st (fun _ kQ => XT.lcmp X843.here hx rfl (hb hby at_269) rfl kQ) ?_
      show own_Go p e below s _ _ _ (T843.setTop (mkF m 270 #[.val (.long p1), .second, .val (.long p2), .second, .val (.int p3), .val (.int p4), .val (.int p5), .val (.int p6), .val (.int sI), .val (.int oI), .val (.int cp), .val (.int nn), .val (.long sp), .second, .val (.long ba), .second, .val (.long q2), .second, .val (.long q3), .second, .val (.long q4), .second, .val (.long tt), .second, .val (.long dd), .second, .val (.long t2), .second, .val (.long ww), .second, .val (.ref b707), .val (.long (1 : Int64)), .second] [(.int (XT.cmpL (((1 : Int32) - (own_minI (own_fa1 (t2 - ww) t2) (0 : Int32))).toInt64) (1 : Int64)))]))
      refine own_st (fun _ kQ => XS.ifNo X843.here hx rfl (hb hby at_270) rfl (XT.ll_ne_f own_cnt1) kQ) ?_
      show own_Go p e below s _ _ _ (T843.setTop (mkF m 273 #[.val (.long p1), .second, .val (.long p2), .second, .val (.int p3), .val (.int p4), .val (.int p5), .val (.int p6), .val (.int sI), .val (.int oI), .val (.int cp), .val (.int nn), .val (.long sp), .second, .val (.long ba), .second, .val (.long q2), .second, .val (.long q3), .second, .val (.long q4), .second, .val (.long tt), .second, .val (.long dd), .second, .val (.long t2), .second, .val (.long ww), .second, .val (.ref b707), .val (.long (1 : Int64)), .second] []))
      refine own_st (fun _ kQ => XS.aload X843.here hx rfl (hb hby at_273) rfl rfl kQ) ?_
      show own_Go p e below s _ _ _ (T843.setTop (mkF m 275 #[.val (.long p1), .second, .val (.long p2), .second, .val (.int p3), .val (.int p4), .val (.int p5), .val (.int p6), .val (.int sI), .val (.int oI), .val (.int cp), .val (.int nn), .val (.long sp), .second, .val (.long ba), .second, .val (.long q2), .second, .val (.long q3), .second, .val (.long q4), .second, .val (.long tt), .second, .val (.long dd), .second, .val (.long t2), .second, .val (.long ww), .second, .val (.ref b707), .val (.long (1 : Int64)), .second] [(.ref b707)]))
      refine own_st (fun _ kQ => XS.iload X843.here hx rfl (hb hby at_275) rfl kQ) ?_
      show own_Go p e below s _ _ _ (T843.setTop (mkF m 277 #[.val (.long p1), .second, .val (.long p2), .second, .val (.int p3), .val (.int p4), .val (.int p5), .val (.int p6), .val (.int sI), .val (.int oI), .val (.int cp), .val (.int nn), .val (.long sp), .second, .val (.long ba), .second, .val (.long q2), .second, .val (.long q3), .second, .val (.long q4), .second, .val (.long tt), .second, .val (.long dd), .second, .val (.long t2), .second, .val (.long ww), .second, .val (.ref b707), .val (.long (1 : Int64)), .second] [(.int sI), (.ref b707)]))
      have F847 : Exa Z T824.heap b707 "com/example/wache/wache/AttemptTimes" := q829.exa
      obtain ⟨cq846, kq846, q846a, q846b, q846c⟩ := isOf hZ eh843 F847
      obtain ⟨_, _, ⟨T846, L846, k846, n846⟩, -, X846, ⟨Lc846, hQ846, l846, y846, z846⟩, st846⟩ := X843.virtualBack hx (y := (⟨"com/example/wache/wache/AttemptTimes", "latest", "(I)J"⟩ : MethodName)) (z := (⟨"com/example/wache/wache/AttemptTimes", "latest", "(I)J"⟩ : MethodName)) hown (mvT hZ (hw _ (List.mem_of_getElem? (i := 71) rfl))) (mvT hZ (hw _ (List.mem_of_getElem? (i := 59) rfl))) (notFace_of_selects (args := #[]) (mvT hZ (hw _ (List.mem_of_getElem? (i := 61) rfl)))) (mvT hZ (hw _ (List.mem_of_getElem? (i := 61) rfl))) (mvT hZ (hw _ (List.mem_of_getElem? (i := 60) rfl))) (by decide) (backOf (W := 0) (own_rm_latest l Z a0 hw [] sI i b707 sp cp x717 x718 x719 x720 x721 x722 x723 x755 x826 x827 x758 x828 T824.heap n0 Zs835 q829 hi (own_WF.last wf840 on841)) hZ (hw _ (List.mem_of_getElem? (i := 62) rfl)) (hw _ (List.mem_of_getElem? (i := 3) rfl)) (by decide) (by decide)) q846a q846c (g := (mkF m 277 #[.val (.long p1), .second, .val (.long p2), .second, .val (.int p3), .val (.int p4), .val (.int p5), .val (.int p6), .val (.int sI), .val (.int oI), .val (.int cp), .val (.int nn), .val (.long sp), .second, .val (.long ba), .second, .val (.long q2), .second, .val (.long q3), .second, .val (.long q4), .second, .val (.long tt), .second, .val (.long dd), .second, .val (.long t2), .second, .val (.long ww), .second, .val (.ref b707), .val (.long (1 : Int64)), .second] [(.int sI), (.ref b707)])) rfl (by rw [hml]; rfl) (Steps.refl _) (argsL := [(.int sI)]) (rest := []) (lenOf own_pd6 rfl) rfl (by show 2 * 0 + _ ≤ _; exact Nat.le_of_eq rfl) (hb hby at_277) (fun _ _ => ⟨rfl, eh843, (by decide : 10 + 0 ≤ _), (by decide : 41 + 0 ≤ _)⟩)
      dsimp only [Pt.U, Pt.locs, Pt.cells, Pt.slots] at X846 l846 y846 z846 st846 hQ846
      subst l846 y846 z846
      obtain ⟨N846q, rfl, eh846⟩ := hQ846
      have N848 := Fr.app N845 N846q
      refine own_tr st846 ?_
      show own_Go p e below s _ _ _ (T846.setTop (mkF m 280 #[.val (.long p1), .second, .val (.long p2), .second, .val (.int p3), .val (.int p4), .val (.int p5), .val (.int p6), .val (.int sI), .val (.int oI), .val (.int cp), .val (.int nn), .val (.long sp), .second, .val (.long ba), .second, .val (.long q2), .second, .val (.long q3), .second, .val (.long q4), .second, .val (.long tt), .second, .val (.long dd), .second, .val (.long t2), .second, .val (.long ww), .second, .val (.ref b707), .val (.long (1 : Int64)), .second] [(.long (x828 i (own_idx (x826 i) ((x827 i) - (1 : Int32)) (x758 i)).toNatClampNeg))]))
      refine own_st (fun _ kQ => XT.lload X846.here hx rfl (hb hby at_280) rfl kQ) ?_
      show own_Go p e below s _ _ _ (T846.setTop (mkF m 282 #[.val (.long p1), .second, .val (.long p2), .second, .val (.int p3), .val (.int p4), .val (.int p5), .val (.int p6), .val (.int sI), .val (.int oI), .val (.int cp), .val (.int nn), .val (.long sp), .second, .val (.long ba), .second, .val (.long q2), .second, .val (.long q3), .second, .val (.long q4), .second, .val (.long tt), .second, .val (.long dd), .second, .val (.long t2), .second, .val (.long ww), .second, .val (.ref b707), .val (.long (1 : Int64)), .second] [(.long t2), (.long (x828 i (own_idx (x826 i) ((x827 i) - (1 : Int32)) (x758 i)).toNatClampNeg))]))
      refine own_st (fun _ kQ => XT.lcmp X846.here hx rfl (hb hby at_282) rfl kQ) ?_
      show own_Go p e below s _ _ _ (T846.setTop (mkF m 283 #[.val (.long p1), .second, .val (.long p2), .second, .val (.int p3), .val (.int p4), .val (.int p5), .val (.int p6), .val (.int sI), .val (.int oI), .val (.int cp), .val (.int nn), .val (.long sp), .second, .val (.long ba), .second, .val (.long q2), .second, .val (.long q3), .second, .val (.long q4), .second, .val (.long tt), .second, .val (.long dd), .second, .val (.long t2), .second, .val (.long ww), .second, .val (.ref b707), .val (.long (1 : Int64)), .second] [(.int (XT.cmpL (x828 i (own_idx (x826 i) ((x827 i) - (1 : Int32)) (x758 i)).toNatClampNeg) t2))]))
      refine own_st (fun _ kQ => XS.ifNo X846.here hx rfl (hb hby at_283) rfl (XT.ll_ne_f la842) kQ) ?_
      show own_Go p e below s _ _ _ (T846.setTop (mkF m 286 #[.val (.long p1), .second, .val (.long p2), .second, .val (.int p3), .val (.int p4), .val (.int p5), .val (.int p6), .val (.int sI), .val (.int oI), .val (.int cp), .val (.int nn), .val (.long sp), .second, .val (.long ba), .second, .val (.long q2), .second, .val (.long q3), .second, .val (.long q4), .second, .val (.long tt), .second, .val (.long dd), .second, .val (.long t2), .second, .val (.long ww), .second, .val (.ref b707), .val (.long (1 : Int64)), .second] []))
      refine own_st (fun _ kQ => XS.aload X846.here hx rfl (hb hby at_286) rfl rfl kQ) ?_
      show own_Go p e below s _ _ _ (T846.setTop (mkF m 288 #[.val (.long p1), .second, .val (.long p2), .second, .val (.int p3), .val (.int p4), .val (.int p5), .val (.int p6), .val (.int sI), .val (.int oI), .val (.int cp), .val (.int nn), .val (.long sp), .second, .val (.long ba), .second, .val (.long q2), .second, .val (.long q3), .second, .val (.long q4), .second, .val (.long tt), .second, .val (.long dd), .second, .val (.long t2), .second, .val (.long ww), .second, .val (.ref b707), .val (.long (1 : Int64)), .second] [(.ref b707)]))
      refine own_st (fun _ kQ => XS.iload X846.here hx rfl (hb hby at_288) rfl kQ) ?_
      show own_Go p e below s _ _ _ (T846.setTop (mkF m 290 #[.val (.long p1), .second, .val (.long p2), .second, .val (.int p3), .val (.int p4), .val (.int p5), .val (.int p6), .val (.int sI), .val (.int oI), .val (.int cp), .val (.int nn), .val (.long sp), .second, .val (.long ba), .second, .val (.long q2), .second, .val (.long q3), .second, .val (.long q4), .second, .val (.long tt), .second, .val (.long dd), .second, .val (.long t2), .second, .val (.long ww), .second, .val (.ref b707), .val (.long (1 : Int64)), .second] [(.int oI), (.ref b707)]))
      have F850 : Exa Z T824.heap b707 "com/example/wache/wache/AttemptTimes" := q829.exa
      obtain ⟨cq849, kq849, q849a, q849b, q849c⟩ := isOf hZ eh846 F850
      obtain ⟨_, _, ⟨T849, L849, k849, n849⟩, -, X849, ⟨Lc849, hQ849, l849, y849, z849⟩, st849⟩ := X846.virtualBack hx (y := (⟨"com/example/wache/wache/AttemptTimes", "latest", "(I)J"⟩ : MethodName)) (z := (⟨"com/example/wache/wache/AttemptTimes", "latest", "(I)J"⟩ : MethodName)) hown (mvT hZ (hw _ (List.mem_of_getElem? (i := 71) rfl))) (mvT hZ (hw _ (List.mem_of_getElem? (i := 59) rfl))) (notFace_of_selects (args := #[]) (mvT hZ (hw _ (List.mem_of_getElem? (i := 61) rfl)))) (mvT hZ (hw _ (List.mem_of_getElem? (i := 61) rfl))) (mvT hZ (hw _ (List.mem_of_getElem? (i := 60) rfl))) (by decide) (backOf (W := 0) (own_rm_latest l Z a0 hw [] oI j b707 sp cp x717 x718 x719 x720 x721 x722 x723 x755 x826 x827 x758 x828 T824.heap n0 Zs835 q829 hj (own_WF.last wf837 on838)) hZ (hw _ (List.mem_of_getElem? (i := 62) rfl)) (hw _ (List.mem_of_getElem? (i := 3) rfl)) (by decide) (by decide)) q849a q849c (g := (mkF m 290 #[.val (.long p1), .second, .val (.long p2), .second, .val (.int p3), .val (.int p4), .val (.int p5), .val (.int p6), .val (.int sI), .val (.int oI), .val (.int cp), .val (.int nn), .val (.long sp), .second, .val (.long ba), .second, .val (.long q2), .second, .val (.long q3), .second, .val (.long q4), .second, .val (.long tt), .second, .val (.long dd), .second, .val (.long t2), .second, .val (.long ww), .second, .val (.ref b707), .val (.long (1 : Int64)), .second] [(.int oI), (.ref b707)])) rfl (by rw [hml]; rfl) (Steps.refl _) (argsL := [(.int oI)]) (rest := []) (lenOf own_pd6 rfl) rfl (by show 2 * 0 + _ ≤ _; exact Nat.le_of_eq rfl) (hb hby at_290) (fun _ _ => ⟨rfl, eh846, (by decide : 10 + 0 ≤ _), (by decide : 41 + 0 ≤ _)⟩)
      dsimp only [Pt.U, Pt.locs, Pt.cells, Pt.slots] at X849 l849 y849 z849 st849 hQ849
      subst l849 y849 z849
      obtain ⟨N849q, rfl, eh849⟩ := hQ849
      have N851 := Fr.app N848 N849q
      refine own_tr st849 ?_
      show own_Go p e below s _ _ _ (T849.setTop (mkF m 293 #[.val (.long p1), .second, .val (.long p2), .second, .val (.int p3), .val (.int p4), .val (.int p5), .val (.int p6), .val (.int sI), .val (.int oI), .val (.int cp), .val (.int nn), .val (.long sp), .second, .val (.long ba), .second, .val (.long q2), .second, .val (.long q3), .second, .val (.long q4), .second, .val (.long tt), .second, .val (.long dd), .second, .val (.long t2), .second, .val (.long ww), .second, .val (.ref b707), .val (.long (1 : Int64)), .second] [(.long (x828 j (own_idx (x826 j) ((x827 j) - (1 : Int32)) (x758 j)).toNatClampNeg))]))
      refine own_st (fun _ kQ => XT.lload X849.here hx rfl (hb hby at_293) rfl kQ) ?_
      show own_Go p e below s _ _ _ (T849.setTop (mkF m 295 #[.val (.long p1), .second, .val (.long p2), .second, .val (.int p3), .val (.int p4), .val (.int p5), .val (.int p6), .val (.int sI), .val (.int oI), .val (.int cp), .val (.int nn), .val (.long sp), .second, .val (.long ba), .second, .val (.long q2), .second, .val (.long q3), .second, .val (.long q4), .second, .val (.long tt), .second, .val (.long dd), .second, .val (.long t2), .second, .val (.long ww), .second, .val (.ref b707), .val (.long (1 : Int64)), .second] [(.long ba), (.long (x828 j (own_idx (x826 j) ((x827 j) - (1 : Int32)) (x758 j)).toNatClampNeg))]))
      refine own_st (fun _ kQ => XT.lcmp X849.here hx rfl (hb hby at_295) rfl kQ) ?_
      show own_Go p e below s _ _ _ (T849.setTop (mkF m 296 #[.val (.long p1), .second, .val (.long p2), .second, .val (.int p3), .val (.int p4), .val (.int p5), .val (.int p6), .val (.int sI), .val (.int oI), .val (.int cp), .val (.int nn), .val (.long sp), .second, .val (.long ba), .second, .val (.long q2), .second, .val (.long q3), .second, .val (.long q4), .second, .val (.long tt), .second, .val (.long dd), .second, .val (.long t2), .second, .val (.long ww), .second, .val (.ref b707), .val (.long (1 : Int64)), .second] [(.int (XT.cmpL (x828 j (own_idx (x826 j) ((x827 j) - (1 : Int32)) (x758 j)).toNatClampNeg) ba))]))
      refine own_st (fun _ kQ => XS.ifNo X849.here hx rfl (hb hby at_296) rfl (XT.ll_ne_f la839) kQ) ?_
      show own_Go p e below s _ _ _ (T849.setTop (mkF m 299 #[.val (.long p1), .second, .val (.long p2), .second, .val (.int p3), .val (.int p4), .val (.int p5), .val (.int p6), .val (.int sI), .val (.int oI), .val (.int cp), .val (.int nn), .val (.long sp), .second, .val (.long ba), .second, .val (.long q2), .second, .val (.long q3), .second, .val (.long q4), .second, .val (.long tt), .second, .val (.long dd), .second, .val (.long t2), .second, .val (.long ww), .second, .val (.ref b707), .val (.long (1 : Int64)), .second] []))
      refine own_st (fun _ kQ => XT.iconstV X849.here hx rfl (1 : Int32) (hb hby at_299) (by decide) kQ) ?_
      show own_Go p e below s _ _ _ (T849.setTop (mkF m 300 #[.val (.long p1), .second, .val (.long p2), .second, .val (.int p3), .val (.int p4), .val (.int p5), .val (.int p6), .val (.int sI), .val (.int oI), .val (.int cp), .val (.int nn), .val (.long sp), .second, .val (.long ba), .second, .val (.long q2), .second, .val (.long q3), .second, .val (.long q4), .second, .val (.long tt), .second, .val (.long dd), .second, .val (.long t2), .second, .val (.long ww), .second, .val (.ref b707), .val (.long (1 : Int64)), .second] [(.int (1 : Int32))]))
      refine own_st (fun _ kQ => XS.goto X849.here hx rfl (pc0 := 300) (pc' := 304) rfl (hb hby at_300) (by decide) (by decide) kQ) ?_
      show own_Go p e below s _ _ _ (T849.setTop (mkF m 304 #[.val (.long p1), .second, .val (.long p2), .second, .val (.int p3), .val (.int p4), .val (.int p5), .val (.int p6), .val (.int sI), .val (.int oI), .val (.int cp), .val (.int nn), .val (.long sp), .second, .val (.long ba), .second, .val (.long q2), .second, .val (.long q3), .second, .val (.long q4), .second, .val (.long tt), .second, .val (.long dd), .second, .val (.long t2), .second, .val (.long ww), .second, .val (.ref b707), .val (.long (1 : Int64)), .second] [(.int (1 : Int32))]))
      refine own_retN X849 hx hlk Bd.returns (t := .boolean) (z' := (1 : Int32)) (by simp) (by decide) (hb hby at_304) (by decide) (by decide) ?_
      rw [eh849]
      exact ⟨N851, rfl⟩
  have J193 : ∀ (T1 : State) (N1 : List Loc) (gw : Nat → Value) (gh gs gz : Nat → Int32) (gF : Nat → Nat → Int64), Stand p l e room_1 s m #[(.long p1), (.long p2), (.int p3), (.int p4), (.int p5), (.int p6)] below meth c T1 N1 9 36 → Fr n0 N1 → own_AT Z T1.heap n0 b707 sp cp x717 x718 x719 x720 x721 x722 x723 gw gh gs gz gF → own_WF cp (gh i) (gs i) (gz i) → own_WF cp (gh j) (gs j) (gz j) → 1 ≤ (gs j).toInt → gF j (own_idx (gh j) ((gs j) - (1 : Int32)) (gz j)).toNatClampNeg = ba → own_Go p e below s (own_law_Q Z n0) 24 128 (T1.setTop (mkF m 193 #[.val (.long p1), .second, .val (.long p2), .second, .val (.int p3), .val (.int p4), .val (.int p5), .val (.int p6), .val (.int sI), .val (.int oI), .val (.int cp), .val (.int nn), .val (.long sp), .second, .val (.long ba), .second, .val (.long q2), .second, .val (.long q3), .second, .val (.long q4), .second, .val (.long tt), .second, .val (.long dd), .second, .val (.long t2), .second, .val (.long ww), .second, .val (.ref b707), .unset, .unset] [])) := by
    intro T1 N1 gw gh gs gz gF X1 N2 D1 wfi wfj one1 lat1
    have Z1 := D1.szle
    show own_Go p e below s _ _ _ (T1.setTop (mkF m 193 #[.val (.long p1), .second, .val (.long p2), .second, .val (.int p3), .val (.int p4), .val (.int p5), .val (.int p6), .val (.int sI), .val (.int oI), .val (.int cp), .val (.int nn), .val (.long sp), .second, .val (.long ba), .second, .val (.long q2), .second, .val (.long q3), .second, .val (.long q4), .second, .val (.long tt), .second, .val (.long dd), .second, .val (.long t2), .second, .val (.long ww), .second, .val (.ref b707), .unset, .unset] []))
    refine own_st (fun _ kQ => XS.iload X1.here hx rfl (hb hby at_193) rfl kQ) ?_
    show own_Go p e below s _ _ _ (T1.setTop (mkF m 195 #[.val (.long p1), .second, .val (.long p2), .second, .val (.int p3), .val (.int p4), .val (.int p5), .val (.int p6), .val (.int sI), .val (.int oI), .val (.int cp), .val (.int nn), .val (.long sp), .second, .val (.long ba), .second, .val (.long q2), .second, .val (.long q3), .second, .val (.long q4), .second, .val (.long tt), .second, .val (.long dd), .second, .val (.long t2), .second, .val (.long ww), .second, .val (.ref b707), .unset, .unset] [(.int nn)]))
    refine own_st (fun _ kQ => XT.iconstV X1.here hx rfl (4 : Int32) (hb hby at_195) (by decide) kQ) ?_
    show own_Go p e below s _ _ _ (T1.setTop (mkF m 196 #[.val (.long p1), .second, .val (.long p2), .second, .val (.int p3), .val (.int p4), .val (.int p5), .val (.int p6), .val (.int sI), .val (.int oI), .val (.int cp), .val (.int nn), .val (.long sp), .second, .val (.long ba), .second, .val (.long q2), .second, .val (.long q3), .second, .val (.long q4), .second, .val (.long tt), .second, .val (.long dd), .second, .val (.long t2), .second, .val (.long ww), .second, .val (.ref b707), .unset, .unset] [(.int (4 : Int32)), (.int nn)]))
    by_cases hc852 : nn < (4 : Int32)
    · refine own_st (fun _ kQ => XS.icmpYes X1.here hx rfl (pc0 := 196) (pc' := 208) rfl (hb hby at_196) rfl (XT.ii_lt_t hc852) (by decide) (by decide) kQ) ?_
      show own_Go p e below s _ _ _ (T1.setTop (mkF m 208 #[.val (.long p1), .second, .val (.long p2), .second, .val (.int p3), .val (.int p4), .val (.int p5), .val (.int p6), .val (.int sI), .val (.int oI), .val (.int cp), .val (.int nn), .val (.long sp), .second, .val (.long ba), .second, .val (.long q2), .second, .val (.long q3), .second, .val (.long q4), .second, .val (.long tt), .second, .val (.long dd), .second, .val (.long t2), .second, .val (.long ww), .second, .val (.ref b707), .unset, .unset] []))
      exact J208 _ _ gw gh gs gz gF (X1.more (by decide) (by decide)) N2 D1 wfi wfj one1 lat1
    · refine own_st (fun _ kQ => XS.icmpNo X1.here hx rfl (hb hby at_196) rfl (XT.ii_lt_f hc852) kQ) ?_
      show own_Go p e below s _ _ _ (T1.setTop (mkF m 199 #[.val (.long p1), .second, .val (.long p2), .second, .val (.int p3), .val (.int p4), .val (.int p5), .val (.int p6), .val (.int sI), .val (.int oI), .val (.int cp), .val (.int nn), .val (.long sp), .second, .val (.long ba), .second, .val (.long q2), .second, .val (.long q3), .second, .val (.long q4), .second, .val (.long tt), .second, .val (.long dd), .second, .val (.long t2), .second, .val (.long ww), .second, .val (.ref b707), .unset, .unset] []))
      refine own_st (fun _ kQ => XS.aload X1.here hx rfl (hb hby at_199) rfl rfl kQ) ?_
      show own_Go p e below s _ _ _ (T1.setTop (mkF m 201 #[.val (.long p1), .second, .val (.long p2), .second, .val (.int p3), .val (.int p4), .val (.int p5), .val (.int p6), .val (.int sI), .val (.int oI), .val (.int cp), .val (.int nn), .val (.long sp), .second, .val (.long ba), .second, .val (.long q2), .second, .val (.long q3), .second, .val (.long q4), .second, .val (.long tt), .second, .val (.long dd), .second, .val (.long t2), .second, .val (.long ww), .second, .val (.ref b707), .unset, .unset] [(.ref b707)]))
      refine own_st (fun _ kQ => XS.iload X1.here hx rfl (hb hby at_201) rfl kQ) ?_
      show own_Go p e below s _ _ _ (T1.setTop (mkF m 203 #[.val (.long p1), .second, .val (.long p2), .second, .val (.int p3), .val (.int p4), .val (.int p5), .val (.int p6), .val (.int sI), .val (.int oI), .val (.int cp), .val (.int nn), .val (.long sp), .second, .val (.long ba), .second, .val (.long q2), .second, .val (.long q3), .second, .val (.long q4), .second, .val (.long tt), .second, .val (.long dd), .second, .val (.long t2), .second, .val (.long ww), .second, .val (.ref b707), .unset, .unset] [(.int sI), (.ref b707)]))
      refine own_st (fun _ kQ => XT.lload X1.here hx rfl (hb hby at_203) rfl kQ) ?_
      show own_Go p e below s _ _ _ (T1.setTop (mkF m 205 #[.val (.long p1), .second, .val (.long p2), .second, .val (.int p3), .val (.int p4), .val (.int p5), .val (.int p6), .val (.int sI), .val (.int oI), .val (.int cp), .val (.int nn), .val (.long sp), .second, .val (.long ba), .second, .val (.long q2), .second, .val (.long q3), .second, .val (.long q4), .second, .val (.long tt), .second, .val (.long dd), .second, .val (.long t2), .second, .val (.long ww), .second, .val (.ref b707), .unset, .unset] [(.long q4), (.int sI), (.ref b707)]))
      have F854 : Exa Z T1.heap b707 "com/example/wache/wache/AttemptTimes" := D1.exa
      obtain ⟨cq853, kq853, q853a, q853b, q853c⟩ := isOf hZ rfl F854
      obtain ⟨_, _, ⟨T853, L853, k853, n853⟩, -, X853, ⟨Lc853, hQ853, l853, y853, z853⟩, st853⟩ := X1.virtualBack hx (y := (⟨"com/example/wache/wache/AttemptTimes", "add", "(IJ)V"⟩ : MethodName)) (z := (⟨"com/example/wache/wache/AttemptTimes", "add", "(IJ)V"⟩ : MethodName)) hown (mvT hZ (hw _ (List.mem_of_getElem? (i := 26) rfl))) (mvT hZ (hw _ (List.mem_of_getElem? (i := 27) rfl))) (notFace_of_selects (args := #[]) (mvT hZ (hw _ (List.mem_of_getElem? (i := 29) rfl)))) (mvT hZ (hw _ (List.mem_of_getElem? (i := 29) rfl))) (mvT hZ (hw _ (List.mem_of_getElem? (i := 28) rfl))) (by decide) (backOf (W := 0) (own_rm_add l Z a0 hw [] sI i b707 sp cp x717 x718 x719 x720 x721 x722 x723 gw gh gs gz gF q4 T1.heap n0 Z1 D1 hi wfi) hZ (hw _ (List.mem_of_getElem? (i := 30) rfl)) (hw _ (List.mem_of_getElem? (i := 3) rfl)) (by decide) (by decide)) q853a q853c (g := (mkF m 205 #[.val (.long p1), .second, .val (.long p2), .second, .val (.int p3), .val (.int p4), .val (.int p5), .val (.int p6), .val (.int sI), .val (.int oI), .val (.int cp), .val (.int nn), .val (.long sp), .second, .val (.long ba), .second, .val (.long q2), .second, .val (.long q3), .second, .val (.long q4), .second, .val (.long tt), .second, .val (.long dd), .second, .val (.long t2), .second, .val (.long ww), .second, .val (.ref b707), .unset, .unset] [(.long q4), (.int sI), (.ref b707)])) rfl (by rw [hml]; rfl) (Steps.refl _) (argsL := [(.int sI), (.long q4)]) (rest := []) (lenOf own_pd9 rfl) rfl (by show 2 * 0 + _ ≤ _; exact Nat.le_of_eq rfl) (hb hby at_205) (fun _ _ => ⟨rfl, rfl, (by decide : 9 + 1 ≤ _), (by decide : 36 + 5 ≤ _)⟩)
      dsimp only [Pt.U, Pt.locs, Pt.cells, Pt.slots] at X853 l853 y853 z853 st853 hQ853
      subst l853 y853 z853
      obtain ⟨x855, x856, x857, x858, x859, N853q, rfl, q860, q861, q862, q863, q864⟩ := hQ853
      have N865 := Fr.app N2 N853q
      refine own_tr st853 ?_
      have Zs866 : n0 ≤ T853.heap.size := q860.szle
      show own_Go p e below s _ _ _ (T853.setTop (mkF m 208 #[.val (.long p1), .second, .val (.long p2), .second, .val (.int p3), .val (.int p4), .val (.int p5), .val (.int p6), .val (.int sI), .val (.int oI), .val (.int cp), .val (.int nn), .val (.long sp), .second, .val (.long ba), .second, .val (.long q2), .second, .val (.long q3), .second, .val (.long q4), .second, .val (.long tt), .second, .val (.long dd), .second, .val (.long t2), .second, .val (.long ww), .second, .val (.ref b707), .unset, .unset] []))
      have oq867 := q864 j hji
      have wf868 : own_WF cp (x856 j) (x857 j) (x858 j) := by rw [oq867.1, oq867.2.1, oq867.2.2.1]; exact wfj
      have on869 : 1 ≤ (x857 j).toInt := by rw [oq867.2.1]; exact one1
      have la870 : x859 j (own_idx (x856 j) ((x857 j) - (1 : Int32)) (x858 j)).toNatClampNeg = ba := by rw [oq867.2.2.2, oq867.1, oq867.2.1, oq867.2.2.1]; exact lat1
      exact J208 _ _ x855 x856 x857 x858 x859 X853 N865 q860 q861 wf868 on869 la870
  have J178 : ∀ (T1 : State) (N1 : List Loc) (gw : Nat → Value) (gh gs gz : Nat → Int32) (gF : Nat → Nat → Int64), Stand p l e room_1 s m #[(.long p1), (.long p2), (.int p3), (.int p4), (.int p5), (.int p6)] below meth c T1 N1 8 31 → Fr n0 N1 → own_AT Z T1.heap n0 b707 sp cp x717 x718 x719 x720 x721 x722 x723 gw gh gs gz gF → own_WF cp (gh i) (gs i) (gz i) → own_WF cp (gh j) (gs j) (gz j) → 1 ≤ (gs j).toInt → gF j (own_idx (gh j) ((gs j) - (1 : Int32)) (gz j)).toNatClampNeg = ba → own_Go p e below s (own_law_Q Z n0) 24 128 (T1.setTop (mkF m 178 #[.val (.long p1), .second, .val (.long p2), .second, .val (.int p3), .val (.int p4), .val (.int p5), .val (.int p6), .val (.int sI), .val (.int oI), .val (.int cp), .val (.int nn), .val (.long sp), .second, .val (.long ba), .second, .val (.long q2), .second, .val (.long q3), .second, .val (.long q4), .second, .val (.long tt), .second, .val (.long dd), .second, .val (.long t2), .second, .val (.long ww), .second, .val (.ref b707), .unset, .unset] [])) := by
    intro T1 N1 gw gh gs gz gF X1 N2 D1 wfi wfj one1 lat1
    have Z1 := D1.szle
    show own_Go p e below s _ _ _ (T1.setTop (mkF m 178 #[.val (.long p1), .second, .val (.long p2), .second, .val (.int p3), .val (.int p4), .val (.int p5), .val (.int p6), .val (.int sI), .val (.int oI), .val (.int cp), .val (.int nn), .val (.long sp), .second, .val (.long ba), .second, .val (.long q2), .second, .val (.long q3), .second, .val (.long q4), .second, .val (.long tt), .second, .val (.long dd), .second, .val (.long t2), .second, .val (.long ww), .second, .val (.ref b707), .unset, .unset] []))
    refine own_st (fun _ kQ => XS.iload X1.here hx rfl (hb hby at_178) rfl kQ) ?_
    show own_Go p e below s _ _ _ (T1.setTop (mkF m 180 #[.val (.long p1), .second, .val (.long p2), .second, .val (.int p3), .val (.int p4), .val (.int p5), .val (.int p6), .val (.int sI), .val (.int oI), .val (.int cp), .val (.int nn), .val (.long sp), .second, .val (.long ba), .second, .val (.long q2), .second, .val (.long q3), .second, .val (.long q4), .second, .val (.long tt), .second, .val (.long dd), .second, .val (.long t2), .second, .val (.long ww), .second, .val (.ref b707), .unset, .unset] [(.int nn)]))
    refine own_st (fun _ kQ => XT.iconstV X1.here hx rfl (3 : Int32) (hb hby at_180) (by decide) kQ) ?_
    show own_Go p e below s _ _ _ (T1.setTop (mkF m 181 #[.val (.long p1), .second, .val (.long p2), .second, .val (.int p3), .val (.int p4), .val (.int p5), .val (.int p6), .val (.int sI), .val (.int oI), .val (.int cp), .val (.int nn), .val (.long sp), .second, .val (.long ba), .second, .val (.long q2), .second, .val (.long q3), .second, .val (.long q4), .second, .val (.long tt), .second, .val (.long dd), .second, .val (.long t2), .second, .val (.long ww), .second, .val (.ref b707), .unset, .unset] [(.int (3 : Int32)), (.int nn)]))
    by_cases hc871 : nn < (3 : Int32)
    · refine own_st (fun _ kQ => XS.icmpYes X1.here hx rfl (pc0 := 181) (pc' := 193) rfl (hb hby at_181) rfl (XT.ii_lt_t hc871) (by decide) (by decide) kQ) ?_
      show own_Go p e below s _ _ _ (T1.setTop (mkF m 193 #[.val (.long p1), .second, .val (.long p2), .second, .val (.int p3), .val (.int p4), .val (.int p5), .val (.int p6), .val (.int sI), .val (.int oI), .val (.int cp), .val (.int nn), .val (.long sp), .second, .val (.long ba), .second, .val (.long q2), .second, .val (.long q3), .second, .val (.long q4), .second, .val (.long tt), .second, .val (.long dd), .second, .val (.long t2), .second, .val (.long ww), .second, .val (.ref b707), .unset, .unset] []))
      exact J193 _ _ gw gh gs gz gF (X1.more (by decide) (by decide)) N2 D1 wfi wfj one1 lat1
    · refine own_st (fun _ kQ => XS.icmpNo X1.here hx rfl (hb hby at_181) rfl (XT.ii_lt_f hc871) kQ) ?_
      show own_Go p e below s _ _ _ (T1.setTop (mkF m 184 #[.val (.long p1), .second, .val (.long p2), .second, .val (.int p3), .val (.int p4), .val (.int p5), .val (.int p6), .val (.int sI), .val (.int oI), .val (.int cp), .val (.int nn), .val (.long sp), .second, .val (.long ba), .second, .val (.long q2), .second, .val (.long q3), .second, .val (.long q4), .second, .val (.long tt), .second, .val (.long dd), .second, .val (.long t2), .second, .val (.long ww), .second, .val (.ref b707), .unset, .unset] []))
      refine own_st (fun _ kQ => XS.aload X1.here hx rfl (hb hby at_184) rfl rfl kQ) ?_
      show own_Go p e below s _ _ _ (T1.setTop (mkF m 186 #[.val (.long p1), .second, .val (.long p2), .second, .val (.int p3), .val (.int p4), .val (.int p5), .val (.int p6), .val (.int sI), .val (.int oI), .val (.int cp), .val (.int nn), .val (.long sp), .second, .val (.long ba), .second, .val (.long q2), .second, .val (.long q3), .second, .val (.long q4), .second, .val (.long tt), .second, .val (.long dd), .second, .val (.long t2), .second, .val (.long ww), .second, .val (.ref b707), .unset, .unset] [(.ref b707)]))
      refine own_st (fun _ kQ => XS.iload X1.here hx rfl (hb hby at_186) rfl kQ) ?_
      show own_Go p e below s _ _ _ (T1.setTop (mkF m 188 #[.val (.long p1), .second, .val (.long p2), .second, .val (.int p3), .val (.int p4), .val (.int p5), .val (.int p6), .val (.int sI), .val (.int oI), .val (.int cp), .val (.int nn), .val (.long sp), .second, .val (.long ba), .second, .val (.long q2), .second, .val (.long q3), .second, .val (.long q4), .second, .val (.long tt), .second, .val (.long dd), .second, .val (.long t2), .second, .val (.long ww), .second, .val (.ref b707), .unset, .unset] [(.int sI), (.ref b707)]))
      refine own_st (fun _ kQ => XT.lload X1.here hx rfl (hb hby at_188) rfl kQ) ?_
      show own_Go p e below s _ _ _ (T1.setTop (mkF m 190 #[.val (.long p1), .second, .val (.long p2), .second, .val (.int p3), .val (.int p4), .val (.int p5), .val (.int p6), .val (.int sI), .val (.int oI), .val (.int cp), .val (.int nn), .val (.long sp), .second, .val (.long ba), .second, .val (.long q2), .second, .val (.long q3), .second, .val (.long q4), .second, .val (.long tt), .second, .val (.long dd), .second, .val (.long t2), .second, .val (.long ww), .second, .val (.ref b707), .unset, .unset] [(.long q3), (.int sI), (.ref b707)]))
      have F873 : Exa Z T1.heap b707 "com/example/wache/wache/AttemptTimes" := D1.exa
      obtain ⟨cq872, kq872, q872a, q872b, q872c⟩ := isOf hZ rfl F873
      obtain ⟨_, _, ⟨T872, L872, k872, n872⟩, -, X872, ⟨Lc872, hQ872, l872, y872, z872⟩, st872⟩ := X1.virtualBack hx (y := (⟨"com/example/wache/wache/AttemptTimes", "add", "(IJ)V"⟩ : MethodName)) (z := (⟨"com/example/wache/wache/AttemptTimes", "add", "(IJ)V"⟩ : MethodName)) hown (mvT hZ (hw _ (List.mem_of_getElem? (i := 26) rfl))) (mvT hZ (hw _ (List.mem_of_getElem? (i := 27) rfl))) (notFace_of_selects (args := #[]) (mvT hZ (hw _ (List.mem_of_getElem? (i := 29) rfl)))) (mvT hZ (hw _ (List.mem_of_getElem? (i := 29) rfl))) (mvT hZ (hw _ (List.mem_of_getElem? (i := 28) rfl))) (by decide) (backOf (W := 0) (own_rm_add l Z a0 hw [] sI i b707 sp cp x717 x718 x719 x720 x721 x722 x723 gw gh gs gz gF q3 T1.heap n0 Z1 D1 hi wfi) hZ (hw _ (List.mem_of_getElem? (i := 30) rfl)) (hw _ (List.mem_of_getElem? (i := 3) rfl)) (by decide) (by decide)) q872a q872c (g := (mkF m 190 #[.val (.long p1), .second, .val (.long p2), .second, .val (.int p3), .val (.int p4), .val (.int p5), .val (.int p6), .val (.int sI), .val (.int oI), .val (.int cp), .val (.int nn), .val (.long sp), .second, .val (.long ba), .second, .val (.long q2), .second, .val (.long q3), .second, .val (.long q4), .second, .val (.long tt), .second, .val (.long dd), .second, .val (.long t2), .second, .val (.long ww), .second, .val (.ref b707), .unset, .unset] [(.long q3), (.int sI), (.ref b707)])) rfl (by rw [hml]; rfl) (Steps.refl _) (argsL := [(.int sI), (.long q3)]) (rest := []) (lenOf own_pd9 rfl) rfl (by show 2 * 0 + _ ≤ _; exact Nat.le_of_eq rfl) (hb hby at_190) (fun _ _ => ⟨rfl, rfl, (by decide : 8 + 1 ≤ _), (by decide : 31 + 5 ≤ _)⟩)
      dsimp only [Pt.U, Pt.locs, Pt.cells, Pt.slots] at X872 l872 y872 z872 st872 hQ872
      subst l872 y872 z872
      obtain ⟨x874, x875, x876, x877, x878, N872q, rfl, q879, q880, q881, q882, q883⟩ := hQ872
      have N884 := Fr.app N2 N872q
      refine own_tr st872 ?_
      have Zs885 : n0 ≤ T872.heap.size := q879.szle
      show own_Go p e below s _ _ _ (T872.setTop (mkF m 193 #[.val (.long p1), .second, .val (.long p2), .second, .val (.int p3), .val (.int p4), .val (.int p5), .val (.int p6), .val (.int sI), .val (.int oI), .val (.int cp), .val (.int nn), .val (.long sp), .second, .val (.long ba), .second, .val (.long q2), .second, .val (.long q3), .second, .val (.long q4), .second, .val (.long tt), .second, .val (.long dd), .second, .val (.long t2), .second, .val (.long ww), .second, .val (.ref b707), .unset, .unset] []))
      have oq886 := q883 j hji
      have wf887 : own_WF cp (x875 j) (x876 j) (x877 j) := by rw [oq886.1, oq886.2.1, oq886.2.2.1]; exact wfj
      have on888 : 1 ≤ (x876 j).toInt := by rw [oq886.2.1]; exact one1
      have la889 : x878 j (own_idx (x875 j) ((x876 j) - (1 : Int32)) (x877 j)).toNatClampNeg = ba := by rw [oq886.2.2.2, oq886.1, oq886.2.1, oq886.2.2.1]; exact lat1
      exact J193 _ _ x874 x875 x876 x877 x878 X872 N884 q879 q880 wf887 on888 la889
  have J163 : ∀ (T1 : State) (N1 : List Loc) (gw : Nat → Value) (gh gs gz : Nat → Int32) (gF : Nat → Nat → Int64), Stand p l e room_1 s m #[(.long p1), (.long p2), (.int p3), (.int p4), (.int p5), (.int p6)] below meth c T1 N1 7 26 → Fr n0 N1 → own_AT Z T1.heap n0 b707 sp cp x717 x718 x719 x720 x721 x722 x723 gw gh gs gz gF → own_WF cp (gh i) (gs i) (gz i) → own_WF cp (gh j) (gs j) (gz j) → 1 ≤ (gs j).toInt → gF j (own_idx (gh j) ((gs j) - (1 : Int32)) (gz j)).toNatClampNeg = ba → own_Go p e below s (own_law_Q Z n0) 24 128 (T1.setTop (mkF m 163 #[.val (.long p1), .second, .val (.long p2), .second, .val (.int p3), .val (.int p4), .val (.int p5), .val (.int p6), .val (.int sI), .val (.int oI), .val (.int cp), .val (.int nn), .val (.long sp), .second, .val (.long ba), .second, .val (.long q2), .second, .val (.long q3), .second, .val (.long q4), .second, .val (.long tt), .second, .val (.long dd), .second, .val (.long t2), .second, .val (.long ww), .second, .val (.ref b707), .unset, .unset] [])) := by
    intro T1 N1 gw gh gs gz gF X1 N2 D1 wfi wfj one1 lat1
    have Z1 := D1.szle
    show own_Go p e below s _ _ _ (T1.setTop (mkF m 163 #[.val (.long p1), .second, .val (.long p2), .second, .val (.int p3), .val (.int p4), .val (.int p5), .val (.int p6), .val (.int sI), .val (.int oI), .val (.int cp), .val (.int nn), .val (.long sp), .second, .val (.long ba), .second, .val (.long q2), .second, .val (.long q3), .second, .val (.long q4), .second, .val (.long tt), .second, .val (.long dd), .second, .val (.long t2), .second, .val (.long ww), .second, .val (.ref b707), .unset, .unset] []))
    refine own_st (fun _ kQ => XS.iload X1.here hx rfl (hb hby at_163) rfl kQ) ?_
    show own_Go p e below s _ _ _ (T1.setTop (mkF m 165 #[.val (.long p1), .second, .val (.long p2), .second, .val (.int p3), .val (.int p4), .val (.int p5), .val (.int p6), .val (.int sI), .val (.int oI), .val (.int cp), .val (.int nn), .val (.long sp), .second, .val (.long ba), .second, .val (.long q2), .second, .val (.long q3), .second, .val (.long q4), .second, .val (.long tt), .second, .val (.long dd), .second, .val (.long t2), .second, .val (.long ww), .second, .val (.ref b707), .unset, .unset] [(.int nn)]))
    refine own_st (fun _ kQ => XT.iconstV X1.here hx rfl (2 : Int32) (hb hby at_165) (by decide) kQ) ?_
    show own_Go p e below s _ _ _ (T1.setTop (mkF m 166 #[.val (.long p1), .second, .val (.long p2), .second, .val (.int p3), .val (.int p4), .val (.int p5), .val (.int p6), .val (.int sI), .val (.int oI), .val (.int cp), .val (.int nn), .val (.long sp), .second, .val (.long ba), .second, .val (.long q2), .second, .val (.long q3), .second, .val (.long q4), .second, .val (.long tt), .second, .val (.long dd), .second, .val (.long t2), .second, .val (.long ww), .second, .val (.ref b707), .unset, .unset] [(.int (2 : Int32)), (.int nn)]))
    by_cases hc890 : nn < (2 : Int32)
    · refine own_st (fun _ kQ => XS.icmpYes X1.here hx rfl (pc0 := 166) (pc' := 178) rfl (hb hby at_166) rfl (XT.ii_lt_t hc890) (by decide) (by decide) kQ) ?_
      show own_Go p e below s _ _ _ (T1.setTop (mkF m 178 #[.val (.long p1), .second, .val (.long p2), .second, .val (.int p3), .val (.int p4), .val (.int p5), .val (.int p6), .val (.int sI), .val (.int oI), .val (.int cp), .val (.int nn), .val (.long sp), .second, .val (.long ba), .second, .val (.long q2), .second, .val (.long q3), .second, .val (.long q4), .second, .val (.long tt), .second, .val (.long dd), .second, .val (.long t2), .second, .val (.long ww), .second, .val (.ref b707), .unset, .unset] []))
      exact J178 _ _ gw gh gs gz gF (X1.more (by decide) (by decide)) N2 D1 wfi wfj one1 lat1
    · refine own_st (fun _ kQ => XS.icmpNo X1.here hx rfl (hb hby at_166) rfl (XT.ii_lt_f hc890) kQ) ?_
      show own_Go p e below s _ _ _ (T1.setTop (mkF m 169 #[.val (.long p1), .second, .val (.long p2), .second, .val (.int p3), .val (.int p4), .val (.int p5), .val (.int p6), .val (.int sI), .val (.int oI), .val (.int cp), .val (.int nn), .val (.long sp), .second, .val (.long ba), .second, .val (.long q2), .second, .val (.long q3), .second, .val (.long q4), .second, .val (.long tt), .second, .val (.long dd), .second, .val (.long t2), .second, .val (.long ww), .second, .val (.ref b707), .unset, .unset] []))
      refine own_st (fun _ kQ => XS.aload X1.here hx rfl (hb hby at_169) rfl rfl kQ) ?_
      show own_Go p e below s _ _ _ (T1.setTop (mkF m 171 #[.val (.long p1), .second, .val (.long p2), .second, .val (.int p3), .val (.int p4), .val (.int p5), .val (.int p6), .val (.int sI), .val (.int oI), .val (.int cp), .val (.int nn), .val (.long sp), .second, .val (.long ba), .second, .val (.long q2), .second, .val (.long q3), .second, .val (.long q4), .second, .val (.long tt), .second, .val (.long dd), .second, .val (.long t2), .second, .val (.long ww), .second, .val (.ref b707), .unset, .unset] [(.ref b707)]))
      refine own_st (fun _ kQ => XS.iload X1.here hx rfl (hb hby at_171) rfl kQ) ?_
      show own_Go p e below s _ _ _ (T1.setTop (mkF m 173 #[.val (.long p1), .second, .val (.long p2), .second, .val (.int p3), .val (.int p4), .val (.int p5), .val (.int p6), .val (.int sI), .val (.int oI), .val (.int cp), .val (.int nn), .val (.long sp), .second, .val (.long ba), .second, .val (.long q2), .second, .val (.long q3), .second, .val (.long q4), .second, .val (.long tt), .second, .val (.long dd), .second, .val (.long t2), .second, .val (.long ww), .second, .val (.ref b707), .unset, .unset] [(.int sI), (.ref b707)]))
      refine own_st (fun _ kQ => XT.lload X1.here hx rfl (hb hby at_173) rfl kQ) ?_
      show own_Go p e below s _ _ _ (T1.setTop (mkF m 175 #[.val (.long p1), .second, .val (.long p2), .second, .val (.int p3), .val (.int p4), .val (.int p5), .val (.int p6), .val (.int sI), .val (.int oI), .val (.int cp), .val (.int nn), .val (.long sp), .second, .val (.long ba), .second, .val (.long q2), .second, .val (.long q3), .second, .val (.long q4), .second, .val (.long tt), .second, .val (.long dd), .second, .val (.long t2), .second, .val (.long ww), .second, .val (.ref b707), .unset, .unset] [(.long q2), (.int sI), (.ref b707)]))
      have F892 : Exa Z T1.heap b707 "com/example/wache/wache/AttemptTimes" := D1.exa
      obtain ⟨cq891, kq891, q891a, q891b, q891c⟩ := isOf hZ rfl F892
      obtain ⟨_, _, ⟨T891, L891, k891, n891⟩, -, X891, ⟨Lc891, hQ891, l891, y891, z891⟩, st891⟩ := X1.virtualBack hx (y := (⟨"com/example/wache/wache/AttemptTimes", "add", "(IJ)V"⟩ : MethodName)) (z := (⟨"com/example/wache/wache/AttemptTimes", "add", "(IJ)V"⟩ : MethodName)) hown (mvT hZ (hw _ (List.mem_of_getElem? (i := 26) rfl))) (mvT hZ (hw _ (List.mem_of_getElem? (i := 27) rfl))) (notFace_of_selects (args := #[]) (mvT hZ (hw _ (List.mem_of_getElem? (i := 29) rfl)))) (mvT hZ (hw _ (List.mem_of_getElem? (i := 29) rfl))) (mvT hZ (hw _ (List.mem_of_getElem? (i := 28) rfl))) (by decide) (backOf (W := 0) (own_rm_add l Z a0 hw [] sI i b707 sp cp x717 x718 x719 x720 x721 x722 x723 gw gh gs gz gF q2 T1.heap n0 Z1 D1 hi wfi) hZ (hw _ (List.mem_of_getElem? (i := 30) rfl)) (hw _ (List.mem_of_getElem? (i := 3) rfl)) (by decide) (by decide)) q891a q891c (g := (mkF m 175 #[.val (.long p1), .second, .val (.long p2), .second, .val (.int p3), .val (.int p4), .val (.int p5), .val (.int p6), .val (.int sI), .val (.int oI), .val (.int cp), .val (.int nn), .val (.long sp), .second, .val (.long ba), .second, .val (.long q2), .second, .val (.long q3), .second, .val (.long q4), .second, .val (.long tt), .second, .val (.long dd), .second, .val (.long t2), .second, .val (.long ww), .second, .val (.ref b707), .unset, .unset] [(.long q2), (.int sI), (.ref b707)])) rfl (by rw [hml]; rfl) (Steps.refl _) (argsL := [(.int sI), (.long q2)]) (rest := []) (lenOf own_pd9 rfl) rfl (by show 2 * 0 + _ ≤ _; exact Nat.le_of_eq rfl) (hb hby at_175) (fun _ _ => ⟨rfl, rfl, (by decide : 7 + 1 ≤ _), (by decide : 26 + 5 ≤ _)⟩)
      dsimp only [Pt.U, Pt.locs, Pt.cells, Pt.slots] at X891 l891 y891 z891 st891 hQ891
      subst l891 y891 z891
      obtain ⟨x893, x894, x895, x896, x897, N891q, rfl, q898, q899, q900, q901, q902⟩ := hQ891
      have N903 := Fr.app N2 N891q
      refine own_tr st891 ?_
      have Zs904 : n0 ≤ T891.heap.size := q898.szle
      show own_Go p e below s _ _ _ (T891.setTop (mkF m 178 #[.val (.long p1), .second, .val (.long p2), .second, .val (.int p3), .val (.int p4), .val (.int p5), .val (.int p6), .val (.int sI), .val (.int oI), .val (.int cp), .val (.int nn), .val (.long sp), .second, .val (.long ba), .second, .val (.long q2), .second, .val (.long q3), .second, .val (.long q4), .second, .val (.long tt), .second, .val (.long dd), .second, .val (.long t2), .second, .val (.long ww), .second, .val (.ref b707), .unset, .unset] []))
      have oq905 := q902 j hji
      have wf906 : own_WF cp (x894 j) (x895 j) (x896 j) := by rw [oq905.1, oq905.2.1, oq905.2.2.1]; exact wfj
      have on907 : 1 ≤ (x895 j).toInt := by rw [oq905.2.1]; exact one1
      have la908 : x897 j (own_idx (x894 j) ((x895 j) - (1 : Int32)) (x896 j)).toNatClampNeg = ba := by rw [oq905.2.2.2, oq905.1, oq905.2.1, oq905.2.2.1]; exact lat1
      exact J178 _ _ x893 x894 x895 x896 x897 X891 N903 q898 q899 wf906 on907 la908
  refine own_st (fun _ kQ => XS.iload X737.here hx rfl (hb hby at_148) rfl kQ) ?_
  show own_Go p e below s _ _ _ (T737.setTop (mkF m 150 #[.val (.long p1), .second, .val (.long p2), .second, .val (.int p3), .val (.int p4), .val (.int p5), .val (.int p6), .val (.int sI), .val (.int oI), .val (.int cp), .val (.int nn), .val (.long sp), .second, .val (.long ba), .second, .val (.long q2), .second, .val (.long q3), .second, .val (.long q4), .second, .val (.long tt), .second, .val (.long dd), .second, .val (.long t2), .second, .val (.long ww), .second, .val (.ref b707), .unset, .unset] [(.int nn)]))
  refine own_st (fun _ kQ => XT.iconstV X737.here hx rfl (1 : Int32) (hb hby at_150) (by decide) kQ) ?_
  show own_Go p e below s _ _ _ (T737.setTop (mkF m 151 #[.val (.long p1), .second, .val (.long p2), .second, .val (.int p3), .val (.int p4), .val (.int p5), .val (.int p6), .val (.int sI), .val (.int oI), .val (.int cp), .val (.int nn), .val (.long sp), .second, .val (.long ba), .second, .val (.long q2), .second, .val (.long q3), .second, .val (.long q4), .second, .val (.long tt), .second, .val (.long dd), .second, .val (.long t2), .second, .val (.long ww), .second, .val (.ref b707), .unset, .unset] [(.int (1 : Int32)), (.int nn)]))
  by_cases hc909 : nn < (1 : Int32)
  · refine own_st (fun _ kQ => XS.icmpYes X737.here hx rfl (pc0 := 151) (pc' := 163) rfl (hb hby at_151) rfl (XT.ii_lt_t hc909) (by decide) (by decide) kQ) ?_
    show own_Go p e below s _ _ _ (T737.setTop (mkF m 163 #[.val (.long p1), .second, .val (.long p2), .second, .val (.int p3), .val (.int p4), .val (.int p5), .val (.int p6), .val (.int sI), .val (.int oI), .val (.int cp), .val (.int nn), .val (.long sp), .second, .val (.long ba), .second, .val (.long q2), .second, .val (.long q3), .second, .val (.long q4), .second, .val (.long tt), .second, .val (.long dd), .second, .val (.long t2), .second, .val (.long ww), .second, .val (.ref b707), .unset, .unset] []))
    exact J163 _ _ x739 x740 x741 x742 x743 (X737.more (by decide) (by decide)) N749 q744 wf752 q745 q746 q747
  · refine own_st (fun _ kQ => XS.icmpNo X737.here hx rfl (hb hby at_151) rfl (XT.ii_lt_f hc909) kQ) ?_
    show own_Go p e below s _ _ _ (T737.setTop (mkF m 154 #[.val (.long p1), .second, .val (.long p2), .second, .val (.int p3), .val (.int p4), .val (.int p5), .val (.int p6), .val (.int sI), .val (.int oI), .val (.int cp), .val (.int nn), .val (.long sp), .second, .val (.long ba), .second, .val (.long q2), .second, .val (.long q3), .second, .val (.long q4), .second, .val (.long tt), .second, .val (.long dd), .second, .val (.long t2), .second, .val (.long ww), .second, .val (.ref b707), .unset, .unset] []))
    refine own_st (fun _ kQ => XS.aload X737.here hx rfl (hb hby at_154) rfl rfl kQ) ?_
    show own_Go p e below s _ _ _ (T737.setTop (mkF m 156 #[.val (.long p1), .second, .val (.long p2), .second, .val (.int p3), .val (.int p4), .val (.int p5), .val (.int p6), .val (.int sI), .val (.int oI), .val (.int cp), .val (.int nn), .val (.long sp), .second, .val (.long ba), .second, .val (.long q2), .second, .val (.long q3), .second, .val (.long q4), .second, .val (.long tt), .second, .val (.long dd), .second, .val (.long t2), .second, .val (.long ww), .second, .val (.ref b707), .unset, .unset] [(.ref b707)]))
    refine own_st (fun _ kQ => XS.iload X737.here hx rfl (hb hby at_156) rfl kQ) ?_
    show own_Go p e below s _ _ _ (T737.setTop (mkF m 158 #[.val (.long p1), .second, .val (.long p2), .second, .val (.int p3), .val (.int p4), .val (.int p5), .val (.int p6), .val (.int sI), .val (.int oI), .val (.int cp), .val (.int nn), .val (.long sp), .second, .val (.long ba), .second, .val (.long q2), .second, .val (.long q3), .second, .val (.long q4), .second, .val (.long tt), .second, .val (.long dd), .second, .val (.long t2), .second, .val (.long ww), .second, .val (.ref b707), .unset, .unset] [(.int sI), (.ref b707)]))
    refine own_st (fun _ kQ => XT.lload X737.here hx rfl (hb hby at_158) rfl kQ) ?_
    show own_Go p e below s _ _ _ (T737.setTop (mkF m 160 #[.val (.long p1), .second, .val (.long p2), .second, .val (.int p3), .val (.int p4), .val (.int p5), .val (.int p6), .val (.int sI), .val (.int oI), .val (.int cp), .val (.int nn), .val (.long sp), .second, .val (.long ba), .second, .val (.long q2), .second, .val (.long q3), .second, .val (.long q4), .second, .val (.long tt), .second, .val (.long dd), .second, .val (.long t2), .second, .val (.long ww), .second, .val (.ref b707), .unset, .unset] [(.long ba), (.int sI), (.ref b707)]))
    have F911 : Exa Z T737.heap b707 "com/example/wache/wache/AttemptTimes" := q744.exa
    obtain ⟨cq910, kq910, q910a, q910b, q910c⟩ := isOf hZ rfl F911
    obtain ⟨_, _, ⟨T910, L910, k910, n910⟩, -, X910, ⟨Lc910, hQ910, l910, y910, z910⟩, st910⟩ := X737.virtualBack hx (y := (⟨"com/example/wache/wache/AttemptTimes", "add", "(IJ)V"⟩ : MethodName)) (z := (⟨"com/example/wache/wache/AttemptTimes", "add", "(IJ)V"⟩ : MethodName)) hown (mvT hZ (hw _ (List.mem_of_getElem? (i := 26) rfl))) (mvT hZ (hw _ (List.mem_of_getElem? (i := 27) rfl))) (notFace_of_selects (args := #[]) (mvT hZ (hw _ (List.mem_of_getElem? (i := 29) rfl)))) (mvT hZ (hw _ (List.mem_of_getElem? (i := 29) rfl))) (mvT hZ (hw _ (List.mem_of_getElem? (i := 28) rfl))) (by decide) (backOf (W := 0) (own_rm_add l Z a0 hw [] sI i b707 sp cp x717 x718 x719 x720 x721 x722 x723 x739 x740 x741 x742 x743 ba T737.heap n0 Zs750 q744 hi wf752) hZ (hw _ (List.mem_of_getElem? (i := 30) rfl)) (hw _ (List.mem_of_getElem? (i := 3) rfl)) (by decide) (by decide)) q910a q910c (g := (mkF m 160 #[.val (.long p1), .second, .val (.long p2), .second, .val (.int p3), .val (.int p4), .val (.int p5), .val (.int p6), .val (.int sI), .val (.int oI), .val (.int cp), .val (.int nn), .val (.long sp), .second, .val (.long ba), .second, .val (.long q2), .second, .val (.long q3), .second, .val (.long q4), .second, .val (.long tt), .second, .val (.long dd), .second, .val (.long t2), .second, .val (.long ww), .second, .val (.ref b707), .unset, .unset] [(.long ba), (.int sI), (.ref b707)])) rfl (by rw [hml]; rfl) (Steps.refl _) (argsL := [(.int sI), (.long ba)]) (rest := []) (lenOf own_pd9 rfl) rfl (by show 2 * 0 + _ ≤ _; exact Nat.le_of_eq rfl) (hb hby at_160) (fun _ _ => ⟨rfl, rfl, (by decide : 6 + 1 ≤ _), (by decide : 21 + 5 ≤ _)⟩)
    dsimp only [Pt.U, Pt.locs, Pt.cells, Pt.slots] at X910 l910 y910 z910 st910 hQ910
    subst l910 y910 z910
    obtain ⟨x912, x913, x914, x915, x916, N910q, rfl, q917, q918, q919, q920, q921⟩ := hQ910
    have N922 := Fr.app N749 N910q
    refine own_tr st910 ?_
    have Zs923 : n0 ≤ T910.heap.size := q917.szle
    show own_Go p e below s _ _ _ (T910.setTop (mkF m 163 #[.val (.long p1), .second, .val (.long p2), .second, .val (.int p3), .val (.int p4), .val (.int p5), .val (.int p6), .val (.int sI), .val (.int oI), .val (.int cp), .val (.int nn), .val (.long sp), .second, .val (.long ba), .second, .val (.long q2), .second, .val (.long q3), .second, .val (.long q4), .second, .val (.long tt), .second, .val (.long dd), .second, .val (.long t2), .second, .val (.long ww), .second, .val (.ref b707), .unset, .unset] []))
    have oq924 := q921 j hji
    have wf925 : own_WF cp (x913 j) (x914 j) (x915 j) := by rw [oq924.1, oq924.2.1, oq924.2.2.1]; exact q745
    have on926 : 1 ≤ (x914 j).toInt := by rw [oq924.2.1]; exact q746
    have la927 : x916 j (own_idx (x913 j) ((x914 j) - (1 : Int32)) (x915 j)).toNatClampNeg = ba := by rw [oq924.2.2.2, oq924.1, oq924.2.1, oq924.2.2.1]; exact q747
    exact J163 _ _ x912 x913 x914 x915 x916 X910 N922 q917 q918 wf925 on926 la927
set_option maxRecDepth 65536 in
set_option maxHeartbeats 40000000 in
theorem comes_1 {Post : Tables → Env → Array Value → State → Outcome → State → Prop} (hpost : ∀ tb e args s v u, (limb_1_1.after args s (.returned v) u = true ∧ limb_1_2.after args s (.returned v) u = true ∧ True) → FrameEnd s (.returned v) u (Jvm.fieldLocs frame_1_writes args s ++ Jvm.arrayLocs frame_1_arrays args s ++ Jvm.staticLocs frame_1_statics s) 24 128 → Post tb e args s (.returned v) u) :
    ArmFor flags0 classFile x code maxLocals ret World_1 tables_1 room_1 Calls_1 rest_1 Pre_1 Post := by
  intro l hfl _ _ p e ha hc hk s m args below hf hA hF happ hP
  obtain ⟨hcalls, hrest, hpre⟩ := hP
  obtain ⟨-, -, -, hnamed, -, -, -, hat⟩ := (Spec.applies_iff hf).mp happ
  obtain ⟨hg, hn⟩ := and_e (Cond.before_iff.mp (show (Jvm.Cond.and given_1 narrow_1).before args s = true from hpre))
  obtain ⟨gg0, hg0⟩ := and_e hg
  obtain ⟨gg1, hg1⟩ := and_e hg0
  obtain ⟨gg2, hg2⟩ := and_e hg1
  obtain ⟨gg3, hg3⟩ := and_e hg2
  obtain ⟨gg4, hg4⟩ := and_e hg3
  obtain ⟨gg5, hg5⟩ := and_e hg4
  obtain ⟨w0, w1, w2, w3, w4, w5, rfl⟩ : ∃ w0 w1 w2 w3 w4 w5 : Value, args = #[w0, w1, w2, w3, w4, w5] := by
    have hs : args.size = 6 := by simpa [Cond.value, given_1] using gg0
    obtain ⟨L⟩ := args
    match L, hs with
    | [w0, w1, w2, w3, w4, w5], _ => exact ⟨w0, w1, w2, w3, w4, w5, rfl⟩
  have hw := fun d (hd : d ∈ tables_1) => atoms_spec (ws := Jvm.Cond.code x code maxLocals ret :: tables_1) hat d (List.mem_cons_of_mem _ hd)
  have hfit : Fit s := fun {y c} hc i hi => by
    obtain ⟨ha, rfl⟩ := Array.getElem?_eq_some_iff.mp hc
    have q := List.all_eq_true.mp ((Array.all_eq_true_iff_forall_mem.mp hF) _ (Array.getElem_mem ha)) i (List.mem_range.mpr hi)
    simpa [Array.getElem?_eq_getElem hi] using q
  obtain ⟨i0, ei0⟩ := isL_v gg1
  obtain rfl : w0 = (.long i0) := Option.some.inj ei0
  obtain ⟨i1, ei1⟩ := isL_v gg2
  obtain rfl : w1 = (.long i1) := Option.some.inj ei1
  obtain ⟨i2, ei2⟩ := is_v gg3
  obtain rfl : w2 = (.int i2) := Option.some.inj ei2
  obtain ⟨i3, ei3⟩ := is_v gg4
  obtain rfl : w3 = (.int i3) := Option.some.inj ei3
  obtain ⟨i4, ei4⟩ := is_v gg5
  obtain rfl : w4 = (.int i4) := Option.some.inj ei4
  obtain ⟨i5, ei5⟩ := is_v hg5
  obtain rfl : w5 = (.int i5) := Option.some.inj ei5
  obtain ⟨n, o, h1, h2, h3, _, L, rfl, ⟨N, rfl⟩, hq⟩ := own_law l s _ hw tables_1 i0 i1 i2 i3 i4 i5 s.heap s.heap.size (Nat.le_refl _)  p e ha hc hk s m _ below hf ((Spec.applies_iff_loose hf).mp happ).1 ⟨rfl, State.Warmed39.refl s, rfl⟩ trivial
  refine ⟨n, _, h1, h2, h3, hpost _ _ _ _ _ _ ⟨Cond.after_iff.mpr rfl, Cond.after_iff.mpr (eq_i res_at (Term.int_eval (1)) rfl), trivial⟩ ⟨hq.1, hq.2.1, (hq.2.2.sift fun y hy => Or.inr (N y hy)).mono (by decide) (by decide)⟩⟩
theorem main_1_1 : Claimed_1_1 := comes_1 fun _ _ _ _ _ _ h hF => ⟨h.1, hF⟩
theorem main_1_2 : Claimed_1_2 := comes_1 fun _ _ _ _ _ _ h hF => ⟨h.2.1, hF⟩
end Jvm.Pilot.@@N@@
namespace Jvm.Pilot.@@N@@
open Jvm Jvm.ClassFile Sem Op Lib Jvm.Free Jvm.Stand Jvm.Pilot.@@N@@.Jvm.D
/-! MADE BY PROGRAM (witnessworld.py) out of the Statement's table words and the real class files: 12 classes; the members and pool entries that the words name. The judged class is class 1, her method 1. -/
namespace start1
open Jvm.ClassFile
def u (s : String) : CpInfo := .utf8 (stringToUtf16 s)
/-- a pool by its gaps: so many unusable entries, then the entry; so many at the end -/
def gap : Nat → List CpInfo → List CpInfo
  | 0, r => r
  | n + 1, r => .unusable :: gap n r
def poolList (es : List (Nat × CpInfo)) (last : Nat) : List CpInfo := es.foldr (fun e r => gap e.1 (e.2 :: r)) (gap last [])
def pool (es : List (Nat × CpInfo)) (last : Nat) : Array CpInfo := ⟨poolList es last⟩
def fileOf (pool : Array CpInfo) (this : Nat) (attrs : Array Attribute := #[]) (ms : Array MethodInfo := #[]) (fl : Nat := 33) (sup : Nat := 0) (ifs : Array Nat := #[]) (fds : Array FieldInfo := #[]) : ClassFile where
  minorVersion := 0
  majorVersion := 65
  constantPool := pool
  accessFlags := fl
  thisClass := this
  superClass := sup
  interfaces := ifs
  fields := fds
  methods := ms
  attributes := attrs
def plain (name : String) (sup : Option ClassId) : Class where
  name := name
  kind := .ordinary
  loader := none
  accessFlags := 33
  super := sup
  interfaces := #[]
  cf := none
  fields := #[]
  methods := #[]
  instanceTypes := #[]
  staticTypes := #[]
  resolved := #[]
  callSites := []
  init := .initialized
  statics := none
  mirror := none

def pool0 : Array CpInfo := pool [(5, u "<init>"), (0, u "()V"), (1, .class_ 10), (1, u "java/lang/Object")] 113

def k0c0 : Code := { maxStack := 0, maxLocals := 1, code := object_method_1_code, exceptionTable := #[], attributes := #[] }
def k0m0 : Method := { name := "<init>", desc := "()V", sig := { parameters := [], returnType := none }, accessFlags := 1, code := some k0c0 }
/-- java/lang/Object -/
def k0 : Class := { plain "java/lang/Object" none with
  accessFlags := 33
  interfaces := #[]
  cf := some (fileOf pool0 8 #[] #[{ accessFlags := 1, nameIndex := 5, descriptorIndex := 6, attributes := #[] }] 33 0 #[] #[])
  fields := #[]
  methods := #[k0m0]
  instanceTypes := #[]
  staticTypes := #[]
  resolved := Array.replicate 124 none
  statics := none }

def pool1 : Array CpInfo := pool [(2, .class_ 4), (1, u "java/lang/Object"), (0, u "<init>"), (0, u "()V"), (0, .long 4611686018427387903), (1, .class_ 10), (0, u "com/example/wache/wache/AttemptTimes"), (0, .methodref 9 12), (0, .nameAndType 5 13), (0, u "(IJI)V"), (0, .methodref 9 15), (0, .nameAndType 16 17), (0, u "add"), (0, u "(IJ)V"), (0, .methodref 9 19), (0, .nameAndType 20 21), (0, u "clear"), (0, u "(I)V"), (0, .long 2), (1, .methodref 9 25), (0, .nameAndType 26 27), (0, u "countWithin"), (0, u "(IJ)J"), (0, .methodref 9 29), (0, .nameAndType 30 31), (0, u "latest"), (0, u "(I)J"), (0, .class_ 33), (0, u "com/example/wache/wache/AttemptTimesClearPinLaw"), (2, u "law"), (0, u "(JJIIII)Z")] 3

def k1m0 : Method := { name := "<init>", desc := "()V", sig := { parameters := [], returnType := none }, accessFlags := 1, code := none }
def k1c1 : Code := { maxStack := 6, maxLocals := 33, code := code, exceptionTable := #[], attributes := #[] }
def k1m1 : Method := { name := "law", desc := "(JJIIII)Z", sig := { parameters := [.long, .long, .int, .int, .int, .int], returnType := some .boolean }, accessFlags := 9, code := some k1c1 }
/-- com/example/wache/wache/AttemptTimesClearPinLaw -/
def k1 : Class := { plain "com/example/wache/wache/AttemptTimesClearPinLaw" (some 0) with
  accessFlags := 49
  interfaces := #[]
  cf := some (fileOf pool1 32 #[] #[{ accessFlags := 1, nameIndex := 5, descriptorIndex := 6, attributes := #[] }, { accessFlags := 9, nameIndex := 36, descriptorIndex := 37, attributes := #[] }] 49 2 #[] #[])
  fields := #[]
  methods := #[k1m0, k1m1]
  instanceTypes := #[]
  staticTypes := #[]
  resolved := Array.replicate 41 none
  statics := none }

def pool2 : Array CpInfo := pool [(1, .methodref 2 3), (0, .class_ 4), (0, .nameAndType 5 6), (0, u "java/lang/Object"), (0, u "<init>"), (0, u "()V"), (0, .fieldref 8 9), (0, .class_ 10), (0, .nameAndType 11 12), (0, u "com/example/wache/wache/AttemptTimes"), (0, u "spanMillis"), (0, u "J"), (0, .fieldref 8 14), (0, .nameAndType 15 16), (0, u "capacity"), (0, u "I"), (0, .fieldref 8 18), (0, .nameAndType 19 20), (0, u "shared"), (0, u "[J"), (0, .class_ 20), (0, .fieldref 8 23), (0, .nameAndType 24 25), (0, u "own"), (0, u "[[J"), (0, .fieldref 8 27), (0, .nameAndType 28 29), (0, u "heads"), (0, u "[I"), (0, .fieldref 8 31), (0, .nameAndType 32 29), (0, u "sizes"), (0, .methodref 8 34), (0, .nameAndType 35 36), (0, u "get"), (0, u "(II)J"), (0, .methodref 8 38), (0, .nameAndType 39 40), (0, u "dropOldest"), (0, u "(I)V"), (0, .methodref 8 42), (0, .nameAndType 43 44), (0, u "length"), (0, u "(I)I"), (0, .methodref 8 46), (0, .nameAndType 47 40), (0, u "grow"), (0, .methodref 8 49), (0, .nameAndType 50 51), (0, u "put"), (0, u "(IIJ)V"), (0, .methodref 8 53), (0, .nameAndType 54 55), (0, u "latest"), (0, u "(I)J"), (0, .methodref 8 57), (0, .nameAndType 58 59), (0, u "firstAfter"), (0, u "(IJ)I"), (0, .methodref 61 62), (0, .class_ 63), (0, .nameAndType 64 65), (0, u "java/lang/Math"), (0, u "min"), (0, u "(II)I"), (6, .long 2), (1, .methodref 61 75), (0, .nameAndType 64 76), (0, u "(JJ)J"), (0, .methodref 8 78), (0, .nameAndType 79 65), (0, u "index"), (0, u "SHARED_PER_SLOT"), (2, u "(IJI)V"), (2, u "add"), (0, u "(IJ)V"), (1, u "countWithin"), (0, u "(IJ)J"), (0, u "clear")] 4

def k2c0 : Code := { maxStack := 3, maxLocals := 5, code := prog_3_method_1_code, exceptionTable := #[], attributes := #[] }
def k2m0 : Method := { name := "<init>", desc := "(IJI)V", sig := { parameters := [.int, .long, .int], returnType := none }, accessFlags := 0, code := some k2c0 }
def k2c1 : Code := { maxStack := 6, maxLocals := 4, code := prog_3_method_2_code, exceptionTable := #[], attributes := #[] }
def k2m1 : Method := { name := "add", desc := "(IJ)V", sig := { parameters := [.int, .long], returnType := none }, accessFlags := 0, code := some k2c1 }
def k2c2 : Code := { maxStack := 4, maxLocals := 2, code := prog_3_method_3_code, exceptionTable := #[], attributes := #[] }
def k2m2 : Method := { name := "latest", desc := "(I)J", sig := { parameters := [.int], returnType := some .long }, accessFlags := 0, code := some k2c2 }
def k2c3 : Code := { maxStack := 6, maxLocals := 5, code := prog_3_method_4_code, exceptionTable := #[], attributes := #[] }
def k2m3 : Method := { name := "countWithin", desc := "(IJ)J", sig := { parameters := [.int, .long], returnType := some .long }, accessFlags := 0, code := some k2c3 }
def k2c4 : Code := { maxStack := 3, maxLocals := 2, code := prog_3_method_5_code, exceptionTable := #[], attributes := #[] }
def k2m4 : Method := { name := "clear", desc := "(I)V", sig := { parameters := [.int], returnType := none }, accessFlags := 0, code := some k2c4 }
def k2c5 : Code := { maxStack := 4, maxLocals := 7, code := prog_3_method_7_code, exceptionTable := #[], attributes := #[] }
def k2m5 : Method := { name := "firstAfter", desc := "(IJ)I", sig := { parameters := [.int, .long], returnType := some .int }, accessFlags := 2, code := some k2c5 }
def k2c6 : Code := { maxStack := 5, maxLocals := 2, code := prog_3_method_8_code, exceptionTable := #[], attributes := #[] }
def k2m6 : Method := { name := "dropOldest", desc := "(I)V", sig := { parameters := [.int], returnType := none }, accessFlags := 2, code := some k2c6 }
def k2c7 : Code := { maxStack := 6, maxLocals := 4, code := prog_3_method_9_code, exceptionTable := #[], attributes := #[] }
def k2m7 : Method := { name := "grow", desc := "(I)V", sig := { parameters := [.int], returnType := none }, accessFlags := 2, code := some k2c7 }
def k2c8 : Code := { maxStack := 5, maxLocals := 4, code := prog_3_method_10_code, exceptionTable := #[], attributes := #[] }
def k2m8 : Method := { name := "get", desc := "(II)J", sig := { parameters := [.int, .int], returnType := some .long }, accessFlags := 2, code := some k2c8 }
def k2c9 : Code := { maxStack := 5, maxLocals := 6, code := prog_3_method_11_code, exceptionTable := #[], attributes := #[] }
def k2m9 : Method := { name := "put", desc := "(IIJ)V", sig := { parameters := [.int, .int, .long], returnType := none }, accessFlags := 2, code := some k2c9 }
def k2c10 : Code := { maxStack := 2, maxLocals := 5, code := prog_3_method_12_code, exceptionTable := #[], attributes := #[] }
def k2m10 : Method := { name := "index", desc := "(II)I", sig := { parameters := [.int, .int], returnType := some .int }, accessFlags := 2, code := some k2c10 }
def k2c11 : Code := { maxStack := 2, maxLocals := 3, code := prog_3_method_13_code, exceptionTable := #[], attributes := #[] }
def k2m11 : Method := { name := "length", desc := "(I)I", sig := { parameters := [.int], returnType := some .int }, accessFlags := 2, code := some k2c11 }
/-- com/example/wache/wache/AttemptTimes -/
def k2 : Class := { plain "com/example/wache/wache/AttemptTimes" (some 0) with
  accessFlags := 48
  interfaces := #[]
  cf := some (fileOf pool2 8 #[] #[{ accessFlags := 0, nameIndex := 5, descriptorIndex := 83, attributes := #[] }, { accessFlags := 0, nameIndex := 86, descriptorIndex := 87, attributes := #[] }, { accessFlags := 0, nameIndex := 54, descriptorIndex := 55, attributes := #[] }, { accessFlags := 0, nameIndex := 89, descriptorIndex := 90, attributes := #[] }, { accessFlags := 0, nameIndex := 91, descriptorIndex := 40, attributes := #[] }, { accessFlags := 2, nameIndex := 58, descriptorIndex := 59, attributes := #[] }, { accessFlags := 2, nameIndex := 39, descriptorIndex := 40, attributes := #[] }, { accessFlags := 2, nameIndex := 47, descriptorIndex := 40, attributes := #[] }, { accessFlags := 2, nameIndex := 35, descriptorIndex := 36, attributes := #[] }, { accessFlags := 2, nameIndex := 50, descriptorIndex := 51, attributes := #[] }, { accessFlags := 2, nameIndex := 79, descriptorIndex := 65, attributes := #[] }, { accessFlags := 2, nameIndex := 43, descriptorIndex := 44, attributes := #[] }] 48 2 #[] #[{ accessFlags := 26, nameIndex := 80, descriptorIndex := 16, attributes := #[] }, { accessFlags := 18, nameIndex := 11, descriptorIndex := 12, attributes := #[] }, { accessFlags := 18, nameIndex := 15, descriptorIndex := 16, attributes := #[] }, { accessFlags := 18, nameIndex := 19, descriptorIndex := 20, attributes := #[] }, { accessFlags := 18, nameIndex := 24, descriptorIndex := 25, attributes := #[] }, { accessFlags := 18, nameIndex := 28, descriptorIndex := 29, attributes := #[] }, { accessFlags := 18, nameIndex := 32, descriptorIndex := 29, attributes := #[] }])
  fields := #[{ name := "SHARED_PER_SLOT", type := .int, accessFlags := 26, slot := 0, constantValue := 0 }, { name := "spanMillis", type := .long, accessFlags := 18, slot := 0, constantValue := 0 }, { name := "capacity", type := .int, accessFlags := 18, slot := 1, constantValue := 0 }, { name := "shared", type := (.array .long), accessFlags := 18, slot := 2, constantValue := 0 }, { name := "own", type := (.array (.array .long)), accessFlags := 18, slot := 3, constantValue := 0 }, { name := "heads", type := (.array .int), accessFlags := 18, slot := 4, constantValue := 0 }, { name := "sizes", type := (.array .int), accessFlags := 18, slot := 5, constantValue := 0 }]
  methods := #[k2m0, k2m1, k2m2, k2m3, k2m4, k2m5, k2m6, k2m7, k2m8, k2m9, k2m10, k2m11]
  instanceTypes := #[.long, .int, (.array .long), (.array (.array .long)), (.array .int), (.array .int)]
  staticTypes := #[.int]
  resolved := Array.replicate 96 none
  statics := none }

def pool3 : Array CpInfo := pool [(1, .class_ 2), (0, u "java/lang/Math"), (1, .class_ 6), (1, u "java/lang/Object"), (0, u "<init>"), (0, u "()V"), (89, .class_ 100), (1, u "java/lang/Math$RandomNumberGeneratorHolder"), (20, u "(JJ)J"), (50, u "negativeZeroFloatBits"), (0, u "J"), (2, u "negativeZeroDoubleBits"), (24, u "min"), (43, u "$assertionsDisabled"), (0, u "Z"), (88, u "(II)I"), (2, u "twoToTheDoubleScaleDown"), (0, u "D"), (4, u "twoToTheDoubleScaleUp"), (9, u "E"), (3, u "PI"), (2, u "TAU"), (2, u "DEGREES_TO_RADIANS"), (0, u "RADIANS_TO_DEGREES")] 94

def k3m0 : Method := { name := "<init>", desc := "()V", sig := { parameters := [], returnType := none }, accessFlags := 2, code := none }
def k3c1 : Code := { maxStack := 2, maxLocals := 2, code := jdk_29_method_69_code, exceptionTable := #[], attributes := #[] }
def k3m1 : Method := { name := "min", desc := "(II)I", sig := { parameters := [.int, .int], returnType := some .int }, accessFlags := 9, code := some k3c1 }
def k3c2 : Code := { maxStack := 4, maxLocals := 4, code := jdk_29_method_70_code, exceptionTable := #[], attributes := #[] }
def k3m2 : Method := { name := "min", desc := "(JJ)J", sig := { parameters := [.long, .long], returnType := some .long }, accessFlags := 9, code := some k3c2 }
/-- java/lang/Math -/
def k3 : Class := { plain "java/lang/Math" (some 0) with
  accessFlags := 49
  interfaces := #[]
  cf := some (fileOf pool3 1 #[.nestMembers #[98]] #[{ accessFlags := 2, nameIndex := 7, descriptorIndex := 8, attributes := #[] }, { accessFlags := 9, nameIndex := 201, descriptorIndex := 335, attributes := #[] }, { accessFlags := 9, nameIndex := 201, descriptorIndex := 121, attributes := #[] }] 49 4 #[] #[{ accessFlags := 25, nameIndex := 354, descriptorIndex := 339, attributes := #[] }, { accessFlags := 25, nameIndex := 358, descriptorIndex := 339, attributes := #[] }, { accessFlags := 25, nameIndex := 361, descriptorIndex := 339, attributes := #[] }, { accessFlags := 26, nameIndex := 364, descriptorIndex := 339, attributes := #[] }, { accessFlags := 26, nameIndex := 365, descriptorIndex := 339, attributes := #[] }, { accessFlags := 26, nameIndex := 172, descriptorIndex := 173, attributes := #[] }, { accessFlags := 26, nameIndex := 176, descriptorIndex := 173, attributes := #[] }, { accessFlags := 8, nameIndex := 344, descriptorIndex := 339, attributes := #[] }, { accessFlags := 8, nameIndex := 338, descriptorIndex := 339, attributes := #[] }, { accessFlags := 4120, nameIndex := 245, descriptorIndex := 246, attributes := #[] }])
  fields := #[{ name := "E", type := .double, accessFlags := 25, slot := 0, constantValue := 0 }, { name := "PI", type := .double, accessFlags := 25, slot := 1, constantValue := 0 }, { name := "TAU", type := .double, accessFlags := 25, slot := 2, constantValue := 0 }, { name := "DEGREES_TO_RADIANS", type := .double, accessFlags := 26, slot := 3, constantValue := 0 }, { name := "RADIANS_TO_DEGREES", type := .double, accessFlags := 26, slot := 4, constantValue := 0 }, { name := "negativeZeroFloatBits", type := .long, accessFlags := 26, slot := 5, constantValue := 0 }, { name := "negativeZeroDoubleBits", type := .long, accessFlags := 26, slot := 6, constantValue := 0 }, { name := "twoToTheDoubleScaleUp", type := .double, accessFlags := 8, slot := 7, constantValue := 0 }, { name := "twoToTheDoubleScaleDown", type := .double, accessFlags := 8, slot := 8, constantValue := 0 }, { name := "$assertionsDisabled", type := .boolean, accessFlags := 4120, slot := 9, constantValue := 0 }]
  methods := #[k3m0, k3m1, k3m2]
  instanceTypes := #[]
  staticTypes := #[.double, .double, .double, .double, .double, .long, .long, .double, .double, .boolean]
  resolved := Array.replicate 460 none
  statics := none }

def pool4 : Array CpInfo := pool [(1, u "java/lang/Cloneable"), (0, .class_ 1), (0, u "java/lang/Object"), (0, .class_ 3)] 3

/-- java/lang/Cloneable -/
def k4 : Class := { plain "java/lang/Cloneable" (some 0) with
  accessFlags := 1537
  interfaces := #[]
  cf := some (fileOf pool4 2 #[] #[] 1537 4 #[] #[])
  fields := #[]
  methods := #[]
  instanceTypes := #[]
  staticTypes := #[]
  resolved := Array.replicate 8 none
  statics := none }

def pool5 : Array CpInfo := pool [(1, u "java/io/Serializable"), (0, .class_ 1), (0, u "java/lang/Object"), (0, .class_ 3)] 3

/-- java/io/Serializable -/
def k5 : Class := { plain "java/io/Serializable" (some 0) with
  accessFlags := 1537
  interfaces := #[]
  cf := some (fileOf pool5 2 #[] #[] 1537 4 #[] #[])
  fields := #[]
  methods := #[]
  instanceTypes := #[]
  staticTypes := #[]
  resolved := Array.replicate 8 none
  statics := none }

/-- the primitive byte -/
def k6 : Class := { plain "byte" none with kind := .primitive 'B', accessFlags := 0x411 }
/-- [B -/
def k7 : Class := { plain "[B" (some 0) with kind := .array 6 .byte, interfaces := #[4, 5], accessFlags := 1041 }

/-- the primitive int -/
def k8 : Class := { plain "int" none with kind := .primitive 'I', accessFlags := 0x411 }
/-- [I -/
def k9 : Class := { plain "[I" (some 0) with kind := .array 8 .int, interfaces := #[4, 5], accessFlags := 1041 }

/-- the primitive long -/
def k10 : Class := { plain "long" none with kind := .primitive 'J', accessFlags := 0x411 }
/-- [J -/
def k11 : Class := { plain "[J" (some 0) with kind := .array 10 .long, interfaces := #[4, 5], accessFlags := 1041 }

def k12 : Class := { plain "[[J" (some 0) with kind := .array 11 (.array .long), interfaces := #[4, 5], accessFlags := 1041 }
def heap : Heap := #[]
def classes : Array Class := #[k0, k1, k2, k3, k4, k5, k6, k7, k8, k9, k10, k11, k12]
def interned : List (Array UInt16 × Addr) := []
def slotsUsed : Nat := 0
def theMethod : MethodId := ⟨1, 1⟩
def args0 : Array Value := #[.long 5, .long 6, .int 17, .int 8, .int 9, .int 11]
def aboutOver (below : List Frame) : State where
  vm := { classes := classes, interned := interned.toArray }
  heap := heap
  slotsUsed := slotsUsed
  threads := #[{ frames := .invoking theMethod args0 :: below }]
def below0 : List Frame := [.native { method := ⟨0, 0⟩, args := #[] }]
def about1 : State := aboutOver below0
def p0 : Program := .bare "" "" ""
def e0 : Env := launch0.env 0 0 0
theorem w_frames : about1.frames = Frame.invoking theMethod args0 :: below0 := rfl
set_option maxRecDepth 65536 in
theorem w_args : argsFit about1.vm theMethod args0 = true := by decide +kernel
set_option maxRecDepth 65536 in
theorem w_heap : heapFits about1 = true := by decide +kernel
set_option maxRecDepth 65536 in
theorem w_runnable : about1.curStatus? = some .runnable := by decide +kernel
set_option maxRecDepth 65536 in
theorem w_alone : about1.alone = true := by decide +kernel
set_option maxRecDepth 65536 in
theorem w_named : about1.methodNamed? x = some theMethod := by decide +kernel
set_option maxRecDepth 65536 in
theorem w_hears : about1.hears theMethod below0 = true := by decide +kernel
set_option maxRecDepth 65536 in
theorem w_ripe : about1.ripe theMethod args0 below0 = true := by decide +kernel
theorem w_running : about1.status = .running := rfl
set_option maxRecDepth 65536 in
theorem w_room : about1.hasRoom e0.platform room_1 = true :=
  launch0.hasRoom_least _ room_1 (by decide +kernel) (by decide +kernel) (by decide +kernel) (by decide +kernel) (by decide +kernel) (by decide +kernel)
theorem allAtoms_all (ts : List Jvm.Cond) (a : Array Jvm.Value) (st : Jvm.State) : (allAtoms ts).before a st = ts.all (fun c => c.before a st) := by
  induction ts with
  | nil => rfl
  | cons c t ih =>
    show (Jvm.Cond.and c (allAtoms t)).before a st = _
    rw [Jvm.Cond.before_and, ih, List.all_cons]
def words1 : List Jvm.Cond := Jvm.Cond.code x code maxLocals ret :: tables_1
/-- a 'code' word, met by the world's own term for the bytes: nothing is compared byte by byte -/
theorem code_word {y : MethodName} {bytes : ByteArray} {mx : Nat} {rt : Option FieldType} {a : Array Value} {s : State} {m : MethodId} {meth : Method} {c : Code} (h1 : s.methodNamed? y = some m) (h2 : s.vm.method? m = some meth) (h3 : meth.code = some c) (h4 : c.code = bytes)
    (h5 : (c.maxLocals == mx && c.exceptionTable.isEmpty && decide (c.maxStack ≤ mostOperands) && decide (meth.sig.returnType = rt) && !meth.locks && decide (parseMethodDescriptor y.desc = some meth.sig)) = true) : (Jvm.Cond.code y bytes mx rt).before a s = true := by
  simp only [Bool.and_eq_true, beq_iff_eq, Bool.not_eq_true', decide_eq_true_eq] at h5
  obtain ⟨⟨⟨⟨⟨g1, g2⟩, g3⟩, g4⟩, g5⟩, g6⟩ := h5
  simp [Cond.before, Cond.holds, Cond.value, h1, h2, h3, h4, g1, g2, g3, g4, g5, g6]
def isCode : Jvm.Cond → Bool
  | .code _ _ _ _ => true
  | _ => false
theorem all_split {L : List Jvm.Cond} {P : Jvm.Cond → Bool} (h1 : L.all (fun c => isCode c || P c) = true) (h2 : ∀ c ∈ L.filter isCode, P c = true) : L.all P = true := by
  refine List.all_eq_true.mpr fun c hc => ?_
  have h := List.all_eq_true.mp h1 c hc
  rcases Bool.eq_false_or_eq_true (isCode c) with hi | hi
  · exact h2 c (List.mem_filter.mpr ⟨hc, hi⟩)
  · simpa [hi] using h
set_option maxRecDepth 65536 in
theorem w_c0 : (Jvm.Cond.code x code maxLocals ret).before args0 about1 = true := code_word (m := ⟨1, 1⟩) (meth := k1m1) (c := k1c1) (by decide +kernel) rfl rfl rfl (by decide +kernel)
set_option maxRecDepth 65536 in
theorem w_c1 : (Jvm.Cond.code ({ cls := "com/example/wache/wache/AttemptTimes", name := "<init>", desc := "(IJI)V" } : Jvm.MethodName) prog_3_method_1_code (5 : Nat) (Option.none : Option Jvm.ClassFile.FieldType)).before args0 about1 = true := code_word (m := ⟨2, 0⟩) (meth := k2m0) (c := k2c0) (by decide +kernel) rfl rfl rfl (by decide +kernel)
set_option maxRecDepth 65536 in
theorem w_c2 : (Jvm.Cond.code ({ cls := "java/lang/Object", name := "<init>", desc := "()V" } : Jvm.MethodName) object_method_1_code (1 : Nat) (Option.none : Option Jvm.ClassFile.FieldType)).before args0 about1 = true := code_word (m := ⟨0, 0⟩) (meth := k0m0) (c := k0c0) (by decide +kernel) rfl rfl rfl (by decide +kernel)
set_option maxRecDepth 65536 in
theorem w_c3 : (Jvm.Cond.code ({ cls := "com/example/wache/wache/AttemptTimes", name := "add", desc := "(IJ)V" } : Jvm.MethodName) prog_3_method_2_code (4 : Nat) (Option.none : Option Jvm.ClassFile.FieldType)).before args0 about1 = true := code_word (m := ⟨2, 1⟩) (meth := k2m1) (c := k2c1) (by decide +kernel) rfl rfl rfl (by decide +kernel)
set_option maxRecDepth 65536 in
theorem w_c4 : (Jvm.Cond.code ({ cls := "com/example/wache/wache/AttemptTimes", name := "length", desc := "(I)I" } : Jvm.MethodName) prog_3_method_13_code (3 : Nat) (Option.some Jvm.ClassFile.FieldType.int)).before args0 about1 = true := code_word (m := ⟨2, 11⟩) (meth := k2m11) (c := k2c11) (by decide +kernel) rfl rfl rfl (by decide +kernel)
set_option maxRecDepth 65536 in
theorem w_c5 : (Jvm.Cond.code ({ cls := "com/example/wache/wache/AttemptTimes", name := "put", desc := "(IIJ)V" } : Jvm.MethodName) prog_3_method_11_code (6 : Nat) (Option.none : Option Jvm.ClassFile.FieldType)).before args0 about1 = true := code_word (m := ⟨2, 9⟩) (meth := k2m9) (c := k2c9) (by decide +kernel) rfl rfl rfl (by decide +kernel)
set_option maxRecDepth 65536 in
theorem w_c6 : (Jvm.Cond.code ({ cls := "com/example/wache/wache/AttemptTimes", name := "index", desc := "(II)I" } : Jvm.MethodName) prog_3_method_12_code (5 : Nat) (Option.some Jvm.ClassFile.FieldType.int)).before args0 about1 = true := code_word (m := ⟨2, 10⟩) (meth := k2m10) (c := k2c10) (by decide +kernel) rfl rfl rfl (by decide +kernel)
set_option maxRecDepth 65536 in
theorem w_c7 : (Jvm.Cond.code ({ cls := "com/example/wache/wache/AttemptTimes", name := "clear", desc := "(I)V" } : Jvm.MethodName) prog_3_method_5_code (2 : Nat) (Option.none : Option Jvm.ClassFile.FieldType)).before args0 about1 = true := code_word (m := ⟨2, 4⟩) (meth := k2m4) (c := k2c4) (by decide +kernel) rfl rfl rfl (by decide +kernel)
set_option maxRecDepth 65536 in
theorem w_c8 : (Jvm.Cond.code ({ cls := "com/example/wache/wache/AttemptTimes", name := "get", desc := "(II)J" } : Jvm.MethodName) prog_3_method_10_code (4 : Nat) (Option.some Jvm.ClassFile.FieldType.long)).before args0 about1 = true := code_word (m := ⟨2, 8⟩) (meth := k2m8) (c := k2c8) (by decide +kernel) rfl rfl rfl (by decide +kernel)
set_option maxRecDepth 65536 in
theorem w_c9 : (Jvm.Cond.code ({ cls := "com/example/wache/wache/AttemptTimes", name := "countWithin", desc := "(IJ)J" } : Jvm.MethodName) prog_3_method_4_code (5 : Nat) (Option.some Jvm.ClassFile.FieldType.long)).before args0 about1 = true := code_word (m := ⟨2, 3⟩) (meth := k2m3) (c := k2c3) (by decide +kernel) rfl rfl rfl (by decide +kernel)
set_option maxRecDepth 65536 in
theorem w_c10 : (Jvm.Cond.code ({ cls := "com/example/wache/wache/AttemptTimes", name := "latest", desc := "(I)J" } : Jvm.MethodName) prog_3_method_3_code (2 : Nat) (Option.some Jvm.ClassFile.FieldType.long)).before args0 about1 = true := code_word (m := ⟨2, 2⟩) (meth := k2m2) (c := k2c2) (by decide +kernel) rfl rfl rfl (by decide +kernel)
set_option maxRecDepth 65536 in
theorem w_c11 : (Jvm.Cond.code ({ cls := "com/example/wache/wache/AttemptTimes", name := "firstAfter", desc := "(IJ)I" } : Jvm.MethodName) prog_3_method_7_code (7 : Nat) (Option.some Jvm.ClassFile.FieldType.int)).before args0 about1 = true := code_word (m := ⟨2, 5⟩) (meth := k2m5) (c := k2c5) (by decide +kernel) rfl rfl rfl (by decide +kernel)
set_option maxRecDepth 65536 in
theorem w_c12 : (Jvm.Cond.code ({ cls := "java/lang/Math", name := "min", desc := "(II)I" } : Jvm.MethodName) jdk_29_method_69_code (2 : Nat) (Option.some Jvm.ClassFile.FieldType.int)).before args0 about1 = true := code_word (m := ⟨3, 1⟩) (meth := k3m1) (c := k3c1) (by decide +kernel) rfl rfl rfl (by decide +kernel)
set_option maxRecDepth 65536 in
theorem w_c13 : (Jvm.Cond.code ({ cls := "com/example/wache/wache/AttemptTimes", name := "dropOldest", desc := "(I)V" } : Jvm.MethodName) prog_3_method_8_code (2 : Nat) (Option.none : Option Jvm.ClassFile.FieldType)).before args0 about1 = true := code_word (m := ⟨2, 6⟩) (meth := k2m6) (c := k2c6) (by decide +kernel) rfl rfl rfl (by decide +kernel)
set_option maxRecDepth 65536 in
theorem w_c14 : (Jvm.Cond.code ({ cls := "com/example/wache/wache/AttemptTimes", name := "grow", desc := "(I)V" } : Jvm.MethodName) prog_3_method_9_code (4 : Nat) (Option.none : Option Jvm.ClassFile.FieldType)).before args0 about1 = true := code_word (m := ⟨2, 7⟩) (meth := k2m7) (c := k2c7) (by decide +kernel) rfl rfl rfl (by decide +kernel)
set_option maxRecDepth 65536 in
theorem w_c15 : (Jvm.Cond.code ({ cls := "java/lang/Math", name := "min", desc := "(JJ)J" } : Jvm.MethodName) jdk_29_method_70_code (4 : Nat) (Option.some Jvm.ClassFile.FieldType.long)).before args0 about1 = true := code_word (m := ⟨3, 2⟩) (meth := k3m2) (c := k3c2) (by decide +kernel) rfl rfl rfl (by decide +kernel)
def codes1 : List Jvm.Cond := [Jvm.Cond.code x code maxLocals ret, Jvm.Cond.code ({ cls := "com/example/wache/wache/AttemptTimes", name := "<init>", desc := "(IJI)V" } : Jvm.MethodName) prog_3_method_1_code (5 : Nat) (Option.none : Option Jvm.ClassFile.FieldType), Jvm.Cond.code ({ cls := "java/lang/Object", name := "<init>", desc := "()V" } : Jvm.MethodName) object_method_1_code (1 : Nat) (Option.none : Option Jvm.ClassFile.FieldType), Jvm.Cond.code ({ cls := "com/example/wache/wache/AttemptTimes", name := "add", desc := "(IJ)V" } : Jvm.MethodName) prog_3_method_2_code (4 : Nat) (Option.none : Option Jvm.ClassFile.FieldType), Jvm.Cond.code ({ cls := "com/example/wache/wache/AttemptTimes", name := "length", desc := "(I)I" } : Jvm.MethodName) prog_3_method_13_code (3 : Nat) (Option.some Jvm.ClassFile.FieldType.int), Jvm.Cond.code ({ cls := "com/example/wache/wache/AttemptTimes", name := "put", desc := "(IIJ)V" } : Jvm.MethodName) prog_3_method_11_code (6 : Nat) (Option.none : Option Jvm.ClassFile.FieldType), Jvm.Cond.code ({ cls := "com/example/wache/wache/AttemptTimes", name := "index", desc := "(II)I" } : Jvm.MethodName) prog_3_method_12_code (5 : Nat) (Option.some Jvm.ClassFile.FieldType.int), Jvm.Cond.code ({ cls := "com/example/wache/wache/AttemptTimes", name := "clear", desc := "(I)V" } : Jvm.MethodName) prog_3_method_5_code (2 : Nat) (Option.none : Option Jvm.ClassFile.FieldType), Jvm.Cond.code ({ cls := "com/example/wache/wache/AttemptTimes", name := "get", desc := "(II)J" } : Jvm.MethodName) prog_3_method_10_code (4 : Nat) (Option.some Jvm.ClassFile.FieldType.long), Jvm.Cond.code ({ cls := "com/example/wache/wache/AttemptTimes", name := "countWithin", desc := "(IJ)J" } : Jvm.MethodName) prog_3_method_4_code (5 : Nat) (Option.some Jvm.ClassFile.FieldType.long), Jvm.Cond.code ({ cls := "com/example/wache/wache/AttemptTimes", name := "latest", desc := "(I)J" } : Jvm.MethodName) prog_3_method_3_code (2 : Nat) (Option.some Jvm.ClassFile.FieldType.long), Jvm.Cond.code ({ cls := "com/example/wache/wache/AttemptTimes", name := "firstAfter", desc := "(IJ)I" } : Jvm.MethodName) prog_3_method_7_code (7 : Nat) (Option.some Jvm.ClassFile.FieldType.int), Jvm.Cond.code ({ cls := "java/lang/Math", name := "min", desc := "(II)I" } : Jvm.MethodName) jdk_29_method_69_code (2 : Nat) (Option.some Jvm.ClassFile.FieldType.int), Jvm.Cond.code ({ cls := "com/example/wache/wache/AttemptTimes", name := "dropOldest", desc := "(I)V" } : Jvm.MethodName) prog_3_method_8_code (2 : Nat) (Option.none : Option Jvm.ClassFile.FieldType), Jvm.Cond.code ({ cls := "com/example/wache/wache/AttemptTimes", name := "grow", desc := "(I)V" } : Jvm.MethodName) prog_3_method_9_code (4 : Nat) (Option.none : Option Jvm.ClassFile.FieldType), Jvm.Cond.code ({ cls := "java/lang/Math", name := "min", desc := "(JJ)J" } : Jvm.MethodName) jdk_29_method_70_code (4 : Nat) (Option.some Jvm.ClassFile.FieldType.long)]
set_option maxRecDepth 65536 in
theorem codes_eq : words1.filter isCode = codes1 := rfl
theorem w_codes : ∀ c ∈ words1.filter isCode, c.before args0 about1 = true := by
  rw [codes_eq]
  intro c hc
  simp only [codes1, List.mem_cons, List.not_mem_nil, or_false] at hc
  rcases hc with rfl | rfl | rfl | rfl | rfl | rfl | rfl | rfl | rfl | rfl | rfl | rfl | rfl | rfl | rfl | rfl
  · exact w_c0
  · exact w_c1
  · exact w_c2
  · exact w_c3
  · exact w_c4
  · exact w_c5
  · exact w_c6
  · exact w_c7
  · exact w_c8
  · exact w_c9
  · exact w_c10
  · exact w_c11
  · exact w_c12
  · exact w_c13
  · exact w_c14
  · exact w_c15
set_option maxRecDepth 65536 in
theorem w_t1 : (words1.take 24).all (fun c => isCode c || c.before args0 about1) = true := by decide +kernel
set_option maxRecDepth 65536 in
theorem w_t2 : ((words1.drop 24).take 24).all (fun c => isCode c || c.before args0 about1) = true := by decide +kernel
set_option maxRecDepth 65536 in
theorem w_t3 : (((words1.drop 24).drop 24).take 24).all (fun c => isCode c || c.before args0 about1) = true := by decide +kernel
set_option maxRecDepth 65536 in
theorem w_t4 : (((words1.drop 24).drop 24).drop 24).all (fun c => isCode c || c.before args0 about1) = true := by decide +kernel
theorem w_tables : (allAtoms (Jvm.Cond.code x code maxLocals ret :: tables_1)).before args0 about1 = true := by
  rw [allAtoms_all]
  show words1.all (fun c => c.before args0 about1) = true
  refine all_split ?_ w_codes
  rw [← List.take_append_drop 24 words1, List.all_append, w_t1, ← List.take_append_drop 24 (words1.drop 24), List.all_append, w_t2, ← List.take_append_drop 24 ((words1.drop 24).drop 24), List.all_append, w_t3, w_t4]
  rfl
set_option maxRecDepth 65536 in
theorem w_case : (Jvm.Cond.and given_1 narrow_1).before args0 about1 = true := by decide +kernel
theorem w_applies : (headSpec (Jvm.Cond.code x code maxLocals ret :: tables_1) room_1).applies x e0.platform about1 = true :=
  (Spec.applies_iff w_frames).mpr ⟨w_running, w_runnable, w_alone, w_named, w_hears, w_ripe, w_room, w_tables⟩
theorem atStart : AtStart classFile x code maxLocals ret World_1 tables_1 room_1 Calls_1 rest_1 Pre_1 launch0 p0 e0 about1 theMethod args0 below0 :=
  ⟨lists_1, trivial, launch0.admits_env _ _ _, launch0.least_env, fairChoices_fair.cas, fairChoices_fair.clock, w_frames, w_args, w_heap, w_applies, trivial, trivial, w_case⟩
end start1
theorem witness_1 : WitnessClaimed_1 := ⟨start1.p0, start1.e0, start1.about1, start1.theMethod, start1.args0, start1.below0, start1.atStart⟩
end Jvm.Pilot.@@N@@
