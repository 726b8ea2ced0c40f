import JvmDerived
import JvmDerived.Pilot.@@N@@Statement
import JvmDerived.Pilot.@@N@@Code
set_option linter.unusedVariables false
set_option linter.unusedSimpArgs false
namespace Jvm.RoadKit
open Sem ClassFile Op Lib Jvm.Stand Jvm.Free Jvm.LawKit
section Own
variable {p : Program} {l : Launch} {e : Env} {R : Room} {s : State} {m : MethodId} {args : Array Value} {below : List Frame} {meth : Method} {c : Code} {T : State} {locs : List Loc} {cells slots : Nat}
/-- the run from S ends by a return, with Qp of what it returns, the heap and the places written, within kc cells and ks slots -/
def OwnGo (p : Program) (e : Env) (below : List Frame) (s : State) (Qp : Option Value → Heap → List Loc → Prop) (kc ks : Nat) (S : State) : Prop :=
  ∃ s₂ o, Steps p.tables e below S s₂ ∧ s₂.status = .running ∧ Ended s₂ below o ∧ ∃ v L, o = .returned v ∧ Qp v s₂.heap L ∧ FrameEnd s o s₂ L kc ks
variable {Qp : Option Value → Heap → List Loc → Prop} {kc ks : Nat} {S S' : State}
theorem ownStep (h : ∀ t, Steps p.tables e below S' t → Steps p.tables e below S t) (k : OwnGo p e below s Qp kc ks S') : OwnGo p e below s Qp kc ks S := by
  obtain ⟨s₂, o, h1, r⟩ := k
  exact ⟨s₂, o, h _ h1, r⟩
theorem ownTrans (h : Steps p.tables e below S S') (k : OwnGo p e below s Qp kc ks S') : OwnGo p e below s Qp kc ks S := ownStep (fun _ q => h.trans q) k
theorem ownEnd (X : Stand p l e R s m args below meth c T locs cells slots) {v : Option Value} (hv : meth.sig.returnType = none → v = none) (hlk : meth.locks = false) (hc : cells ≤ kc) (hs : slots ≤ ks) (hq : Qp v T.heap locs)
    (hst : ∀ fs : List Frame, (∀ (f : JFrame) (acts : List Action), f.method = m → f.locked = none → f.entered = [] → (doReturn e (T.setTop f) acts v).1 = T.setFrames fs) → Steps p.tables e below S (T.setFrames fs)) : OwnGo p e below s Qp kc ks S := by
  obtain ⟨fs, hr, hrun, hended, hW, hsame⟩ := X.leave (v := v) hv hlk
  exact ⟨_, _, hst fs hr, hrun, hended, _, _, rfl, hq, ⟨_, rfl⟩, hW, hsame.mono hc hs⟩
theorem ownRetN (X : Stand p l e R s m args below meth c T locs cells slots) (hx : p.tables.exec = Jvm.exec) {pc : Nat} {Ls : Array Slot} {z : Int32} {t : FieldType} {rest : List Value} (hret : meth.sig.returnType = some t) (ht : t = .boolean ∨ t = .byte ∨ t = .char ∨ t = .short) (hd : decode c.code pc = .ok (.ireturn, 1)) (hlk : meth.locks = false) (hc : cells ≤ kc) (hs : slots ≤ ks) (hq : Qp (some (.int (nar t z))) T.heap locs) :
    OwnGo p e below s Qp kc ks (T.setTop (mkF m pc Ls (.int z :: rest))) :=
  ownEnd X (fun h => by rw [hret] at h; cases h) hlk hc hs hq (fun fs hr => retN X hx hret ht hd hr)
theorem ownRetI (X : Stand p l e R s m args below meth c T locs cells slots) (hx : p.tables.exec = Jvm.exec) {pc : Nat} {Ls : Array Slot} {z : Int32} {rest : List Value} (hret : meth.sig.returnType = some .int) (hd : decode c.code pc = .ok (.ireturn, 1)) (hlk : meth.locks = false) (hc : cells ≤ kc) (hs : slots ≤ ks) (hq : Qp (some (.int z)) T.heap locs) :
    OwnGo p e below s Qp kc ks (T.setTop (mkF m pc Ls (.int z :: rest))) :=
  ownEnd X (fun h => by rw [hret] at h; cases h) hlk hc hs hq (fun fs hr => retOut X hx hret rfl (Or.inl ⟨rfl, Or.inl rfl, z, rfl⟩) hd hr)
theorem ownRetA (X : Stand p l e R s m args below meth c T locs cells slots) (hx : p.tables.exec = Jvm.exec) {pc : Nat} {Ls : Array Slot} {w : Value} {t : FieldType} {rest : List Value} (hret : meth.sig.returnType = some t) (hn : narrow t w = w) (ht : t.isReference = true) (hw : w.isRef = true) (hd : decode c.code pc = .ok (.areturn, 1)) (hlk : meth.locks = false) (hc : cells ≤ kc) (hs : slots ≤ ks) (hq : Qp (some w) T.heap locs) :
    OwnGo p e below s Qp kc ks (T.setTop (mkF m pc Ls (w :: rest))) :=
  ownEnd X (fun h => by rw [hret] at h; cases h) hlk hc hs hq (fun fs hr => retOut X hx hret hn (Or.inr (Or.inr (Or.inr (Or.inr ⟨rfl, ht, hw⟩)))) hd hr)
theorem ownRetB (X : Stand p l e R s m args below meth c T locs cells slots) (hx : p.tables.exec = Jvm.exec) {pc : Nat} {Ls : Array Slot} {z : Int32} {t : FieldType} {rest : List Value} (hret : meth.sig.returnType = some t) (ht : t = .int ∨ t = .boolean ∨ t = .byte ∨ t = .char ∨ t = .short) (hn : narrow t (.int z) = .int z) (hd : decode c.code pc = .ok (.ireturn, 1)) (hlk : meth.locks = false) (hc : cells ≤ kc) (hs : slots ≤ ks) (hq : Qp (some (.int z)) T.heap locs) :
    OwnGo p e below s Qp kc ks (T.setTop (mkF m pc Ls (.int z :: rest))) :=
  ownEnd X (fun h => by rw [hret] at h; cases h) hlk hc hs hq (fun fs hr => retOut X hx hret hn (Or.inl ⟨rfl, ht, z, rfl⟩) hd hr)
theorem ownRet0 (X : Stand p l e R s m args below meth c T locs cells slots) (hx : p.tables.exec = Jvm.exec) {pc : Nat} {Ls : Array Slot} (hret : meth.sig.returnType = none) (hd : decode c.code pc = .ok (.return_, 1)) (hlk : meth.locks = false) (hc : cells ≤ kc) (hs : slots ≤ ks) (hq : Qp none T.heap locs) :
    OwnGo p e below s Qp kc ks (T.setTop (mkF m pc Ls [])) :=
  ownEnd X (fun _ => rfl) hlk hc hs hq (fun fs hr => X.returnOut hx hret hd hr)
end Own
section OwnWords
variable {args : Array Value} {first s : State} {o : Option Outcome} {idx : List Nat} {t u : Term} {k : Int32} {x : Addr}
theorem own_eqI (h : (Cond.eq t (.int k)).value args first o s idx = some true) : t.eval args first o idx s = some (.int k) := by
  simp only [Cond.value, Term.eval] at h
  cases ht : t.eval args first o idx s with
  | none => simp [ht] at h
  | some y => cases y <;> simp [ht] at h ⊢ <;> exact h
theorem own_eqR (h : (Cond.eq t u).value args first o s idx = some true) (hu : u.eval args first o idx s = some (.ref x)) : t.eval args first o idx s = some (.ref x) := by
  simp only [Cond.value, hu] at h
  cases ht : t.eval args first o idx s with
  | none => simp [ht] at h
  | some y => cases y <;> simp [ht] at h ⊢ <;> exact h
theorem own_fld {C n d : String} {v : Value} (ht : t.eval args s none [] s = some (.ref x)) (h : (Term.field t C n d).eval args s none [] s = some v) : Fld s s.heap x C n d v :=
  Fld.start (by rw [← fld_at ht]; exact h)
theorem own_len {n : Int32} (ht : t.eval args first o idx s = some (.ref x)) (h : (Term.length t).eval args first o idx s = some (.int n)) {cl : Cell} (hc : s.heap[x]? = some cl) : cl.slots.size < 2 ^ 31 ∧ cl.slots.size.toInt32 = n := by
  obtain ⟨x', cl', e1, e2, e3⟩ := Term.length_spec h
  cases ht.symm.trans e1
  have e4 : cl' = cl := Option.some.inj ((State.arrayAt?_spec e2).1.symm.trans hc)
  subst e4
  simp only [Term.eval, ht, e2, Option.bind_eq_bind, Option.bind_some] at h
  split at h <;> simp_all
end OwnWords
theorem own_pos {x : Int32} (h1 : ¬ x < 0) (h2 : ¬ x = 0) : (0 : Int32) < x := by
  rw [Int32.lt_iff_toInt_lt] at *
  have h3 : x.toInt ≠ (0 : Int32).toInt := fun q => h2 (Int32.toInt_inj.mp q)
  have h4 : (0 : Int32).toInt = 0 := rfl
  omega
theorem own_nlt {x : Int32} (h1 : (0 : Int32) < x) : ¬ x < 0 := by
  rw [Int32.lt_iff_toInt_lt] at *
  have h4 : (0 : Int32).toInt = 0 := rfl
  omega
end Jvm.RoadKit
namespace Jvm.RoadKit
open Sem ClassFile Op Lib Jvm.Stand Jvm.Free Jvm.LawKit
section OwnW
variable {p : Program} {l : Launch} {e : Env} {R : Room} {s : State} {m : MethodId} {args : Array Value} {below : List Frame} {meth : Method} {c : Code} {T : State} {locs : List Loc} {cells slots : Nat}
/-- as OwnGo; the tables of interned strings may grow -/
def OwnGoW (p : Program) (e : Env) (below : List Frame) (s : State) (Qp : Option Value → Heap → List Loc → Prop) (kc ks : Nat) (S : State) : Prop :=
  ∃ s₂ o, Steps p.tables e below S s₂ ∧ s₂.status = .running ∧ Ended s₂ below o ∧ ∃ v L, o = .returned v ∧ Qp v s₂.heap L ∧ ReturnedEndW s o s₂ L kc ks
variable {Qp : Option Value → Heap → List Loc → Prop} {kc ks : Nat} {S S' : State}
theorem ownStepW (h : ∀ t, Steps p.tables e below S' t → Steps p.tables e below S t) (k : OwnGoW p e below s Qp kc ks S') : OwnGoW p e below s Qp kc ks S := by
  obtain ⟨s₂, o, h1, r⟩ := k
  exact ⟨s₂, o, h _ h1, r⟩
theorem ownTransW (h : Steps p.tables e below S S') (k : OwnGoW p e below s Qp kc ks S') : OwnGoW p e below s Qp kc ks S := ownStepW (fun _ q => h.trans q) k
theorem ownEndW {vm₁ : Vm} (X : Stand p l e R (s.setVm vm₁) m args below meth c T locs cells slots) {n : Nat} (hS : s.Since vm₁ n) (hn : n ≤ T.heap.size) {v : Option Value} (hv : meth.sig.returnType = none → v = none) (hlk : meth.locks = false) (hc : cells ≤ kc) (hs : slots ≤ ks) (hq : Qp v T.heap locs)
    (hst : ∀ fs : List Frame, (∀ (f : JFrame) (acts : List Action), f.method = m → f.locked = none → f.entered = [] → (doReturn e (T.setTop f) acts v).1 = T.setFrames fs) → Steps p.tables e below S (T.setFrames fs)) : OwnGoW p e below s Qp kc ks S := by
  obtain ⟨fs, hr, hrun, hended, h1, h2, h3, h4⟩ := X.leaveW hS hn (v := v) hv hlk
  exact ⟨_, _, hst fs hr, hrun, hended, _, _, rfl, hq, h1, h2, h3, h4.mono hc hs⟩
theorem ownRetNW {vm₁ : Vm} (X : Stand p l e R (s.setVm vm₁) m args below meth c T locs cells slots) {n : Nat} (hS : s.Since vm₁ n) (hn : n ≤ T.heap.size) (hx : p.tables.exec = Jvm.exec) {pc : Nat} {Ls : Array Slot} {z : Int32} {t : FieldType} {rest : List Value} (hret : meth.sig.returnType = some t) (ht : t = .boolean ∨ t = .byte ∨ t = .char ∨ t = .short) (hd : decode c.code pc = .ok (.ireturn, 1)) (hlk : meth.locks = false) (hc : cells ≤ kc) (hs : slots ≤ ks) (hq : Qp (some (.int (nar t z))) T.heap locs) :
    OwnGoW p e below s Qp kc ks (T.setTop (mkF m pc Ls (.int z :: rest))) :=
  ownEndW X hS hn (fun h => by rw [hret] at h; cases h) hlk hc hs hq (fun fs hr => retN X hx hret ht hd hr)
theorem ownRetAW {vm₁ : Vm} (X : Stand p l e R (s.setVm vm₁) m args below meth c T locs cells slots) {n : Nat} (hS : s.Since vm₁ n) (hn : n ≤ T.heap.size) (hx : p.tables.exec = Jvm.exec) {pc : Nat} {Ls : Array Slot} {w : Value} {t : FieldType} {rest : List Value} (hret : meth.sig.returnType = some t) (hnw : narrow t w = w) (ht : t.isReference = true) (hw : w.isRef = true) (hd : decode c.code pc = .ok (.areturn, 1)) (hlk : meth.locks = false) (hc : cells ≤ kc) (hs : slots ≤ ks) (hq : Qp (some w) T.heap locs) :
    OwnGoW p e below s Qp kc ks (T.setTop (mkF m pc Ls (w :: rest))) :=
  ownEndW X hS hn (fun h => by rw [hret] at h; cases h) hlk hc hs hq (fun fs hr => retOut X hx hret hnw (Or.inr (Or.inr (Or.inr (Or.inr ⟨rfl, ht, hw⟩)))) hd hr)
end OwnW
end Jvm.RoadKit
namespace Jvm.Pilot.@@N@@
open Jvm Jvm.ClassFile Sem Op Lib Jvm.Free Jvm.Stand Jvm.LawKit Jvm.RoadKit Bundle Jvm.Pilot.@@N@@.Jvm.D
theorem d1_0 : decode prog_29_method_1_code 0 = .ok (.aload_n 0, 1) := by decide +kernel
theorem d1_1 : decode prog_29_method_1_code 1 = .ok (.invokespecial 1, 3) := by decide +kernel
theorem d1_4 : decode prog_29_method_1_code 4 = .ok (.aload_n 0, 1) := by decide +kernel
theorem d1_5 : decode prog_29_method_1_code 5 = .ok (.aload_n 1, 1) := by decide +kernel
theorem d1_6 : decode prog_29_method_1_code 6 = .ok (.putfield 7, 3) := by decide +kernel
theorem d1_9 : decode prog_29_method_1_code 9 = .ok (.aload_n 0, 1) := by decide +kernel
theorem d1_10 : decode prog_29_method_1_code 10 = .ok (.aload_n 2, 1) := by decide +kernel
theorem d1_11 : decode prog_29_method_1_code 11 = .ok (.putfield 13, 3) := by decide +kernel
theorem d1_14 : decode prog_29_method_1_code 14 = .ok (.aload_n 0, 1) := by decide +kernel
theorem d1_15 : decode prog_29_method_1_code 15 = .ok (.aload_n 3, 1) := by decide +kernel
theorem d1_16 : decode prog_29_method_1_code 16 = .ok (.putfield 17, 3) := by decide +kernel
theorem d1_19 : decode prog_29_method_1_code 19 = .ok (.aload_n 0, 1) := by decide +kernel
theorem d1_20 : decode prog_29_method_1_code 20 = .ok (.iload 4, 2) := by decide +kernel
theorem d1_22 : decode prog_29_method_1_code 22 = .ok (.putfield 20, 3) := by decide +kernel
theorem d1_25 : decode prog_29_method_1_code 25 = .ok (.aload_n 0, 1) := by decide +kernel
theorem d1_26 : decode prog_29_method_1_code 26 = .ok (.iload 5, 2) := by decide +kernel
theorem d1_28 : decode prog_29_method_1_code 28 = .ok (.putfield 24, 3) := by decide +kernel
theorem d1_31 : decode prog_29_method_1_code 31 = .ok (.aload_n 0, 1) := by decide +kernel
theorem d1_32 : decode prog_29_method_1_code 32 = .ok (.iload 6, 2) := by decide +kernel
theorem d1_34 : decode prog_29_method_1_code 34 = .ok (.putfield 27, 3) := by decide +kernel
theorem d1_37 : decode prog_29_method_1_code 37 = .ok (.aload_n 0, 1) := by decide +kernel
theorem d1_38 : decode prog_29_method_1_code 38 = .ok (.iload 7, 2) := by decide +kernel
theorem d1_40 : decode prog_29_method_1_code 40 = .ok (.putfield 30, 3) := by decide +kernel
theorem d1_43 : decode prog_29_method_1_code 43 = .ok (.return_, 1) := by decide +kernel
theorem d3_0 : decode prog_29_method_6_code 0 = .ok (.aload_n 0, 1) := by decide +kernel
theorem d3_1 : decode prog_29_method_6_code 1 = .ok (.getfield 20, 3) := by decide +kernel
theorem d3_4 : decode prog_29_method_6_code 4 = .ok (.aload_n 1, 1) := by decide +kernel
theorem d3_5 : decode prog_29_method_6_code 5 = .ok (.getfield 24, 3) := by decide +kernel
theorem d3_8 : decode prog_29_method_6_code 8 = .ok (.if_icmp .ne 7, 3) := by decide +kernel
theorem d3_11 : decode prog_29_method_6_code 11 = .ok (.iconst 1, 1) := by decide +kernel
theorem d3_12 : decode prog_29_method_6_code 12 = .ok (.goto 4, 3) := by decide +kernel
theorem d3_15 : decode prog_29_method_6_code 15 = .ok (.iconst 0, 1) := by decide +kernel
theorem d3_16 : decode prog_29_method_6_code 16 = .ok (.ireturn, 1) := by decide +kernel
theorem own_pd0 : parseMethodDescriptor "(Lcom/example/steward/steward/statement/Token$Type;Ljava/lang/String;Ljava/lang/String;IIII)V" = some ⟨[(.object "com/example/steward/steward/statement/Token$Type"), (.object "java/lang/String"), (.object "java/lang/String"), .int, .int, .int, .int], none⟩ := by decide +kernel
theorem own_pd1 : parseMethodDescriptor "(Lcom/example/steward/steward/statement/Token;)Z" = some ⟨[(.object "com/example/steward/steward/statement/Token")], some .boolean⟩ := by decide +kernel
def QI (Z : State) (b1 : Addr) (a1 : Addr) (a2 : Addr) (a3 : Addr) (p4 : Int32) (p5 : Int32) (p6 : Int32) (p7 : Int32) (h0 : Heap) (n0 : Nat) (v : Option Value) (h : Heap) (L : List Loc) : Prop := v = none ∧ Fr n0 L ∧ Old Z n0 h ∧ Keep h0 h [b1] ∧ Exa Z h b1 "com/example/steward/steward/statement/Token" ∧ Fld Z h b1 "com/example/steward/steward/statement/Token" "start" "I" (.int p4) ∧ Fld Z h b1 "com/example/steward/steward/statement/Token" "end" "I" (.int p5)
theorem own_pn_rmI : plainName "com/example/steward/steward/statement/Token" = true := by first | (simp [plainName, overriddenIn]; done) | decide +kernel
theorem own_ef_rmI (m : MethodId) (x0 : Addr) (x1 : Addr) (x2 : Addr) (x3 : Addr) (x4 : Int32) (x5 : Int32) (x6 : Int32) (x7 : Int32) : entryFrame m #[(.ref x0), (.ref x1), (.ref x2), (.ref x3), (.int x4), (.int x5), (.int x6), (.int x7)] 8 = mkF m 0 #[.val (.ref x0), .val (.ref x1), .val (.ref x2), .val (.ref x3), .val (.int x4), .val (.int x5), .val (.int x6), .val (.int x7)] [] := by first | (simp [entryFrame, mkF, argsToLocals, Value.category]; done) | rfl
set_option maxRecDepth 65536 in
set_option maxHeartbeats 40000000 in
theorem rmI (l : Launch) (Z : State) (a0 : Array Value) (hw : ∀ d ∈ tables_1, d.before a0 Z = true) (ws : List Jvm.Cond) (b1 : Addr) (a1 : Addr) (a2 : Addr) (a3 : Addr) (p4 : Int32) (p5 : Int32) (p6 : Int32) (p7 : Int32) (h0 : Heap) (n0 : Nat) (O0 : Old Z n0 h0) (E0 : Exa Z h0 b1 "com/example/steward/steward/statement/Token") (F0 : Fld Z h0 b1 "com/example/steward/steward/statement/Token" "type" "Lcom/example/steward/steward/statement/Token$Type;" .null) (F1 : Fld Z h0 b1 "com/example/steward/steward/statement/Token" "value" "Ljava/lang/String;" .null) (F2 : Fld Z h0 b1 "com/example/steward/steward/statement/Token" "opening" "Ljava/lang/String;" .null) (F3 : Fld Z h0 b1 "com/example/steward/steward/statement/Token" "start" "I" (.int (0 : Int32))) (F4 : Fld Z h0 b1 "com/example/steward/steward/statement/Token" "end" "I" (.int (0 : Int32))) (F5 : Fld Z h0 b1 "com/example/steward/steward/statement/Token" "line" "I" (.int (0 : Int32))) (F6 : Fld Z h0 b1 "com/example/steward/steward/statement/Token" "column" "I" (.int (0 : Int32))) (ge : n0 ≤ b1) :
    MetFree l (⟨"com/example/steward/steward/statement/Token", "<init>", "(Lcom/example/steward/steward/statement/Token$Type;Ljava/lang/String;Ljava/lang/String;IIII)V"⟩ : MethodName) (head1 (Jvm.Cond.code (⟨"com/example/steward/steward/statement/Token", "<init>", "(Lcom/example/steward/steward/statement/Token$Type;Ljava/lang/String;Ljava/lang/String;IIII)V"⟩ : MethodName) prog_29_method_1_code 8 none :: ws) ({ frames := 1, cells := 0, slots := 0, locals := 12 } : Room)) (fun a U => a = #[(.ref b1), (.ref a1), (.ref a2), (.ref a3), (.int p4), (.int p5), (.int p6), (.int p7)] ∧ Z.Warmed39 U.vm ∧ U.heap = h0) (fun _ _ _ _ _ => True) (fun _ U o U' => ∃ v L, o = .returned v ∧ QI Z b1 a1 a2 a3 p4 p5 p6 p7 h0 n0 v U'.heap L ∧ FrameEnd U o U' L ({ frames := 1, cells := 0, slots := 0, locals := 12 } : Room).cells ({ frames := 1, cells := 0, slots := 0, locals := 12 } : Room).slots) := by
  refine MetFree.of_bodySF (plainFor_of_name own_pn_rmI) hisR ?_
  intro p e s m args below meth c s₁ Bd hml0 hP hK
  obtain ⟨rfl, hZ, hh⟩ := hP
  have hx := Bd.exec
  have hby := Bd.bytes
  have hml : c.maxLocals = 8 := hml0
  have hown : s.vm.findClass "com/example/steward/steward/statement/Token" = some m.cls := findClass_of_methodNamed Bd.named
  have hnm := (name_of_methodNamed Bd.named Bd.method).1
  have X0 : Stand p l e ({ frames := 1, cells := 0, slots := 0, locals := 12 } : Room) s m #[(.ref b1), (.ref a1), (.ref a2), (.ref a3), (.int p4), (.int p5), (.int p6), (.int p7)] below meth c s₁ [] 0 0 := Stand.of_body Bd
  have e0 : s₁.heap = h0 := by rw [← hh, Bd.state]; rfl
  have N0 := Fr.nil n0
  show OwnGo p e below s (QI Z b1 a1 a2 a3 p4 p5 p6 p7 h0 n0) ({ frames := 1, cells := 0, slots := 0, locals := 12 } : Room).cells ({ frames := 1, cells := 0, slots := 0, locals := 12 } : Room).slots (s₁.setTop (entryFrame m #[(.ref b1), (.ref a1), (.ref a2), (.ref a3), (.int p4), (.int p5), (.int p6), (.int p7)] 8))
  refine ownStep (fun _ k => castTop (own_ef_rmI m b1 a1 a2 a3 p4 p5 p6 p7) k) ?_
  show OwnGo _ _ _ _ _ _ _ (s₁.setTop (mkF m 0 #[.val (.ref b1), .val (.ref a1), .val (.ref a2), .val (.ref a3), .val (.int p4), .val (.int p5), .val (.int p6), .val (.int p7)] []))
  refine ownStep (fun _ k => XS.aloadN X0.here hx rfl (hb hby d1_0) rfl rfl k) ?_
  show OwnGo _ _ _ _ _ _ _ (s₁.setTop (mkF m 1 #[.val (.ref b1), .val (.ref a1), .val (.ref a2), .val (.ref a3), .val (.int p4), .val (.int p5), .val (.int p6), .val (.int p7)] [(.ref b1)]))
  obtain ⟨T1, X1, e1, st1⟩ := initO X0 hx hZ hown (hw _ (List.mem_of_getElem? (i := 18) rfl)) (hw _ (List.mem_of_getElem? (i := 19) rfl)) (hw _ (List.mem_of_getElem? (i := 20) rfl)) e0 (g := (mkF m 1 #[.val (.ref b1), .val (.ref a1), .val (.ref a2), .val (.ref a3), .val (.int p4), .val (.int p5), .val (.int p6), .val (.int p7)] [(.ref b1)])) rfl (by rw [hml]; rfl) rfl (hb hby d1_1) (by decide) (W := 0) (by show 2 * 0 + _ ≤ _; exact Nat.le_of_eq rfl) (by decide)
  refine ownStep st1 ?_
  show OwnGo _ _ _ _ _ _ _ (T1.setTop (mkF m 4 #[.val (.ref b1), .val (.ref a1), .val (.ref a2), .val (.ref a3), .val (.int p4), .val (.int p5), .val (.int p6), .val (.int p7)] []))
  refine ownStep (fun _ k => XS.aloadN X1.here hx rfl (hb hby d1_4) rfl rfl k) ?_
  show OwnGo _ _ _ _ _ _ _ (T1.setTop (mkF m 5 #[.val (.ref b1), .val (.ref a1), .val (.ref a2), .val (.ref a3), .val (.int p4), .val (.int p5), .val (.int p6), .val (.int p7)] [(.ref b1)]))
  refine ownStep (fun _ k => XS.aloadN X1.here hx rfl (hb hby d1_5) rfl rfl k) ?_
  show OwnGo _ _ _ _ _ _ _ (T1.setTop (mkF m 6 #[.val (.ref b1), .val (.ref a1), .val (.ref a2), .val (.ref a3), .val (.int p4), .val (.int p5), .val (.int p6), .val (.int p7)] [(.ref a1), (.ref b1)]))
  obtain ⟨T2, h2, X2, e2, W2, st2⟩ := putF X1 hx hZ hown (host := "") (Or.inl (hw _ (List.mem_of_getElem? (i := 21) rfl))) Via.refl e1 F0 E0 (Or.inr ⟨(hw _ (List.mem_of_getElem? (i := 22) rfl)), rfl, hnm⟩) (hw _ (List.mem_of_getElem? (i := 1) rfl)) (ty := (.object "com/example/steward/steward/statement/Token$Type")) (by decide) rfl rfl (g := (mkF m 6 #[.val (.ref b1), .val (.ref a1), .val (.ref a2), .val (.ref a3), .val (.int p4), .val (.int p5), .val (.int p6), .val (.int p7)] [(.ref a1), (.ref b1)])) rfl rfl (hb hby d1_6)
  refine ownStep st2 ?_
  have N2 := Fr.snoc X2 N0 ge
  have O2 := O0.wr W2 ge
  show OwnGo _ _ _ _ _ _ _ (T2.setTop (mkF m 9 #[.val (.ref b1), .val (.ref a1), .val (.ref a2), .val (.ref a3), .val (.int p4), .val (.int p5), .val (.int p6), .val (.int p7)] []))
  have Fx2_0 := Fld.same W2 F0
  have Fx2_1 := (F1.other W2 (Or.inr (slot_ne (Or.inr (hw _ (List.mem_of_getElem? (i := 24) rfl))) (Or.inr (hw _ (List.mem_of_getElem? (i := 22) rfl))) (by decide) (t := (.object "java/lang/String")) (t' := (.object "com/example/steward/steward/statement/Token$Type")) (by decide) (by decide))))
  have Fx2_2 := (F2.other W2 (Or.inr (slot_ne (Or.inr (hw _ (List.mem_of_getElem? (i := 26) rfl))) (Or.inr (hw _ (List.mem_of_getElem? (i := 22) rfl))) (by decide) (t := (.object "java/lang/String")) (t' := (.object "com/example/steward/steward/statement/Token$Type")) (by decide) (by decide))))
  have Fx2_3 := (F3.other W2 (Or.inr (slot_ne (Or.inr (hw _ (List.mem_of_getElem? (i := 28) rfl))) (Or.inr (hw _ (List.mem_of_getElem? (i := 22) rfl))) (by decide) (t := .int) (t' := (.object "com/example/steward/steward/statement/Token$Type")) (by decide) (by decide))))
  have Fx2_4 := (F4.other W2 (Or.inr (slot_ne (Or.inr (hw _ (List.mem_of_getElem? (i := 30) rfl))) (Or.inr (hw _ (List.mem_of_getElem? (i := 22) rfl))) (by decide) (t := .int) (t' := (.object "com/example/steward/steward/statement/Token$Type")) (by decide) (by decide))))
  have Fx2_5 := (F5.other W2 (Or.inr (slot_ne (Or.inr (hw _ (List.mem_of_getElem? (i := 32) rfl))) (Or.inr (hw _ (List.mem_of_getElem? (i := 22) rfl))) (by decide) (t := .int) (t' := (.object "com/example/steward/steward/statement/Token$Type")) (by decide) (by decide))))
  have Fx2_6 := (F6.other W2 (Or.inr (slot_ne (Or.inr (hw _ (List.mem_of_getElem? (i := 34) rfl))) (Or.inr (hw _ (List.mem_of_getElem? (i := 22) rfl))) (by decide) (t := .int) (t' := (.object "com/example/steward/steward/statement/Token$Type")) (by decide) (by decide))))
  have Ex2 := Exa.wr W2 E0
  have Kx2 := Keep.wr (Keep.refl h0 [b1]) W2 (Or.inl (List.mem_of_getElem? (i := 0) rfl))
  refine ownStep (fun _ k => XS.aloadN X2.here hx rfl (hb hby d1_9) rfl rfl k) ?_
  show OwnGo _ _ _ _ _ _ _ (T2.setTop (mkF m 10 #[.val (.ref b1), .val (.ref a1), .val (.ref a2), .val (.ref a3), .val (.int p4), .val (.int p5), .val (.int p6), .val (.int p7)] [(.ref b1)]))
  refine ownStep (fun _ k => XS.aloadN X2.here hx rfl (hb hby d1_10) rfl rfl k) ?_
  show OwnGo _ _ _ _ _ _ _ (T2.setTop (mkF m 11 #[.val (.ref b1), .val (.ref a1), .val (.ref a2), .val (.ref a3), .val (.int p4), .val (.int p5), .val (.int p6), .val (.int p7)] [(.ref a2), (.ref b1)]))
  obtain ⟨T3, h3, X3, e3, W3, st3⟩ := putF X2 hx hZ hown (host := "") (Or.inl (hw _ (List.mem_of_getElem? (i := 23) rfl))) Via.refl e2 Fx2_1 Ex2 (Or.inr ⟨(hw _ (List.mem_of_getElem? (i := 24) rfl)), rfl, hnm⟩) (hw _ (List.mem_of_getElem? (i := 1) rfl)) (ty := (.object "java/lang/String")) (by decide) rfl rfl (g := (mkF m 11 #[.val (.ref b1), .val (.ref a1), .val (.ref a2), .val (.ref a3), .val (.int p4), .val (.int p5), .val (.int p6), .val (.int p7)] [(.ref a2), (.ref b1)])) rfl rfl (hb hby d1_11)
  refine ownStep st3 ?_
  have N3 := Fr.snoc X3 N2 ge
  have O3 := O2.wr W3 ge
  show OwnGo _ _ _ _ _ _ _ (T3.setTop (mkF m 14 #[.val (.ref b1), .val (.ref a1), .val (.ref a2), .val (.ref a3), .val (.int p4), .val (.int p5), .val (.int p6), .val (.int p7)] []))
  have Fx3_1 := Fld.same W3 Fx2_1
  have Fx3_2 := (Fx2_2.other W3 (Or.inr (slot_ne (Or.inr (hw _ (List.mem_of_getElem? (i := 26) rfl))) (Or.inr (hw _ (List.mem_of_getElem? (i := 24) rfl))) (by decide) (t := (.object "java/lang/String")) (t' := (.object "java/lang/String")) (by decide) (by decide))))
  have Fx3_3 := (Fx2_3.other W3 (Or.inr (slot_ne (Or.inr (hw _ (List.mem_of_getElem? (i := 28) rfl))) (Or.inr (hw _ (List.mem_of_getElem? (i := 24) rfl))) (by decide) (t := .int) (t' := (.object "java/lang/String")) (by decide) (by decide))))
  have Fx3_4 := (Fx2_4.other W3 (Or.inr (slot_ne (Or.inr (hw _ (List.mem_of_getElem? (i := 30) rfl))) (Or.inr (hw _ (List.mem_of_getElem? (i := 24) rfl))) (by decide) (t := .int) (t' := (.object "java/lang/String")) (by decide) (by decide))))
  have Fx3_5 := (Fx2_5.other W3 (Or.inr (slot_ne (Or.inr (hw _ (List.mem_of_getElem? (i := 32) rfl))) (Or.inr (hw _ (List.mem_of_getElem? (i := 24) rfl))) (by decide) (t := .int) (t' := (.object "java/lang/String")) (by decide) (by decide))))
  have Fx3_6 := (Fx2_6.other W3 (Or.inr (slot_ne (Or.inr (hw _ (List.mem_of_getElem? (i := 34) rfl))) (Or.inr (hw _ (List.mem_of_getElem? (i := 24) rfl))) (by decide) (t := .int) (t' := (.object "java/lang/String")) (by decide) (by decide))))
  have Ex3 := Exa.wr W3 Ex2
  have Kx3 := Keep.wr Kx2 W3 (Or.inl (List.mem_of_getElem? (i := 0) rfl))
  refine ownStep (fun _ k => XS.aloadN X3.here hx rfl (hb hby d1_14) rfl rfl k) ?_
  show OwnGo _ _ _ _ _ _ _ (T3.setTop (mkF m 15 #[.val (.ref b1), .val (.ref a1), .val (.ref a2), .val (.ref a3), .val (.int p4), .val (.int p5), .val (.int p6), .val (.int p7)] [(.ref b1)]))
  refine ownStep (fun _ k => XS.aloadN X3.here hx rfl (hb hby d1_15) rfl rfl k) ?_
  show OwnGo _ _ _ _ _ _ _ (T3.setTop (mkF m 16 #[.val (.ref b1), .val (.ref a1), .val (.ref a2), .val (.ref a3), .val (.int p4), .val (.int p5), .val (.int p6), .val (.int p7)] [(.ref a3), (.ref b1)]))
  obtain ⟨T4, h4, X4, e4, W4, st4⟩ := putF X3 hx hZ hown (host := "") (Or.inl (hw _ (List.mem_of_getElem? (i := 25) rfl))) Via.refl e3 Fx3_2 Ex3 (Or.inr ⟨(hw _ (List.mem_of_getElem? (i := 26) rfl)), rfl, hnm⟩) (hw _ (List.mem_of_getElem? (i := 1) rfl)) (ty := (.object "java/lang/String")) (by decide) rfl rfl (g := (mkF m 16 #[.val (.ref b1), .val (.ref a1), .val (.ref a2), .val (.ref a3), .val (.int p4), .val (.int p5), .val (.int p6), .val (.int p7)] [(.ref a3), (.ref b1)])) rfl rfl (hb hby d1_16)
  refine ownStep st4 ?_
  have N4 := Fr.snoc X4 N3 ge
  have O4 := O3.wr W4 ge
  show OwnGo _ _ _ _ _ _ _ (T4.setTop (mkF m 19 #[.val (.ref b1), .val (.ref a1), .val (.ref a2), .val (.ref a3), .val (.int p4), .val (.int p5), .val (.int p6), .val (.int p7)] []))
  have Fx4_2 := Fld.same W4 Fx3_2
  have Fx4_3 := (Fx3_3.other W4 (Or.inr (slot_ne (Or.inr (hw _ (List.mem_of_getElem? (i := 28) rfl))) (Or.inr (hw _ (List.mem_of_getElem? (i := 26) rfl))) (by decide) (t := .int) (t' := (.object "java/lang/String")) (by decide) (by decide))))
  have Fx4_4 := (Fx3_4.other W4 (Or.inr (slot_ne (Or.inr (hw _ (List.mem_of_getElem? (i := 30) rfl))) (Or.inr (hw _ (List.mem_of_getElem? (i := 26) rfl))) (by decide) (t := .int) (t' := (.object "java/lang/String")) (by decide) (by decide))))
  have Fx4_5 := (Fx3_5.other W4 (Or.inr (slot_ne (Or.inr (hw _ (List.mem_of_getElem? (i := 32) rfl))) (Or.inr (hw _ (List.mem_of_getElem? (i := 26) rfl))) (by decide) (t := .int) (t' := (.object "java/lang/String")) (by decide) (by decide))))
  have Fx4_6 := (Fx3_6.other W4 (Or.inr (slot_ne (Or.inr (hw _ (List.mem_of_getElem? (i := 34) rfl))) (Or.inr (hw _ (List.mem_of_getElem? (i := 26) rfl))) (by decide) (t := .int) (t' := (.object "java/lang/String")) (by decide) (by decide))))
  have Ex4 := Exa.wr W4 Ex3
  have Kx4 := Keep.wr Kx3 W4 (Or.inl (List.mem_of_getElem? (i := 0) rfl))
  refine ownStep (fun _ k => XS.aloadN X4.here hx rfl (hb hby d1_19) rfl rfl k) ?_
  show OwnGo _ _ _ _ _ _ _ (T4.setTop (mkF m 20 #[.val (.ref b1), .val (.ref a1), .val (.ref a2), .val (.ref a3), .val (.int p4), .val (.int p5), .val (.int p6), .val (.int p7)] [(.ref b1)]))
  refine ownStep (fun _ k => XS.iload X4.here hx rfl (hb hby d1_20) rfl k) ?_
  show OwnGo _ _ _ _ _ _ _ (T4.setTop (mkF m 22 #[.val (.ref b1), .val (.ref a1), .val (.ref a2), .val (.ref a3), .val (.int p4), .val (.int p5), .val (.int p6), .val (.int p7)] [(.int p4), (.ref b1)]))
  obtain ⟨T5, h5, X5, e5, W5, st5⟩ := putF X4 hx hZ hown (host := "") (Or.inl (hw _ (List.mem_of_getElem? (i := 27) rfl))) Via.refl e4 Fx4_3 Ex4 (Or.inr ⟨(hw _ (List.mem_of_getElem? (i := 28) rfl)), rfl, hnm⟩) (hw _ (List.mem_of_getElem? (i := 1) rfl)) (ty := .int) (by decide) rfl rfl (g := (mkF m 22 #[.val (.ref b1), .val (.ref a1), .val (.ref a2), .val (.ref a3), .val (.int p4), .val (.int p5), .val (.int p6), .val (.int p7)] [(.int p4), (.ref b1)])) rfl rfl (hb hby d1_22)
  refine ownStep st5 ?_
  have N5 := Fr.snoc X5 N4 ge
  have O5 := O4.wr W5 ge
  show OwnGo _ _ _ _ _ _ _ (T5.setTop (mkF m 25 #[.val (.ref b1), .val (.ref a1), .val (.ref a2), .val (.ref a3), .val (.int p4), .val (.int p5), .val (.int p6), .val (.int p7)] []))
  have Fx5_3 := Fld.same W5 Fx4_3
  have Fx5_4 := (Fx4_4.other W5 (Or.inr (slot_ne (Or.inr (hw _ (List.mem_of_getElem? (i := 30) rfl))) (Or.inr (hw _ (List.mem_of_getElem? (i := 28) rfl))) (by decide) (t := .int) (t' := .int) (by decide) (by decide))))
  have Fx5_5 := (Fx4_5.other W5 (Or.inr (slot_ne (Or.inr (hw _ (List.mem_of_getElem? (i := 32) rfl))) (Or.inr (hw _ (List.mem_of_getElem? (i := 28) rfl))) (by decide) (t := .int) (t' := .int) (by decide) (by decide))))
  have Fx5_6 := (Fx4_6.other W5 (Or.inr (slot_ne (Or.inr (hw _ (List.mem_of_getElem? (i := 34) rfl))) (Or.inr (hw _ (List.mem_of_getElem? (i := 28) rfl))) (by decide) (t := .int) (t' := .int) (by decide) (by decide))))
  have Ex5 := Exa.wr W5 Ex4
  have Kx5 := Keep.wr Kx4 W5 (Or.inl (List.mem_of_getElem? (i := 0) rfl))
  refine ownStep (fun _ k => XS.aloadN X5.here hx rfl (hb hby d1_25) rfl rfl k) ?_
  show OwnGo _ _ _ _ _ _ _ (T5.setTop (mkF m 26 #[.val (.ref b1), .val (.ref a1), .val (.ref a2), .val (.ref a3), .val (.int p4), .val (.int p5), .val (.int p6), .val (.int p7)] [(.ref b1)]))
  refine ownStep (fun _ k => XS.iload X5.here hx rfl (hb hby d1_26) rfl k) ?_
  show OwnGo _ _ _ _ _ _ _ (T5.setTop (mkF m 28 #[.val (.ref b1), .val (.ref a1), .val (.ref a2), .val (.ref a3), .val (.int p4), .val (.int p5), .val (.int p6), .val (.int p7)] [(.int p5), (.ref b1)]))
  obtain ⟨T6, h6, X6, e6, W6, st6⟩ := putF X5 hx hZ hown (host := "") (Or.inl (hw _ (List.mem_of_getElem? (i := 29) rfl))) Via.refl e5 Fx5_4 Ex5 (Or.inr ⟨(hw _ (List.mem_of_getElem? (i := 30) rfl)), rfl, hnm⟩) (hw _ (List.mem_of_getElem? (i := 1) rfl)) (ty := .int) (by decide) rfl rfl (g := (mkF m 28 #[.val (.ref b1), .val (.ref a1), .val (.ref a2), .val (.ref a3), .val (.int p4), .val (.int p5), .val (.int p6), .val (.int p7)] [(.int p5), (.ref b1)])) rfl rfl (hb hby d1_28)
  refine ownStep st6 ?_
  have N6 := Fr.snoc X6 N5 ge
  have O6 := O5.wr W6 ge
  show OwnGo _ _ _ _ _ _ _ (T6.setTop (mkF m 31 #[.val (.ref b1), .val (.ref a1), .val (.ref a2), .val (.ref a3), .val (.int p4), .val (.int p5), .val (.int p6), .val (.int p7)] []))
  have Fx6_3 := (Fx5_3.other W6 (Or.inr (slot_ne (Or.inr (hw _ (List.mem_of_getElem? (i := 28) rfl))) (Or.inr (hw _ (List.mem_of_getElem? (i := 30) rfl))) (by decide) (t := .int) (t' := .int) (by decide) (by decide))))
  have Fx6_4 := Fld.same W6 Fx5_4
  have Fx6_5 := (Fx5_5.other W6 (Or.inr (slot_ne (Or.inr (hw _ (List.mem_of_getElem? (i := 32) rfl))) (Or.inr (hw _ (List.mem_of_getElem? (i := 30) rfl))) (by decide) (t := .int) (t' := .int) (by decide) (by decide))))
  have Fx6_6 := (Fx5_6.other W6 (Or.inr (slot_ne (Or.inr (hw _ (List.mem_of_getElem? (i := 34) rfl))) (Or.inr (hw _ (List.mem_of_getElem? (i := 30) rfl))) (by decide) (t := .int) (t' := .int) (by decide) (by decide))))
  have Ex6 := Exa.wr W6 Ex5
  have Kx6 := Keep.wr Kx5 W6 (Or.inl (List.mem_of_getElem? (i := 0) rfl))
  refine ownStep (fun _ k => XS.aloadN X6.here hx rfl (hb hby d1_31) rfl rfl k) ?_
  show OwnGo _ _ _ _ _ _ _ (T6.setTop (mkF m 32 #[.val (.ref b1), .val (.ref a1), .val (.ref a2), .val (.ref a3), .val (.int p4), .val (.int p5), .val (.int p6), .val (.int p7)] [(.ref b1)]))
  refine ownStep (fun _ k => XS.iload X6.here hx rfl (hb hby d1_32) rfl k) ?_
  show OwnGo _ _ _ _ _ _ _ (T6.setTop (mkF m 34 #[.val (.ref b1), .val (.ref a1), .val (.ref a2), .val (.ref a3), .val (.int p4), .val (.int p5), .val (.int p6), .val (.int p7)] [(.int p6), (.ref b1)]))
  obtain ⟨T7, h7, X7, e7, W7, st7⟩ := putF X6 hx hZ hown (host := "") (Or.inl (hw _ (List.mem_of_getElem? (i := 31) rfl))) Via.refl e6 Fx6_5 Ex6 (Or.inr ⟨(hw _ (List.mem_of_getElem? (i := 32) rfl)), rfl, hnm⟩) (hw _ (List.mem_of_getElem? (i := 1) rfl)) (ty := .int) (by decide) rfl rfl (g := (mkF m 34 #[.val (.ref b1), .val (.ref a1), .val (.ref a2), .val (.ref a3), .val (.int p4), .val (.int p5), .val (.int p6), .val (.int p7)] [(.int p6), (.ref b1)])) rfl rfl (hb hby d1_34)
  refine ownStep st7 ?_
  have N7 := Fr.snoc X7 N6 ge
  have O7 := O6.wr W7 ge
  show OwnGo _ _ _ _ _ _ _ (T7.setTop (mkF m 37 #[.val (.ref b1), .val (.ref a1), .val (.ref a2), .val (.ref a3), .val (.int p4), .val (.int p5), .val (.int p6), .val (.int p7)] []))
  have Fx7_3 := (Fx6_3.other W7 (Or.inr (slot_ne (Or.inr (hw _ (List.mem_of_getElem? (i := 28) rfl))) (Or.inr (hw _ (List.mem_of_getElem? (i := 32) rfl))) (by decide) (t := .int) (t' := .int) (by decide) (by decide))))
  have Fx7_4 := (Fx6_4.other W7 (Or.inr (slot_ne (Or.inr (hw _ (List.mem_of_getElem? (i := 30) rfl))) (Or.inr (hw _ (List.mem_of_getElem? (i := 32) rfl))) (by decide) (t := .int) (t' := .int) (by decide) (by decide))))
  have Fx7_5 := Fld.same W7 Fx6_5
  have Fx7_6 := (Fx6_6.other W7 (Or.inr (slot_ne (Or.inr (hw _ (List.mem_of_getElem? (i := 34) rfl))) (Or.inr (hw _ (List.mem_of_getElem? (i := 32) rfl))) (by decide) (t := .int) (t' := .int) (by decide) (by decide))))
  have Ex7 := Exa.wr W7 Ex6
  have Kx7 := Keep.wr Kx6 W7 (Or.inl (List.mem_of_getElem? (i := 0) rfl))
  refine ownStep (fun _ k => XS.aloadN X7.here hx rfl (hb hby d1_37) rfl rfl k) ?_
  show OwnGo _ _ _ _ _ _ _ (T7.setTop (mkF m 38 #[.val (.ref b1), .val (.ref a1), .val (.ref a2), .val (.ref a3), .val (.int p4), .val (.int p5), .val (.int p6), .val (.int p7)] [(.ref b1)]))
  refine ownStep (fun _ k => XS.iload X7.here hx rfl (hb hby d1_38) rfl k) ?_
  show OwnGo _ _ _ _ _ _ _ (T7.setTop (mkF m 40 #[.val (.ref b1), .val (.ref a1), .val (.ref a2), .val (.ref a3), .val (.int p4), .val (.int p5), .val (.int p6), .val (.int p7)] [(.int p7), (.ref b1)]))
  obtain ⟨T8, h8, X8, e8, W8, st8⟩ := putF X7 hx hZ hown (host := "") (Or.inl (hw _ (List.mem_of_getElem? (i := 33) rfl))) Via.refl e7 Fx7_6 Ex7 (Or.inr ⟨(hw _ (List.mem_of_getElem? (i := 34) rfl)), rfl, hnm⟩) (hw _ (List.mem_of_getElem? (i := 1) rfl)) (ty := .int) (by decide) rfl rfl (g := (mkF m 40 #[.val (.ref b1), .val (.ref a1), .val (.ref a2), .val (.ref a3), .val (.int p4), .val (.int p5), .val (.int p6), .val (.int p7)] [(.int p7), (.ref b1)])) rfl rfl (hb hby d1_40)
  refine ownStep st8 ?_
  have N8 := Fr.snoc X8 N7 ge
  have O8 := O7.wr W8 ge
  show OwnGo _ _ _ _ _ _ _ (T8.setTop (mkF m 43 #[.val (.ref b1), .val (.ref a1), .val (.ref a2), .val (.ref a3), .val (.int p4), .val (.int p5), .val (.int p6), .val (.int p7)] []))
  have Fx8_3 := (Fx7_3.other W8 (Or.inr (slot_ne (Or.inr (hw _ (List.mem_of_getElem? (i := 28) rfl))) (Or.inr (hw _ (List.mem_of_getElem? (i := 34) rfl))) (by decide) (t := .int) (t' := .int) (by decide) (by decide))))
  have Fx8_4 := (Fx7_4.other W8 (Or.inr (slot_ne (Or.inr (hw _ (List.mem_of_getElem? (i := 30) rfl))) (Or.inr (hw _ (List.mem_of_getElem? (i := 34) rfl))) (by decide) (t := .int) (t' := .int) (by decide) (by decide))))
  have Fx8_5 := (Fx7_5.other W8 (Or.inr (slot_ne (Or.inr (hw _ (List.mem_of_getElem? (i := 32) rfl))) (Or.inr (hw _ (List.mem_of_getElem? (i := 34) rfl))) (by decide) (t := .int) (t' := .int) (by decide) (by decide))))
  have Fx8_6 := Fld.same W8 Fx7_6
  have Ex8 := Exa.wr W8 Ex7
  have Kx8 := Keep.wr Kx7 W8 (Or.inl (List.mem_of_getElem? (i := 0) rfl))
  have eq43 : T8.heap = h8 := e8
  exact ownRet0 X8 hx Bd.returns (hb hby d1_43) (BodyLoose.notSynchronized Bd) (by decide) (by decide) (by rw [eq43]; exact ⟨rfl, N8, O8, Kx8, Ex8, Fx8_3, Fx8_4⟩)
def QF (Z : State) (a1 : Addr) (a2 : Addr) (u : Int32) (t : Int32) (r : Int32) (h0 : Heap) (n0 : Nat) (v : Option Value) (h : Heap) (L : List Loc) : Prop := v = some (.int r) ∧ Fr n0 L ∧ h = h0
theorem own_pn_rmF : plainName "com/example/steward/steward/statement/Token" = true := by first | (simp [plainName, overriddenIn]; done) | decide +kernel
theorem own_ef_rmF (m : MethodId) (x0 : Addr) (x1 : Addr) : entryFrame m #[(.ref x0), (.ref x1)] 2 = mkF m 0 #[.val (.ref x0), .val (.ref x1)] [] := by first | (simp [entryFrame, mkF, argsToLocals, Value.category]; done) | rfl
set_option maxRecDepth 65536 in
set_option maxHeartbeats 40000000 in
theorem rmF (l : Launch) (Z : State) (a0 : Array Value) (hw : ∀ d ∈ tables_1, d.before a0 Z = true) (ws : List Jvm.Cond) (a1 : Addr) (a2 : Addr) (u : Int32) (t : Int32) (r : Int32) (h0 : Heap) (n0 : Nat) (F1 : Fld Z h0 a1 "com/example/steward/steward/statement/Token" "start" "I" (.int u)) (F2 : Fld Z h0 a2 "com/example/steward/steward/statement/Token" "end" "I" (.int t)) (hr : (if u = t then (1 : Int32) else 0) = r) :
    MetFree l (⟨"com/example/steward/steward/statement/Token", "follows", "(Lcom/example/steward/steward/statement/Token;)Z"⟩ : MethodName) (head1 (Jvm.Cond.code (⟨"com/example/steward/steward/statement/Token", "follows", "(Lcom/example/steward/steward/statement/Token;)Z"⟩ : MethodName) prog_29_method_6_code 2 (some .boolean) :: ws) ({ frames := 0, cells := 0, slots := 0, locals := 0 } : Room)) (fun a U => a = #[(.ref a1), (.ref a2)] ∧ Z.Warmed39 U.vm ∧ U.heap = h0) (fun _ _ _ _ _ => True) (fun _ U o U' => ∃ v L, o = .returned v ∧ QF Z a1 a2 u t r h0 n0 v U'.heap L ∧ FrameEnd U o U' L ({ frames := 0, cells := 0, slots := 0, locals := 0 } : Room).cells ({ frames := 0, cells := 0, slots := 0, locals := 0 } : Room).slots) := by
  refine MetFree.of_bodySF (plainFor_of_name own_pn_rmF) hisR ?_
  intro p e s m args below meth c s₁ Bd hml0 hP hK
  obtain ⟨rfl, hZ, hh⟩ := hP
  have hx := Bd.exec
  have hby := Bd.bytes
  have hml : c.maxLocals = 2 := hml0
  have hown : s.vm.findClass "com/example/steward/steward/statement/Token" = some m.cls := findClass_of_methodNamed Bd.named
  have hnm := (name_of_methodNamed Bd.named Bd.method).1
  have X0 : Stand p l e ({ frames := 0, cells := 0, slots := 0, locals := 0 } : Room) s m #[(.ref a1), (.ref a2)] below meth c s₁ [] 0 0 := Stand.of_body Bd
  have e0 : s₁.heap = h0 := by rw [← hh, Bd.state]; rfl
  have N0 := Fr.nil n0
  show OwnGo p e below s (QF Z a1 a2 u t r h0 n0) ({ frames := 0, cells := 0, slots := 0, locals := 0 } : Room).cells ({ frames := 0, cells := 0, slots := 0, locals := 0 } : Room).slots (s₁.setTop (entryFrame m #[(.ref a1), (.ref a2)] 2))
  refine ownStep (fun _ k => castTop (own_ef_rmF m a1 a2) k) ?_
  show OwnGo _ _ _ _ _ _ _ (s₁.setTop (mkF m 0 #[.val (.ref a1), .val (.ref a2)] []))
  refine ownStep (fun _ k => XS.aloadN X0.here hx rfl (hb hby d3_0) rfl rfl k) ?_
  show OwnGo _ _ _ _ _ _ _ (s₁.setTop (mkF m 1 #[.val (.ref a1), .val (.ref a2)] [(.ref a1)]))
  obtain ⟨T9, X9, e9, st9⟩ := getF X0 hx hZ hown (host := "") (Or.inl (hw _ (List.mem_of_getElem? (i := 27) rfl))) Via.refl e0 F1 (g := (mkF m 1 #[.val (.ref a1), .val (.ref a2)] [(.ref a1)])) rfl rfl (hb hby d3_1)
  refine ownStep st9 ?_
  show OwnGo _ _ _ _ _ _ _ (T9.setTop (mkF m 4 #[.val (.ref a1), .val (.ref a2)] [(.int u)]))
  refine ownStep (fun _ k => XS.aloadN X9.here hx rfl (hb hby d3_4) rfl rfl k) ?_
  show OwnGo _ _ _ _ _ _ _ (T9.setTop (mkF m 5 #[.val (.ref a1), .val (.ref a2)] [(.ref a2), (.int u)]))
  obtain ⟨T10, X10, e10, st10⟩ := getF X9 hx hZ hown (host := "") (Or.inl (hw _ (List.mem_of_getElem? (i := 29) rfl))) Via.refl e9 F2 (g := (mkF m 5 #[.val (.ref a1), .val (.ref a2)] [(.ref a2), (.int u)])) rfl rfl (hb hby d3_5)
  refine ownStep st10 ?_
  show OwnGo _ _ _ _ _ _ _ (T10.setTop (mkF m 8 #[.val (.ref a1), .val (.ref a2)] [(.int t), (.int u)]))
  by_cases h : u = t
  · skip
    refine ownStep (fun _ k => XS.icmpNo X10.here hx rfl (hb hby d3_8) rfl (teq h).2 k) ?_
    show OwnGo _ _ _ _ _ _ _ (T10.setTop (mkF m 11 #[.val (.ref a1), .val (.ref a2)] []))
    refine ownStep (fun _ k => XS.iconst X10.here hx rfl (hb hby d3_11) k) ?_
    show OwnGo _ _ _ _ _ _ _ (T10.setTop (mkF m 12 #[.val (.ref a1), .val (.ref a2)] [(.int (1 : Int32))]))
    refine ownStep (fun _ k => XS.goto X10.here hx rfl (pc0 := 12) (pc' := 16) rfl (hb hby d3_12) (by decide) (by decide) k) ?_
    show OwnGo _ _ _ _ _ _ _ (T10.setTop (mkF m 16 #[.val (.ref a1), .val (.ref a2)] [(.int (1 : Int32))]))
    have eq16 : T10.heap = h0 := e10
    exact ownRetN X10 hx (t := .boolean) Bd.returns (by simp) (hb hby d3_16) (BodyLoose.notSynchronized Bd) (by decide) (by decide) (by rw [eq16]; exact ⟨(by rw [← hr, if_pos h]; first | done | rfl), N0, rfl⟩)
  · skip
    refine ownStep (fun _ k => XS.icmpYes X10.here hx rfl (pc0 := 8) (pc' := 15) rfl (hb hby d3_8) rfl (feq h).2 (by decide) (by decide) k) ?_
    show OwnGo _ _ _ _ _ _ _ (T10.setTop (mkF m 15 #[.val (.ref a1), .val (.ref a2)] []))
    refine ownStep (fun _ k => XS.iconst X10.here hx rfl (hb hby d3_15) k) ?_
    show OwnGo _ _ _ _ _ _ _ (T10.setTop (mkF m 16 #[.val (.ref a1), .val (.ref a2)] [(.int (0 : Int32))]))
    have eq16 : T10.heap = h0 := e10
    exact ownRetN X10 hx (t := .boolean) Bd.returns (by simp) (hb hby d3_16) (BodyLoose.notSynchronized Bd) (by decide) (by decide) (by rw [eq16]; exact ⟨(by rw [← hr, if_neg h]; first | done | rfl), N0, rfl⟩)
theorem own_satoms {Z : State} {a0 : Array Value} (hw : ∀ d ∈ tables_1, d.before a0 Z = true) : ∀ a ∈ Bundle.stringAtoms, a.before a0 Z = true := by
  intro a ha
  simp only [Bundle.stringAtoms, List.mem_cons, List.not_mem_nil, or_false] at ha
  rcases ha with rfl | rfl | rfl | rfl | rfl | rfl | rfl
  · exact (hw _ (List.mem_of_getElem? (i := 7) rfl))
  · exact (hw _ (List.mem_of_getElem? (i := 8) rfl))
  · exact (hw _ (List.mem_of_getElem? (i := 9) rfl))
  · exact (hw _ (List.mem_of_getElem? (i := 10) rfl))
  · exact (hw _ (List.mem_of_getElem? (i := 11) rfl))
  · exact (hw _ (List.mem_of_getElem? (i := 12) rfl))
  · exact (hw _ (List.mem_of_getElem? (i := 13) rfl))
def Q0 (Z : State) (p0 : Int32) (p1 : Int32) (p2 : Int32) (p3 : Int32) (p4 : Int32) (wA : Addr) (wB : Addr) (h0 : Heap) (n0 : Nat) (v : Option Value) (h : Heap) (L : List Loc) : Prop := v = some (.int 1) ∧ Fr n0 L
theorem own_pn_rm0 : plainName "com/example/steward/steward/statement/TokenFollowsPinLaw" = true := by first | (simp [plainName, overriddenIn]; done) | decide +kernel
theorem own_ef_rm0 (m : MethodId) (x0 : Int32) (x1 : Int32) (x2 : Int32) (x3 : Int32) (x4 : Int32) : entryFrame m #[(.int x0), (.int x1), (.int x2), (.int x3), (.int x4)] maxLocals = mkF m 0 #[.val (.int x0), .val (.int x1), .val (.int x2), .val (.int x3), .val (.int x4), .unset, .unset, .unset, .unset, .unset, .unset, .unset] [] := by first | (simp [entryFrame, mkF, argsToLocals, Value.category, maxLocals]; done) | rfl
set_option maxRecDepth 65536 in
set_option maxHeartbeats 40000000 in
theorem rm0 (l : Launch) (Z : State) (a0 : Array Value) (hw : ∀ d ∈ tables_1, d.before a0 Z = true) (ws : List Jvm.Cond) (p0 : Int32) (p1 : Int32) (p2 : Int32) (p3 : Int32) (p4 : Int32) (wA : Addr) (wB : Addr) (h0 : Heap) (n0 : Nat) (O0 : Old Z n0 h0) (SW : Sta Z Z.heap "com/example/steward/steward/statement/Token$Type" "WORD" "Lcom/example/steward/steward/statement/Token$Type;" (.ref wA)) (SY : Sta Z Z.heap "com/example/steward/steward/statement/Token$Type" "SYMBOL" "Lcom/example/steward/steward/statement/Token$Type;" (.ref wB)) :
    MetFree l x (head1 (Jvm.Cond.code x code maxLocals ret :: ws) room_1) (fun a U => a = #[(.int p0), (.int p1), (.int p2), (.int p3), (.int p4)] ∧ Z.Warmed39 U.vm ∧ U.heap = h0) (fun _ _ _ _ _ => True) (fun _ U o U' => ∃ v L, o = .returned v ∧ Q0 Z p0 p1 p2 p3 p4 wA wB h0 n0 v U'.heap L ∧ ReturnedEndW U o U' L room_1.cells room_1.slots) := by
  refine MetFree.of_bodySF (plainFor_of_name own_pn_rm0) hisR ?_
  intro p e s m args below meth c s₁ Bd hml0 hP hK
  obtain ⟨rfl, hZ, hh⟩ := hP
  have hx := Bd.exec
  have hby := Bd.bytes
  have hml : c.maxLocals = 12 := hml0
  have hown : s.vm.findClass "com/example/steward/steward/statement/TokenFollowsPinLaw" = some m.cls := findClass_of_methodNamed Bd.named
  have hnm := (name_of_methodNamed Bd.named Bd.method).1
  have X0 : Stand p l e room_1 s m #[(.int p0), (.int p1), (.int p2), (.int p3), (.int p4)] below meth c s₁ [] 0 0 := Stand.of_body Bd
  have e0 : s₁.heap = h0 := by rw [← hh, Bd.state]; rfl
  have N0 := Fr.nil n0
  show OwnGoW p e below s (Q0 Z p0 p1 p2 p3 p4 wA wB h0 n0) room_1.cells room_1.slots (s₁.setTop (entryFrame m #[(.int p0), (.int p1), (.int p2), (.int p3), (.int p4)] maxLocals))
  refine ownStepW (fun _ k => castTop (own_ef_rm0 m p0 p1 p2 p3 p4) k) ?_
  show OwnGoW _ _ _ _ _ _ _ (s₁.setTop (mkF m 0 #[.val (.int p0), .val (.int p1), .val (.int p2), .val (.int p3), .val (.int p4), .unset, .unset, .unset, .unset, .unset, .unset, .unset] []))
  have J : ∀ q5 q6 : Int32, OwnGoW p e below s (Q0 Z p0 p1 p2 p3 p4 wA wB h0 n0) room_1.cells room_1.slots (s₁.setTop (mkF m 28 #[.val (.int p0), .val (.int p1), .val (.int p2), .val (.int p3), .val (.int p4), .val (.int q5), .val (.int q6), .unset, .unset, .unset, .unset, .unset] [])) := by
    intro q5 q6
    show OwnGoW _ _ _ _ _ _ _ (s₁.setTop (mkF m 28 #[.val (.int p0), .val (.int p1), .val (.int p2), .val (.int p3), .val (.int p4), .val (.int q5), .val (.int q6), .unset, .unset, .unset, .unset, .unset] []))
    obtain ⟨T11, h11, X11, e11, E11, A11, D11, -, st11⟩ := newO X0 hx hZ hown (hw _ (List.mem_of_getElem? (i := 0) rfl)) (hw _ (List.mem_of_getElem? (i := 1) rfl)) (hw _ (List.mem_of_getElem? (i := 2) rfl)) e0 (g := (mkF m 28 #[.val (.int p0), .val (.int p1), .val (.int p2), .val (.int p3), .val (.int p4), .val (.int q5), .val (.int q6), .unset, .unset, .unset, .unset, .unset] [])) rfl (hb hby at_28) (by decide) (by decide)
    obtain ⟨b11, g11⟩ : ∃ z, z = h0.size := ⟨_, rfl⟩
    rw [← g11] at A11 D11 st11
    refine ownStepW st11 ?_
    have ge11 : n0 ≤ b11 := by rw [g11]; exact Nat.le_trans (Nat.le_of_eq O0.1.symm) O0.2.1
    have O11 := O0.ext E11
    show OwnGoW _ _ _ _ _ _ _ (T11.setTop (mkF m 31 #[.val (.int p0), .val (.int p1), .val (.int p2), .val (.int p3), .val (.int p4), .val (.int q5), .val (.int q6), .unset, .unset, .unset, .unset, .unset] [(.ref b11)]))
    have Fn11_0 : Fld Z h11 b11 "com/example/steward/steward/statement/Token" "type" "Lcom/example/steward/steward/statement/Token$Type;" .null := D11 (Or.inr (hw _ (List.mem_of_getElem? (i := 22) rfl))) (ty := (.object "com/example/steward/steward/statement/Token$Type")) (by decide)
    have Fn11_1 : Fld Z h11 b11 "com/example/steward/steward/statement/Token" "value" "Ljava/lang/String;" .null := D11 (Or.inr (hw _ (List.mem_of_getElem? (i := 24) rfl))) (ty := (.object "java/lang/String")) (by decide)
    have Fn11_2 : Fld Z h11 b11 "com/example/steward/steward/statement/Token" "opening" "Ljava/lang/String;" .null := D11 (Or.inr (hw _ (List.mem_of_getElem? (i := 26) rfl))) (ty := (.object "java/lang/String")) (by decide)
    have Fn11_3 : Fld Z h11 b11 "com/example/steward/steward/statement/Token" "start" "I" (.int (0 : Int32)) := D11 (Or.inr (hw _ (List.mem_of_getElem? (i := 28) rfl))) (ty := .int) (by decide)
    have Fn11_4 : Fld Z h11 b11 "com/example/steward/steward/statement/Token" "end" "I" (.int (0 : Int32)) := D11 (Or.inr (hw _ (List.mem_of_getElem? (i := 30) rfl))) (ty := .int) (by decide)
    have Fn11_5 : Fld Z h11 b11 "com/example/steward/steward/statement/Token" "line" "I" (.int (0 : Int32)) := D11 (Or.inr (hw _ (List.mem_of_getElem? (i := 32) rfl))) (ty := .int) (by decide)
    have Fn11_6 : Fld Z h11 b11 "com/example/steward/steward/statement/Token" "column" "I" (.int (0 : Int32)) := D11 (Or.inr (hw _ (List.mem_of_getElem? (i := 34) rfl))) (ty := .int) (by decide)
    refine ownStepW (fun _ k => XS.dup X11.here hx rfl (hb hby at_31) rfl rfl k) ?_
    show OwnGoW _ _ _ _ _ _ _ (T11.setTop (mkF m 32 #[.val (.int p0), .val (.int p1), .val (.int p2), .val (.int p3), .val (.int p4), .val (.int q5), .val (.int q6), .unset, .unset, .unset, .unset, .unset] [(.ref b11), (.ref b11)]))
    obtain ⟨T12, X12, e12, st12⟩ := getS2 X11 hx hZ hown (host := "") (Or.inl (hw _ (List.mem_of_getElem? (i := 3) rfl))) Via.refl e11 (SW.ext O11.2) (g := (mkF m 32 #[.val (.int p0), .val (.int p1), .val (.int p2), .val (.int p3), .val (.int p4), .val (.int q5), .val (.int q6), .unset, .unset, .unset, .unset, .unset] [(.ref b11), (.ref b11)])) rfl (hb hby at_32)
    refine ownStepW st12 ?_
    show OwnGoW _ _ _ _ _ _ _ (T12.setTop (mkF m 35 #[.val (.int p0), .val (.int p1), .val (.int p2), .val (.int p3), .val (.int p4), .val (.int q5), .val (.int q6), .unset, .unset, .unset, .unset, .unset] [(.ref wA), (.ref b11), (.ref b11)]))
    obtain ⟨a13, T13, h13, k13, X13, e13, E13, Sn13, Zn13, hZ, hown, st13⟩ := ldcS (s := s) (vm0 := s.vm) X12 hx hZ hown (hw _ (List.mem_of_getElem? (i := 6) rfl)) (own_satoms hw) e12 (State.WarmedH.since (State.WarmedH.refl s) 0) (Nat.zero_le _) (g := (mkF m 35 #[.val (.int p0), .val (.int p1), .val (.int p2), .val (.int p3), .val (.int p4), .val (.int q5), .val (.int q6), .unset, .unset, .unset, .unset, .unset] [(.ref wA), (.ref b11), (.ref b11)])) rfl (hb hby at_35) (n := 4) (by decide) (by decide) (by decide) (by decide)
    refine ownStepW st13 ?_
    have O13 := O11.ext E13
    show OwnGoW _ _ _ _ _ _ _ (T13.setTop (mkF m 37 #[.val (.int p0), .val (.int p1), .val (.int p2), .val (.int p3), .val (.int p4), .val (.int q5), .val (.int q6), .unset, .unset, .unset, .unset, .unset] [(.ref a13), (.ref wA), (.ref b11), (.ref b11)]))
    obtain ⟨a14, T14, h14, k14, X14, e14, E14, Sn14, Zn14, hZ, hown, st14⟩ := ldcS (s := s) (vm0 := T13.vm) X13 hx hZ hown (hw _ (List.mem_of_getElem? (i := 14) rfl)) (own_satoms hw) e13 Sn13 Zn13 (g := (mkF m 37 #[.val (.int p0), .val (.int p1), .val (.int p2), .val (.int p3), .val (.int p4), .val (.int q5), .val (.int q6), .unset, .unset, .unset, .unset, .unset] [(.ref a13), (.ref wA), (.ref b11), (.ref b11)])) rfl (hb hby at_37) (n := 0) (by decide) (by decide) (by decide) (by decide)
    refine ownStepW st14 ?_
    have O14 := O13.ext E14
    show OwnGoW _ _ _ _ _ _ _ (T14.setTop (mkF m 39 #[.val (.int p0), .val (.int p1), .val (.int p2), .val (.int p3), .val (.int p4), .val (.int q5), .val (.int q6), .unset, .unset, .unset, .unset, .unset] [(.ref a14), (.ref a13), (.ref wA), (.ref b11), (.ref b11)]))
    refine ownStepW (fun _ k => XS.iload X14.here hx rfl (hb hby at_39) rfl k) ?_
    show OwnGoW _ _ _ _ _ _ _ (T14.setTop (mkF m 41 #[.val (.int p0), .val (.int p1), .val (.int p2), .val (.int p3), .val (.int p4), .val (.int q5), .val (.int q6), .unset, .unset, .unset, .unset, .unset] [(.int q6), (.ref a14), (.ref a13), (.ref wA), (.ref b11), (.ref b11)]))
    refine ownStepW (fun _ k => XS.iloadN X14.here hx rfl (hb hby at_41) rfl k) ?_
    show OwnGoW _ _ _ _ _ _ _ (T14.setTop (mkF m 42 #[.val (.int p0), .val (.int p1), .val (.int p2), .val (.int p3), .val (.int p4), .val (.int q5), .val (.int q6), .unset, .unset, .unset, .unset, .unset] [(.int p1), (.int q6), (.ref a14), (.ref a13), (.ref wA), (.ref b11), (.ref b11)]))
    refine ownStepW (fun _ k => XS.iconst X14.here hx rfl (hb hby at_42) k) ?_
    show OwnGoW _ _ _ _ _ _ _ (T14.setTop (mkF m 43 #[.val (.int p0), .val (.int p1), .val (.int p2), .val (.int p3), .val (.int p4), .val (.int q5), .val (.int q6), .unset, .unset, .unset, .unset, .unset] [(.int (1 : Int32)), (.int p1), (.int q6), (.ref a14), (.ref a13), (.ref wA), (.ref b11), (.ref b11)]))
    refine ownStepW (fun _ k => XS.iconst X14.here hx rfl (hb hby at_43) k) ?_
    show OwnGoW _ _ _ _ _ _ _ (T14.setTop (mkF m 44 #[.val (.int p0), .val (.int p1), .val (.int p2), .val (.int p3), .val (.int p4), .val (.int q5), .val (.int q6), .unset, .unset, .unset, .unset, .unset] [(.int (1 : Int32)), (.int (1 : Int32)), (.int p1), (.int q6), (.ref a14), (.ref a13), (.ref wA), (.ref b11), (.ref b11)]))
    obtain ⟨_, _, ⟨T15, L15, k15, n15⟩, -, X15, ⟨Lc15, hQ15, l15, y15, z15⟩, st15⟩ := X14.specialBack hx (y := (⟨"com/example/steward/steward/statement/Token", "<init>", "(Lcom/example/steward/steward/statement/Token$Type;Ljava/lang/String;Ljava/lang/String;IIII)V"⟩ : MethodName)) rfl hown (mvT hZ (hw _ (List.mem_of_getElem? (i := 15) rfl))) (mvT hZ (hw _ (List.mem_of_getElem? (i := 16) rfl))) (mvT hZ (hw _ (List.mem_of_getElem? (i := 17) rfl))) (by decide) (backOf (W := 1) (rmI l Z a0 hw [] b11 wA a13 a14 q6 p1 (1 : Int32) (1 : Int32) h14 n0 O14 ((A11.ext E13).ext E14) ((Fn11_0.ext E13).ext E14) ((Fn11_1.ext E13).ext E14) ((Fn11_2.ext E13).ext E14) ((Fn11_3.ext E13).ext E14) ((Fn11_4.ext E13).ext E14) ((Fn11_5.ext E13).ext E14) ((Fn11_6.ext E13).ext E14) ge11) hZ (hw _ (List.mem_of_getElem? (i := 17) rfl)) (hw _ (List.mem_of_getElem? (i := 2) rfl)) (by decide) (by decide)) (g := (mkF m 44 #[.val (.int p0), .val (.int p1), .val (.int p2), .val (.int p3), .val (.int p4), .val (.int q5), .val (.int q6), .unset, .unset, .unset, .unset, .unset] [(.int (1 : Int32)), (.int (1 : Int32)), (.int p1), (.int q6), (.ref a14), (.ref a13), (.ref wA), (.ref b11), (.ref b11)])) rfl (by rw [hml]; rfl) (Steps.refl _) (a := b11) (argsL := [(.ref wA), (.ref a13), (.ref a14), (.int q6), (.int p1), (.int (1 : Int32)), (.int (1 : Int32))]) (rest := [(.ref b11)]) (lenOf own_pd0 rfl) rfl (by show 2 * 0 + _ ≤ _; exact Nat.le_of_eq rfl) (hb hby at_44) (fun _ _ => ⟨rfl, e14, (by decide : 0 + 1 + 2 + 2 + 0 ≤ _), (by decide : 0 + 7 + (4 + 4) + (0 + 4) + 0 ≤ _)⟩)
    dsimp only [Pt.U, Pt.locs, Pt.cells, Pt.slots] at X15 l15 y15 z15 st15 hQ15
    subst l15 y15 z15
    obtain ⟨rfl, N15q, O15, K15, E15, Fs15, Fe15⟩ := hQ15
    have N15 := Fr.app N0 N15q
    refine ownTransW st15 ?_
    show OwnGoW _ _ _ _ _ _ _ (T15.setTop (mkF m 47 #[.val (.int p0), .val (.int p1), .val (.int p2), .val (.int p3), .val (.int p4), .val (.int q5), .val (.int q6), .unset, .unset, .unset, .unset, .unset] [(.ref b11)]))
    have Zn15 := Nat.le_trans Zn14 K15.1
    refine ownStepW (fun _ k => XS.astore X15.here hx rfl (hb hby at_47) rfl rfl (l' := #[.val (.int p0), .val (.int p1), .val (.int p2), .val (.int p3), .val (.int p4), .val (.int q5), .val (.int q6), .val (.ref b11), .unset, .unset, .unset, .unset]) rfl k) ?_
    show OwnGoW _ _ _ _ _ _ _ (T15.setTop (mkF m 49 #[.val (.int p0), .val (.int p1), .val (.int p2), .val (.int p3), .val (.int p4), .val (.int q5), .val (.int q6), .val (.ref b11), .unset, .unset, .unset, .unset] []))
    obtain ⟨T16, h16, X16, e16, E16, A16, D16, -, st16⟩ := newO X15 hx hZ hown (hw _ (List.mem_of_getElem? (i := 0) rfl)) (hw _ (List.mem_of_getElem? (i := 1) rfl)) (hw _ (List.mem_of_getElem? (i := 2) rfl)) (rfl : T15.heap = _) (g := (mkF m 49 #[.val (.int p0), .val (.int p1), .val (.int p2), .val (.int p3), .val (.int p4), .val (.int q5), .val (.int q6), .val (.ref b11), .unset, .unset, .unset, .unset] [])) rfl (hb hby at_49) (by decide) (by decide)
    obtain ⟨b16, g16⟩ : ∃ z, z = T15.heap.size := ⟨_, rfl⟩
    rw [← g16] at A16 D16 st16
    refine ownStepW st16 ?_
    have Zn16 := Nat.le_trans Zn15 E16.1
    have ge16 : n0 ≤ b16 := by rw [g16]; exact Nat.le_trans (Nat.le_of_eq O15.1.symm) O15.2.1
    have O16 := O15.ext E16
    show OwnGoW _ _ _ _ _ _ _ (T16.setTop (mkF m 52 #[.val (.int p0), .val (.int p1), .val (.int p2), .val (.int p3), .val (.int p4), .val (.int q5), .val (.int q6), .val (.ref b11), .unset, .unset, .unset, .unset] [(.ref b16)]))
    have Fn16_0 : Fld Z h16 b16 "com/example/steward/steward/statement/Token" "type" "Lcom/example/steward/steward/statement/Token$Type;" .null := D16 (Or.inr (hw _ (List.mem_of_getElem? (i := 22) rfl))) (ty := (.object "com/example/steward/steward/statement/Token$Type")) (by decide)
    have Fn16_1 : Fld Z h16 b16 "com/example/steward/steward/statement/Token" "value" "Ljava/lang/String;" .null := D16 (Or.inr (hw _ (List.mem_of_getElem? (i := 24) rfl))) (ty := (.object "java/lang/String")) (by decide)
    have Fn16_2 : Fld Z h16 b16 "com/example/steward/steward/statement/Token" "opening" "Ljava/lang/String;" .null := D16 (Or.inr (hw _ (List.mem_of_getElem? (i := 26) rfl))) (ty := (.object "java/lang/String")) (by decide)
    have Fn16_3 : Fld Z h16 b16 "com/example/steward/steward/statement/Token" "start" "I" (.int (0 : Int32)) := D16 (Or.inr (hw _ (List.mem_of_getElem? (i := 28) rfl))) (ty := .int) (by decide)
    have Fn16_4 : Fld Z h16 b16 "com/example/steward/steward/statement/Token" "end" "I" (.int (0 : Int32)) := D16 (Or.inr (hw _ (List.mem_of_getElem? (i := 30) rfl))) (ty := .int) (by decide)
    have Fn16_5 : Fld Z h16 b16 "com/example/steward/steward/statement/Token" "line" "I" (.int (0 : Int32)) := D16 (Or.inr (hw _ (List.mem_of_getElem? (i := 32) rfl))) (ty := .int) (by decide)
    have Fn16_6 : Fld Z h16 b16 "com/example/steward/steward/statement/Token" "column" "I" (.int (0 : Int32)) := D16 (Or.inr (hw _ (List.mem_of_getElem? (i := 34) rfl))) (ty := .int) (by decide)
    refine ownStepW (fun _ k => XS.dup X16.here hx rfl (hb hby at_52) rfl rfl k) ?_
    show OwnGoW _ _ _ _ _ _ _ (T16.setTop (mkF m 53 #[.val (.int p0), .val (.int p1), .val (.int p2), .val (.int p3), .val (.int p4), .val (.int q5), .val (.int q6), .val (.ref b11), .unset, .unset, .unset, .unset] [(.ref b16), (.ref b16)]))
    obtain ⟨T17, X17, e17, st17⟩ := getS2 X16 hx hZ hown (host := "") (Or.inl (hw _ (List.mem_of_getElem? (i := 35) rfl))) Via.refl e16 (SY.ext O16.2) (g := (mkF m 53 #[.val (.int p0), .val (.int p1), .val (.int p2), .val (.int p3), .val (.int p4), .val (.int q5), .val (.int q6), .val (.ref b11), .unset, .unset, .unset, .unset] [(.ref b16), (.ref b16)])) rfl (hb hby at_53)
    refine ownStepW st17 ?_
    show OwnGoW _ _ _ _ _ _ _ (T17.setTop (mkF m 56 #[.val (.int p0), .val (.int p1), .val (.int p2), .val (.int p3), .val (.int p4), .val (.int q5), .val (.int q6), .val (.ref b11), .unset, .unset, .unset, .unset] [(.ref wB), (.ref b16), (.ref b16)]))
    obtain ⟨a18, T18, h18, k18, X18, e18, E18, Sn18, Zn18, hZ, hown, st18⟩ := ldcS (s := s) (vm0 := T14.vm) X17 hx hZ hown (hw _ (List.mem_of_getElem? (i := 37) rfl)) (own_satoms hw) e17 Sn14 Zn16 (g := (mkF m 56 #[.val (.int p0), .val (.int p1), .val (.int p2), .val (.int p3), .val (.int p4), .val (.int q5), .val (.int q6), .val (.ref b11), .unset, .unset, .unset, .unset] [(.ref wB), (.ref b16), (.ref b16)])) rfl (hb hby at_56) (n := 4) (by decide) (by decide) (by decide) (by decide)
    refine ownStepW st18 ?_
    have O18 := O16.ext E18
    show OwnGoW _ _ _ _ _ _ _ (T18.setTop (mkF m 58 #[.val (.int p0), .val (.int p1), .val (.int p2), .val (.int p3), .val (.int p4), .val (.int q5), .val (.int q6), .val (.ref b11), .unset, .unset, .unset, .unset] [(.ref a18), (.ref wB), (.ref b16), (.ref b16)]))
    obtain ⟨a19, T19, h19, k19, X19, e19, E19, Sn19, Zn19, hZ, hown, st19⟩ := ldcS (s := s) (vm0 := T18.vm) X18 hx hZ hown (hw _ (List.mem_of_getElem? (i := 14) rfl)) (own_satoms hw) e18 Sn18 Zn18 (g := (mkF m 58 #[.val (.int p0), .val (.int p1), .val (.int p2), .val (.int p3), .val (.int p4), .val (.int q5), .val (.int q6), .val (.ref b11), .unset, .unset, .unset, .unset] [(.ref a18), (.ref wB), (.ref b16), (.ref b16)])) rfl (hb hby at_58) (n := 0) (by decide) (by decide) (by decide) (by decide)
    refine ownStepW st19 ?_
    have O19 := O18.ext E19
    show OwnGoW _ _ _ _ _ _ _ (T19.setTop (mkF m 60 #[.val (.int p0), .val (.int p1), .val (.int p2), .val (.int p3), .val (.int p4), .val (.int q5), .val (.int q6), .val (.ref b11), .unset, .unset, .unset, .unset] [(.ref a19), (.ref a18), (.ref wB), (.ref b16), (.ref b16)]))
    refine ownStepW (fun _ k => XS.iload X19.here hx rfl (hb hby at_60) rfl k) ?_
    show OwnGoW _ _ _ _ _ _ _ (T19.setTop (mkF m 62 #[.val (.int p0), .val (.int p1), .val (.int p2), .val (.int p3), .val (.int p4), .val (.int q5), .val (.int q6), .val (.ref b11), .unset, .unset, .unset, .unset] [(.int q5), (.ref a19), (.ref a18), (.ref wB), (.ref b16), (.ref b16)]))
    refine ownStepW (fun _ k => XS.iloadN X19.here hx rfl (hb hby at_62) rfl k) ?_
    show OwnGoW _ _ _ _ _ _ _ (T19.setTop (mkF m 63 #[.val (.int p0), .val (.int p1), .val (.int p2), .val (.int p3), .val (.int p4), .val (.int q5), .val (.int q6), .val (.ref b11), .unset, .unset, .unset, .unset] [(.int p3), (.int q5), (.ref a19), (.ref a18), (.ref wB), (.ref b16), (.ref b16)]))
    refine ownStepW (fun _ k => XS.iconst X19.here hx rfl (hb hby at_63) k) ?_
    show OwnGoW _ _ _ _ _ _ _ (T19.setTop (mkF m 64 #[.val (.int p0), .val (.int p1), .val (.int p2), .val (.int p3), .val (.int p4), .val (.int q5), .val (.int q6), .val (.ref b11), .unset, .unset, .unset, .unset] [(.int (1 : Int32)), (.int p3), (.int q5), (.ref a19), (.ref a18), (.ref wB), (.ref b16), (.ref b16)]))
    refine ownStepW (fun _ k => XS.iconst X19.here hx rfl (hb hby at_64) k) ?_
    show OwnGoW _ _ _ _ _ _ _ (T19.setTop (mkF m 65 #[.val (.int p0), .val (.int p1), .val (.int p2), .val (.int p3), .val (.int p4), .val (.int q5), .val (.int q6), .val (.ref b11), .unset, .unset, .unset, .unset] [(.int (2 : Int32)), (.int (1 : Int32)), (.int p3), (.int q5), (.ref a19), (.ref a18), (.ref wB), (.ref b16), (.ref b16)]))
    obtain ⟨_, _, ⟨T20, L20, k20, n20⟩, -, X20, ⟨Lc20, hQ20, l20, y20, z20⟩, st20⟩ := X19.specialBack hx (y := (⟨"com/example/steward/steward/statement/Token", "<init>", "(Lcom/example/steward/steward/statement/Token$Type;Ljava/lang/String;Ljava/lang/String;IIII)V"⟩ : MethodName)) rfl hown (mvT hZ (hw _ (List.mem_of_getElem? (i := 15) rfl))) (mvT hZ (hw _ (List.mem_of_getElem? (i := 16) rfl))) (mvT hZ (hw _ (List.mem_of_getElem? (i := 17) rfl))) (by decide) (backOf (W := 1) (rmI l Z a0 hw [] b16 wB a18 a19 q5 p3 (1 : Int32) (2 : Int32) h19 n0 O19 ((A16.ext E18).ext E19) ((Fn16_0.ext E18).ext E19) ((Fn16_1.ext E18).ext E19) ((Fn16_2.ext E18).ext E19) ((Fn16_3.ext E18).ext E19) ((Fn16_4.ext E18).ext E19) ((Fn16_5.ext E18).ext E19) ((Fn16_6.ext E18).ext E19) ge16) hZ (hw _ (List.mem_of_getElem? (i := 17) rfl)) (hw _ (List.mem_of_getElem? (i := 2) rfl)) (by decide) (by decide)) (g := (mkF m 65 #[.val (.int p0), .val (.int p1), .val (.int p2), .val (.int p3), .val (.int p4), .val (.int q5), .val (.int q6), .val (.ref b11), .unset, .unset, .unset, .unset] [(.int (2 : Int32)), (.int (1 : Int32)), (.int p3), (.int q5), (.ref a19), (.ref a18), (.ref wB), (.ref b16), (.ref b16)])) rfl (by rw [hml]; rfl) (Steps.refl _) (a := b16) (argsL := [(.ref wB), (.ref a18), (.ref a19), (.int q5), (.int p3), (.int (1 : Int32)), (.int (2 : Int32))]) (rest := [(.ref b16)]) (lenOf own_pd0 rfl) rfl (by show 2 * 0 + _ ≤ _; exact Nat.le_of_eq rfl) (hb hby at_65) (fun _ _ => ⟨rfl, e19, (by decide : 0 + 1 + 2 + 2 + 1 + 2 + 2 + 0 ≤ _), (by decide : 0 + 7 + (4 + 4) + (0 + 4) + 7 + (4 + 4) + (0 + 4) + 0 ≤ _)⟩)
    dsimp only [Pt.U, Pt.locs, Pt.cells, Pt.slots] at X20 l20 y20 z20 st20 hQ20
    subst l20 y20 z20
    obtain ⟨rfl, N20q, O20, K20, E20, Fs20, Fe20⟩ := hQ20
    have N20 := Fr.app N15 N20q
    refine ownTransW st20 ?_
    show OwnGoW _ _ _ _ _ _ _ (T20.setTop (mkF m 68 #[.val (.int p0), .val (.int p1), .val (.int p2), .val (.int p3), .val (.int p4), .val (.int q5), .val (.int q6), .val (.ref b11), .unset, .unset, .unset, .unset] [(.ref b16)]))
    have Zn20 := Nat.le_trans Zn19 K20.1
    have ne16 : b11 ∉ [b16] := ninS (Nat.ne_of_lt (by rw [g16]; exact E15.lt)) nin0
    have cr16_E := (((E15.ext E16).ext E18).ext E19).keep K20
    have cr16_s := (((Fs15.ext E16).ext E18).ext E19).keep K20 ne16
    have cr16_e := (((Fe15.ext E16).ext E18).ext E19).keep K20 ne16
    refine ownStepW (fun _ k => XS.astore X20.here hx rfl (hb hby at_68) rfl rfl (l' := #[.val (.int p0), .val (.int p1), .val (.int p2), .val (.int p3), .val (.int p4), .val (.int q5), .val (.int q6), .val (.ref b11), .val (.ref b16), .unset, .unset, .unset]) rfl k) ?_
    show OwnGoW _ _ _ _ _ _ _ (T20.setTop (mkF m 70 #[.val (.int p0), .val (.int p1), .val (.int p2), .val (.int p3), .val (.int p4), .val (.int q5), .val (.int q6), .val (.ref b11), .val (.ref b16), .unset, .unset, .unset] []))
    refine ownStepW (fun _ k => XS.aload X20.here hx rfl (hb hby at_70) rfl rfl k) ?_
    show OwnGoW _ _ _ _ _ _ _ (T20.setTop (mkF m 72 #[.val (.int p0), .val (.int p1), .val (.int p2), .val (.int p3), .val (.int p4), .val (.int q5), .val (.int q6), .val (.ref b11), .val (.ref b16), .unset, .unset, .unset] [(.ref b16)]))
    refine ownStepW (fun _ k => XS.aload X20.here hx rfl (hb hby at_72) rfl rfl k) ?_
    show OwnGoW _ _ _ _ _ _ _ (T20.setTop (mkF m 74 #[.val (.int p0), .val (.int p1), .val (.int p2), .val (.int p3), .val (.int p4), .val (.int q5), .val (.int q6), .val (.ref b11), .val (.ref b16), .unset, .unset, .unset] [(.ref b11), (.ref b16)]))
    by_cases t0 : q5 = p1
    · skip
      obtain ⟨cq21, kq21, q21a, q21b, q21c⟩ := isOf hZ (rfl : T20.heap = _) E20
      obtain ⟨_, _, ⟨T21, L21, k21, n21⟩, -, X21, ⟨Lc21, hQ21, l21, y21, z21⟩, st21⟩ := X20.virtualBack hx (y := (⟨"com/example/steward/steward/statement/Token", "follows", "(Lcom/example/steward/steward/statement/Token;)Z"⟩ : MethodName)) (z := (⟨"com/example/steward/steward/statement/Token", "follows", "(Lcom/example/steward/steward/statement/Token;)Z"⟩ : MethodName)) hown (mvT hZ (hw _ (List.mem_of_getElem? (i := 38) rfl))) (mvT hZ (hw _ (List.mem_of_getElem? (i := 39) rfl))) (notFace_of_selects (args := #[]) (mvT hZ (hw _ (List.mem_of_getElem? (i := 41) rfl)))) (mvT hZ (hw _ (List.mem_of_getElem? (i := 41) rfl))) (mvT hZ (hw _ (List.mem_of_getElem? (i := 40) rfl))) (by decide) (backOf (W := 0) (rmF l Z a0 hw [] b16 b11 q5 p1 (1 : Int32) T20.heap n0 Fs20 cr16_e (if_pos t0)) hZ (hw _ (List.mem_of_getElem? (i := 42) rfl)) (hw _ (List.mem_of_getElem? (i := 2) rfl)) (by decide) (by decide)) q21a q21c (g := (mkF m 74 #[.val (.int p0), .val (.int p1), .val (.int p2), .val (.int p3), .val (.int p4), .val (.int q5), .val (.int q6), .val (.ref b11), .val (.ref b16), .unset, .unset, .unset] [(.ref b11), (.ref b16)])) rfl (by rw [hml]; rfl) (Steps.refl _) (argsL := [(.ref b11)]) (rest := []) (lenOf own_pd1 rfl) rfl (by show 2 * 0 + _ ≤ _; exact Nat.le_of_eq rfl) (hb hby at_74) (fun _ _ => ⟨rfl, (rfl : T20.heap = _), (by decide : 0 + 1 + 2 + 2 + 1 + 2 + 2 + 0 ≤ _), (by decide : 0 + 7 + (4 + 4) + (0 + 4) + 7 + (4 + 4) + (0 + 4) + 0 ≤ _)⟩)
      dsimp only [Pt.U, Pt.locs, Pt.cells, Pt.slots] at X21 l21 y21 z21 st21 hQ21
      subst l21 y21 z21
      obtain ⟨rfl, N21q, e21⟩ := hQ21
      have N21 := Fr.app N20 N21q
      refine ownTransW st21 ?_
      show OwnGoW _ _ _ _ _ _ _ (T21.setTop (mkF m 77 #[.val (.int p0), .val (.int p1), .val (.int p2), .val (.int p3), .val (.int p4), .val (.int q5), .val (.int q6), .val (.ref b11), .val (.ref b16), .unset, .unset, .unset] [(.int (1 : Int32))]))
      refine ownStepW (fun _ k => XS.iload X21.here hx rfl (hb hby at_77) rfl k) ?_
      show OwnGoW _ _ _ _ _ _ _ (T21.setTop (mkF m 79 #[.val (.int p0), .val (.int p1), .val (.int p2), .val (.int p3), .val (.int p4), .val (.int q5), .val (.int q6), .val (.ref b11), .val (.ref b16), .unset, .unset, .unset] [(.int q5), (.int (1 : Int32))]))
      refine ownStepW (fun _ k => XS.iloadN X21.here hx rfl (hb hby at_79) rfl k) ?_
      show OwnGoW _ _ _ _ _ _ _ (T21.setTop (mkF m 80 #[.val (.int p0), .val (.int p1), .val (.int p2), .val (.int p3), .val (.int p4), .val (.int q5), .val (.int q6), .val (.ref b11), .val (.ref b16), .unset, .unset, .unset] [(.int p1), (.int q5), (.int (1 : Int32))]))
      refine ownStepW (fun _ k => XS.icmpNo X21.here hx rfl (hb hby at_80) rfl (teq t0).2 k) ?_
      show OwnGoW _ _ _ _ _ _ _ (T21.setTop (mkF m 83 #[.val (.int p0), .val (.int p1), .val (.int p2), .val (.int p3), .val (.int p4), .val (.int q5), .val (.int q6), .val (.ref b11), .val (.ref b16), .unset, .unset, .unset] [(.int (1 : Int32))]))
      refine ownStepW (fun _ k => XS.iconst X21.here hx rfl (hb hby at_83) k) ?_
      show OwnGoW _ _ _ _ _ _ _ (T21.setTop (mkF m 84 #[.val (.int p0), .val (.int p1), .val (.int p2), .val (.int p3), .val (.int p4), .val (.int q5), .val (.int q6), .val (.ref b11), .val (.ref b16), .unset, .unset, .unset] [(.int (1 : Int32)), (.int (1 : Int32))]))
      refine ownStepW (fun _ k => XS.goto X21.here hx rfl (pc0 := 84) (pc' := 88) rfl (hb hby at_84) (by decide) (by decide) k) ?_
      show OwnGoW _ _ _ _ _ _ _ (T21.setTop (mkF m 88 #[.val (.int p0), .val (.int p1), .val (.int p2), .val (.int p3), .val (.int p4), .val (.int q5), .val (.int q6), .val (.ref b11), .val (.ref b16), .unset, .unset, .unset] [(.int (1 : Int32)), (.int (1 : Int32))]))
      refine ownStepW (fun _ k => XS.icmpNo X21.here hx rfl (hb hby at_88) rfl (teq (by decide : (1 : Int32) = (1 : Int32))).2 k) ?_
      show OwnGoW _ _ _ _ _ _ _ (T21.setTop (mkF m 91 #[.val (.int p0), .val (.int p1), .val (.int p2), .val (.int p3), .val (.int p4), .val (.int q5), .val (.int q6), .val (.ref b11), .val (.ref b16), .unset, .unset, .unset] []))
      refine ownStepW (fun _ k => XS.iconst X21.here hx rfl (hb hby at_91) k) ?_
      show OwnGoW _ _ _ _ _ _ _ (T21.setTop (mkF m 92 #[.val (.int p0), .val (.int p1), .val (.int p2), .val (.int p3), .val (.int p4), .val (.int q5), .val (.int q6), .val (.ref b11), .val (.ref b16), .unset, .unset, .unset] [(.int (1 : Int32))]))
      refine ownStepW (fun _ k => XS.goto X21.here hx rfl (pc0 := 92) (pc' := 96) rfl (hb hby at_92) (by decide) (by decide) k) ?_
      show OwnGoW _ _ _ _ _ _ _ (T21.setTop (mkF m 96 #[.val (.int p0), .val (.int p1), .val (.int p2), .val (.int p3), .val (.int p4), .val (.int q5), .val (.int q6), .val (.ref b11), .val (.ref b16), .unset, .unset, .unset] [(.int (1 : Int32))]))
      refine ownStepW (fun _ k => XS.istore X21.here hx rfl (hb hby at_96) rfl (l' := #[.val (.int p0), .val (.int p1), .val (.int p2), .val (.int p3), .val (.int p4), .val (.int q5), .val (.int q6), .val (.ref b11), .val (.ref b16), .val (.int (1 : Int32)), .unset, .unset]) rfl k) ?_
      show OwnGoW _ _ _ _ _ _ _ (T21.setTop (mkF m 98 #[.val (.int p0), .val (.int p1), .val (.int p2), .val (.int p3), .val (.int p4), .val (.int q5), .val (.int q6), .val (.ref b11), .val (.ref b16), .val (.int (1 : Int32)), .unset, .unset] []))
      refine ownStepW (fun _ k => XS.aload X21.here hx rfl (hb hby at_98) rfl rfl k) ?_
      show OwnGoW _ _ _ _ _ _ _ (T21.setTop (mkF m 100 #[.val (.int p0), .val (.int p1), .val (.int p2), .val (.int p3), .val (.int p4), .val (.int q5), .val (.int q6), .val (.ref b11), .val (.ref b16), .val (.int (1 : Int32)), .unset, .unset] [(.ref b11)]))
      refine ownStepW (fun _ k => XS.aload X21.here hx rfl (hb hby at_100) rfl rfl k) ?_
      show OwnGoW _ _ _ _ _ _ _ (T21.setTop (mkF m 102 #[.val (.int p0), .val (.int p1), .val (.int p2), .val (.int p3), .val (.int p4), .val (.int q5), .val (.int q6), .val (.ref b11), .val (.ref b16), .val (.int (1 : Int32)), .unset, .unset] [(.ref b16), (.ref b11)]))
      by_cases t1 : q6 = p3
      · skip
        obtain ⟨cq22, kq22, q22a, q22b, q22c⟩ := isOf hZ e21 cr16_E
        obtain ⟨_, _, ⟨T22, L22, k22, n22⟩, -, X22, ⟨Lc22, hQ22, l22, y22, z22⟩, st22⟩ := X21.virtualBack hx (y := (⟨"com/example/steward/steward/statement/Token", "follows", "(Lcom/example/steward/steward/statement/Token;)Z"⟩ : MethodName)) (z := (⟨"com/example/steward/steward/statement/Token", "follows", "(Lcom/example/steward/steward/statement/Token;)Z"⟩ : MethodName)) hown (mvT hZ (hw _ (List.mem_of_getElem? (i := 38) rfl))) (mvT hZ (hw _ (List.mem_of_getElem? (i := 39) rfl))) (notFace_of_selects (args := #[]) (mvT hZ (hw _ (List.mem_of_getElem? (i := 41) rfl)))) (mvT hZ (hw _ (List.mem_of_getElem? (i := 41) rfl))) (mvT hZ (hw _ (List.mem_of_getElem? (i := 40) rfl))) (by decide) (backOf (W := 0) (rmF l Z a0 hw [] b11 b16 q6 p3 (1 : Int32) T20.heap n0 cr16_s Fe20 (if_pos t1)) hZ (hw _ (List.mem_of_getElem? (i := 42) rfl)) (hw _ (List.mem_of_getElem? (i := 2) rfl)) (by decide) (by decide)) q22a q22c (g := (mkF m 102 #[.val (.int p0), .val (.int p1), .val (.int p2), .val (.int p3), .val (.int p4), .val (.int q5), .val (.int q6), .val (.ref b11), .val (.ref b16), .val (.int (1 : Int32)), .unset, .unset] [(.ref b16), (.ref b11)])) rfl (by rw [hml]; rfl) (Steps.refl _) (argsL := [(.ref b16)]) (rest := []) (lenOf own_pd1 rfl) rfl (by show 2 * 0 + _ ≤ _; exact Nat.le_of_eq rfl) (hb hby at_102) (fun _ _ => ⟨rfl, e21, (by decide : 0 + 1 + 2 + 2 + 1 + 2 + 2 + 0 ≤ _), (by decide : 0 + 7 + (4 + 4) + (0 + 4) + 7 + (4 + 4) + (0 + 4) + 0 ≤ _)⟩)
        dsimp only [Pt.U, Pt.locs, Pt.cells, Pt.slots] at X22 l22 y22 z22 st22 hQ22
        subst l22 y22 z22
        obtain ⟨rfl, N22q, e22⟩ := hQ22
        have N22 := Fr.app N21 N22q
        refine ownTransW st22 ?_
        show OwnGoW _ _ _ _ _ _ _ (T22.setTop (mkF m 105 #[.val (.int p0), .val (.int p1), .val (.int p2), .val (.int p3), .val (.int p4), .val (.int q5), .val (.int q6), .val (.ref b11), .val (.ref b16), .val (.int (1 : Int32)), .unset, .unset] [(.int (1 : Int32))]))
        refine ownStepW (fun _ k => XS.iload X22.here hx rfl (hb hby at_105) rfl k) ?_
        show OwnGoW _ _ _ _ _ _ _ (T22.setTop (mkF m 107 #[.val (.int p0), .val (.int p1), .val (.int p2), .val (.int p3), .val (.int p4), .val (.int q5), .val (.int q6), .val (.ref b11), .val (.ref b16), .val (.int (1 : Int32)), .unset, .unset] [(.int q6), (.int (1 : Int32))]))
        refine ownStepW (fun _ k => XS.iloadN X22.here hx rfl (hb hby at_107) rfl k) ?_
        show OwnGoW _ _ _ _ _ _ _ (T22.setTop (mkF m 108 #[.val (.int p0), .val (.int p1), .val (.int p2), .val (.int p3), .val (.int p4), .val (.int q5), .val (.int q6), .val (.ref b11), .val (.ref b16), .val (.int (1 : Int32)), .unset, .unset] [(.int p3), (.int q6), (.int (1 : Int32))]))
        refine ownStepW (fun _ k => XS.icmpNo X22.here hx rfl (hb hby at_108) rfl (teq t1).2 k) ?_
        show OwnGoW _ _ _ _ _ _ _ (T22.setTop (mkF m 111 #[.val (.int p0), .val (.int p1), .val (.int p2), .val (.int p3), .val (.int p4), .val (.int q5), .val (.int q6), .val (.ref b11), .val (.ref b16), .val (.int (1 : Int32)), .unset, .unset] [(.int (1 : Int32))]))
        refine ownStepW (fun _ k => XS.iconst X22.here hx rfl (hb hby at_111) k) ?_
        show OwnGoW _ _ _ _ _ _ _ (T22.setTop (mkF m 112 #[.val (.int p0), .val (.int p1), .val (.int p2), .val (.int p3), .val (.int p4), .val (.int q5), .val (.int q6), .val (.ref b11), .val (.ref b16), .val (.int (1 : Int32)), .unset, .unset] [(.int (1 : Int32)), (.int (1 : Int32))]))
        refine ownStepW (fun _ k => XS.goto X22.here hx rfl (pc0 := 112) (pc' := 116) rfl (hb hby at_112) (by decide) (by decide) k) ?_
        show OwnGoW _ _ _ _ _ _ _ (T22.setTop (mkF m 116 #[.val (.int p0), .val (.int p1), .val (.int p2), .val (.int p3), .val (.int p4), .val (.int q5), .val (.int q6), .val (.ref b11), .val (.ref b16), .val (.int (1 : Int32)), .unset, .unset] [(.int (1 : Int32)), (.int (1 : Int32))]))
        refine ownStepW (fun _ k => XS.icmpNo X22.here hx rfl (hb hby at_116) rfl (teq (by decide : (1 : Int32) = (1 : Int32))).2 k) ?_
        show OwnGoW _ _ _ _ _ _ _ (T22.setTop (mkF m 119 #[.val (.int p0), .val (.int p1), .val (.int p2), .val (.int p3), .val (.int p4), .val (.int q5), .val (.int q6), .val (.ref b11), .val (.ref b16), .val (.int (1 : Int32)), .unset, .unset] []))
        refine ownStepW (fun _ k => XS.iconst X22.here hx rfl (hb hby at_119) k) ?_
        show OwnGoW _ _ _ _ _ _ _ (T22.setTop (mkF m 120 #[.val (.int p0), .val (.int p1), .val (.int p2), .val (.int p3), .val (.int p4), .val (.int q5), .val (.int q6), .val (.ref b11), .val (.ref b16), .val (.int (1 : Int32)), .unset, .unset] [(.int (1 : Int32))]))
        refine ownStepW (fun _ k => XS.goto X22.here hx rfl (pc0 := 120) (pc' := 124) rfl (hb hby at_120) (by decide) (by decide) k) ?_
        show OwnGoW _ _ _ _ _ _ _ (T22.setTop (mkF m 124 #[.val (.int p0), .val (.int p1), .val (.int p2), .val (.int p3), .val (.int p4), .val (.int q5), .val (.int q6), .val (.ref b11), .val (.ref b16), .val (.int (1 : Int32)), .unset, .unset] [(.int (1 : Int32))]))
        refine ownStepW (fun _ k => XS.istore X22.here hx rfl (hb hby at_124) rfl (l' := #[.val (.int p0), .val (.int p1), .val (.int p2), .val (.int p3), .val (.int p4), .val (.int q5), .val (.int q6), .val (.ref b11), .val (.ref b16), .val (.int (1 : Int32)), .val (.int (1 : Int32)), .unset]) rfl k) ?_
        show OwnGoW _ _ _ _ _ _ _ (T22.setTop (mkF m 126 #[.val (.int p0), .val (.int p1), .val (.int p2), .val (.int p3), .val (.int p4), .val (.int q5), .val (.int q6), .val (.ref b11), .val (.ref b16), .val (.int (1 : Int32)), .val (.int (1 : Int32)), .unset] []))
        refine ownStepW (fun _ k => XS.aload X22.here hx rfl (hb hby at_126) rfl rfl k) ?_
        show OwnGoW _ _ _ _ _ _ _ (T22.setTop (mkF m 128 #[.val (.int p0), .val (.int p1), .val (.int p2), .val (.int p3), .val (.int p4), .val (.int q5), .val (.int q6), .val (.ref b11), .val (.ref b16), .val (.int (1 : Int32)), .val (.int (1 : Int32)), .unset] [(.ref b11)]))
        refine ownStepW (fun _ k => XS.aload X22.here hx rfl (hb hby at_128) rfl rfl k) ?_
        show OwnGoW _ _ _ _ _ _ _ (T22.setTop (mkF m 130 #[.val (.int p0), .val (.int p1), .val (.int p2), .val (.int p3), .val (.int p4), .val (.int q5), .val (.int q6), .val (.ref b11), .val (.ref b16), .val (.int (1 : Int32)), .val (.int (1 : Int32)), .unset] [(.ref b11), (.ref b11)]))
        by_cases t2 : q6 = p1
        · skip
          obtain ⟨cq23, kq23, q23a, q23b, q23c⟩ := isOf hZ e22 cr16_E
          obtain ⟨_, _, ⟨T23, L23, k23, n23⟩, -, X23, ⟨Lc23, hQ23, l23, y23, z23⟩, st23⟩ := X22.virtualBack hx (y := (⟨"com/example/steward/steward/statement/Token", "follows", "(Lcom/example/steward/steward/statement/Token;)Z"⟩ : MethodName)) (z := (⟨"com/example/steward/steward/statement/Token", "follows", "(Lcom/example/steward/steward/statement/Token;)Z"⟩ : MethodName)) hown (mvT hZ (hw _ (List.mem_of_getElem? (i := 38) rfl))) (mvT hZ (hw _ (List.mem_of_getElem? (i := 39) rfl))) (notFace_of_selects (args := #[]) (mvT hZ (hw _ (List.mem_of_getElem? (i := 41) rfl)))) (mvT hZ (hw _ (List.mem_of_getElem? (i := 41) rfl))) (mvT hZ (hw _ (List.mem_of_getElem? (i := 40) rfl))) (by decide) (backOf (W := 0) (rmF l Z a0 hw [] b11 b11 q6 p1 (1 : Int32) T20.heap n0 cr16_s cr16_e (if_pos t2)) hZ (hw _ (List.mem_of_getElem? (i := 42) rfl)) (hw _ (List.mem_of_getElem? (i := 2) rfl)) (by decide) (by decide)) q23a q23c (g := (mkF m 130 #[.val (.int p0), .val (.int p1), .val (.int p2), .val (.int p3), .val (.int p4), .val (.int q5), .val (.int q6), .val (.ref b11), .val (.ref b16), .val (.int (1 : Int32)), .val (.int (1 : Int32)), .unset] [(.ref b11), (.ref b11)])) rfl (by rw [hml]; rfl) (Steps.refl _) (argsL := [(.ref b11)]) (rest := []) (lenOf own_pd1 rfl) rfl (by show 2 * 0 + _ ≤ _; exact Nat.le_of_eq rfl) (hb hby at_130) (fun _ _ => ⟨rfl, e22, (by decide : 0 + 1 + 2 + 2 + 1 + 2 + 2 + 0 ≤ _), (by decide : 0 + 7 + (4 + 4) + (0 + 4) + 7 + (4 + 4) + (0 + 4) + 0 ≤ _)⟩)
          dsimp only [Pt.U, Pt.locs, Pt.cells, Pt.slots] at X23 l23 y23 z23 st23 hQ23
          subst l23 y23 z23
          obtain ⟨rfl, N23q, e23⟩ := hQ23
          have N23 := Fr.app N22 N23q
          refine ownTransW st23 ?_
          show OwnGoW _ _ _ _ _ _ _ (T23.setTop (mkF m 133 #[.val (.int p0), .val (.int p1), .val (.int p2), .val (.int p3), .val (.int p4), .val (.int q5), .val (.int q6), .val (.ref b11), .val (.ref b16), .val (.int (1 : Int32)), .val (.int (1 : Int32)), .unset] [(.int (1 : Int32))]))
          refine ownStepW (fun _ k => XS.iload X23.here hx rfl (hb hby at_133) rfl k) ?_
          show OwnGoW _ _ _ _ _ _ _ (T23.setTop (mkF m 135 #[.val (.int p0), .val (.int p1), .val (.int p2), .val (.int p3), .val (.int p4), .val (.int q5), .val (.int q6), .val (.ref b11), .val (.ref b16), .val (.int (1 : Int32)), .val (.int (1 : Int32)), .unset] [(.int q6), (.int (1 : Int32))]))
          refine ownStepW (fun _ k => XS.iloadN X23.here hx rfl (hb hby at_135) rfl k) ?_
          show OwnGoW _ _ _ _ _ _ _ (T23.setTop (mkF m 136 #[.val (.int p0), .val (.int p1), .val (.int p2), .val (.int p3), .val (.int p4), .val (.int q5), .val (.int q6), .val (.ref b11), .val (.ref b16), .val (.int (1 : Int32)), .val (.int (1 : Int32)), .unset] [(.int p1), (.int q6), (.int (1 : Int32))]))
          refine ownStepW (fun _ k => XS.icmpNo X23.here hx rfl (hb hby at_136) rfl (teq t2).2 k) ?_
          show OwnGoW _ _ _ _ _ _ _ (T23.setTop (mkF m 139 #[.val (.int p0), .val (.int p1), .val (.int p2), .val (.int p3), .val (.int p4), .val (.int q5), .val (.int q6), .val (.ref b11), .val (.ref b16), .val (.int (1 : Int32)), .val (.int (1 : Int32)), .unset] [(.int (1 : Int32))]))
          refine ownStepW (fun _ k => XS.iconst X23.here hx rfl (hb hby at_139) k) ?_
          show OwnGoW _ _ _ _ _ _ _ (T23.setTop (mkF m 140 #[.val (.int p0), .val (.int p1), .val (.int p2), .val (.int p3), .val (.int p4), .val (.int q5), .val (.int q6), .val (.ref b11), .val (.ref b16), .val (.int (1 : Int32)), .val (.int (1 : Int32)), .unset] [(.int (1 : Int32)), (.int (1 : Int32))]))
          refine ownStepW (fun _ k => XS.goto X23.here hx rfl (pc0 := 140) (pc' := 144) rfl (hb hby at_140) (by decide) (by decide) k) ?_
          show OwnGoW _ _ _ _ _ _ _ (T23.setTop (mkF m 144 #[.val (.int p0), .val (.int p1), .val (.int p2), .val (.int p3), .val (.int p4), .val (.int q5), .val (.int q6), .val (.ref b11), .val (.ref b16), .val (.int (1 : Int32)), .val (.int (1 : Int32)), .unset] [(.int (1 : Int32)), (.int (1 : Int32))]))
          refine ownStepW (fun _ k => XS.icmpNo X23.here hx rfl (hb hby at_144) rfl (teq (by decide : (1 : Int32) = (1 : Int32))).2 k) ?_
          show OwnGoW _ _ _ _ _ _ _ (T23.setTop (mkF m 147 #[.val (.int p0), .val (.int p1), .val (.int p2), .val (.int p3), .val (.int p4), .val (.int q5), .val (.int q6), .val (.ref b11), .val (.ref b16), .val (.int (1 : Int32)), .val (.int (1 : Int32)), .unset] []))
          refine ownStepW (fun _ k => XS.iconst X23.here hx rfl (hb hby at_147) k) ?_
          show OwnGoW _ _ _ _ _ _ _ (T23.setTop (mkF m 148 #[.val (.int p0), .val (.int p1), .val (.int p2), .val (.int p3), .val (.int p4), .val (.int q5), .val (.int q6), .val (.ref b11), .val (.ref b16), .val (.int (1 : Int32)), .val (.int (1 : Int32)), .unset] [(.int (1 : Int32))]))
          refine ownStepW (fun _ k => XS.goto X23.here hx rfl (pc0 := 148) (pc' := 152) rfl (hb hby at_148) (by decide) (by decide) k) ?_
          show OwnGoW _ _ _ _ _ _ _ (T23.setTop (mkF m 152 #[.val (.int p0), .val (.int p1), .val (.int p2), .val (.int p3), .val (.int p4), .val (.int q5), .val (.int q6), .val (.ref b11), .val (.ref b16), .val (.int (1 : Int32)), .val (.int (1 : Int32)), .unset] [(.int (1 : Int32))]))
          refine ownStepW (fun _ k => XS.istore X23.here hx rfl (hb hby at_152) rfl (l' := #[.val (.int p0), .val (.int p1), .val (.int p2), .val (.int p3), .val (.int p4), .val (.int q5), .val (.int q6), .val (.ref b11), .val (.ref b16), .val (.int (1 : Int32)), .val (.int (1 : Int32)), .val (.int (1 : Int32))]) rfl k) ?_
          show OwnGoW _ _ _ _ _ _ _ (T23.setTop (mkF m 154 #[.val (.int p0), .val (.int p1), .val (.int p2), .val (.int p3), .val (.int p4), .val (.int q5), .val (.int q6), .val (.ref b11), .val (.ref b16), .val (.int (1 : Int32)), .val (.int (1 : Int32)), .val (.int (1 : Int32))] []))
          refine ownStepW (fun _ k => XS.iload X23.here hx rfl (hb hby at_154) rfl k) ?_
          show OwnGoW _ _ _ _ _ _ _ (T23.setTop (mkF m 156 #[.val (.int p0), .val (.int p1), .val (.int p2), .val (.int p3), .val (.int p4), .val (.int q5), .val (.int q6), .val (.ref b11), .val (.ref b16), .val (.int (1 : Int32)), .val (.int (1 : Int32)), .val (.int (1 : Int32))] [(.int (1 : Int32))]))
          refine ownStepW (fun _ k => XS.ifNo X23.here hx rfl (hb hby at_156) rfl ((if0 _ _).trans (feq (by decide : ¬ ((1 : Int32) = (0 : Int32)))).1) k) ?_
          show OwnGoW _ _ _ _ _ _ _ (T23.setTop (mkF m 159 #[.val (.int p0), .val (.int p1), .val (.int p2), .val (.int p3), .val (.int p4), .val (.int q5), .val (.int q6), .val (.ref b11), .val (.ref b16), .val (.int (1 : Int32)), .val (.int (1 : Int32)), .val (.int (1 : Int32))] []))
          refine ownStepW (fun _ k => XS.iload X23.here hx rfl (hb hby at_159) rfl k) ?_
          show OwnGoW _ _ _ _ _ _ _ (T23.setTop (mkF m 161 #[.val (.int p0), .val (.int p1), .val (.int p2), .val (.int p3), .val (.int p4), .val (.int q5), .val (.int q6), .val (.ref b11), .val (.ref b16), .val (.int (1 : Int32)), .val (.int (1 : Int32)), .val (.int (1 : Int32))] [(.int (1 : Int32))]))
          refine ownStepW (fun _ k => XS.ifNo X23.here hx rfl (hb hby at_161) rfl ((if0 _ _).trans (feq (by decide : ¬ ((1 : Int32) = (0 : Int32)))).1) k) ?_
          show OwnGoW _ _ _ _ _ _ _ (T23.setTop (mkF m 164 #[.val (.int p0), .val (.int p1), .val (.int p2), .val (.int p3), .val (.int p4), .val (.int q5), .val (.int q6), .val (.ref b11), .val (.ref b16), .val (.int (1 : Int32)), .val (.int (1 : Int32)), .val (.int (1 : Int32))] []))
          refine ownStepW (fun _ k => XS.iload X23.here hx rfl (hb hby at_164) rfl k) ?_
          show OwnGoW _ _ _ _ _ _ _ (T23.setTop (mkF m 166 #[.val (.int p0), .val (.int p1), .val (.int p2), .val (.int p3), .val (.int p4), .val (.int q5), .val (.int q6), .val (.ref b11), .val (.ref b16), .val (.int (1 : Int32)), .val (.int (1 : Int32)), .val (.int (1 : Int32))] [(.int (1 : Int32))]))
          refine ownStepW (fun _ k => XS.ifNo X23.here hx rfl (hb hby at_166) rfl ((if0 _ _).trans (feq (by decide : ¬ ((1 : Int32) = (0 : Int32)))).1) k) ?_
          show OwnGoW _ _ _ _ _ _ _ (T23.setTop (mkF m 169 #[.val (.int p0), .val (.int p1), .val (.int p2), .val (.int p3), .val (.int p4), .val (.int q5), .val (.int q6), .val (.ref b11), .val (.ref b16), .val (.int (1 : Int32)), .val (.int (1 : Int32)), .val (.int (1 : Int32))] []))
          refine ownStepW (fun _ k => XS.iconst X23.here hx rfl (hb hby at_169) k) ?_
          show OwnGoW _ _ _ _ _ _ _ (T23.setTop (mkF m 170 #[.val (.int p0), .val (.int p1), .val (.int p2), .val (.int p3), .val (.int p4), .val (.int q5), .val (.int q6), .val (.ref b11), .val (.ref b16), .val (.int (1 : Int32)), .val (.int (1 : Int32)), .val (.int (1 : Int32))] [(.int (1 : Int32))]))
          refine ownStepW (fun _ k => XS.goto X23.here hx rfl (pc0 := 170) (pc' := 174) rfl (hb hby at_170) (by decide) (by decide) k) ?_
          show OwnGoW _ _ _ _ _ _ _ (T23.setTop (mkF m 174 #[.val (.int p0), .val (.int p1), .val (.int p2), .val (.int p3), .val (.int p4), .val (.int q5), .val (.int q6), .val (.ref b11), .val (.ref b16), .val (.int (1 : Int32)), .val (.int (1 : Int32)), .val (.int (1 : Int32))] [(.int (1 : Int32))]))
          have eq174 : T23.heap = T20.heap := e23
          exact ownRetNW X23 Sn19 (by rw [eq174]; exact Zn20) hx (t := .boolean) Bd.returns (by simp) (hb hby at_174) (BodyLoose.notSynchronized Bd) (by decide) (by decide) (by rw [eq174]; exact ⟨rfl, N23⟩)
        · skip
          obtain ⟨cq24, kq24, q24a, q24b, q24c⟩ := isOf hZ e22 cr16_E
          obtain ⟨_, _, ⟨T24, L24, k24, n24⟩, -, X24, ⟨Lc24, hQ24, l24, y24, z24⟩, st24⟩ := X22.virtualBack hx (y := (⟨"com/example/steward/steward/statement/Token", "follows", "(Lcom/example/steward/steward/statement/Token;)Z"⟩ : MethodName)) (z := (⟨"com/example/steward/steward/statement/Token", "follows", "(Lcom/example/steward/steward/statement/Token;)Z"⟩ : MethodName)) hown (mvT hZ (hw _ (List.mem_of_getElem? (i := 38) rfl))) (mvT hZ (hw _ (List.mem_of_getElem? (i := 39) rfl))) (notFace_of_selects (args := #[]) (mvT hZ (hw _ (List.mem_of_getElem? (i := 41) rfl)))) (mvT hZ (hw _ (List.mem_of_getElem? (i := 41) rfl))) (mvT hZ (hw _ (List.mem_of_getElem? (i := 40) rfl))) (by decide) (backOf (W := 0) (rmF l Z a0 hw [] b11 b11 q6 p1 (0 : Int32) T20.heap n0 cr16_s cr16_e (if_neg t2)) hZ (hw _ (List.mem_of_getElem? (i := 42) rfl)) (hw _ (List.mem_of_getElem? (i := 2) rfl)) (by decide) (by decide)) q24a q24c (g := (mkF m 130 #[.val (.int p0), .val (.int p1), .val (.int p2), .val (.int p3), .val (.int p4), .val (.int q5), .val (.int q6), .val (.ref b11), .val (.ref b16), .val (.int (1 : Int32)), .val (.int (1 : Int32)), .unset] [(.ref b11), (.ref b11)])) rfl (by rw [hml]; rfl) (Steps.refl _) (argsL := [(.ref b11)]) (rest := []) (lenOf own_pd1 rfl) rfl (by show 2 * 0 + _ ≤ _; exact Nat.le_of_eq rfl) (hb hby at_130) (fun _ _ => ⟨rfl, e22, (by decide : 0 + 1 + 2 + 2 + 1 + 2 + 2 + 0 ≤ _), (by decide : 0 + 7 + (4 + 4) + (0 + 4) + 7 + (4 + 4) + (0 + 4) + 0 ≤ _)⟩)
          dsimp only [Pt.U, Pt.locs, Pt.cells, Pt.slots] at X24 l24 y24 z24 st24 hQ24
          subst l24 y24 z24
          obtain ⟨rfl, N24q, e24⟩ := hQ24
          have N24 := Fr.app N22 N24q
          refine ownTransW st24 ?_
          show OwnGoW _ _ _ _ _ _ _ (T24.setTop (mkF m 133 #[.val (.int p0), .val (.int p1), .val (.int p2), .val (.int p3), .val (.int p4), .val (.int q5), .val (.int q6), .val (.ref b11), .val (.ref b16), .val (.int (1 : Int32)), .val (.int (1 : Int32)), .unset] [(.int (0 : Int32))]))
          refine ownStepW (fun _ k => XS.iload X24.here hx rfl (hb hby at_133) rfl k) ?_
          show OwnGoW _ _ _ _ _ _ _ (T24.setTop (mkF m 135 #[.val (.int p0), .val (.int p1), .val (.int p2), .val (.int p3), .val (.int p4), .val (.int q5), .val (.int q6), .val (.ref b11), .val (.ref b16), .val (.int (1 : Int32)), .val (.int (1 : Int32)), .unset] [(.int q6), (.int (0 : Int32))]))
          refine ownStepW (fun _ k => XS.iloadN X24.here hx rfl (hb hby at_135) rfl k) ?_
          show OwnGoW _ _ _ _ _ _ _ (T24.setTop (mkF m 136 #[.val (.int p0), .val (.int p1), .val (.int p2), .val (.int p3), .val (.int p4), .val (.int q5), .val (.int q6), .val (.ref b11), .val (.ref b16), .val (.int (1 : Int32)), .val (.int (1 : Int32)), .unset] [(.int p1), (.int q6), (.int (0 : Int32))]))
          refine ownStepW (fun _ k => XS.icmpYes X24.here hx rfl (pc0 := 136) (pc' := 143) rfl (hb hby at_136) rfl (feq t2).2 (by decide) (by decide) k) ?_
          show OwnGoW _ _ _ _ _ _ _ (T24.setTop (mkF m 143 #[.val (.int p0), .val (.int p1), .val (.int p2), .val (.int p3), .val (.int p4), .val (.int q5), .val (.int q6), .val (.ref b11), .val (.ref b16), .val (.int (1 : Int32)), .val (.int (1 : Int32)), .unset] [(.int (0 : Int32))]))
          refine ownStepW (fun _ k => XS.iconst X24.here hx rfl (hb hby at_143) k) ?_
          show OwnGoW _ _ _ _ _ _ _ (T24.setTop (mkF m 144 #[.val (.int p0), .val (.int p1), .val (.int p2), .val (.int p3), .val (.int p4), .val (.int q5), .val (.int q6), .val (.ref b11), .val (.ref b16), .val (.int (1 : Int32)), .val (.int (1 : Int32)), .unset] [(.int (0 : Int32)), (.int (0 : Int32))]))
          refine ownStepW (fun _ k => XS.icmpNo X24.here hx rfl (hb hby at_144) rfl (teq (by decide : (0 : Int32) = (0 : Int32))).2 k) ?_
          show OwnGoW _ _ _ _ _ _ _ (T24.setTop (mkF m 147 #[.val (.int p0), .val (.int p1), .val (.int p2), .val (.int p3), .val (.int p4), .val (.int q5), .val (.int q6), .val (.ref b11), .val (.ref b16), .val (.int (1 : Int32)), .val (.int (1 : Int32)), .unset] []))
          refine ownStepW (fun _ k => XS.iconst X24.here hx rfl (hb hby at_147) k) ?_
          show OwnGoW _ _ _ _ _ _ _ (T24.setTop (mkF m 148 #[.val (.int p0), .val (.int p1), .val (.int p2), .val (.int p3), .val (.int p4), .val (.int q5), .val (.int q6), .val (.ref b11), .val (.ref b16), .val (.int (1 : Int32)), .val (.int (1 : Int32)), .unset] [(.int (1 : Int32))]))
          refine ownStepW (fun _ k => XS.goto X24.here hx rfl (pc0 := 148) (pc' := 152) rfl (hb hby at_148) (by decide) (by decide) k) ?_
          show OwnGoW _ _ _ _ _ _ _ (T24.setTop (mkF m 152 #[.val (.int p0), .val (.int p1), .val (.int p2), .val (.int p3), .val (.int p4), .val (.int q5), .val (.int q6), .val (.ref b11), .val (.ref b16), .val (.int (1 : Int32)), .val (.int (1 : Int32)), .unset] [(.int (1 : Int32))]))
          refine ownStepW (fun _ k => XS.istore X24.here hx rfl (hb hby at_152) rfl (l' := #[.val (.int p0), .val (.int p1), .val (.int p2), .val (.int p3), .val (.int p4), .val (.int q5), .val (.int q6), .val (.ref b11), .val (.ref b16), .val (.int (1 : Int32)), .val (.int (1 : Int32)), .val (.int (1 : Int32))]) rfl k) ?_
          show OwnGoW _ _ _ _ _ _ _ (T24.setTop (mkF m 154 #[.val (.int p0), .val (.int p1), .val (.int p2), .val (.int p3), .val (.int p4), .val (.int q5), .val (.int q6), .val (.ref b11), .val (.ref b16), .val (.int (1 : Int32)), .val (.int (1 : Int32)), .val (.int (1 : Int32))] []))
          refine ownStepW (fun _ k => XS.iload X24.here hx rfl (hb hby at_154) rfl k) ?_
          show OwnGoW _ _ _ _ _ _ _ (T24.setTop (mkF m 156 #[.val (.int p0), .val (.int p1), .val (.int p2), .val (.int p3), .val (.int p4), .val (.int q5), .val (.int q6), .val (.ref b11), .val (.ref b16), .val (.int (1 : Int32)), .val (.int (1 : Int32)), .val (.int (1 : Int32))] [(.int (1 : Int32))]))
          refine ownStepW (fun _ k => XS.ifNo X24.here hx rfl (hb hby at_156) rfl ((if0 _ _).trans (feq (by decide : ¬ ((1 : Int32) = (0 : Int32)))).1) k) ?_
          show OwnGoW _ _ _ _ _ _ _ (T24.setTop (mkF m 159 #[.val (.int p0), .val (.int p1), .val (.int p2), .val (.int p3), .val (.int p4), .val (.int q5), .val (.int q6), .val (.ref b11), .val (.ref b16), .val (.int (1 : Int32)), .val (.int (1 : Int32)), .val (.int (1 : Int32))] []))
          refine ownStepW (fun _ k => XS.iload X24.here hx rfl (hb hby at_159) rfl k) ?_
          show OwnGoW _ _ _ _ _ _ _ (T24.setTop (mkF m 161 #[.val (.int p0), .val (.int p1), .val (.int p2), .val (.int p3), .val (.int p4), .val (.int q5), .val (.int q6), .val (.ref b11), .val (.ref b16), .val (.int (1 : Int32)), .val (.int (1 : Int32)), .val (.int (1 : Int32))] [(.int (1 : Int32))]))
          refine ownStepW (fun _ k => XS.ifNo X24.here hx rfl (hb hby at_161) rfl ((if0 _ _).trans (feq (by decide : ¬ ((1 : Int32) = (0 : Int32)))).1) k) ?_
          show OwnGoW _ _ _ _ _ _ _ (T24.setTop (mkF m 164 #[.val (.int p0), .val (.int p1), .val (.int p2), .val (.int p3), .val (.int p4), .val (.int q5), .val (.int q6), .val (.ref b11), .val (.ref b16), .val (.int (1 : Int32)), .val (.int (1 : Int32)), .val (.int (1 : Int32))] []))
          refine ownStepW (fun _ k => XS.iload X24.here hx rfl (hb hby at_164) rfl k) ?_
          show OwnGoW _ _ _ _ _ _ _ (T24.setTop (mkF m 166 #[.val (.int p0), .val (.int p1), .val (.int p2), .val (.int p3), .val (.int p4), .val (.int q5), .val (.int q6), .val (.ref b11), .val (.ref b16), .val (.int (1 : Int32)), .val (.int (1 : Int32)), .val (.int (1 : Int32))] [(.int (1 : Int32))]))
          refine ownStepW (fun _ k => XS.ifNo X24.here hx rfl (hb hby at_166) rfl ((if0 _ _).trans (feq (by decide : ¬ ((1 : Int32) = (0 : Int32)))).1) k) ?_
          show OwnGoW _ _ _ _ _ _ _ (T24.setTop (mkF m 169 #[.val (.int p0), .val (.int p1), .val (.int p2), .val (.int p3), .val (.int p4), .val (.int q5), .val (.int q6), .val (.ref b11), .val (.ref b16), .val (.int (1 : Int32)), .val (.int (1 : Int32)), .val (.int (1 : Int32))] []))
          refine ownStepW (fun _ k => XS.iconst X24.here hx rfl (hb hby at_169) k) ?_
          show OwnGoW _ _ _ _ _ _ _ (T24.setTop (mkF m 170 #[.val (.int p0), .val (.int p1), .val (.int p2), .val (.int p3), .val (.int p4), .val (.int q5), .val (.int q6), .val (.ref b11), .val (.ref b16), .val (.int (1 : Int32)), .val (.int (1 : Int32)), .val (.int (1 : Int32))] [(.int (1 : Int32))]))
          refine ownStepW (fun _ k => XS.goto X24.here hx rfl (pc0 := 170) (pc' := 174) rfl (hb hby at_170) (by decide) (by decide) k) ?_
          show OwnGoW _ _ _ _ _ _ _ (T24.setTop (mkF m 174 #[.val (.int p0), .val (.int p1), .val (.int p2), .val (.int p3), .val (.int p4), .val (.int q5), .val (.int q6), .val (.ref b11), .val (.ref b16), .val (.int (1 : Int32)), .val (.int (1 : Int32)), .val (.int (1 : Int32))] [(.int (1 : Int32))]))
          have eq174 : T24.heap = T20.heap := e24
          exact ownRetNW X24 Sn19 (by rw [eq174]; exact Zn20) hx (t := .boolean) Bd.returns (by simp) (hb hby at_174) (BodyLoose.notSynchronized Bd) (by decide) (by decide) (by rw [eq174]; exact ⟨rfl, N24⟩)
      · skip
        obtain ⟨cq25, kq25, q25a, q25b, q25c⟩ := isOf hZ e21 cr16_E
        obtain ⟨_, _, ⟨T25, L25, k25, n25⟩, -, X25, ⟨Lc25, hQ25, l25, y25, z25⟩, st25⟩ := X21.virtualBack hx (y := (⟨"com/example/steward/steward/statement/Token", "follows", "(Lcom/example/steward/steward/statement/Token;)Z"⟩ : MethodName)) (z := (⟨"com/example/steward/steward/statement/Token", "follows", "(Lcom/example/steward/steward/statement/Token;)Z"⟩ : MethodName)) hown (mvT hZ (hw _ (List.mem_of_getElem? (i := 38) rfl))) (mvT hZ (hw _ (List.mem_of_getElem? (i := 39) rfl))) (notFace_of_selects (args := #[]) (mvT hZ (hw _ (List.mem_of_getElem? (i := 41) rfl)))) (mvT hZ (hw _ (List.mem_of_getElem? (i := 41) rfl))) (mvT hZ (hw _ (List.mem_of_getElem? (i := 40) rfl))) (by decide) (backOf (W := 0) (rmF l Z a0 hw [] b11 b16 q6 p3 (0 : Int32) T20.heap n0 cr16_s Fe20 (if_neg t1)) hZ (hw _ (List.mem_of_getElem? (i := 42) rfl)) (hw _ (List.mem_of_getElem? (i := 2) rfl)) (by decide) (by decide)) q25a q25c (g := (mkF m 102 #[.val (.int p0), .val (.int p1), .val (.int p2), .val (.int p3), .val (.int p4), .val (.int q5), .val (.int q6), .val (.ref b11), .val (.ref b16), .val (.int (1 : Int32)), .unset, .unset] [(.ref b16), (.ref b11)])) rfl (by rw [hml]; rfl) (Steps.refl _) (argsL := [(.ref b16)]) (rest := []) (lenOf own_pd1 rfl) rfl (by show 2 * 0 + _ ≤ _; exact Nat.le_of_eq rfl) (hb hby at_102) (fun _ _ => ⟨rfl, e21, (by decide : 0 + 1 + 2 + 2 + 1 + 2 + 2 + 0 ≤ _), (by decide : 0 + 7 + (4 + 4) + (0 + 4) + 7 + (4 + 4) + (0 + 4) + 0 ≤ _)⟩)
        dsimp only [Pt.U, Pt.locs, Pt.cells, Pt.slots] at X25 l25 y25 z25 st25 hQ25
        subst l25 y25 z25
        obtain ⟨rfl, N25q, e25⟩ := hQ25
        have N25 := Fr.app N21 N25q
        refine ownTransW st25 ?_
        show OwnGoW _ _ _ _ _ _ _ (T25.setTop (mkF m 105 #[.val (.int p0), .val (.int p1), .val (.int p2), .val (.int p3), .val (.int p4), .val (.int q5), .val (.int q6), .val (.ref b11), .val (.ref b16), .val (.int (1 : Int32)), .unset, .unset] [(.int (0 : Int32))]))
        refine ownStepW (fun _ k => XS.iload X25.here hx rfl (hb hby at_105) rfl k) ?_
        show OwnGoW _ _ _ _ _ _ _ (T25.setTop (mkF m 107 #[.val (.int p0), .val (.int p1), .val (.int p2), .val (.int p3), .val (.int p4), .val (.int q5), .val (.int q6), .val (.ref b11), .val (.ref b16), .val (.int (1 : Int32)), .unset, .unset] [(.int q6), (.int (0 : Int32))]))
        refine ownStepW (fun _ k => XS.iloadN X25.here hx rfl (hb hby at_107) rfl k) ?_
        show OwnGoW _ _ _ _ _ _ _ (T25.setTop (mkF m 108 #[.val (.int p0), .val (.int p1), .val (.int p2), .val (.int p3), .val (.int p4), .val (.int q5), .val (.int q6), .val (.ref b11), .val (.ref b16), .val (.int (1 : Int32)), .unset, .unset] [(.int p3), (.int q6), (.int (0 : Int32))]))
        refine ownStepW (fun _ k => XS.icmpYes X25.here hx rfl (pc0 := 108) (pc' := 115) rfl (hb hby at_108) rfl (feq t1).2 (by decide) (by decide) k) ?_
        show OwnGoW _ _ _ _ _ _ _ (T25.setTop (mkF m 115 #[.val (.int p0), .val (.int p1), .val (.int p2), .val (.int p3), .val (.int p4), .val (.int q5), .val (.int q6), .val (.ref b11), .val (.ref b16), .val (.int (1 : Int32)), .unset, .unset] [(.int (0 : Int32))]))
        refine ownStepW (fun _ k => XS.iconst X25.here hx rfl (hb hby at_115) k) ?_
        show OwnGoW _ _ _ _ _ _ _ (T25.setTop (mkF m 116 #[.val (.int p0), .val (.int p1), .val (.int p2), .val (.int p3), .val (.int p4), .val (.int q5), .val (.int q6), .val (.ref b11), .val (.ref b16), .val (.int (1 : Int32)), .unset, .unset] [(.int (0 : Int32)), (.int (0 : Int32))]))
        refine ownStepW (fun _ k => XS.icmpNo X25.here hx rfl (hb hby at_116) rfl (teq (by decide : (0 : Int32) = (0 : Int32))).2 k) ?_
        show OwnGoW _ _ _ _ _ _ _ (T25.setTop (mkF m 119 #[.val (.int p0), .val (.int p1), .val (.int p2), .val (.int p3), .val (.int p4), .val (.int q5), .val (.int q6), .val (.ref b11), .val (.ref b16), .val (.int (1 : Int32)), .unset, .unset] []))
        refine ownStepW (fun _ k => XS.iconst X25.here hx rfl (hb hby at_119) k) ?_
        show OwnGoW _ _ _ _ _ _ _ (T25.setTop (mkF m 120 #[.val (.int p0), .val (.int p1), .val (.int p2), .val (.int p3), .val (.int p4), .val (.int q5), .val (.int q6), .val (.ref b11), .val (.ref b16), .val (.int (1 : Int32)), .unset, .unset] [(.int (1 : Int32))]))
        refine ownStepW (fun _ k => XS.goto X25.here hx rfl (pc0 := 120) (pc' := 124) rfl (hb hby at_120) (by decide) (by decide) k) ?_
        show OwnGoW _ _ _ _ _ _ _ (T25.setTop (mkF m 124 #[.val (.int p0), .val (.int p1), .val (.int p2), .val (.int p3), .val (.int p4), .val (.int q5), .val (.int q6), .val (.ref b11), .val (.ref b16), .val (.int (1 : Int32)), .unset, .unset] [(.int (1 : Int32))]))
        refine ownStepW (fun _ k => XS.istore X25.here hx rfl (hb hby at_124) rfl (l' := #[.val (.int p0), .val (.int p1), .val (.int p2), .val (.int p3), .val (.int p4), .val (.int q5), .val (.int q6), .val (.ref b11), .val (.ref b16), .val (.int (1 : Int32)), .val (.int (1 : Int32)), .unset]) rfl k) ?_
        show OwnGoW _ _ _ _ _ _ _ (T25.setTop (mkF m 126 #[.val (.int p0), .val (.int p1), .val (.int p2), .val (.int p3), .val (.int p4), .val (.int q5), .val (.int q6), .val (.ref b11), .val (.ref b16), .val (.int (1 : Int32)), .val (.int (1 : Int32)), .unset] []))
        refine ownStepW (fun _ k => XS.aload X25.here hx rfl (hb hby at_126) rfl rfl k) ?_
        show OwnGoW _ _ _ _ _ _ _ (T25.setTop (mkF m 128 #[.val (.int p0), .val (.int p1), .val (.int p2), .val (.int p3), .val (.int p4), .val (.int q5), .val (.int q6), .val (.ref b11), .val (.ref b16), .val (.int (1 : Int32)), .val (.int (1 : Int32)), .unset] [(.ref b11)]))
        refine ownStepW (fun _ k => XS.aload X25.here hx rfl (hb hby at_128) rfl rfl k) ?_
        show OwnGoW _ _ _ _ _ _ _ (T25.setTop (mkF m 130 #[.val (.int p0), .val (.int p1), .val (.int p2), .val (.int p3), .val (.int p4), .val (.int q5), .val (.int q6), .val (.ref b11), .val (.ref b16), .val (.int (1 : Int32)), .val (.int (1 : Int32)), .unset] [(.ref b11), (.ref b11)]))
        by_cases t2 : q6 = p1
        · skip
          obtain ⟨cq26, kq26, q26a, q26b, q26c⟩ := isOf hZ e25 cr16_E
          obtain ⟨_, _, ⟨T26, L26, k26, n26⟩, -, X26, ⟨Lc26, hQ26, l26, y26, z26⟩, st26⟩ := X25.virtualBack hx (y := (⟨"com/example/steward/steward/statement/Token", "follows", "(Lcom/example/steward/steward/statement/Token;)Z"⟩ : MethodName)) (z := (⟨"com/example/steward/steward/statement/Token", "follows", "(Lcom/example/steward/steward/statement/Token;)Z"⟩ : MethodName)) hown (mvT hZ (hw _ (List.mem_of_getElem? (i := 38) rfl))) (mvT hZ (hw _ (List.mem_of_getElem? (i := 39) rfl))) (notFace_of_selects (args := #[]) (mvT hZ (hw _ (List.mem_of_getElem? (i := 41) rfl)))) (mvT hZ (hw _ (List.mem_of_getElem? (i := 41) rfl))) (mvT hZ (hw _ (List.mem_of_getElem? (i := 40) rfl))) (by decide) (backOf (W := 0) (rmF l Z a0 hw [] b11 b11 q6 p1 (1 : Int32) T20.heap n0 cr16_s cr16_e (if_pos t2)) hZ (hw _ (List.mem_of_getElem? (i := 42) rfl)) (hw _ (List.mem_of_getElem? (i := 2) rfl)) (by decide) (by decide)) q26a q26c (g := (mkF m 130 #[.val (.int p0), .val (.int p1), .val (.int p2), .val (.int p3), .val (.int p4), .val (.int q5), .val (.int q6), .val (.ref b11), .val (.ref b16), .val (.int (1 : Int32)), .val (.int (1 : Int32)), .unset] [(.ref b11), (.ref b11)])) rfl (by rw [hml]; rfl) (Steps.refl _) (argsL := [(.ref b11)]) (rest := []) (lenOf own_pd1 rfl) rfl (by show 2 * 0 + _ ≤ _; exact Nat.le_of_eq rfl) (hb hby at_130) (fun _ _ => ⟨rfl, e25, (by decide : 0 + 1 + 2 + 2 + 1 + 2 + 2 + 0 ≤ _), (by decide : 0 + 7 + (4 + 4) + (0 + 4) + 7 + (4 + 4) + (0 + 4) + 0 ≤ _)⟩)
          dsimp only [Pt.U, Pt.locs, Pt.cells, Pt.slots] at X26 l26 y26 z26 st26 hQ26
          subst l26 y26 z26
          obtain ⟨rfl, N26q, e26⟩ := hQ26
          have N26 := Fr.app N25 N26q
          refine ownTransW st26 ?_
          show OwnGoW _ _ _ _ _ _ _ (T26.setTop (mkF m 133 #[.val (.int p0), .val (.int p1), .val (.int p2), .val (.int p3), .val (.int p4), .val (.int q5), .val (.int q6), .val (.ref b11), .val (.ref b16), .val (.int (1 : Int32)), .val (.int (1 : Int32)), .unset] [(.int (1 : Int32))]))
          refine ownStepW (fun _ k => XS.iload X26.here hx rfl (hb hby at_133) rfl k) ?_
          show OwnGoW _ _ _ _ _ _ _ (T26.setTop (mkF m 135 #[.val (.int p0), .val (.int p1), .val (.int p2), .val (.int p3), .val (.int p4), .val (.int q5), .val (.int q6), .val (.ref b11), .val (.ref b16), .val (.int (1 : Int32)), .val (.int (1 : Int32)), .unset] [(.int q6), (.int (1 : Int32))]))
          refine ownStepW (fun _ k => XS.iloadN X26.here hx rfl (hb hby at_135) rfl k) ?_
          show OwnGoW _ _ _ _ _ _ _ (T26.setTop (mkF m 136 #[.val (.int p0), .val (.int p1), .val (.int p2), .val (.int p3), .val (.int p4), .val (.int q5), .val (.int q6), .val (.ref b11), .val (.ref b16), .val (.int (1 : Int32)), .val (.int (1 : Int32)), .unset] [(.int p1), (.int q6), (.int (1 : Int32))]))
          refine ownStepW (fun _ k => XS.icmpNo X26.here hx rfl (hb hby at_136) rfl (teq t2).2 k) ?_
          show OwnGoW _ _ _ _ _ _ _ (T26.setTop (mkF m 139 #[.val (.int p0), .val (.int p1), .val (.int p2), .val (.int p3), .val (.int p4), .val (.int q5), .val (.int q6), .val (.ref b11), .val (.ref b16), .val (.int (1 : Int32)), .val (.int (1 : Int32)), .unset] [(.int (1 : Int32))]))
          refine ownStepW (fun _ k => XS.iconst X26.here hx rfl (hb hby at_139) k) ?_
          show OwnGoW _ _ _ _ _ _ _ (T26.setTop (mkF m 140 #[.val (.int p0), .val (.int p1), .val (.int p2), .val (.int p3), .val (.int p4), .val (.int q5), .val (.int q6), .val (.ref b11), .val (.ref b16), .val (.int (1 : Int32)), .val (.int (1 : Int32)), .unset] [(.int (1 : Int32)), (.int (1 : Int32))]))
          refine ownStepW (fun _ k => XS.goto X26.here hx rfl (pc0 := 140) (pc' := 144) rfl (hb hby at_140) (by decide) (by decide) k) ?_
          show OwnGoW _ _ _ _ _ _ _ (T26.setTop (mkF m 144 #[.val (.int p0), .val (.int p1), .val (.int p2), .val (.int p3), .val (.int p4), .val (.int q5), .val (.int q6), .val (.ref b11), .val (.ref b16), .val (.int (1 : Int32)), .val (.int (1 : Int32)), .unset] [(.int (1 : Int32)), (.int (1 : Int32))]))
          refine ownStepW (fun _ k => XS.icmpNo X26.here hx rfl (hb hby at_144) rfl (teq (by decide : (1 : Int32) = (1 : Int32))).2 k) ?_
          show OwnGoW _ _ _ _ _ _ _ (T26.setTop (mkF m 147 #[.val (.int p0), .val (.int p1), .val (.int p2), .val (.int p3), .val (.int p4), .val (.int q5), .val (.int q6), .val (.ref b11), .val (.ref b16), .val (.int (1 : Int32)), .val (.int (1 : Int32)), .unset] []))
          refine ownStepW (fun _ k => XS.iconst X26.here hx rfl (hb hby at_147) k) ?_
          show OwnGoW _ _ _ _ _ _ _ (T26.setTop (mkF m 148 #[.val (.int p0), .val (.int p1), .val (.int p2), .val (.int p3), .val (.int p4), .val (.int q5), .val (.int q6), .val (.ref b11), .val (.ref b16), .val (.int (1 : Int32)), .val (.int (1 : Int32)), .unset] [(.int (1 : Int32))]))
          refine ownStepW (fun _ k => XS.goto X26.here hx rfl (pc0 := 148) (pc' := 152) rfl (hb hby at_148) (by decide) (by decide) k) ?_
          show OwnGoW _ _ _ _ _ _ _ (T26.setTop (mkF m 152 #[.val (.int p0), .val (.int p1), .val (.int p2), .val (.int p3), .val (.int p4), .val (.int q5), .val (.int q6), .val (.ref b11), .val (.ref b16), .val (.int (1 : Int32)), .val (.int (1 : Int32)), .unset] [(.int (1 : Int32))]))
          refine ownStepW (fun _ k => XS.istore X26.here hx rfl (hb hby at_152) rfl (l' := #[.val (.int p0), .val (.int p1), .val (.int p2), .val (.int p3), .val (.int p4), .val (.int q5), .val (.int q6), .val (.ref b11), .val (.ref b16), .val (.int (1 : Int32)), .val (.int (1 : Int32)), .val (.int (1 : Int32))]) rfl k) ?_
          show OwnGoW _ _ _ _ _ _ _ (T26.setTop (mkF m 154 #[.val (.int p0), .val (.int p1), .val (.int p2), .val (.int p3), .val (.int p4), .val (.int q5), .val (.int q6), .val (.ref b11), .val (.ref b16), .val (.int (1 : Int32)), .val (.int (1 : Int32)), .val (.int (1 : Int32))] []))
          refine ownStepW (fun _ k => XS.iload X26.here hx rfl (hb hby at_154) rfl k) ?_
          show OwnGoW _ _ _ _ _ _ _ (T26.setTop (mkF m 156 #[.val (.int p0), .val (.int p1), .val (.int p2), .val (.int p3), .val (.int p4), .val (.int q5), .val (.int q6), .val (.ref b11), .val (.ref b16), .val (.int (1 : Int32)), .val (.int (1 : Int32)), .val (.int (1 : Int32))] [(.int (1 : Int32))]))
          refine ownStepW (fun _ k => XS.ifNo X26.here hx rfl (hb hby at_156) rfl ((if0 _ _).trans (feq (by decide : ¬ ((1 : Int32) = (0 : Int32)))).1) k) ?_
          show OwnGoW _ _ _ _ _ _ _ (T26.setTop (mkF m 159 #[.val (.int p0), .val (.int p1), .val (.int p2), .val (.int p3), .val (.int p4), .val (.int q5), .val (.int q6), .val (.ref b11), .val (.ref b16), .val (.int (1 : Int32)), .val (.int (1 : Int32)), .val (.int (1 : Int32))] []))
          refine ownStepW (fun _ k => XS.iload X26.here hx rfl (hb hby at_159) rfl k) ?_
          show OwnGoW _ _ _ _ _ _ _ (T26.setTop (mkF m 161 #[.val (.int p0), .val (.int p1), .val (.int p2), .val (.int p3), .val (.int p4), .val (.int q5), .val (.int q6), .val (.ref b11), .val (.ref b16), .val (.int (1 : Int32)), .val (.int (1 : Int32)), .val (.int (1 : Int32))] [(.int (1 : Int32))]))
          refine ownStepW (fun _ k => XS.ifNo X26.here hx rfl (hb hby at_161) rfl ((if0 _ _).trans (feq (by decide : ¬ ((1 : Int32) = (0 : Int32)))).1) k) ?_
          show OwnGoW _ _ _ _ _ _ _ (T26.setTop (mkF m 164 #[.val (.int p0), .val (.int p1), .val (.int p2), .val (.int p3), .val (.int p4), .val (.int q5), .val (.int q6), .val (.ref b11), .val (.ref b16), .val (.int (1 : Int32)), .val (.int (1 : Int32)), .val (.int (1 : Int32))] []))
          refine ownStepW (fun _ k => XS.iload X26.here hx rfl (hb hby at_164) rfl k) ?_
          show OwnGoW _ _ _ _ _ _ _ (T26.setTop (mkF m 166 #[.val (.int p0), .val (.int p1), .val (.int p2), .val (.int p3), .val (.int p4), .val (.int q5), .val (.int q6), .val (.ref b11), .val (.ref b16), .val (.int (1 : Int32)), .val (.int (1 : Int32)), .val (.int (1 : Int32))] [(.int (1 : Int32))]))
          refine ownStepW (fun _ k => XS.ifNo X26.here hx rfl (hb hby at_166) rfl ((if0 _ _).trans (feq (by decide : ¬ ((1 : Int32) = (0 : Int32)))).1) k) ?_
          show OwnGoW _ _ _ _ _ _ _ (T26.setTop (mkF m 169 #[.val (.int p0), .val (.int p1), .val (.int p2), .val (.int p3), .val (.int p4), .val (.int q5), .val (.int q6), .val (.ref b11), .val (.ref b16), .val (.int (1 : Int32)), .val (.int (1 : Int32)), .val (.int (1 : Int32))] []))
          refine ownStepW (fun _ k => XS.iconst X26.here hx rfl (hb hby at_169) k) ?_
          show OwnGoW _ _ _ _ _ _ _ (T26.setTop (mkF m 170 #[.val (.int p0), .val (.int p1), .val (.int p2), .val (.int p3), .val (.int p4), .val (.int q5), .val (.int q6), .val (.ref b11), .val (.ref b16), .val (.int (1 : Int32)), .val (.int (1 : Int32)), .val (.int (1 : Int32))] [(.int (1 : Int32))]))
          refine ownStepW (fun _ k => XS.goto X26.here hx rfl (pc0 := 170) (pc' := 174) rfl (hb hby at_170) (by decide) (by decide) k) ?_
          show OwnGoW _ _ _ _ _ _ _ (T26.setTop (mkF m 174 #[.val (.int p0), .val (.int p1), .val (.int p2), .val (.int p3), .val (.int p4), .val (.int q5), .val (.int q6), .val (.ref b11), .val (.ref b16), .val (.int (1 : Int32)), .val (.int (1 : Int32)), .val (.int (1 : Int32))] [(.int (1 : Int32))]))
          have eq174 : T26.heap = T20.heap := e26
          exact ownRetNW X26 Sn19 (by rw [eq174]; exact Zn20) hx (t := .boolean) Bd.returns (by simp) (hb hby at_174) (BodyLoose.notSynchronized Bd) (by decide) (by decide) (by rw [eq174]; exact ⟨rfl, N26⟩)
        · skip
          obtain ⟨cq27, kq27, q27a, q27b, q27c⟩ := isOf hZ e25 cr16_E
          obtain ⟨_, _, ⟨T27, L27, k27, n27⟩, -, X27, ⟨Lc27, hQ27, l27, y27, z27⟩, st27⟩ := X25.virtualBack hx (y := (⟨"com/example/steward/steward/statement/Token", "follows", "(Lcom/example/steward/steward/statement/Token;)Z"⟩ : MethodName)) (z := (⟨"com/example/steward/steward/statement/Token", "follows", "(Lcom/example/steward/steward/statement/Token;)Z"⟩ : MethodName)) hown (mvT hZ (hw _ (List.mem_of_getElem? (i := 38) rfl))) (mvT hZ (hw _ (List.mem_of_getElem? (i := 39) rfl))) (notFace_of_selects (args := #[]) (mvT hZ (hw _ (List.mem_of_getElem? (i := 41) rfl)))) (mvT hZ (hw _ (List.mem_of_getElem? (i := 41) rfl))) (mvT hZ (hw _ (List.mem_of_getElem? (i := 40) rfl))) (by decide) (backOf (W := 0) (rmF l Z a0 hw [] b11 b11 q6 p1 (0 : Int32) T20.heap n0 cr16_s cr16_e (if_neg t2)) hZ (hw _ (List.mem_of_getElem? (i := 42) rfl)) (hw _ (List.mem_of_getElem? (i := 2) rfl)) (by decide) (by decide)) q27a q27c (g := (mkF m 130 #[.val (.int p0), .val (.int p1), .val (.int p2), .val (.int p3), .val (.int p4), .val (.int q5), .val (.int q6), .val (.ref b11), .val (.ref b16), .val (.int (1 : Int32)), .val (.int (1 : Int32)), .unset] [(.ref b11), (.ref b11)])) rfl (by rw [hml]; rfl) (Steps.refl _) (argsL := [(.ref b11)]) (rest := []) (lenOf own_pd1 rfl) rfl (by show 2 * 0 + _ ≤ _; exact Nat.le_of_eq rfl) (hb hby at_130) (fun _ _ => ⟨rfl, e25, (by decide : 0 + 1 + 2 + 2 + 1 + 2 + 2 + 0 ≤ _), (by decide : 0 + 7 + (4 + 4) + (0 + 4) + 7 + (4 + 4) + (0 + 4) + 0 ≤ _)⟩)
          dsimp only [Pt.U, Pt.locs, Pt.cells, Pt.slots] at X27 l27 y27 z27 st27 hQ27
          subst l27 y27 z27
          obtain ⟨rfl, N27q, e27⟩ := hQ27
          have N27 := Fr.app N25 N27q
          refine ownTransW st27 ?_
          show OwnGoW _ _ _ _ _ _ _ (T27.setTop (mkF m 133 #[.val (.int p0), .val (.int p1), .val (.int p2), .val (.int p3), .val (.int p4), .val (.int q5), .val (.int q6), .val (.ref b11), .val (.ref b16), .val (.int (1 : Int32)), .val (.int (1 : Int32)), .unset] [(.int (0 : Int32))]))
          refine ownStepW (fun _ k => XS.iload X27.here hx rfl (hb hby at_133) rfl k) ?_
          show OwnGoW _ _ _ _ _ _ _ (T27.setTop (mkF m 135 #[.val (.int p0), .val (.int p1), .val (.int p2), .val (.int p3), .val (.int p4), .val (.int q5), .val (.int q6), .val (.ref b11), .val (.ref b16), .val (.int (1 : Int32)), .val (.int (1 : Int32)), .unset] [(.int q6), (.int (0 : Int32))]))
          refine ownStepW (fun _ k => XS.iloadN X27.here hx rfl (hb hby at_135) rfl k) ?_
          show OwnGoW _ _ _ _ _ _ _ (T27.setTop (mkF m 136 #[.val (.int p0), .val (.int p1), .val (.int p2), .val (.int p3), .val (.int p4), .val (.int q5), .val (.int q6), .val (.ref b11), .val (.ref b16), .val (.int (1 : Int32)), .val (.int (1 : Int32)), .unset] [(.int p1), (.int q6), (.int (0 : Int32))]))
          refine ownStepW (fun _ k => XS.icmpYes X27.here hx rfl (pc0 := 136) (pc' := 143) rfl (hb hby at_136) rfl (feq t2).2 (by decide) (by decide) k) ?_
          show OwnGoW _ _ _ _ _ _ _ (T27.setTop (mkF m 143 #[.val (.int p0), .val (.int p1), .val (.int p2), .val (.int p3), .val (.int p4), .val (.int q5), .val (.int q6), .val (.ref b11), .val (.ref b16), .val (.int (1 : Int32)), .val (.int (1 : Int32)), .unset] [(.int (0 : Int32))]))
          refine ownStepW (fun _ k => XS.iconst X27.here hx rfl (hb hby at_143) k) ?_
          show OwnGoW _ _ _ _ _ _ _ (T27.setTop (mkF m 144 #[.val (.int p0), .val (.int p1), .val (.int p2), .val (.int p3), .val (.int p4), .val (.int q5), .val (.int q6), .val (.ref b11), .val (.ref b16), .val (.int (1 : Int32)), .val (.int (1 : Int32)), .unset] [(.int (0 : Int32)), (.int (0 : Int32))]))
          refine ownStepW (fun _ k => XS.icmpNo X27.here hx rfl (hb hby at_144) rfl (teq (by decide : (0 : Int32) = (0 : Int32))).2 k) ?_
          show OwnGoW _ _ _ _ _ _ _ (T27.setTop (mkF m 147 #[.val (.int p0), .val (.int p1), .val (.int p2), .val (.int p3), .val (.int p4), .val (.int q5), .val (.int q6), .val (.ref b11), .val (.ref b16), .val (.int (1 : Int32)), .val (.int (1 : Int32)), .unset] []))
          refine ownStepW (fun _ k => XS.iconst X27.here hx rfl (hb hby at_147) k) ?_
          show OwnGoW _ _ _ _ _ _ _ (T27.setTop (mkF m 148 #[.val (.int p0), .val (.int p1), .val (.int p2), .val (.int p3), .val (.int p4), .val (.int q5), .val (.int q6), .val (.ref b11), .val (.ref b16), .val (.int (1 : Int32)), .val (.int (1 : Int32)), .unset] [(.int (1 : Int32))]))
          refine ownStepW (fun _ k => XS.goto X27.here hx rfl (pc0 := 148) (pc' := 152) rfl (hb hby at_148) (by decide) (by decide) k) ?_
          show OwnGoW _ _ _ _ _ _ _ (T27.setTop (mkF m 152 #[.val (.int p0), .val (.int p1), .val (.int p2), .val (.int p3), .val (.int p4), .val (.int q5), .val (.int q6), .val (.ref b11), .val (.ref b16), .val (.int (1 : Int32)), .val (.int (1 : Int32)), .unset] [(.int (1 : Int32))]))
          refine ownStepW (fun _ k => XS.istore X27.here hx rfl (hb hby at_152) rfl (l' := #[.val (.int p0), .val (.int p1), .val (.int p2), .val (.int p3), .val (.int p4), .val (.int q5), .val (.int q6), .val (.ref b11), .val (.ref b16), .val (.int (1 : Int32)), .val (.int (1 : Int32)), .val (.int (1 : Int32))]) rfl k) ?_
          show OwnGoW _ _ _ _ _ _ _ (T27.setTop (mkF m 154 #[.val (.int p0), .val (.int p1), .val (.int p2), .val (.int p3), .val (.int p4), .val (.int q5), .val (.int q6), .val (.ref b11), .val (.ref b16), .val (.int (1 : Int32)), .val (.int (1 : Int32)), .val (.int (1 : Int32))] []))
          refine ownStepW (fun _ k => XS.iload X27.here hx rfl (hb hby at_154) rfl k) ?_
          show OwnGoW _ _ _ _ _ _ _ (T27.setTop (mkF m 156 #[.val (.int p0), .val (.int p1), .val (.int p2), .val (.int p3), .val (.int p4), .val (.int q5), .val (.int q6), .val (.ref b11), .val (.ref b16), .val (.int (1 : Int32)), .val (.int (1 : Int32)), .val (.int (1 : Int32))] [(.int (1 : Int32))]))
          refine ownStepW (fun _ k => XS.ifNo X27.here hx rfl (hb hby at_156) rfl ((if0 _ _).trans (feq (by decide : ¬ ((1 : Int32) = (0 : Int32)))).1) k) ?_
          show OwnGoW _ _ _ _ _ _ _ (T27.setTop (mkF m 159 #[.val (.int p0), .val (.int p1), .val (.int p2), .val (.int p3), .val (.int p4), .val (.int q5), .val (.int q6), .val (.ref b11), .val (.ref b16), .val (.int (1 : Int32)), .val (.int (1 : Int32)), .val (.int (1 : Int32))] []))
          refine ownStepW (fun _ k => XS.iload X27.here hx rfl (hb hby at_159) rfl k) ?_
          show OwnGoW _ _ _ _ _ _ _ (T27.setTop (mkF m 161 #[.val (.int p0), .val (.int p1), .val (.int p2), .val (.int p3), .val (.int p4), .val (.int q5), .val (.int q6), .val (.ref b11), .val (.ref b16), .val (.int (1 : Int32)), .val (.int (1 : Int32)), .val (.int (1 : Int32))] [(.int (1 : Int32))]))
          refine ownStepW (fun _ k => XS.ifNo X27.here hx rfl (hb hby at_161) rfl ((if0 _ _).trans (feq (by decide : ¬ ((1 : Int32) = (0 : Int32)))).1) k) ?_
          show OwnGoW _ _ _ _ _ _ _ (T27.setTop (mkF m 164 #[.val (.int p0), .val (.int p1), .val (.int p2), .val (.int p3), .val (.int p4), .val (.int q5), .val (.int q6), .val (.ref b11), .val (.ref b16), .val (.int (1 : Int32)), .val (.int (1 : Int32)), .val (.int (1 : Int32))] []))
          refine ownStepW (fun _ k => XS.iload X27.here hx rfl (hb hby at_164) rfl k) ?_
          show OwnGoW _ _ _ _ _ _ _ (T27.setTop (mkF m 166 #[.val (.int p0), .val (.int p1), .val (.int p2), .val (.int p3), .val (.int p4), .val (.int q5), .val (.int q6), .val (.ref b11), .val (.ref b16), .val (.int (1 : Int32)), .val (.int (1 : Int32)), .val (.int (1 : Int32))] [(.int (1 : Int32))]))
          refine ownStepW (fun _ k => XS.ifNo X27.here hx rfl (hb hby at_166) rfl ((if0 _ _).trans (feq (by decide : ¬ ((1 : Int32) = (0 : Int32)))).1) k) ?_
          show OwnGoW _ _ _ _ _ _ _ (T27.setTop (mkF m 169 #[.val (.int p0), .val (.int p1), .val (.int p2), .val (.int p3), .val (.int p4), .val (.int q5), .val (.int q6), .val (.ref b11), .val (.ref b16), .val (.int (1 : Int32)), .val (.int (1 : Int32)), .val (.int (1 : Int32))] []))
          refine ownStepW (fun _ k => XS.iconst X27.here hx rfl (hb hby at_169) k) ?_
          show OwnGoW _ _ _ _ _ _ _ (T27.setTop (mkF m 170 #[.val (.int p0), .val (.int p1), .val (.int p2), .val (.int p3), .val (.int p4), .val (.int q5), .val (.int q6), .val (.ref b11), .val (.ref b16), .val (.int (1 : Int32)), .val (.int (1 : Int32)), .val (.int (1 : Int32))] [(.int (1 : Int32))]))
          refine ownStepW (fun _ k => XS.goto X27.here hx rfl (pc0 := 170) (pc' := 174) rfl (hb hby at_170) (by decide) (by decide) k) ?_
          show OwnGoW _ _ _ _ _ _ _ (T27.setTop (mkF m 174 #[.val (.int p0), .val (.int p1), .val (.int p2), .val (.int p3), .val (.int p4), .val (.int q5), .val (.int q6), .val (.ref b11), .val (.ref b16), .val (.int (1 : Int32)), .val (.int (1 : Int32)), .val (.int (1 : Int32))] [(.int (1 : Int32))]))
          have eq174 : T27.heap = T20.heap := e27
          exact ownRetNW X27 Sn19 (by rw [eq174]; exact Zn20) hx (t := .boolean) Bd.returns (by simp) (hb hby at_174) (BodyLoose.notSynchronized Bd) (by decide) (by decide) (by rw [eq174]; exact ⟨rfl, N27⟩)
    · skip
      obtain ⟨cq28, kq28, q28a, q28b, q28c⟩ := isOf hZ (rfl : T20.heap = _) E20
      obtain ⟨_, _, ⟨T28, L28, k28, n28⟩, -, X28, ⟨Lc28, hQ28, l28, y28, z28⟩, st28⟩ := X20.virtualBack hx (y := (⟨"com/example/steward/steward/statement/Token", "follows", "(Lcom/example/steward/steward/statement/Token;)Z"⟩ : MethodName)) (z := (⟨"com/example/steward/steward/statement/Token", "follows", "(Lcom/example/steward/steward/statement/Token;)Z"⟩ : MethodName)) hown (mvT hZ (hw _ (List.mem_of_getElem? (i := 38) rfl))) (mvT hZ (hw _ (List.mem_of_getElem? (i := 39) rfl))) (notFace_of_selects (args := #[]) (mvT hZ (hw _ (List.mem_of_getElem? (i := 41) rfl)))) (mvT hZ (hw _ (List.mem_of_getElem? (i := 41) rfl))) (mvT hZ (hw _ (List.mem_of_getElem? (i := 40) rfl))) (by decide) (backOf (W := 0) (rmF l Z a0 hw [] b16 b11 q5 p1 (0 : Int32) T20.heap n0 Fs20 cr16_e (if_neg t0)) hZ (hw _ (List.mem_of_getElem? (i := 42) rfl)) (hw _ (List.mem_of_getElem? (i := 2) rfl)) (by decide) (by decide)) q28a q28c (g := (mkF m 74 #[.val (.int p0), .val (.int p1), .val (.int p2), .val (.int p3), .val (.int p4), .val (.int q5), .val (.int q6), .val (.ref b11), .val (.ref b16), .unset, .unset, .unset] [(.ref b11), (.ref b16)])) rfl (by rw [hml]; rfl) (Steps.refl _) (argsL := [(.ref b11)]) (rest := []) (lenOf own_pd1 rfl) rfl (by show 2 * 0 + _ ≤ _; exact Nat.le_of_eq rfl) (hb hby at_74) (fun _ _ => ⟨rfl, (rfl : T20.heap = _), (by decide : 0 + 1 + 2 + 2 + 1 + 2 + 2 + 0 ≤ _), (by decide : 0 + 7 + (4 + 4) + (0 + 4) + 7 + (4 + 4) + (0 + 4) + 0 ≤ _)⟩)
      dsimp only [Pt.U, Pt.locs, Pt.cells, Pt.slots] at X28 l28 y28 z28 st28 hQ28
      subst l28 y28 z28
      obtain ⟨rfl, N28q, e28⟩ := hQ28
      have N28 := Fr.app N20 N28q
      refine ownTransW st28 ?_
      show OwnGoW _ _ _ _ _ _ _ (T28.setTop (mkF m 77 #[.val (.int p0), .val (.int p1), .val (.int p2), .val (.int p3), .val (.int p4), .val (.int q5), .val (.int q6), .val (.ref b11), .val (.ref b16), .unset, .unset, .unset] [(.int (0 : Int32))]))
      refine ownStepW (fun _ k => XS.iload X28.here hx rfl (hb hby at_77) rfl k) ?_
      show OwnGoW _ _ _ _ _ _ _ (T28.setTop (mkF m 79 #[.val (.int p0), .val (.int p1), .val (.int p2), .val (.int p3), .val (.int p4), .val (.int q5), .val (.int q6), .val (.ref b11), .val (.ref b16), .unset, .unset, .unset] [(.int q5), (.int (0 : Int32))]))
      refine ownStepW (fun _ k => XS.iloadN X28.here hx rfl (hb hby at_79) rfl k) ?_
      show OwnGoW _ _ _ _ _ _ _ (T28.setTop (mkF m 80 #[.val (.int p0), .val (.int p1), .val (.int p2), .val (.int p3), .val (.int p4), .val (.int q5), .val (.int q6), .val (.ref b11), .val (.ref b16), .unset, .unset, .unset] [(.int p1), (.int q5), (.int (0 : Int32))]))
      refine ownStepW (fun _ k => XS.icmpYes X28.here hx rfl (pc0 := 80) (pc' := 87) rfl (hb hby at_80) rfl (feq t0).2 (by decide) (by decide) k) ?_
      show OwnGoW _ _ _ _ _ _ _ (T28.setTop (mkF m 87 #[.val (.int p0), .val (.int p1), .val (.int p2), .val (.int p3), .val (.int p4), .val (.int q5), .val (.int q6), .val (.ref b11), .val (.ref b16), .unset, .unset, .unset] [(.int (0 : Int32))]))
      refine ownStepW (fun _ k => XS.iconst X28.here hx rfl (hb hby at_87) k) ?_
      show OwnGoW _ _ _ _ _ _ _ (T28.setTop (mkF m 88 #[.val (.int p0), .val (.int p1), .val (.int p2), .val (.int p3), .val (.int p4), .val (.int q5), .val (.int q6), .val (.ref b11), .val (.ref b16), .unset, .unset, .unset] [(.int (0 : Int32)), (.int (0 : Int32))]))
      refine ownStepW (fun _ k => XS.icmpNo X28.here hx rfl (hb hby at_88) rfl (teq (by decide : (0 : Int32) = (0 : Int32))).2 k) ?_
      show OwnGoW _ _ _ _ _ _ _ (T28.setTop (mkF m 91 #[.val (.int p0), .val (.int p1), .val (.int p2), .val (.int p3), .val (.int p4), .val (.int q5), .val (.int q6), .val (.ref b11), .val (.ref b16), .unset, .unset, .unset] []))
      refine ownStepW (fun _ k => XS.iconst X28.here hx rfl (hb hby at_91) k) ?_
      show OwnGoW _ _ _ _ _ _ _ (T28.setTop (mkF m 92 #[.val (.int p0), .val (.int p1), .val (.int p2), .val (.int p3), .val (.int p4), .val (.int q5), .val (.int q6), .val (.ref b11), .val (.ref b16), .unset, .unset, .unset] [(.int (1 : Int32))]))
      refine ownStepW (fun _ k => XS.goto X28.here hx rfl (pc0 := 92) (pc' := 96) rfl (hb hby at_92) (by decide) (by decide) k) ?_
      show OwnGoW _ _ _ _ _ _ _ (T28.setTop (mkF m 96 #[.val (.int p0), .val (.int p1), .val (.int p2), .val (.int p3), .val (.int p4), .val (.int q5), .val (.int q6), .val (.ref b11), .val (.ref b16), .unset, .unset, .unset] [(.int (1 : Int32))]))
      refine ownStepW (fun _ k => XS.istore X28.here hx rfl (hb hby at_96) rfl (l' := #[.val (.int p0), .val (.int p1), .val (.int p2), .val (.int p3), .val (.int p4), .val (.int q5), .val (.int q6), .val (.ref b11), .val (.ref b16), .val (.int (1 : Int32)), .unset, .unset]) rfl k) ?_
      show OwnGoW _ _ _ _ _ _ _ (T28.setTop (mkF m 98 #[.val (.int p0), .val (.int p1), .val (.int p2), .val (.int p3), .val (.int p4), .val (.int q5), .val (.int q6), .val (.ref b11), .val (.ref b16), .val (.int (1 : Int32)), .unset, .unset] []))
      refine ownStepW (fun _ k => XS.aload X28.here hx rfl (hb hby at_98) rfl rfl k) ?_
      show OwnGoW _ _ _ _ _ _ _ (T28.setTop (mkF m 100 #[.val (.int p0), .val (.int p1), .val (.int p2), .val (.int p3), .val (.int p4), .val (.int q5), .val (.int q6), .val (.ref b11), .val (.ref b16), .val (.int (1 : Int32)), .unset, .unset] [(.ref b11)]))
      refine ownStepW (fun _ k => XS.aload X28.here hx rfl (hb hby at_100) rfl rfl k) ?_
      show OwnGoW _ _ _ _ _ _ _ (T28.setTop (mkF m 102 #[.val (.int p0), .val (.int p1), .val (.int p2), .val (.int p3), .val (.int p4), .val (.int q5), .val (.int q6), .val (.ref b11), .val (.ref b16), .val (.int (1 : Int32)), .unset, .unset] [(.ref b16), (.ref b11)]))
      by_cases t1 : q6 = p3
      · skip
        obtain ⟨cq29, kq29, q29a, q29b, q29c⟩ := isOf hZ e28 cr16_E
        obtain ⟨_, _, ⟨T29, L29, k29, n29⟩, -, X29, ⟨Lc29, hQ29, l29, y29, z29⟩, st29⟩ := X28.virtualBack hx (y := (⟨"com/example/steward/steward/statement/Token", "follows", "(Lcom/example/steward/steward/statement/Token;)Z"⟩ : MethodName)) (z := (⟨"com/example/steward/steward/statement/Token", "follows", "(Lcom/example/steward/steward/statement/Token;)Z"⟩ : MethodName)) hown (mvT hZ (hw _ (List.mem_of_getElem? (i := 38) rfl))) (mvT hZ (hw _ (List.mem_of_getElem? (i := 39) rfl))) (notFace_of_selects (args := #[]) (mvT hZ (hw _ (List.mem_of_getElem? (i := 41) rfl)))) (mvT hZ (hw _ (List.mem_of_getElem? (i := 41) rfl))) (mvT hZ (hw _ (List.mem_of_getElem? (i := 40) rfl))) (by decide) (backOf (W := 0) (rmF l Z a0 hw [] b11 b16 q6 p3 (1 : Int32) T20.heap n0 cr16_s Fe20 (if_pos t1)) hZ (hw _ (List.mem_of_getElem? (i := 42) rfl)) (hw _ (List.mem_of_getElem? (i := 2) rfl)) (by decide) (by decide)) q29a q29c (g := (mkF m 102 #[.val (.int p0), .val (.int p1), .val (.int p2), .val (.int p3), .val (.int p4), .val (.int q5), .val (.int q6), .val (.ref b11), .val (.ref b16), .val (.int (1 : Int32)), .unset, .unset] [(.ref b16), (.ref b11)])) rfl (by rw [hml]; rfl) (Steps.refl _) (argsL := [(.ref b16)]) (rest := []) (lenOf own_pd1 rfl) rfl (by show 2 * 0 + _ ≤ _; exact Nat.le_of_eq rfl) (hb hby at_102) (fun _ _ => ⟨rfl, e28, (by decide : 0 + 1 + 2 + 2 + 1 + 2 + 2 + 0 ≤ _), (by decide : 0 + 7 + (4 + 4) + (0 + 4) + 7 + (4 + 4) + (0 + 4) + 0 ≤ _)⟩)
        dsimp only [Pt.U, Pt.locs, Pt.cells, Pt.slots] at X29 l29 y29 z29 st29 hQ29
        subst l29 y29 z29
        obtain ⟨rfl, N29q, e29⟩ := hQ29
        have N29 := Fr.app N28 N29q
        refine ownTransW st29 ?_
        show OwnGoW _ _ _ _ _ _ _ (T29.setTop (mkF m 105 #[.val (.int p0), .val (.int p1), .val (.int p2), .val (.int p3), .val (.int p4), .val (.int q5), .val (.int q6), .val (.ref b11), .val (.ref b16), .val (.int (1 : Int32)), .unset, .unset] [(.int (1 : Int32))]))
        refine ownStepW (fun _ k => XS.iload X29.here hx rfl (hb hby at_105) rfl k) ?_
        show OwnGoW _ _ _ _ _ _ _ (T29.setTop (mkF m 107 #[.val (.int p0), .val (.int p1), .val (.int p2), .val (.int p3), .val (.int p4), .val (.int q5), .val (.int q6), .val (.ref b11), .val (.ref b16), .val (.int (1 : Int32)), .unset, .unset] [(.int q6), (.int (1 : Int32))]))
        refine ownStepW (fun _ k => XS.iloadN X29.here hx rfl (hb hby at_107) rfl k) ?_
        show OwnGoW _ _ _ _ _ _ _ (T29.setTop (mkF m 108 #[.val (.int p0), .val (.int p1), .val (.int p2), .val (.int p3), .val (.int p4), .val (.int q5), .val (.int q6), .val (.ref b11), .val (.ref b16), .val (.int (1 : Int32)), .unset, .unset] [(.int p3), (.int q6), (.int (1 : Int32))]))
        refine ownStepW (fun _ k => XS.icmpNo X29.here hx rfl (hb hby at_108) rfl (teq t1).2 k) ?_
        show OwnGoW _ _ _ _ _ _ _ (T29.setTop (mkF m 111 #[.val (.int p0), .val (.int p1), .val (.int p2), .val (.int p3), .val (.int p4), .val (.int q5), .val (.int q6), .val (.ref b11), .val (.ref b16), .val (.int (1 : Int32)), .unset, .unset] [(.int (1 : Int32))]))
        refine ownStepW (fun _ k => XS.iconst X29.here hx rfl (hb hby at_111) k) ?_
        show OwnGoW _ _ _ _ _ _ _ (T29.setTop (mkF m 112 #[.val (.int p0), .val (.int p1), .val (.int p2), .val (.int p3), .val (.int p4), .val (.int q5), .val (.int q6), .val (.ref b11), .val (.ref b16), .val (.int (1 : Int32)), .unset, .unset] [(.int (1 : Int32)), (.int (1 : Int32))]))
        refine ownStepW (fun _ k => XS.goto X29.here hx rfl (pc0 := 112) (pc' := 116) rfl (hb hby at_112) (by decide) (by decide) k) ?_
        show OwnGoW _ _ _ _ _ _ _ (T29.setTop (mkF m 116 #[.val (.int p0), .val (.int p1), .val (.int p2), .val (.int p3), .val (.int p4), .val (.int q5), .val (.int q6), .val (.ref b11), .val (.ref b16), .val (.int (1 : Int32)), .unset, .unset] [(.int (1 : Int32)), (.int (1 : Int32))]))
        refine ownStepW (fun _ k => XS.icmpNo X29.here hx rfl (hb hby at_116) rfl (teq (by decide : (1 : Int32) = (1 : Int32))).2 k) ?_
        show OwnGoW _ _ _ _ _ _ _ (T29.setTop (mkF m 119 #[.val (.int p0), .val (.int p1), .val (.int p2), .val (.int p3), .val (.int p4), .val (.int q5), .val (.int q6), .val (.ref b11), .val (.ref b16), .val (.int (1 : Int32)), .unset, .unset] []))
        refine ownStepW (fun _ k => XS.iconst X29.here hx rfl (hb hby at_119) k) ?_
        show OwnGoW _ _ _ _ _ _ _ (T29.setTop (mkF m 120 #[.val (.int p0), .val (.int p1), .val (.int p2), .val (.int p3), .val (.int p4), .val (.int q5), .val (.int q6), .val (.ref b11), .val (.ref b16), .val (.int (1 : Int32)), .unset, .unset] [(.int (1 : Int32))]))
        refine ownStepW (fun _ k => XS.goto X29.here hx rfl (pc0 := 120) (pc' := 124) rfl (hb hby at_120) (by decide) (by decide) k) ?_
        show OwnGoW _ _ _ _ _ _ _ (T29.setTop (mkF m 124 #[.val (.int p0), .val (.int p1), .val (.int p2), .val (.int p3), .val (.int p4), .val (.int q5), .val (.int q6), .val (.ref b11), .val (.ref b16), .val (.int (1 : Int32)), .unset, .unset] [(.int (1 : Int32))]))
        refine ownStepW (fun _ k => XS.istore X29.here hx rfl (hb hby at_124) rfl (l' := #[.val (.int p0), .val (.int p1), .val (.int p2), .val (.int p3), .val (.int p4), .val (.int q5), .val (.int q6), .val (.ref b11), .val (.ref b16), .val (.int (1 : Int32)), .val (.int (1 : Int32)), .unset]) rfl k) ?_
        show OwnGoW _ _ _ _ _ _ _ (T29.setTop (mkF m 126 #[.val (.int p0), .val (.int p1), .val (.int p2), .val (.int p3), .val (.int p4), .val (.int q5), .val (.int q6), .val (.ref b11), .val (.ref b16), .val (.int (1 : Int32)), .val (.int (1 : Int32)), .unset] []))
        refine ownStepW (fun _ k => XS.aload X29.here hx rfl (hb hby at_126) rfl rfl k) ?_
        show OwnGoW _ _ _ _ _ _ _ (T29.setTop (mkF m 128 #[.val (.int p0), .val (.int p1), .val (.int p2), .val (.int p3), .val (.int p4), .val (.int q5), .val (.int q6), .val (.ref b11), .val (.ref b16), .val (.int (1 : Int32)), .val (.int (1 : Int32)), .unset] [(.ref b11)]))
        refine ownStepW (fun _ k => XS.aload X29.here hx rfl (hb hby at_128) rfl rfl k) ?_
        show OwnGoW _ _ _ _ _ _ _ (T29.setTop (mkF m 130 #[.val (.int p0), .val (.int p1), .val (.int p2), .val (.int p3), .val (.int p4), .val (.int q5), .val (.int q6), .val (.ref b11), .val (.ref b16), .val (.int (1 : Int32)), .val (.int (1 : Int32)), .unset] [(.ref b11), (.ref b11)]))
        by_cases t2 : q6 = p1
        · skip
          obtain ⟨cq30, kq30, q30a, q30b, q30c⟩ := isOf hZ e29 cr16_E
          obtain ⟨_, _, ⟨T30, L30, k30, n30⟩, -, X30, ⟨Lc30, hQ30, l30, y30, z30⟩, st30⟩ := X29.virtualBack hx (y := (⟨"com/example/steward/steward/statement/Token", "follows", "(Lcom/example/steward/steward/statement/Token;)Z"⟩ : MethodName)) (z := (⟨"com/example/steward/steward/statement/Token", "follows", "(Lcom/example/steward/steward/statement/Token;)Z"⟩ : MethodName)) hown (mvT hZ (hw _ (List.mem_of_getElem? (i := 38) rfl))) (mvT hZ (hw _ (List.mem_of_getElem? (i := 39) rfl))) (notFace_of_selects (args := #[]) (mvT hZ (hw _ (List.mem_of_getElem? (i := 41) rfl)))) (mvT hZ (hw _ (List.mem_of_getElem? (i := 41) rfl))) (mvT hZ (hw _ (List.mem_of_getElem? (i := 40) rfl))) (by decide) (backOf (W := 0) (rmF l Z a0 hw [] b11 b11 q6 p1 (1 : Int32) T20.heap n0 cr16_s cr16_e (if_pos t2)) hZ (hw _ (List.mem_of_getElem? (i := 42) rfl)) (hw _ (List.mem_of_getElem? (i := 2) rfl)) (by decide) (by decide)) q30a q30c (g := (mkF m 130 #[.val (.int p0), .val (.int p1), .val (.int p2), .val (.int p3), .val (.int p4), .val (.int q5), .val (.int q6), .val (.ref b11), .val (.ref b16), .val (.int (1 : Int32)), .val (.int (1 : Int32)), .unset] [(.ref b11), (.ref b11)])) rfl (by rw [hml]; rfl) (Steps.refl _) (argsL := [(.ref b11)]) (rest := []) (lenOf own_pd1 rfl) rfl (by show 2 * 0 + _ ≤ _; exact Nat.le_of_eq rfl) (hb hby at_130) (fun _ _ => ⟨rfl, e29, (by decide : 0 + 1 + 2 + 2 + 1 + 2 + 2 + 0 ≤ _), (by decide : 0 + 7 + (4 + 4) + (0 + 4) + 7 + (4 + 4) + (0 + 4) + 0 ≤ _)⟩)
          dsimp only [Pt.U, Pt.locs, Pt.cells, Pt.slots] at X30 l30 y30 z30 st30 hQ30
          subst l30 y30 z30
          obtain ⟨rfl, N30q, e30⟩ := hQ30
          have N30 := Fr.app N29 N30q
          refine ownTransW st30 ?_
          show OwnGoW _ _ _ _ _ _ _ (T30.setTop (mkF m 133 #[.val (.int p0), .val (.int p1), .val (.int p2), .val (.int p3), .val (.int p4), .val (.int q5), .val (.int q6), .val (.ref b11), .val (.ref b16), .val (.int (1 : Int32)), .val (.int (1 : Int32)), .unset] [(.int (1 : Int32))]))
          refine ownStepW (fun _ k => XS.iload X30.here hx rfl (hb hby at_133) rfl k) ?_
          show OwnGoW _ _ _ _ _ _ _ (T30.setTop (mkF m 135 #[.val (.int p0), .val (.int p1), .val (.int p2), .val (.int p3), .val (.int p4), .val (.int q5), .val (.int q6), .val (.ref b11), .val (.ref b16), .val (.int (1 : Int32)), .val (.int (1 : Int32)), .unset] [(.int q6), (.int (1 : Int32))]))
          refine ownStepW (fun _ k => XS.iloadN X30.here hx rfl (hb hby at_135) rfl k) ?_
          show OwnGoW _ _ _ _ _ _ _ (T30.setTop (mkF m 136 #[.val (.int p0), .val (.int p1), .val (.int p2), .val (.int p3), .val (.int p4), .val (.int q5), .val (.int q6), .val (.ref b11), .val (.ref b16), .val (.int (1 : Int32)), .val (.int (1 : Int32)), .unset] [(.int p1), (.int q6), (.int (1 : Int32))]))
          refine ownStepW (fun _ k => XS.icmpNo X30.here hx rfl (hb hby at_136) rfl (teq t2).2 k) ?_
          show OwnGoW _ _ _ _ _ _ _ (T30.setTop (mkF m 139 #[.val (.int p0), .val (.int p1), .val (.int p2), .val (.int p3), .val (.int p4), .val (.int q5), .val (.int q6), .val (.ref b11), .val (.ref b16), .val (.int (1 : Int32)), .val (.int (1 : Int32)), .unset] [(.int (1 : Int32))]))
          refine ownStepW (fun _ k => XS.iconst X30.here hx rfl (hb hby at_139) k) ?_
          show OwnGoW _ _ _ _ _ _ _ (T30.setTop (mkF m 140 #[.val (.int p0), .val (.int p1), .val (.int p2), .val (.int p3), .val (.int p4), .val (.int q5), .val (.int q6), .val (.ref b11), .val (.ref b16), .val (.int (1 : Int32)), .val (.int (1 : Int32)), .unset] [(.int (1 : Int32)), (.int (1 : Int32))]))
          refine ownStepW (fun _ k => XS.goto X30.here hx rfl (pc0 := 140) (pc' := 144) rfl (hb hby at_140) (by decide) (by decide) k) ?_
          show OwnGoW _ _ _ _ _ _ _ (T30.setTop (mkF m 144 #[.val (.int p0), .val (.int p1), .val (.int p2), .val (.int p3), .val (.int p4), .val (.int q5), .val (.int q6), .val (.ref b11), .val (.ref b16), .val (.int (1 : Int32)), .val (.int (1 : Int32)), .unset] [(.int (1 : Int32)), (.int (1 : Int32))]))
          refine ownStepW (fun _ k => XS.icmpNo X30.here hx rfl (hb hby at_144) rfl (teq (by decide : (1 : Int32) = (1 : Int32))).2 k) ?_
          show OwnGoW _ _ _ _ _ _ _ (T30.setTop (mkF m 147 #[.val (.int p0), .val (.int p1), .val (.int p2), .val (.int p3), .val (.int p4), .val (.int q5), .val (.int q6), .val (.ref b11), .val (.ref b16), .val (.int (1 : Int32)), .val (.int (1 : Int32)), .unset] []))
          refine ownStepW (fun _ k => XS.iconst X30.here hx rfl (hb hby at_147) k) ?_
          show OwnGoW _ _ _ _ _ _ _ (T30.setTop (mkF m 148 #[.val (.int p0), .val (.int p1), .val (.int p2), .val (.int p3), .val (.int p4), .val (.int q5), .val (.int q6), .val (.ref b11), .val (.ref b16), .val (.int (1 : Int32)), .val (.int (1 : Int32)), .unset] [(.int (1 : Int32))]))
          refine ownStepW (fun _ k => XS.goto X30.here hx rfl (pc0 := 148) (pc' := 152) rfl (hb hby at_148) (by decide) (by decide) k) ?_
          show OwnGoW _ _ _ _ _ _ _ (T30.setTop (mkF m 152 #[.val (.int p0), .val (.int p1), .val (.int p2), .val (.int p3), .val (.int p4), .val (.int q5), .val (.int q6), .val (.ref b11), .val (.ref b16), .val (.int (1 : Int32)), .val (.int (1 : Int32)), .unset] [(.int (1 : Int32))]))
          refine ownStepW (fun _ k => XS.istore X30.here hx rfl (hb hby at_152) rfl (l' := #[.val (.int p0), .val (.int p1), .val (.int p2), .val (.int p3), .val (.int p4), .val (.int q5), .val (.int q6), .val (.ref b11), .val (.ref b16), .val (.int (1 : Int32)), .val (.int (1 : Int32)), .val (.int (1 : Int32))]) rfl k) ?_
          show OwnGoW _ _ _ _ _ _ _ (T30.setTop (mkF m 154 #[.val (.int p0), .val (.int p1), .val (.int p2), .val (.int p3), .val (.int p4), .val (.int q5), .val (.int q6), .val (.ref b11), .val (.ref b16), .val (.int (1 : Int32)), .val (.int (1 : Int32)), .val (.int (1 : Int32))] []))
          refine ownStepW (fun _ k => XS.iload X30.here hx rfl (hb hby at_154) rfl k) ?_
          show OwnGoW _ _ _ _ _ _ _ (T30.setTop (mkF m 156 #[.val (.int p0), .val (.int p1), .val (.int p2), .val (.int p3), .val (.int p4), .val (.int q5), .val (.int q6), .val (.ref b11), .val (.ref b16), .val (.int (1 : Int32)), .val (.int (1 : Int32)), .val (.int (1 : Int32))] [(.int (1 : Int32))]))
          refine ownStepW (fun _ k => XS.ifNo X30.here hx rfl (hb hby at_156) rfl ((if0 _ _).trans (feq (by decide : ¬ ((1 : Int32) = (0 : Int32)))).1) k) ?_
          show OwnGoW _ _ _ _ _ _ _ (T30.setTop (mkF m 159 #[.val (.int p0), .val (.int p1), .val (.int p2), .val (.int p3), .val (.int p4), .val (.int q5), .val (.int q6), .val (.ref b11), .val (.ref b16), .val (.int (1 : Int32)), .val (.int (1 : Int32)), .val (.int (1 : Int32))] []))
          refine ownStepW (fun _ k => XS.iload X30.here hx rfl (hb hby at_159) rfl k) ?_
          show OwnGoW _ _ _ _ _ _ _ (T30.setTop (mkF m 161 #[.val (.int p0), .val (.int p1), .val (.int p2), .val (.int p3), .val (.int p4), .val (.int q5), .val (.int q6), .val (.ref b11), .val (.ref b16), .val (.int (1 : Int32)), .val (.int (1 : Int32)), .val (.int (1 : Int32))] [(.int (1 : Int32))]))
          refine ownStepW (fun _ k => XS.ifNo X30.here hx rfl (hb hby at_161) rfl ((if0 _ _).trans (feq (by decide : ¬ ((1 : Int32) = (0 : Int32)))).1) k) ?_
          show OwnGoW _ _ _ _ _ _ _ (T30.setTop (mkF m 164 #[.val (.int p0), .val (.int p1), .val (.int p2), .val (.int p3), .val (.int p4), .val (.int q5), .val (.int q6), .val (.ref b11), .val (.ref b16), .val (.int (1 : Int32)), .val (.int (1 : Int32)), .val (.int (1 : Int32))] []))
          refine ownStepW (fun _ k => XS.iload X30.here hx rfl (hb hby at_164) rfl k) ?_
          show OwnGoW _ _ _ _ _ _ _ (T30.setTop (mkF m 166 #[.val (.int p0), .val (.int p1), .val (.int p2), .val (.int p3), .val (.int p4), .val (.int q5), .val (.int q6), .val (.ref b11), .val (.ref b16), .val (.int (1 : Int32)), .val (.int (1 : Int32)), .val (.int (1 : Int32))] [(.int (1 : Int32))]))
          refine ownStepW (fun _ k => XS.ifNo X30.here hx rfl (hb hby at_166) rfl ((if0 _ _).trans (feq (by decide : ¬ ((1 : Int32) = (0 : Int32)))).1) k) ?_
          show OwnGoW _ _ _ _ _ _ _ (T30.setTop (mkF m 169 #[.val (.int p0), .val (.int p1), .val (.int p2), .val (.int p3), .val (.int p4), .val (.int q5), .val (.int q6), .val (.ref b11), .val (.ref b16), .val (.int (1 : Int32)), .val (.int (1 : Int32)), .val (.int (1 : Int32))] []))
          refine ownStepW (fun _ k => XS.iconst X30.here hx rfl (hb hby at_169) k) ?_
          show OwnGoW _ _ _ _ _ _ _ (T30.setTop (mkF m 170 #[.val (.int p0), .val (.int p1), .val (.int p2), .val (.int p3), .val (.int p4), .val (.int q5), .val (.int q6), .val (.ref b11), .val (.ref b16), .val (.int (1 : Int32)), .val (.int (1 : Int32)), .val (.int (1 : Int32))] [(.int (1 : Int32))]))
          refine ownStepW (fun _ k => XS.goto X30.here hx rfl (pc0 := 170) (pc' := 174) rfl (hb hby at_170) (by decide) (by decide) k) ?_
          show OwnGoW _ _ _ _ _ _ _ (T30.setTop (mkF m 174 #[.val (.int p0), .val (.int p1), .val (.int p2), .val (.int p3), .val (.int p4), .val (.int q5), .val (.int q6), .val (.ref b11), .val (.ref b16), .val (.int (1 : Int32)), .val (.int (1 : Int32)), .val (.int (1 : Int32))] [(.int (1 : Int32))]))
          have eq174 : T30.heap = T20.heap := e30
          exact ownRetNW X30 Sn19 (by rw [eq174]; exact Zn20) hx (t := .boolean) Bd.returns (by simp) (hb hby at_174) (BodyLoose.notSynchronized Bd) (by decide) (by decide) (by rw [eq174]; exact ⟨rfl, N30⟩)
        · skip
          obtain ⟨cq31, kq31, q31a, q31b, q31c⟩ := isOf hZ e29 cr16_E
          obtain ⟨_, _, ⟨T31, L31, k31, n31⟩, -, X31, ⟨Lc31, hQ31, l31, y31, z31⟩, st31⟩ := X29.virtualBack hx (y := (⟨"com/example/steward/steward/statement/Token", "follows", "(Lcom/example/steward/steward/statement/Token;)Z"⟩ : MethodName)) (z := (⟨"com/example/steward/steward/statement/Token", "follows", "(Lcom/example/steward/steward/statement/Token;)Z"⟩ : MethodName)) hown (mvT hZ (hw _ (List.mem_of_getElem? (i := 38) rfl))) (mvT hZ (hw _ (List.mem_of_getElem? (i := 39) rfl))) (notFace_of_selects (args := #[]) (mvT hZ (hw _ (List.mem_of_getElem? (i := 41) rfl)))) (mvT hZ (hw _ (List.mem_of_getElem? (i := 41) rfl))) (mvT hZ (hw _ (List.mem_of_getElem? (i := 40) rfl))) (by decide) (backOf (W := 0) (rmF l Z a0 hw [] b11 b11 q6 p1 (0 : Int32) T20.heap n0 cr16_s cr16_e (if_neg t2)) hZ (hw _ (List.mem_of_getElem? (i := 42) rfl)) (hw _ (List.mem_of_getElem? (i := 2) rfl)) (by decide) (by decide)) q31a q31c (g := (mkF m 130 #[.val (.int p0), .val (.int p1), .val (.int p2), .val (.int p3), .val (.int p4), .val (.int q5), .val (.int q6), .val (.ref b11), .val (.ref b16), .val (.int (1 : Int32)), .val (.int (1 : Int32)), .unset] [(.ref b11), (.ref b11)])) rfl (by rw [hml]; rfl) (Steps.refl _) (argsL := [(.ref b11)]) (rest := []) (lenOf own_pd1 rfl) rfl (by show 2 * 0 + _ ≤ _; exact Nat.le_of_eq rfl) (hb hby at_130) (fun _ _ => ⟨rfl, e29, (by decide : 0 + 1 + 2 + 2 + 1 + 2 + 2 + 0 ≤ _), (by decide : 0 + 7 + (4 + 4) + (0 + 4) + 7 + (4 + 4) + (0 + 4) + 0 ≤ _)⟩)
          dsimp only [Pt.U, Pt.locs, Pt.cells, Pt.slots] at X31 l31 y31 z31 st31 hQ31
          subst l31 y31 z31
          obtain ⟨rfl, N31q, e31⟩ := hQ31
          have N31 := Fr.app N29 N31q
          refine ownTransW st31 ?_
          show OwnGoW _ _ _ _ _ _ _ (T31.setTop (mkF m 133 #[.val (.int p0), .val (.int p1), .val (.int p2), .val (.int p3), .val (.int p4), .val (.int q5), .val (.int q6), .val (.ref b11), .val (.ref b16), .val (.int (1 : Int32)), .val (.int (1 : Int32)), .unset] [(.int (0 : Int32))]))
          refine ownStepW (fun _ k => XS.iload X31.here hx rfl (hb hby at_133) rfl k) ?_
          show OwnGoW _ _ _ _ _ _ _ (T31.setTop (mkF m 135 #[.val (.int p0), .val (.int p1), .val (.int p2), .val (.int p3), .val (.int p4), .val (.int q5), .val (.int q6), .val (.ref b11), .val (.ref b16), .val (.int (1 : Int32)), .val (.int (1 : Int32)), .unset] [(.int q6), (.int (0 : Int32))]))
          refine ownStepW (fun _ k => XS.iloadN X31.here hx rfl (hb hby at_135) rfl k) ?_
          show OwnGoW _ _ _ _ _ _ _ (T31.setTop (mkF m 136 #[.val (.int p0), .val (.int p1), .val (.int p2), .val (.int p3), .val (.int p4), .val (.int q5), .val (.int q6), .val (.ref b11), .val (.ref b16), .val (.int (1 : Int32)), .val (.int (1 : Int32)), .unset] [(.int p1), (.int q6), (.int (0 : Int32))]))
          refine ownStepW (fun _ k => XS.icmpYes X31.here hx rfl (pc0 := 136) (pc' := 143) rfl (hb hby at_136) rfl (feq t2).2 (by decide) (by decide) k) ?_
          show OwnGoW _ _ _ _ _ _ _ (T31.setTop (mkF m 143 #[.val (.int p0), .val (.int p1), .val (.int p2), .val (.int p3), .val (.int p4), .val (.int q5), .val (.int q6), .val (.ref b11), .val (.ref b16), .val (.int (1 : Int32)), .val (.int (1 : Int32)), .unset] [(.int (0 : Int32))]))
          refine ownStepW (fun _ k => XS.iconst X31.here hx rfl (hb hby at_143) k) ?_
          show OwnGoW _ _ _ _ _ _ _ (T31.setTop (mkF m 144 #[.val (.int p0), .val (.int p1), .val (.int p2), .val (.int p3), .val (.int p4), .val (.int q5), .val (.int q6), .val (.ref b11), .val (.ref b16), .val (.int (1 : Int32)), .val (.int (1 : Int32)), .unset] [(.int (0 : Int32)), (.int (0 : Int32))]))
          refine ownStepW (fun _ k => XS.icmpNo X31.here hx rfl (hb hby at_144) rfl (teq (by decide : (0 : Int32) = (0 : Int32))).2 k) ?_
          show OwnGoW _ _ _ _ _ _ _ (T31.setTop (mkF m 147 #[.val (.int p0), .val (.int p1), .val (.int p2), .val (.int p3), .val (.int p4), .val (.int q5), .val (.int q6), .val (.ref b11), .val (.ref b16), .val (.int (1 : Int32)), .val (.int (1 : Int32)), .unset] []))
          refine ownStepW (fun _ k => XS.iconst X31.here hx rfl (hb hby at_147) k) ?_
          show OwnGoW _ _ _ _ _ _ _ (T31.setTop (mkF m 148 #[.val (.int p0), .val (.int p1), .val (.int p2), .val (.int p3), .val (.int p4), .val (.int q5), .val (.int q6), .val (.ref b11), .val (.ref b16), .val (.int (1 : Int32)), .val (.int (1 : Int32)), .unset] [(.int (1 : Int32))]))
          refine ownStepW (fun _ k => XS.goto X31.here hx rfl (pc0 := 148) (pc' := 152) rfl (hb hby at_148) (by decide) (by decide) k) ?_
          show OwnGoW _ _ _ _ _ _ _ (T31.setTop (mkF m 152 #[.val (.int p0), .val (.int p1), .val (.int p2), .val (.int p3), .val (.int p4), .val (.int q5), .val (.int q6), .val (.ref b11), .val (.ref b16), .val (.int (1 : Int32)), .val (.int (1 : Int32)), .unset] [(.int (1 : Int32))]))
          refine ownStepW (fun _ k => XS.istore X31.here hx rfl (hb hby at_152) rfl (l' := #[.val (.int p0), .val (.int p1), .val (.int p2), .val (.int p3), .val (.int p4), .val (.int q5), .val (.int q6), .val (.ref b11), .val (.ref b16), .val (.int (1 : Int32)), .val (.int (1 : Int32)), .val (.int (1 : Int32))]) rfl k) ?_
          show OwnGoW _ _ _ _ _ _ _ (T31.setTop (mkF m 154 #[.val (.int p0), .val (.int p1), .val (.int p2), .val (.int p3), .val (.int p4), .val (.int q5), .val (.int q6), .val (.ref b11), .val (.ref b16), .val (.int (1 : Int32)), .val (.int (1 : Int32)), .val (.int (1 : Int32))] []))
          refine ownStepW (fun _ k => XS.iload X31.here hx rfl (hb hby at_154) rfl k) ?_
          show OwnGoW _ _ _ _ _ _ _ (T31.setTop (mkF m 156 #[.val (.int p0), .val (.int p1), .val (.int p2), .val (.int p3), .val (.int p4), .val (.int q5), .val (.int q6), .val (.ref b11), .val (.ref b16), .val (.int (1 : Int32)), .val (.int (1 : Int32)), .val (.int (1 : Int32))] [(.int (1 : Int32))]))
          refine ownStepW (fun _ k => XS.ifNo X31.here hx rfl (hb hby at_156) rfl ((if0 _ _).trans (feq (by decide : ¬ ((1 : Int32) = (0 : Int32)))).1) k) ?_
          show OwnGoW _ _ _ _ _ _ _ (T31.setTop (mkF m 159 #[.val (.int p0), .val (.int p1), .val (.int p2), .val (.int p3), .val (.int p4), .val (.int q5), .val (.int q6), .val (.ref b11), .val (.ref b16), .val (.int (1 : Int32)), .val (.int (1 : Int32)), .val (.int (1 : Int32))] []))
          refine ownStepW (fun _ k => XS.iload X31.here hx rfl (hb hby at_159) rfl k) ?_
          show OwnGoW _ _ _ _ _ _ _ (T31.setTop (mkF m 161 #[.val (.int p0), .val (.int p1), .val (.int p2), .val (.int p3), .val (.int p4), .val (.int q5), .val (.int q6), .val (.ref b11), .val (.ref b16), .val (.int (1 : Int32)), .val (.int (1 : Int32)), .val (.int (1 : Int32))] [(.int (1 : Int32))]))
          refine ownStepW (fun _ k => XS.ifNo X31.here hx rfl (hb hby at_161) rfl ((if0 _ _).trans (feq (by decide : ¬ ((1 : Int32) = (0 : Int32)))).1) k) ?_
          show OwnGoW _ _ _ _ _ _ _ (T31.setTop (mkF m 164 #[.val (.int p0), .val (.int p1), .val (.int p2), .val (.int p3), .val (.int p4), .val (.int q5), .val (.int q6), .val (.ref b11), .val (.ref b16), .val (.int (1 : Int32)), .val (.int (1 : Int32)), .val (.int (1 : Int32))] []))
          refine ownStepW (fun _ k => XS.iload X31.here hx rfl (hb hby at_164) rfl k) ?_
          show OwnGoW _ _ _ _ _ _ _ (T31.setTop (mkF m 166 #[.val (.int p0), .val (.int p1), .val (.int p2), .val (.int p3), .val (.int p4), .val (.int q5), .val (.int q6), .val (.ref b11), .val (.ref b16), .val (.int (1 : Int32)), .val (.int (1 : Int32)), .val (.int (1 : Int32))] [(.int (1 : Int32))]))
          refine ownStepW (fun _ k => XS.ifNo X31.here hx rfl (hb hby at_166) rfl ((if0 _ _).trans (feq (by decide : ¬ ((1 : Int32) = (0 : Int32)))).1) k) ?_
          show OwnGoW _ _ _ _ _ _ _ (T31.setTop (mkF m 169 #[.val (.int p0), .val (.int p1), .val (.int p2), .val (.int p3), .val (.int p4), .val (.int q5), .val (.int q6), .val (.ref b11), .val (.ref b16), .val (.int (1 : Int32)), .val (.int (1 : Int32)), .val (.int (1 : Int32))] []))
          refine ownStepW (fun _ k => XS.iconst X31.here hx rfl (hb hby at_169) k) ?_
          show OwnGoW _ _ _ _ _ _ _ (T31.setTop (mkF m 170 #[.val (.int p0), .val (.int p1), .val (.int p2), .val (.int p3), .val (.int p4), .val (.int q5), .val (.int q6), .val (.ref b11), .val (.ref b16), .val (.int (1 : Int32)), .val (.int (1 : Int32)), .val (.int (1 : Int32))] [(.int (1 : Int32))]))
          refine ownStepW (fun _ k => XS.goto X31.here hx rfl (pc0 := 170) (pc' := 174) rfl (hb hby at_170) (by decide) (by decide) k) ?_
          show OwnGoW _ _ _ _ _ _ _ (T31.setTop (mkF m 174 #[.val (.int p0), .val (.int p1), .val (.int p2), .val (.int p3), .val (.int p4), .val (.int q5), .val (.int q6), .val (.ref b11), .val (.ref b16), .val (.int (1 : Int32)), .val (.int (1 : Int32)), .val (.int (1 : Int32))] [(.int (1 : Int32))]))
          have eq174 : T31.heap = T20.heap := e31
          exact ownRetNW X31 Sn19 (by rw [eq174]; exact Zn20) hx (t := .boolean) Bd.returns (by simp) (hb hby at_174) (BodyLoose.notSynchronized Bd) (by decide) (by decide) (by rw [eq174]; exact ⟨rfl, N31⟩)
      · skip
        obtain ⟨cq32, kq32, q32a, q32b, q32c⟩ := isOf hZ e28 cr16_E
        obtain ⟨_, _, ⟨T32, L32, k32, n32⟩, -, X32, ⟨Lc32, hQ32, l32, y32, z32⟩, st32⟩ := X28.virtualBack hx (y := (⟨"com/example/steward/steward/statement/Token", "follows", "(Lcom/example/steward/steward/statement/Token;)Z"⟩ : MethodName)) (z := (⟨"com/example/steward/steward/statement/Token", "follows", "(Lcom/example/steward/steward/statement/Token;)Z"⟩ : MethodName)) hown (mvT hZ (hw _ (List.mem_of_getElem? (i := 38) rfl))) (mvT hZ (hw _ (List.mem_of_getElem? (i := 39) rfl))) (notFace_of_selects (args := #[]) (mvT hZ (hw _ (List.mem_of_getElem? (i := 41) rfl)))) (mvT hZ (hw _ (List.mem_of_getElem? (i := 41) rfl))) (mvT hZ (hw _ (List.mem_of_getElem? (i := 40) rfl))) (by decide) (backOf (W := 0) (rmF l Z a0 hw [] b11 b16 q6 p3 (0 : Int32) T20.heap n0 cr16_s Fe20 (if_neg t1)) hZ (hw _ (List.mem_of_getElem? (i := 42) rfl)) (hw _ (List.mem_of_getElem? (i := 2) rfl)) (by decide) (by decide)) q32a q32c (g := (mkF m 102 #[.val (.int p0), .val (.int p1), .val (.int p2), .val (.int p3), .val (.int p4), .val (.int q5), .val (.int q6), .val (.ref b11), .val (.ref b16), .val (.int (1 : Int32)), .unset, .unset] [(.ref b16), (.ref b11)])) rfl (by rw [hml]; rfl) (Steps.refl _) (argsL := [(.ref b16)]) (rest := []) (lenOf own_pd1 rfl) rfl (by show 2 * 0 + _ ≤ _; exact Nat.le_of_eq rfl) (hb hby at_102) (fun _ _ => ⟨rfl, e28, (by decide : 0 + 1 + 2 + 2 + 1 + 2 + 2 + 0 ≤ _), (by decide : 0 + 7 + (4 + 4) + (0 + 4) + 7 + (4 + 4) + (0 + 4) + 0 ≤ _)⟩)
        dsimp only [Pt.U, Pt.locs, Pt.cells, Pt.slots] at X32 l32 y32 z32 st32 hQ32
        subst l32 y32 z32
        obtain ⟨rfl, N32q, e32⟩ := hQ32
        have N32 := Fr.app N28 N32q
        refine ownTransW st32 ?_
        show OwnGoW _ _ _ _ _ _ _ (T32.setTop (mkF m 105 #[.val (.int p0), .val (.int p1), .val (.int p2), .val (.int p3), .val (.int p4), .val (.int q5), .val (.int q6), .val (.ref b11), .val (.ref b16), .val (.int (1 : Int32)), .unset, .unset] [(.int (0 : Int32))]))
        refine ownStepW (fun _ k => XS.iload X32.here hx rfl (hb hby at_105) rfl k) ?_
        show OwnGoW _ _ _ _ _ _ _ (T32.setTop (mkF m 107 #[.val (.int p0), .val (.int p1), .val (.int p2), .val (.int p3), .val (.int p4), .val (.int q5), .val (.int q6), .val (.ref b11), .val (.ref b16), .val (.int (1 : Int32)), .unset, .unset] [(.int q6), (.int (0 : Int32))]))
        refine ownStepW (fun _ k => XS.iloadN X32.here hx rfl (hb hby at_107) rfl k) ?_
        show OwnGoW _ _ _ _ _ _ _ (T32.setTop (mkF m 108 #[.val (.int p0), .val (.int p1), .val (.int p2), .val (.int p3), .val (.int p4), .val (.int q5), .val (.int q6), .val (.ref b11), .val (.ref b16), .val (.int (1 : Int32)), .unset, .unset] [(.int p3), (.int q6), (.int (0 : Int32))]))
        refine ownStepW (fun _ k => XS.icmpYes X32.here hx rfl (pc0 := 108) (pc' := 115) rfl (hb hby at_108) rfl (feq t1).2 (by decide) (by decide) k) ?_
        show OwnGoW _ _ _ _ _ _ _ (T32.setTop (mkF m 115 #[.val (.int p0), .val (.int p1), .val (.int p2), .val (.int p3), .val (.int p4), .val (.int q5), .val (.int q6), .val (.ref b11), .val (.ref b16), .val (.int (1 : Int32)), .unset, .unset] [(.int (0 : Int32))]))
        refine ownStepW (fun _ k => XS.iconst X32.here hx rfl (hb hby at_115) k) ?_
        show OwnGoW _ _ _ _ _ _ _ (T32.setTop (mkF m 116 #[.val (.int p0), .val (.int p1), .val (.int p2), .val (.int p3), .val (.int p4), .val (.int q5), .val (.int q6), .val (.ref b11), .val (.ref b16), .val (.int (1 : Int32)), .unset, .unset] [(.int (0 : Int32)), (.int (0 : Int32))]))
        refine ownStepW (fun _ k => XS.icmpNo X32.here hx rfl (hb hby at_116) rfl (teq (by decide : (0 : Int32) = (0 : Int32))).2 k) ?_
        show OwnGoW _ _ _ _ _ _ _ (T32.setTop (mkF m 119 #[.val (.int p0), .val (.int p1), .val (.int p2), .val (.int p3), .val (.int p4), .val (.int q5), .val (.int q6), .val (.ref b11), .val (.ref b16), .val (.int (1 : Int32)), .unset, .unset] []))
        refine ownStepW (fun _ k => XS.iconst X32.here hx rfl (hb hby at_119) k) ?_
        show OwnGoW _ _ _ _ _ _ _ (T32.setTop (mkF m 120 #[.val (.int p0), .val (.int p1), .val (.int p2), .val (.int p3), .val (.int p4), .val (.int q5), .val (.int q6), .val (.ref b11), .val (.ref b16), .val (.int (1 : Int32)), .unset, .unset] [(.int (1 : Int32))]))
        refine ownStepW (fun _ k => XS.goto X32.here hx rfl (pc0 := 120) (pc' := 124) rfl (hb hby at_120) (by decide) (by decide) k) ?_
        show OwnGoW _ _ _ _ _ _ _ (T32.setTop (mkF m 124 #[.val (.int p0), .val (.int p1), .val (.int p2), .val (.int p3), .val (.int p4), .val (.int q5), .val (.int q6), .val (.ref b11), .val (.ref b16), .val (.int (1 : Int32)), .unset, .unset] [(.int (1 : Int32))]))
        refine ownStepW (fun _ k => XS.istore X32.here hx rfl (hb hby at_124) rfl (l' := #[.val (.int p0), .val (.int p1), .val (.int p2), .val (.int p3), .val (.int p4), .val (.int q5), .val (.int q6), .val (.ref b11), .val (.ref b16), .val (.int (1 : Int32)), .val (.int (1 : Int32)), .unset]) rfl k) ?_
        show OwnGoW _ _ _ _ _ _ _ (T32.setTop (mkF m 126 #[.val (.int p0), .val (.int p1), .val (.int p2), .val (.int p3), .val (.int p4), .val (.int q5), .val (.int q6), .val (.ref b11), .val (.ref b16), .val (.int (1 : Int32)), .val (.int (1 : Int32)), .unset] []))
        refine ownStepW (fun _ k => XS.aload X32.here hx rfl (hb hby at_126) rfl rfl k) ?_
        show OwnGoW _ _ _ _ _ _ _ (T32.setTop (mkF m 128 #[.val (.int p0), .val (.int p1), .val (.int p2), .val (.int p3), .val (.int p4), .val (.int q5), .val (.int q6), .val (.ref b11), .val (.ref b16), .val (.int (1 : Int32)), .val (.int (1 : Int32)), .unset] [(.ref b11)]))
        refine ownStepW (fun _ k => XS.aload X32.here hx rfl (hb hby at_128) rfl rfl k) ?_
        show OwnGoW _ _ _ _ _ _ _ (T32.setTop (mkF m 130 #[.val (.int p0), .val (.int p1), .val (.int p2), .val (.int p3), .val (.int p4), .val (.int q5), .val (.int q6), .val (.ref b11), .val (.ref b16), .val (.int (1 : Int32)), .val (.int (1 : Int32)), .unset] [(.ref b11), (.ref b11)]))
        by_cases t2 : q6 = p1
        · skip
          obtain ⟨cq33, kq33, q33a, q33b, q33c⟩ := isOf hZ e32 cr16_E
          obtain ⟨_, _, ⟨T33, L33, k33, n33⟩, -, X33, ⟨Lc33, hQ33, l33, y33, z33⟩, st33⟩ := X32.virtualBack hx (y := (⟨"com/example/steward/steward/statement/Token", "follows", "(Lcom/example/steward/steward/statement/Token;)Z"⟩ : MethodName)) (z := (⟨"com/example/steward/steward/statement/Token", "follows", "(Lcom/example/steward/steward/statement/Token;)Z"⟩ : MethodName)) hown (mvT hZ (hw _ (List.mem_of_getElem? (i := 38) rfl))) (mvT hZ (hw _ (List.mem_of_getElem? (i := 39) rfl))) (notFace_of_selects (args := #[]) (mvT hZ (hw _ (List.mem_of_getElem? (i := 41) rfl)))) (mvT hZ (hw _ (List.mem_of_getElem? (i := 41) rfl))) (mvT hZ (hw _ (List.mem_of_getElem? (i := 40) rfl))) (by decide) (backOf (W := 0) (rmF l Z a0 hw [] b11 b11 q6 p1 (1 : Int32) T20.heap n0 cr16_s cr16_e (if_pos t2)) hZ (hw _ (List.mem_of_getElem? (i := 42) rfl)) (hw _ (List.mem_of_getElem? (i := 2) rfl)) (by decide) (by decide)) q33a q33c (g := (mkF m 130 #[.val (.int p0), .val (.int p1), .val (.int p2), .val (.int p3), .val (.int p4), .val (.int q5), .val (.int q6), .val (.ref b11), .val (.ref b16), .val (.int (1 : Int32)), .val (.int (1 : Int32)), .unset] [(.ref b11), (.ref b11)])) rfl (by rw [hml]; rfl) (Steps.refl _) (argsL := [(.ref b11)]) (rest := []) (lenOf own_pd1 rfl) rfl (by show 2 * 0 + _ ≤ _; exact Nat.le_of_eq rfl) (hb hby at_130) (fun _ _ => ⟨rfl, e32, (by decide : 0 + 1 + 2 + 2 + 1 + 2 + 2 + 0 ≤ _), (by decide : 0 + 7 + (4 + 4) + (0 + 4) + 7 + (4 + 4) + (0 + 4) + 0 ≤ _)⟩)
          dsimp only [Pt.U, Pt.locs, Pt.cells, Pt.slots] at X33 l33 y33 z33 st33 hQ33
          subst l33 y33 z33
          obtain ⟨rfl, N33q, e33⟩ := hQ33
          have N33 := Fr.app N32 N33q
          refine ownTransW st33 ?_
          show OwnGoW _ _ _ _ _ _ _ (T33.setTop (mkF m 133 #[.val (.int p0), .val (.int p1), .val (.int p2), .val (.int p3), .val (.int p4), .val (.int q5), .val (.int q6), .val (.ref b11), .val (.ref b16), .val (.int (1 : Int32)), .val (.int (1 : Int32)), .unset] [(.int (1 : Int32))]))
          refine ownStepW (fun _ k => XS.iload X33.here hx rfl (hb hby at_133) rfl k) ?_
          show OwnGoW _ _ _ _ _ _ _ (T33.setTop (mkF m 135 #[.val (.int p0), .val (.int p1), .val (.int p2), .val (.int p3), .val (.int p4), .val (.int q5), .val (.int q6), .val (.ref b11), .val (.ref b16), .val (.int (1 : Int32)), .val (.int (1 : Int32)), .unset] [(.int q6), (.int (1 : Int32))]))
          refine ownStepW (fun _ k => XS.iloadN X33.here hx rfl (hb hby at_135) rfl k) ?_
          show OwnGoW _ _ _ _ _ _ _ (T33.setTop (mkF m 136 #[.val (.int p0), .val (.int p1), .val (.int p2), .val (.int p3), .val (.int p4), .val (.int q5), .val (.int q6), .val (.ref b11), .val (.ref b16), .val (.int (1 : Int32)), .val (.int (1 : Int32)), .unset] [(.int p1), (.int q6), (.int (1 : Int32))]))
          refine ownStepW (fun _ k => XS.icmpNo X33.here hx rfl (hb hby at_136) rfl (teq t2).2 k) ?_
          show OwnGoW _ _ _ _ _ _ _ (T33.setTop (mkF m 139 #[.val (.int p0), .val (.int p1), .val (.int p2), .val (.int p3), .val (.int p4), .val (.int q5), .val (.int q6), .val (.ref b11), .val (.ref b16), .val (.int (1 : Int32)), .val (.int (1 : Int32)), .unset] [(.int (1 : Int32))]))
          refine ownStepW (fun _ k => XS.iconst X33.here hx rfl (hb hby at_139) k) ?_
          show OwnGoW _ _ _ _ _ _ _ (T33.setTop (mkF m 140 #[.val (.int p0), .val (.int p1), .val (.int p2), .val (.int p3), .val (.int p4), .val (.int q5), .val (.int q6), .val (.ref b11), .val (.ref b16), .val (.int (1 : Int32)), .val (.int (1 : Int32)), .unset] [(.int (1 : Int32)), (.int (1 : Int32))]))
          refine ownStepW (fun _ k => XS.goto X33.here hx rfl (pc0 := 140) (pc' := 144) rfl (hb hby at_140) (by decide) (by decide) k) ?_
          show OwnGoW _ _ _ _ _ _ _ (T33.setTop (mkF m 144 #[.val (.int p0), .val (.int p1), .val (.int p2), .val (.int p3), .val (.int p4), .val (.int q5), .val (.int q6), .val (.ref b11), .val (.ref b16), .val (.int (1 : Int32)), .val (.int (1 : Int32)), .unset] [(.int (1 : Int32)), (.int (1 : Int32))]))
          refine ownStepW (fun _ k => XS.icmpNo X33.here hx rfl (hb hby at_144) rfl (teq (by decide : (1 : Int32) = (1 : Int32))).2 k) ?_
          show OwnGoW _ _ _ _ _ _ _ (T33.setTop (mkF m 147 #[.val (.int p0), .val (.int p1), .val (.int p2), .val (.int p3), .val (.int p4), .val (.int q5), .val (.int q6), .val (.ref b11), .val (.ref b16), .val (.int (1 : Int32)), .val (.int (1 : Int32)), .unset] []))
          refine ownStepW (fun _ k => XS.iconst X33.here hx rfl (hb hby at_147) k) ?_
          show OwnGoW _ _ _ _ _ _ _ (T33.setTop (mkF m 148 #[.val (.int p0), .val (.int p1), .val (.int p2), .val (.int p3), .val (.int p4), .val (.int q5), .val (.int q6), .val (.ref b11), .val (.ref b16), .val (.int (1 : Int32)), .val (.int (1 : Int32)), .unset] [(.int (1 : Int32))]))
          refine ownStepW (fun _ k => XS.goto X33.here hx rfl (pc0 := 148) (pc' := 152) rfl (hb hby at_148) (by decide) (by decide) k) ?_
          show OwnGoW _ _ _ _ _ _ _ (T33.setTop (mkF m 152 #[.val (.int p0), .val (.int p1), .val (.int p2), .val (.int p3), .val (.int p4), .val (.int q5), .val (.int q6), .val (.ref b11), .val (.ref b16), .val (.int (1 : Int32)), .val (.int (1 : Int32)), .unset] [(.int (1 : Int32))]))
          refine ownStepW (fun _ k => XS.istore X33.here hx rfl (hb hby at_152) rfl (l' := #[.val (.int p0), .val (.int p1), .val (.int p2), .val (.int p3), .val (.int p4), .val (.int q5), .val (.int q6), .val (.ref b11), .val (.ref b16), .val (.int (1 : Int32)), .val (.int (1 : Int32)), .val (.int (1 : Int32))]) rfl k) ?_
          show OwnGoW _ _ _ _ _ _ _ (T33.setTop (mkF m 154 #[.val (.int p0), .val (.int p1), .val (.int p2), .val (.int p3), .val (.int p4), .val (.int q5), .val (.int q6), .val (.ref b11), .val (.ref b16), .val (.int (1 : Int32)), .val (.int (1 : Int32)), .val (.int (1 : Int32))] []))
          refine ownStepW (fun _ k => XS.iload X33.here hx rfl (hb hby at_154) rfl k) ?_
          show OwnGoW _ _ _ _ _ _ _ (T33.setTop (mkF m 156 #[.val (.int p0), .val (.int p1), .val (.int p2), .val (.int p3), .val (.int p4), .val (.int q5), .val (.int q6), .val (.ref b11), .val (.ref b16), .val (.int (1 : Int32)), .val (.int (1 : Int32)), .val (.int (1 : Int32))] [(.int (1 : Int32))]))
          refine ownStepW (fun _ k => XS.ifNo X33.here hx rfl (hb hby at_156) rfl ((if0 _ _).trans (feq (by decide : ¬ ((1 : Int32) = (0 : Int32)))).1) k) ?_
          show OwnGoW _ _ _ _ _ _ _ (T33.setTop (mkF m 159 #[.val (.int p0), .val (.int p1), .val (.int p2), .val (.int p3), .val (.int p4), .val (.int q5), .val (.int q6), .val (.ref b11), .val (.ref b16), .val (.int (1 : Int32)), .val (.int (1 : Int32)), .val (.int (1 : Int32))] []))
          refine ownStepW (fun _ k => XS.iload X33.here hx rfl (hb hby at_159) rfl k) ?_
          show OwnGoW _ _ _ _ _ _ _ (T33.setTop (mkF m 161 #[.val (.int p0), .val (.int p1), .val (.int p2), .val (.int p3), .val (.int p4), .val (.int q5), .val (.int q6), .val (.ref b11), .val (.ref b16), .val (.int (1 : Int32)), .val (.int (1 : Int32)), .val (.int (1 : Int32))] [(.int (1 : Int32))]))
          refine ownStepW (fun _ k => XS.ifNo X33.here hx rfl (hb hby at_161) rfl ((if0 _ _).trans (feq (by decide : ¬ ((1 : Int32) = (0 : Int32)))).1) k) ?_
          show OwnGoW _ _ _ _ _ _ _ (T33.setTop (mkF m 164 #[.val (.int p0), .val (.int p1), .val (.int p2), .val (.int p3), .val (.int p4), .val (.int q5), .val (.int q6), .val (.ref b11), .val (.ref b16), .val (.int (1 : Int32)), .val (.int (1 : Int32)), .val (.int (1 : Int32))] []))
          refine ownStepW (fun _ k => XS.iload X33.here hx rfl (hb hby at_164) rfl k) ?_
          show OwnGoW _ _ _ _ _ _ _ (T33.setTop (mkF m 166 #[.val (.int p0), .val (.int p1), .val (.int p2), .val (.int p3), .val (.int p4), .val (.int q5), .val (.int q6), .val (.ref b11), .val (.ref b16), .val (.int (1 : Int32)), .val (.int (1 : Int32)), .val (.int (1 : Int32))] [(.int (1 : Int32))]))
          refine ownStepW (fun _ k => XS.ifNo X33.here hx rfl (hb hby at_166) rfl ((if0 _ _).trans (feq (by decide : ¬ ((1 : Int32) = (0 : Int32)))).1) k) ?_
          show OwnGoW _ _ _ _ _ _ _ (T33.setTop (mkF m 169 #[.val (.int p0), .val (.int p1), .val (.int p2), .val (.int p3), .val (.int p4), .val (.int q5), .val (.int q6), .val (.ref b11), .val (.ref b16), .val (.int (1 : Int32)), .val (.int (1 : Int32)), .val (.int (1 : Int32))] []))
          refine ownStepW (fun _ k => XS.iconst X33.here hx rfl (hb hby at_169) k) ?_
          show OwnGoW _ _ _ _ _ _ _ (T33.setTop (mkF m 170 #[.val (.int p0), .val (.int p1), .val (.int p2), .val (.int p3), .val (.int p4), .val (.int q5), .val (.int q6), .val (.ref b11), .val (.ref b16), .val (.int (1 : Int32)), .val (.int (1 : Int32)), .val (.int (1 : Int32))] [(.int (1 : Int32))]))
          refine ownStepW (fun _ k => XS.goto X33.here hx rfl (pc0 := 170) (pc' := 174) rfl (hb hby at_170) (by decide) (by decide) k) ?_
          show OwnGoW _ _ _ _ _ _ _ (T33.setTop (mkF m 174 #[.val (.int p0), .val (.int p1), .val (.int p2), .val (.int p3), .val (.int p4), .val (.int q5), .val (.int q6), .val (.ref b11), .val (.ref b16), .val (.int (1 : Int32)), .val (.int (1 : Int32)), .val (.int (1 : Int32))] [(.int (1 : Int32))]))
          have eq174 : T33.heap = T20.heap := e33
          exact ownRetNW X33 Sn19 (by rw [eq174]; exact Zn20) hx (t := .boolean) Bd.returns (by simp) (hb hby at_174) (BodyLoose.notSynchronized Bd) (by decide) (by decide) (by rw [eq174]; exact ⟨rfl, N33⟩)
        · skip
          obtain ⟨cq34, kq34, q34a, q34b, q34c⟩ := isOf hZ e32 cr16_E
          obtain ⟨_, _, ⟨T34, L34, k34, n34⟩, -, X34, ⟨Lc34, hQ34, l34, y34, z34⟩, st34⟩ := X32.virtualBack hx (y := (⟨"com/example/steward/steward/statement/Token", "follows", "(Lcom/example/steward/steward/statement/Token;)Z"⟩ : MethodName)) (z := (⟨"com/example/steward/steward/statement/Token", "follows", "(Lcom/example/steward/steward/statement/Token;)Z"⟩ : MethodName)) hown (mvT hZ (hw _ (List.mem_of_getElem? (i := 38) rfl))) (mvT hZ (hw _ (List.mem_of_getElem? (i := 39) rfl))) (notFace_of_selects (args := #[]) (mvT hZ (hw _ (List.mem_of_getElem? (i := 41) rfl)))) (mvT hZ (hw _ (List.mem_of_getElem? (i := 41) rfl))) (mvT hZ (hw _ (List.mem_of_getElem? (i := 40) rfl))) (by decide) (backOf (W := 0) (rmF l Z a0 hw [] b11 b11 q6 p1 (0 : Int32) T20.heap n0 cr16_s cr16_e (if_neg t2)) hZ (hw _ (List.mem_of_getElem? (i := 42) rfl)) (hw _ (List.mem_of_getElem? (i := 2) rfl)) (by decide) (by decide)) q34a q34c (g := (mkF m 130 #[.val (.int p0), .val (.int p1), .val (.int p2), .val (.int p3), .val (.int p4), .val (.int q5), .val (.int q6), .val (.ref b11), .val (.ref b16), .val (.int (1 : Int32)), .val (.int (1 : Int32)), .unset] [(.ref b11), (.ref b11)])) rfl (by rw [hml]; rfl) (Steps.refl _) (argsL := [(.ref b11)]) (rest := []) (lenOf own_pd1 rfl) rfl (by show 2 * 0 + _ ≤ _; exact Nat.le_of_eq rfl) (hb hby at_130) (fun _ _ => ⟨rfl, e32, (by decide : 0 + 1 + 2 + 2 + 1 + 2 + 2 + 0 ≤ _), (by decide : 0 + 7 + (4 + 4) + (0 + 4) + 7 + (4 + 4) + (0 + 4) + 0 ≤ _)⟩)
          dsimp only [Pt.U, Pt.locs, Pt.cells, Pt.slots] at X34 l34 y34 z34 st34 hQ34
          subst l34 y34 z34
          obtain ⟨rfl, N34q, e34⟩ := hQ34
          have N34 := Fr.app N32 N34q
          refine ownTransW st34 ?_
          show OwnGoW _ _ _ _ _ _ _ (T34.setTop (mkF m 133 #[.val (.int p0), .val (.int p1), .val (.int p2), .val (.int p3), .val (.int p4), .val (.int q5), .val (.int q6), .val (.ref b11), .val (.ref b16), .val (.int (1 : Int32)), .val (.int (1 : Int32)), .unset] [(.int (0 : Int32))]))
          refine ownStepW (fun _ k => XS.iload X34.here hx rfl (hb hby at_133) rfl k) ?_
          show OwnGoW _ _ _ _ _ _ _ (T34.setTop (mkF m 135 #[.val (.int p0), .val (.int p1), .val (.int p2), .val (.int p3), .val (.int p4), .val (.int q5), .val (.int q6), .val (.ref b11), .val (.ref b16), .val (.int (1 : Int32)), .val (.int (1 : Int32)), .unset] [(.int q6), (.int (0 : Int32))]))
          refine ownStepW (fun _ k => XS.iloadN X34.here hx rfl (hb hby at_135) rfl k) ?_
          show OwnGoW _ _ _ _ _ _ _ (T34.setTop (mkF m 136 #[.val (.int p0), .val (.int p1), .val (.int p2), .val (.int p3), .val (.int p4), .val (.int q5), .val (.int q6), .val (.ref b11), .val (.ref b16), .val (.int (1 : Int32)), .val (.int (1 : Int32)), .unset] [(.int p1), (.int q6), (.int (0 : Int32))]))
          refine ownStepW (fun _ k => XS.icmpYes X34.here hx rfl (pc0 := 136) (pc' := 143) rfl (hb hby at_136) rfl (feq t2).2 (by decide) (by decide) k) ?_
          show OwnGoW _ _ _ _ _ _ _ (T34.setTop (mkF m 143 #[.val (.int p0), .val (.int p1), .val (.int p2), .val (.int p3), .val (.int p4), .val (.int q5), .val (.int q6), .val (.ref b11), .val (.ref b16), .val (.int (1 : Int32)), .val (.int (1 : Int32)), .unset] [(.int (0 : Int32))]))
          refine ownStepW (fun _ k => XS.iconst X34.here hx rfl (hb hby at_143) k) ?_
          show OwnGoW _ _ _ _ _ _ _ (T34.setTop (mkF m 144 #[.val (.int p0), .val (.int p1), .val (.int p2), .val (.int p3), .val (.int p4), .val (.int q5), .val (.int q6), .val (.ref b11), .val (.ref b16), .val (.int (1 : Int32)), .val (.int (1 : Int32)), .unset] [(.int (0 : Int32)), (.int (0 : Int32))]))
          refine ownStepW (fun _ k => XS.icmpNo X34.here hx rfl (hb hby at_144) rfl (teq (by decide : (0 : Int32) = (0 : Int32))).2 k) ?_
          show OwnGoW _ _ _ _ _ _ _ (T34.setTop (mkF m 147 #[.val (.int p0), .val (.int p1), .val (.int p2), .val (.int p3), .val (.int p4), .val (.int q5), .val (.int q6), .val (.ref b11), .val (.ref b16), .val (.int (1 : Int32)), .val (.int (1 : Int32)), .unset] []))
          refine ownStepW (fun _ k => XS.iconst X34.here hx rfl (hb hby at_147) k) ?_
          show OwnGoW _ _ _ _ _ _ _ (T34.setTop (mkF m 148 #[.val (.int p0), .val (.int p1), .val (.int p2), .val (.int p3), .val (.int p4), .val (.int q5), .val (.int q6), .val (.ref b11), .val (.ref b16), .val (.int (1 : Int32)), .val (.int (1 : Int32)), .unset] [(.int (1 : Int32))]))
          refine ownStepW (fun _ k => XS.goto X34.here hx rfl (pc0 := 148) (pc' := 152) rfl (hb hby at_148) (by decide) (by decide) k) ?_
          show OwnGoW _ _ _ _ _ _ _ (T34.setTop (mkF m 152 #[.val (.int p0), .val (.int p1), .val (.int p2), .val (.int p3), .val (.int p4), .val (.int q5), .val (.int q6), .val (.ref b11), .val (.ref b16), .val (.int (1 : Int32)), .val (.int (1 : Int32)), .unset] [(.int (1 : Int32))]))
          refine ownStepW (fun _ k => XS.istore X34.here hx rfl (hb hby at_152) rfl (l' := #[.val (.int p0), .val (.int p1), .val (.int p2), .val (.int p3), .val (.int p4), .val (.int q5), .val (.int q6), .val (.ref b11), .val (.ref b16), .val (.int (1 : Int32)), .val (.int (1 : Int32)), .val (.int (1 : Int32))]) rfl k) ?_
          show OwnGoW _ _ _ _ _ _ _ (T34.setTop (mkF m 154 #[.val (.int p0), .val (.int p1), .val (.int p2), .val (.int p3), .val (.int p4), .val (.int q5), .val (.int q6), .val (.ref b11), .val (.ref b16), .val (.int (1 : Int32)), .val (.int (1 : Int32)), .val (.int (1 : Int32))] []))
          refine ownStepW (fun _ k => XS.iload X34.here hx rfl (hb hby at_154) rfl k) ?_
          show OwnGoW _ _ _ _ _ _ _ (T34.setTop (mkF m 156 #[.val (.int p0), .val (.int p1), .val (.int p2), .val (.int p3), .val (.int p4), .val (.int q5), .val (.int q6), .val (.ref b11), .val (.ref b16), .val (.int (1 : Int32)), .val (.int (1 : Int32)), .val (.int (1 : Int32))] [(.int (1 : Int32))]))
          refine ownStepW (fun _ k => XS.ifNo X34.here hx rfl (hb hby at_156) rfl ((if0 _ _).trans (feq (by decide : ¬ ((1 : Int32) = (0 : Int32)))).1) k) ?_
          show OwnGoW _ _ _ _ _ _ _ (T34.setTop (mkF m 159 #[.val (.int p0), .val (.int p1), .val (.int p2), .val (.int p3), .val (.int p4), .val (.int q5), .val (.int q6), .val (.ref b11), .val (.ref b16), .val (.int (1 : Int32)), .val (.int (1 : Int32)), .val (.int (1 : Int32))] []))
          refine ownStepW (fun _ k => XS.iload X34.here hx rfl (hb hby at_159) rfl k) ?_
          show OwnGoW _ _ _ _ _ _ _ (T34.setTop (mkF m 161 #[.val (.int p0), .val (.int p1), .val (.int p2), .val (.int p3), .val (.int p4), .val (.int q5), .val (.int q6), .val (.ref b11), .val (.ref b16), .val (.int (1 : Int32)), .val (.int (1 : Int32)), .val (.int (1 : Int32))] [(.int (1 : Int32))]))
          refine ownStepW (fun _ k => XS.ifNo X34.here hx rfl (hb hby at_161) rfl ((if0 _ _).trans (feq (by decide : ¬ ((1 : Int32) = (0 : Int32)))).1) k) ?_
          show OwnGoW _ _ _ _ _ _ _ (T34.setTop (mkF m 164 #[.val (.int p0), .val (.int p1), .val (.int p2), .val (.int p3), .val (.int p4), .val (.int q5), .val (.int q6), .val (.ref b11), .val (.ref b16), .val (.int (1 : Int32)), .val (.int (1 : Int32)), .val (.int (1 : Int32))] []))
          refine ownStepW (fun _ k => XS.iload X34.here hx rfl (hb hby at_164) rfl k) ?_
          show OwnGoW _ _ _ _ _ _ _ (T34.setTop (mkF m 166 #[.val (.int p0), .val (.int p1), .val (.int p2), .val (.int p3), .val (.int p4), .val (.int q5), .val (.int q6), .val (.ref b11), .val (.ref b16), .val (.int (1 : Int32)), .val (.int (1 : Int32)), .val (.int (1 : Int32))] [(.int (1 : Int32))]))
          refine ownStepW (fun _ k => XS.ifNo X34.here hx rfl (hb hby at_166) rfl ((if0 _ _).trans (feq (by decide : ¬ ((1 : Int32) = (0 : Int32)))).1) k) ?_
          show OwnGoW _ _ _ _ _ _ _ (T34.setTop (mkF m 169 #[.val (.int p0), .val (.int p1), .val (.int p2), .val (.int p3), .val (.int p4), .val (.int q5), .val (.int q6), .val (.ref b11), .val (.ref b16), .val (.int (1 : Int32)), .val (.int (1 : Int32)), .val (.int (1 : Int32))] []))
          refine ownStepW (fun _ k => XS.iconst X34.here hx rfl (hb hby at_169) k) ?_
          show OwnGoW _ _ _ _ _ _ _ (T34.setTop (mkF m 170 #[.val (.int p0), .val (.int p1), .val (.int p2), .val (.int p3), .val (.int p4), .val (.int q5), .val (.int q6), .val (.ref b11), .val (.ref b16), .val (.int (1 : Int32)), .val (.int (1 : Int32)), .val (.int (1 : Int32))] [(.int (1 : Int32))]))
          refine ownStepW (fun _ k => XS.goto X34.here hx rfl (pc0 := 170) (pc' := 174) rfl (hb hby at_170) (by decide) (by decide) k) ?_
          show OwnGoW _ _ _ _ _ _ _ (T34.setTop (mkF m 174 #[.val (.int p0), .val (.int p1), .val (.int p2), .val (.int p3), .val (.int p4), .val (.int q5), .val (.int q6), .val (.ref b11), .val (.ref b16), .val (.int (1 : Int32)), .val (.int (1 : Int32)), .val (.int (1 : Int32))] [(.int (1 : Int32))]))
          have eq174 : T34.heap = T20.heap := e34
          exact ownRetNW X34 Sn19 (by rw [eq174]; exact Zn20) hx (t := .boolean) Bd.returns (by simp) (hb hby at_174) (BodyLoose.notSynchronized Bd) (by decide) (by decide) (by rw [eq174]; exact ⟨rfl, N34⟩)
  refine ownStepW (fun _ k => XS.iload X0.here hx rfl (hb hby at_0) rfl k) ?_
  show OwnGoW _ _ _ _ _ _ _ (s₁.setTop (mkF m 2 #[.val (.int p0), .val (.int p1), .val (.int p2), .val (.int p3), .val (.int p4), .unset, .unset, .unset, .unset, .unset, .unset, .unset] [(.int p4)]))
  refine ownStepW (fun _ k => XS.iconst X0.here hx rfl (hb hby at_2) k) ?_
  show OwnGoW _ _ _ _ _ _ _ (s₁.setTop (mkF m 3 #[.val (.int p0), .val (.int p1), .val (.int p2), .val (.int p3), .val (.int p4), .unset, .unset, .unset, .unset, .unset, .unset, .unset] [(.int (1 : Int32)), (.int p4)]))
  refine ownStepW (fun _ k => XS.iand X0.here hx rfl (hb hby at_3) rfl k) ?_
  show OwnGoW _ _ _ _ _ _ _ (s₁.setTop (mkF m 4 #[.val (.int p0), .val (.int p1), .val (.int p2), .val (.int p3), .val (.int p4), .unset, .unset, .unset, .unset, .unset, .unset, .unset] [(.int (p4 &&& (1 : Int32)))]))
  by_cases c0 : (p4 &&& (1 : Int32)) = (0 : Int32)
  · skip
    refine ownStepW (fun _ k => XS.ifYes X0.here hx rfl (pc0 := 4) (pc' := 11) rfl (hb hby at_4) rfl ((if0 _ _).trans (teq c0).1) (by decide) (by decide) k) ?_
    show OwnGoW _ _ _ _ _ _ _ (s₁.setTop (mkF m 11 #[.val (.int p0), .val (.int p1), .val (.int p2), .val (.int p3), .val (.int p4), .unset, .unset, .unset, .unset, .unset, .unset, .unset] []))
    refine ownStepW (fun _ k => XS.iloadN X0.here hx rfl (hb hby at_11) rfl k) ?_
    show OwnGoW _ _ _ _ _ _ _ (s₁.setTop (mkF m 12 #[.val (.int p0), .val (.int p1), .val (.int p2), .val (.int p3), .val (.int p4), .unset, .unset, .unset, .unset, .unset, .unset, .unset] [(.int p2)]))
    refine ownStepW (fun _ k => XS.istore X0.here hx rfl (hb hby at_12) rfl (l' := #[.val (.int p0), .val (.int p1), .val (.int p2), .val (.int p3), .val (.int p4), .val (.int p2), .unset, .unset, .unset, .unset, .unset, .unset]) rfl k) ?_
    show OwnGoW _ _ _ _ _ _ _ (s₁.setTop (mkF m 14 #[.val (.int p0), .val (.int p1), .val (.int p2), .val (.int p3), .val (.int p4), .val (.int p2), .unset, .unset, .unset, .unset, .unset, .unset] []))
    refine ownStepW (fun _ k => XS.iload X0.here hx rfl (hb hby at_14) rfl k) ?_
    show OwnGoW _ _ _ _ _ _ _ (s₁.setTop (mkF m 16 #[.val (.int p0), .val (.int p1), .val (.int p2), .val (.int p3), .val (.int p4), .val (.int p2), .unset, .unset, .unset, .unset, .unset, .unset] [(.int p4)]))
    refine ownStepW (fun _ k => XS.iconst X0.here hx rfl (hb hby at_16) k) ?_
    show OwnGoW _ _ _ _ _ _ _ (s₁.setTop (mkF m 17 #[.val (.int p0), .val (.int p1), .val (.int p2), .val (.int p3), .val (.int p4), .val (.int p2), .unset, .unset, .unset, .unset, .unset, .unset] [(.int (2 : Int32)), (.int p4)]))
    refine ownStepW (fun _ k => XS.iand X0.here hx rfl (hb hby at_17) rfl k) ?_
    show OwnGoW _ _ _ _ _ _ _ (s₁.setTop (mkF m 18 #[.val (.int p0), .val (.int p1), .val (.int p2), .val (.int p3), .val (.int p4), .val (.int p2), .unset, .unset, .unset, .unset, .unset, .unset] [(.int (p4 &&& (2 : Int32)))]))
    by_cases c1 : (p4 &&& (2 : Int32)) = (0 : Int32)
    · skip
      refine ownStepW (fun _ k => XS.ifYes X0.here hx rfl (pc0 := 18) (pc' := 25) rfl (hb hby at_18) rfl ((if0 _ _).trans (teq c1).1) (by decide) (by decide) k) ?_
      show OwnGoW _ _ _ _ _ _ _ (s₁.setTop (mkF m 25 #[.val (.int p0), .val (.int p1), .val (.int p2), .val (.int p3), .val (.int p4), .val (.int p2), .unset, .unset, .unset, .unset, .unset, .unset] []))
      refine ownStepW (fun _ k => XS.iloadN X0.here hx rfl (hb hby at_25) rfl k) ?_
      show OwnGoW _ _ _ _ _ _ _ (s₁.setTop (mkF m 26 #[.val (.int p0), .val (.int p1), .val (.int p2), .val (.int p3), .val (.int p4), .val (.int p2), .unset, .unset, .unset, .unset, .unset, .unset] [(.int p0)]))
      refine ownStepW (fun _ k => XS.istore X0.here hx rfl (hb hby at_26) rfl (l' := #[.val (.int p0), .val (.int p1), .val (.int p2), .val (.int p3), .val (.int p4), .val (.int p2), .val (.int p0), .unset, .unset, .unset, .unset, .unset]) rfl k) ?_
      show OwnGoW _ _ _ _ _ _ _ (s₁.setTop (mkF m 28 #[.val (.int p0), .val (.int p1), .val (.int p2), .val (.int p3), .val (.int p4), .val (.int p2), .val (.int p0), .unset, .unset, .unset, .unset, .unset] []))
      exact J _ _
    · skip
      refine ownStepW (fun _ k => XS.ifNo X0.here hx rfl (hb hby at_18) rfl ((if0 _ _).trans (feq c1).1) k) ?_
      show OwnGoW _ _ _ _ _ _ _ (s₁.setTop (mkF m 21 #[.val (.int p0), .val (.int p1), .val (.int p2), .val (.int p3), .val (.int p4), .val (.int p2), .unset, .unset, .unset, .unset, .unset, .unset] []))
      refine ownStepW (fun _ k => XS.iloadN X0.here hx rfl (hb hby at_21) rfl k) ?_
      show OwnGoW _ _ _ _ _ _ _ (s₁.setTop (mkF m 22 #[.val (.int p0), .val (.int p1), .val (.int p2), .val (.int p3), .val (.int p4), .val (.int p2), .unset, .unset, .unset, .unset, .unset, .unset] [(.int p3)]))
      refine ownStepW (fun _ k => XS.goto X0.here hx rfl (pc0 := 22) (pc' := 26) rfl (hb hby at_22) (by decide) (by decide) k) ?_
      show OwnGoW _ _ _ _ _ _ _ (s₁.setTop (mkF m 26 #[.val (.int p0), .val (.int p1), .val (.int p2), .val (.int p3), .val (.int p4), .val (.int p2), .unset, .unset, .unset, .unset, .unset, .unset] [(.int p3)]))
      refine ownStepW (fun _ k => XS.istore X0.here hx rfl (hb hby at_26) rfl (l' := #[.val (.int p0), .val (.int p1), .val (.int p2), .val (.int p3), .val (.int p4), .val (.int p2), .val (.int p3), .unset, .unset, .unset, .unset, .unset]) rfl k) ?_
      show OwnGoW _ _ _ _ _ _ _ (s₁.setTop (mkF m 28 #[.val (.int p0), .val (.int p1), .val (.int p2), .val (.int p3), .val (.int p4), .val (.int p2), .val (.int p3), .unset, .unset, .unset, .unset, .unset] []))
      exact J _ _
  · skip
    refine ownStepW (fun _ k => XS.ifNo X0.here hx rfl (hb hby at_4) rfl ((if0 _ _).trans (feq c0).1) k) ?_
    show OwnGoW _ _ _ _ _ _ _ (s₁.setTop (mkF m 7 #[.val (.int p0), .val (.int p1), .val (.int p2), .val (.int p3), .val (.int p4), .unset, .unset, .unset, .unset, .unset, .unset, .unset] []))
    refine ownStepW (fun _ k => XS.iloadN X0.here hx rfl (hb hby at_7) rfl k) ?_
    show OwnGoW _ _ _ _ _ _ _ (s₁.setTop (mkF m 8 #[.val (.int p0), .val (.int p1), .val (.int p2), .val (.int p3), .val (.int p4), .unset, .unset, .unset, .unset, .unset, .unset, .unset] [(.int p1)]))
    refine ownStepW (fun _ k => XS.goto X0.here hx rfl (pc0 := 8) (pc' := 12) rfl (hb hby at_8) (by decide) (by decide) k) ?_
    show OwnGoW _ _ _ _ _ _ _ (s₁.setTop (mkF m 12 #[.val (.int p0), .val (.int p1), .val (.int p2), .val (.int p3), .val (.int p4), .unset, .unset, .unset, .unset, .unset, .unset, .unset] [(.int p1)]))
    refine ownStepW (fun _ k => XS.istore X0.here hx rfl (hb hby at_12) rfl (l' := #[.val (.int p0), .val (.int p1), .val (.int p2), .val (.int p3), .val (.int p4), .val (.int p1), .unset, .unset, .unset, .unset, .unset, .unset]) rfl k) ?_
    show OwnGoW _ _ _ _ _ _ _ (s₁.setTop (mkF m 14 #[.val (.int p0), .val (.int p1), .val (.int p2), .val (.int p3), .val (.int p4), .val (.int p1), .unset, .unset, .unset, .unset, .unset, .unset] []))
    refine ownStepW (fun _ k => XS.iload X0.here hx rfl (hb hby at_14) rfl k) ?_
    show OwnGoW _ _ _ _ _ _ _ (s₁.setTop (mkF m 16 #[.val (.int p0), .val (.int p1), .val (.int p2), .val (.int p3), .val (.int p4), .val (.int p1), .unset, .unset, .unset, .unset, .unset, .unset] [(.int p4)]))
    refine ownStepW (fun _ k => XS.iconst X0.here hx rfl (hb hby at_16) k) ?_
    show OwnGoW _ _ _ _ _ _ _ (s₁.setTop (mkF m 17 #[.val (.int p0), .val (.int p1), .val (.int p2), .val (.int p3), .val (.int p4), .val (.int p1), .unset, .unset, .unset, .unset, .unset, .unset] [(.int (2 : Int32)), (.int p4)]))
    refine ownStepW (fun _ k => XS.iand X0.here hx rfl (hb hby at_17) rfl k) ?_
    show OwnGoW _ _ _ _ _ _ _ (s₁.setTop (mkF m 18 #[.val (.int p0), .val (.int p1), .val (.int p2), .val (.int p3), .val (.int p4), .val (.int p1), .unset, .unset, .unset, .unset, .unset, .unset] [(.int (p4 &&& (2 : Int32)))]))
    by_cases c1 : (p4 &&& (2 : Int32)) = (0 : Int32)
    · skip
      refine ownStepW (fun _ k => XS.ifYes X0.here hx rfl (pc0 := 18) (pc' := 25) rfl (hb hby at_18) rfl ((if0 _ _).trans (teq c1).1) (by decide) (by decide) k) ?_
      show OwnGoW _ _ _ _ _ _ _ (s₁.setTop (mkF m 25 #[.val (.int p0), .val (.int p1), .val (.int p2), .val (.int p3), .val (.int p4), .val (.int p1), .unset, .unset, .unset, .unset, .unset, .unset] []))
      refine ownStepW (fun _ k => XS.iloadN X0.here hx rfl (hb hby at_25) rfl k) ?_
      show OwnGoW _ _ _ _ _ _ _ (s₁.setTop (mkF m 26 #[.val (.int p0), .val (.int p1), .val (.int p2), .val (.int p3), .val (.int p4), .val (.int p1), .unset, .unset, .unset, .unset, .unset, .unset] [(.int p0)]))
      refine ownStepW (fun _ k => XS.istore X0.here hx rfl (hb hby at_26) rfl (l' := #[.val (.int p0), .val (.int p1), .val (.int p2), .val (.int p3), .val (.int p4), .val (.int p1), .val (.int p0), .unset, .unset, .unset, .unset, .unset]) rfl k) ?_
      show OwnGoW _ _ _ _ _ _ _ (s₁.setTop (mkF m 28 #[.val (.int p0), .val (.int p1), .val (.int p2), .val (.int p3), .val (.int p4), .val (.int p1), .val (.int p0), .unset, .unset, .unset, .unset, .unset] []))
      exact J _ _
    · skip
      refine ownStepW (fun _ k => XS.ifNo X0.here hx rfl (hb hby at_18) rfl ((if0 _ _).trans (feq c1).1) k) ?_
      show OwnGoW _ _ _ _ _ _ _ (s₁.setTop (mkF m 21 #[.val (.int p0), .val (.int p1), .val (.int p2), .val (.int p3), .val (.int p4), .val (.int p1), .unset, .unset, .unset, .unset, .unset, .unset] []))
      refine ownStepW (fun _ k => XS.iloadN X0.here hx rfl (hb hby at_21) rfl k) ?_
      show OwnGoW _ _ _ _ _ _ _ (s₁.setTop (mkF m 22 #[.val (.int p0), .val (.int p1), .val (.int p2), .val (.int p3), .val (.int p4), .val (.int p1), .unset, .unset, .unset, .unset, .unset, .unset] [(.int p3)]))
      refine ownStepW (fun _ k => XS.goto X0.here hx rfl (pc0 := 22) (pc' := 26) rfl (hb hby at_22) (by decide) (by decide) k) ?_
      show OwnGoW _ _ _ _ _ _ _ (s₁.setTop (mkF m 26 #[.val (.int p0), .val (.int p1), .val (.int p2), .val (.int p3), .val (.int p4), .val (.int p1), .unset, .unset, .unset, .unset, .unset, .unset] [(.int p3)]))
      refine ownStepW (fun _ k => XS.istore X0.here hx rfl (hb hby at_26) rfl (l' := #[.val (.int p0), .val (.int p1), .val (.int p2), .val (.int p3), .val (.int p4), .val (.int p1), .val (.int p3), .unset, .unset, .unset, .unset, .unset]) rfl k) ?_
      show OwnGoW _ _ _ _ _ _ _ (s₁.setTop (mkF m 28 #[.val (.int p0), .val (.int p1), .val (.int p2), .val (.int p3), .val (.int p4), .val (.int p1), .val (.int p3), .unset, .unset, .unset, .unset, .unset] []))
      exact J _ _
set_option maxRecDepth 65536 in
set_option maxHeartbeats 40000000 in
theorem comes_1 {Post : Tables → Env → Array Value → State → Outcome → State → Prop} (hpost : ∀ tb e args s v u, (limb_1_1.after args s (.returned v) u = true ∧ limb_1_2.after args s (.returned v) u = true ∧ True) → Jvm.D.FramedW s (.returned v) u (Jvm.fieldLocs frame_1_writes args s ++ Jvm.arrayLocs frame_1_arrays args s ++ Jvm.staticLocs frame_1_statics s) 24 3200 → Post tb e args s (.returned v) u) :
    ArmFor flags0 classFile x code maxLocals ret World_1 tables_1 room_1 Calls_1 rest_1 Pre_1 Post := by
  intro l hfl _ _ p e ha hc hk s m args below hf hA hF happ hP
  obtain ⟨hcalls, hrest, hpre⟩ := hP
  obtain ⟨-, -, -, hnamed, -, -, -, hat⟩ := (Spec.applies_iff hf).mp happ
  obtain ⟨hg, hn⟩ := and_e (Cond.before_iff.mp (show (Jvm.Cond.and given_1 narrow_1).before args s = true from hpre))
  obtain ⟨g35, g36⟩ := and_e hg
  obtain ⟨g37, g38⟩ := and_e g36
  obtain ⟨g39, g40⟩ := and_e g38
  obtain ⟨g41, g42⟩ := and_e g40
  obtain ⟨g43, g44⟩ := and_e g42
  obtain ⟨w0, w1, w2, w3, w4, rfl⟩ : ∃ w0 w1 w2 w3 w4 : Value, args = #[w0, w1, w2, w3, w4] := by
    have hs : args.size = 5 := by simpa [Cond.value, given_1] using g35
    obtain ⟨L⟩ := args
    match L, hs with
    | [w0, w1, w2, w3, w4], _ => exact ⟨w0, w1, w2, w3, w4, rfl⟩
  have hw := fun d (hd : d ∈ tables_1) => atoms_spec (ws := Jvm.Cond.code x code maxLocals ret :: tables_1) hat d (List.mem_cons_of_mem _ hd)
  have hfit : Fit s := fun {y c} hc i hi => by
    obtain ⟨ha, rfl⟩ := Array.getElem?_eq_some_iff.mp hc
    have q := List.all_eq_true.mp ((Array.all_eq_true_iff_forall_mem.mp hF) _ (Array.getElem_mem ha)) i (List.mem_range.mpr hi)
    simpa [Array.getElem?_eq_getElem hi] using q
  obtain ⟨i0, ei0⟩ := is_v g37
  obtain rfl : w0 = (.int i0) := Option.some.inj ei0
  obtain ⟨i1, ei1⟩ := is_v g39
  obtain rfl : w1 = (.int i1) := Option.some.inj ei1
  obtain ⟨i2, ei2⟩ := is_v g41
  obtain rfl : w2 = (.int i2) := Option.some.inj ei2
  obtain ⟨i3, ei3⟩ := is_v g43
  obtain rfl : w3 = (.int i3) := Option.some.inj ei3
  obtain ⟨i4, ei4⟩ := is_v g44
  obtain rfl : w4 = (.int i4) := Option.some.inj ei4
  obtain ⟨hn45, hn46⟩ := and_e hn
  obtain ⟨wA, evA⟩ := exa_v hn45
  have SA := Sta.start evA (Or.inr ⟨(hw _ (List.mem_of_getElem? (i := 4) rfl)), (hw _ (List.mem_of_getElem? (i := 5) rfl))⟩)
  obtain ⟨wB, evB⟩ := exa_v hn46
  have SB := Sta.start evB (Or.inr ⟨(hw _ (List.mem_of_getElem? (i := 4) rfl)), (hw _ (List.mem_of_getElem? (i := 36) rfl))⟩)
  obtain ⟨n, o, h1, h2, h3, _, L, rfl, ⟨rfl, N⟩, hq⟩ := rm0 l s _ hw tables_1 i0 i1 i2 i3 i4 wA wB s.heap s.heap.size (Old.start s) SA SB p e ha hc hk s m _ below hf ((Spec.applies_iff_loose hf).mp happ).1 ⟨rfl, State.Warmed39.refl s, rfl⟩ trivial
  refine ⟨n, _, h1, h2, h3, hpost _ _ _ _ _ _ ⟨Cond.after_iff.mpr rfl, Cond.after_iff.mpr (eq_i res_at (Term.int_eval (1)) rfl), trivial⟩ ⟨hq.1, hq.2.1, hq.2.2.1, (hq.2.2.2.sift fun y hy => Or.inr (N y hy)).mono (by decide) (by decide)⟩⟩
theorem main_1_1 : Claimed_1_1 := comes_1 fun _ _ _ _ _ _ h hF => ⟨h.1, hF⟩
theorem main_1_2 : Claimed_1_2 := comes_1 fun _ _ _ _ _ _ h hF => ⟨h.2.1, hF⟩
end Jvm.Pilot.@@N@@
namespace Jvm.Pilot.@@N@@
open Jvm Jvm.ClassFile Sem Op Lib Jvm.Free Jvm.Stand Jvm.Pilot.@@N@@.Jvm.D
/-! MADE BY PROGRAM (witnessworld.py) out of the Statement's table words and the real class files: 16 classes; the members and pool entries that the words name. The judged class is class 1, her method 1. -/
namespace start1
open Jvm.ClassFile
def u (s : String) : CpInfo := .utf8 (stringToUtf16 s)
/-- a pool by its gaps: so many unusable entries, then the entry; so many at the end -/
def gap : Nat → List CpInfo → List CpInfo
  | 0, r => r
  | n + 1, r => .unusable :: gap n r
def poolList (es : List (Nat × CpInfo)) (last : Nat) : List CpInfo := es.foldr (fun e r => gap e.1 (e.2 :: r)) (gap last [])
def pool (es : List (Nat × CpInfo)) (last : Nat) : Array CpInfo := ⟨poolList es last⟩
def fileOf (pool : Array CpInfo) (this : Nat) (attrs : Array Attribute := #[]) (ms : Array MethodInfo := #[]) (fl : Nat := 33) (sup : Nat := 0) (ifs : Array Nat := #[]) (fds : Array FieldInfo := #[]) : ClassFile where
  minorVersion := 0
  majorVersion := 65
  constantPool := pool
  accessFlags := fl
  thisClass := this
  superClass := sup
  interfaces := ifs
  fields := fds
  methods := ms
  attributes := attrs
def plain (name : String) (sup : Option ClassId) : Class where
  name := name
  kind := .ordinary
  loader := none
  accessFlags := 33
  super := sup
  interfaces := #[]
  cf := none
  fields := #[]
  methods := #[]
  instanceTypes := #[]
  staticTypes := #[]
  resolved := #[]
  callSites := []
  init := .initialized
  statics := none
  mirror := none

def pool0 : Array CpInfo := pool [(5, u "<init>"), (0, u "()V"), (1, .class_ 10), (1, u "java/lang/Object")] 113

def k0c0 : Code := { maxStack := 0, maxLocals := 1, code := object_method_1_code, exceptionTable := #[], attributes := #[] }
def k0m0 : Method := { name := "<init>", desc := "()V", sig := { parameters := [], returnType := none }, accessFlags := 1, code := some k0c0 }
/-- java/lang/Object -/
def k0 : Class := { plain "java/lang/Object" none with
  accessFlags := 33
  interfaces := #[]
  cf := some (fileOf pool0 8 #[] #[{ accessFlags := 1, nameIndex := 5, descriptorIndex := 6, attributes := #[] }] 33 0 #[] #[])
  fields := #[]
  methods := #[k0m0]
  instanceTypes := #[]
  staticTypes := #[]
  resolved := Array.replicate 124 none
  statics := none }

def pool1 : Array CpInfo := pool [(2, .class_ 4), (1, u "java/lang/Object"), (0, u "<init>"), (0, u "()V"), (0, .class_ 8), (0, u "com/example/steward/steward/statement/Token"), (0, .fieldref 10 11), (0, .class_ 12), (0, .nameAndType 13 14), (0, u "com/example/steward/steward/statement/Token$Type"), (0, u "WORD"), (0, u "Lcom/example/steward/steward/statement/Token$Type;"), (0, .string 16), (0, u "a"), (0, .string 18), (0, u ""), (0, .methodref 7 20), (0, .nameAndType 5 21), (0, u "(Lcom/example/steward/steward/statement/Token$Type;Ljava/lang/String;Ljava/lang/String;IIII)V"), (0, .fieldref 10 23), (0, .nameAndType 24 14), (0, u "SYMBOL"), (0, .string 26), (0, u ","), (0, .methodref 7 28), (0, .nameAndType 29 30), (0, u "follows"), (0, u "(Lcom/example/steward/steward/statement/Token;)Z"), (0, .class_ 32), (0, u "com/example/steward/steward/statement/TokenFollowsPinLaw"), (2, u "law"), (0, u "(IIIII)Z")] 5

def k1m0 : Method := { name := "<init>", desc := "()V", sig := { parameters := [], returnType := none }, accessFlags := 2, code := none }
def k1c1 : Code := { maxStack := 9, maxLocals := 12, code := code, exceptionTable := #[], attributes := #[] }
def k1m1 : Method := { name := "law", desc := "(IIIII)Z", sig := { parameters := [.int, .int, .int, .int, .int], returnType := some .boolean }, accessFlags := 9, code := some k1c1 }
/-- com/example/steward/steward/statement/TokenFollowsPinLaw -/
def k1 : Class := { plain "com/example/steward/steward/statement/TokenFollowsPinLaw" (some 0) with
  accessFlags := 49
  interfaces := #[]
  cf := some (fileOf pool1 31 #[] #[{ accessFlags := 2, nameIndex := 5, descriptorIndex := 6, attributes := #[] }, { accessFlags := 9, nameIndex := 35, descriptorIndex := 36, attributes := #[] }] 49 2 #[] #[])
  fields := #[]
  methods := #[k1m0, k1m1]
  instanceTypes := #[]
  staticTypes := #[]
  resolved := Array.replicate 42 none
  statics := none }

def pool2 : Array CpInfo := pool [(1, .methodref 2 3), (0, .class_ 4), (0, .nameAndType 5 6), (0, u "java/lang/Object"), (0, u "<init>"), (0, u "()V"), (0, .fieldref 8 9), (0, .class_ 10), (0, .nameAndType 11 12), (0, u "com/example/steward/steward/statement/Token"), (0, u "type"), (0, u "Lcom/example/steward/steward/statement/Token$Type;"), (0, .fieldref 8 14), (0, .nameAndType 15 16), (0, u "value"), (0, u "Ljava/lang/String;"), (0, .fieldref 8 18), (0, .nameAndType 19 16), (0, u "opening"), (0, .fieldref 8 21), (0, .nameAndType 22 23), (0, u "start"), (0, u "I"), (0, .fieldref 8 25), (0, .nameAndType 26 23), (0, u "end"), (0, .fieldref 8 28), (0, .nameAndType 29 23), (0, u "line"), (0, .fieldref 8 31), (0, .nameAndType 32 23), (0, u "column"), (65, .class_ 100), (1, u "com/example/steward/steward/statement/Token$Type"), (71, u "SIMPLE_ESCAPES"), (1, u "SIMPLY_ESCAPED"), (0, u "(Lcom/example/steward/steward/statement/Token$Type;Ljava/lang/String;Ljava/lang/String;IIII)V"), (3, u "follows"), (0, u "(Lcom/example/steward/steward/statement/Token;)Z")] 37

def k2c0 : Code := { maxStack := 2, maxLocals := 8, code := prog_29_method_1_code, exceptionTable := #[], attributes := #[] }
def k2m0 : Method := { name := "<init>", desc := "(Lcom/example/steward/steward/statement/Token$Type;Ljava/lang/String;Ljava/lang/String;IIII)V", sig := { parameters := [(.object "com/example/steward/steward/statement/Token$Type"), (.object "java/lang/String"), (.object "java/lang/String"), .int, .int, .int, .int], returnType := none }, accessFlags := 0, code := some k2c0 }
def k2c1 : Code := { maxStack := 2, maxLocals := 2, code := prog_29_method_6_code, exceptionTable := #[], attributes := #[] }
def k2m1 : Method := { name := "follows", desc := "(Lcom/example/steward/steward/statement/Token;)Z", sig := { parameters := [(.object "com/example/steward/steward/statement/Token")], returnType := some .boolean }, accessFlags := 0, code := some k2c1 }
/-- com/example/steward/steward/statement/Token -/
def k2 : Class := { plain "com/example/steward/steward/statement/Token" (some 0) with
  accessFlags := 48
  interfaces := #[]
  cf := some (fileOf pool2 8 #[.nestMembers #[98]] #[{ accessFlags := 0, nameIndex := 5, descriptorIndex := 175, attributes := #[] }, { accessFlags := 0, nameIndex := 179, descriptorIndex := 180, attributes := #[] }] 48 2 #[] #[{ accessFlags := 26, nameIndex := 172, descriptorIndex := 16, attributes := #[] }, { accessFlags := 26, nameIndex := 174, descriptorIndex := 16, attributes := #[] }, { accessFlags := 18, nameIndex := 11, descriptorIndex := 12, attributes := #[] }, { accessFlags := 18, nameIndex := 15, descriptorIndex := 16, attributes := #[] }, { accessFlags := 18, nameIndex := 19, descriptorIndex := 16, attributes := #[] }, { accessFlags := 18, nameIndex := 22, descriptorIndex := 23, attributes := #[] }, { accessFlags := 18, nameIndex := 26, descriptorIndex := 23, attributes := #[] }, { accessFlags := 18, nameIndex := 29, descriptorIndex := 23, attributes := #[] }, { accessFlags := 18, nameIndex := 32, descriptorIndex := 23, attributes := #[] }])
  fields := #[{ name := "SIMPLE_ESCAPES", type := (.object "java/lang/String"), accessFlags := 26, slot := 0, constantValue := 0 }, { name := "SIMPLY_ESCAPED", type := (.object "java/lang/String"), accessFlags := 26, slot := 1, constantValue := 0 }, { name := "type", type := (.object "com/example/steward/steward/statement/Token$Type"), accessFlags := 18, slot := 0, constantValue := 0 }, { name := "value", type := (.object "java/lang/String"), accessFlags := 18, slot := 1, constantValue := 0 }, { name := "opening", type := (.object "java/lang/String"), accessFlags := 18, slot := 2, constantValue := 0 }, { name := "start", type := .int, accessFlags := 18, slot := 3, constantValue := 0 }, { name := "end", type := .int, accessFlags := 18, slot := 4, constantValue := 0 }, { name := "line", type := .int, accessFlags := 18, slot := 5, constantValue := 0 }, { name := "column", type := .int, accessFlags := 18, slot := 6, constantValue := 0 }]
  methods := #[k2m0, k2m1]
  instanceTypes := #[(.object "com/example/steward/steward/statement/Token$Type"), (.object "java/lang/String"), (.object "java/lang/String"), .int, .int, .int, .int]
  staticTypes := #[(.object "java/lang/String"), (.object "java/lang/String")]
  resolved := Array.replicate 218 none
  statics := none }

def pool3 : Array CpInfo := pool [(1, .class_ 2), (0, u "java/lang/constant/Constable"), (0, .class_ 4), (0, u "java/lang/Object")] 6

/-- java/lang/constant/Constable -/
def k3 : Class := { plain "java/lang/constant/Constable" (some 0) with
  accessFlags := 1537
  interfaces := #[]
  cf := some (fileOf pool3 1 #[] #[] 1537 3 #[] #[])
  fields := #[]
  methods := #[]
  instanceTypes := #[]
  staticTypes := #[]
  resolved := Array.replicate 11 none
  statics := none }

def pool4 : Array CpInfo := pool [(1, .class_ 2), (0, u "java/lang/Comparable"), (0, .class_ 4), (0, u "java/lang/Object")] 7

/-- java/lang/Comparable -/
def k4 : Class := { plain "java/lang/Comparable" (some 0) with
  accessFlags := 1537
  interfaces := #[]
  cf := some (fileOf pool4 1 #[] #[] 1537 3 #[] #[])
  fields := #[]
  methods := #[]
  instanceTypes := #[]
  staticTypes := #[]
  resolved := Array.replicate 12 none
  statics := none }

def pool5 : Array CpInfo := pool [(1, .class_ 2), (0, u "java/io/Serializable"), (0, .class_ 4), (0, u "java/lang/Object")] 2

/-- java/io/Serializable -/
def k5 : Class := { plain "java/io/Serializable" (some 0) with
  accessFlags := 1537
  interfaces := #[]
  cf := some (fileOf pool5 1 #[] #[] 1537 3 #[] #[])
  fields := #[]
  methods := #[]
  instanceTypes := #[]
  staticTypes := #[]
  resolved := Array.replicate 7 none
  statics := none }

def pool6 : Array CpInfo := pool [(2, .class_ 4), (1, u "java/lang/Enum"), (0, u "name"), (0, u "Ljava/lang/String;"), (2, u "ordinal"), (0, u "I"), (1, .class_ 14), (1, u "java/lang/Object"), (4, u "hash"), (86, .class_ 108), (1, u "java/lang/Enum$EnumDesc"), (2, .class_ 112), (0, u "java/lang/constant/Constable"), (0, .class_ 114), (0, u "java/lang/Comparable"), (0, .class_ 116), (0, u "java/io/Serializable")] 87

/-- java/lang/Enum -/
def k6 : Class := { plain "java/lang/Enum" (some 0) with
  accessFlags := 1057
  interfaces := #[3, 4, 5]
  cf := some (fileOf pool6 2 #[.nestMembers #[106]] #[] 1057 12 #[111, 113, 115] #[{ accessFlags := 18, nameIndex := 5, descriptorIndex := 6, attributes := #[] }, { accessFlags := 18, nameIndex := 9, descriptorIndex := 10, attributes := #[] }, { accessFlags := 2, nameIndex := 19, descriptorIndex := 10, attributes := #[] }])
  fields := #[{ name := "name", type := (.object "java/lang/String"), accessFlags := 18, slot := 0, constantValue := 0 }, { name := "ordinal", type := .int, accessFlags := 18, slot := 1, constantValue := 0 }, { name := "hash", type := .int, accessFlags := 2, slot := 2, constantValue := 0 }]
  methods := #[]
  instanceTypes := #[(.object "java/lang/String"), .int, .int]
  staticTypes := #[]
  resolved := Array.replicate 204 none
  statics := none }

def pool7 : Array CpInfo := pool [(1, .class_ 2), (0, u "com/example/steward/steward/statement/Token$Type"), (2, u "WORD"), (0, u "Lcom/example/steward/steward/statement/Token$Type;"), (2, u "NUMBER"), (2, u "NAME"), (2, u "STRING"), (2, u "BRACKETED"), (2, u "SYMBOL"), (2, u "END"), (2, u "$VALUES"), (0, u "[Lcom/example/steward/steward/statement/Token$Type;"), (6, .class_ 37), (1, u "java/lang/Enum"), (8, u "what"), (0, u "Ljava/lang/String;"), (42, .class_ 91), (0, u "com/example/steward/steward/statement/Token")] 2

/-- com/example/steward/steward/statement/Token$Type -/
def k7 : Class := { plain "com/example/steward/steward/statement/Token$Type" (some 6) with
  accessFlags := 16432
  interfaces := #[]
  cf := some (fileOf pool7 1 #[.nestHost 90] #[] 16432 35 #[] #[{ accessFlags := 16409, nameIndex := 5, descriptorIndex := 6, attributes := #[] }, { accessFlags := 16409, nameIndex := 9, descriptorIndex := 6, attributes := #[] }, { accessFlags := 16409, nameIndex := 12, descriptorIndex := 6, attributes := #[] }, { accessFlags := 16409, nameIndex := 15, descriptorIndex := 6, attributes := #[] }, { accessFlags := 16409, nameIndex := 18, descriptorIndex := 6, attributes := #[] }, { accessFlags := 16409, nameIndex := 21, descriptorIndex := 6, attributes := #[] }, { accessFlags := 16409, nameIndex := 24, descriptorIndex := 6, attributes := #[] }, { accessFlags := 18, nameIndex := 46, descriptorIndex := 47, attributes := #[] }, { accessFlags := 4122, nameIndex := 27, descriptorIndex := 28, attributes := #[] }])
  fields := #[{ name := "WORD", type := (.object "com/example/steward/steward/statement/Token$Type"), accessFlags := 16409, slot := 0, constantValue := 0 }, { name := "NUMBER", type := (.object "com/example/steward/steward/statement/Token$Type"), accessFlags := 16409, slot := 1, constantValue := 0 }, { name := "NAME", type := (.object "com/example/steward/steward/statement/Token$Type"), accessFlags := 16409, slot := 2, constantValue := 0 }, { name := "STRING", type := (.object "com/example/steward/steward/statement/Token$Type"), accessFlags := 16409, slot := 3, constantValue := 0 }, { name := "BRACKETED", type := (.object "com/example/steward/steward/statement/Token$Type"), accessFlags := 16409, slot := 4, constantValue := 0 }, { name := "SYMBOL", type := (.object "com/example/steward/steward/statement/Token$Type"), accessFlags := 16409, slot := 5, constantValue := 0 }, { name := "END", type := (.object "com/example/steward/steward/statement/Token$Type"), accessFlags := 16409, slot := 6, constantValue := 0 }, { name := "what", type := (.object "java/lang/String"), accessFlags := 18, slot := 3, constantValue := 0 }, { name := "$VALUES", type := (.array (.object "com/example/steward/steward/statement/Token$Type")), accessFlags := 4122, slot := 7, constantValue := 0 }]
  methods := #[]
  instanceTypes := #[(.object "java/lang/String"), .int, .int, (.object "java/lang/String")]
  staticTypes := #[(.object "com/example/steward/steward/statement/Token$Type"), (.object "com/example/steward/steward/statement/Token$Type"), (.object "com/example/steward/steward/statement/Token$Type"), (.object "com/example/steward/steward/statement/Token$Type"), (.object "com/example/steward/steward/statement/Token$Type"), (.object "com/example/steward/steward/statement/Token$Type"), (.object "com/example/steward/steward/statement/Token$Type"), (.array (.object "com/example/steward/steward/statement/Token$Type"))]
  resolved := Array.replicate 94 none
  statics := some 0 }

def pool8 : Array CpInfo := pool [(2, .class_ 4), (1, u "java/lang/CharSequence"), (42, .class_ 48), (0, u "java/lang/CharSequence$1CodePointIterator"), (10, .class_ 60), (0, u "java/lang/CharSequence$1CharIterator"), (5, .class_ 67), (0, u "java/lang/Object")] 63

/-- java/lang/CharSequence -/
def k8 : Class := { plain "java/lang/CharSequence" (some 0) with
  accessFlags := 1537
  interfaces := #[]
  cf := some (fileOf pool8 2 #[.nestMembers #[47, 59]] #[] 1537 66 #[] #[])
  fields := #[]
  methods := #[]
  instanceTypes := #[]
  staticTypes := #[]
  resolved := Array.replicate 131 none
  statics := none }

def pool9 : Array CpInfo := pool [(1, .class_ 2), (0, u "java/lang/constant/ConstantDesc"), (0, .class_ 4), (0, u "java/lang/Object")] 32

/-- java/lang/constant/ConstantDesc -/
def k9 : Class := { plain "java/lang/constant/ConstantDesc" (some 0) with
  accessFlags := 1537
  interfaces := #[]
  cf := some (fileOf pool9 1 #[] #[] 1537 3 #[] #[])
  fields := #[]
  methods := #[]
  instanceTypes := #[]
  staticTypes := #[]
  resolved := Array.replicate 37 none
  statics := none }

def pool10 : Array CpInfo := pool [(2, .class_ 4), (1, u "java/lang/Object"), (0, u "<init>"), (0, u "()V"), (3, .class_ 12), (1, u "java/lang/String"), (0, u "value"), (0, u "[B"), (2, u "coder"), (0, u "B"), (2, u "hash"), (0, u "I"), (2, u "hashIsZero"), (0, u "Z"), (13, u "COMPACT_STRINGS"), (534, .class_ 576), (0, u "java/lang/CharSequence"), (22, u "CASE_INSENSITIVE_ORDER"), (0, u "Ljava/util/Comparator;"), (500, u "serialPersistentFields"), (0, u "[Ljava/io/ObjectStreamField;"), (0, .class_ 1104), (0, u "java/lang/String$CaseInsensitiveComparator"), (1, .class_ 1107), (0, u "java/io/Serializable"), (0, .class_ 1109), (0, u "java/lang/Comparable"), (0, .class_ 1111), (0, u "java/lang/constant/Constable"), (0, .class_ 1113), (0, u "java/lang/constant/ConstantDesc"), (2, u "serialVersionUID"), (0, u "J"), (3, u "REPL"), (0, u "C"), (2, u "LATIN1"), (1, u "UTF16")] 323

def k10m0 : Method := { name := "<init>", desc := "()V", sig := { parameters := [], returnType := none }, accessFlags := 1, code := none }
/-- java/lang/String -/
def k10 : Class := { plain "java/lang/String" (some 0) with
  accessFlags := 49
  interfaces := #[5, 4, 8, 3, 9]
  cf := some (fileOf pool10 10 #[.nestMembers #[1103]] #[{ accessFlags := 1, nameIndex := 5, descriptorIndex := 6, attributes := #[] }] 49 2 #[1106, 1108, 575, 1110, 1112] #[{ accessFlags := 18, nameIndex := 13, descriptorIndex := 14, attributes := #[] }, { accessFlags := 18, nameIndex := 17, descriptorIndex := 18, attributes := #[] }, { accessFlags := 2, nameIndex := 21, descriptorIndex := 22, attributes := #[] }, { accessFlags := 2, nameIndex := 25, descriptorIndex := 26, attributes := #[] }, { accessFlags := 26, nameIndex := 1116, descriptorIndex := 1117, attributes := #[] }, { accessFlags := 24, nameIndex := 40, descriptorIndex := 26, attributes := #[] }, { accessFlags := 26, nameIndex := 1101, descriptorIndex := 1102, attributes := #[] }, { accessFlags := 26, nameIndex := 1121, descriptorIndex := 1122, attributes := #[] }, { accessFlags := 25, nameIndex := 599, descriptorIndex := 600, attributes := #[] }, { accessFlags := 24, nameIndex := 1125, descriptorIndex := 18, attributes := #[] }, { accessFlags := 24, nameIndex := 1127, descriptorIndex := 18, attributes := #[] }])
  fields := #[{ name := "value", type := (.array .byte), accessFlags := 18, slot := 0, constantValue := 0 }, { name := "coder", type := .byte, accessFlags := 18, slot := 1, constantValue := 0 }, { name := "hash", type := .int, accessFlags := 2, slot := 2, constantValue := 0 }, { name := "hashIsZero", type := .boolean, accessFlags := 2, slot := 3, constantValue := 0 }, { name := "serialVersionUID", type := .long, accessFlags := 26, slot := 0, constantValue := 0 }, { name := "COMPACT_STRINGS", type := .boolean, accessFlags := 24, slot := 1, constantValue := 0 }, { name := "serialPersistentFields", type := (.array (.object "java/io/ObjectStreamField")), accessFlags := 26, slot := 2, constantValue := 0 }, { name := "REPL", type := .char, accessFlags := 26, slot := 3, constantValue := 0 }, { name := "CASE_INSENSITIVE_ORDER", type := (.object "java/util/Comparator"), accessFlags := 25, slot := 4, constantValue := 0 }, { name := "LATIN1", type := .byte, accessFlags := 24, slot := 5, constantValue := 0 }, { name := "UTF16", type := .byte, accessFlags := 24, slot := 6, constantValue := 0 }]
  methods := #[k10m0]
  instanceTypes := #[(.array .byte), .byte, .int, .boolean]
  staticTypes := #[.long, .boolean, (.array (.object "java/io/ObjectStreamField")), .char, (.object "java/util/Comparator"), .byte, .byte]
  resolved := Array.replicate 1451 none
  statics := none }

def pool11 : Array CpInfo := pool [(1, u "java/lang/Cloneable"), (0, .class_ 1), (0, u "java/lang/Object"), (0, .class_ 3)] 3

/-- java/lang/Cloneable -/
def k11 : Class := { plain "java/lang/Cloneable" (some 0) with
  accessFlags := 1537
  interfaces := #[]
  cf := some (fileOf pool11 2 #[] #[] 1537 4 #[] #[])
  fields := #[]
  methods := #[]
  instanceTypes := #[]
  staticTypes := #[]
  resolved := Array.replicate 8 none
  statics := none }

/-- the primitive byte -/
def k12 : Class := { plain "byte" none with kind := .primitive 'B', accessFlags := 0x411 }
/-- [B -/
def k13 : Class := { plain "[B" (some 0) with kind := .array 12 .byte, interfaces := #[11, 5], accessFlags := 1041 }

/-- the primitive int -/
def k14 : Class := { plain "int" none with kind := .primitive 'I', accessFlags := 0x411 }
/-- [I -/
def k15 : Class := { plain "[I" (some 0) with kind := .array 14 .int, interfaces := #[11, 5], accessFlags := 1041 }

def heap : Heap := #[{ cls := 7, slots := #[.ref 1, .null, .null, .null, .null, .ref 2, .null, .null], vm := .statics 7 },
  { cls := 7, slots := #[.null, .int 0, .int 0, .null], vm := .none },
  { cls := 7, slots := #[.null, .int 1, .int 0, .null], vm := .none }]
def classes : Array Class := #[k0, k1, k2, k3, k4, k5, k6, k7, k8, k9, k10, k11, k12, k13, k14, k15]
def interned : List (Array UInt16 × Addr) := []
def slotsUsed : Nat := 16
def theMethod : MethodId := ⟨1, 1⟩
def args0 : Array Value := #[.int 1, .int 2, .int 3, .int 4, .int 1]
def aboutOver (below : List Frame) : State where
  vm := { classes := classes, interned := interned.toArray }
  heap := heap
  slotsUsed := slotsUsed
  threads := #[{ frames := .invoking theMethod args0 :: below }]
def below0 : List Frame := [.native { method := ⟨0, 0⟩, args := #[] }]
def about1 : State := aboutOver below0
def p0 : Program := .bare "" "" ""
def e0 : Env := launch0.env 0 0 0
theorem w_frames : about1.frames = Frame.invoking theMethod args0 :: below0 := rfl
set_option maxRecDepth 65536 in
theorem w_args : argsFit about1.vm theMethod args0 = true := by decide +kernel
set_option maxRecDepth 65536 in
theorem w_heap : heapFits about1 = true := by decide +kernel
set_option maxRecDepth 65536 in
theorem w_runnable : about1.curStatus? = some .runnable := by decide +kernel
set_option maxRecDepth 65536 in
theorem w_alone : about1.alone = true := by decide +kernel
set_option maxRecDepth 65536 in
theorem w_named : about1.methodNamed? x = some theMethod := by decide +kernel
set_option maxRecDepth 65536 in
theorem w_hears : about1.hears theMethod below0 = true := by decide +kernel
set_option maxRecDepth 65536 in
theorem w_ripe : about1.ripe theMethod args0 below0 = true := by decide +kernel
theorem w_running : about1.status = .running := rfl
set_option maxRecDepth 65536 in
theorem w_room : about1.hasRoom e0.platform room_1 = true :=
  launch0.hasRoom_least _ room_1 (by decide +kernel) (by decide +kernel) (by decide +kernel) (by decide +kernel) (by decide +kernel) (by decide +kernel)
theorem allAtoms_all (ts : List Jvm.Cond) (a : Array Jvm.Value) (st : Jvm.State) : (allAtoms ts).before a st = ts.all (fun c => c.before a st) := by
  induction ts with
  | nil => rfl
  | cons c t ih =>
    show (Jvm.Cond.and c (allAtoms t)).before a st = _
    rw [Jvm.Cond.before_and, ih, List.all_cons]
def words1 : List Jvm.Cond := Jvm.Cond.code x code maxLocals ret :: tables_1
/-- a 'code' word, met by the world's own term for the bytes: nothing is compared byte by byte -/
theorem code_word {y : MethodName} {bytes : ByteArray} {mx : Nat} {rt : Option FieldType} {a : Array Value} {s : State} {m : MethodId} {meth : Method} {c : Code} (h1 : s.methodNamed? y = some m) (h2 : s.vm.method? m = some meth) (h3 : meth.code = some c) (h4 : c.code = bytes)
    (h5 : (c.maxLocals == mx && c.exceptionTable.isEmpty && decide (c.maxStack ≤ mostOperands) && decide (meth.sig.returnType = rt) && !meth.locks && decide (parseMethodDescriptor y.desc = some meth.sig)) = true) : (Jvm.Cond.code y bytes mx rt).before a s = true := by
  simp only [Bool.and_eq_true, beq_iff_eq, Bool.not_eq_true', decide_eq_true_eq] at h5
  obtain ⟨⟨⟨⟨⟨g1, g2⟩, g3⟩, g4⟩, g5⟩, g6⟩ := h5
  simp [Cond.before, Cond.holds, Cond.value, h1, h2, h3, h4, g1, g2, g3, g4, g5, g6]
def isCode : Jvm.Cond → Bool
  | .code _ _ _ _ => true
  | _ => false
theorem all_split {L : List Jvm.Cond} {P : Jvm.Cond → Bool} (h1 : L.all (fun c => isCode c || P c) = true) (h2 : ∀ c ∈ L.filter isCode, P c = true) : L.all P = true := by
  refine List.all_eq_true.mpr fun c hc => ?_
  have h := List.all_eq_true.mp h1 c hc
  rcases Bool.eq_false_or_eq_true (isCode c) with hi | hi
  · exact h2 c (List.mem_filter.mpr ⟨hc, hi⟩)
  · simpa [hi] using h
set_option maxRecDepth 65536 in
theorem w_c0 : (Jvm.Cond.code x code maxLocals ret).before args0 about1 = true := code_word (m := ⟨1, 1⟩) (meth := k1m1) (c := k1c1) (by decide +kernel) rfl rfl rfl (by decide +kernel)
set_option maxRecDepth 65536 in
theorem w_c1 : (Jvm.Cond.code ({ cls := "com/example/steward/steward/statement/Token", name := "<init>", desc := "(Lcom/example/steward/steward/statement/Token$Type;Ljava/lang/String;Ljava/lang/String;IIII)V" } : Jvm.MethodName) prog_29_method_1_code (8 : Nat) (Option.none : Option Jvm.ClassFile.FieldType)).before args0 about1 = true := code_word (m := ⟨2, 0⟩) (meth := k2m0) (c := k2c0) (by decide +kernel) rfl rfl rfl (by decide +kernel)
set_option maxRecDepth 65536 in
theorem w_c2 : (Jvm.Cond.code ({ cls := "java/lang/Object", name := "<init>", desc := "()V" } : Jvm.MethodName) object_method_1_code (1 : Nat) (Option.none : Option Jvm.ClassFile.FieldType)).before args0 about1 = true := code_word (m := ⟨0, 0⟩) (meth := k0m0) (c := k0c0) (by decide +kernel) rfl rfl rfl (by decide +kernel)
set_option maxRecDepth 65536 in
theorem w_c3 : (Jvm.Cond.code ({ cls := "com/example/steward/steward/statement/Token", name := "follows", desc := "(Lcom/example/steward/steward/statement/Token;)Z" } : Jvm.MethodName) prog_29_method_6_code (2 : Nat) (Option.some Jvm.ClassFile.FieldType.boolean)).before args0 about1 = true := code_word (m := ⟨2, 1⟩) (meth := k2m1) (c := k2c1) (by decide +kernel) rfl rfl rfl (by decide +kernel)
def codes1 : List Jvm.Cond := [Jvm.Cond.code x code maxLocals ret, Jvm.Cond.code ({ cls := "com/example/steward/steward/statement/Token", name := "<init>", desc := "(Lcom/example/steward/steward/statement/Token$Type;Ljava/lang/String;Ljava/lang/String;IIII)V" } : Jvm.MethodName) prog_29_method_1_code (8 : Nat) (Option.none : Option Jvm.ClassFile.FieldType), Jvm.Cond.code ({ cls := "java/lang/Object", name := "<init>", desc := "()V" } : Jvm.MethodName) object_method_1_code (1 : Nat) (Option.none : Option Jvm.ClassFile.FieldType), Jvm.Cond.code ({ cls := "com/example/steward/steward/statement/Token", name := "follows", desc := "(Lcom/example/steward/steward/statement/Token;)Z" } : Jvm.MethodName) prog_29_method_6_code (2 : Nat) (Option.some Jvm.ClassFile.FieldType.boolean)]
set_option maxRecDepth 65536 in
theorem codes_eq : words1.filter isCode = codes1 := rfl
theorem w_codes : ∀ c ∈ words1.filter isCode, c.before args0 about1 = true := by
  rw [codes_eq]
  intro c hc
  simp only [codes1, List.mem_cons, List.not_mem_nil, or_false] at hc
  rcases hc with rfl | rfl | rfl | rfl
  · exact w_c0
  · exact w_c1
  · exact w_c2
  · exact w_c3
set_option maxRecDepth 65536 in
theorem w_t1 : (words1.take 24).all (fun c => isCode c || c.before args0 about1) = true := by decide +kernel
set_option maxRecDepth 65536 in
theorem w_t2 : (words1.drop 24).all (fun c => isCode c || c.before args0 about1) = true := by decide +kernel
theorem w_tables : (allAtoms (Jvm.Cond.code x code maxLocals ret :: tables_1)).before args0 about1 = true := by
  rw [allAtoms_all]
  show words1.all (fun c => c.before args0 about1) = true
  refine all_split ?_ w_codes
  rw [← List.take_append_drop 24 words1, List.all_append, w_t1, w_t2]
  rfl
set_option maxRecDepth 65536 in
theorem w_case : (Jvm.Cond.and given_1 narrow_1).before args0 about1 = true := by decide +kernel
theorem w_applies : (headSpec (Jvm.Cond.code x code maxLocals ret :: tables_1) room_1).applies x e0.platform about1 = true :=
  (Spec.applies_iff w_frames).mpr ⟨w_running, w_runnable, w_alone, w_named, w_hears, w_ripe, w_room, w_tables⟩
theorem atStart : AtStart classFile x code maxLocals ret World_1 tables_1 room_1 Calls_1 rest_1 Pre_1 launch0 p0 e0 about1 theMethod args0 below0 :=
  ⟨lists_1, trivial, launch0.admits_env _ _ _, launch0.least_env, fairChoices_fair.cas, fairChoices_fair.clock, w_frames, w_args, w_heap, w_applies, trivial, trivial, w_case⟩
end start1
theorem witness_1 : WitnessClaimed_1 := ⟨start1.p0, start1.e0, start1.about1, start1.theMethod, start1.args0, start1.below0, start1.atStart⟩
end Jvm.Pilot.@@N@@
