import JvmDerived
import JvmDerived.Pilot.@@N@@Statement
import JvmDerived.Pilot.@@N@@Code
set_option linter.unusedVariables false
set_option linter.unusedSimpArgs false
namespace Jvm.RoadKit
open Sem ClassFile Op Lib Jvm.Stand Jvm.Free Jvm.LawKit
section Own
variable {p : Program} {l : Launch} {e : Env} {R : Room} {s : State} {m : MethodId} {args : Array Value} {below : List Frame} {meth : Method} {c : Code} {T : State} {locs : List Loc} {cells slots : Nat}
/-- the run from S ends by a return, with Qp of what it returns, the heap and the places written, within kc cells and ks slots -/
def OwnGo (p : Program) (e : Env) (below : List Frame) (s : State) (Qp : Option Value → Heap → List Loc → Prop) (kc ks : Nat) (S : State) : Prop :=
  ∃ s₂ o, Steps p.tables e below S s₂ ∧ s₂.status = .running ∧ Ended s₂ below o ∧ ∃ v L, o = .returned v ∧ Qp v s₂.heap L ∧ FrameEnd s o s₂ L kc ks
variable {Qp : Option Value → Heap → List Loc → Prop} {kc ks : Nat} {S S' : State}
theorem ownStep (h : ∀ t, Steps p.tables e below S' t → Steps p.tables e below S t) (k : OwnGo p e below s Qp kc ks S') : OwnGo p e below s Qp kc ks S := by
  obtain ⟨s₂, o, h1, r⟩ := k
  exact ⟨s₂, o, h _ h1, r⟩
theorem ownTrans (h : Steps p.tables e below S S') (k : OwnGo p e below s Qp kc ks S') : OwnGo p e below s Qp kc ks S := ownStep (fun _ q => h.trans q) k
theorem ownEnd (X : Stand p l e R s m args below meth c T locs cells slots) {v : Option Value} (hv : meth.sig.returnType = none → v = none) (hlk : meth.locks = false) (hc : cells ≤ kc) (hs : slots ≤ ks) (hq : Qp v T.heap locs)
    (hst : ∀ fs : List Frame, (∀ (f : JFrame) (acts : List Action), f.method = m → f.locked = none → f.entered = [] → (doReturn e (T.setTop f) acts v).1 = T.setFrames fs) → Steps p.tables e below S (T.setFrames fs)) : OwnGo p e below s Qp kc ks S := by
  obtain ⟨fs, hr, hrun, hended, hW, hsame⟩ := X.leave (v := v) hv hlk
  exact ⟨_, _, hst fs hr, hrun, hended, _, _, rfl, hq, ⟨_, rfl⟩, hW, hsame.mono hc hs⟩
theorem ownRetN (X : Stand p l e R s m args below meth c T locs cells slots) (hx : p.tables.exec = Jvm.exec) {pc : Nat} {Ls : Array Slot} {z : Int32} {t : FieldType} {rest : List Value} (hret : meth.sig.returnType = some t) (ht : t = .boolean ∨ t = .byte ∨ t = .char ∨ t = .short) (hd : decode c.code pc = .ok (.ireturn, 1)) (hlk : meth.locks = false) (hc : cells ≤ kc) (hs : slots ≤ ks) (hq : Qp (some (.int (nar t z))) T.heap locs) :
    OwnGo p e below s Qp kc ks (T.setTop (mkF m pc Ls (.int z :: rest))) :=
  ownEnd X (fun h => by rw [hret] at h; cases h) hlk hc hs hq (fun fs hr => retN X hx hret ht hd hr)
theorem ownRetI (X : Stand p l e R s m args below meth c T locs cells slots) (hx : p.tables.exec = Jvm.exec) {pc : Nat} {Ls : Array Slot} {z : Int32} {rest : List Value} (hret : meth.sig.returnType = some .int) (hd : decode c.code pc = .ok (.ireturn, 1)) (hlk : meth.locks = false) (hc : cells ≤ kc) (hs : slots ≤ ks) (hq : Qp (some (.int z)) T.heap locs) :
    OwnGo p e below s Qp kc ks (T.setTop (mkF m pc Ls (.int z :: rest))) :=
  ownEnd X (fun h => by rw [hret] at h; cases h) hlk hc hs hq (fun fs hr => retOut X hx hret rfl (Or.inl ⟨rfl, Or.inl rfl, z, rfl⟩) hd hr)
theorem ownRetA (X : Stand p l e R s m args below meth c T locs cells slots) (hx : p.tables.exec = Jvm.exec) {pc : Nat} {Ls : Array Slot} {w : Value} {t : FieldType} {rest : List Value} (hret : meth.sig.returnType = some t) (hn : narrow t w = w) (ht : t.isReference = true) (hw : w.isRef = true) (hd : decode c.code pc = .ok (.areturn, 1)) (hlk : meth.locks = false) (hc : cells ≤ kc) (hs : slots ≤ ks) (hq : Qp (some w) T.heap locs) :
    OwnGo p e below s Qp kc ks (T.setTop (mkF m pc Ls (w :: rest))) :=
  ownEnd X (fun h => by rw [hret] at h; cases h) hlk hc hs hq (fun fs hr => retOut X hx hret hn (Or.inr (Or.inr (Or.inr (Or.inr ⟨rfl, ht, hw⟩)))) hd hr)
theorem ownRetB (X : Stand p l e R s m args below meth c T locs cells slots) (hx : p.tables.exec = Jvm.exec) {pc : Nat} {Ls : Array Slot} {z : Int32} {t : FieldType} {rest : List Value} (hret : meth.sig.returnType = some t) (ht : t = .int ∨ t = .boolean ∨ t = .byte ∨ t = .char ∨ t = .short) (hn : narrow t (.int z) = .int z) (hd : decode c.code pc = .ok (.ireturn, 1)) (hlk : meth.locks = false) (hc : cells ≤ kc) (hs : slots ≤ ks) (hq : Qp (some (.int z)) T.heap locs) :
    OwnGo p e below s Qp kc ks (T.setTop (mkF m pc Ls (.int z :: rest))) :=
  ownEnd X (fun h => by rw [hret] at h; cases h) hlk hc hs hq (fun fs hr => retOut X hx hret hn (Or.inl ⟨rfl, ht, z, rfl⟩) hd hr)
theorem ownRet0 (X : Stand p l e R s m args below meth c T locs cells slots) (hx : p.tables.exec = Jvm.exec) {pc : Nat} {Ls : Array Slot} (hret : meth.sig.returnType = none) (hd : decode c.code pc = .ok (.return_, 1)) (hlk : meth.locks = false) (hc : cells ≤ kc) (hs : slots ≤ ks) (hq : Qp none T.heap locs) :
    OwnGo p e below s Qp kc ks (T.setTop (mkF m pc Ls [])) :=
  ownEnd X (fun _ => rfl) hlk hc hs hq (fun fs hr => X.returnOut hx hret hd hr)
end Own
section OwnWords
variable {args : Array Value} {first s : State} {o : Option Outcome} {idx : List Nat} {t u : Term} {k : Int32} {x : Addr}
theorem own_eqI (h : (Cond.eq t (.int k)).value args first o s idx = some true) : t.eval args first o idx s = some (.int k) := by
  simp only [Cond.value, Term.eval] at h
  cases ht : t.eval args first o idx s with
  | none => simp [ht] at h
  | some y => cases y <;> simp [ht] at h ⊢ <;> exact h
theorem own_eqR (h : (Cond.eq t u).value args first o s idx = some true) (hu : u.eval args first o idx s = some (.ref x)) : t.eval args first o idx s = some (.ref x) := by
  simp only [Cond.value, hu] at h
  cases ht : t.eval args first o idx s with
  | none => simp [ht] at h
  | some y => cases y <;> simp [ht] at h ⊢ <;> exact h
theorem own_fld {C n d : String} {v : Value} (ht : t.eval args s none [] s = some (.ref x)) (h : (Term.field t C n d).eval args s none [] s = some v) : Fld s s.heap x C n d v :=
  Fld.start (by rw [← fld_at ht]; exact h)
theorem own_len {n : Int32} (ht : t.eval args first o idx s = some (.ref x)) (h : (Term.length t).eval args first o idx s = some (.int n)) {cl : Cell} (hc : s.heap[x]? = some cl) : cl.slots.size < 2 ^ 31 ∧ cl.slots.size.toInt32 = n := by
  obtain ⟨x', cl', e1, e2, e3⟩ := Term.length_spec h
  cases ht.symm.trans e1
  have e4 : cl' = cl := Option.some.inj ((State.arrayAt?_spec e2).1.symm.trans hc)
  subst e4
  simp only [Term.eval, ht, e2, Option.bind_eq_bind, Option.bind_some] at h
  split at h <;> simp_all
end OwnWords
theorem own_pos {x : Int32} (h1 : ¬ x < 0) (h2 : ¬ x = 0) : (0 : Int32) < x := by
  rw [Int32.lt_iff_toInt_lt] at *
  have h3 : x.toInt ≠ (0 : Int32).toInt := fun q => h2 (Int32.toInt_inj.mp q)
  have h4 : (0 : Int32).toInt = 0 := rfl
  omega
theorem own_nlt {x : Int32} (h1 : (0 : Int32) < x) : ¬ x < 0 := by
  rw [Int32.lt_iff_toInt_lt] at *
  have h4 : (0 : Int32).toInt = 0 := rfl
  omega
end Jvm.RoadKit
namespace Jvm.Pilot.@@N@@
open Jvm Jvm.ClassFile Sem Op Lib Jvm.Free Jvm.Stand Jvm.LawKit Jvm.RoadKit Bundle Jvm.Pilot.@@N@@.Jvm.D
theorem d1_0 : decode prog_197_method_5_code 0 = .ok (.aload_n 0, 1) := by decide +kernel
theorem d1_1 : decode prog_197_method_5_code 1 = .ok (.getstatic 3, 3) := by decide +kernel
theorem d1_4 : decode prog_197_method_5_code 4 = .ok (.if_acmp .eq 10, 3) := by decide +kernel
theorem d1_7 : decode prog_197_method_5_code 7 = .ok (.aload_n 0, 1) := by decide +kernel
theorem d1_8 : decode prog_197_method_5_code 8 = .ok (.getstatic 7, 3) := by decide +kernel
theorem d1_11 : decode prog_197_method_5_code 11 = .ok (.if_acmp .ne 7, 3) := by decide +kernel
theorem d1_14 : decode prog_197_method_5_code 14 = .ok (.iconst 1, 1) := by decide +kernel
theorem d1_15 : decode prog_197_method_5_code 15 = .ok (.goto 4, 3) := by decide +kernel
theorem d1_18 : decode prog_197_method_5_code 18 = .ok (.iconst 0, 1) := by decide +kernel
theorem d1_19 : decode prog_197_method_5_code 19 = .ok (.ireturn, 1) := by decide +kernel
theorem own_pd0 : parseMethodDescriptor "()Z" = some ⟨[], some .boolean⟩ := by decide +kernel
def Q1a (Z : State) (a1 : Addr) (w0 : Addr) (w1 : Addr) (h0 : Heap) (n0 : Nat) (v : Option Value) (h : Heap) (L : List Loc) : Prop := v = some (.int 1) ∧ Fr n0 L ∧ h = h0
theorem own_pn_rm1a : plainName "com/example/firing/firing/sql/SpecialVariable" = true := by first | (simp [plainName, overriddenIn]; done) | decide +kernel
theorem own_ef_rm1a (m : MethodId) (x0 : Addr) : entryFrame m #[(.ref x0)] 1 = mkF m 0 #[.val (.ref x0)] [] := by first | (simp [entryFrame, mkF, argsToLocals, Value.category]; done) | rfl
set_option maxRecDepth 65536 in
set_option maxHeartbeats 40000000 in
theorem rm1a (l : Launch) (Z : State) (a0 : Array Value) (hw : ∀ d ∈ tables_1, d.before a0 Z = true) (ws : List Jvm.Cond) (a1 : Addr) (w0 : Addr) (w1 : Addr) (h0 : Heap) (n0 : Nat) (O0 : Old Z n0 h0) (S0 : Sta Z Z.heap "com/example/firing/firing/sql/SpecialVariable" "NEW" "Lcom/example/firing/firing/sql/SpecialVariable;" (.ref w0)) (S1 : Sta Z Z.heap "com/example/firing/firing/sql/SpecialVariable" "OLD" "Lcom/example/firing/firing/sql/SpecialVariable;" (.ref w1)) (h0' : a1 = w0) :
    MetFree l (⟨"com/example/firing/firing/sql/SpecialVariable", "isRecord", "()Z"⟩ : MethodName) (head1 (Jvm.Cond.code (⟨"com/example/firing/firing/sql/SpecialVariable", "isRecord", "()Z"⟩ : MethodName) prog_197_method_5_code 1 (some .boolean) :: ws) ({ frames := 0, cells := 0, slots := 0, locals := 0 } : Room)) (fun a U => a = #[(.ref a1)] ∧ Z.Warmed39 U.vm ∧ U.heap = h0) (fun _ _ _ _ _ => True) (fun _ U o U' => ∃ v L, o = .returned v ∧ Q1a Z a1 w0 w1 h0 n0 v U'.heap L ∧ FrameEnd U o U' L ({ frames := 0, cells := 0, slots := 0, locals := 0 } : Room).cells ({ frames := 0, cells := 0, slots := 0, locals := 0 } : Room).slots) := by
  refine MetFree.of_bodySF (plainFor_of_name own_pn_rm1a) hisR ?_
  intro p e s m args below meth c s₁ Bd hml0 hP hK
  obtain ⟨rfl, hZ, hh⟩ := hP
  have hx := Bd.exec
  have hby := Bd.bytes
  have hml : c.maxLocals = 1 := hml0
  have hown : s.vm.findClass "com/example/firing/firing/sql/SpecialVariable" = some m.cls := findClass_of_methodNamed Bd.named
  have hnm := (name_of_methodNamed Bd.named Bd.method).1
  have X0 : Stand p l e ({ frames := 0, cells := 0, slots := 0, locals := 0 } : Room) s m #[(.ref a1)] below meth c s₁ [] 0 0 := Stand.of_body Bd
  have e0 : s₁.heap = h0 := by rw [← hh, Bd.state]; rfl
  have N0 := Fr.nil n0
  show OwnGo p e below s (Q1a Z a1 w0 w1 h0 n0) ({ frames := 0, cells := 0, slots := 0, locals := 0 } : Room).cells ({ frames := 0, cells := 0, slots := 0, locals := 0 } : Room).slots (s₁.setTop (entryFrame m #[(.ref a1)] 1))
  refine ownStep (fun _ k => castTop (own_ef_rm1a m a1) k) ?_
  show OwnGo _ _ _ _ _ _ _ (s₁.setTop (mkF m 0 #[.val (.ref a1)] []))
  refine ownStep (fun _ k => XS.aloadN X0.here hx rfl (hb hby d1_0) rfl rfl k) ?_
  show OwnGo _ _ _ _ _ _ _ (s₁.setTop (mkF m 1 #[.val (.ref a1)] [(.ref a1)]))
  obtain ⟨T1, X1, e1, st1⟩ := getS2 X0 hx hZ hown (host := "") (Or.inl (hw _ (List.mem_of_getElem? (i := 34) rfl))) Via.refl e0 (S0.ext O0.2) (g := (mkF m 1 #[.val (.ref a1)] [(.ref a1)])) rfl (hb hby d1_1)
  refine ownStep st1 ?_
  show OwnGo _ _ _ _ _ _ _ (T1.setTop (mkF m 4 #[.val (.ref a1)] [(.ref w0), (.ref a1)]))
  refine ownStep (fun _ k => Jvm.RoadKit.acmp (g := (mkF m 4 #[.val (.ref a1)] [(.ref w0), (.ref a1)])) X1 hx rfl rfl rfl (pc0 := 4) (pc' := 14) (same := true) rfl (hb hby d1_4) rfl (decide_eq_true (congrArg Value.ref h0')) (by decide) (by decide) k) ?_
  show OwnGo _ _ _ _ _ _ _ (T1.setTop (mkF m 14 #[.val (.ref a1)] []))
  refine ownStep (fun _ k => XS.iconst X1.here hx rfl (hb hby d1_14) k) ?_
  show OwnGo _ _ _ _ _ _ _ (T1.setTop (mkF m 15 #[.val (.ref a1)] [(.int (1 : Int32))]))
  refine ownStep (fun _ k => XS.goto X1.here hx rfl (pc0 := 15) (pc' := 19) rfl (hb hby d1_15) (by decide) (by decide) k) ?_
  show OwnGo _ _ _ _ _ _ _ (T1.setTop (mkF m 19 #[.val (.ref a1)] [(.int (1 : Int32))]))
  have eq19 : T1.heap = h0 := e1
  exact ownRetN X1 hx (t := .boolean) Bd.returns (by simp) (hb hby d1_19) (BodyLoose.notSynchronized Bd) (by decide) (by decide) (by rw [eq19]; exact ⟨rfl, N0, rfl⟩)
def Q1b (Z : State) (a1 : Addr) (w0 : Addr) (w1 : Addr) (h0 : Heap) (n0 : Nat) (v : Option Value) (h : Heap) (L : List Loc) : Prop := v = some (.int 1) ∧ Fr n0 L ∧ h = h0
theorem own_pn_rm1b : plainName "com/example/firing/firing/sql/SpecialVariable" = true := by first | (simp [plainName, overriddenIn]; done) | decide +kernel
theorem own_ef_rm1b (m : MethodId) (x0 : Addr) : entryFrame m #[(.ref x0)] 1 = mkF m 0 #[.val (.ref x0)] [] := by first | (simp [entryFrame, mkF, argsToLocals, Value.category]; done) | rfl
set_option maxRecDepth 65536 in
set_option maxHeartbeats 40000000 in
theorem rm1b (l : Launch) (Z : State) (a0 : Array Value) (hw : ∀ d ∈ tables_1, d.before a0 Z = true) (ws : List Jvm.Cond) (a1 : Addr) (w0 : Addr) (w1 : Addr) (h0 : Heap) (n0 : Nat) (O0 : Old Z n0 h0) (S0 : Sta Z Z.heap "com/example/firing/firing/sql/SpecialVariable" "NEW" "Lcom/example/firing/firing/sql/SpecialVariable;" (.ref w0)) (S1 : Sta Z Z.heap "com/example/firing/firing/sql/SpecialVariable" "OLD" "Lcom/example/firing/firing/sql/SpecialVariable;" (.ref w1)) (h0' : ¬ (a1 = w0)) (h1' : a1 = w1) :
    MetFree l (⟨"com/example/firing/firing/sql/SpecialVariable", "isRecord", "()Z"⟩ : MethodName) (head1 (Jvm.Cond.code (⟨"com/example/firing/firing/sql/SpecialVariable", "isRecord", "()Z"⟩ : MethodName) prog_197_method_5_code 1 (some .boolean) :: ws) ({ frames := 0, cells := 0, slots := 0, locals := 0 } : Room)) (fun a U => a = #[(.ref a1)] ∧ Z.Warmed39 U.vm ∧ U.heap = h0) (fun _ _ _ _ _ => True) (fun _ U o U' => ∃ v L, o = .returned v ∧ Q1b Z a1 w0 w1 h0 n0 v U'.heap L ∧ FrameEnd U o U' L ({ frames := 0, cells := 0, slots := 0, locals := 0 } : Room).cells ({ frames := 0, cells := 0, slots := 0, locals := 0 } : Room).slots) := by
  refine MetFree.of_bodySF (plainFor_of_name own_pn_rm1b) hisR ?_
  intro p e s m args below meth c s₁ Bd hml0 hP hK
  obtain ⟨rfl, hZ, hh⟩ := hP
  have hx := Bd.exec
  have hby := Bd.bytes
  have hml : c.maxLocals = 1 := hml0
  have hown : s.vm.findClass "com/example/firing/firing/sql/SpecialVariable" = some m.cls := findClass_of_methodNamed Bd.named
  have hnm := (name_of_methodNamed Bd.named Bd.method).1
  have X0 : Stand p l e ({ frames := 0, cells := 0, slots := 0, locals := 0 } : Room) s m #[(.ref a1)] below meth c s₁ [] 0 0 := Stand.of_body Bd
  have e0 : s₁.heap = h0 := by rw [← hh, Bd.state]; rfl
  have N0 := Fr.nil n0
  show OwnGo p e below s (Q1b Z a1 w0 w1 h0 n0) ({ frames := 0, cells := 0, slots := 0, locals := 0 } : Room).cells ({ frames := 0, cells := 0, slots := 0, locals := 0 } : Room).slots (s₁.setTop (entryFrame m #[(.ref a1)] 1))
  refine ownStep (fun _ k => castTop (own_ef_rm1b m a1) k) ?_
  show OwnGo _ _ _ _ _ _ _ (s₁.setTop (mkF m 0 #[.val (.ref a1)] []))
  refine ownStep (fun _ k => XS.aloadN X0.here hx rfl (hb hby d1_0) rfl rfl k) ?_
  show OwnGo _ _ _ _ _ _ _ (s₁.setTop (mkF m 1 #[.val (.ref a1)] [(.ref a1)]))
  obtain ⟨T2, X2, e2, st2⟩ := getS2 X0 hx hZ hown (host := "") (Or.inl (hw _ (List.mem_of_getElem? (i := 34) rfl))) Via.refl e0 (S0.ext O0.2) (g := (mkF m 1 #[.val (.ref a1)] [(.ref a1)])) rfl (hb hby d1_1)
  refine ownStep st2 ?_
  show OwnGo _ _ _ _ _ _ _ (T2.setTop (mkF m 4 #[.val (.ref a1)] [(.ref w0), (.ref a1)]))
  refine ownStep (fun _ k => Jvm.RoadKit.acmp (g := (mkF m 4 #[.val (.ref a1)] [(.ref w0), (.ref a1)])) X2 hx rfl rfl rfl (pc0 := 4) (pc' := 7) (same := false) rfl (hb hby d1_4) rfl (decide_eq_false (fun q => h0' (Value.ref.inj q))) (by decide) (by decide) k) ?_
  show OwnGo _ _ _ _ _ _ _ (T2.setTop (mkF m 7 #[.val (.ref a1)] []))
  refine ownStep (fun _ k => XS.aloadN X2.here hx rfl (hb hby d1_7) rfl rfl k) ?_
  show OwnGo _ _ _ _ _ _ _ (T2.setTop (mkF m 8 #[.val (.ref a1)] [(.ref a1)]))
  obtain ⟨T3, X3, e3, st3⟩ := getS2 X2 hx hZ hown (host := "") (Or.inl (hw _ (List.mem_of_getElem? (i := 35) rfl))) Via.refl e2 (S1.ext O0.2) (g := (mkF m 8 #[.val (.ref a1)] [(.ref a1)])) rfl (hb hby d1_8)
  refine ownStep st3 ?_
  show OwnGo _ _ _ _ _ _ _ (T3.setTop (mkF m 11 #[.val (.ref a1)] [(.ref w1), (.ref a1)]))
  refine ownStep (fun _ k => Jvm.RoadKit.acmp (g := (mkF m 11 #[.val (.ref a1)] [(.ref w1), (.ref a1)])) X3 hx rfl rfl rfl (pc0 := 11) (pc' := 14) (same := true) rfl (hb hby d1_11) rfl (decide_eq_true (congrArg Value.ref h1')) (by decide) (by decide) k) ?_
  show OwnGo _ _ _ _ _ _ _ (T3.setTop (mkF m 14 #[.val (.ref a1)] []))
  refine ownStep (fun _ k => XS.iconst X3.here hx rfl (hb hby d1_14) k) ?_
  show OwnGo _ _ _ _ _ _ _ (T3.setTop (mkF m 15 #[.val (.ref a1)] [(.int (1 : Int32))]))
  refine ownStep (fun _ k => XS.goto X3.here hx rfl (pc0 := 15) (pc' := 19) rfl (hb hby d1_15) (by decide) (by decide) k) ?_
  show OwnGo _ _ _ _ _ _ _ (T3.setTop (mkF m 19 #[.val (.ref a1)] [(.int (1 : Int32))]))
  have eq19 : T3.heap = h0 := e3
  exact ownRetN X3 hx (t := .boolean) Bd.returns (by simp) (hb hby d1_19) (BodyLoose.notSynchronized Bd) (by decide) (by decide) (by rw [eq19]; exact ⟨rfl, N0, rfl⟩)
def Q1c (Z : State) (a1 : Addr) (w0 : Addr) (w1 : Addr) (h0 : Heap) (n0 : Nat) (v : Option Value) (h : Heap) (L : List Loc) : Prop := v = some (.int 0) ∧ Fr n0 L ∧ h = h0
theorem own_pn_rm1c : plainName "com/example/firing/firing/sql/SpecialVariable" = true := by first | (simp [plainName, overriddenIn]; done) | decide +kernel
theorem own_ef_rm1c (m : MethodId) (x0 : Addr) : entryFrame m #[(.ref x0)] 1 = mkF m 0 #[.val (.ref x0)] [] := by first | (simp [entryFrame, mkF, argsToLocals, Value.category]; done) | rfl
set_option maxRecDepth 65536 in
set_option maxHeartbeats 40000000 in
theorem rm1c (l : Launch) (Z : State) (a0 : Array Value) (hw : ∀ d ∈ tables_1, d.before a0 Z = true) (ws : List Jvm.Cond) (a1 : Addr) (w0 : Addr) (w1 : Addr) (h0 : Heap) (n0 : Nat) (O0 : Old Z n0 h0) (S0 : Sta Z Z.heap "com/example/firing/firing/sql/SpecialVariable" "NEW" "Lcom/example/firing/firing/sql/SpecialVariable;" (.ref w0)) (S1 : Sta Z Z.heap "com/example/firing/firing/sql/SpecialVariable" "OLD" "Lcom/example/firing/firing/sql/SpecialVariable;" (.ref w1)) (h0' : ¬ (a1 = w0)) (h1' : ¬ (a1 = w1)) :
    MetFree l (⟨"com/example/firing/firing/sql/SpecialVariable", "isRecord", "()Z"⟩ : MethodName) (head1 (Jvm.Cond.code (⟨"com/example/firing/firing/sql/SpecialVariable", "isRecord", "()Z"⟩ : MethodName) prog_197_method_5_code 1 (some .boolean) :: ws) ({ frames := 0, cells := 0, slots := 0, locals := 0 } : Room)) (fun a U => a = #[(.ref a1)] ∧ Z.Warmed39 U.vm ∧ U.heap = h0) (fun _ _ _ _ _ => True) (fun _ U o U' => ∃ v L, o = .returned v ∧ Q1c Z a1 w0 w1 h0 n0 v U'.heap L ∧ FrameEnd U o U' L ({ frames := 0, cells := 0, slots := 0, locals := 0 } : Room).cells ({ frames := 0, cells := 0, slots := 0, locals := 0 } : Room).slots) := by
  refine MetFree.of_bodySF (plainFor_of_name own_pn_rm1c) hisR ?_
  intro p e s m args below meth c s₁ Bd hml0 hP hK
  obtain ⟨rfl, hZ, hh⟩ := hP
  have hx := Bd.exec
  have hby := Bd.bytes
  have hml : c.maxLocals = 1 := hml0
  have hown : s.vm.findClass "com/example/firing/firing/sql/SpecialVariable" = some m.cls := findClass_of_methodNamed Bd.named
  have hnm := (name_of_methodNamed Bd.named Bd.method).1
  have X0 : Stand p l e ({ frames := 0, cells := 0, slots := 0, locals := 0 } : Room) s m #[(.ref a1)] below meth c s₁ [] 0 0 := Stand.of_body Bd
  have e0 : s₁.heap = h0 := by rw [← hh, Bd.state]; rfl
  have N0 := Fr.nil n0
  show OwnGo p e below s (Q1c Z a1 w0 w1 h0 n0) ({ frames := 0, cells := 0, slots := 0, locals := 0 } : Room).cells ({ frames := 0, cells := 0, slots := 0, locals := 0 } : Room).slots (s₁.setTop (entryFrame m #[(.ref a1)] 1))
  refine ownStep (fun _ k => castTop (own_ef_rm1c m a1) k) ?_
  show OwnGo _ _ _ _ _ _ _ (s₁.setTop (mkF m 0 #[.val (.ref a1)] []))
  refine ownStep (fun _ k => XS.aloadN X0.here hx rfl (hb hby d1_0) rfl rfl k) ?_
  show OwnGo _ _ _ _ _ _ _ (s₁.setTop (mkF m 1 #[.val (.ref a1)] [(.ref a1)]))
  obtain ⟨T4, X4, e4, st4⟩ := getS2 X0 hx hZ hown (host := "") (Or.inl (hw _ (List.mem_of_getElem? (i := 34) rfl))) Via.refl e0 (S0.ext O0.2) (g := (mkF m 1 #[.val (.ref a1)] [(.ref a1)])) rfl (hb hby d1_1)
  refine ownStep st4 ?_
  show OwnGo _ _ _ _ _ _ _ (T4.setTop (mkF m 4 #[.val (.ref a1)] [(.ref w0), (.ref a1)]))
  refine ownStep (fun _ k => Jvm.RoadKit.acmp (g := (mkF m 4 #[.val (.ref a1)] [(.ref w0), (.ref a1)])) X4 hx rfl rfl rfl (pc0 := 4) (pc' := 7) (same := false) rfl (hb hby d1_4) rfl (decide_eq_false (fun q => h0' (Value.ref.inj q))) (by decide) (by decide) k) ?_
  show OwnGo _ _ _ _ _ _ _ (T4.setTop (mkF m 7 #[.val (.ref a1)] []))
  refine ownStep (fun _ k => XS.aloadN X4.here hx rfl (hb hby d1_7) rfl rfl k) ?_
  show OwnGo _ _ _ _ _ _ _ (T4.setTop (mkF m 8 #[.val (.ref a1)] [(.ref a1)]))
  obtain ⟨T5, X5, e5, st5⟩ := getS2 X4 hx hZ hown (host := "") (Or.inl (hw _ (List.mem_of_getElem? (i := 35) rfl))) Via.refl e4 (S1.ext O0.2) (g := (mkF m 8 #[.val (.ref a1)] [(.ref a1)])) rfl (hb hby d1_8)
  refine ownStep st5 ?_
  show OwnGo _ _ _ _ _ _ _ (T5.setTop (mkF m 11 #[.val (.ref a1)] [(.ref w1), (.ref a1)]))
  refine ownStep (fun _ k => Jvm.RoadKit.acmp (g := (mkF m 11 #[.val (.ref a1)] [(.ref w1), (.ref a1)])) X5 hx rfl rfl rfl (pc0 := 11) (pc' := 18) (same := false) rfl (hb hby d1_11) rfl (decide_eq_false (fun q => h1' (Value.ref.inj q))) (by decide) (by decide) k) ?_
  show OwnGo _ _ _ _ _ _ _ (T5.setTop (mkF m 18 #[.val (.ref a1)] []))
  refine ownStep (fun _ k => XS.iconst X5.here hx rfl (hb hby d1_18) k) ?_
  show OwnGo _ _ _ _ _ _ _ (T5.setTop (mkF m 19 #[.val (.ref a1)] [(.int (0 : Int32))]))
  have eq19 : T5.heap = h0 := e5
  exact ownRetN X5 hx (t := .boolean) Bd.returns (by simp) (hb hby d1_19) (BodyLoose.notSynchronized Bd) (by decide) (by decide) (by rw [eq19]; exact ⟨rfl, N0, rfl⟩)
theorem own_cases12 (x : Int32) : ((x &&& (2147483647 : Int32)) % (12 : Int32)) = 0 ∨ ((x &&& (2147483647 : Int32)) % (12 : Int32)) = 1 ∨ ((x &&& (2147483647 : Int32)) % (12 : Int32)) = 2 ∨ ((x &&& (2147483647 : Int32)) % (12 : Int32)) = 3 ∨ ((x &&& (2147483647 : Int32)) % (12 : Int32)) = 4 ∨ ((x &&& (2147483647 : Int32)) % (12 : Int32)) = 5 ∨ ((x &&& (2147483647 : Int32)) % (12 : Int32)) = 6 ∨ ((x &&& (2147483647 : Int32)) % (12 : Int32)) = 7 ∨ ((x &&& (2147483647 : Int32)) % (12 : Int32)) = 8 ∨ ((x &&& (2147483647 : Int32)) % (12 : Int32)) = 9 ∨ ((x &&& (2147483647 : Int32)) % (12 : Int32)) = 10 ∨ ((x &&& (2147483647 : Int32)) % (12 : Int32)) = 11 := by
  have h1 := c_mask x (2147483647 : Int32) 31 (by decide) (by decide)
  have h2 := (c_irem (x &&& (2147483647 : Int32)) (12 : Int32) 12 (by decide)).1 (by rw [h1]; omega)
  generalize (x &&& (2147483647 : Int32)) % (12 : Int32) = k at *
  have e : ∀ j : Int32, k.toInt = j.toInt → k = j := fun j q => Int32.toInt_inj.mp q
  have h3 : k.toInt = 0 ∨ k.toInt = 1 ∨ k.toInt = 2 ∨ k.toInt = 3 ∨ k.toInt = 4 ∨ k.toInt = 5 ∨ k.toInt = 6 ∨ k.toInt = 7 ∨ k.toInt = 8 ∨ k.toInt = 9 ∨ k.toInt = 10 ∨ k.toInt = 11 := by omega
  rcases h3 with h | h | h | h | h | h | h | h | h | h | h | h
  · exact Or.inl (e 0 h)
  · exact Or.inr (Or.inl (e 1 h))
  · exact Or.inr (Or.inr (Or.inl (e 2 h)))
  · exact Or.inr (Or.inr (Or.inr (Or.inl (e 3 h))))
  · exact Or.inr (Or.inr (Or.inr (Or.inr (Or.inl (e 4 h)))))
  · exact Or.inr (Or.inr (Or.inr (Or.inr (Or.inr (Or.inl (e 5 h))))))
  · exact Or.inr (Or.inr (Or.inr (Or.inr (Or.inr (Or.inr (Or.inl (e 6 h)))))))
  · exact Or.inr (Or.inr (Or.inr (Or.inr (Or.inr (Or.inr (Or.inr (Or.inl (e 7 h))))))))
  · exact Or.inr (Or.inr (Or.inr (Or.inr (Or.inr (Or.inr (Or.inr (Or.inr (Or.inl (e 8 h)))))))))
  · exact Or.inr (Or.inr (Or.inr (Or.inr (Or.inr (Or.inr (Or.inr (Or.inr (Or.inr (Or.inl (e 9 h))))))))))
  · exact Or.inr (Or.inr (Or.inr (Or.inr (Or.inr (Or.inr (Or.inr (Or.inr (Or.inr (Or.inr (Or.inl (e 10 h)))))))))))
  · exact Or.inr (Or.inr (Or.inr (Or.inr (Or.inr (Or.inr (Or.inr (Or.inr (Or.inr (Or.inr (Or.inr (e 11 h)))))))))))
def Q0 (Z : State) (p1 : Int32) (w0 : Addr) (w1 : Addr) (w2 : Addr) (w3 : Addr) (w4 : Addr) (w5 : Addr) (w6 : Addr) (w7 : Addr) (w8 : Addr) (w9 : Addr) (w10 : Addr) (w11 : Addr) (h0 : Heap) (n0 : Nat) (v : Option Value) (h : Heap) (L : List Loc) : Prop := v = some (.int 1) ∧ Fr n0 L
theorem own_pn_rm0 : plainName "com/example/firing/firing/sql/SpecialVariableIsRecordPinLaw" = true := by first | (simp [plainName, overriddenIn]; done) | decide +kernel
theorem own_ef_rm0 (m : MethodId) (x0 : Int32) : entryFrame m #[(.int x0)] maxLocals = mkF m 0 #[.val (.int x0), .unset, .unset, .unset] [] := by first | (simp [entryFrame, mkF, argsToLocals, Value.category, maxLocals]; done) | rfl
set_option maxRecDepth 65536 in
set_option maxHeartbeats 40000000 in
theorem rm0 (l : Launch) (Z : State) (a0 : Array Value) (hw : ∀ d ∈ tables_1, d.before a0 Z = true) (ws : List Jvm.Cond) (p1 : Int32) (w0 : Addr) (w1 : Addr) (w2 : Addr) (w3 : Addr) (w4 : Addr) (w5 : Addr) (w6 : Addr) (w7 : Addr) (w8 : Addr) (w9 : Addr) (w10 : Addr) (w11 : Addr) (h0 : Heap) (n0 : Nat) (O0 : Old Z n0 h0) (S0 : Sta Z Z.heap "com/example/firing/firing/sql/SpecialVariable" "NEW" "Lcom/example/firing/firing/sql/SpecialVariable;" (.ref w0)) (S1 : Sta Z Z.heap "com/example/firing/firing/sql/SpecialVariable" "OLD" "Lcom/example/firing/firing/sql/SpecialVariable;" (.ref w1)) (S2 : Sta Z Z.heap "com/example/firing/firing/sql/SpecialVariable" "FOUND" "Lcom/example/firing/firing/sql/SpecialVariable;" (.ref w2)) (S3 : Sta Z Z.heap "com/example/firing/firing/sql/SpecialVariable" "TG_NAME" "Lcom/example/firing/firing/sql/SpecialVariable;" (.ref w3)) (S4 : Sta Z Z.heap "com/example/firing/firing/sql/SpecialVariable" "TG_WHEN" "Lcom/example/firing/firing/sql/SpecialVariable;" (.ref w4)) (S5 : Sta Z Z.heap "com/example/firing/firing/sql/SpecialVariable" "TG_LEVEL" "Lcom/example/firing/firing/sql/SpecialVariable;" (.ref w5)) (S6 : Sta Z Z.heap "com/example/firing/firing/sql/SpecialVariable" "TG_OP" "Lcom/example/firing/firing/sql/SpecialVariable;" (.ref w6)) (S7 : Sta Z Z.heap "com/example/firing/firing/sql/SpecialVariable" "TG_TABLE_NAME" "Lcom/example/firing/firing/sql/SpecialVariable;" (.ref w7)) (S8 : Sta Z Z.heap "com/example/firing/firing/sql/SpecialVariable" "TG_TABLE_SCHEMA" "Lcom/example/firing/firing/sql/SpecialVariable;" (.ref w8)) (S9 : Sta Z Z.heap "com/example/firing/firing/sql/SpecialVariable" "TG_RELNAME" "Lcom/example/firing/firing/sql/SpecialVariable;" (.ref w9)) (S10 : Sta Z Z.heap "com/example/firing/firing/sql/SpecialVariable" "TG_NARGS" "Lcom/example/firing/firing/sql/SpecialVariable;" (.ref w10)) (S11 : Sta Z Z.heap "com/example/firing/firing/sql/SpecialVariable" "TG_ARGV" "Lcom/example/firing/firing/sql/SpecialVariable;" (.ref w11)) (Xe0 : Exa Z Z.heap w0 "com/example/firing/firing/sql/SpecialVariable") (Xe1 : Exa Z Z.heap w1 "com/example/firing/firing/sql/SpecialVariable") (Xe2 : Exa Z Z.heap w2 "com/example/firing/firing/sql/SpecialVariable") (Xe3 : Exa Z Z.heap w3 "com/example/firing/firing/sql/SpecialVariable") (Xe4 : Exa Z Z.heap w4 "com/example/firing/firing/sql/SpecialVariable") (Xe5 : Exa Z Z.heap w5 "com/example/firing/firing/sql/SpecialVariable") (Xe6 : Exa Z Z.heap w6 "com/example/firing/firing/sql/SpecialVariable") (Xe7 : Exa Z Z.heap w7 "com/example/firing/firing/sql/SpecialVariable") (Xe8 : Exa Z Z.heap w8 "com/example/firing/firing/sql/SpecialVariable") (Xe9 : Exa Z Z.heap w9 "com/example/firing/firing/sql/SpecialVariable") (Xe10 : Exa Z Z.heap w10 "com/example/firing/firing/sql/SpecialVariable") (Xe11 : Exa Z Z.heap w11 "com/example/firing/firing/sql/SpecialVariable") (mw1 : ¬ (w1 = w0)) (mw2 : ¬ (w2 = w0)) (mw3 : ¬ (w3 = w0)) (mw4 : ¬ (w4 = w0)) (mw5 : ¬ (w5 = w0)) (mw6 : ¬ (w6 = w0)) (mw7 : ¬ (w7 = w0)) (mw8 : ¬ (w8 = w0)) (mw9 : ¬ (w9 = w0)) (mw10 : ¬ (w10 = w0)) (mw11 : ¬ (w11 = w0)) (kw2 : ¬ (w2 = w1)) (kw3 : ¬ (w3 = w1)) (kw4 : ¬ (w4 = w1)) (kw5 : ¬ (w5 = w1)) (kw6 : ¬ (w6 = w1)) (kw7 : ¬ (w7 = w1)) (kw8 : ¬ (w8 = w1)) (kw9 : ¬ (w9 = w1)) (kw10 : ¬ (w10 = w1)) (kw11 : ¬ (w11 = w1)) :
    MetFree l x (head1 (Jvm.Cond.code x code maxLocals ret :: ws) room_1) (fun a U => a = #[(.int p1)] ∧ Z.Warmed39 U.vm ∧ U.heap = h0) (fun _ _ _ _ _ => True) (fun _ U o U' => ∃ v L, o = .returned v ∧ Q0 Z p1 w0 w1 w2 w3 w4 w5 w6 w7 w8 w9 w10 w11 h0 n0 v U'.heap L ∧ FrameEnd U o U' L room_1.cells room_1.slots) := by
  refine MetFree.of_bodySF (plainFor_of_name own_pn_rm0) hisR ?_
  intro p e s m args below meth c s₁ Bd hml0 hP hK
  obtain ⟨rfl, hZ, hh⟩ := hP
  have hx := Bd.exec
  have hby := Bd.bytes
  have hml : c.maxLocals = 4 := hml0
  have hown : s.vm.findClass "com/example/firing/firing/sql/SpecialVariableIsRecordPinLaw" = some m.cls := findClass_of_methodNamed Bd.named
  have hnm := (name_of_methodNamed Bd.named Bd.method).1
  have X0 : Stand p l e room_1 s m #[(.int p1)] below meth c s₁ [] 0 0 := Stand.of_body Bd
  have e0 : s₁.heap = h0 := by rw [← hh, Bd.state]; rfl
  have N0 := Fr.nil n0
  show OwnGo p e below s (Q0 Z p1 w0 w1 w2 w3 w4 w5 w6 w7 w8 w9 w10 w11 h0 n0) room_1.cells room_1.slots (s₁.setTop (entryFrame m #[(.int p1)] maxLocals))
  refine ownStep (fun _ k => castTop (own_ef_rm0 m p1) k) ?_
  show OwnGo _ _ _ _ _ _ _ (s₁.setTop (mkF m 0 #[.val (.int p1), .unset, .unset, .unset] []))
  refine ownStep (fun _ k => XS.bipush X0.here hx rfl (hb hby at_0) k) ?_
  show OwnGo _ _ _ _ _ _ _ (s₁.setTop (mkF m 2 #[.val (.int p1), .unset, .unset, .unset] [(.int (12 : Int32))]))
  obtain ⟨T6, h6, k6, X6, e6, E6, A6, Ov6, st6⟩ := newR X0 hx hZ hown (hw _ (List.mem_of_getElem? (i := 0) rfl)) (hw _ (List.mem_of_getElem? (i := 1) rfl)) e0 (g := (mkF m 2 #[.val (.int p1), .unset, .unset, .unset] [(.int (12 : Int32))])) rfl (hb hby at_2) rfl (by decide) (cap := 12) (by decide) (by decide) (by decide) (by decide)
  obtain ⟨b6, g6⟩ : ∃ z, z = h0.size := ⟨_, rfl⟩
  rw [← g6] at A6 st6
  refine ownStep st6 ?_
  have ge6 : n0 ≤ b6 := by rw [g6]; exact Nat.le_trans (Nat.le_of_eq O0.1.symm) O0.2.1
  have O6 := O0.ext E6
  show OwnGo _ _ _ _ _ _ _ (T6.setTop (mkF m 5 #[.val (.int p1), .unset, .unset, .unset] [(.ref b6)]))
  have V6 : Arv Z h6 b6 k6 (.object "com/example/firing/firing/sql/SpecialVariable") (12 : Int32) [.null, .null, .null, .null, .null, .null, .null, .null, .null, .null, .null, .null] .null := (Arv.new A6 (by decide)).pad (pad_rep [] .null 12)
  refine ownStep (fun _ k => XS.dup X6.here hx rfl (hb hby at_5) rfl rfl k) ?_
  show OwnGo _ _ _ _ _ _ _ (T6.setTop (mkF m 6 #[.val (.int p1), .unset, .unset, .unset] [(.ref b6), (.ref b6)]))
  refine ownStep (fun _ k => XS.iconst X6.here hx rfl (hb hby at_6) k) ?_
  show OwnGo _ _ _ _ _ _ _ (T6.setTop (mkF m 7 #[.val (.int p1), .unset, .unset, .unset] [(.int (0 : Int32)), (.ref b6), (.ref b6)]))
  obtain ⟨T7, X7, e7, st7⟩ := getS2 X6 hx hZ hown (host := "") (Or.inl (hw _ (List.mem_of_getElem? (i := 2) rfl))) Via.refl e6 (S0.ext O6.2) (g := (mkF m 7 #[.val (.int p1), .unset, .unset, .unset] [(.int (0 : Int32)), (.ref b6), (.ref b6)])) rfl (hb hby at_7)
  refine ownStep st7 ?_
  show OwnGo _ _ _ _ _ _ _ (T7.setTop (mkF m 10 #[.val (.int p1), .unset, .unset, .unset] [(.ref w0), (.int (0 : Int32)), (.ref b6), (.ref b6)]))
  obtain ⟨cla8, Ara8, qa8, Sa8, Pa8, Ha8, Ga8⟩ := id V6
  have hina8 : ¬ ((0 : Int32) < 0 ∨ cla8.slots.size ≤ ((0 : Int32) : Int32).toNatClampNeg) := inb_of Sa8 ⟨by decide, by decide⟩
  obtain ⟨T9, h9, X9, e9, W9, st9⟩ := stR X7 hx hZ e7 Ara8 (j := (0 : Int32)) hina8 rfl (Sto.ofV Ara8 qa8 Ov6 (Ins.self (Xe0.ext O6.2))) (g := (mkF m 10 #[.val (.int p1), .unset, .unset, .unset] [(.ref w0), (.int (0 : Int32)), (.ref b6), (.ref b6)])) rfl rfl (hb hby at_10)
  refine ownStep st9 ?_
  have N9 := Fr.snoc X9 N0 ge6
  have O9 := O6.wr W9 ge6
  show OwnGo _ _ _ _ _ _ _ (T9.setTop (mkF m 11 #[.val (.int p1), .unset, .unset, .unset] [(.ref b6)]))
  have V9 := Arv.set Ara8 qa8 Sa8 Pa8 Ha8 Ga8 rfl W9 0 rfl (Nat.le_of_ble_eq_true rfl)
  refine ownStep (fun _ k => XS.dup X9.here hx rfl (hb hby at_11) rfl rfl k) ?_
  show OwnGo _ _ _ _ _ _ _ (T9.setTop (mkF m 12 #[.val (.int p1), .unset, .unset, .unset] [(.ref b6), (.ref b6)]))
  refine ownStep (fun _ k => XS.iconst X9.here hx rfl (hb hby at_12) k) ?_
  show OwnGo _ _ _ _ _ _ _ (T9.setTop (mkF m 13 #[.val (.int p1), .unset, .unset, .unset] [(.int (1 : Int32)), (.ref b6), (.ref b6)]))
  obtain ⟨T10, X10, e10, st10⟩ := getS2 X9 hx hZ hown (host := "") (Or.inl (hw _ (List.mem_of_getElem? (i := 6) rfl))) Via.refl e9 (S1.ext O9.2) (g := (mkF m 13 #[.val (.int p1), .unset, .unset, .unset] [(.int (1 : Int32)), (.ref b6), (.ref b6)])) rfl (hb hby at_13)
  refine ownStep st10 ?_
  show OwnGo _ _ _ _ _ _ _ (T10.setTop (mkF m 16 #[.val (.int p1), .unset, .unset, .unset] [(.ref w1), (.int (1 : Int32)), (.ref b6), (.ref b6)]))
  obtain ⟨cla11, Ara11, qa11, Sa11, Pa11, Ha11, Ga11⟩ := id V9
  have hina11 : ¬ ((1 : Int32) < 0 ∨ cla11.slots.size ≤ ((1 : Int32) : Int32).toNatClampNeg) := inb_of Sa11 ⟨by decide, by decide⟩
  obtain ⟨T12, h12, X12, e12, W12, st12⟩ := stR X10 hx hZ e10 Ara11 (j := (1 : Int32)) hina11 rfl (Sto.ofV Ara11 qa11 Ov6 (Ins.self (Xe1.ext O9.2))) (g := (mkF m 16 #[.val (.int p1), .unset, .unset, .unset] [(.ref w1), (.int (1 : Int32)), (.ref b6), (.ref b6)])) rfl rfl (hb hby at_16)
  refine ownStep st12 ?_
  have N12 := Fr.snoc X12 N9 ge6
  have O12 := O9.wr W12 ge6
  show OwnGo _ _ _ _ _ _ _ (T12.setTop (mkF m 17 #[.val (.int p1), .unset, .unset, .unset] [(.ref b6)]))
  have V12 := Arv.set Ara11 qa11 Sa11 Pa11 Ha11 Ga11 rfl W12 1 rfl (Nat.le_of_ble_eq_true rfl)
  refine ownStep (fun _ k => XS.dup X12.here hx rfl (hb hby at_17) rfl rfl k) ?_
  show OwnGo _ _ _ _ _ _ _ (T12.setTop (mkF m 18 #[.val (.int p1), .unset, .unset, .unset] [(.ref b6), (.ref b6)]))
  refine ownStep (fun _ k => XS.iconst X12.here hx rfl (hb hby at_18) k) ?_
  show OwnGo _ _ _ _ _ _ _ (T12.setTop (mkF m 19 #[.val (.int p1), .unset, .unset, .unset] [(.int (2 : Int32)), (.ref b6), (.ref b6)]))
  obtain ⟨T13, X13, e13, st13⟩ := getS2 X12 hx hZ hown (host := "") (Or.inl (hw _ (List.mem_of_getElem? (i := 8) rfl))) Via.refl e12 (S2.ext O12.2) (g := (mkF m 19 #[.val (.int p1), .unset, .unset, .unset] [(.int (2 : Int32)), (.ref b6), (.ref b6)])) rfl (hb hby at_19)
  refine ownStep st13 ?_
  show OwnGo _ _ _ _ _ _ _ (T13.setTop (mkF m 22 #[.val (.int p1), .unset, .unset, .unset] [(.ref w2), (.int (2 : Int32)), (.ref b6), (.ref b6)]))
  obtain ⟨cla14, Ara14, qa14, Sa14, Pa14, Ha14, Ga14⟩ := id V12
  have hina14 : ¬ ((2 : Int32) < 0 ∨ cla14.slots.size ≤ ((2 : Int32) : Int32).toNatClampNeg) := inb_of Sa14 ⟨by decide, by decide⟩
  obtain ⟨T15, h15, X15, e15, W15, st15⟩ := stR X13 hx hZ e13 Ara14 (j := (2 : Int32)) hina14 rfl (Sto.ofV Ara14 qa14 Ov6 (Ins.self (Xe2.ext O12.2))) (g := (mkF m 22 #[.val (.int p1), .unset, .unset, .unset] [(.ref w2), (.int (2 : Int32)), (.ref b6), (.ref b6)])) rfl rfl (hb hby at_22)
  refine ownStep st15 ?_
  have N15 := Fr.snoc X15 N12 ge6
  have O15 := O12.wr W15 ge6
  show OwnGo _ _ _ _ _ _ _ (T15.setTop (mkF m 23 #[.val (.int p1), .unset, .unset, .unset] [(.ref b6)]))
  have V15 := Arv.set Ara14 qa14 Sa14 Pa14 Ha14 Ga14 rfl W15 2 rfl (Nat.le_of_ble_eq_true rfl)
  refine ownStep (fun _ k => XS.dup X15.here hx rfl (hb hby at_23) rfl rfl k) ?_
  show OwnGo _ _ _ _ _ _ _ (T15.setTop (mkF m 24 #[.val (.int p1), .unset, .unset, .unset] [(.ref b6), (.ref b6)]))
  refine ownStep (fun _ k => XS.iconst X15.here hx rfl (hb hby at_24) k) ?_
  show OwnGo _ _ _ _ _ _ _ (T15.setTop (mkF m 25 #[.val (.int p1), .unset, .unset, .unset] [(.int (3 : Int32)), (.ref b6), (.ref b6)]))
  obtain ⟨T16, X16, e16, st16⟩ := getS2 X15 hx hZ hown (host := "") (Or.inl (hw _ (List.mem_of_getElem? (i := 10) rfl))) Via.refl e15 (S3.ext O15.2) (g := (mkF m 25 #[.val (.int p1), .unset, .unset, .unset] [(.int (3 : Int32)), (.ref b6), (.ref b6)])) rfl (hb hby at_25)
  refine ownStep st16 ?_
  show OwnGo _ _ _ _ _ _ _ (T16.setTop (mkF m 28 #[.val (.int p1), .unset, .unset, .unset] [(.ref w3), (.int (3 : Int32)), (.ref b6), (.ref b6)]))
  obtain ⟨cla17, Ara17, qa17, Sa17, Pa17, Ha17, Ga17⟩ := id V15
  have hina17 : ¬ ((3 : Int32) < 0 ∨ cla17.slots.size ≤ ((3 : Int32) : Int32).toNatClampNeg) := inb_of Sa17 ⟨by decide, by decide⟩
  obtain ⟨T18, h18, X18, e18, W18, st18⟩ := stR X16 hx hZ e16 Ara17 (j := (3 : Int32)) hina17 rfl (Sto.ofV Ara17 qa17 Ov6 (Ins.self (Xe3.ext O15.2))) (g := (mkF m 28 #[.val (.int p1), .unset, .unset, .unset] [(.ref w3), (.int (3 : Int32)), (.ref b6), (.ref b6)])) rfl rfl (hb hby at_28)
  refine ownStep st18 ?_
  have N18 := Fr.snoc X18 N15 ge6
  have O18 := O15.wr W18 ge6
  show OwnGo _ _ _ _ _ _ _ (T18.setTop (mkF m 29 #[.val (.int p1), .unset, .unset, .unset] [(.ref b6)]))
  have V18 := Arv.set Ara17 qa17 Sa17 Pa17 Ha17 Ga17 rfl W18 3 rfl (Nat.le_of_ble_eq_true rfl)
  refine ownStep (fun _ k => XS.dup X18.here hx rfl (hb hby at_29) rfl rfl k) ?_
  show OwnGo _ _ _ _ _ _ _ (T18.setTop (mkF m 30 #[.val (.int p1), .unset, .unset, .unset] [(.ref b6), (.ref b6)]))
  refine ownStep (fun _ k => XS.iconst X18.here hx rfl (hb hby at_30) k) ?_
  show OwnGo _ _ _ _ _ _ _ (T18.setTop (mkF m 31 #[.val (.int p1), .unset, .unset, .unset] [(.int (4 : Int32)), (.ref b6), (.ref b6)]))
  obtain ⟨T19, X19, e19, st19⟩ := getS2 X18 hx hZ hown (host := "") (Or.inl (hw _ (List.mem_of_getElem? (i := 12) rfl))) Via.refl e18 (S4.ext O18.2) (g := (mkF m 31 #[.val (.int p1), .unset, .unset, .unset] [(.int (4 : Int32)), (.ref b6), (.ref b6)])) rfl (hb hby at_31)
  refine ownStep st19 ?_
  show OwnGo _ _ _ _ _ _ _ (T19.setTop (mkF m 34 #[.val (.int p1), .unset, .unset, .unset] [(.ref w4), (.int (4 : Int32)), (.ref b6), (.ref b6)]))
  obtain ⟨cla20, Ara20, qa20, Sa20, Pa20, Ha20, Ga20⟩ := id V18
  have hina20 : ¬ ((4 : Int32) < 0 ∨ cla20.slots.size ≤ ((4 : Int32) : Int32).toNatClampNeg) := inb_of Sa20 ⟨by decide, by decide⟩
  obtain ⟨T21, h21, X21, e21, W21, st21⟩ := stR X19 hx hZ e19 Ara20 (j := (4 : Int32)) hina20 rfl (Sto.ofV Ara20 qa20 Ov6 (Ins.self (Xe4.ext O18.2))) (g := (mkF m 34 #[.val (.int p1), .unset, .unset, .unset] [(.ref w4), (.int (4 : Int32)), (.ref b6), (.ref b6)])) rfl rfl (hb hby at_34)
  refine ownStep st21 ?_
  have N21 := Fr.snoc X21 N18 ge6
  have O21 := O18.wr W21 ge6
  show OwnGo _ _ _ _ _ _ _ (T21.setTop (mkF m 35 #[.val (.int p1), .unset, .unset, .unset] [(.ref b6)]))
  have V21 := Arv.set Ara20 qa20 Sa20 Pa20 Ha20 Ga20 rfl W21 4 rfl (Nat.le_of_ble_eq_true rfl)
  refine ownStep (fun _ k => XS.dup X21.here hx rfl (hb hby at_35) rfl rfl k) ?_
  show OwnGo _ _ _ _ _ _ _ (T21.setTop (mkF m 36 #[.val (.int p1), .unset, .unset, .unset] [(.ref b6), (.ref b6)]))
  refine ownStep (fun _ k => XS.iconst X21.here hx rfl (hb hby at_36) k) ?_
  show OwnGo _ _ _ _ _ _ _ (T21.setTop (mkF m 37 #[.val (.int p1), .unset, .unset, .unset] [(.int (5 : Int32)), (.ref b6), (.ref b6)]))
  obtain ⟨T22, X22, e22, st22⟩ := getS2 X21 hx hZ hown (host := "") (Or.inl (hw _ (List.mem_of_getElem? (i := 14) rfl))) Via.refl e21 (S5.ext O21.2) (g := (mkF m 37 #[.val (.int p1), .unset, .unset, .unset] [(.int (5 : Int32)), (.ref b6), (.ref b6)])) rfl (hb hby at_37)
  refine ownStep st22 ?_
  show OwnGo _ _ _ _ _ _ _ (T22.setTop (mkF m 40 #[.val (.int p1), .unset, .unset, .unset] [(.ref w5), (.int (5 : Int32)), (.ref b6), (.ref b6)]))
  obtain ⟨cla23, Ara23, qa23, Sa23, Pa23, Ha23, Ga23⟩ := id V21
  have hina23 : ¬ ((5 : Int32) < 0 ∨ cla23.slots.size ≤ ((5 : Int32) : Int32).toNatClampNeg) := inb_of Sa23 ⟨by decide, by decide⟩
  obtain ⟨T24, h24, X24, e24, W24, st24⟩ := stR X22 hx hZ e22 Ara23 (j := (5 : Int32)) hina23 rfl (Sto.ofV Ara23 qa23 Ov6 (Ins.self (Xe5.ext O21.2))) (g := (mkF m 40 #[.val (.int p1), .unset, .unset, .unset] [(.ref w5), (.int (5 : Int32)), (.ref b6), (.ref b6)])) rfl rfl (hb hby at_40)
  refine ownStep st24 ?_
  have N24 := Fr.snoc X24 N21 ge6
  have O24 := O21.wr W24 ge6
  show OwnGo _ _ _ _ _ _ _ (T24.setTop (mkF m 41 #[.val (.int p1), .unset, .unset, .unset] [(.ref b6)]))
  have V24 := Arv.set Ara23 qa23 Sa23 Pa23 Ha23 Ga23 rfl W24 5 rfl (Nat.le_of_ble_eq_true rfl)
  refine ownStep (fun _ k => XS.dup X24.here hx rfl (hb hby at_41) rfl rfl k) ?_
  show OwnGo _ _ _ _ _ _ _ (T24.setTop (mkF m 42 #[.val (.int p1), .unset, .unset, .unset] [(.ref b6), (.ref b6)]))
  refine ownStep (fun _ k => XS.bipush X24.here hx rfl (hb hby at_42) k) ?_
  show OwnGo _ _ _ _ _ _ _ (T24.setTop (mkF m 44 #[.val (.int p1), .unset, .unset, .unset] [(.int (6 : Int32)), (.ref b6), (.ref b6)]))
  obtain ⟨T25, X25, e25, st25⟩ := getS2 X24 hx hZ hown (host := "") (Or.inl (hw _ (List.mem_of_getElem? (i := 16) rfl))) Via.refl e24 (S6.ext O24.2) (g := (mkF m 44 #[.val (.int p1), .unset, .unset, .unset] [(.int (6 : Int32)), (.ref b6), (.ref b6)])) rfl (hb hby at_44)
  refine ownStep st25 ?_
  show OwnGo _ _ _ _ _ _ _ (T25.setTop (mkF m 47 #[.val (.int p1), .unset, .unset, .unset] [(.ref w6), (.int (6 : Int32)), (.ref b6), (.ref b6)]))
  obtain ⟨cla26, Ara26, qa26, Sa26, Pa26, Ha26, Ga26⟩ := id V24
  have hina26 : ¬ ((6 : Int32) < 0 ∨ cla26.slots.size ≤ ((6 : Int32) : Int32).toNatClampNeg) := inb_of Sa26 ⟨by decide, by decide⟩
  obtain ⟨T27, h27, X27, e27, W27, st27⟩ := stR X25 hx hZ e25 Ara26 (j := (6 : Int32)) hina26 rfl (Sto.ofV Ara26 qa26 Ov6 (Ins.self (Xe6.ext O24.2))) (g := (mkF m 47 #[.val (.int p1), .unset, .unset, .unset] [(.ref w6), (.int (6 : Int32)), (.ref b6), (.ref b6)])) rfl rfl (hb hby at_47)
  refine ownStep st27 ?_
  have N27 := Fr.snoc X27 N24 ge6
  have O27 := O24.wr W27 ge6
  show OwnGo _ _ _ _ _ _ _ (T27.setTop (mkF m 48 #[.val (.int p1), .unset, .unset, .unset] [(.ref b6)]))
  have V27 := Arv.set Ara26 qa26 Sa26 Pa26 Ha26 Ga26 rfl W27 6 rfl (Nat.le_of_ble_eq_true rfl)
  refine ownStep (fun _ k => XS.dup X27.here hx rfl (hb hby at_48) rfl rfl k) ?_
  show OwnGo _ _ _ _ _ _ _ (T27.setTop (mkF m 49 #[.val (.int p1), .unset, .unset, .unset] [(.ref b6), (.ref b6)]))
  refine ownStep (fun _ k => XS.bipush X27.here hx rfl (hb hby at_49) k) ?_
  show OwnGo _ _ _ _ _ _ _ (T27.setTop (mkF m 51 #[.val (.int p1), .unset, .unset, .unset] [(.int (7 : Int32)), (.ref b6), (.ref b6)]))
  obtain ⟨T28, X28, e28, st28⟩ := getS2 X27 hx hZ hown (host := "") (Or.inl (hw _ (List.mem_of_getElem? (i := 18) rfl))) Via.refl e27 (S7.ext O27.2) (g := (mkF m 51 #[.val (.int p1), .unset, .unset, .unset] [(.int (7 : Int32)), (.ref b6), (.ref b6)])) rfl (hb hby at_51)
  refine ownStep st28 ?_
  show OwnGo _ _ _ _ _ _ _ (T28.setTop (mkF m 54 #[.val (.int p1), .unset, .unset, .unset] [(.ref w7), (.int (7 : Int32)), (.ref b6), (.ref b6)]))
  obtain ⟨cla29, Ara29, qa29, Sa29, Pa29, Ha29, Ga29⟩ := id V27
  have hina29 : ¬ ((7 : Int32) < 0 ∨ cla29.slots.size ≤ ((7 : Int32) : Int32).toNatClampNeg) := inb_of Sa29 ⟨by decide, by decide⟩
  obtain ⟨T30, h30, X30, e30, W30, st30⟩ := stR X28 hx hZ e28 Ara29 (j := (7 : Int32)) hina29 rfl (Sto.ofV Ara29 qa29 Ov6 (Ins.self (Xe7.ext O27.2))) (g := (mkF m 54 #[.val (.int p1), .unset, .unset, .unset] [(.ref w7), (.int (7 : Int32)), (.ref b6), (.ref b6)])) rfl rfl (hb hby at_54)
  refine ownStep st30 ?_
  have N30 := Fr.snoc X30 N27 ge6
  have O30 := O27.wr W30 ge6
  show OwnGo _ _ _ _ _ _ _ (T30.setTop (mkF m 55 #[.val (.int p1), .unset, .unset, .unset] [(.ref b6)]))
  have V30 := Arv.set Ara29 qa29 Sa29 Pa29 Ha29 Ga29 rfl W30 7 rfl (Nat.le_of_ble_eq_true rfl)
  refine ownStep (fun _ k => XS.dup X30.here hx rfl (hb hby at_55) rfl rfl k) ?_
  show OwnGo _ _ _ _ _ _ _ (T30.setTop (mkF m 56 #[.val (.int p1), .unset, .unset, .unset] [(.ref b6), (.ref b6)]))
  refine ownStep (fun _ k => XS.bipush X30.here hx rfl (hb hby at_56) k) ?_
  show OwnGo _ _ _ _ _ _ _ (T30.setTop (mkF m 58 #[.val (.int p1), .unset, .unset, .unset] [(.int (8 : Int32)), (.ref b6), (.ref b6)]))
  obtain ⟨T31, X31, e31, st31⟩ := getS2 X30 hx hZ hown (host := "") (Or.inl (hw _ (List.mem_of_getElem? (i := 20) rfl))) Via.refl e30 (S8.ext O30.2) (g := (mkF m 58 #[.val (.int p1), .unset, .unset, .unset] [(.int (8 : Int32)), (.ref b6), (.ref b6)])) rfl (hb hby at_58)
  refine ownStep st31 ?_
  show OwnGo _ _ _ _ _ _ _ (T31.setTop (mkF m 61 #[.val (.int p1), .unset, .unset, .unset] [(.ref w8), (.int (8 : Int32)), (.ref b6), (.ref b6)]))
  obtain ⟨cla32, Ara32, qa32, Sa32, Pa32, Ha32, Ga32⟩ := id V30
  have hina32 : ¬ ((8 : Int32) < 0 ∨ cla32.slots.size ≤ ((8 : Int32) : Int32).toNatClampNeg) := inb_of Sa32 ⟨by decide, by decide⟩
  obtain ⟨T33, h33, X33, e33, W33, st33⟩ := stR X31 hx hZ e31 Ara32 (j := (8 : Int32)) hina32 rfl (Sto.ofV Ara32 qa32 Ov6 (Ins.self (Xe8.ext O30.2))) (g := (mkF m 61 #[.val (.int p1), .unset, .unset, .unset] [(.ref w8), (.int (8 : Int32)), (.ref b6), (.ref b6)])) rfl rfl (hb hby at_61)
  refine ownStep st33 ?_
  have N33 := Fr.snoc X33 N30 ge6
  have O33 := O30.wr W33 ge6
  show OwnGo _ _ _ _ _ _ _ (T33.setTop (mkF m 62 #[.val (.int p1), .unset, .unset, .unset] [(.ref b6)]))
  have V33 := Arv.set Ara32 qa32 Sa32 Pa32 Ha32 Ga32 rfl W33 8 rfl (Nat.le_of_ble_eq_true rfl)
  refine ownStep (fun _ k => XS.dup X33.here hx rfl (hb hby at_62) rfl rfl k) ?_
  show OwnGo _ _ _ _ _ _ _ (T33.setTop (mkF m 63 #[.val (.int p1), .unset, .unset, .unset] [(.ref b6), (.ref b6)]))
  refine ownStep (fun _ k => XS.bipush X33.here hx rfl (hb hby at_63) k) ?_
  show OwnGo _ _ _ _ _ _ _ (T33.setTop (mkF m 65 #[.val (.int p1), .unset, .unset, .unset] [(.int (9 : Int32)), (.ref b6), (.ref b6)]))
  obtain ⟨T34, X34, e34, st34⟩ := getS2 X33 hx hZ hown (host := "") (Or.inl (hw _ (List.mem_of_getElem? (i := 22) rfl))) Via.refl e33 (S9.ext O33.2) (g := (mkF m 65 #[.val (.int p1), .unset, .unset, .unset] [(.int (9 : Int32)), (.ref b6), (.ref b6)])) rfl (hb hby at_65)
  refine ownStep st34 ?_
  show OwnGo _ _ _ _ _ _ _ (T34.setTop (mkF m 68 #[.val (.int p1), .unset, .unset, .unset] [(.ref w9), (.int (9 : Int32)), (.ref b6), (.ref b6)]))
  obtain ⟨cla35, Ara35, qa35, Sa35, Pa35, Ha35, Ga35⟩ := id V33
  have hina35 : ¬ ((9 : Int32) < 0 ∨ cla35.slots.size ≤ ((9 : Int32) : Int32).toNatClampNeg) := inb_of Sa35 ⟨by decide, by decide⟩
  obtain ⟨T36, h36, X36, e36, W36, st36⟩ := stR X34 hx hZ e34 Ara35 (j := (9 : Int32)) hina35 rfl (Sto.ofV Ara35 qa35 Ov6 (Ins.self (Xe9.ext O33.2))) (g := (mkF m 68 #[.val (.int p1), .unset, .unset, .unset] [(.ref w9), (.int (9 : Int32)), (.ref b6), (.ref b6)])) rfl rfl (hb hby at_68)
  refine ownStep st36 ?_
  have N36 := Fr.snoc X36 N33 ge6
  have O36 := O33.wr W36 ge6
  show OwnGo _ _ _ _ _ _ _ (T36.setTop (mkF m 69 #[.val (.int p1), .unset, .unset, .unset] [(.ref b6)]))
  have V36 := Arv.set Ara35 qa35 Sa35 Pa35 Ha35 Ga35 rfl W36 9 rfl (Nat.le_of_ble_eq_true rfl)
  refine ownStep (fun _ k => XS.dup X36.here hx rfl (hb hby at_69) rfl rfl k) ?_
  show OwnGo _ _ _ _ _ _ _ (T36.setTop (mkF m 70 #[.val (.int p1), .unset, .unset, .unset] [(.ref b6), (.ref b6)]))
  refine ownStep (fun _ k => XS.bipush X36.here hx rfl (hb hby at_70) k) ?_
  show OwnGo _ _ _ _ _ _ _ (T36.setTop (mkF m 72 #[.val (.int p1), .unset, .unset, .unset] [(.int (10 : Int32)), (.ref b6), (.ref b6)]))
  obtain ⟨T37, X37, e37, st37⟩ := getS2 X36 hx hZ hown (host := "") (Or.inl (hw _ (List.mem_of_getElem? (i := 24) rfl))) Via.refl e36 (S10.ext O36.2) (g := (mkF m 72 #[.val (.int p1), .unset, .unset, .unset] [(.int (10 : Int32)), (.ref b6), (.ref b6)])) rfl (hb hby at_72)
  refine ownStep st37 ?_
  show OwnGo _ _ _ _ _ _ _ (T37.setTop (mkF m 75 #[.val (.int p1), .unset, .unset, .unset] [(.ref w10), (.int (10 : Int32)), (.ref b6), (.ref b6)]))
  obtain ⟨cla38, Ara38, qa38, Sa38, Pa38, Ha38, Ga38⟩ := id V36
  have hina38 : ¬ ((10 : Int32) < 0 ∨ cla38.slots.size ≤ ((10 : Int32) : Int32).toNatClampNeg) := inb_of Sa38 ⟨by decide, by decide⟩
  obtain ⟨T39, h39, X39, e39, W39, st39⟩ := stR X37 hx hZ e37 Ara38 (j := (10 : Int32)) hina38 rfl (Sto.ofV Ara38 qa38 Ov6 (Ins.self (Xe10.ext O36.2))) (g := (mkF m 75 #[.val (.int p1), .unset, .unset, .unset] [(.ref w10), (.int (10 : Int32)), (.ref b6), (.ref b6)])) rfl rfl (hb hby at_75)
  refine ownStep st39 ?_
  have N39 := Fr.snoc X39 N36 ge6
  have O39 := O36.wr W39 ge6
  show OwnGo _ _ _ _ _ _ _ (T39.setTop (mkF m 76 #[.val (.int p1), .unset, .unset, .unset] [(.ref b6)]))
  have V39 := Arv.set Ara38 qa38 Sa38 Pa38 Ha38 Ga38 rfl W39 10 rfl (Nat.le_of_ble_eq_true rfl)
  refine ownStep (fun _ k => XS.dup X39.here hx rfl (hb hby at_76) rfl rfl k) ?_
  show OwnGo _ _ _ _ _ _ _ (T39.setTop (mkF m 77 #[.val (.int p1), .unset, .unset, .unset] [(.ref b6), (.ref b6)]))
  refine ownStep (fun _ k => XS.bipush X39.here hx rfl (hb hby at_77) k) ?_
  show OwnGo _ _ _ _ _ _ _ (T39.setTop (mkF m 79 #[.val (.int p1), .unset, .unset, .unset] [(.int (11 : Int32)), (.ref b6), (.ref b6)]))
  obtain ⟨T40, X40, e40, st40⟩ := getS2 X39 hx hZ hown (host := "") (Or.inl (hw _ (List.mem_of_getElem? (i := 26) rfl))) Via.refl e39 (S11.ext O39.2) (g := (mkF m 79 #[.val (.int p1), .unset, .unset, .unset] [(.int (11 : Int32)), (.ref b6), (.ref b6)])) rfl (hb hby at_79)
  refine ownStep st40 ?_
  show OwnGo _ _ _ _ _ _ _ (T40.setTop (mkF m 82 #[.val (.int p1), .unset, .unset, .unset] [(.ref w11), (.int (11 : Int32)), (.ref b6), (.ref b6)]))
  obtain ⟨cla41, Ara41, qa41, Sa41, Pa41, Ha41, Ga41⟩ := id V39
  have hina41 : ¬ ((11 : Int32) < 0 ∨ cla41.slots.size ≤ ((11 : Int32) : Int32).toNatClampNeg) := inb_of Sa41 ⟨by decide, by decide⟩
  obtain ⟨T42, h42, X42, e42, W42, st42⟩ := stR X40 hx hZ e40 Ara41 (j := (11 : Int32)) hina41 rfl (Sto.ofV Ara41 qa41 Ov6 (Ins.self (Xe11.ext O39.2))) (g := (mkF m 82 #[.val (.int p1), .unset, .unset, .unset] [(.ref w11), (.int (11 : Int32)), (.ref b6), (.ref b6)])) rfl rfl (hb hby at_82)
  refine ownStep st42 ?_
  have N42 := Fr.snoc X42 N39 ge6
  have O42 := O39.wr W42 ge6
  show OwnGo _ _ _ _ _ _ _ (T42.setTop (mkF m 83 #[.val (.int p1), .unset, .unset, .unset] [(.ref b6)]))
  have V42 := Arv.set Ara41 qa41 Sa41 Pa41 Ha41 Ga41 rfl W42 11 rfl (Nat.le_of_ble_eq_true rfl)
  refine ownStep (fun _ k => XS.astoreN X42.here hx rfl (hb hby at_83) rfl rfl (l' := #[.val (.int p1), .val (.ref b6), .unset, .unset]) rfl k) ?_
  show OwnGo _ _ _ _ _ _ _ (T42.setTop (mkF m 84 #[.val (.int p1), .val (.ref b6), .unset, .unset] []))
  refine ownStep (fun _ k => XS.iloadN X42.here hx rfl (hb hby at_84) rfl k) ?_
  show OwnGo _ _ _ _ _ _ _ (T42.setTop (mkF m 85 #[.val (.int p1), .val (.ref b6), .unset, .unset] [(.int p1)]))
  refine ownStep (X42.ldcInt hx hown (mvT hZ (hw _ (List.mem_of_getElem? (i := 28) rfl))) (g := (mkF m 85 #[.val (.int p1), .val (.ref b6), .unset, .unset] [(.int p1)])) rfl (hb hby at_85)) ?_
  show OwnGo _ _ _ _ _ _ _ (T42.setTop (mkF m 87 #[.val (.int p1), .val (.ref b6), .unset, .unset] [(.int (2147483647 : Int32)), (.int p1)]))
  refine ownStep (fun _ k => XS.iand X42.here hx rfl (hb hby at_87) rfl k) ?_
  show OwnGo _ _ _ _ _ _ _ (T42.setTop (mkF m 88 #[.val (.int p1), .val (.ref b6), .unset, .unset] [(.int (p1 &&& (2147483647 : Int32)))]))
  refine ownStep (fun _ k => XS.bipush X42.here hx rfl (hb hby at_88) k) ?_
  show OwnGo _ _ _ _ _ _ _ (T42.setTop (mkF m 90 #[.val (.int p1), .val (.ref b6), .unset, .unset] [(.int (12 : Int32)), (.int (p1 &&& (2147483647 : Int32)))]))
  refine ownStep (fun _ k => Jvm.RoadKit.iremM X42 hx rfl (hb hby at_90) rfl (by decide) k) ?_
  show OwnGo _ _ _ _ _ _ _ (T42.setTop (mkF m 91 #[.val (.int p1), .val (.ref b6), .unset, .unset] [(.int ((p1 &&& (2147483647 : Int32)) % (12 : Int32)))]))
  refine ownStep (fun _ k => XS.istoreN X42.here hx rfl (hb hby at_91) rfl (l' := #[.val (.int p1), .val (.ref b6), .val (.int ((p1 &&& (2147483647 : Int32)) % (12 : Int32))), .unset]) rfl k) ?_
  show OwnGo _ _ _ _ _ _ _ (T42.setTop (mkF m 92 #[.val (.int p1), .val (.ref b6), .val (.int ((p1 &&& (2147483647 : Int32)) % (12 : Int32))), .unset] []))
  rcases own_cases12 p1 with hk | hk | hk | hk | hk | hk | hk | hk | hk | hk | hk | hk
  · rw [hk]
    show OwnGo _ _ _ _ _ _ _ (T42.setTop (mkF m 92 #[.val (.int p1), .val (.ref b6), .val (.int (0 : Int32)), .unset] []))
    refine ownStep (fun _ k => XS.iloadN X42.here hx rfl (hb hby at_92) rfl k) ?_
    show OwnGo _ _ _ _ _ _ _ (T42.setTop (mkF m 93 #[.val (.int p1), .val (.ref b6), .val (.int (0 : Int32)), .unset] [(.int (0 : Int32))]))
    refine ownStep (fun _ k => XS.iconst X42.here hx rfl (hb hby at_93) k) ?_
    show OwnGo _ _ _ _ _ _ _ (T42.setTop (mkF m 94 #[.val (.int p1), .val (.ref b6), .val (.int (0 : Int32)), .unset] [(.int (2 : Int32)), (.int (0 : Int32))]))
    refine ownStep (fun _ k => XS.icmpNo X42.here hx rfl (hb hby at_94) rfl (tlt (by decide : (0 : Int32) < (2 : Int32))).2.1 k) ?_
    show OwnGo _ _ _ _ _ _ _ (T42.setTop (mkF m 97 #[.val (.int p1), .val (.ref b6), .val (.int (0 : Int32)), .unset] []))
    refine ownStep (fun _ k => XS.iconst X42.here hx rfl (hb hby at_97) k) ?_
    show OwnGo _ _ _ _ _ _ _ (T42.setTop (mkF m 98 #[.val (.int p1), .val (.ref b6), .val (.int (0 : Int32)), .unset] [(.int (1 : Int32))]))
    refine ownStep (fun _ k => XS.goto X42.here hx rfl (pc0 := 98) (pc' := 102) rfl (hb hby at_98) (by decide) (by decide) k) ?_
    show OwnGo _ _ _ _ _ _ _ (T42.setTop (mkF m 102 #[.val (.int p1), .val (.ref b6), .val (.int (0 : Int32)), .unset] [(.int (1 : Int32))]))
    refine ownStep (fun _ k => XS.istoreN X42.here hx rfl (hb hby at_102) rfl (l' := #[.val (.int p1), .val (.ref b6), .val (.int (0 : Int32)), .val (.int (1 : Int32))]) rfl k) ?_
    show OwnGo _ _ _ _ _ _ _ (T42.setTop (mkF m 103 #[.val (.int p1), .val (.ref b6), .val (.int (0 : Int32)), .val (.int (1 : Int32))] []))
    refine ownStep (fun _ k => XS.aloadN X42.here hx rfl (hb hby at_103) rfl rfl k) ?_
    show OwnGo _ _ _ _ _ _ _ (T42.setTop (mkF m 104 #[.val (.int p1), .val (.ref b6), .val (.int (0 : Int32)), .val (.int (1 : Int32))] [(.ref b6)]))
    refine ownStep (fun _ k => XS.iloadN X42.here hx rfl (hb hby at_104) rfl k) ?_
    show OwnGo _ _ _ _ _ _ _ (T42.setTop (mkF m 105 #[.val (.int p1), .val (.ref b6), .val (.int (0 : Int32)), .val (.int (1 : Int32))] [(.int (0 : Int32)), (.ref b6)]))
    obtain ⟨cla43, Ara43, qa43, Sa43, Pa43, Ha43, Ga43⟩ := id V42
    have hina43 : ¬ ((0 : Int32) < 0 ∨ cla43.slots.size ≤ ((0 : Int32) : Int32).toNatClampNeg) := inb_of Sa43 ⟨by decide, by decide⟩
    refine ownStep (X42.aaload hx (j := (0 : Int32)) (v := (.ref w0)) (by rw [e42]; exact Ara43.1) (State.isArrayOf_alike hZ.alike Ara43.2.1) rfl Ara43.2.2 hina43 (Has.at Ha43 hina43 rfl) (g := (mkF m 105 #[.val (.int p1), .val (.ref b6), .val (.int (0 : Int32)), .val (.int (1 : Int32))] [(.int (0 : Int32)), (.ref b6)])) rfl rfl (hb hby at_105)) ?_
    show OwnGo _ _ _ _ _ _ _ (T42.setTop (mkF m 106 #[.val (.int p1), .val (.ref b6), .val (.int (0 : Int32)), .val (.int (1 : Int32))] [(.ref w0)]))
    obtain ⟨cq44, kq44, q44a, q44b, q44c⟩ := isOf hZ e42 (Xe0.ext O42.2)
    obtain ⟨_, _, ⟨T44, L44, k44, n44⟩, -, X44, ⟨Lc44, hQ44, l44, y44, z44⟩, st44⟩ := X42.virtualBack hx (y := (⟨"com/example/firing/firing/sql/SpecialVariable", "isRecord", "()Z"⟩ : MethodName)) (z := (⟨"com/example/firing/firing/sql/SpecialVariable", "isRecord", "()Z"⟩ : MethodName)) hown (mvT hZ (hw _ (List.mem_of_getElem? (i := 29) rfl))) (mvT hZ (hw _ (List.mem_of_getElem? (i := 30) rfl))) (notFace_of_selects (args := #[]) (mvT hZ (hw _ (List.mem_of_getElem? (i := 32) rfl)))) (mvT hZ (hw _ (List.mem_of_getElem? (i := 32) rfl))) (mvT hZ (hw _ (List.mem_of_getElem? (i := 31) rfl))) (by decide) (backOf (W := 0) (rm1a l Z a0 hw [] w0 w0 w1 h42 n0 O42 S0 S1 rfl) hZ (hw _ (List.mem_of_getElem? (i := 33) rfl)) (hw _ (List.mem_of_getElem? (i := 3) rfl)) (by decide) (by decide)) q44a q44c (g := (mkF m 106 #[.val (.int p1), .val (.ref b6), .val (.int (0 : Int32)), .val (.int (1 : Int32))] [(.ref w0)])) rfl (by rw [hml]; rfl) (Steps.refl _) (argsL := []) (rest := []) (lenOf own_pd0 rfl) rfl (by show 2 * 0 + _ ≤ _; exact Nat.le_of_eq rfl) (hb hby at_106) (fun _ _ => ⟨rfl, e42, (by decide : 0 + 1 + 0 ≤ _), (by decide : 0 + 12 + 0 ≤ _)⟩)
    dsimp only [Pt.U, Pt.locs, Pt.cells, Pt.slots] at X44 l44 y44 z44 st44 hQ44
    subst l44 y44 z44
    obtain ⟨rfl, N44q, e44⟩ := hQ44
    have N44 := Fr.app N42 N44q
    refine ownTrans st44 ?_
    show OwnGo _ _ _ _ _ _ _ (T44.setTop (mkF m 109 #[.val (.int p1), .val (.ref b6), .val (.int (0 : Int32)), .val (.int (1 : Int32))] [(.int (1 : Int32))]))
    refine ownStep (fun _ k => XS.iloadN X44.here hx rfl (hb hby at_109) rfl k) ?_
    show OwnGo _ _ _ _ _ _ _ (T44.setTop (mkF m 110 #[.val (.int p1), .val (.ref b6), .val (.int (0 : Int32)), .val (.int (1 : Int32))] [(.int (1 : Int32)), (.int (1 : Int32))]))
    refine ownStep (fun _ k => XS.icmpNo X44.here hx rfl (hb hby at_110) rfl (teq (by decide : (1 : Int32) = (1 : Int32))).2 k) ?_
    show OwnGo _ _ _ _ _ _ _ (T44.setTop (mkF m 113 #[.val (.int p1), .val (.ref b6), .val (.int (0 : Int32)), .val (.int (1 : Int32))] []))
    refine ownStep (fun _ k => XS.iconst X44.here hx rfl (hb hby at_113) k) ?_
    show OwnGo _ _ _ _ _ _ _ (T44.setTop (mkF m 114 #[.val (.int p1), .val (.ref b6), .val (.int (0 : Int32)), .val (.int (1 : Int32))] [(.int (1 : Int32))]))
    refine ownStep (fun _ k => XS.goto X44.here hx rfl (pc0 := 114) (pc' := 118) rfl (hb hby at_114) (by decide) (by decide) k) ?_
    show OwnGo _ _ _ _ _ _ _ (T44.setTop (mkF m 118 #[.val (.int p1), .val (.ref b6), .val (.int (0 : Int32)), .val (.int (1 : Int32))] [(.int (1 : Int32))]))
    have eq118 : T44.heap = h42 := e44
    exact ownRetN X44 hx (t := .boolean) Bd.returns (by simp) (hb hby at_118) (BodyLoose.notSynchronized Bd) (by decide) (by decide) (by rw [eq118]; exact ⟨rfl, N44⟩)
  · rw [hk]
    show OwnGo _ _ _ _ _ _ _ (T42.setTop (mkF m 92 #[.val (.int p1), .val (.ref b6), .val (.int (1 : Int32)), .unset] []))
    refine ownStep (fun _ k => XS.iloadN X42.here hx rfl (hb hby at_92) rfl k) ?_
    show OwnGo _ _ _ _ _ _ _ (T42.setTop (mkF m 93 #[.val (.int p1), .val (.ref b6), .val (.int (1 : Int32)), .unset] [(.int (1 : Int32))]))
    refine ownStep (fun _ k => XS.iconst X42.here hx rfl (hb hby at_93) k) ?_
    show OwnGo _ _ _ _ _ _ _ (T42.setTop (mkF m 94 #[.val (.int p1), .val (.ref b6), .val (.int (1 : Int32)), .unset] [(.int (2 : Int32)), (.int (1 : Int32))]))
    refine ownStep (fun _ k => XS.icmpNo X42.here hx rfl (hb hby at_94) rfl (tlt (by decide : (1 : Int32) < (2 : Int32))).2.1 k) ?_
    show OwnGo _ _ _ _ _ _ _ (T42.setTop (mkF m 97 #[.val (.int p1), .val (.ref b6), .val (.int (1 : Int32)), .unset] []))
    refine ownStep (fun _ k => XS.iconst X42.here hx rfl (hb hby at_97) k) ?_
    show OwnGo _ _ _ _ _ _ _ (T42.setTop (mkF m 98 #[.val (.int p1), .val (.ref b6), .val (.int (1 : Int32)), .unset] [(.int (1 : Int32))]))
    refine ownStep (fun _ k => XS.goto X42.here hx rfl (pc0 := 98) (pc' := 102) rfl (hb hby at_98) (by decide) (by decide) k) ?_
    show OwnGo _ _ _ _ _ _ _ (T42.setTop (mkF m 102 #[.val (.int p1), .val (.ref b6), .val (.int (1 : Int32)), .unset] [(.int (1 : Int32))]))
    refine ownStep (fun _ k => XS.istoreN X42.here hx rfl (hb hby at_102) rfl (l' := #[.val (.int p1), .val (.ref b6), .val (.int (1 : Int32)), .val (.int (1 : Int32))]) rfl k) ?_
    show OwnGo _ _ _ _ _ _ _ (T42.setTop (mkF m 103 #[.val (.int p1), .val (.ref b6), .val (.int (1 : Int32)), .val (.int (1 : Int32))] []))
    refine ownStep (fun _ k => XS.aloadN X42.here hx rfl (hb hby at_103) rfl rfl k) ?_
    show OwnGo _ _ _ _ _ _ _ (T42.setTop (mkF m 104 #[.val (.int p1), .val (.ref b6), .val (.int (1 : Int32)), .val (.int (1 : Int32))] [(.ref b6)]))
    refine ownStep (fun _ k => XS.iloadN X42.here hx rfl (hb hby at_104) rfl k) ?_
    show OwnGo _ _ _ _ _ _ _ (T42.setTop (mkF m 105 #[.val (.int p1), .val (.ref b6), .val (.int (1 : Int32)), .val (.int (1 : Int32))] [(.int (1 : Int32)), (.ref b6)]))
    obtain ⟨cla45, Ara45, qa45, Sa45, Pa45, Ha45, Ga45⟩ := id V42
    have hina45 : ¬ ((1 : Int32) < 0 ∨ cla45.slots.size ≤ ((1 : Int32) : Int32).toNatClampNeg) := inb_of Sa45 ⟨by decide, by decide⟩
    refine ownStep (X42.aaload hx (j := (1 : Int32)) (v := (.ref w1)) (by rw [e42]; exact Ara45.1) (State.isArrayOf_alike hZ.alike Ara45.2.1) rfl Ara45.2.2 hina45 (Has.at Ha45 hina45 rfl) (g := (mkF m 105 #[.val (.int p1), .val (.ref b6), .val (.int (1 : Int32)), .val (.int (1 : Int32))] [(.int (1 : Int32)), (.ref b6)])) rfl rfl (hb hby at_105)) ?_
    show OwnGo _ _ _ _ _ _ _ (T42.setTop (mkF m 106 #[.val (.int p1), .val (.ref b6), .val (.int (1 : Int32)), .val (.int (1 : Int32))] [(.ref w1)]))
    obtain ⟨cq46, kq46, q46a, q46b, q46c⟩ := isOf hZ e42 (Xe1.ext O42.2)
    obtain ⟨_, _, ⟨T46, L46, k46, n46⟩, -, X46, ⟨Lc46, hQ46, l46, y46, z46⟩, st46⟩ := X42.virtualBack hx (y := (⟨"com/example/firing/firing/sql/SpecialVariable", "isRecord", "()Z"⟩ : MethodName)) (z := (⟨"com/example/firing/firing/sql/SpecialVariable", "isRecord", "()Z"⟩ : MethodName)) hown (mvT hZ (hw _ (List.mem_of_getElem? (i := 29) rfl))) (mvT hZ (hw _ (List.mem_of_getElem? (i := 30) rfl))) (notFace_of_selects (args := #[]) (mvT hZ (hw _ (List.mem_of_getElem? (i := 32) rfl)))) (mvT hZ (hw _ (List.mem_of_getElem? (i := 32) rfl))) (mvT hZ (hw _ (List.mem_of_getElem? (i := 31) rfl))) (by decide) (backOf (W := 0) (rm1b l Z a0 hw [] w1 w0 w1 h42 n0 O42 S0 S1 mw1 rfl) hZ (hw _ (List.mem_of_getElem? (i := 33) rfl)) (hw _ (List.mem_of_getElem? (i := 3) rfl)) (by decide) (by decide)) q46a q46c (g := (mkF m 106 #[.val (.int p1), .val (.ref b6), .val (.int (1 : Int32)), .val (.int (1 : Int32))] [(.ref w1)])) rfl (by rw [hml]; rfl) (Steps.refl _) (argsL := []) (rest := []) (lenOf own_pd0 rfl) rfl (by show 2 * 0 + _ ≤ _; exact Nat.le_of_eq rfl) (hb hby at_106) (fun _ _ => ⟨rfl, e42, (by decide : 0 + 1 + 0 ≤ _), (by decide : 0 + 12 + 0 ≤ _)⟩)
    dsimp only [Pt.U, Pt.locs, Pt.cells, Pt.slots] at X46 l46 y46 z46 st46 hQ46
    subst l46 y46 z46
    obtain ⟨rfl, N46q, e46⟩ := hQ46
    have N46 := Fr.app N42 N46q
    refine ownTrans st46 ?_
    show OwnGo _ _ _ _ _ _ _ (T46.setTop (mkF m 109 #[.val (.int p1), .val (.ref b6), .val (.int (1 : Int32)), .val (.int (1 : Int32))] [(.int (1 : Int32))]))
    refine ownStep (fun _ k => XS.iloadN X46.here hx rfl (hb hby at_109) rfl k) ?_
    show OwnGo _ _ _ _ _ _ _ (T46.setTop (mkF m 110 #[.val (.int p1), .val (.ref b6), .val (.int (1 : Int32)), .val (.int (1 : Int32))] [(.int (1 : Int32)), (.int (1 : Int32))]))
    refine ownStep (fun _ k => XS.icmpNo X46.here hx rfl (hb hby at_110) rfl (teq (by decide : (1 : Int32) = (1 : Int32))).2 k) ?_
    show OwnGo _ _ _ _ _ _ _ (T46.setTop (mkF m 113 #[.val (.int p1), .val (.ref b6), .val (.int (1 : Int32)), .val (.int (1 : Int32))] []))
    refine ownStep (fun _ k => XS.iconst X46.here hx rfl (hb hby at_113) k) ?_
    show OwnGo _ _ _ _ _ _ _ (T46.setTop (mkF m 114 #[.val (.int p1), .val (.ref b6), .val (.int (1 : Int32)), .val (.int (1 : Int32))] [(.int (1 : Int32))]))
    refine ownStep (fun _ k => XS.goto X46.here hx rfl (pc0 := 114) (pc' := 118) rfl (hb hby at_114) (by decide) (by decide) k) ?_
    show OwnGo _ _ _ _ _ _ _ (T46.setTop (mkF m 118 #[.val (.int p1), .val (.ref b6), .val (.int (1 : Int32)), .val (.int (1 : Int32))] [(.int (1 : Int32))]))
    have eq118 : T46.heap = h42 := e46
    exact ownRetN X46 hx (t := .boolean) Bd.returns (by simp) (hb hby at_118) (BodyLoose.notSynchronized Bd) (by decide) (by decide) (by rw [eq118]; exact ⟨rfl, N46⟩)
  · rw [hk]
    show OwnGo _ _ _ _ _ _ _ (T42.setTop (mkF m 92 #[.val (.int p1), .val (.ref b6), .val (.int (2 : Int32)), .unset] []))
    refine ownStep (fun _ k => XS.iloadN X42.here hx rfl (hb hby at_92) rfl k) ?_
    show OwnGo _ _ _ _ _ _ _ (T42.setTop (mkF m 93 #[.val (.int p1), .val (.ref b6), .val (.int (2 : Int32)), .unset] [(.int (2 : Int32))]))
    refine ownStep (fun _ k => XS.iconst X42.here hx rfl (hb hby at_93) k) ?_
    show OwnGo _ _ _ _ _ _ _ (T42.setTop (mkF m 94 #[.val (.int p1), .val (.ref b6), .val (.int (2 : Int32)), .unset] [(.int (2 : Int32)), (.int (2 : Int32))]))
    refine ownStep (fun _ k => XS.icmpYes X42.here hx rfl (pc0 := 94) (pc' := 101) rfl (hb hby at_94) rfl (flt (by decide : ¬ ((2 : Int32) < (2 : Int32)))).2.1 (by decide) (by decide) k) ?_
    show OwnGo _ _ _ _ _ _ _ (T42.setTop (mkF m 101 #[.val (.int p1), .val (.ref b6), .val (.int (2 : Int32)), .unset] []))
    refine ownStep (fun _ k => XS.iconst X42.here hx rfl (hb hby at_101) k) ?_
    show OwnGo _ _ _ _ _ _ _ (T42.setTop (mkF m 102 #[.val (.int p1), .val (.ref b6), .val (.int (2 : Int32)), .unset] [(.int (0 : Int32))]))
    refine ownStep (fun _ k => XS.istoreN X42.here hx rfl (hb hby at_102) rfl (l' := #[.val (.int p1), .val (.ref b6), .val (.int (2 : Int32)), .val (.int (0 : Int32))]) rfl k) ?_
    show OwnGo _ _ _ _ _ _ _ (T42.setTop (mkF m 103 #[.val (.int p1), .val (.ref b6), .val (.int (2 : Int32)), .val (.int (0 : Int32))] []))
    refine ownStep (fun _ k => XS.aloadN X42.here hx rfl (hb hby at_103) rfl rfl k) ?_
    show OwnGo _ _ _ _ _ _ _ (T42.setTop (mkF m 104 #[.val (.int p1), .val (.ref b6), .val (.int (2 : Int32)), .val (.int (0 : Int32))] [(.ref b6)]))
    refine ownStep (fun _ k => XS.iloadN X42.here hx rfl (hb hby at_104) rfl k) ?_
    show OwnGo _ _ _ _ _ _ _ (T42.setTop (mkF m 105 #[.val (.int p1), .val (.ref b6), .val (.int (2 : Int32)), .val (.int (0 : Int32))] [(.int (2 : Int32)), (.ref b6)]))
    obtain ⟨cla47, Ara47, qa47, Sa47, Pa47, Ha47, Ga47⟩ := id V42
    have hina47 : ¬ ((2 : Int32) < 0 ∨ cla47.slots.size ≤ ((2 : Int32) : Int32).toNatClampNeg) := inb_of Sa47 ⟨by decide, by decide⟩
    refine ownStep (X42.aaload hx (j := (2 : Int32)) (v := (.ref w2)) (by rw [e42]; exact Ara47.1) (State.isArrayOf_alike hZ.alike Ara47.2.1) rfl Ara47.2.2 hina47 (Has.at Ha47 hina47 rfl) (g := (mkF m 105 #[.val (.int p1), .val (.ref b6), .val (.int (2 : Int32)), .val (.int (0 : Int32))] [(.int (2 : Int32)), (.ref b6)])) rfl rfl (hb hby at_105)) ?_
    show OwnGo _ _ _ _ _ _ _ (T42.setTop (mkF m 106 #[.val (.int p1), .val (.ref b6), .val (.int (2 : Int32)), .val (.int (0 : Int32))] [(.ref w2)]))
    obtain ⟨cq48, kq48, q48a, q48b, q48c⟩ := isOf hZ e42 (Xe2.ext O42.2)
    obtain ⟨_, _, ⟨T48, L48, k48, n48⟩, -, X48, ⟨Lc48, hQ48, l48, y48, z48⟩, st48⟩ := X42.virtualBack hx (y := (⟨"com/example/firing/firing/sql/SpecialVariable", "isRecord", "()Z"⟩ : MethodName)) (z := (⟨"com/example/firing/firing/sql/SpecialVariable", "isRecord", "()Z"⟩ : MethodName)) hown (mvT hZ (hw _ (List.mem_of_getElem? (i := 29) rfl))) (mvT hZ (hw _ (List.mem_of_getElem? (i := 30) rfl))) (notFace_of_selects (args := #[]) (mvT hZ (hw _ (List.mem_of_getElem? (i := 32) rfl)))) (mvT hZ (hw _ (List.mem_of_getElem? (i := 32) rfl))) (mvT hZ (hw _ (List.mem_of_getElem? (i := 31) rfl))) (by decide) (backOf (W := 0) (rm1c l Z a0 hw [] w2 w0 w1 h42 n0 O42 S0 S1 mw2 kw2) hZ (hw _ (List.mem_of_getElem? (i := 33) rfl)) (hw _ (List.mem_of_getElem? (i := 3) rfl)) (by decide) (by decide)) q48a q48c (g := (mkF m 106 #[.val (.int p1), .val (.ref b6), .val (.int (2 : Int32)), .val (.int (0 : Int32))] [(.ref w2)])) rfl (by rw [hml]; rfl) (Steps.refl _) (argsL := []) (rest := []) (lenOf own_pd0 rfl) rfl (by show 2 * 0 + _ ≤ _; exact Nat.le_of_eq rfl) (hb hby at_106) (fun _ _ => ⟨rfl, e42, (by decide : 0 + 1 + 0 ≤ _), (by decide : 0 + 12 + 0 ≤ _)⟩)
    dsimp only [Pt.U, Pt.locs, Pt.cells, Pt.slots] at X48 l48 y48 z48 st48 hQ48
    subst l48 y48 z48
    obtain ⟨rfl, N48q, e48⟩ := hQ48
    have N48 := Fr.app N42 N48q
    refine ownTrans st48 ?_
    show OwnGo _ _ _ _ _ _ _ (T48.setTop (mkF m 109 #[.val (.int p1), .val (.ref b6), .val (.int (2 : Int32)), .val (.int (0 : Int32))] [(.int (0 : Int32))]))
    refine ownStep (fun _ k => XS.iloadN X48.here hx rfl (hb hby at_109) rfl k) ?_
    show OwnGo _ _ _ _ _ _ _ (T48.setTop (mkF m 110 #[.val (.int p1), .val (.ref b6), .val (.int (2 : Int32)), .val (.int (0 : Int32))] [(.int (0 : Int32)), (.int (0 : Int32))]))
    refine ownStep (fun _ k => XS.icmpNo X48.here hx rfl (hb hby at_110) rfl (teq (by decide : (0 : Int32) = (0 : Int32))).2 k) ?_
    show OwnGo _ _ _ _ _ _ _ (T48.setTop (mkF m 113 #[.val (.int p1), .val (.ref b6), .val (.int (2 : Int32)), .val (.int (0 : Int32))] []))
    refine ownStep (fun _ k => XS.iconst X48.here hx rfl (hb hby at_113) k) ?_
    show OwnGo _ _ _ _ _ _ _ (T48.setTop (mkF m 114 #[.val (.int p1), .val (.ref b6), .val (.int (2 : Int32)), .val (.int (0 : Int32))] [(.int (1 : Int32))]))
    refine ownStep (fun _ k => XS.goto X48.here hx rfl (pc0 := 114) (pc' := 118) rfl (hb hby at_114) (by decide) (by decide) k) ?_
    show OwnGo _ _ _ _ _ _ _ (T48.setTop (mkF m 118 #[.val (.int p1), .val (.ref b6), .val (.int (2 : Int32)), .val (.int (0 : Int32))] [(.int (1 : Int32))]))
    have eq118 : T48.heap = h42 := e48
    exact ownRetN X48 hx (t := .boolean) Bd.returns (by simp) (hb hby at_118) (BodyLoose.notSynchronized Bd) (by decide) (by decide) (by rw [eq118]; exact ⟨rfl, N48⟩)
  · rw [hk]
    show OwnGo _ _ _ _ _ _ _ (T42.setTop (mkF m 92 #[.val (.int p1), .val (.ref b6), .val (.int (3 : Int32)), .unset] []))
    refine ownStep (fun _ k => XS.iloadN X42.here hx rfl (hb hby at_92) rfl k) ?_
    show OwnGo _ _ _ _ _ _ _ (T42.setTop (mkF m 93 #[.val (.int p1), .val (.ref b6), .val (.int (3 : Int32)), .unset] [(.int (3 : Int32))]))
    refine ownStep (fun _ k => XS.iconst X42.here hx rfl (hb hby at_93) k) ?_
    show OwnGo _ _ _ _ _ _ _ (T42.setTop (mkF m 94 #[.val (.int p1), .val (.ref b6), .val (.int (3 : Int32)), .unset] [(.int (2 : Int32)), (.int (3 : Int32))]))
    refine ownStep (fun _ k => XS.icmpYes X42.here hx rfl (pc0 := 94) (pc' := 101) rfl (hb hby at_94) rfl (flt (by decide : ¬ ((3 : Int32) < (2 : Int32)))).2.1 (by decide) (by decide) k) ?_
    show OwnGo _ _ _ _ _ _ _ (T42.setTop (mkF m 101 #[.val (.int p1), .val (.ref b6), .val (.int (3 : Int32)), .unset] []))
    refine ownStep (fun _ k => XS.iconst X42.here hx rfl (hb hby at_101) k) ?_
    show OwnGo _ _ _ _ _ _ _ (T42.setTop (mkF m 102 #[.val (.int p1), .val (.ref b6), .val (.int (3 : Int32)), .unset] [(.int (0 : Int32))]))
    refine ownStep (fun _ k => XS.istoreN X42.here hx rfl (hb hby at_102) rfl (l' := #[.val (.int p1), .val (.ref b6), .val (.int (3 : Int32)), .val (.int (0 : Int32))]) rfl k) ?_
    show OwnGo _ _ _ _ _ _ _ (T42.setTop (mkF m 103 #[.val (.int p1), .val (.ref b6), .val (.int (3 : Int32)), .val (.int (0 : Int32))] []))
    refine ownStep (fun _ k => XS.aloadN X42.here hx rfl (hb hby at_103) rfl rfl k) ?_
    show OwnGo _ _ _ _ _ _ _ (T42.setTop (mkF m 104 #[.val (.int p1), .val (.ref b6), .val (.int (3 : Int32)), .val (.int (0 : Int32))] [(.ref b6)]))
    refine ownStep (fun _ k => XS.iloadN X42.here hx rfl (hb hby at_104) rfl k) ?_
    show OwnGo _ _ _ _ _ _ _ (T42.setTop (mkF m 105 #[.val (.int p1), .val (.ref b6), .val (.int (3 : Int32)), .val (.int (0 : Int32))] [(.int (3 : Int32)), (.ref b6)]))
    obtain ⟨cla49, Ara49, qa49, Sa49, Pa49, Ha49, Ga49⟩ := id V42
    have hina49 : ¬ ((3 : Int32) < 0 ∨ cla49.slots.size ≤ ((3 : Int32) : Int32).toNatClampNeg) := inb_of Sa49 ⟨by decide, by decide⟩
    refine ownStep (X42.aaload hx (j := (3 : Int32)) (v := (.ref w3)) (by rw [e42]; exact Ara49.1) (State.isArrayOf_alike hZ.alike Ara49.2.1) rfl Ara49.2.2 hina49 (Has.at Ha49 hina49 rfl) (g := (mkF m 105 #[.val (.int p1), .val (.ref b6), .val (.int (3 : Int32)), .val (.int (0 : Int32))] [(.int (3 : Int32)), (.ref b6)])) rfl rfl (hb hby at_105)) ?_
    show OwnGo _ _ _ _ _ _ _ (T42.setTop (mkF m 106 #[.val (.int p1), .val (.ref b6), .val (.int (3 : Int32)), .val (.int (0 : Int32))] [(.ref w3)]))
    obtain ⟨cq50, kq50, q50a, q50b, q50c⟩ := isOf hZ e42 (Xe3.ext O42.2)
    obtain ⟨_, _, ⟨T50, L50, k50, n50⟩, -, X50, ⟨Lc50, hQ50, l50, y50, z50⟩, st50⟩ := X42.virtualBack hx (y := (⟨"com/example/firing/firing/sql/SpecialVariable", "isRecord", "()Z"⟩ : MethodName)) (z := (⟨"com/example/firing/firing/sql/SpecialVariable", "isRecord", "()Z"⟩ : MethodName)) hown (mvT hZ (hw _ (List.mem_of_getElem? (i := 29) rfl))) (mvT hZ (hw _ (List.mem_of_getElem? (i := 30) rfl))) (notFace_of_selects (args := #[]) (mvT hZ (hw _ (List.mem_of_getElem? (i := 32) rfl)))) (mvT hZ (hw _ (List.mem_of_getElem? (i := 32) rfl))) (mvT hZ (hw _ (List.mem_of_getElem? (i := 31) rfl))) (by decide) (backOf (W := 0) (rm1c l Z a0 hw [] w3 w0 w1 h42 n0 O42 S0 S1 mw3 kw3) hZ (hw _ (List.mem_of_getElem? (i := 33) rfl)) (hw _ (List.mem_of_getElem? (i := 3) rfl)) (by decide) (by decide)) q50a q50c (g := (mkF m 106 #[.val (.int p1), .val (.ref b6), .val (.int (3 : Int32)), .val (.int (0 : Int32))] [(.ref w3)])) rfl (by rw [hml]; rfl) (Steps.refl _) (argsL := []) (rest := []) (lenOf own_pd0 rfl) rfl (by show 2 * 0 + _ ≤ _; exact Nat.le_of_eq rfl) (hb hby at_106) (fun _ _ => ⟨rfl, e42, (by decide : 0 + 1 + 0 ≤ _), (by decide : 0 + 12 + 0 ≤ _)⟩)
    dsimp only [Pt.U, Pt.locs, Pt.cells, Pt.slots] at X50 l50 y50 z50 st50 hQ50
    subst l50 y50 z50
    obtain ⟨rfl, N50q, e50⟩ := hQ50
    have N50 := Fr.app N42 N50q
    refine ownTrans st50 ?_
    show OwnGo _ _ _ _ _ _ _ (T50.setTop (mkF m 109 #[.val (.int p1), .val (.ref b6), .val (.int (3 : Int32)), .val (.int (0 : Int32))] [(.int (0 : Int32))]))
    refine ownStep (fun _ k => XS.iloadN X50.here hx rfl (hb hby at_109) rfl k) ?_
    show OwnGo _ _ _ _ _ _ _ (T50.setTop (mkF m 110 #[.val (.int p1), .val (.ref b6), .val (.int (3 : Int32)), .val (.int (0 : Int32))] [(.int (0 : Int32)), (.int (0 : Int32))]))
    refine ownStep (fun _ k => XS.icmpNo X50.here hx rfl (hb hby at_110) rfl (teq (by decide : (0 : Int32) = (0 : Int32))).2 k) ?_
    show OwnGo _ _ _ _ _ _ _ (T50.setTop (mkF m 113 #[.val (.int p1), .val (.ref b6), .val (.int (3 : Int32)), .val (.int (0 : Int32))] []))
    refine ownStep (fun _ k => XS.iconst X50.here hx rfl (hb hby at_113) k) ?_
    show OwnGo _ _ _ _ _ _ _ (T50.setTop (mkF m 114 #[.val (.int p1), .val (.ref b6), .val (.int (3 : Int32)), .val (.int (0 : Int32))] [(.int (1 : Int32))]))
    refine ownStep (fun _ k => XS.goto X50.here hx rfl (pc0 := 114) (pc' := 118) rfl (hb hby at_114) (by decide) (by decide) k) ?_
    show OwnGo _ _ _ _ _ _ _ (T50.setTop (mkF m 118 #[.val (.int p1), .val (.ref b6), .val (.int (3 : Int32)), .val (.int (0 : Int32))] [(.int (1 : Int32))]))
    have eq118 : T50.heap = h42 := e50
    exact ownRetN X50 hx (t := .boolean) Bd.returns (by simp) (hb hby at_118) (BodyLoose.notSynchronized Bd) (by decide) (by decide) (by rw [eq118]; exact ⟨rfl, N50⟩)
  · rw [hk]
    show OwnGo _ _ _ _ _ _ _ (T42.setTop (mkF m 92 #[.val (.int p1), .val (.ref b6), .val (.int (4 : Int32)), .unset] []))
    refine ownStep (fun _ k => XS.iloadN X42.here hx rfl (hb hby at_92) rfl k) ?_
    show OwnGo _ _ _ _ _ _ _ (T42.setTop (mkF m 93 #[.val (.int p1), .val (.ref b6), .val (.int (4 : Int32)), .unset] [(.int (4 : Int32))]))
    refine ownStep (fun _ k => XS.iconst X42.here hx rfl (hb hby at_93) k) ?_
    show OwnGo _ _ _ _ _ _ _ (T42.setTop (mkF m 94 #[.val (.int p1), .val (.ref b6), .val (.int (4 : Int32)), .unset] [(.int (2 : Int32)), (.int (4 : Int32))]))
    refine ownStep (fun _ k => XS.icmpYes X42.here hx rfl (pc0 := 94) (pc' := 101) rfl (hb hby at_94) rfl (flt (by decide : ¬ ((4 : Int32) < (2 : Int32)))).2.1 (by decide) (by decide) k) ?_
    show OwnGo _ _ _ _ _ _ _ (T42.setTop (mkF m 101 #[.val (.int p1), .val (.ref b6), .val (.int (4 : Int32)), .unset] []))
    refine ownStep (fun _ k => XS.iconst X42.here hx rfl (hb hby at_101) k) ?_
    show OwnGo _ _ _ _ _ _ _ (T42.setTop (mkF m 102 #[.val (.int p1), .val (.ref b6), .val (.int (4 : Int32)), .unset] [(.int (0 : Int32))]))
    refine ownStep (fun _ k => XS.istoreN X42.here hx rfl (hb hby at_102) rfl (l' := #[.val (.int p1), .val (.ref b6), .val (.int (4 : Int32)), .val (.int (0 : Int32))]) rfl k) ?_
    show OwnGo _ _ _ _ _ _ _ (T42.setTop (mkF m 103 #[.val (.int p1), .val (.ref b6), .val (.int (4 : Int32)), .val (.int (0 : Int32))] []))
    refine ownStep (fun _ k => XS.aloadN X42.here hx rfl (hb hby at_103) rfl rfl k) ?_
    show OwnGo _ _ _ _ _ _ _ (T42.setTop (mkF m 104 #[.val (.int p1), .val (.ref b6), .val (.int (4 : Int32)), .val (.int (0 : Int32))] [(.ref b6)]))
    refine ownStep (fun _ k => XS.iloadN X42.here hx rfl (hb hby at_104) rfl k) ?_
    show OwnGo _ _ _ _ _ _ _ (T42.setTop (mkF m 105 #[.val (.int p1), .val (.ref b6), .val (.int (4 : Int32)), .val (.int (0 : Int32))] [(.int (4 : Int32)), (.ref b6)]))
    obtain ⟨cla51, Ara51, qa51, Sa51, Pa51, Ha51, Ga51⟩ := id V42
    have hina51 : ¬ ((4 : Int32) < 0 ∨ cla51.slots.size ≤ ((4 : Int32) : Int32).toNatClampNeg) := inb_of Sa51 ⟨by decide, by decide⟩
    refine ownStep (X42.aaload hx (j := (4 : Int32)) (v := (.ref w4)) (by rw [e42]; exact Ara51.1) (State.isArrayOf_alike hZ.alike Ara51.2.1) rfl Ara51.2.2 hina51 (Has.at Ha51 hina51 rfl) (g := (mkF m 105 #[.val (.int p1), .val (.ref b6), .val (.int (4 : Int32)), .val (.int (0 : Int32))] [(.int (4 : Int32)), (.ref b6)])) rfl rfl (hb hby at_105)) ?_
    show OwnGo _ _ _ _ _ _ _ (T42.setTop (mkF m 106 #[.val (.int p1), .val (.ref b6), .val (.int (4 : Int32)), .val (.int (0 : Int32))] [(.ref w4)]))
    obtain ⟨cq52, kq52, q52a, q52b, q52c⟩ := isOf hZ e42 (Xe4.ext O42.2)
    obtain ⟨_, _, ⟨T52, L52, k52, n52⟩, -, X52, ⟨Lc52, hQ52, l52, y52, z52⟩, st52⟩ := X42.virtualBack hx (y := (⟨"com/example/firing/firing/sql/SpecialVariable", "isRecord", "()Z"⟩ : MethodName)) (z := (⟨"com/example/firing/firing/sql/SpecialVariable", "isRecord", "()Z"⟩ : MethodName)) hown (mvT hZ (hw _ (List.mem_of_getElem? (i := 29) rfl))) (mvT hZ (hw _ (List.mem_of_getElem? (i := 30) rfl))) (notFace_of_selects (args := #[]) (mvT hZ (hw _ (List.mem_of_getElem? (i := 32) rfl)))) (mvT hZ (hw _ (List.mem_of_getElem? (i := 32) rfl))) (mvT hZ (hw _ (List.mem_of_getElem? (i := 31) rfl))) (by decide) (backOf (W := 0) (rm1c l Z a0 hw [] w4 w0 w1 h42 n0 O42 S0 S1 mw4 kw4) hZ (hw _ (List.mem_of_getElem? (i := 33) rfl)) (hw _ (List.mem_of_getElem? (i := 3) rfl)) (by decide) (by decide)) q52a q52c (g := (mkF m 106 #[.val (.int p1), .val (.ref b6), .val (.int (4 : Int32)), .val (.int (0 : Int32))] [(.ref w4)])) rfl (by rw [hml]; rfl) (Steps.refl _) (argsL := []) (rest := []) (lenOf own_pd0 rfl) rfl (by show 2 * 0 + _ ≤ _; exact Nat.le_of_eq rfl) (hb hby at_106) (fun _ _ => ⟨rfl, e42, (by decide : 0 + 1 + 0 ≤ _), (by decide : 0 + 12 + 0 ≤ _)⟩)
    dsimp only [Pt.U, Pt.locs, Pt.cells, Pt.slots] at X52 l52 y52 z52 st52 hQ52
    subst l52 y52 z52
    obtain ⟨rfl, N52q, e52⟩ := hQ52
    have N52 := Fr.app N42 N52q
    refine ownTrans st52 ?_
    show OwnGo _ _ _ _ _ _ _ (T52.setTop (mkF m 109 #[.val (.int p1), .val (.ref b6), .val (.int (4 : Int32)), .val (.int (0 : Int32))] [(.int (0 : Int32))]))
    refine ownStep (fun _ k => XS.iloadN X52.here hx rfl (hb hby at_109) rfl k) ?_
    show OwnGo _ _ _ _ _ _ _ (T52.setTop (mkF m 110 #[.val (.int p1), .val (.ref b6), .val (.int (4 : Int32)), .val (.int (0 : Int32))] [(.int (0 : Int32)), (.int (0 : Int32))]))
    refine ownStep (fun _ k => XS.icmpNo X52.here hx rfl (hb hby at_110) rfl (teq (by decide : (0 : Int32) = (0 : Int32))).2 k) ?_
    show OwnGo _ _ _ _ _ _ _ (T52.setTop (mkF m 113 #[.val (.int p1), .val (.ref b6), .val (.int (4 : Int32)), .val (.int (0 : Int32))] []))
    refine ownStep (fun _ k => XS.iconst X52.here hx rfl (hb hby at_113) k) ?_
    show OwnGo _ _ _ _ _ _ _ (T52.setTop (mkF m 114 #[.val (.int p1), .val (.ref b6), .val (.int (4 : Int32)), .val (.int (0 : Int32))] [(.int (1 : Int32))]))
    refine ownStep (fun _ k => XS.goto X52.here hx rfl (pc0 := 114) (pc' := 118) rfl (hb hby at_114) (by decide) (by decide) k) ?_
    show OwnGo _ _ _ _ _ _ _ (T52.setTop (mkF m 118 #[.val (.int p1), .val (.ref b6), .val (.int (4 : Int32)), .val (.int (0 : Int32))] [(.int (1 : Int32))]))
    have eq118 : T52.heap = h42 := e52
    exact ownRetN X52 hx (t := .boolean) Bd.returns (by simp) (hb hby at_118) (BodyLoose.notSynchronized Bd) (by decide) (by decide) (by rw [eq118]; exact ⟨rfl, N52⟩)
  · rw [hk]
    show OwnGo _ _ _ _ _ _ _ (T42.setTop (mkF m 92 #[.val (.int p1), .val (.ref b6), .val (.int (5 : Int32)), .unset] []))
    refine ownStep (fun _ k => XS.iloadN X42.here hx rfl (hb hby at_92) rfl k) ?_
    show OwnGo _ _ _ _ _ _ _ (T42.setTop (mkF m 93 #[.val (.int p1), .val (.ref b6), .val (.int (5 : Int32)), .unset] [(.int (5 : Int32))]))
    refine ownStep (fun _ k => XS.iconst X42.here hx rfl (hb hby at_93) k) ?_
    show OwnGo _ _ _ _ _ _ _ (T42.setTop (mkF m 94 #[.val (.int p1), .val (.ref b6), .val (.int (5 : Int32)), .unset] [(.int (2 : Int32)), (.int (5 : Int32))]))
    refine ownStep (fun _ k => XS.icmpYes X42.here hx rfl (pc0 := 94) (pc' := 101) rfl (hb hby at_94) rfl (flt (by decide : ¬ ((5 : Int32) < (2 : Int32)))).2.1 (by decide) (by decide) k) ?_
    show OwnGo _ _ _ _ _ _ _ (T42.setTop (mkF m 101 #[.val (.int p1), .val (.ref b6), .val (.int (5 : Int32)), .unset] []))
    refine ownStep (fun _ k => XS.iconst X42.here hx rfl (hb hby at_101) k) ?_
    show OwnGo _ _ _ _ _ _ _ (T42.setTop (mkF m 102 #[.val (.int p1), .val (.ref b6), .val (.int (5 : Int32)), .unset] [(.int (0 : Int32))]))
    refine ownStep (fun _ k => XS.istoreN X42.here hx rfl (hb hby at_102) rfl (l' := #[.val (.int p1), .val (.ref b6), .val (.int (5 : Int32)), .val (.int (0 : Int32))]) rfl k) ?_
    show OwnGo _ _ _ _ _ _ _ (T42.setTop (mkF m 103 #[.val (.int p1), .val (.ref b6), .val (.int (5 : Int32)), .val (.int (0 : Int32))] []))
    refine ownStep (fun _ k => XS.aloadN X42.here hx rfl (hb hby at_103) rfl rfl k) ?_
    show OwnGo _ _ _ _ _ _ _ (T42.setTop (mkF m 104 #[.val (.int p1), .val (.ref b6), .val (.int (5 : Int32)), .val (.int (0 : Int32))] [(.ref b6)]))
    refine ownStep (fun _ k => XS.iloadN X42.here hx rfl (hb hby at_104) rfl k) ?_
    show OwnGo _ _ _ _ _ _ _ (T42.setTop (mkF m 105 #[.val (.int p1), .val (.ref b6), .val (.int (5 : Int32)), .val (.int (0 : Int32))] [(.int (5 : Int32)), (.ref b6)]))
    obtain ⟨cla53, Ara53, qa53, Sa53, Pa53, Ha53, Ga53⟩ := id V42
    have hina53 : ¬ ((5 : Int32) < 0 ∨ cla53.slots.size ≤ ((5 : Int32) : Int32).toNatClampNeg) := inb_of Sa53 ⟨by decide, by decide⟩
    refine ownStep (X42.aaload hx (j := (5 : Int32)) (v := (.ref w5)) (by rw [e42]; exact Ara53.1) (State.isArrayOf_alike hZ.alike Ara53.2.1) rfl Ara53.2.2 hina53 (Has.at Ha53 hina53 rfl) (g := (mkF m 105 #[.val (.int p1), .val (.ref b6), .val (.int (5 : Int32)), .val (.int (0 : Int32))] [(.int (5 : Int32)), (.ref b6)])) rfl rfl (hb hby at_105)) ?_
    show OwnGo _ _ _ _ _ _ _ (T42.setTop (mkF m 106 #[.val (.int p1), .val (.ref b6), .val (.int (5 : Int32)), .val (.int (0 : Int32))] [(.ref w5)]))
    obtain ⟨cq54, kq54, q54a, q54b, q54c⟩ := isOf hZ e42 (Xe5.ext O42.2)
    obtain ⟨_, _, ⟨T54, L54, k54, n54⟩, -, X54, ⟨Lc54, hQ54, l54, y54, z54⟩, st54⟩ := X42.virtualBack hx (y := (⟨"com/example/firing/firing/sql/SpecialVariable", "isRecord", "()Z"⟩ : MethodName)) (z := (⟨"com/example/firing/firing/sql/SpecialVariable", "isRecord", "()Z"⟩ : MethodName)) hown (mvT hZ (hw _ (List.mem_of_getElem? (i := 29) rfl))) (mvT hZ (hw _ (List.mem_of_getElem? (i := 30) rfl))) (notFace_of_selects (args := #[]) (mvT hZ (hw _ (List.mem_of_getElem? (i := 32) rfl)))) (mvT hZ (hw _ (List.mem_of_getElem? (i := 32) rfl))) (mvT hZ (hw _ (List.mem_of_getElem? (i := 31) rfl))) (by decide) (backOf (W := 0) (rm1c l Z a0 hw [] w5 w0 w1 h42 n0 O42 S0 S1 mw5 kw5) hZ (hw _ (List.mem_of_getElem? (i := 33) rfl)) (hw _ (List.mem_of_getElem? (i := 3) rfl)) (by decide) (by decide)) q54a q54c (g := (mkF m 106 #[.val (.int p1), .val (.ref b6), .val (.int (5 : Int32)), .val (.int (0 : Int32))] [(.ref w5)])) rfl (by rw [hml]; rfl) (Steps.refl _) (argsL := []) (rest := []) (lenOf own_pd0 rfl) rfl (by show 2 * 0 + _ ≤ _; exact Nat.le_of_eq rfl) (hb hby at_106) (fun _ _ => ⟨rfl, e42, (by decide : 0 + 1 + 0 ≤ _), (by decide : 0 + 12 + 0 ≤ _)⟩)
    dsimp only [Pt.U, Pt.locs, Pt.cells, Pt.slots] at X54 l54 y54 z54 st54 hQ54
    subst l54 y54 z54
    obtain ⟨rfl, N54q, e54⟩ := hQ54
    have N54 := Fr.app N42 N54q
    refine ownTrans st54 ?_
    show OwnGo _ _ _ _ _ _ _ (T54.setTop (mkF m 109 #[.val (.int p1), .val (.ref b6), .val (.int (5 : Int32)), .val (.int (0 : Int32))] [(.int (0 : Int32))]))
    refine ownStep (fun _ k => XS.iloadN X54.here hx rfl (hb hby at_109) rfl k) ?_
    show OwnGo _ _ _ _ _ _ _ (T54.setTop (mkF m 110 #[.val (.int p1), .val (.ref b6), .val (.int (5 : Int32)), .val (.int (0 : Int32))] [(.int (0 : Int32)), (.int (0 : Int32))]))
    refine ownStep (fun _ k => XS.icmpNo X54.here hx rfl (hb hby at_110) rfl (teq (by decide : (0 : Int32) = (0 : Int32))).2 k) ?_
    show OwnGo _ _ _ _ _ _ _ (T54.setTop (mkF m 113 #[.val (.int p1), .val (.ref b6), .val (.int (5 : Int32)), .val (.int (0 : Int32))] []))
    refine ownStep (fun _ k => XS.iconst X54.here hx rfl (hb hby at_113) k) ?_
    show OwnGo _ _ _ _ _ _ _ (T54.setTop (mkF m 114 #[.val (.int p1), .val (.ref b6), .val (.int (5 : Int32)), .val (.int (0 : Int32))] [(.int (1 : Int32))]))
    refine ownStep (fun _ k => XS.goto X54.here hx rfl (pc0 := 114) (pc' := 118) rfl (hb hby at_114) (by decide) (by decide) k) ?_
    show OwnGo _ _ _ _ _ _ _ (T54.setTop (mkF m 118 #[.val (.int p1), .val (.ref b6), .val (.int (5 : Int32)), .val (.int (0 : Int32))] [(.int (1 : Int32))]))
    have eq118 : T54.heap = h42 := e54
    exact ownRetN X54 hx (t := .boolean) Bd.returns (by simp) (hb hby at_118) (BodyLoose.notSynchronized Bd) (by decide) (by decide) (by rw [eq118]; exact ⟨rfl, N54⟩)
  · rw [hk]
    show OwnGo _ _ _ _ _ _ _ (T42.setTop (mkF m 92 #[.val (.int p1), .val (.ref b6), .val (.int (6 : Int32)), .unset] []))
    refine ownStep (fun _ k => XS.iloadN X42.here hx rfl (hb hby at_92) rfl k) ?_
    show OwnGo _ _ _ _ _ _ _ (T42.setTop (mkF m 93 #[.val (.int p1), .val (.ref b6), .val (.int (6 : Int32)), .unset] [(.int (6 : Int32))]))
    refine ownStep (fun _ k => XS.iconst X42.here hx rfl (hb hby at_93) k) ?_
    show OwnGo _ _ _ _ _ _ _ (T42.setTop (mkF m 94 #[.val (.int p1), .val (.ref b6), .val (.int (6 : Int32)), .unset] [(.int (2 : Int32)), (.int (6 : Int32))]))
    refine ownStep (fun _ k => XS.icmpYes X42.here hx rfl (pc0 := 94) (pc' := 101) rfl (hb hby at_94) rfl (flt (by decide : ¬ ((6 : Int32) < (2 : Int32)))).2.1 (by decide) (by decide) k) ?_
    show OwnGo _ _ _ _ _ _ _ (T42.setTop (mkF m 101 #[.val (.int p1), .val (.ref b6), .val (.int (6 : Int32)), .unset] []))
    refine ownStep (fun _ k => XS.iconst X42.here hx rfl (hb hby at_101) k) ?_
    show OwnGo _ _ _ _ _ _ _ (T42.setTop (mkF m 102 #[.val (.int p1), .val (.ref b6), .val (.int (6 : Int32)), .unset] [(.int (0 : Int32))]))
    refine ownStep (fun _ k => XS.istoreN X42.here hx rfl (hb hby at_102) rfl (l' := #[.val (.int p1), .val (.ref b6), .val (.int (6 : Int32)), .val (.int (0 : Int32))]) rfl k) ?_
    show OwnGo _ _ _ _ _ _ _ (T42.setTop (mkF m 103 #[.val (.int p1), .val (.ref b6), .val (.int (6 : Int32)), .val (.int (0 : Int32))] []))
    refine ownStep (fun _ k => XS.aloadN X42.here hx rfl (hb hby at_103) rfl rfl k) ?_
    show OwnGo _ _ _ _ _ _ _ (T42.setTop (mkF m 104 #[.val (.int p1), .val (.ref b6), .val (.int (6 : Int32)), .val (.int (0 : Int32))] [(.ref b6)]))
    refine ownStep (fun _ k => XS.iloadN X42.here hx rfl (hb hby at_104) rfl k) ?_
    show OwnGo _ _ _ _ _ _ _ (T42.setTop (mkF m 105 #[.val (.int p1), .val (.ref b6), .val (.int (6 : Int32)), .val (.int (0 : Int32))] [(.int (6 : Int32)), (.ref b6)]))
    obtain ⟨cla55, Ara55, qa55, Sa55, Pa55, Ha55, Ga55⟩ := id V42
    have hina55 : ¬ ((6 : Int32) < 0 ∨ cla55.slots.size ≤ ((6 : Int32) : Int32).toNatClampNeg) := inb_of Sa55 ⟨by decide, by decide⟩
    refine ownStep (X42.aaload hx (j := (6 : Int32)) (v := (.ref w6)) (by rw [e42]; exact Ara55.1) (State.isArrayOf_alike hZ.alike Ara55.2.1) rfl Ara55.2.2 hina55 (Has.at Ha55 hina55 rfl) (g := (mkF m 105 #[.val (.int p1), .val (.ref b6), .val (.int (6 : Int32)), .val (.int (0 : Int32))] [(.int (6 : Int32)), (.ref b6)])) rfl rfl (hb hby at_105)) ?_
    show OwnGo _ _ _ _ _ _ _ (T42.setTop (mkF m 106 #[.val (.int p1), .val (.ref b6), .val (.int (6 : Int32)), .val (.int (0 : Int32))] [(.ref w6)]))
    obtain ⟨cq56, kq56, q56a, q56b, q56c⟩ := isOf hZ e42 (Xe6.ext O42.2)
    obtain ⟨_, _, ⟨T56, L56, k56, n56⟩, -, X56, ⟨Lc56, hQ56, l56, y56, z56⟩, st56⟩ := X42.virtualBack hx (y := (⟨"com/example/firing/firing/sql/SpecialVariable", "isRecord", "()Z"⟩ : MethodName)) (z := (⟨"com/example/firing/firing/sql/SpecialVariable", "isRecord", "()Z"⟩ : MethodName)) hown (mvT hZ (hw _ (List.mem_of_getElem? (i := 29) rfl))) (mvT hZ (hw _ (List.mem_of_getElem? (i := 30) rfl))) (notFace_of_selects (args := #[]) (mvT hZ (hw _ (List.mem_of_getElem? (i := 32) rfl)))) (mvT hZ (hw _ (List.mem_of_getElem? (i := 32) rfl))) (mvT hZ (hw _ (List.mem_of_getElem? (i := 31) rfl))) (by decide) (backOf (W := 0) (rm1c l Z a0 hw [] w6 w0 w1 h42 n0 O42 S0 S1 mw6 kw6) hZ (hw _ (List.mem_of_getElem? (i := 33) rfl)) (hw _ (List.mem_of_getElem? (i := 3) rfl)) (by decide) (by decide)) q56a q56c (g := (mkF m 106 #[.val (.int p1), .val (.ref b6), .val (.int (6 : Int32)), .val (.int (0 : Int32))] [(.ref w6)])) rfl (by rw [hml]; rfl) (Steps.refl _) (argsL := []) (rest := []) (lenOf own_pd0 rfl) rfl (by show 2 * 0 + _ ≤ _; exact Nat.le_of_eq rfl) (hb hby at_106) (fun _ _ => ⟨rfl, e42, (by decide : 0 + 1 + 0 ≤ _), (by decide : 0 + 12 + 0 ≤ _)⟩)
    dsimp only [Pt.U, Pt.locs, Pt.cells, Pt.slots] at X56 l56 y56 z56 st56 hQ56
    subst l56 y56 z56
    obtain ⟨rfl, N56q, e56⟩ := hQ56
    have N56 := Fr.app N42 N56q
    refine ownTrans st56 ?_
    show OwnGo _ _ _ _ _ _ _ (T56.setTop (mkF m 109 #[.val (.int p1), .val (.ref b6), .val (.int (6 : Int32)), .val (.int (0 : Int32))] [(.int (0 : Int32))]))
    refine ownStep (fun _ k => XS.iloadN X56.here hx rfl (hb hby at_109) rfl k) ?_
    show OwnGo _ _ _ _ _ _ _ (T56.setTop (mkF m 110 #[.val (.int p1), .val (.ref b6), .val (.int (6 : Int32)), .val (.int (0 : Int32))] [(.int (0 : Int32)), (.int (0 : Int32))]))
    refine ownStep (fun _ k => XS.icmpNo X56.here hx rfl (hb hby at_110) rfl (teq (by decide : (0 : Int32) = (0 : Int32))).2 k) ?_
    show OwnGo _ _ _ _ _ _ _ (T56.setTop (mkF m 113 #[.val (.int p1), .val (.ref b6), .val (.int (6 : Int32)), .val (.int (0 : Int32))] []))
    refine ownStep (fun _ k => XS.iconst X56.here hx rfl (hb hby at_113) k) ?_
    show OwnGo _ _ _ _ _ _ _ (T56.setTop (mkF m 114 #[.val (.int p1), .val (.ref b6), .val (.int (6 : Int32)), .val (.int (0 : Int32))] [(.int (1 : Int32))]))
    refine ownStep (fun _ k => XS.goto X56.here hx rfl (pc0 := 114) (pc' := 118) rfl (hb hby at_114) (by decide) (by decide) k) ?_
    show OwnGo _ _ _ _ _ _ _ (T56.setTop (mkF m 118 #[.val (.int p1), .val (.ref b6), .val (.int (6 : Int32)), .val (.int (0 : Int32))] [(.int (1 : Int32))]))
    have eq118 : T56.heap = h42 := e56
    exact ownRetN X56 hx (t := .boolean) Bd.returns (by simp) (hb hby at_118) (BodyLoose.notSynchronized Bd) (by decide) (by decide) (by rw [eq118]; exact ⟨rfl, N56⟩)
  · rw [hk]
    show OwnGo _ _ _ _ _ _ _ (T42.setTop (mkF m 92 #[.val (.int p1), .val (.ref b6), .val (.int (7 : Int32)), .unset] []))
    refine ownStep (fun _ k => XS.iloadN X42.here hx rfl (hb hby at_92) rfl k) ?_
    show OwnGo _ _ _ _ _ _ _ (T42.setTop (mkF m 93 #[.val (.int p1), .val (.ref b6), .val (.int (7 : Int32)), .unset] [(.int (7 : Int32))]))
    refine ownStep (fun _ k => XS.iconst X42.here hx rfl (hb hby at_93) k) ?_
    show OwnGo _ _ _ _ _ _ _ (T42.setTop (mkF m 94 #[.val (.int p1), .val (.ref b6), .val (.int (7 : Int32)), .unset] [(.int (2 : Int32)), (.int (7 : Int32))]))
    refine ownStep (fun _ k => XS.icmpYes X42.here hx rfl (pc0 := 94) (pc' := 101) rfl (hb hby at_94) rfl (flt (by decide : ¬ ((7 : Int32) < (2 : Int32)))).2.1 (by decide) (by decide) k) ?_
    show OwnGo _ _ _ _ _ _ _ (T42.setTop (mkF m 101 #[.val (.int p1), .val (.ref b6), .val (.int (7 : Int32)), .unset] []))
    refine ownStep (fun _ k => XS.iconst X42.here hx rfl (hb hby at_101) k) ?_
    show OwnGo _ _ _ _ _ _ _ (T42.setTop (mkF m 102 #[.val (.int p1), .val (.ref b6), .val (.int (7 : Int32)), .unset] [(.int (0 : Int32))]))
    refine ownStep (fun _ k => XS.istoreN X42.here hx rfl (hb hby at_102) rfl (l' := #[.val (.int p1), .val (.ref b6), .val (.int (7 : Int32)), .val (.int (0 : Int32))]) rfl k) ?_
    show OwnGo _ _ _ _ _ _ _ (T42.setTop (mkF m 103 #[.val (.int p1), .val (.ref b6), .val (.int (7 : Int32)), .val (.int (0 : Int32))] []))
    refine ownStep (fun _ k => XS.aloadN X42.here hx rfl (hb hby at_103) rfl rfl k) ?_
    show OwnGo _ _ _ _ _ _ _ (T42.setTop (mkF m 104 #[.val (.int p1), .val (.ref b6), .val (.int (7 : Int32)), .val (.int (0 : Int32))] [(.ref b6)]))
    refine ownStep (fun _ k => XS.iloadN X42.here hx rfl (hb hby at_104) rfl k) ?_
    show OwnGo _ _ _ _ _ _ _ (T42.setTop (mkF m 105 #[.val (.int p1), .val (.ref b6), .val (.int (7 : Int32)), .val (.int (0 : Int32))] [(.int (7 : Int32)), (.ref b6)]))
    obtain ⟨cla57, Ara57, qa57, Sa57, Pa57, Ha57, Ga57⟩ := id V42
    have hina57 : ¬ ((7 : Int32) < 0 ∨ cla57.slots.size ≤ ((7 : Int32) : Int32).toNatClampNeg) := inb_of Sa57 ⟨by decide, by decide⟩
    refine ownStep (X42.aaload hx (j := (7 : Int32)) (v := (.ref w7)) (by rw [e42]; exact Ara57.1) (State.isArrayOf_alike hZ.alike Ara57.2.1) rfl Ara57.2.2 hina57 (Has.at Ha57 hina57 rfl) (g := (mkF m 105 #[.val (.int p1), .val (.ref b6), .val (.int (7 : Int32)), .val (.int (0 : Int32))] [(.int (7 : Int32)), (.ref b6)])) rfl rfl (hb hby at_105)) ?_
    show OwnGo _ _ _ _ _ _ _ (T42.setTop (mkF m 106 #[.val (.int p1), .val (.ref b6), .val (.int (7 : Int32)), .val (.int (0 : Int32))] [(.ref w7)]))
    obtain ⟨cq58, kq58, q58a, q58b, q58c⟩ := isOf hZ e42 (Xe7.ext O42.2)
    obtain ⟨_, _, ⟨T58, L58, k58, n58⟩, -, X58, ⟨Lc58, hQ58, l58, y58, z58⟩, st58⟩ := X42.virtualBack hx (y := (⟨"com/example/firing/firing/sql/SpecialVariable", "isRecord", "()Z"⟩ : MethodName)) (z := (⟨"com/example/firing/firing/sql/SpecialVariable", "isRecord", "()Z"⟩ : MethodName)) hown (mvT hZ (hw _ (List.mem_of_getElem? (i := 29) rfl))) (mvT hZ (hw _ (List.mem_of_getElem? (i := 30) rfl))) (notFace_of_selects (args := #[]) (mvT hZ (hw _ (List.mem_of_getElem? (i := 32) rfl)))) (mvT hZ (hw _ (List.mem_of_getElem? (i := 32) rfl))) (mvT hZ (hw _ (List.mem_of_getElem? (i := 31) rfl))) (by decide) (backOf (W := 0) (rm1c l Z a0 hw [] w7 w0 w1 h42 n0 O42 S0 S1 mw7 kw7) hZ (hw _ (List.mem_of_getElem? (i := 33) rfl)) (hw _ (List.mem_of_getElem? (i := 3) rfl)) (by decide) (by decide)) q58a q58c (g := (mkF m 106 #[.val (.int p1), .val (.ref b6), .val (.int (7 : Int32)), .val (.int (0 : Int32))] [(.ref w7)])) rfl (by rw [hml]; rfl) (Steps.refl _) (argsL := []) (rest := []) (lenOf own_pd0 rfl) rfl (by show 2 * 0 + _ ≤ _; exact Nat.le_of_eq rfl) (hb hby at_106) (fun _ _ => ⟨rfl, e42, (by decide : 0 + 1 + 0 ≤ _), (by decide : 0 + 12 + 0 ≤ _)⟩)
    dsimp only [Pt.U, Pt.locs, Pt.cells, Pt.slots] at X58 l58 y58 z58 st58 hQ58
    subst l58 y58 z58
    obtain ⟨rfl, N58q, e58⟩ := hQ58
    have N58 := Fr.app N42 N58q
    refine ownTrans st58 ?_
    show OwnGo _ _ _ _ _ _ _ (T58.setTop (mkF m 109 #[.val (.int p1), .val (.ref b6), .val (.int (7 : Int32)), .val (.int (0 : Int32))] [(.int (0 : Int32))]))
    refine ownStep (fun _ k => XS.iloadN X58.here hx rfl (hb hby at_109) rfl k) ?_
    show OwnGo _ _ _ _ _ _ _ (T58.setTop (mkF m 110 #[.val (.int p1), .val (.ref b6), .val (.int (7 : Int32)), .val (.int (0 : Int32))] [(.int (0 : Int32)), (.int (0 : Int32))]))
    refine ownStep (fun _ k => XS.icmpNo X58.here hx rfl (hb hby at_110) rfl (teq (by decide : (0 : Int32) = (0 : Int32))).2 k) ?_
    show OwnGo _ _ _ _ _ _ _ (T58.setTop (mkF m 113 #[.val (.int p1), .val (.ref b6), .val (.int (7 : Int32)), .val (.int (0 : Int32))] []))
    refine ownStep (fun _ k => XS.iconst X58.here hx rfl (hb hby at_113) k) ?_
    show OwnGo _ _ _ _ _ _ _ (T58.setTop (mkF m 114 #[.val (.int p1), .val (.ref b6), .val (.int (7 : Int32)), .val (.int (0 : Int32))] [(.int (1 : Int32))]))
    refine ownStep (fun _ k => XS.goto X58.here hx rfl (pc0 := 114) (pc' := 118) rfl (hb hby at_114) (by decide) (by decide) k) ?_
    show OwnGo _ _ _ _ _ _ _ (T58.setTop (mkF m 118 #[.val (.int p1), .val (.ref b6), .val (.int (7 : Int32)), .val (.int (0 : Int32))] [(.int (1 : Int32))]))
    have eq118 : T58.heap = h42 := e58
    exact ownRetN X58 hx (t := .boolean) Bd.returns (by simp) (hb hby at_118) (BodyLoose.notSynchronized Bd) (by decide) (by decide) (by rw [eq118]; exact ⟨rfl, N58⟩)
  · rw [hk]
    show OwnGo _ _ _ _ _ _ _ (T42.setTop (mkF m 92 #[.val (.int p1), .val (.ref b6), .val (.int (8 : Int32)), .unset] []))
    refine ownStep (fun _ k => XS.iloadN X42.here hx rfl (hb hby at_92) rfl k) ?_
    show OwnGo _ _ _ _ _ _ _ (T42.setTop (mkF m 93 #[.val (.int p1), .val (.ref b6), .val (.int (8 : Int32)), .unset] [(.int (8 : Int32))]))
    refine ownStep (fun _ k => XS.iconst X42.here hx rfl (hb hby at_93) k) ?_
    show OwnGo _ _ _ _ _ _ _ (T42.setTop (mkF m 94 #[.val (.int p1), .val (.ref b6), .val (.int (8 : Int32)), .unset] [(.int (2 : Int32)), (.int (8 : Int32))]))
    refine ownStep (fun _ k => XS.icmpYes X42.here hx rfl (pc0 := 94) (pc' := 101) rfl (hb hby at_94) rfl (flt (by decide : ¬ ((8 : Int32) < (2 : Int32)))).2.1 (by decide) (by decide) k) ?_
    show OwnGo _ _ _ _ _ _ _ (T42.setTop (mkF m 101 #[.val (.int p1), .val (.ref b6), .val (.int (8 : Int32)), .unset] []))
    refine ownStep (fun _ k => XS.iconst X42.here hx rfl (hb hby at_101) k) ?_
    show OwnGo _ _ _ _ _ _ _ (T42.setTop (mkF m 102 #[.val (.int p1), .val (.ref b6), .val (.int (8 : Int32)), .unset] [(.int (0 : Int32))]))
    refine ownStep (fun _ k => XS.istoreN X42.here hx rfl (hb hby at_102) rfl (l' := #[.val (.int p1), .val (.ref b6), .val (.int (8 : Int32)), .val (.int (0 : Int32))]) rfl k) ?_
    show OwnGo _ _ _ _ _ _ _ (T42.setTop (mkF m 103 #[.val (.int p1), .val (.ref b6), .val (.int (8 : Int32)), .val (.int (0 : Int32))] []))
    refine ownStep (fun _ k => XS.aloadN X42.here hx rfl (hb hby at_103) rfl rfl k) ?_
    show OwnGo _ _ _ _ _ _ _ (T42.setTop (mkF m 104 #[.val (.int p1), .val (.ref b6), .val (.int (8 : Int32)), .val (.int (0 : Int32))] [(.ref b6)]))
    refine ownStep (fun _ k => XS.iloadN X42.here hx rfl (hb hby at_104) rfl k) ?_
    show OwnGo _ _ _ _ _ _ _ (T42.setTop (mkF m 105 #[.val (.int p1), .val (.ref b6), .val (.int (8 : Int32)), .val (.int (0 : Int32))] [(.int (8 : Int32)), (.ref b6)]))
    obtain ⟨cla59, Ara59, qa59, Sa59, Pa59, Ha59, Ga59⟩ := id V42
    have hina59 : ¬ ((8 : Int32) < 0 ∨ cla59.slots.size ≤ ((8 : Int32) : Int32).toNatClampNeg) := inb_of Sa59 ⟨by decide, by decide⟩
    refine ownStep (X42.aaload hx (j := (8 : Int32)) (v := (.ref w8)) (by rw [e42]; exact Ara59.1) (State.isArrayOf_alike hZ.alike Ara59.2.1) rfl Ara59.2.2 hina59 (Has.at Ha59 hina59 rfl) (g := (mkF m 105 #[.val (.int p1), .val (.ref b6), .val (.int (8 : Int32)), .val (.int (0 : Int32))] [(.int (8 : Int32)), (.ref b6)])) rfl rfl (hb hby at_105)) ?_
    show OwnGo _ _ _ _ _ _ _ (T42.setTop (mkF m 106 #[.val (.int p1), .val (.ref b6), .val (.int (8 : Int32)), .val (.int (0 : Int32))] [(.ref w8)]))
    obtain ⟨cq60, kq60, q60a, q60b, q60c⟩ := isOf hZ e42 (Xe8.ext O42.2)
    obtain ⟨_, _, ⟨T60, L60, k60, n60⟩, -, X60, ⟨Lc60, hQ60, l60, y60, z60⟩, st60⟩ := X42.virtualBack hx (y := (⟨"com/example/firing/firing/sql/SpecialVariable", "isRecord", "()Z"⟩ : MethodName)) (z := (⟨"com/example/firing/firing/sql/SpecialVariable", "isRecord", "()Z"⟩ : MethodName)) hown (mvT hZ (hw _ (List.mem_of_getElem? (i := 29) rfl))) (mvT hZ (hw _ (List.mem_of_getElem? (i := 30) rfl))) (notFace_of_selects (args := #[]) (mvT hZ (hw _ (List.mem_of_getElem? (i := 32) rfl)))) (mvT hZ (hw _ (List.mem_of_getElem? (i := 32) rfl))) (mvT hZ (hw _ (List.mem_of_getElem? (i := 31) rfl))) (by decide) (backOf (W := 0) (rm1c l Z a0 hw [] w8 w0 w1 h42 n0 O42 S0 S1 mw8 kw8) hZ (hw _ (List.mem_of_getElem? (i := 33) rfl)) (hw _ (List.mem_of_getElem? (i := 3) rfl)) (by decide) (by decide)) q60a q60c (g := (mkF m 106 #[.val (.int p1), .val (.ref b6), .val (.int (8 : Int32)), .val (.int (0 : Int32))] [(.ref w8)])) rfl (by rw [hml]; rfl) (Steps.refl _) (argsL := []) (rest := []) (lenOf own_pd0 rfl) rfl (by show 2 * 0 + _ ≤ _; exact Nat.le_of_eq rfl) (hb hby at_106) (fun _ _ => ⟨rfl, e42, (by decide : 0 + 1 + 0 ≤ _), (by decide : 0 + 12 + 0 ≤ _)⟩)
    dsimp only [Pt.U, Pt.locs, Pt.cells, Pt.slots] at X60 l60 y60 z60 st60 hQ60
    subst l60 y60 z60
    obtain ⟨rfl, N60q, e60⟩ := hQ60
    have N60 := Fr.app N42 N60q
    refine ownTrans st60 ?_
    show OwnGo _ _ _ _ _ _ _ (T60.setTop (mkF m 109 #[.val (.int p1), .val (.ref b6), .val (.int (8 : Int32)), .val (.int (0 : Int32))] [(.int (0 : Int32))]))
    refine ownStep (fun _ k => XS.iloadN X60.here hx rfl (hb hby at_109) rfl k) ?_
    show OwnGo _ _ _ _ _ _ _ (T60.setTop (mkF m 110 #[.val (.int p1), .val (.ref b6), .val (.int (8 : Int32)), .val (.int (0 : Int32))] [(.int (0 : Int32)), (.int (0 : Int32))]))
    refine ownStep (fun _ k => XS.icmpNo X60.here hx rfl (hb hby at_110) rfl (teq (by decide : (0 : Int32) = (0 : Int32))).2 k) ?_
    show OwnGo _ _ _ _ _ _ _ (T60.setTop (mkF m 113 #[.val (.int p1), .val (.ref b6), .val (.int (8 : Int32)), .val (.int (0 : Int32))] []))
    refine ownStep (fun _ k => XS.iconst X60.here hx rfl (hb hby at_113) k) ?_
    show OwnGo _ _ _ _ _ _ _ (T60.setTop (mkF m 114 #[.val (.int p1), .val (.ref b6), .val (.int (8 : Int32)), .val (.int (0 : Int32))] [(.int (1 : Int32))]))
    refine ownStep (fun _ k => XS.goto X60.here hx rfl (pc0 := 114) (pc' := 118) rfl (hb hby at_114) (by decide) (by decide) k) ?_
    show OwnGo _ _ _ _ _ _ _ (T60.setTop (mkF m 118 #[.val (.int p1), .val (.ref b6), .val (.int (8 : Int32)), .val (.int (0 : Int32))] [(.int (1 : Int32))]))
    have eq118 : T60.heap = h42 := e60
    exact ownRetN X60 hx (t := .boolean) Bd.returns (by simp) (hb hby at_118) (BodyLoose.notSynchronized Bd) (by decide) (by decide) (by rw [eq118]; exact ⟨rfl, N60⟩)
  · rw [hk]
    show OwnGo _ _ _ _ _ _ _ (T42.setTop (mkF m 92 #[.val (.int p1), .val (.ref b6), .val (.int (9 : Int32)), .unset] []))
    refine ownStep (fun _ k => XS.iloadN X42.here hx rfl (hb hby at_92) rfl k) ?_
    show OwnGo _ _ _ _ _ _ _ (T42.setTop (mkF m 93 #[.val (.int p1), .val (.ref b6), .val (.int (9 : Int32)), .unset] [(.int (9 : Int32))]))
    refine ownStep (fun _ k => XS.iconst X42.here hx rfl (hb hby at_93) k) ?_
    show OwnGo _ _ _ _ _ _ _ (T42.setTop (mkF m 94 #[.val (.int p1), .val (.ref b6), .val (.int (9 : Int32)), .unset] [(.int (2 : Int32)), (.int (9 : Int32))]))
    refine ownStep (fun _ k => XS.icmpYes X42.here hx rfl (pc0 := 94) (pc' := 101) rfl (hb hby at_94) rfl (flt (by decide : ¬ ((9 : Int32) < (2 : Int32)))).2.1 (by decide) (by decide) k) ?_
    show OwnGo _ _ _ _ _ _ _ (T42.setTop (mkF m 101 #[.val (.int p1), .val (.ref b6), .val (.int (9 : Int32)), .unset] []))
    refine ownStep (fun _ k => XS.iconst X42.here hx rfl (hb hby at_101) k) ?_
    show OwnGo _ _ _ _ _ _ _ (T42.setTop (mkF m 102 #[.val (.int p1), .val (.ref b6), .val (.int (9 : Int32)), .unset] [(.int (0 : Int32))]))
    refine ownStep (fun _ k => XS.istoreN X42.here hx rfl (hb hby at_102) rfl (l' := #[.val (.int p1), .val (.ref b6), .val (.int (9 : Int32)), .val (.int (0 : Int32))]) rfl k) ?_
    show OwnGo _ _ _ _ _ _ _ (T42.setTop (mkF m 103 #[.val (.int p1), .val (.ref b6), .val (.int (9 : Int32)), .val (.int (0 : Int32))] []))
    refine ownStep (fun _ k => XS.aloadN X42.here hx rfl (hb hby at_103) rfl rfl k) ?_
    show OwnGo _ _ _ _ _ _ _ (T42.setTop (mkF m 104 #[.val (.int p1), .val (.ref b6), .val (.int (9 : Int32)), .val (.int (0 : Int32))] [(.ref b6)]))
    refine ownStep (fun _ k => XS.iloadN X42.here hx rfl (hb hby at_104) rfl k) ?_
    show OwnGo _ _ _ _ _ _ _ (T42.setTop (mkF m 105 #[.val (.int p1), .val (.ref b6), .val (.int (9 : Int32)), .val (.int (0 : Int32))] [(.int (9 : Int32)), (.ref b6)]))
    obtain ⟨cla61, Ara61, qa61, Sa61, Pa61, Ha61, Ga61⟩ := id V42
    have hina61 : ¬ ((9 : Int32) < 0 ∨ cla61.slots.size ≤ ((9 : Int32) : Int32).toNatClampNeg) := inb_of Sa61 ⟨by decide, by decide⟩
    refine ownStep (X42.aaload hx (j := (9 : Int32)) (v := (.ref w9)) (by rw [e42]; exact Ara61.1) (State.isArrayOf_alike hZ.alike Ara61.2.1) rfl Ara61.2.2 hina61 (Has.at Ha61 hina61 rfl) (g := (mkF m 105 #[.val (.int p1), .val (.ref b6), .val (.int (9 : Int32)), .val (.int (0 : Int32))] [(.int (9 : Int32)), (.ref b6)])) rfl rfl (hb hby at_105)) ?_
    show OwnGo _ _ _ _ _ _ _ (T42.setTop (mkF m 106 #[.val (.int p1), .val (.ref b6), .val (.int (9 : Int32)), .val (.int (0 : Int32))] [(.ref w9)]))
    obtain ⟨cq62, kq62, q62a, q62b, q62c⟩ := isOf hZ e42 (Xe9.ext O42.2)
    obtain ⟨_, _, ⟨T62, L62, k62, n62⟩, -, X62, ⟨Lc62, hQ62, l62, y62, z62⟩, st62⟩ := X42.virtualBack hx (y := (⟨"com/example/firing/firing/sql/SpecialVariable", "isRecord", "()Z"⟩ : MethodName)) (z := (⟨"com/example/firing/firing/sql/SpecialVariable", "isRecord", "()Z"⟩ : MethodName)) hown (mvT hZ (hw _ (List.mem_of_getElem? (i := 29) rfl))) (mvT hZ (hw _ (List.mem_of_getElem? (i := 30) rfl))) (notFace_of_selects (args := #[]) (mvT hZ (hw _ (List.mem_of_getElem? (i := 32) rfl)))) (mvT hZ (hw _ (List.mem_of_getElem? (i := 32) rfl))) (mvT hZ (hw _ (List.mem_of_getElem? (i := 31) rfl))) (by decide) (backOf (W := 0) (rm1c l Z a0 hw [] w9 w0 w1 h42 n0 O42 S0 S1 mw9 kw9) hZ (hw _ (List.mem_of_getElem? (i := 33) rfl)) (hw _ (List.mem_of_getElem? (i := 3) rfl)) (by decide) (by decide)) q62a q62c (g := (mkF m 106 #[.val (.int p1), .val (.ref b6), .val (.int (9 : Int32)), .val (.int (0 : Int32))] [(.ref w9)])) rfl (by rw [hml]; rfl) (Steps.refl _) (argsL := []) (rest := []) (lenOf own_pd0 rfl) rfl (by show 2 * 0 + _ ≤ _; exact Nat.le_of_eq rfl) (hb hby at_106) (fun _ _ => ⟨rfl, e42, (by decide : 0 + 1 + 0 ≤ _), (by decide : 0 + 12 + 0 ≤ _)⟩)
    dsimp only [Pt.U, Pt.locs, Pt.cells, Pt.slots] at X62 l62 y62 z62 st62 hQ62
    subst l62 y62 z62
    obtain ⟨rfl, N62q, e62⟩ := hQ62
    have N62 := Fr.app N42 N62q
    refine ownTrans st62 ?_
    show OwnGo _ _ _ _ _ _ _ (T62.setTop (mkF m 109 #[.val (.int p1), .val (.ref b6), .val (.int (9 : Int32)), .val (.int (0 : Int32))] [(.int (0 : Int32))]))
    refine ownStep (fun _ k => XS.iloadN X62.here hx rfl (hb hby at_109) rfl k) ?_
    show OwnGo _ _ _ _ _ _ _ (T62.setTop (mkF m 110 #[.val (.int p1), .val (.ref b6), .val (.int (9 : Int32)), .val (.int (0 : Int32))] [(.int (0 : Int32)), (.int (0 : Int32))]))
    refine ownStep (fun _ k => XS.icmpNo X62.here hx rfl (hb hby at_110) rfl (teq (by decide : (0 : Int32) = (0 : Int32))).2 k) ?_
    show OwnGo _ _ _ _ _ _ _ (T62.setTop (mkF m 113 #[.val (.int p1), .val (.ref b6), .val (.int (9 : Int32)), .val (.int (0 : Int32))] []))
    refine ownStep (fun _ k => XS.iconst X62.here hx rfl (hb hby at_113) k) ?_
    show OwnGo _ _ _ _ _ _ _ (T62.setTop (mkF m 114 #[.val (.int p1), .val (.ref b6), .val (.int (9 : Int32)), .val (.int (0 : Int32))] [(.int (1 : Int32))]))
    refine ownStep (fun _ k => XS.goto X62.here hx rfl (pc0 := 114) (pc' := 118) rfl (hb hby at_114) (by decide) (by decide) k) ?_
    show OwnGo _ _ _ _ _ _ _ (T62.setTop (mkF m 118 #[.val (.int p1), .val (.ref b6), .val (.int (9 : Int32)), .val (.int (0 : Int32))] [(.int (1 : Int32))]))
    have eq118 : T62.heap = h42 := e62
    exact ownRetN X62 hx (t := .boolean) Bd.returns (by simp) (hb hby at_118) (BodyLoose.notSynchronized Bd) (by decide) (by decide) (by rw [eq118]; exact ⟨rfl, N62⟩)
  · rw [hk]
    show OwnGo _ _ _ _ _ _ _ (T42.setTop (mkF m 92 #[.val (.int p1), .val (.ref b6), .val (.int (10 : Int32)), .unset] []))
    refine ownStep (fun _ k => XS.iloadN X42.here hx rfl (hb hby at_92) rfl k) ?_
    show OwnGo _ _ _ _ _ _ _ (T42.setTop (mkF m 93 #[.val (.int p1), .val (.ref b6), .val (.int (10 : Int32)), .unset] [(.int (10 : Int32))]))
    refine ownStep (fun _ k => XS.iconst X42.here hx rfl (hb hby at_93) k) ?_
    show OwnGo _ _ _ _ _ _ _ (T42.setTop (mkF m 94 #[.val (.int p1), .val (.ref b6), .val (.int (10 : Int32)), .unset] [(.int (2 : Int32)), (.int (10 : Int32))]))
    refine ownStep (fun _ k => XS.icmpYes X42.here hx rfl (pc0 := 94) (pc' := 101) rfl (hb hby at_94) rfl (flt (by decide : ¬ ((10 : Int32) < (2 : Int32)))).2.1 (by decide) (by decide) k) ?_
    show OwnGo _ _ _ _ _ _ _ (T42.setTop (mkF m 101 #[.val (.int p1), .val (.ref b6), .val (.int (10 : Int32)), .unset] []))
    refine ownStep (fun _ k => XS.iconst X42.here hx rfl (hb hby at_101) k) ?_
    show OwnGo _ _ _ _ _ _ _ (T42.setTop (mkF m 102 #[.val (.int p1), .val (.ref b6), .val (.int (10 : Int32)), .unset] [(.int (0 : Int32))]))
    refine ownStep (fun _ k => XS.istoreN X42.here hx rfl (hb hby at_102) rfl (l' := #[.val (.int p1), .val (.ref b6), .val (.int (10 : Int32)), .val (.int (0 : Int32))]) rfl k) ?_
    show OwnGo _ _ _ _ _ _ _ (T42.setTop (mkF m 103 #[.val (.int p1), .val (.ref b6), .val (.int (10 : Int32)), .val (.int (0 : Int32))] []))
    refine ownStep (fun _ k => XS.aloadN X42.here hx rfl (hb hby at_103) rfl rfl k) ?_
    show OwnGo _ _ _ _ _ _ _ (T42.setTop (mkF m 104 #[.val (.int p1), .val (.ref b6), .val (.int (10 : Int32)), .val (.int (0 : Int32))] [(.ref b6)]))
    refine ownStep (fun _ k => XS.iloadN X42.here hx rfl (hb hby at_104) rfl k) ?_
    show OwnGo _ _ _ _ _ _ _ (T42.setTop (mkF m 105 #[.val (.int p1), .val (.ref b6), .val (.int (10 : Int32)), .val (.int (0 : Int32))] [(.int (10 : Int32)), (.ref b6)]))
    obtain ⟨cla63, Ara63, qa63, Sa63, Pa63, Ha63, Ga63⟩ := id V42
    have hina63 : ¬ ((10 : Int32) < 0 ∨ cla63.slots.size ≤ ((10 : Int32) : Int32).toNatClampNeg) := inb_of Sa63 ⟨by decide, by decide⟩
    refine ownStep (X42.aaload hx (j := (10 : Int32)) (v := (.ref w10)) (by rw [e42]; exact Ara63.1) (State.isArrayOf_alike hZ.alike Ara63.2.1) rfl Ara63.2.2 hina63 (Has.at Ha63 hina63 rfl) (g := (mkF m 105 #[.val (.int p1), .val (.ref b6), .val (.int (10 : Int32)), .val (.int (0 : Int32))] [(.int (10 : Int32)), (.ref b6)])) rfl rfl (hb hby at_105)) ?_
    show OwnGo _ _ _ _ _ _ _ (T42.setTop (mkF m 106 #[.val (.int p1), .val (.ref b6), .val (.int (10 : Int32)), .val (.int (0 : Int32))] [(.ref w10)]))
    obtain ⟨cq64, kq64, q64a, q64b, q64c⟩ := isOf hZ e42 (Xe10.ext O42.2)
    obtain ⟨_, _, ⟨T64, L64, k64, n64⟩, -, X64, ⟨Lc64, hQ64, l64, y64, z64⟩, st64⟩ := X42.virtualBack hx (y := (⟨"com/example/firing/firing/sql/SpecialVariable", "isRecord", "()Z"⟩ : MethodName)) (z := (⟨"com/example/firing/firing/sql/SpecialVariable", "isRecord", "()Z"⟩ : MethodName)) hown (mvT hZ (hw _ (List.mem_of_getElem? (i := 29) rfl))) (mvT hZ (hw _ (List.mem_of_getElem? (i := 30) rfl))) (notFace_of_selects (args := #[]) (mvT hZ (hw _ (List.mem_of_getElem? (i := 32) rfl)))) (mvT hZ (hw _ (List.mem_of_getElem? (i := 32) rfl))) (mvT hZ (hw _ (List.mem_of_getElem? (i := 31) rfl))) (by decide) (backOf (W := 0) (rm1c l Z a0 hw [] w10 w0 w1 h42 n0 O42 S0 S1 mw10 kw10) hZ (hw _ (List.mem_of_getElem? (i := 33) rfl)) (hw _ (List.mem_of_getElem? (i := 3) rfl)) (by decide) (by decide)) q64a q64c (g := (mkF m 106 #[.val (.int p1), .val (.ref b6), .val (.int (10 : Int32)), .val (.int (0 : Int32))] [(.ref w10)])) rfl (by rw [hml]; rfl) (Steps.refl _) (argsL := []) (rest := []) (lenOf own_pd0 rfl) rfl (by show 2 * 0 + _ ≤ _; exact Nat.le_of_eq rfl) (hb hby at_106) (fun _ _ => ⟨rfl, e42, (by decide : 0 + 1 + 0 ≤ _), (by decide : 0 + 12 + 0 ≤ _)⟩)
    dsimp only [Pt.U, Pt.locs, Pt.cells, Pt.slots] at X64 l64 y64 z64 st64 hQ64
    subst l64 y64 z64
    obtain ⟨rfl, N64q, e64⟩ := hQ64
    have N64 := Fr.app N42 N64q
    refine ownTrans st64 ?_
    show OwnGo _ _ _ _ _ _ _ (T64.setTop (mkF m 109 #[.val (.int p1), .val (.ref b6), .val (.int (10 : Int32)), .val (.int (0 : Int32))] [(.int (0 : Int32))]))
    refine ownStep (fun _ k => XS.iloadN X64.here hx rfl (hb hby at_109) rfl k) ?_
    show OwnGo _ _ _ _ _ _ _ (T64.setTop (mkF m 110 #[.val (.int p1), .val (.ref b6), .val (.int (10 : Int32)), .val (.int (0 : Int32))] [(.int (0 : Int32)), (.int (0 : Int32))]))
    refine ownStep (fun _ k => XS.icmpNo X64.here hx rfl (hb hby at_110) rfl (teq (by decide : (0 : Int32) = (0 : Int32))).2 k) ?_
    show OwnGo _ _ _ _ _ _ _ (T64.setTop (mkF m 113 #[.val (.int p1), .val (.ref b6), .val (.int (10 : Int32)), .val (.int (0 : Int32))] []))
    refine ownStep (fun _ k => XS.iconst X64.here hx rfl (hb hby at_113) k) ?_
    show OwnGo _ _ _ _ _ _ _ (T64.setTop (mkF m 114 #[.val (.int p1), .val (.ref b6), .val (.int (10 : Int32)), .val (.int (0 : Int32))] [(.int (1 : Int32))]))
    refine ownStep (fun _ k => XS.goto X64.here hx rfl (pc0 := 114) (pc' := 118) rfl (hb hby at_114) (by decide) (by decide) k) ?_
    show OwnGo _ _ _ _ _ _ _ (T64.setTop (mkF m 118 #[.val (.int p1), .val (.ref b6), .val (.int (10 : Int32)), .val (.int (0 : Int32))] [(.int (1 : Int32))]))
    have eq118 : T64.heap = h42 := e64
    exact ownRetN X64 hx (t := .boolean) Bd.returns (by simp) (hb hby at_118) (BodyLoose.notSynchronized Bd) (by decide) (by decide) (by rw [eq118]; exact ⟨rfl, N64⟩)
  · rw [hk]
    show OwnGo _ _ _ _ _ _ _ (T42.setTop (mkF m 92 #[.val (.int p1), .val (.ref b6), .val (.int (11 : Int32)), .unset] []))
    refine ownStep (fun _ k => XS.iloadN X42.here hx rfl (hb hby at_92) rfl k) ?_
    show OwnGo _ _ _ _ _ _ _ (T42.setTop (mkF m 93 #[.val (.int p1), .val (.ref b6), .val (.int (11 : Int32)), .unset] [(.int (11 : Int32))]))
    refine ownStep (fun _ k => XS.iconst X42.here hx rfl (hb hby at_93) k) ?_
    show OwnGo _ _ _ _ _ _ _ (T42.setTop (mkF m 94 #[.val (.int p1), .val (.ref b6), .val (.int (11 : Int32)), .unset] [(.int (2 : Int32)), (.int (11 : Int32))]))
    refine ownStep (fun _ k => XS.icmpYes X42.here hx rfl (pc0 := 94) (pc' := 101) rfl (hb hby at_94) rfl (flt (by decide : ¬ ((11 : Int32) < (2 : Int32)))).2.1 (by decide) (by decide) k) ?_
    show OwnGo _ _ _ _ _ _ _ (T42.setTop (mkF m 101 #[.val (.int p1), .val (.ref b6), .val (.int (11 : Int32)), .unset] []))
    refine ownStep (fun _ k => XS.iconst X42.here hx rfl (hb hby at_101) k) ?_
    show OwnGo _ _ _ _ _ _ _ (T42.setTop (mkF m 102 #[.val (.int p1), .val (.ref b6), .val (.int (11 : Int32)), .unset] [(.int (0 : Int32))]))
    refine ownStep (fun _ k => XS.istoreN X42.here hx rfl (hb hby at_102) rfl (l' := #[.val (.int p1), .val (.ref b6), .val (.int (11 : Int32)), .val (.int (0 : Int32))]) rfl k) ?_
    show OwnGo _ _ _ _ _ _ _ (T42.setTop (mkF m 103 #[.val (.int p1), .val (.ref b6), .val (.int (11 : Int32)), .val (.int (0 : Int32))] []))
    refine ownStep (fun _ k => XS.aloadN X42.here hx rfl (hb hby at_103) rfl rfl k) ?_
    show OwnGo _ _ _ _ _ _ _ (T42.setTop (mkF m 104 #[.val (.int p1), .val (.ref b6), .val (.int (11 : Int32)), .val (.int (0 : Int32))] [(.ref b6)]))
    refine ownStep (fun _ k => XS.iloadN X42.here hx rfl (hb hby at_104) rfl k) ?_
    show OwnGo _ _ _ _ _ _ _ (T42.setTop (mkF m 105 #[.val (.int p1), .val (.ref b6), .val (.int (11 : Int32)), .val (.int (0 : Int32))] [(.int (11 : Int32)), (.ref b6)]))
    obtain ⟨cla65, Ara65, qa65, Sa65, Pa65, Ha65, Ga65⟩ := id V42
    have hina65 : ¬ ((11 : Int32) < 0 ∨ cla65.slots.size ≤ ((11 : Int32) : Int32).toNatClampNeg) := inb_of Sa65 ⟨by decide, by decide⟩
    refine ownStep (X42.aaload hx (j := (11 : Int32)) (v := (.ref w11)) (by rw [e42]; exact Ara65.1) (State.isArrayOf_alike hZ.alike Ara65.2.1) rfl Ara65.2.2 hina65 (Has.at Ha65 hina65 rfl) (g := (mkF m 105 #[.val (.int p1), .val (.ref b6), .val (.int (11 : Int32)), .val (.int (0 : Int32))] [(.int (11 : Int32)), (.ref b6)])) rfl rfl (hb hby at_105)) ?_
    show OwnGo _ _ _ _ _ _ _ (T42.setTop (mkF m 106 #[.val (.int p1), .val (.ref b6), .val (.int (11 : Int32)), .val (.int (0 : Int32))] [(.ref w11)]))
    obtain ⟨cq66, kq66, q66a, q66b, q66c⟩ := isOf hZ e42 (Xe11.ext O42.2)
    obtain ⟨_, _, ⟨T66, L66, k66, n66⟩, -, X66, ⟨Lc66, hQ66, l66, y66, z66⟩, st66⟩ := X42.virtualBack hx (y := (⟨"com/example/firing/firing/sql/SpecialVariable", "isRecord", "()Z"⟩ : MethodName)) (z := (⟨"com/example/firing/firing/sql/SpecialVariable", "isRecord", "()Z"⟩ : MethodName)) hown (mvT hZ (hw _ (List.mem_of_getElem? (i := 29) rfl))) (mvT hZ (hw _ (List.mem_of_getElem? (i := 30) rfl))) (notFace_of_selects (args := #[]) (mvT hZ (hw _ (List.mem_of_getElem? (i := 32) rfl)))) (mvT hZ (hw _ (List.mem_of_getElem? (i := 32) rfl))) (mvT hZ (hw _ (List.mem_of_getElem? (i := 31) rfl))) (by decide) (backOf (W := 0) (rm1c l Z a0 hw [] w11 w0 w1 h42 n0 O42 S0 S1 mw11 kw11) hZ (hw _ (List.mem_of_getElem? (i := 33) rfl)) (hw _ (List.mem_of_getElem? (i := 3) rfl)) (by decide) (by decide)) q66a q66c (g := (mkF m 106 #[.val (.int p1), .val (.ref b6), .val (.int (11 : Int32)), .val (.int (0 : Int32))] [(.ref w11)])) rfl (by rw [hml]; rfl) (Steps.refl _) (argsL := []) (rest := []) (lenOf own_pd0 rfl) rfl (by show 2 * 0 + _ ≤ _; exact Nat.le_of_eq rfl) (hb hby at_106) (fun _ _ => ⟨rfl, e42, (by decide : 0 + 1 + 0 ≤ _), (by decide : 0 + 12 + 0 ≤ _)⟩)
    dsimp only [Pt.U, Pt.locs, Pt.cells, Pt.slots] at X66 l66 y66 z66 st66 hQ66
    subst l66 y66 z66
    obtain ⟨rfl, N66q, e66⟩ := hQ66
    have N66 := Fr.app N42 N66q
    refine ownTrans st66 ?_
    show OwnGo _ _ _ _ _ _ _ (T66.setTop (mkF m 109 #[.val (.int p1), .val (.ref b6), .val (.int (11 : Int32)), .val (.int (0 : Int32))] [(.int (0 : Int32))]))
    refine ownStep (fun _ k => XS.iloadN X66.here hx rfl (hb hby at_109) rfl k) ?_
    show OwnGo _ _ _ _ _ _ _ (T66.setTop (mkF m 110 #[.val (.int p1), .val (.ref b6), .val (.int (11 : Int32)), .val (.int (0 : Int32))] [(.int (0 : Int32)), (.int (0 : Int32))]))
    refine ownStep (fun _ k => XS.icmpNo X66.here hx rfl (hb hby at_110) rfl (teq (by decide : (0 : Int32) = (0 : Int32))).2 k) ?_
    show OwnGo _ _ _ _ _ _ _ (T66.setTop (mkF m 113 #[.val (.int p1), .val (.ref b6), .val (.int (11 : Int32)), .val (.int (0 : Int32))] []))
    refine ownStep (fun _ k => XS.iconst X66.here hx rfl (hb hby at_113) k) ?_
    show OwnGo _ _ _ _ _ _ _ (T66.setTop (mkF m 114 #[.val (.int p1), .val (.ref b6), .val (.int (11 : Int32)), .val (.int (0 : Int32))] [(.int (1 : Int32))]))
    refine ownStep (fun _ k => XS.goto X66.here hx rfl (pc0 := 114) (pc' := 118) rfl (hb hby at_114) (by decide) (by decide) k) ?_
    show OwnGo _ _ _ _ _ _ _ (T66.setTop (mkF m 118 #[.val (.int p1), .val (.ref b6), .val (.int (11 : Int32)), .val (.int (0 : Int32))] [(.int (1 : Int32))]))
    have eq118 : T66.heap = h42 := e66
    exact ownRetN X66 hx (t := .boolean) Bd.returns (by simp) (hb hby at_118) (BodyLoose.notSynchronized Bd) (by decide) (by decide) (by rw [eq118]; exact ⟨rfl, N66⟩)
set_option maxRecDepth 65536 in
set_option maxHeartbeats 40000000 in
theorem comes_1 {Post : Tables → Env → Array Value → State → Outcome → State → Prop} (hpost : ∀ tb e args s v u, (limb_1_1.after args s (.returned v) u = true ∧ limb_1_2.after args s (.returned v) u = true ∧ True) → FrameEnd s (.returned v) u (Jvm.fieldLocs frame_1_writes args s ++ Jvm.arrayLocs frame_1_arrays args s ++ Jvm.staticLocs frame_1_statics s) 16 128 → Post tb e args s (.returned v) u) :
    ArmFor flags0 classFile x code maxLocals ret World_1 tables_1 room_1 Calls_1 rest_1 Pre_1 Post := by
  intro l hfl _ _ p e ha hc hk s m args below hf hA hF happ hP
  obtain ⟨hcalls, hrest, hpre⟩ := hP
  obtain ⟨-, -, -, hnamed, -, -, -, hat⟩ := (Spec.applies_iff hf).mp happ
  obtain ⟨hg, hn⟩ := and_e (Cond.before_iff.mp (show (Jvm.Cond.and given_1 narrow_1).before args s = true from hpre))
  obtain ⟨g67, g68⟩ := and_e hg
  obtain ⟨w0, rfl⟩ : ∃ w0 : Value, args = #[w0] := by
    have hs : args.size = 1 := by simpa [Cond.value, given_1] using g67
    obtain ⟨L⟩ := args
    match L, hs with
    | [w0], _ => exact ⟨w0, rfl⟩
  have hw := fun d (hd : d ∈ tables_1) => atoms_spec (ws := Jvm.Cond.code x code maxLocals ret :: tables_1) hat d (List.mem_cons_of_mem _ hd)
  have hfit : Fit s := fun {y c} hc i hi => by
    obtain ⟨ha, rfl⟩ := Array.getElem?_eq_some_iff.mp hc
    have q := List.all_eq_true.mp ((Array.all_eq_true_iff_forall_mem.mp hF) _ (Array.getElem_mem ha)) i (List.mem_range.mpr hi)
    simpa [Array.getElem?_eq_getElem hi] using q
  obtain ⟨i0, ei0⟩ := is_v g68
  obtain rfl : w0 = (.int i0) := Option.some.inj ei0
  obtain ⟨hn69, hn70⟩ := and_e hn
  obtain ⟨hn71, hn72⟩ := and_e hn70
  obtain ⟨hn73, hn74⟩ := and_e hn72
  obtain ⟨hn75, hn76⟩ := and_e hn74
  obtain ⟨hn77, hn78⟩ := and_e hn76
  obtain ⟨hn79, hn80⟩ := and_e hn78
  obtain ⟨hn81, hn82⟩ := and_e hn80
  obtain ⟨hn83, hn84⟩ := and_e hn82
  obtain ⟨hn85, hn86⟩ := and_e hn84
  obtain ⟨hn87, hn88⟩ := and_e hn86
  obtain ⟨hn89, hn90⟩ := and_e hn88
  obtain ⟨hn91, hn92⟩ := and_e hn90
  obtain ⟨hn93, hn94⟩ := and_e hn92
  obtain ⟨hn95, hn96⟩ := and_e hn94
  obtain ⟨hn97, hn98⟩ := and_e hn96
  obtain ⟨hn99, hn100⟩ := and_e hn98
  obtain ⟨hn101, hn102⟩ := and_e hn100
  obtain ⟨hn103, hn104⟩ := and_e hn102
  obtain ⟨hn105, hn106⟩ := and_e hn104
  obtain ⟨hn107, hn108⟩ := and_e hn106
  obtain ⟨hn109, hn110⟩ := and_e hn108
  obtain ⟨hn111, hn112⟩ := and_e hn110
  obtain ⟨hn113, hn114⟩ := and_e hn112
  obtain ⟨w0', ev0⟩ := exa_v hn69
  have E0 := Exa.start ev0 hn69
  have F0 := own_fld ev0 (own_eqI hn95)
  have S0 := Sta.start ev0 (Or.inr ⟨(hw _ (List.mem_of_getElem? (i := 3) rfl)), (hw _ (List.mem_of_getElem? (i := 4) rfl))⟩)
  obtain ⟨w1', ev1⟩ := exa_v hn71
  have E1 := Exa.start ev1 hn71
  have F1 := own_fld ev1 (own_eqI hn97)
  have S1 := Sta.start ev1 (Or.inr ⟨(hw _ (List.mem_of_getElem? (i := 3) rfl)), (hw _ (List.mem_of_getElem? (i := 7) rfl))⟩)
  obtain ⟨w2', ev2⟩ := exa_v hn73
  have E2 := Exa.start ev2 hn73
  have F2 := own_fld ev2 (own_eqI hn99)
  have S2 := Sta.start ev2 (Or.inr ⟨(hw _ (List.mem_of_getElem? (i := 3) rfl)), (hw _ (List.mem_of_getElem? (i := 9) rfl))⟩)
  obtain ⟨w3', ev3⟩ := exa_v hn75
  have E3 := Exa.start ev3 hn75
  have F3 := own_fld ev3 (own_eqI hn93)
  have S3 := Sta.start ev3 (Or.inr ⟨(hw _ (List.mem_of_getElem? (i := 3) rfl)), (hw _ (List.mem_of_getElem? (i := 11) rfl))⟩)
  obtain ⟨w4', ev4⟩ := exa_v hn77
  have E4 := Exa.start ev4 hn77
  have F4 := own_fld ev4 (own_eqI hn105)
  have S4 := Sta.start ev4 (Or.inr ⟨(hw _ (List.mem_of_getElem? (i := 3) rfl)), (hw _ (List.mem_of_getElem? (i := 13) rfl))⟩)
  obtain ⟨w5', ev5⟩ := exa_v hn79
  have E5 := Exa.start ev5 hn79
  have F5 := own_fld ev5 (own_eqI hn114)
  have S5 := Sta.start ev5 (Or.inr ⟨(hw _ (List.mem_of_getElem? (i := 3) rfl)), (hw _ (List.mem_of_getElem? (i := 15) rfl))⟩)
  obtain ⟨w6', ev6⟩ := exa_v hn81
  have E6 := Exa.start ev6 hn81
  have F6 := own_fld ev6 (own_eqI hn113)
  have S6 := Sta.start ev6 (Or.inr ⟨(hw _ (List.mem_of_getElem? (i := 3) rfl)), (hw _ (List.mem_of_getElem? (i := 17) rfl))⟩)
  obtain ⟨w7', ev7⟩ := exa_v hn83
  have E7 := Exa.start ev7 hn83
  have F7 := own_fld ev7 (own_eqI hn101)
  have S7 := Sta.start ev7 (Or.inr ⟨(hw _ (List.mem_of_getElem? (i := 3) rfl)), (hw _ (List.mem_of_getElem? (i := 19) rfl))⟩)
  obtain ⟨w8', ev8⟩ := exa_v hn85
  have E8 := Exa.start ev8 hn85
  have F8 := own_fld ev8 (own_eqI hn107)
  have S8 := Sta.start ev8 (Or.inr ⟨(hw _ (List.mem_of_getElem? (i := 3) rfl)), (hw _ (List.mem_of_getElem? (i := 21) rfl))⟩)
  obtain ⟨w9', ev9⟩ := exa_v hn87
  have E9 := Exa.start ev9 hn87
  have F9 := own_fld ev9 (own_eqI hn111)
  have S9 := Sta.start ev9 (Or.inr ⟨(hw _ (List.mem_of_getElem? (i := 3) rfl)), (hw _ (List.mem_of_getElem? (i := 23) rfl))⟩)
  obtain ⟨w10', ev10⟩ := exa_v hn89
  have E10 := Exa.start ev10 hn89
  have F10 := own_fld ev10 (own_eqI hn109)
  have S10 := Sta.start ev10 (Or.inr ⟨(hw _ (List.mem_of_getElem? (i := 3) rfl)), (hw _ (List.mem_of_getElem? (i := 25) rfl))⟩)
  obtain ⟨w11', ev11⟩ := exa_v hn91
  have E11 := Exa.start ev11 hn91
  have F11 := own_fld ev11 (own_eqI hn103)
  have S11 := Sta.start ev11 (Or.inr ⟨(hw _ (List.mem_of_getElem? (i := 3) rfl)), (hw _ (List.mem_of_getElem? (i := 27) rfl))⟩)
  obtain ⟨n, o, h1, h2, h3, _, L, rfl, ⟨rfl, N⟩, hq⟩ := rm0 l s _ hw tables_1 i0 w0' w1' w2' w3' w4' w5' w6' w7' w8' w9' w10' w11' s.heap s.heap.size (Old.start s) S0 S1 S2 S3 S4 S5 S6 S7 S8 S9 S10 S11 E0 E1 E2 E3 E4 E5 E6 E7 E8 E9 E10 E11 (Fld.ne F1 F0 (by decide)) (Fld.ne F2 F0 (by decide)) (Fld.ne F3 F0 (by decide)) (Fld.ne F4 F0 (by decide)) (Fld.ne F5 F0 (by decide)) (Fld.ne F6 F0 (by decide)) (Fld.ne F7 F0 (by decide)) (Fld.ne F8 F0 (by decide)) (Fld.ne F9 F0 (by decide)) (Fld.ne F10 F0 (by decide)) (Fld.ne F11 F0 (by decide)) (Fld.ne F2 F1 (by decide)) (Fld.ne F3 F1 (by decide)) (Fld.ne F4 F1 (by decide)) (Fld.ne F5 F1 (by decide)) (Fld.ne F6 F1 (by decide)) (Fld.ne F7 F1 (by decide)) (Fld.ne F8 F1 (by decide)) (Fld.ne F9 F1 (by decide)) (Fld.ne F10 F1 (by decide)) (Fld.ne F11 F1 (by decide)) p e ha hc hk s m _ below hf ((Spec.applies_iff_loose hf).mp happ).1 ⟨rfl, State.Warmed39.refl s, rfl⟩ trivial
  refine ⟨n, _, h1, h2, h3, hpost _ _ _ _ _ _ ⟨Cond.after_iff.mpr rfl, Cond.after_iff.mpr (eq_i res_at (Term.int_eval (1)) rfl), trivial⟩ ⟨hq.1, hq.2.1, (hq.2.2.sift fun y hy => Or.inr (N y hy)).mono (by decide) (by decide)⟩⟩
theorem main_1_1 : Claimed_1_1 := comes_1 fun _ _ _ _ _ _ h hF => ⟨h.1, hF⟩
theorem main_1_2 : Claimed_1_2 := comes_1 fun _ _ _ _ _ _ h hF => ⟨h.2.1, hF⟩
end Jvm.Pilot.@@N@@
namespace Jvm.Pilot.@@N@@
open Jvm Jvm.ClassFile Sem Op Lib Jvm.Free Jvm.Stand Jvm.Pilot.@@N@@.Jvm.D
/-! MADE BY PROGRAM (witnessworld.py) out of the Statement's table words and the real class files: 13 classes; the members and pool entries that the words name. The judged class is class 1, her method 1. -/
namespace start1
open Jvm.ClassFile
def u (s : String) : CpInfo := .utf8 (stringToUtf16 s)
/-- a pool by its gaps: so many unusable entries, then the entry; so many at the end -/
def gap : Nat → List CpInfo → List CpInfo
  | 0, r => r
  | n + 1, r => .unusable :: gap n r
def poolList (es : List (Nat × CpInfo)) (last : Nat) : List CpInfo := es.foldr (fun e r => gap e.1 (e.2 :: r)) (gap last [])
def pool (es : List (Nat × CpInfo)) (last : Nat) : Array CpInfo := ⟨poolList es last⟩
def fileOf (pool : Array CpInfo) (this : Nat) (attrs : Array Attribute := #[]) (ms : Array MethodInfo := #[]) (fl : Nat := 33) (sup : Nat := 0) (ifs : Array Nat := #[]) (fds : Array FieldInfo := #[]) : ClassFile where
  minorVersion := 0
  majorVersion := 65
  constantPool := pool
  accessFlags := fl
  thisClass := this
  superClass := sup
  interfaces := ifs
  fields := fds
  methods := ms
  attributes := attrs
def plain (name : String) (sup : Option ClassId) : Class where
  name := name
  kind := .ordinary
  loader := none
  accessFlags := 33
  super := sup
  interfaces := #[]
  cf := none
  fields := #[]
  methods := #[]
  instanceTypes := #[]
  staticTypes := #[]
  resolved := #[]
  callSites := []
  init := .initialized
  statics := none
  mirror := none

def pool0 : Array CpInfo := pool [(5, u "<init>"), (0, u "()V"), (1, .class_ 10), (1, u "java/lang/Object")] 113

def k0m0 : Method := { name := "<init>", desc := "()V", sig := { parameters := [], returnType := none }, accessFlags := 1, code := none }
/-- java/lang/Object -/
def k0 : Class := { plain "java/lang/Object" none with
  accessFlags := 33
  interfaces := #[]
  cf := some (fileOf pool0 8 #[] #[{ accessFlags := 1, nameIndex := 5, descriptorIndex := 6, attributes := #[] }] 33 0 #[] #[])
  fields := #[]
  methods := #[k0m0]
  instanceTypes := #[]
  staticTypes := #[]
  resolved := Array.replicate 124 none
  statics := none }

def pool1 : Array CpInfo := pool [(2, .class_ 4), (1, u "java/lang/Object"), (0, u "<init>"), (0, u "()V"), (0, .class_ 8), (0, u "com/example/firing/firing/sql/SpecialVariable"), (0, .fieldref 7 10), (0, .nameAndType 11 12), (0, u "NEW"), (0, u "Lcom/example/firing/firing/sql/SpecialVariable;"), (0, .fieldref 7 14), (0, .nameAndType 15 12), (0, u "OLD"), (0, .fieldref 7 17), (0, .nameAndType 18 12), (0, u "FOUND"), (0, .fieldref 7 20), (0, .nameAndType 21 12), (0, u "TG_NAME"), (0, .fieldref 7 23), (0, .nameAndType 24 12), (0, u "TG_WHEN"), (0, .fieldref 7 26), (0, .nameAndType 27 12), (0, u "TG_LEVEL"), (0, .fieldref 7 29), (0, .nameAndType 30 12), (0, u "TG_OP"), (0, .fieldref 7 32), (0, .nameAndType 33 12), (0, u "TG_TABLE_NAME"), (0, .fieldref 7 35), (0, .nameAndType 36 12), (0, u "TG_TABLE_SCHEMA"), (0, .fieldref 7 38), (0, .nameAndType 39 12), (0, u "TG_RELNAME"), (0, .fieldref 7 41), (0, .nameAndType 42 12), (0, u "TG_NARGS"), (0, .fieldref 7 44), (0, .nameAndType 45 12), (0, u "TG_ARGV"), (0, .integer 2147483647), (0, .methodref 7 48), (0, .nameAndType 49 50), (0, u "isRecord"), (0, u "()Z"), (0, .class_ 52), (0, u "com/example/firing/firing/sql/SpecialVariableIsRecordPinLaw"), (2, u "law"), (0, u "(I)Z")] 5

def k1m0 : Method := { name := "<init>", desc := "()V", sig := { parameters := [], returnType := none }, accessFlags := 1, code := none }
def k1c1 : Code := { maxStack := 4, maxLocals := 4, code := code, exceptionTable := #[], attributes := #[] }
def k1m1 : Method := { name := "law", desc := "(I)Z", sig := { parameters := [.int], returnType := some .boolean }, accessFlags := 9, code := some k1c1 }
/-- com/example/firing/firing/sql/SpecialVariableIsRecordPinLaw -/
def k1 : Class := { plain "com/example/firing/firing/sql/SpecialVariableIsRecordPinLaw" (some 0) with
  accessFlags := 49
  interfaces := #[]
  cf := some (fileOf pool1 51 #[] #[{ accessFlags := 1, nameIndex := 5, descriptorIndex := 6, attributes := #[] }, { accessFlags := 9, nameIndex := 55, descriptorIndex := 56, attributes := #[] }] 49 2 #[] #[])
  fields := #[]
  methods := #[k1m0, k1m1]
  instanceTypes := #[]
  staticTypes := #[]
  resolved := Array.replicate 62 none
  statics := none }

def pool2 : Array CpInfo := pool [(1, .class_ 2), (0, u "java/lang/constant/Constable"), (0, .class_ 4), (0, u "java/lang/Object")] 6

/-- java/lang/constant/Constable -/
def k2 : Class := { plain "java/lang/constant/Constable" (some 0) with
  accessFlags := 1537
  interfaces := #[]
  cf := some (fileOf pool2 1 #[] #[] 1537 3 #[] #[])
  fields := #[]
  methods := #[]
  instanceTypes := #[]
  staticTypes := #[]
  resolved := Array.replicate 11 none
  statics := none }

def pool3 : Array CpInfo := pool [(1, .class_ 2), (0, u "java/lang/Comparable"), (0, .class_ 4), (0, u "java/lang/Object")] 7

/-- java/lang/Comparable -/
def k3 : Class := { plain "java/lang/Comparable" (some 0) with
  accessFlags := 1537
  interfaces := #[]
  cf := some (fileOf pool3 1 #[] #[] 1537 3 #[] #[])
  fields := #[]
  methods := #[]
  instanceTypes := #[]
  staticTypes := #[]
  resolved := Array.replicate 12 none
  statics := none }

def pool4 : Array CpInfo := pool [(1, .class_ 2), (0, u "java/io/Serializable"), (0, .class_ 4), (0, u "java/lang/Object")] 2

/-- java/io/Serializable -/
def k4 : Class := { plain "java/io/Serializable" (some 0) with
  accessFlags := 1537
  interfaces := #[]
  cf := some (fileOf pool4 1 #[] #[] 1537 3 #[] #[])
  fields := #[]
  methods := #[]
  instanceTypes := #[]
  staticTypes := #[]
  resolved := Array.replicate 7 none
  statics := none }

def pool5 : Array CpInfo := pool [(2, .class_ 4), (1, u "java/lang/Enum"), (0, u "name"), (0, u "Ljava/lang/String;"), (2, u "ordinal"), (0, u "I"), (1, .class_ 14), (1, u "java/lang/Object"), (4, u "hash"), (86, .class_ 108), (1, u "java/lang/Enum$EnumDesc"), (2, .class_ 112), (0, u "java/lang/constant/Constable"), (0, .class_ 114), (0, u "java/lang/Comparable"), (0, .class_ 116), (0, u "java/io/Serializable")] 87

/-- java/lang/Enum -/
def k5 : Class := { plain "java/lang/Enum" (some 0) with
  accessFlags := 1057
  interfaces := #[2, 3, 4]
  cf := some (fileOf pool5 2 #[.nestMembers #[106]] #[] 1057 12 #[111, 113, 115] #[{ accessFlags := 18, nameIndex := 5, descriptorIndex := 6, attributes := #[] }, { accessFlags := 18, nameIndex := 9, descriptorIndex := 10, attributes := #[] }, { accessFlags := 2, nameIndex := 19, descriptorIndex := 10, attributes := #[] }])
  fields := #[{ name := "name", type := (.object "java/lang/String"), accessFlags := 18, slot := 0, constantValue := 0 }, { name := "ordinal", type := .int, accessFlags := 18, slot := 1, constantValue := 0 }, { name := "hash", type := .int, accessFlags := 2, slot := 2, constantValue := 0 }]
  methods := #[]
  instanceTypes := #[(.object "java/lang/String"), .int, .int]
  staticTypes := #[]
  resolved := Array.replicate 204 none
  statics := none }

def pool6 : Array CpInfo := pool [(1, .class_ 2), (0, u "com/example/firing/firing/sql/SpecialVariable"), (0, .fieldref 1 4), (0, .nameAndType 5 6), (0, u "NEW"), (0, u "Lcom/example/firing/firing/sql/SpecialVariable;"), (0, .fieldref 1 8), (0, .nameAndType 9 6), (0, u "OLD"), (2, u "FOUND"), (2, u "TG_NAME"), (2, u "TG_WHEN"), (2, u "TG_LEVEL"), (2, u "TG_OP"), (2, u "TG_TABLE_NAME"), (2, u "TG_TABLE_SCHEMA"), (2, u "TG_RELNAME"), (2, u "TG_NARGS"), (2, u "TG_ARGV"), (2, u "$VALUES"), (0, u "[Lcom/example/firing/firing/sql/SpecialVariable;"), (6, .class_ 52), (1, u "java/lang/Enum"), (24, u "text"), (0, u "Ljava/lang/String;"), (2, u "BY_TEXT"), (0, u "Ljava/util/Map;"), (56, u "isRecord"), (0, u "()Z")] 32

def k6c0 : Code := { maxStack := 2, maxLocals := 1, code := prog_197_method_5_code, exceptionTable := #[], attributes := #[] }
def k6m0 : Method := { name := "isRecord", desc := "()Z", sig := { parameters := [], returnType := some .boolean }, accessFlags := 1, code := some k6c0 }
/-- com/example/firing/firing/sql/SpecialVariable -/
def k6 : Class := { plain "com/example/firing/firing/sql/SpecialVariable" (some 5) with
  accessFlags := 16433
  interfaces := #[]
  cf := some (fileOf pool6 1 #[] #[{ accessFlags := 1, nameIndex := 139, descriptorIndex := 140, attributes := #[] }] 16433 50 #[] #[{ accessFlags := 16409, nameIndex := 5, descriptorIndex := 6, attributes := #[] }, { accessFlags := 16409, nameIndex := 9, descriptorIndex := 6, attributes := #[] }, { accessFlags := 16409, nameIndex := 12, descriptorIndex := 6, attributes := #[] }, { accessFlags := 16409, nameIndex := 15, descriptorIndex := 6, attributes := #[] }, { accessFlags := 16409, nameIndex := 18, descriptorIndex := 6, attributes := #[] }, { accessFlags := 16409, nameIndex := 21, descriptorIndex := 6, attributes := #[] }, { accessFlags := 16409, nameIndex := 24, descriptorIndex := 6, attributes := #[] }, { accessFlags := 16409, nameIndex := 27, descriptorIndex := 6, attributes := #[] }, { accessFlags := 16409, nameIndex := 30, descriptorIndex := 6, attributes := #[] }, { accessFlags := 16409, nameIndex := 33, descriptorIndex := 6, attributes := #[] }, { accessFlags := 16409, nameIndex := 36, descriptorIndex := 6, attributes := #[] }, { accessFlags := 16409, nameIndex := 39, descriptorIndex := 6, attributes := #[] }, { accessFlags := 26, nameIndex := 81, descriptorIndex := 82, attributes := #[] }, { accessFlags := 18, nameIndex := 77, descriptorIndex := 78, attributes := #[] }, { accessFlags := 4122, nameIndex := 42, descriptorIndex := 43, attributes := #[] }])
  fields := #[{ name := "NEW", type := (.object "com/example/firing/firing/sql/SpecialVariable"), accessFlags := 16409, slot := 0, constantValue := 0 }, { name := "OLD", type := (.object "com/example/firing/firing/sql/SpecialVariable"), accessFlags := 16409, slot := 1, constantValue := 0 }, { name := "FOUND", type := (.object "com/example/firing/firing/sql/SpecialVariable"), accessFlags := 16409, slot := 2, constantValue := 0 }, { name := "TG_NAME", type := (.object "com/example/firing/firing/sql/SpecialVariable"), accessFlags := 16409, slot := 3, constantValue := 0 }, { name := "TG_WHEN", type := (.object "com/example/firing/firing/sql/SpecialVariable"), accessFlags := 16409, slot := 4, constantValue := 0 }, { name := "TG_LEVEL", type := (.object "com/example/firing/firing/sql/SpecialVariable"), accessFlags := 16409, slot := 5, constantValue := 0 }, { name := "TG_OP", type := (.object "com/example/firing/firing/sql/SpecialVariable"), accessFlags := 16409, slot := 6, constantValue := 0 }, { name := "TG_TABLE_NAME", type := (.object "com/example/firing/firing/sql/SpecialVariable"), accessFlags := 16409, slot := 7, constantValue := 0 }, { name := "TG_TABLE_SCHEMA", type := (.object "com/example/firing/firing/sql/SpecialVariable"), accessFlags := 16409, slot := 8, constantValue := 0 }, { name := "TG_RELNAME", type := (.object "com/example/firing/firing/sql/SpecialVariable"), accessFlags := 16409, slot := 9, constantValue := 0 }, { name := "TG_NARGS", type := (.object "com/example/firing/firing/sql/SpecialVariable"), accessFlags := 16409, slot := 10, constantValue := 0 }, { name := "TG_ARGV", type := (.object "com/example/firing/firing/sql/SpecialVariable"), accessFlags := 16409, slot := 11, constantValue := 0 }, { name := "BY_TEXT", type := (.object "java/util/Map"), accessFlags := 26, slot := 12, constantValue := 0 }, { name := "text", type := (.object "java/lang/String"), accessFlags := 18, slot := 3, constantValue := 0 }, { name := "$VALUES", type := (.array (.object "com/example/firing/firing/sql/SpecialVariable")), accessFlags := 4122, slot := 13, constantValue := 0 }]
  methods := #[k6m0]
  instanceTypes := #[(.object "java/lang/String"), .int, .int, (.object "java/lang/String")]
  staticTypes := #[(.object "com/example/firing/firing/sql/SpecialVariable"), (.object "com/example/firing/firing/sql/SpecialVariable"), (.object "com/example/firing/firing/sql/SpecialVariable"), (.object "com/example/firing/firing/sql/SpecialVariable"), (.object "com/example/firing/firing/sql/SpecialVariable"), (.object "com/example/firing/firing/sql/SpecialVariable"), (.object "com/example/firing/firing/sql/SpecialVariable"), (.object "com/example/firing/firing/sql/SpecialVariable"), (.object "com/example/firing/firing/sql/SpecialVariable"), (.object "com/example/firing/firing/sql/SpecialVariable"), (.object "com/example/firing/firing/sql/SpecialVariable"), (.object "com/example/firing/firing/sql/SpecialVariable"), (.object "java/util/Map"), (.array (.object "com/example/firing/firing/sql/SpecialVariable"))]
  resolved := Array.replicate 173 none
  statics := some 0 }

def pool7 : Array CpInfo := pool [(1, u "java/lang/Cloneable"), (0, .class_ 1), (0, u "java/lang/Object"), (0, .class_ 3)] 3

/-- java/lang/Cloneable -/
def k7 : Class := { plain "java/lang/Cloneable" (some 0) with
  accessFlags := 1537
  interfaces := #[]
  cf := some (fileOf pool7 2 #[] #[] 1537 4 #[] #[])
  fields := #[]
  methods := #[]
  instanceTypes := #[]
  staticTypes := #[]
  resolved := Array.replicate 8 none
  statics := none }

/-- the primitive byte -/
def k8 : Class := { plain "byte" none with kind := .primitive 'B', accessFlags := 0x411 }
/-- [B -/
def k9 : Class := { plain "[B" (some 0) with kind := .array 8 .byte, interfaces := #[7, 4], accessFlags := 1041 }

/-- the primitive int -/
def k10 : Class := { plain "int" none with kind := .primitive 'I', accessFlags := 0x411 }
/-- [I -/
def k11 : Class := { plain "[I" (some 0) with kind := .array 10 .int, interfaces := #[7, 4], accessFlags := 1041 }

/-- [Lcom/example/firing/firing/sql/SpecialVariable; -/
def k12 : Class := { plain "[Lcom/example/firing/firing/sql/SpecialVariable;" (some 0) with kind := .array 6 (.object "com/example/firing/firing/sql/SpecialVariable"), interfaces := #[7, 4], accessFlags := 1041 }

def heap : Heap := #[{ cls := 6, slots := #[.ref 1, .ref 2, .ref 3, .ref 4, .ref 5, .ref 6, .ref 7, .ref 8, .ref 9, .ref 10, .ref 11, .ref 12, .null, .null], vm := .statics 6 },
  { cls := 6, slots := #[.null, .int 0, .int 0, .null], vm := .none },
  { cls := 6, slots := #[.null, .int 1, .int 0, .null], vm := .none },
  { cls := 6, slots := #[.null, .int 2, .int 0, .null], vm := .none },
  { cls := 6, slots := #[.null, .int 3, .int 0, .null], vm := .none },
  { cls := 6, slots := #[.null, .int 4, .int 0, .null], vm := .none },
  { cls := 6, slots := #[.null, .int 5, .int 0, .null], vm := .none },
  { cls := 6, slots := #[.null, .int 6, .int 0, .null], vm := .none },
  { cls := 6, slots := #[.null, .int 7, .int 0, .null], vm := .none },
  { cls := 6, slots := #[.null, .int 8, .int 0, .null], vm := .none },
  { cls := 6, slots := #[.null, .int 9, .int 0, .null], vm := .none },
  { cls := 6, slots := #[.null, .int 10, .int 0, .null], vm := .none },
  { cls := 6, slots := #[.null, .int 11, .int 0, .null], vm := .none }]
def classes : Array Class := #[k0, k1, k2, k3, k4, k5, k6, k7, k8, k9, k10, k11, k12]
def interned : List (Array UInt16 × Addr) := []
def slotsUsed : Nat := 62
def theMethod : MethodId := ⟨1, 1⟩
def args0 : Array Value := #[.int 5]
def aboutOver (below : List Frame) : State where
  vm := { classes := classes, interned := interned.toArray }
  heap := heap
  slotsUsed := slotsUsed
  threads := #[{ frames := .invoking theMethod args0 :: below }]
def below0 : List Frame := [.native { method := ⟨0, 0⟩, args := #[] }]
def about1 : State := aboutOver below0
def p0 : Program := .bare "" "" ""
def e0 : Env := launch0.env 0 0 0
theorem w_frames : about1.frames = Frame.invoking theMethod args0 :: below0 := rfl
set_option maxRecDepth 65536 in
theorem w_args : argsFit about1.vm theMethod args0 = true := by decide +kernel
set_option maxRecDepth 65536 in
theorem w_heap : heapFits about1 = true := by decide +kernel
set_option maxRecDepth 65536 in
theorem w_runnable : about1.curStatus? = some .runnable := by decide +kernel
set_option maxRecDepth 65536 in
theorem w_alone : about1.alone = true := by decide +kernel
set_option maxRecDepth 65536 in
theorem w_named : about1.methodNamed? x = some theMethod := by decide +kernel
set_option maxRecDepth 65536 in
theorem w_hears : about1.hears theMethod below0 = true := by decide +kernel
set_option maxRecDepth 65536 in
theorem w_ripe : about1.ripe theMethod args0 below0 = true := by decide +kernel
theorem w_running : about1.status = .running := rfl
set_option maxRecDepth 65536 in
theorem w_room : about1.hasRoom e0.platform room_1 = true :=
  launch0.hasRoom_least _ room_1 (by decide +kernel) (by decide +kernel) (by decide +kernel) (by decide +kernel) (by decide +kernel) (by decide +kernel)
theorem allAtoms_all (ts : List Jvm.Cond) (a : Array Jvm.Value) (st : Jvm.State) : (allAtoms ts).before a st = ts.all (fun c => c.before a st) := by
  induction ts with
  | nil => rfl
  | cons c t ih =>
    show (Jvm.Cond.and c (allAtoms t)).before a st = _
    rw [Jvm.Cond.before_and, ih, List.all_cons]
def words1 : List Jvm.Cond := Jvm.Cond.code x code maxLocals ret :: tables_1
/-- a 'code' word, met by the world's own term for the bytes: nothing is compared byte by byte -/
theorem code_word {y : MethodName} {bytes : ByteArray} {mx : Nat} {rt : Option FieldType} {a : Array Value} {s : State} {m : MethodId} {meth : Method} {c : Code} (h1 : s.methodNamed? y = some m) (h2 : s.vm.method? m = some meth) (h3 : meth.code = some c) (h4 : c.code = bytes)
    (h5 : (c.maxLocals == mx && c.exceptionTable.isEmpty && decide (c.maxStack ≤ mostOperands) && decide (meth.sig.returnType = rt) && !meth.locks && decide (parseMethodDescriptor y.desc = some meth.sig)) = true) : (Jvm.Cond.code y bytes mx rt).before a s = true := by
  simp only [Bool.and_eq_true, beq_iff_eq, Bool.not_eq_true', decide_eq_true_eq] at h5
  obtain ⟨⟨⟨⟨⟨g1, g2⟩, g3⟩, g4⟩, g5⟩, g6⟩ := h5
  simp [Cond.before, Cond.holds, Cond.value, h1, h2, h3, h4, g1, g2, g3, g4, g5, g6]
def isCode : Jvm.Cond → Bool
  | .code _ _ _ _ => true
  | _ => false
theorem all_split {L : List Jvm.Cond} {P : Jvm.Cond → Bool} (h1 : L.all (fun c => isCode c || P c) = true) (h2 : ∀ c ∈ L.filter isCode, P c = true) : L.all P = true := by
  refine List.all_eq_true.mpr fun c hc => ?_
  have h := List.all_eq_true.mp h1 c hc
  rcases Bool.eq_false_or_eq_true (isCode c) with hi | hi
  · exact h2 c (List.mem_filter.mpr ⟨hc, hi⟩)
  · simpa [hi] using h
set_option maxRecDepth 65536 in
theorem w_c0 : (Jvm.Cond.code x code maxLocals ret).before args0 about1 = true := code_word (m := ⟨1, 1⟩) (meth := k1m1) (c := k1c1) (by decide +kernel) rfl rfl rfl (by decide +kernel)
set_option maxRecDepth 65536 in
theorem w_c1 : (Jvm.Cond.code ({ cls := "com/example/firing/firing/sql/SpecialVariable", name := "isRecord", desc := "()Z" } : Jvm.MethodName) prog_197_method_5_code (1 : Nat) (Option.some Jvm.ClassFile.FieldType.boolean)).before args0 about1 = true := code_word (m := ⟨6, 0⟩) (meth := k6m0) (c := k6c0) (by decide +kernel) rfl rfl rfl (by decide +kernel)
def codes1 : List Jvm.Cond := [Jvm.Cond.code x code maxLocals ret, Jvm.Cond.code ({ cls := "com/example/firing/firing/sql/SpecialVariable", name := "isRecord", desc := "()Z" } : Jvm.MethodName) prog_197_method_5_code (1 : Nat) (Option.some Jvm.ClassFile.FieldType.boolean)]
set_option maxRecDepth 65536 in
theorem codes_eq : words1.filter isCode = codes1 := rfl
theorem w_codes : ∀ c ∈ words1.filter isCode, c.before args0 about1 = true := by
  rw [codes_eq]
  intro c hc
  simp only [codes1, List.mem_cons, List.not_mem_nil, or_false] at hc
  rcases hc with rfl | rfl
  · exact w_c0
  · exact w_c1
set_option maxRecDepth 65536 in
theorem w_t1 : (words1.take 24).all (fun c => isCode c || c.before args0 about1) = true := by decide +kernel
set_option maxRecDepth 65536 in
theorem w_t2 : (words1.drop 24).all (fun c => isCode c || c.before args0 about1) = true := by decide +kernel
theorem w_tables : (allAtoms (Jvm.Cond.code x code maxLocals ret :: tables_1)).before args0 about1 = true := by
  rw [allAtoms_all]
  show words1.all (fun c => c.before args0 about1) = true
  refine all_split ?_ w_codes
  rw [← List.take_append_drop 24 words1, List.all_append, w_t1, w_t2]
  rfl
set_option maxRecDepth 65536 in
theorem w_case : (Jvm.Cond.and given_1 narrow_1).before args0 about1 = true := by decide +kernel
theorem w_applies : (headSpec (Jvm.Cond.code x code maxLocals ret :: tables_1) room_1).applies x e0.platform about1 = true :=
  (Spec.applies_iff w_frames).mpr ⟨w_running, w_runnable, w_alone, w_named, w_hears, w_ripe, w_room, w_tables⟩
theorem atStart : AtStart classFile x code maxLocals ret World_1 tables_1 room_1 Calls_1 rest_1 Pre_1 launch0 p0 e0 about1 theMethod args0 below0 :=
  ⟨lists_1, trivial, launch0.admits_env _ _ _, launch0.least_env, fairChoices_fair.cas, fairChoices_fair.clock, w_frames, w_args, w_heap, w_applies, trivial, trivial, w_case⟩
end start1
theorem witness_1 : WitnessClaimed_1 := ⟨start1.p0, start1.e0, start1.about1, start1.theMethod, start1.args0, start1.below0, start1.atStart⟩
end Jvm.Pilot.@@N@@
