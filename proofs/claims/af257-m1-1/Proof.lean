import JvmDerived
import JvmDerived.Pilot.@@N@@Statement
import JvmDerived.Pilot.@@N@@Code
set_option linter.unusedVariables false
set_option linter.unusedSimpArgs false
namespace Jvm.RoadKit
open Sem ClassFile Op Lib Jvm.Stand Jvm.Free Jvm.LawKit
section Own
variable {p : Program} {l : Launch} {e : Env} {R : Room} {s : State} {m : MethodId} {args : Array Value} {below : List Frame} {meth : Method} {c : Code} {T : State} {locs : List Loc} {cells slots : Nat}
/-- the run from S ends by a return, with Qp of what it returns, the heap and the places written, within kc cells and ks slots -/
def OwnGo (p : Program) (e : Env) (below : List Frame) (s : State) (Qp : Option Value → Heap → List Loc → Prop) (kc ks : Nat) (S : State) : Prop :=
  ∃ s₂ o, Steps p.tables e below S s₂ ∧ s₂.status = .running ∧ Ended s₂ below o ∧ ∃ v L, o = .returned v ∧ Qp v s₂.heap L ∧ FrameEnd s o s₂ L kc ks
variable {Qp : Option Value → Heap → List Loc → Prop} {kc ks : Nat} {S S' : State}
theorem ownStep (h : ∀ t, Steps p.tables e below S' t → Steps p.tables e below S t) (k : OwnGo p e below s Qp kc ks S') : OwnGo p e below s Qp kc ks S := by
  obtain ⟨s₂, o, h1, r⟩ := k
  exact ⟨s₂, o, h _ h1, r⟩
theorem ownTrans (h : Steps p.tables e below S S') (k : OwnGo p e below s Qp kc ks S') : OwnGo p e below s Qp kc ks S := ownStep (fun _ q => h.trans q) k
theorem ownEnd (X : Stand p l e R s m args below meth c T locs cells slots) {v : Option Value} (hv : meth.sig.returnType = none → v = none) (hlk : meth.locks = false) (hc : cells ≤ kc) (hs : slots ≤ ks) (hq : Qp v T.heap locs)
    (hst : ∀ fs : List Frame, (∀ (f : JFrame) (acts : List Action), f.method = m → f.locked = none → f.entered = [] → (doReturn e (T.setTop f) acts v).1 = T.setFrames fs) → Steps p.tables e below S (T.setFrames fs)) : OwnGo p e below s Qp kc ks S := by
  obtain ⟨fs, hr, hrun, hended, hW, hsame⟩ := X.leave (v := v) hv hlk
  exact ⟨_, _, hst fs hr, hrun, hended, _, _, rfl, hq, ⟨_, rfl⟩, hW, hsame.mono hc hs⟩
theorem ownRetN (X : Stand p l e R s m args below meth c T locs cells slots) (hx : p.tables.exec = Jvm.exec) {pc : Nat} {Ls : Array Slot} {z : Int32} {t : FieldType} {rest : List Value} (hret : meth.sig.returnType = some t) (ht : t = .boolean ∨ t = .byte ∨ t = .char ∨ t = .short) (hd : decode c.code pc = .ok (.ireturn, 1)) (hlk : meth.locks = false) (hc : cells ≤ kc) (hs : slots ≤ ks) (hq : Qp (some (.int (nar t z))) T.heap locs) :
    OwnGo p e below s Qp kc ks (T.setTop (mkF m pc Ls (.int z :: rest))) :=
  ownEnd X (fun h => by rw [hret] at h; cases h) hlk hc hs hq (fun fs hr => retN X hx hret ht hd hr)
theorem ownRetI (X : Stand p l e R s m args below meth c T locs cells slots) (hx : p.tables.exec = Jvm.exec) {pc : Nat} {Ls : Array Slot} {z : Int32} {rest : List Value} (hret : meth.sig.returnType = some .int) (hd : decode c.code pc = .ok (.ireturn, 1)) (hlk : meth.locks = false) (hc : cells ≤ kc) (hs : slots ≤ ks) (hq : Qp (some (.int z)) T.heap locs) :
    OwnGo p e below s Qp kc ks (T.setTop (mkF m pc Ls (.int z :: rest))) :=
  ownEnd X (fun h => by rw [hret] at h; cases h) hlk hc hs hq (fun fs hr => retOut X hx hret rfl (Or.inl ⟨rfl, Or.inl rfl, z, rfl⟩) hd hr)
theorem ownRetA (X : Stand p l e R s m args below meth c T locs cells slots) (hx : p.tables.exec = Jvm.exec) {pc : Nat} {Ls : Array Slot} {w : Value} {t : FieldType} {rest : List Value} (hret : meth.sig.returnType = some t) (hn : narrow t w = w) (ht : t.isReference = true) (hw : w.isRef = true) (hd : decode c.code pc = .ok (.areturn, 1)) (hlk : meth.locks = false) (hc : cells ≤ kc) (hs : slots ≤ ks) (hq : Qp (some w) T.heap locs) :
    OwnGo p e below s Qp kc ks (T.setTop (mkF m pc Ls (w :: rest))) :=
  ownEnd X (fun h => by rw [hret] at h; cases h) hlk hc hs hq (fun fs hr => retOut X hx hret hn (Or.inr (Or.inr (Or.inr (Or.inr ⟨rfl, ht, hw⟩)))) hd hr)
theorem ownRetB (X : Stand p l e R s m args below meth c T locs cells slots) (hx : p.tables.exec = Jvm.exec) {pc : Nat} {Ls : Array Slot} {z : Int32} {t : FieldType} {rest : List Value} (hret : meth.sig.returnType = some t) (ht : t = .int ∨ t = .boolean ∨ t = .byte ∨ t = .char ∨ t = .short) (hn : narrow t (.int z) = .int z) (hd : decode c.code pc = .ok (.ireturn, 1)) (hlk : meth.locks = false) (hc : cells ≤ kc) (hs : slots ≤ ks) (hq : Qp (some (.int z)) T.heap locs) :
    OwnGo p e below s Qp kc ks (T.setTop (mkF m pc Ls (.int z :: rest))) :=
  ownEnd X (fun h => by rw [hret] at h; cases h) hlk hc hs hq (fun fs hr => retOut X hx hret hn (Or.inl ⟨rfl, ht, z, rfl⟩) hd hr)
theorem ownRet0 (X : Stand p l e R s m args below meth c T locs cells slots) (hx : p.tables.exec = Jvm.exec) {pc : Nat} {Ls : Array Slot} (hret : meth.sig.returnType = none) (hd : decode c.code pc = .ok (.return_, 1)) (hlk : meth.locks = false) (hc : cells ≤ kc) (hs : slots ≤ ks) (hq : Qp none T.heap locs) :
    OwnGo p e below s Qp kc ks (T.setTop (mkF m pc Ls [])) :=
  ownEnd X (fun _ => rfl) hlk hc hs hq (fun fs hr => X.returnOut hx hret hd hr)
end Own
section OwnWords
variable {args : Array Value} {first s : State} {o : Option Outcome} {idx : List Nat} {t u : Term} {k : Int32} {x : Addr}
theorem own_eqI (h : (Cond.eq t (.int k)).value args first o s idx = some true) : t.eval args first o idx s = some (.int k) := by
  simp only [Cond.value, Term.eval] at h
  cases ht : t.eval args first o idx s with
  | none => simp [ht] at h
  | some y => cases y <;> simp [ht] at h ⊢ <;> exact h
theorem own_eqR (h : (Cond.eq t u).value args first o s idx = some true) (hu : u.eval args first o idx s = some (.ref x)) : t.eval args first o idx s = some (.ref x) := by
  simp only [Cond.value, hu] at h
  cases ht : t.eval args first o idx s with
  | none => simp [ht] at h
  | some y => cases y <;> simp [ht] at h ⊢ <;> exact h
theorem own_fld {C n d : String} {v : Value} (ht : t.eval args s none [] s = some (.ref x)) (h : (Term.field t C n d).eval args s none [] s = some v) : Fld s s.heap x C n d v :=
  Fld.start (by rw [← fld_at ht]; exact h)
theorem own_len {n : Int32} (ht : t.eval args first o idx s = some (.ref x)) (h : (Term.length t).eval args first o idx s = some (.int n)) {cl : Cell} (hc : s.heap[x]? = some cl) : cl.slots.size < 2 ^ 31 ∧ cl.slots.size.toInt32 = n := by
  obtain ⟨x', cl', e1, e2, e3⟩ := Term.length_spec h
  cases ht.symm.trans e1
  have e4 : cl' = cl := Option.some.inj ((State.arrayAt?_spec e2).1.symm.trans hc)
  subst e4
  simp only [Term.eval, ht, e2, Option.bind_eq_bind, Option.bind_some] at h
  split at h <;> simp_all
end OwnWords
theorem own_pos {x : Int32} (h1 : ¬ x < 0) (h2 : ¬ x = 0) : (0 : Int32) < x := by
  rw [Int32.lt_iff_toInt_lt] at *
  have h3 : x.toInt ≠ (0 : Int32).toInt := fun q => h2 (Int32.toInt_inj.mp q)
  have h4 : (0 : Int32).toInt = 0 := rfl
  omega
theorem own_nlt {x : Int32} (h1 : (0 : Int32) < x) : ¬ x < 0 := by
  rw [Int32.lt_iff_toInt_lt] at *
  have h4 : (0 : Int32).toInt = 0 := rfl
  omega
end Jvm.RoadKit
namespace Jvm.Pilot.@@N@@
open Jvm Jvm.ClassFile Sem Op Lib Jvm.Free Jvm.Stand Jvm.LawKit Jvm.RoadKit Bundle Jvm.Pilot.@@N@@.Jvm.D
theorem d1_0 : decode prog_37_method_5_code 0 = .ok (.aload_n 0, 1) := by decide +kernel
theorem d1_1 : decode prog_37_method_5_code 1 = .ok (.getstatic 3, 3) := by decide +kernel
theorem d1_4 : decode prog_37_method_5_code 4 = .ok (.if_acmp .ne 16, 3) := by decide +kernel
theorem d1_7 : decode prog_37_method_5_code 7 = .ok (.iload_n 1, 1) := by decide +kernel
theorem d1_8 : decode prog_37_method_5_code 8 = .ok (.ifCond .gt 7, 3) := by decide +kernel
theorem d1_11 : decode prog_37_method_5_code 11 = .ok (.iconst 1, 1) := by decide +kernel
theorem d1_12 : decode prog_37_method_5_code 12 = .ok (.goto 4, 3) := by decide +kernel
theorem d1_15 : decode prog_37_method_5_code 15 = .ok (.iconst 0, 1) := by decide +kernel
theorem d1_16 : decode prog_37_method_5_code 16 = .ok (.istore_n 2, 1) := by decide +kernel
theorem d1_17 : decode prog_37_method_5_code 17 = .ok (.goto 13, 3) := by decide +kernel
theorem d1_20 : decode prog_37_method_5_code 20 = .ok (.iload_n 1, 1) := by decide +kernel
theorem d1_21 : decode prog_37_method_5_code 21 = .ok (.ifCond .lt 7, 3) := by decide +kernel
theorem d1_24 : decode prog_37_method_5_code 24 = .ok (.iconst 1, 1) := by decide +kernel
theorem d1_25 : decode prog_37_method_5_code 25 = .ok (.goto 4, 3) := by decide +kernel
theorem d1_28 : decode prog_37_method_5_code 28 = .ok (.iconst 0, 1) := by decide +kernel
theorem d1_29 : decode prog_37_method_5_code 29 = .ok (.istore_n 2, 1) := by decide +kernel
theorem d1_30 : decode prog_37_method_5_code 30 = .ok (.iload_n 2, 1) := by decide +kernel
theorem d1_31 : decode prog_37_method_5_code 31 = .ok (.ireturn, 1) := by decide +kernel
theorem own_pd0 : parseMethodDescriptor "(I)Z" = some ⟨[.int], some .boolean⟩ := by decide +kernel
def Q1a (Z : State) (a1 : Addr) (p2 : Int32) (w3 : Addr) (r : Int32) (h0 : Heap) (n0 : Nat) (v : Option Value) (h : Heap) (L : List Loc) : Prop := v = some (.int r) ∧ Fr n0 L ∧ h = h0
theorem own_pn_rm1a : plainName "com/example/covenantry/covenantry/model/Bound" = true := by first | (simp [plainName, overriddenIn]; done) | decide +kernel
theorem own_ef_rm1a (m : MethodId) (x0 : Addr) (x1 : Int32) : entryFrame m #[(.ref x0), (.int x1)] 3 = mkF m 0 #[.val (.ref x0), .val (.int x1), .unset] [] := by first | (simp [entryFrame, mkF, argsToLocals, Value.category]; done) | rfl
set_option maxRecDepth 65536 in
set_option maxHeartbeats 40000000 in
theorem rm1a (l : Launch) (Z : State) (a0 : Array Value) (hw : ∀ d ∈ tables_1, d.before a0 Z = true) (ws : List Jvm.Cond) (a1 : Addr) (p2 : Int32) (w3 : Addr) (r : Int32) (h0 : Heap) (n0 : Nat) (O0 : Old Z n0 h0) (S0 : Sta Z Z.heap "com/example/covenantry/covenantry/model/Bound" "MAXIMUM" "Lcom/example/covenantry/covenantry/model/Bound;" (.ref w3)) (ha : a1 = w3) (hr : (if (0 : Int32) < p2 then (0 : Int32) else 1) = r) :
    MetFree l (⟨"com/example/covenantry/covenantry/model/Bound", "admits", "(I)Z"⟩ : MethodName) (head1 (Jvm.Cond.code (⟨"com/example/covenantry/covenantry/model/Bound", "admits", "(I)Z"⟩ : MethodName) prog_37_method_5_code 3 (some .boolean) :: ws) ({ frames := 0, cells := 0, slots := 0, locals := 0 } : Room)) (fun a U => a = #[(.ref a1), (.int p2)] ∧ Z.Warmed39 U.vm ∧ U.heap = h0) (fun _ _ _ _ _ => True) (fun _ U o U' => ∃ v L, o = .returned v ∧ Q1a Z a1 p2 w3 r h0 n0 v U'.heap L ∧ FrameEnd U o U' L ({ frames := 0, cells := 0, slots := 0, locals := 0 } : Room).cells ({ frames := 0, cells := 0, slots := 0, locals := 0 } : Room).slots) := by
  refine MetFree.of_bodySF (plainFor_of_name own_pn_rm1a) hisR ?_
  intro p e s m args below meth c s₁ Bd hml0 hP hK
  obtain ⟨rfl, hZ, hh⟩ := hP
  have hx := Bd.exec
  have hby := Bd.bytes
  have hml : c.maxLocals = 3 := hml0
  have hown : s.vm.findClass "com/example/covenantry/covenantry/model/Bound" = some m.cls := findClass_of_methodNamed Bd.named
  have hnm := (name_of_methodNamed Bd.named Bd.method).1
  have X0 : Stand p l e ({ frames := 0, cells := 0, slots := 0, locals := 0 } : Room) s m #[(.ref a1), (.int p2)] below meth c s₁ [] 0 0 := Stand.of_body Bd
  have e0 : s₁.heap = h0 := by rw [← hh, Bd.state]; rfl
  have N0 := Fr.nil n0
  show OwnGo p e below s (Q1a Z a1 p2 w3 r h0 n0) ({ frames := 0, cells := 0, slots := 0, locals := 0 } : Room).cells ({ frames := 0, cells := 0, slots := 0, locals := 0 } : Room).slots (s₁.setTop (entryFrame m #[(.ref a1), (.int p2)] 3))
  refine ownStep (fun _ k => castTop (own_ef_rm1a m a1 p2) k) ?_
  show OwnGo _ _ _ _ _ _ _ (s₁.setTop (mkF m 0 #[.val (.ref a1), .val (.int p2), .unset] []))
  refine ownStep (fun _ k => XS.aloadN X0.here hx rfl (hb hby d1_0) rfl rfl k) ?_
  show OwnGo _ _ _ _ _ _ _ (s₁.setTop (mkF m 1 #[.val (.ref a1), .val (.int p2), .unset] [(.ref a1)]))
  obtain ⟨T1, X1, e1, st1⟩ := getS2 X0 hx hZ hown (host := "") (Or.inl (hw _ (List.mem_of_getElem? (i := 8) rfl))) Via.refl e0 (S0.ext O0.2) (g := (mkF m 1 #[.val (.ref a1), .val (.int p2), .unset] [(.ref a1)])) rfl (hb hby d1_1)
  refine ownStep st1 ?_
  show OwnGo _ _ _ _ _ _ _ (T1.setTop (mkF m 4 #[.val (.ref a1), .val (.int p2), .unset] [(.ref w3), (.ref a1)]))
  refine ownStep (fun _ k => Jvm.RoadKit.acmp (g := (mkF m 4 #[.val (.ref a1), .val (.int p2), .unset] [(.ref w3), (.ref a1)])) X1 hx rfl rfl rfl (pc0 := 4) (pc' := 7) (same := true) rfl (hb hby d1_4) rfl (decide_eq_true (congrArg Value.ref ha)) (by decide) (by decide) k) ?_
  show OwnGo _ _ _ _ _ _ _ (T1.setTop (mkF m 7 #[.val (.ref a1), .val (.int p2), .unset] []))
  refine ownStep (fun _ k => XS.iloadN X1.here hx rfl (hb hby d1_7) rfl k) ?_
  show OwnGo _ _ _ _ _ _ _ (T1.setTop (mkF m 8 #[.val (.ref a1), .val (.int p2), .unset] [(.int p2)]))
  by_cases h : (0 : Int32) < p2
  · skip
    refine ownStep (fun _ k => XS.ifYes X1.here hx rfl (pc0 := 8) (pc' := 15) rfl (hb hby d1_8) rfl ((if0 _ _).trans (tlt h).2.2.1) (by decide) (by decide) k) ?_
    show OwnGo _ _ _ _ _ _ _ (T1.setTop (mkF m 15 #[.val (.ref a1), .val (.int p2), .unset] []))
    refine ownStep (fun _ k => XS.iconst X1.here hx rfl (hb hby d1_15) k) ?_
    show OwnGo _ _ _ _ _ _ _ (T1.setTop (mkF m 16 #[.val (.ref a1), .val (.int p2), .unset] [(.int (0 : Int32))]))
    refine ownStep (fun _ k => XS.istoreN X1.here hx rfl (hb hby d1_16) rfl (l' := #[.val (.ref a1), .val (.int p2), .val (.int (0 : Int32))]) rfl k) ?_
    show OwnGo _ _ _ _ _ _ _ (T1.setTop (mkF m 17 #[.val (.ref a1), .val (.int p2), .val (.int (0 : Int32))] []))
    refine ownStep (fun _ k => XS.goto X1.here hx rfl (pc0 := 17) (pc' := 30) rfl (hb hby d1_17) (by decide) (by decide) k) ?_
    show OwnGo _ _ _ _ _ _ _ (T1.setTop (mkF m 30 #[.val (.ref a1), .val (.int p2), .val (.int (0 : Int32))] []))
    refine ownStep (fun _ k => XS.iloadN X1.here hx rfl (hb hby d1_30) rfl k) ?_
    show OwnGo _ _ _ _ _ _ _ (T1.setTop (mkF m 31 #[.val (.ref a1), .val (.int p2), .val (.int (0 : Int32))] [(.int (0 : Int32))]))
    have eq31 : T1.heap = h0 := e1
    exact ownRetN X1 hx (t := .boolean) Bd.returns (by simp) (hb hby d1_31) (BodyLoose.notSynchronized Bd) (by decide) (by decide) (by rw [eq31]; exact ⟨(by rw [← hr, if_pos h]; first | done | rfl), N0, rfl⟩)
  · skip
    refine ownStep (fun _ k => XS.ifNo X1.here hx rfl (hb hby d1_8) rfl ((if0 _ _).trans (flt h).2.2.1) k) ?_
    show OwnGo _ _ _ _ _ _ _ (T1.setTop (mkF m 11 #[.val (.ref a1), .val (.int p2), .unset] []))
    refine ownStep (fun _ k => XS.iconst X1.here hx rfl (hb hby d1_11) k) ?_
    show OwnGo _ _ _ _ _ _ _ (T1.setTop (mkF m 12 #[.val (.ref a1), .val (.int p2), .unset] [(.int (1 : Int32))]))
    refine ownStep (fun _ k => XS.goto X1.here hx rfl (pc0 := 12) (pc' := 16) rfl (hb hby d1_12) (by decide) (by decide) k) ?_
    show OwnGo _ _ _ _ _ _ _ (T1.setTop (mkF m 16 #[.val (.ref a1), .val (.int p2), .unset] [(.int (1 : Int32))]))
    refine ownStep (fun _ k => XS.istoreN X1.here hx rfl (hb hby d1_16) rfl (l' := #[.val (.ref a1), .val (.int p2), .val (.int (1 : Int32))]) rfl k) ?_
    show OwnGo _ _ _ _ _ _ _ (T1.setTop (mkF m 17 #[.val (.ref a1), .val (.int p2), .val (.int (1 : Int32))] []))
    refine ownStep (fun _ k => XS.goto X1.here hx rfl (pc0 := 17) (pc' := 30) rfl (hb hby d1_17) (by decide) (by decide) k) ?_
    show OwnGo _ _ _ _ _ _ _ (T1.setTop (mkF m 30 #[.val (.ref a1), .val (.int p2), .val (.int (1 : Int32))] []))
    refine ownStep (fun _ k => XS.iloadN X1.here hx rfl (hb hby d1_30) rfl k) ?_
    show OwnGo _ _ _ _ _ _ _ (T1.setTop (mkF m 31 #[.val (.ref a1), .val (.int p2), .val (.int (1 : Int32))] [(.int (1 : Int32))]))
    have eq31 : T1.heap = h0 := e1
    exact ownRetN X1 hx (t := .boolean) Bd.returns (by simp) (hb hby d1_31) (BodyLoose.notSynchronized Bd) (by decide) (by decide) (by rw [eq31]; exact ⟨(by rw [← hr, if_neg h]; first | done | rfl), N0, rfl⟩)
def Q1b (Z : State) (a1 : Addr) (p2 : Int32) (w3 : Addr) (r : Int32) (h0 : Heap) (n0 : Nat) (v : Option Value) (h : Heap) (L : List Loc) : Prop := v = some (.int r) ∧ Fr n0 L ∧ h = h0
theorem own_pn_rm1b : plainName "com/example/covenantry/covenantry/model/Bound" = true := by first | (simp [plainName, overriddenIn]; done) | decide +kernel
theorem own_ef_rm1b (m : MethodId) (x0 : Addr) (x1 : Int32) : entryFrame m #[(.ref x0), (.int x1)] 3 = mkF m 0 #[.val (.ref x0), .val (.int x1), .unset] [] := by first | (simp [entryFrame, mkF, argsToLocals, Value.category]; done) | rfl
set_option maxRecDepth 65536 in
set_option maxHeartbeats 40000000 in
theorem rm1b (l : Launch) (Z : State) (a0 : Array Value) (hw : ∀ d ∈ tables_1, d.before a0 Z = true) (ws : List Jvm.Cond) (a1 : Addr) (p2 : Int32) (w3 : Addr) (r : Int32) (h0 : Heap) (n0 : Nat) (O0 : Old Z n0 h0) (S0 : Sta Z Z.heap "com/example/covenantry/covenantry/model/Bound" "MAXIMUM" "Lcom/example/covenantry/covenantry/model/Bound;" (.ref w3)) (ha : ¬ (a1 = w3)) (hr : (if p2 < (0 : Int32) then (0 : Int32) else 1) = r) :
    MetFree l (⟨"com/example/covenantry/covenantry/model/Bound", "admits", "(I)Z"⟩ : MethodName) (head1 (Jvm.Cond.code (⟨"com/example/covenantry/covenantry/model/Bound", "admits", "(I)Z"⟩ : MethodName) prog_37_method_5_code 3 (some .boolean) :: ws) ({ frames := 0, cells := 0, slots := 0, locals := 0 } : Room)) (fun a U => a = #[(.ref a1), (.int p2)] ∧ Z.Warmed39 U.vm ∧ U.heap = h0) (fun _ _ _ _ _ => True) (fun _ U o U' => ∃ v L, o = .returned v ∧ Q1b Z a1 p2 w3 r h0 n0 v U'.heap L ∧ FrameEnd U o U' L ({ frames := 0, cells := 0, slots := 0, locals := 0 } : Room).cells ({ frames := 0, cells := 0, slots := 0, locals := 0 } : Room).slots) := by
  refine MetFree.of_bodySF (plainFor_of_name own_pn_rm1b) hisR ?_
  intro p e s m args below meth c s₁ Bd hml0 hP hK
  obtain ⟨rfl, hZ, hh⟩ := hP
  have hx := Bd.exec
  have hby := Bd.bytes
  have hml : c.maxLocals = 3 := hml0
  have hown : s.vm.findClass "com/example/covenantry/covenantry/model/Bound" = some m.cls := findClass_of_methodNamed Bd.named
  have hnm := (name_of_methodNamed Bd.named Bd.method).1
  have X0 : Stand p l e ({ frames := 0, cells := 0, slots := 0, locals := 0 } : Room) s m #[(.ref a1), (.int p2)] below meth c s₁ [] 0 0 := Stand.of_body Bd
  have e0 : s₁.heap = h0 := by rw [← hh, Bd.state]; rfl
  have N0 := Fr.nil n0
  show OwnGo p e below s (Q1b Z a1 p2 w3 r h0 n0) ({ frames := 0, cells := 0, slots := 0, locals := 0 } : Room).cells ({ frames := 0, cells := 0, slots := 0, locals := 0 } : Room).slots (s₁.setTop (entryFrame m #[(.ref a1), (.int p2)] 3))
  refine ownStep (fun _ k => castTop (own_ef_rm1b m a1 p2) k) ?_
  show OwnGo _ _ _ _ _ _ _ (s₁.setTop (mkF m 0 #[.val (.ref a1), .val (.int p2), .unset] []))
  refine ownStep (fun _ k => XS.aloadN X0.here hx rfl (hb hby d1_0) rfl rfl k) ?_
  show OwnGo _ _ _ _ _ _ _ (s₁.setTop (mkF m 1 #[.val (.ref a1), .val (.int p2), .unset] [(.ref a1)]))
  obtain ⟨T2, X2, e2, st2⟩ := getS2 X0 hx hZ hown (host := "") (Or.inl (hw _ (List.mem_of_getElem? (i := 8) rfl))) Via.refl e0 (S0.ext O0.2) (g := (mkF m 1 #[.val (.ref a1), .val (.int p2), .unset] [(.ref a1)])) rfl (hb hby d1_1)
  refine ownStep st2 ?_
  show OwnGo _ _ _ _ _ _ _ (T2.setTop (mkF m 4 #[.val (.ref a1), .val (.int p2), .unset] [(.ref w3), (.ref a1)]))
  refine ownStep (fun _ k => Jvm.RoadKit.acmp (g := (mkF m 4 #[.val (.ref a1), .val (.int p2), .unset] [(.ref w3), (.ref a1)])) X2 hx rfl rfl rfl (pc0 := 4) (pc' := 20) (same := false) rfl (hb hby d1_4) rfl (decide_eq_false (fun q => ha (Value.ref.inj q))) (by decide) (by decide) k) ?_
  show OwnGo _ _ _ _ _ _ _ (T2.setTop (mkF m 20 #[.val (.ref a1), .val (.int p2), .unset] []))
  refine ownStep (fun _ k => XS.iloadN X2.here hx rfl (hb hby d1_20) rfl k) ?_
  show OwnGo _ _ _ _ _ _ _ (T2.setTop (mkF m 21 #[.val (.ref a1), .val (.int p2), .unset] [(.int p2)]))
  by_cases h : p2 < (0 : Int32)
  · skip
    refine ownStep (fun _ k => XS.ifYes X2.here hx rfl (pc0 := 21) (pc' := 28) rfl (hb hby d1_21) rfl ((if0 _ _).trans (tlt h).1) (by decide) (by decide) k) ?_
    show OwnGo _ _ _ _ _ _ _ (T2.setTop (mkF m 28 #[.val (.ref a1), .val (.int p2), .unset] []))
    refine ownStep (fun _ k => XS.iconst X2.here hx rfl (hb hby d1_28) k) ?_
    show OwnGo _ _ _ _ _ _ _ (T2.setTop (mkF m 29 #[.val (.ref a1), .val (.int p2), .unset] [(.int (0 : Int32))]))
    refine ownStep (fun _ k => XS.istoreN X2.here hx rfl (hb hby d1_29) rfl (l' := #[.val (.ref a1), .val (.int p2), .val (.int (0 : Int32))]) rfl k) ?_
    show OwnGo _ _ _ _ _ _ _ (T2.setTop (mkF m 30 #[.val (.ref a1), .val (.int p2), .val (.int (0 : Int32))] []))
    refine ownStep (fun _ k => XS.iloadN X2.here hx rfl (hb hby d1_30) rfl k) ?_
    show OwnGo _ _ _ _ _ _ _ (T2.setTop (mkF m 31 #[.val (.ref a1), .val (.int p2), .val (.int (0 : Int32))] [(.int (0 : Int32))]))
    have eq31 : T2.heap = h0 := e2
    exact ownRetN X2 hx (t := .boolean) Bd.returns (by simp) (hb hby d1_31) (BodyLoose.notSynchronized Bd) (by decide) (by decide) (by rw [eq31]; exact ⟨(by rw [← hr, if_pos h]; first | done | rfl), N0, rfl⟩)
  · skip
    refine ownStep (fun _ k => XS.ifNo X2.here hx rfl (hb hby d1_21) rfl ((if0 _ _).trans (flt h).1) k) ?_
    show OwnGo _ _ _ _ _ _ _ (T2.setTop (mkF m 24 #[.val (.ref a1), .val (.int p2), .unset] []))
    refine ownStep (fun _ k => XS.iconst X2.here hx rfl (hb hby d1_24) k) ?_
    show OwnGo _ _ _ _ _ _ _ (T2.setTop (mkF m 25 #[.val (.ref a1), .val (.int p2), .unset] [(.int (1 : Int32))]))
    refine ownStep (fun _ k => XS.goto X2.here hx rfl (pc0 := 25) (pc' := 29) rfl (hb hby d1_25) (by decide) (by decide) k) ?_
    show OwnGo _ _ _ _ _ _ _ (T2.setTop (mkF m 29 #[.val (.ref a1), .val (.int p2), .unset] [(.int (1 : Int32))]))
    refine ownStep (fun _ k => XS.istoreN X2.here hx rfl (hb hby d1_29) rfl (l' := #[.val (.ref a1), .val (.int p2), .val (.int (1 : Int32))]) rfl k) ?_
    show OwnGo _ _ _ _ _ _ _ (T2.setTop (mkF m 30 #[.val (.ref a1), .val (.int p2), .val (.int (1 : Int32))] []))
    refine ownStep (fun _ k => XS.iloadN X2.here hx rfl (hb hby d1_30) rfl k) ?_
    show OwnGo _ _ _ _ _ _ _ (T2.setTop (mkF m 31 #[.val (.ref a1), .val (.int p2), .val (.int (1 : Int32))] [(.int (1 : Int32))]))
    have eq31 : T2.heap = h0 := e2
    exact ownRetN X2 hx (t := .boolean) Bd.returns (by simp) (hb hby d1_31) (BodyLoose.notSynchronized Bd) (by decide) (by decide) (by rw [eq31]; exact ⟨(by rw [← hr, if_neg h]; first | done | rfl), N0, rfl⟩)
def Q0 (Z : State) (p1 : Int32) (w2 : Addr) (w5 : Addr) (h0 : Heap) (n0 : Nat) (v : Option Value) (h : Heap) (L : List Loc) : Prop := v = some (.int 1) ∧ Fr n0 L
theorem own_pn_rm0 : plainName "com/example/covenantry/covenantry/model/BoundAdmitsPinLaw" = true := by first | (simp [plainName, overriddenIn]; done) | decide +kernel
theorem own_ef_rm0 (m : MethodId) (x0 : Int32) : entryFrame m #[(.int x0)] maxLocals = mkF m 0 #[.val (.int x0), .unset, .unset] [] := by first | (simp [entryFrame, mkF, argsToLocals, Value.category, maxLocals]; done) | rfl
set_option maxRecDepth 65536 in
set_option maxHeartbeats 40000000 in
theorem rm0 (l : Launch) (Z : State) (a0 : Array Value) (hw : ∀ d ∈ tables_1, d.before a0 Z = true) (ws : List Jvm.Cond) (p1 : Int32) (w2 : Addr) (w5 : Addr) (h0 : Heap) (n0 : Nat) (O0 : Old Z n0 h0) (S1 : Sta Z Z.heap "com/example/covenantry/covenantry/model/Bound" "MAXIMUM" "Lcom/example/covenantry/covenantry/model/Bound;" (.ref w2)) (E1 : Exa Z Z.heap w2 "com/example/covenantry/covenantry/model/Bound") (S2 : Sta Z Z.heap "com/example/covenantry/covenantry/model/Bound" "MINIMUM" "Lcom/example/covenantry/covenantry/model/Bound;" (.ref w5)) (E2 : Exa Z Z.heap w5 "com/example/covenantry/covenantry/model/Bound") (hne : ¬ (w5 = w2)) :
    MetFree l x (head1 (Jvm.Cond.code x code maxLocals ret :: ws) room_1) (fun a U => a = #[(.int p1)] ∧ Z.Warmed39 U.vm ∧ U.heap = h0) (fun _ _ _ _ _ => True) (fun _ U o U' => ∃ v L, o = .returned v ∧ Q0 Z p1 w2 w5 h0 n0 v U'.heap L ∧ FrameEnd U o U' L room_1.cells room_1.slots) := by
  refine MetFree.of_bodySF (plainFor_of_name own_pn_rm0) hisR ?_
  intro p e s m args below meth c s₁ Bd hml0 hP hK
  obtain ⟨rfl, hZ, hh⟩ := hP
  have hx := Bd.exec
  have hby := Bd.bytes
  have hml : c.maxLocals = 3 := hml0
  have hown : s.vm.findClass "com/example/covenantry/covenantry/model/BoundAdmitsPinLaw" = some m.cls := findClass_of_methodNamed Bd.named
  have hnm := (name_of_methodNamed Bd.named Bd.method).1
  have X0 : Stand p l e room_1 s m #[(.int p1)] below meth c s₁ [] 0 0 := Stand.of_body Bd
  have e0 : s₁.heap = h0 := by rw [← hh, Bd.state]; rfl
  have N0 := Fr.nil n0
  show OwnGo p e below s (Q0 Z p1 w2 w5 h0 n0) room_1.cells room_1.slots (s₁.setTop (entryFrame m #[(.int p1)] maxLocals))
  refine ownStep (fun _ k => castTop (own_ef_rm0 m p1) k) ?_
  show OwnGo _ _ _ _ _ _ _ (s₁.setTop (mkF m 0 #[.val (.int p1), .unset, .unset] []))
  by_cases h1 : p1 < (0 : Int32)
  · skip
    have h2 : ¬ ((0 : Int32) < p1) := fun q => own_nlt q h1
    obtain ⟨T3, X3, e3, st3⟩ := getS2 X0 hx hZ hown (host := "") (Or.inl (hw _ (List.mem_of_getElem? (i := 0) rfl))) Via.refl e0 (S1.ext O0.2) (g := (mkF m 0 #[.val (.int p1), .unset, .unset] [])) rfl (hb hby at_0)
    refine ownStep st3 ?_
    show OwnGo _ _ _ _ _ _ _ (T3.setTop (mkF m 3 #[.val (.int p1), .unset, .unset] [(.ref w2)]))
    refine ownStep (fun _ k => XS.iloadN X3.here hx rfl (hb hby at_3) rfl k) ?_
    show OwnGo _ _ _ _ _ _ _ (T3.setTop (mkF m 4 #[.val (.int p1), .unset, .unset] [(.int p1), (.ref w2)]))
    obtain ⟨cq4, kq4, q4a, q4b, q4c⟩ := isOf hZ e3 (E1.ext O0.2)
    obtain ⟨_, _, ⟨T4, L4, k4, n4⟩, -, X4, ⟨Lc4, hQ4, l4, y4, z4⟩, st4⟩ := X3.virtualBack hx (y := (⟨"com/example/covenantry/covenantry/model/Bound", "admits", "(I)Z"⟩ : MethodName)) (z := (⟨"com/example/covenantry/covenantry/model/Bound", "admits", "(I)Z"⟩ : MethodName)) hown (mvT hZ (hw _ (List.mem_of_getElem? (i := 3) rfl))) (mvT hZ (hw _ (List.mem_of_getElem? (i := 4) rfl))) (notFace_of_selects (args := #[]) (mvT hZ (hw _ (List.mem_of_getElem? (i := 6) rfl)))) (mvT hZ (hw _ (List.mem_of_getElem? (i := 6) rfl))) (mvT hZ (hw _ (List.mem_of_getElem? (i := 5) rfl))) (by decide) (backOf (W := 0) (rm1a l Z a0 hw [] w2 p1 w2 (1 : Int32) h0 n0 O0 S1 rfl (if_neg h2)) hZ (hw _ (List.mem_of_getElem? (i := 7) rfl)) (hw _ (List.mem_of_getElem? (i := 1) rfl)) (by decide) (by decide)) q4a q4c (g := (mkF m 4 #[.val (.int p1), .unset, .unset] [(.int p1), (.ref w2)])) rfl (by rw [hml]; rfl) (Steps.refl _) (argsL := [(.int p1)]) (rest := []) (lenOf own_pd0 rfl) rfl (by show 2 * 0 + _ ≤ _; exact Nat.le_of_eq rfl) (hb hby at_4) (fun _ _ => ⟨rfl, e3, (by decide : 0 + 0 ≤ _), (by decide : 0 + 0 ≤ _)⟩)
    dsimp only [Pt.U, Pt.locs, Pt.cells, Pt.slots] at X4 l4 y4 z4 st4 hQ4
    subst l4 y4 z4
    obtain ⟨rfl, N4q, e4⟩ := hQ4
    have N4 := Fr.app N0 N4q
    refine ownTrans st4 ?_
    show OwnGo _ _ _ _ _ _ _ (T4.setTop (mkF m 7 #[.val (.int p1), .unset, .unset] [(.int (1 : Int32))]))
    refine ownStep (fun _ k => XS.istoreN X4.here hx rfl (hb hby at_7) rfl (l' := #[.val (.int p1), .val (.int (1 : Int32)), .unset]) rfl k) ?_
    show OwnGo _ _ _ _ _ _ _ (T4.setTop (mkF m 8 #[.val (.int p1), .val (.int (1 : Int32)), .unset] []))
    obtain ⟨T5, X5, e5, st5⟩ := getS2 X4 hx hZ hown (host := "") (Or.inl (hw _ (List.mem_of_getElem? (i := 9) rfl))) Via.refl e4 (S2.ext O0.2) (g := (mkF m 8 #[.val (.int p1), .val (.int (1 : Int32)), .unset] [])) rfl (hb hby at_8)
    refine ownStep st5 ?_
    show OwnGo _ _ _ _ _ _ _ (T5.setTop (mkF m 11 #[.val (.int p1), .val (.int (1 : Int32)), .unset] [(.ref w5)]))
    refine ownStep (fun _ k => XS.iloadN X5.here hx rfl (hb hby at_11) rfl k) ?_
    show OwnGo _ _ _ _ _ _ _ (T5.setTop (mkF m 12 #[.val (.int p1), .val (.int (1 : Int32)), .unset] [(.int p1), (.ref w5)]))
    obtain ⟨cq6, kq6, q6a, q6b, q6c⟩ := isOf hZ e5 (E2.ext O0.2)
    obtain ⟨_, _, ⟨T6, L6, k6, n6⟩, -, X6, ⟨Lc6, hQ6, l6, y6, z6⟩, st6⟩ := X5.virtualBack hx (y := (⟨"com/example/covenantry/covenantry/model/Bound", "admits", "(I)Z"⟩ : MethodName)) (z := (⟨"com/example/covenantry/covenantry/model/Bound", "admits", "(I)Z"⟩ : MethodName)) hown (mvT hZ (hw _ (List.mem_of_getElem? (i := 3) rfl))) (mvT hZ (hw _ (List.mem_of_getElem? (i := 4) rfl))) (notFace_of_selects (args := #[]) (mvT hZ (hw _ (List.mem_of_getElem? (i := 6) rfl)))) (mvT hZ (hw _ (List.mem_of_getElem? (i := 6) rfl))) (mvT hZ (hw _ (List.mem_of_getElem? (i := 5) rfl))) (by decide) (backOf (W := 0) (rm1b l Z a0 hw [] w5 p1 w2 (0 : Int32) h0 n0 O0 S1 hne (if_pos h1)) hZ (hw _ (List.mem_of_getElem? (i := 7) rfl)) (hw _ (List.mem_of_getElem? (i := 1) rfl)) (by decide) (by decide)) q6a q6c (g := (mkF m 12 #[.val (.int p1), .val (.int (1 : Int32)), .unset] [(.int p1), (.ref w5)])) rfl (by rw [hml]; rfl) (Steps.refl _) (argsL := [(.int p1)]) (rest := []) (lenOf own_pd0 rfl) rfl (by show 2 * 0 + _ ≤ _; exact Nat.le_of_eq rfl) (hb hby at_12) (fun _ _ => ⟨rfl, e5, (by decide : 0 + 0 ≤ _), (by decide : 0 + 0 ≤ _)⟩)
    dsimp only [Pt.U, Pt.locs, Pt.cells, Pt.slots] at X6 l6 y6 z6 st6 hQ6
    subst l6 y6 z6
    obtain ⟨rfl, N6q, e6⟩ := hQ6
    have N6 := Fr.app N4 N6q
    refine ownTrans st6 ?_
    show OwnGo _ _ _ _ _ _ _ (T6.setTop (mkF m 15 #[.val (.int p1), .val (.int (1 : Int32)), .unset] [(.int (0 : Int32))]))
    refine ownStep (fun _ k => XS.istoreN X6.here hx rfl (hb hby at_15) rfl (l' := #[.val (.int p1), .val (.int (1 : Int32)), .val (.int (0 : Int32))]) rfl k) ?_
    show OwnGo _ _ _ _ _ _ _ (T6.setTop (mkF m 16 #[.val (.int p1), .val (.int (1 : Int32)), .val (.int (0 : Int32))] []))
    refine ownStep (fun _ k => XS.iloadN X6.here hx rfl (hb hby at_16) rfl k) ?_
    show OwnGo _ _ _ _ _ _ _ (T6.setTop (mkF m 17 #[.val (.int p1), .val (.int (1 : Int32)), .val (.int (0 : Int32))] [(.int p1)]))
    refine ownStep (fun _ k => XS.ifNo X6.here hx rfl (hb hby at_17) rfl ((if0 _ _).trans (tlt h1).2.1) k) ?_
    show OwnGo _ _ _ _ _ _ _ (T6.setTop (mkF m 20 #[.val (.int p1), .val (.int (1 : Int32)), .val (.int (0 : Int32))] []))
    refine ownStep (fun _ k => XS.iloadN X6.here hx rfl (hb hby at_20) rfl k) ?_
    show OwnGo _ _ _ _ _ _ _ (T6.setTop (mkF m 21 #[.val (.int p1), .val (.int (1 : Int32)), .val (.int (0 : Int32))] [(.int (1 : Int32))]))
    refine ownStep (fun _ k => XS.ifNo X6.here hx rfl (hb hby at_21) rfl ((if0 _ _).trans (feq (by decide : ¬ ((1 : Int32) = (0 : Int32)))).1) k) ?_
    show OwnGo _ _ _ _ _ _ _ (T6.setTop (mkF m 24 #[.val (.int p1), .val (.int (1 : Int32)), .val (.int (0 : Int32))] []))
    refine ownStep (fun _ k => XS.iloadN X6.here hx rfl (hb hby at_24) rfl k) ?_
    show OwnGo _ _ _ _ _ _ _ (T6.setTop (mkF m 25 #[.val (.int p1), .val (.int (1 : Int32)), .val (.int (0 : Int32))] [(.int (0 : Int32))]))
    refine ownStep (fun _ k => XS.ifNo X6.here hx rfl (hb hby at_25) rfl ((if0 _ _).trans (teq (by decide : (0 : Int32) = (0 : Int32))).2) k) ?_
    show OwnGo _ _ _ _ _ _ _ (T6.setTop (mkF m 28 #[.val (.int p1), .val (.int (1 : Int32)), .val (.int (0 : Int32))] []))
    refine ownStep (fun _ k => XS.iconst X6.here hx rfl (hb hby at_28) k) ?_
    show OwnGo _ _ _ _ _ _ _ (T6.setTop (mkF m 29 #[.val (.int p1), .val (.int (1 : Int32)), .val (.int (0 : Int32))] [(.int (1 : Int32))]))
    refine ownStep (fun _ k => XS.goto X6.here hx rfl (pc0 := 29) (pc' := 33) rfl (hb hby at_29) (by decide) (by decide) k) ?_
    show OwnGo _ _ _ _ _ _ _ (T6.setTop (mkF m 33 #[.val (.int p1), .val (.int (1 : Int32)), .val (.int (0 : Int32))] [(.int (1 : Int32))]))
    have eq33 : T6.heap = h0 := e6
    exact ownRetN X6 hx (t := .boolean) Bd.returns (by simp) (hb hby at_33) (BodyLoose.notSynchronized Bd) (by decide) (by decide) (by rw [eq33]; exact ⟨rfl, N6⟩)
  · by_cases h2 : p1 = (0 : Int32)
    · skip
      have h3 : ¬ ((0 : Int32) < p1) := by rw [h2]; decide
      obtain ⟨T7, X7, e7, st7⟩ := getS2 X0 hx hZ hown (host := "") (Or.inl (hw _ (List.mem_of_getElem? (i := 0) rfl))) Via.refl e0 (S1.ext O0.2) (g := (mkF m 0 #[.val (.int p1), .unset, .unset] [])) rfl (hb hby at_0)
      refine ownStep st7 ?_
      show OwnGo _ _ _ _ _ _ _ (T7.setTop (mkF m 3 #[.val (.int p1), .unset, .unset] [(.ref w2)]))
      refine ownStep (fun _ k => XS.iloadN X7.here hx rfl (hb hby at_3) rfl k) ?_
      show OwnGo _ _ _ _ _ _ _ (T7.setTop (mkF m 4 #[.val (.int p1), .unset, .unset] [(.int p1), (.ref w2)]))
      obtain ⟨cq8, kq8, q8a, q8b, q8c⟩ := isOf hZ e7 (E1.ext O0.2)
      obtain ⟨_, _, ⟨T8, L8, k8, n8⟩, -, X8, ⟨Lc8, hQ8, l8, y8, z8⟩, st8⟩ := X7.virtualBack hx (y := (⟨"com/example/covenantry/covenantry/model/Bound", "admits", "(I)Z"⟩ : MethodName)) (z := (⟨"com/example/covenantry/covenantry/model/Bound", "admits", "(I)Z"⟩ : MethodName)) hown (mvT hZ (hw _ (List.mem_of_getElem? (i := 3) rfl))) (mvT hZ (hw _ (List.mem_of_getElem? (i := 4) rfl))) (notFace_of_selects (args := #[]) (mvT hZ (hw _ (List.mem_of_getElem? (i := 6) rfl)))) (mvT hZ (hw _ (List.mem_of_getElem? (i := 6) rfl))) (mvT hZ (hw _ (List.mem_of_getElem? (i := 5) rfl))) (by decide) (backOf (W := 0) (rm1a l Z a0 hw [] w2 p1 w2 (1 : Int32) h0 n0 O0 S1 rfl (if_neg h3)) hZ (hw _ (List.mem_of_getElem? (i := 7) rfl)) (hw _ (List.mem_of_getElem? (i := 1) rfl)) (by decide) (by decide)) q8a q8c (g := (mkF m 4 #[.val (.int p1), .unset, .unset] [(.int p1), (.ref w2)])) rfl (by rw [hml]; rfl) (Steps.refl _) (argsL := [(.int p1)]) (rest := []) (lenOf own_pd0 rfl) rfl (by show 2 * 0 + _ ≤ _; exact Nat.le_of_eq rfl) (hb hby at_4) (fun _ _ => ⟨rfl, e7, (by decide : 0 + 0 ≤ _), (by decide : 0 + 0 ≤ _)⟩)
      dsimp only [Pt.U, Pt.locs, Pt.cells, Pt.slots] at X8 l8 y8 z8 st8 hQ8
      subst l8 y8 z8
      obtain ⟨rfl, N8q, e8⟩ := hQ8
      have N8 := Fr.app N0 N8q
      refine ownTrans st8 ?_
      show OwnGo _ _ _ _ _ _ _ (T8.setTop (mkF m 7 #[.val (.int p1), .unset, .unset] [(.int (1 : Int32))]))
      refine ownStep (fun _ k => XS.istoreN X8.here hx rfl (hb hby at_7) rfl (l' := #[.val (.int p1), .val (.int (1 : Int32)), .unset]) rfl k) ?_
      show OwnGo _ _ _ _ _ _ _ (T8.setTop (mkF m 8 #[.val (.int p1), .val (.int (1 : Int32)), .unset] []))
      obtain ⟨T9, X9, e9, st9⟩ := getS2 X8 hx hZ hown (host := "") (Or.inl (hw _ (List.mem_of_getElem? (i := 9) rfl))) Via.refl e8 (S2.ext O0.2) (g := (mkF m 8 #[.val (.int p1), .val (.int (1 : Int32)), .unset] [])) rfl (hb hby at_8)
      refine ownStep st9 ?_
      show OwnGo _ _ _ _ _ _ _ (T9.setTop (mkF m 11 #[.val (.int p1), .val (.int (1 : Int32)), .unset] [(.ref w5)]))
      refine ownStep (fun _ k => XS.iloadN X9.here hx rfl (hb hby at_11) rfl k) ?_
      show OwnGo _ _ _ _ _ _ _ (T9.setTop (mkF m 12 #[.val (.int p1), .val (.int (1 : Int32)), .unset] [(.int p1), (.ref w5)]))
      obtain ⟨cq10, kq10, q10a, q10b, q10c⟩ := isOf hZ e9 (E2.ext O0.2)
      obtain ⟨_, _, ⟨T10, L10, k10, n10⟩, -, X10, ⟨Lc10, hQ10, l10, y10, z10⟩, st10⟩ := X9.virtualBack hx (y := (⟨"com/example/covenantry/covenantry/model/Bound", "admits", "(I)Z"⟩ : MethodName)) (z := (⟨"com/example/covenantry/covenantry/model/Bound", "admits", "(I)Z"⟩ : MethodName)) hown (mvT hZ (hw _ (List.mem_of_getElem? (i := 3) rfl))) (mvT hZ (hw _ (List.mem_of_getElem? (i := 4) rfl))) (notFace_of_selects (args := #[]) (mvT hZ (hw _ (List.mem_of_getElem? (i := 6) rfl)))) (mvT hZ (hw _ (List.mem_of_getElem? (i := 6) rfl))) (mvT hZ (hw _ (List.mem_of_getElem? (i := 5) rfl))) (by decide) (backOf (W := 0) (rm1b l Z a0 hw [] w5 p1 w2 (1 : Int32) h0 n0 O0 S1 hne (if_neg h1)) hZ (hw _ (List.mem_of_getElem? (i := 7) rfl)) (hw _ (List.mem_of_getElem? (i := 1) rfl)) (by decide) (by decide)) q10a q10c (g := (mkF m 12 #[.val (.int p1), .val (.int (1 : Int32)), .unset] [(.int p1), (.ref w5)])) rfl (by rw [hml]; rfl) (Steps.refl _) (argsL := [(.int p1)]) (rest := []) (lenOf own_pd0 rfl) rfl (by show 2 * 0 + _ ≤ _; exact Nat.le_of_eq rfl) (hb hby at_12) (fun _ _ => ⟨rfl, e9, (by decide : 0 + 0 ≤ _), (by decide : 0 + 0 ≤ _)⟩)
      dsimp only [Pt.U, Pt.locs, Pt.cells, Pt.slots] at X10 l10 y10 z10 st10 hQ10
      subst l10 y10 z10
      obtain ⟨rfl, N10q, e10⟩ := hQ10
      have N10 := Fr.app N8 N10q
      refine ownTrans st10 ?_
      show OwnGo _ _ _ _ _ _ _ (T10.setTop (mkF m 15 #[.val (.int p1), .val (.int (1 : Int32)), .unset] [(.int (1 : Int32))]))
      refine ownStep (fun _ k => XS.istoreN X10.here hx rfl (hb hby at_15) rfl (l' := #[.val (.int p1), .val (.int (1 : Int32)), .val (.int (1 : Int32))]) rfl k) ?_
      show OwnGo _ _ _ _ _ _ _ (T10.setTop (mkF m 16 #[.val (.int p1), .val (.int (1 : Int32)), .val (.int (1 : Int32))] []))
      refine ownStep (fun _ k => XS.iloadN X10.here hx rfl (hb hby at_16) rfl k) ?_
      show OwnGo _ _ _ _ _ _ _ (T10.setTop (mkF m 17 #[.val (.int p1), .val (.int (1 : Int32)), .val (.int (1 : Int32))] [(.int p1)]))
      refine ownStep (fun _ k => XS.ifYes X10.here hx rfl (pc0 := 17) (pc' := 34) rfl (hb hby at_17) rfl ((if0 _ _).trans (flt h1).2.1) (by decide) (by decide) k) ?_
      show OwnGo _ _ _ _ _ _ _ (T10.setTop (mkF m 34 #[.val (.int p1), .val (.int (1 : Int32)), .val (.int (1 : Int32))] []))
      refine ownStep (fun _ k => XS.iloadN X10.here hx rfl (hb hby at_34) rfl k) ?_
      show OwnGo _ _ _ _ _ _ _ (T10.setTop (mkF m 35 #[.val (.int p1), .val (.int (1 : Int32)), .val (.int (1 : Int32))] [(.int p1)]))
      refine ownStep (fun _ k => XS.ifNo X10.here hx rfl (hb hby at_35) rfl ((if0 _ _).trans (teq h2).2) k) ?_
      show OwnGo _ _ _ _ _ _ _ (T10.setTop (mkF m 38 #[.val (.int p1), .val (.int (1 : Int32)), .val (.int (1 : Int32))] []))
      refine ownStep (fun _ k => XS.iloadN X10.here hx rfl (hb hby at_38) rfl k) ?_
      show OwnGo _ _ _ _ _ _ _ (T10.setTop (mkF m 39 #[.val (.int p1), .val (.int (1 : Int32)), .val (.int (1 : Int32))] [(.int (1 : Int32))]))
      refine ownStep (fun _ k => XS.ifNo X10.here hx rfl (hb hby at_39) rfl ((if0 _ _).trans (feq (by decide : ¬ ((1 : Int32) = (0 : Int32)))).1) k) ?_
      show OwnGo _ _ _ _ _ _ _ (T10.setTop (mkF m 42 #[.val (.int p1), .val (.int (1 : Int32)), .val (.int (1 : Int32))] []))
      refine ownStep (fun _ k => XS.iloadN X10.here hx rfl (hb hby at_42) rfl k) ?_
      show OwnGo _ _ _ _ _ _ _ (T10.setTop (mkF m 43 #[.val (.int p1), .val (.int (1 : Int32)), .val (.int (1 : Int32))] [(.int (1 : Int32))]))
      refine ownStep (fun _ k => XS.ifNo X10.here hx rfl (hb hby at_43) rfl ((if0 _ _).trans (feq (by decide : ¬ ((1 : Int32) = (0 : Int32)))).1) k) ?_
      show OwnGo _ _ _ _ _ _ _ (T10.setTop (mkF m 46 #[.val (.int p1), .val (.int (1 : Int32)), .val (.int (1 : Int32))] []))
      refine ownStep (fun _ k => XS.iconst X10.here hx rfl (hb hby at_46) k) ?_
      show OwnGo _ _ _ _ _ _ _ (T10.setTop (mkF m 47 #[.val (.int p1), .val (.int (1 : Int32)), .val (.int (1 : Int32))] [(.int (1 : Int32))]))
      refine ownStep (fun _ k => XS.goto X10.here hx rfl (pc0 := 47) (pc' := 51) rfl (hb hby at_47) (by decide) (by decide) k) ?_
      show OwnGo _ _ _ _ _ _ _ (T10.setTop (mkF m 51 #[.val (.int p1), .val (.int (1 : Int32)), .val (.int (1 : Int32))] [(.int (1 : Int32))]))
      have eq51 : T10.heap = h0 := e10
      exact ownRetN X10 hx (t := .boolean) Bd.returns (by simp) (hb hby at_51) (BodyLoose.notSynchronized Bd) (by decide) (by decide) (by rw [eq51]; exact ⟨rfl, N10⟩)
    · skip
      have h3 : (0 : Int32) < p1 := own_pos h1 h2
      obtain ⟨T11, X11, e11, st11⟩ := getS2 X0 hx hZ hown (host := "") (Or.inl (hw _ (List.mem_of_getElem? (i := 0) rfl))) Via.refl e0 (S1.ext O0.2) (g := (mkF m 0 #[.val (.int p1), .unset, .unset] [])) rfl (hb hby at_0)
      refine ownStep st11 ?_
      show OwnGo _ _ _ _ _ _ _ (T11.setTop (mkF m 3 #[.val (.int p1), .unset, .unset] [(.ref w2)]))
      refine ownStep (fun _ k => XS.iloadN X11.here hx rfl (hb hby at_3) rfl k) ?_
      show OwnGo _ _ _ _ _ _ _ (T11.setTop (mkF m 4 #[.val (.int p1), .unset, .unset] [(.int p1), (.ref w2)]))
      obtain ⟨cq12, kq12, q12a, q12b, q12c⟩ := isOf hZ e11 (E1.ext O0.2)
      obtain ⟨_, _, ⟨T12, L12, k12, n12⟩, -, X12, ⟨Lc12, hQ12, l12, y12, z12⟩, st12⟩ := X11.virtualBack hx (y := (⟨"com/example/covenantry/covenantry/model/Bound", "admits", "(I)Z"⟩ : MethodName)) (z := (⟨"com/example/covenantry/covenantry/model/Bound", "admits", "(I)Z"⟩ : MethodName)) hown (mvT hZ (hw _ (List.mem_of_getElem? (i := 3) rfl))) (mvT hZ (hw _ (List.mem_of_getElem? (i := 4) rfl))) (notFace_of_selects (args := #[]) (mvT hZ (hw _ (List.mem_of_getElem? (i := 6) rfl)))) (mvT hZ (hw _ (List.mem_of_getElem? (i := 6) rfl))) (mvT hZ (hw _ (List.mem_of_getElem? (i := 5) rfl))) (by decide) (backOf (W := 0) (rm1a l Z a0 hw [] w2 p1 w2 (0 : Int32) h0 n0 O0 S1 rfl (if_pos h3)) hZ (hw _ (List.mem_of_getElem? (i := 7) rfl)) (hw _ (List.mem_of_getElem? (i := 1) rfl)) (by decide) (by decide)) q12a q12c (g := (mkF m 4 #[.val (.int p1), .unset, .unset] [(.int p1), (.ref w2)])) rfl (by rw [hml]; rfl) (Steps.refl _) (argsL := [(.int p1)]) (rest := []) (lenOf own_pd0 rfl) rfl (by show 2 * 0 + _ ≤ _; exact Nat.le_of_eq rfl) (hb hby at_4) (fun _ _ => ⟨rfl, e11, (by decide : 0 + 0 ≤ _), (by decide : 0 + 0 ≤ _)⟩)
      dsimp only [Pt.U, Pt.locs, Pt.cells, Pt.slots] at X12 l12 y12 z12 st12 hQ12
      subst l12 y12 z12
      obtain ⟨rfl, N12q, e12⟩ := hQ12
      have N12 := Fr.app N0 N12q
      refine ownTrans st12 ?_
      show OwnGo _ _ _ _ _ _ _ (T12.setTop (mkF m 7 #[.val (.int p1), .unset, .unset] [(.int (0 : Int32))]))
      refine ownStep (fun _ k => XS.istoreN X12.here hx rfl (hb hby at_7) rfl (l' := #[.val (.int p1), .val (.int (0 : Int32)), .unset]) rfl k) ?_
      show OwnGo _ _ _ _ _ _ _ (T12.setTop (mkF m 8 #[.val (.int p1), .val (.int (0 : Int32)), .unset] []))
      obtain ⟨T13, X13, e13, st13⟩ := getS2 X12 hx hZ hown (host := "") (Or.inl (hw _ (List.mem_of_getElem? (i := 9) rfl))) Via.refl e12 (S2.ext O0.2) (g := (mkF m 8 #[.val (.int p1), .val (.int (0 : Int32)), .unset] [])) rfl (hb hby at_8)
      refine ownStep st13 ?_
      show OwnGo _ _ _ _ _ _ _ (T13.setTop (mkF m 11 #[.val (.int p1), .val (.int (0 : Int32)), .unset] [(.ref w5)]))
      refine ownStep (fun _ k => XS.iloadN X13.here hx rfl (hb hby at_11) rfl k) ?_
      show OwnGo _ _ _ _ _ _ _ (T13.setTop (mkF m 12 #[.val (.int p1), .val (.int (0 : Int32)), .unset] [(.int p1), (.ref w5)]))
      obtain ⟨cq14, kq14, q14a, q14b, q14c⟩ := isOf hZ e13 (E2.ext O0.2)
      obtain ⟨_, _, ⟨T14, L14, k14, n14⟩, -, X14, ⟨Lc14, hQ14, l14, y14, z14⟩, st14⟩ := X13.virtualBack hx (y := (⟨"com/example/covenantry/covenantry/model/Bound", "admits", "(I)Z"⟩ : MethodName)) (z := (⟨"com/example/covenantry/covenantry/model/Bound", "admits", "(I)Z"⟩ : MethodName)) hown (mvT hZ (hw _ (List.mem_of_getElem? (i := 3) rfl))) (mvT hZ (hw _ (List.mem_of_getElem? (i := 4) rfl))) (notFace_of_selects (args := #[]) (mvT hZ (hw _ (List.mem_of_getElem? (i := 6) rfl)))) (mvT hZ (hw _ (List.mem_of_getElem? (i := 6) rfl))) (mvT hZ (hw _ (List.mem_of_getElem? (i := 5) rfl))) (by decide) (backOf (W := 0) (rm1b l Z a0 hw [] w5 p1 w2 (1 : Int32) h0 n0 O0 S1 hne (if_neg h1)) hZ (hw _ (List.mem_of_getElem? (i := 7) rfl)) (hw _ (List.mem_of_getElem? (i := 1) rfl)) (by decide) (by decide)) q14a q14c (g := (mkF m 12 #[.val (.int p1), .val (.int (0 : Int32)), .unset] [(.int p1), (.ref w5)])) rfl (by rw [hml]; rfl) (Steps.refl _) (argsL := [(.int p1)]) (rest := []) (lenOf own_pd0 rfl) rfl (by show 2 * 0 + _ ≤ _; exact Nat.le_of_eq rfl) (hb hby at_12) (fun _ _ => ⟨rfl, e13, (by decide : 0 + 0 ≤ _), (by decide : 0 + 0 ≤ _)⟩)
      dsimp only [Pt.U, Pt.locs, Pt.cells, Pt.slots] at X14 l14 y14 z14 st14 hQ14
      subst l14 y14 z14
      obtain ⟨rfl, N14q, e14⟩ := hQ14
      have N14 := Fr.app N12 N14q
      refine ownTrans st14 ?_
      show OwnGo _ _ _ _ _ _ _ (T14.setTop (mkF m 15 #[.val (.int p1), .val (.int (0 : Int32)), .unset] [(.int (1 : Int32))]))
      refine ownStep (fun _ k => XS.istoreN X14.here hx rfl (hb hby at_15) rfl (l' := #[.val (.int p1), .val (.int (0 : Int32)), .val (.int (1 : Int32))]) rfl k) ?_
      show OwnGo _ _ _ _ _ _ _ (T14.setTop (mkF m 16 #[.val (.int p1), .val (.int (0 : Int32)), .val (.int (1 : Int32))] []))
      refine ownStep (fun _ k => XS.iloadN X14.here hx rfl (hb hby at_16) rfl k) ?_
      show OwnGo _ _ _ _ _ _ _ (T14.setTop (mkF m 17 #[.val (.int p1), .val (.int (0 : Int32)), .val (.int (1 : Int32))] [(.int p1)]))
      refine ownStep (fun _ k => XS.ifYes X14.here hx rfl (pc0 := 17) (pc' := 34) rfl (hb hby at_17) rfl ((if0 _ _).trans (flt h1).2.1) (by decide) (by decide) k) ?_
      show OwnGo _ _ _ _ _ _ _ (T14.setTop (mkF m 34 #[.val (.int p1), .val (.int (0 : Int32)), .val (.int (1 : Int32))] []))
      refine ownStep (fun _ k => XS.iloadN X14.here hx rfl (hb hby at_34) rfl k) ?_
      show OwnGo _ _ _ _ _ _ _ (T14.setTop (mkF m 35 #[.val (.int p1), .val (.int (0 : Int32)), .val (.int (1 : Int32))] [(.int p1)]))
      refine ownStep (fun _ k => XS.ifYes X14.here hx rfl (pc0 := 35) (pc' := 52) rfl (hb hby at_35) rfl ((if0 _ _).trans (feq h2).2) (by decide) (by decide) k) ?_
      show OwnGo _ _ _ _ _ _ _ (T14.setTop (mkF m 52 #[.val (.int p1), .val (.int (0 : Int32)), .val (.int (1 : Int32))] []))
      refine ownStep (fun _ k => XS.iloadN X14.here hx rfl (hb hby at_52) rfl k) ?_
      show OwnGo _ _ _ _ _ _ _ (T14.setTop (mkF m 53 #[.val (.int p1), .val (.int (0 : Int32)), .val (.int (1 : Int32))] [(.int (0 : Int32))]))
      refine ownStep (fun _ k => XS.ifNo X14.here hx rfl (hb hby at_53) rfl ((if0 _ _).trans (teq (by decide : (0 : Int32) = (0 : Int32))).2) k) ?_
      show OwnGo _ _ _ _ _ _ _ (T14.setTop (mkF m 56 #[.val (.int p1), .val (.int (0 : Int32)), .val (.int (1 : Int32))] []))
      refine ownStep (fun _ k => XS.iloadN X14.here hx rfl (hb hby at_56) rfl k) ?_
      show OwnGo _ _ _ _ _ _ _ (T14.setTop (mkF m 57 #[.val (.int p1), .val (.int (0 : Int32)), .val (.int (1 : Int32))] [(.int (1 : Int32))]))
      refine ownStep (fun _ k => XS.ifNo X14.here hx rfl (hb hby at_57) rfl ((if0 _ _).trans (feq (by decide : ¬ ((1 : Int32) = (0 : Int32)))).1) k) ?_
      show OwnGo _ _ _ _ _ _ _ (T14.setTop (mkF m 60 #[.val (.int p1), .val (.int (0 : Int32)), .val (.int (1 : Int32))] []))
      refine ownStep (fun _ k => XS.iconst X14.here hx rfl (hb hby at_60) k) ?_
      show OwnGo _ _ _ _ _ _ _ (T14.setTop (mkF m 61 #[.val (.int p1), .val (.int (0 : Int32)), .val (.int (1 : Int32))] [(.int (1 : Int32))]))
      refine ownStep (fun _ k => XS.goto X14.here hx rfl (pc0 := 61) (pc' := 65) rfl (hb hby at_61) (by decide) (by decide) k) ?_
      show OwnGo _ _ _ _ _ _ _ (T14.setTop (mkF m 65 #[.val (.int p1), .val (.int (0 : Int32)), .val (.int (1 : Int32))] [(.int (1 : Int32))]))
      have eq65 : T14.heap = h0 := e14
      exact ownRetN X14 hx (t := .boolean) Bd.returns (by simp) (hb hby at_65) (BodyLoose.notSynchronized Bd) (by decide) (by decide) (by rw [eq65]; exact ⟨rfl, N14⟩)
set_option maxRecDepth 65536 in
set_option maxHeartbeats 40000000 in
theorem comes_1 {Post : Tables → Env → Array Value → State → Outcome → State → Prop} (hpost : ∀ tb e args s v u, (limb_1_1.after args s (.returned v) u = true ∧ limb_1_2.after args s (.returned v) u = true ∧ True) → FrameEnd s (.returned v) u (Jvm.fieldLocs frame_1_writes args s ++ Jvm.arrayLocs frame_1_arrays args s ++ Jvm.staticLocs frame_1_statics s) 0 0 → Post tb e args s (.returned v) u) :
    ArmFor flags0 classFile x code maxLocals ret World_1 tables_1 room_1 Calls_1 rest_1 Pre_1 Post := by
  intro l hfl _ _ p e ha hc hk s m args below hf hA hF happ hP
  obtain ⟨hcalls, hrest, hpre⟩ := hP
  obtain ⟨-, -, -, hnamed, -, -, -, hat⟩ := (Spec.applies_iff hf).mp happ
  obtain ⟨hg, hn⟩ := and_e (Cond.before_iff.mp (show (Jvm.Cond.and given_1 narrow_1).before args s = true from hpre))
  obtain ⟨g15, g16⟩ := and_e hg
  obtain ⟨w0, rfl⟩ : ∃ w0 : Value, args = #[w0] := by
    have hs : args.size = 1 := by simpa [Cond.value, given_1] using g15
    obtain ⟨L⟩ := args
    match L, hs with
    | [w0], _ => exact ⟨w0, rfl⟩
  have hw := fun d (hd : d ∈ tables_1) => atoms_spec (ws := Jvm.Cond.code x code maxLocals ret :: tables_1) hat d (List.mem_cons_of_mem _ hd)
  have hfit : Fit s := fun {y c} hc i hi => by
    obtain ⟨ha, rfl⟩ := Array.getElem?_eq_some_iff.mp hc
    have q := List.all_eq_true.mp ((Array.all_eq_true_iff_forall_mem.mp hF) _ (Array.getElem_mem ha)) i (List.mem_range.mpr hi)
    simpa [Array.getElem?_eq_getElem hi] using q
  obtain ⟨i0, ei0⟩ := is_v g16
  obtain rfl : w0 = (.int i0) := Option.some.inj ei0
  obtain ⟨hn17, hn18⟩ := and_e hn
  obtain ⟨hn19, hn20⟩ := and_e hn18
  obtain ⟨hn21, hn22⟩ := and_e hn20
  obtain ⟨wA, evA⟩ := exa_v hn17
  have EA := Exa.start evA hn17
  have FA := own_fld evA (own_eqI hn22)
  have SA := Sta.start evA (Or.inr ⟨(hw _ (List.mem_of_getElem? (i := 1) rfl)), (hw _ (List.mem_of_getElem? (i := 2) rfl))⟩)
  obtain ⟨wB, evB⟩ := exa_v hn19
  have EB := Exa.start evB hn19
  have FB := own_fld evB (own_eqI hn21)
  have SB := Sta.start evB (Or.inr ⟨(hw _ (List.mem_of_getElem? (i := 1) rfl)), (hw _ (List.mem_of_getElem? (i := 10) rfl))⟩)
  obtain ⟨n, o, h1, h2, h3, _, L, rfl, ⟨rfl, N⟩, hq⟩ := rm0 l s _ hw tables_1 i0 wA wB s.heap s.heap.size (Old.start s) SA EA SB EB (Fld.ne FB FA (by decide)) p e ha hc hk s m _ below hf ((Spec.applies_iff_loose hf).mp happ).1 ⟨rfl, State.Warmed39.refl s, rfl⟩ trivial
  refine ⟨n, _, h1, h2, h3, hpost _ _ _ _ _ _ ⟨Cond.after_iff.mpr rfl, Cond.after_iff.mpr (eq_i res_at (Term.int_eval (1)) rfl), trivial⟩ ⟨hq.1, hq.2.1, (hq.2.2.sift fun y hy => Or.inr (N y hy)).mono (by decide) (by decide)⟩⟩
theorem main_1_1 : Claimed_1_1 := comes_1 fun _ _ _ _ _ _ h hF => ⟨h.1, hF⟩
theorem main_1_2 : Claimed_1_2 := comes_1 fun _ _ _ _ _ _ h hF => ⟨h.2.1, hF⟩
end Jvm.Pilot.@@N@@
namespace Jvm.Pilot.@@N@@
open Jvm Jvm.ClassFile Sem Op Lib Jvm.Free Jvm.Stand Jvm.Pilot.@@N@@.Jvm.D
/-! MADE BY PROGRAM (witnessworld.py) out of the Statement's table words and the real class files: 12 classes; the members and pool entries that the words name. The judged class is class 1, her method 1. -/
namespace start1
open Jvm.ClassFile
def u (s : String) : CpInfo := .utf8 (stringToUtf16 s)
/-- a pool by its gaps: so many unusable entries, then the entry; so many at the end -/
def gap : Nat → List CpInfo → List CpInfo
  | 0, r => r
  | n + 1, r => .unusable :: gap n r
def poolList (es : List (Nat × CpInfo)) (last : Nat) : List CpInfo := es.foldr (fun e r => gap e.1 (e.2 :: r)) (gap last [])
def pool (es : List (Nat × CpInfo)) (last : Nat) : Array CpInfo := ⟨poolList es last⟩
def fileOf (pool : Array CpInfo) (this : Nat) (attrs : Array Attribute := #[]) (ms : Array MethodInfo := #[]) (fl : Nat := 33) (sup : Nat := 0) (ifs : Array Nat := #[]) (fds : Array FieldInfo := #[]) : ClassFile where
  minorVersion := 0
  majorVersion := 65
  constantPool := pool
  accessFlags := fl
  thisClass := this
  superClass := sup
  interfaces := ifs
  fields := fds
  methods := ms
  attributes := attrs
def plain (name : String) (sup : Option ClassId) : Class where
  name := name
  kind := .ordinary
  loader := none
  accessFlags := 33
  super := sup
  interfaces := #[]
  cf := none
  fields := #[]
  methods := #[]
  instanceTypes := #[]
  staticTypes := #[]
  resolved := #[]
  callSites := []
  init := .initialized
  statics := none
  mirror := none

def pool0 : Array CpInfo := pool [(5, u "<init>"), (0, u "()V"), (1, .class_ 10), (1, u "java/lang/Object")] 113

def k0m0 : Method := { name := "<init>", desc := "()V", sig := { parameters := [], returnType := none }, accessFlags := 1, code := none }
/-- java/lang/Object -/
def k0 : Class := { plain "java/lang/Object" none with
  accessFlags := 33
  interfaces := #[]
  cf := some (fileOf pool0 8 #[] #[{ accessFlags := 1, nameIndex := 5, descriptorIndex := 6, attributes := #[] }] 33 0 #[] #[])
  fields := #[]
  methods := #[k0m0]
  instanceTypes := #[]
  staticTypes := #[]
  resolved := Array.replicate 124 none
  statics := none }

def pool1 : Array CpInfo := pool [(2, .class_ 4), (1, u "java/lang/Object"), (0, u "<init>"), (0, u "()V"), (0, .fieldref 8 9), (0, .class_ 10), (0, .nameAndType 11 12), (0, u "com/example/covenantry/covenantry/model/Bound"), (0, u "MAXIMUM"), (0, u "Lcom/example/covenantry/covenantry/model/Bound;"), (0, .methodref 8 14), (0, .nameAndType 15 16), (0, u "admits"), (0, u "(I)Z"), (0, .fieldref 8 18), (0, .nameAndType 19 12), (0, u "MINIMUM"), (0, .class_ 21), (0, u "com/example/covenantry/covenantry/model/BoundAdmitsPinLaw"), (2, u "law")] 3

def k1m0 : Method := { name := "<init>", desc := "()V", sig := { parameters := [], returnType := none }, accessFlags := 1, code := none }
def k1c1 : Code := { maxStack := 2, maxLocals := 3, code := code, exceptionTable := #[], attributes := #[] }
def k1m1 : Method := { name := "law", desc := "(I)Z", sig := { parameters := [.int], returnType := some .boolean }, accessFlags := 9, code := some k1c1 }
/-- com/example/covenantry/covenantry/model/BoundAdmitsPinLaw -/
def k1 : Class := { plain "com/example/covenantry/covenantry/model/BoundAdmitsPinLaw" (some 0) with
  accessFlags := 49
  interfaces := #[]
  cf := some (fileOf pool1 20 #[] #[{ accessFlags := 1, nameIndex := 5, descriptorIndex := 6, attributes := #[] }, { accessFlags := 9, nameIndex := 24, descriptorIndex := 16, attributes := #[] }] 49 2 #[] #[])
  fields := #[]
  methods := #[k1m0, k1m1]
  instanceTypes := #[]
  staticTypes := #[]
  resolved := Array.replicate 28 none
  statics := none }

def pool2 : Array CpInfo := pool [(1, .class_ 2), (0, u "java/lang/constant/Constable"), (0, .class_ 4), (0, u "java/lang/Object")] 6

/-- java/lang/constant/Constable -/
def k2 : Class := { plain "java/lang/constant/Constable" (some 0) with
  accessFlags := 1537
  interfaces := #[]
  cf := some (fileOf pool2 1 #[] #[] 1537 3 #[] #[])
  fields := #[]
  methods := #[]
  instanceTypes := #[]
  staticTypes := #[]
  resolved := Array.replicate 11 none
  statics := none }

def pool3 : Array CpInfo := pool [(1, .class_ 2), (0, u "java/lang/Comparable"), (0, .class_ 4), (0, u "java/lang/Object")] 7

/-- java/lang/Comparable -/
def k3 : Class := { plain "java/lang/Comparable" (some 0) with
  accessFlags := 1537
  interfaces := #[]
  cf := some (fileOf pool3 1 #[] #[] 1537 3 #[] #[])
  fields := #[]
  methods := #[]
  instanceTypes := #[]
  staticTypes := #[]
  resolved := Array.replicate 12 none
  statics := none }

def pool4 : Array CpInfo := pool [(1, .class_ 2), (0, u "java/io/Serializable"), (0, .class_ 4), (0, u "java/lang/Object")] 2

/-- java/io/Serializable -/
def k4 : Class := { plain "java/io/Serializable" (some 0) with
  accessFlags := 1537
  interfaces := #[]
  cf := some (fileOf pool4 1 #[] #[] 1537 3 #[] #[])
  fields := #[]
  methods := #[]
  instanceTypes := #[]
  staticTypes := #[]
  resolved := Array.replicate 7 none
  statics := none }

def pool5 : Array CpInfo := pool [(2, .class_ 4), (1, u "java/lang/Enum"), (0, u "name"), (0, u "Ljava/lang/String;"), (2, u "ordinal"), (0, u "I"), (1, .class_ 14), (1, u "java/lang/Object"), (4, u "hash"), (86, .class_ 108), (1, u "java/lang/Enum$EnumDesc"), (2, .class_ 112), (0, u "java/lang/constant/Constable"), (0, .class_ 114), (0, u "java/lang/Comparable"), (0, .class_ 116), (0, u "java/io/Serializable")] 87

/-- java/lang/Enum -/
def k5 : Class := { plain "java/lang/Enum" (some 0) with
  accessFlags := 1057
  interfaces := #[2, 3, 4]
  cf := some (fileOf pool5 2 #[.nestMembers #[106]] #[] 1057 12 #[111, 113, 115] #[{ accessFlags := 18, nameIndex := 5, descriptorIndex := 6, attributes := #[] }, { accessFlags := 18, nameIndex := 9, descriptorIndex := 10, attributes := #[] }, { accessFlags := 2, nameIndex := 19, descriptorIndex := 10, attributes := #[] }])
  fields := #[{ name := "name", type := (.object "java/lang/String"), accessFlags := 18, slot := 0, constantValue := 0 }, { name := "ordinal", type := .int, accessFlags := 18, slot := 1, constantValue := 0 }, { name := "hash", type := .int, accessFlags := 2, slot := 2, constantValue := 0 }]
  methods := #[]
  instanceTypes := #[(.object "java/lang/String"), .int, .int]
  staticTypes := #[]
  resolved := Array.replicate 204 none
  statics := none }

def pool6 : Array CpInfo := pool [(1, .class_ 2), (0, u "com/example/covenantry/covenantry/model/Bound"), (0, .fieldref 1 4), (0, .nameAndType 5 6), (0, u "MAXIMUM"), (0, u "Lcom/example/covenantry/covenantry/model/Bound;"), (2, u "MINIMUM"), (2, u "$VALUES"), (0, u "[Lcom/example/covenantry/covenantry/model/Bound;"), (6, .class_ 22), (1, u "java/lang/Enum"), (8, u "symbol"), (0, u "Ljava/lang/String;"), (21, u "admits"), (0, u "(I)Z")] 6

def k6c0 : Code := { maxStack := 2, maxLocals := 3, code := prog_37_method_5_code, exceptionTable := #[], attributes := #[] }
def k6m0 : Method := { name := "admits", desc := "(I)Z", sig := { parameters := [.int], returnType := some .boolean }, accessFlags := 1, code := some k6c0 }
/-- com/example/covenantry/covenantry/model/Bound -/
def k6 : Class := { plain "com/example/covenantry/covenantry/model/Bound" (some 5) with
  accessFlags := 16433
  interfaces := #[]
  cf := some (fileOf pool6 1 #[] #[{ accessFlags := 1, nameIndex := 54, descriptorIndex := 55, attributes := #[] }] 16433 20 #[] #[{ accessFlags := 16409, nameIndex := 5, descriptorIndex := 6, attributes := #[] }, { accessFlags := 16409, nameIndex := 9, descriptorIndex := 6, attributes := #[] }, { accessFlags := 18, nameIndex := 31, descriptorIndex := 32, attributes := #[] }, { accessFlags := 4122, nameIndex := 12, descriptorIndex := 13, attributes := #[] }])
  fields := #[{ name := "MAXIMUM", type := (.object "com/example/covenantry/covenantry/model/Bound"), accessFlags := 16409, slot := 0, constantValue := 0 }, { name := "MINIMUM", type := (.object "com/example/covenantry/covenantry/model/Bound"), accessFlags := 16409, slot := 1, constantValue := 0 }, { name := "symbol", type := (.object "java/lang/String"), accessFlags := 18, slot := 3, constantValue := 0 }, { name := "$VALUES", type := (.array (.object "com/example/covenantry/covenantry/model/Bound")), accessFlags := 4122, slot := 2, constantValue := 0 }]
  methods := #[k6m0]
  instanceTypes := #[(.object "java/lang/String"), .int, .int, (.object "java/lang/String")]
  staticTypes := #[(.object "com/example/covenantry/covenantry/model/Bound"), (.object "com/example/covenantry/covenantry/model/Bound"), (.array (.object "com/example/covenantry/covenantry/model/Bound"))]
  resolved := Array.replicate 62 none
  statics := some 0 }

def pool7 : Array CpInfo := pool [(1, u "java/lang/Cloneable"), (0, .class_ 1), (0, u "java/lang/Object"), (0, .class_ 3)] 3

/-- java/lang/Cloneable -/
def k7 : Class := { plain "java/lang/Cloneable" (some 0) with
  accessFlags := 1537
  interfaces := #[]
  cf := some (fileOf pool7 2 #[] #[] 1537 4 #[] #[])
  fields := #[]
  methods := #[]
  instanceTypes := #[]
  staticTypes := #[]
  resolved := Array.replicate 8 none
  statics := none }

/-- the primitive byte -/
def k8 : Class := { plain "byte" none with kind := .primitive 'B', accessFlags := 0x411 }
/-- [B -/
def k9 : Class := { plain "[B" (some 0) with kind := .array 8 .byte, interfaces := #[7, 4], accessFlags := 1041 }

/-- the primitive int -/
def k10 : Class := { plain "int" none with kind := .primitive 'I', accessFlags := 0x411 }
/-- [I -/
def k11 : Class := { plain "[I" (some 0) with kind := .array 10 .int, interfaces := #[7, 4], accessFlags := 1041 }

def heap : Heap := #[{ cls := 6, slots := #[.ref 1, .ref 2, .null], vm := .statics 6 },
  { cls := 6, slots := #[.null, .int 0, .int 0, .null], vm := .none },
  { cls := 6, slots := #[.null, .int 1, .int 0, .null], vm := .none }]
def classes : Array Class := #[k0, k1, k2, k3, k4, k5, k6, k7, k8, k9, k10, k11]
def interned : List (Array UInt16 × Addr) := []
def slotsUsed : Nat := 11
def theMethod : MethodId := ⟨1, 1⟩
def args0 : Array Value := #[.int 5]
def aboutOver (below : List Frame) : State where
  vm := { classes := classes, interned := interned.toArray }
  heap := heap
  slotsUsed := slotsUsed
  threads := #[{ frames := .invoking theMethod args0 :: below }]
def below0 : List Frame := [.native { method := ⟨0, 0⟩, args := #[] }]
def about1 : State := aboutOver below0
def p0 : Program := .bare "" "" ""
def e0 : Env := launch0.env 0 0 0
theorem w_frames : about1.frames = Frame.invoking theMethod args0 :: below0 := rfl
set_option maxRecDepth 65536 in
theorem w_args : argsFit about1.vm theMethod args0 = true := by decide +kernel
set_option maxRecDepth 65536 in
theorem w_heap : heapFits about1 = true := by decide +kernel
set_option maxRecDepth 65536 in
theorem w_runnable : about1.curStatus? = some .runnable := by decide +kernel
set_option maxRecDepth 65536 in
theorem w_alone : about1.alone = true := by decide +kernel
set_option maxRecDepth 65536 in
theorem w_named : about1.methodNamed? x = some theMethod := by decide +kernel
set_option maxRecDepth 65536 in
theorem w_hears : about1.hears theMethod below0 = true := by decide +kernel
set_option maxRecDepth 65536 in
theorem w_ripe : about1.ripe theMethod args0 below0 = true := by decide +kernel
theorem w_running : about1.status = .running := rfl
set_option maxRecDepth 65536 in
theorem w_room : about1.hasRoom e0.platform room_1 = true :=
  launch0.hasRoom_least _ room_1 (by decide +kernel) (by decide +kernel) (by decide +kernel) (by decide +kernel) (by decide +kernel) (by decide +kernel)
theorem allAtoms_all (ts : List Jvm.Cond) (a : Array Jvm.Value) (st : Jvm.State) : (allAtoms ts).before a st = ts.all (fun c => c.before a st) := by
  induction ts with
  | nil => rfl
  | cons c t ih =>
    show (Jvm.Cond.and c (allAtoms t)).before a st = _
    rw [Jvm.Cond.before_and, ih, List.all_cons]
def words1 : List Jvm.Cond := Jvm.Cond.code x code maxLocals ret :: tables_1
/-- a 'code' word, met by the world's own term for the bytes: nothing is compared byte by byte -/
theorem code_word {y : MethodName} {bytes : ByteArray} {mx : Nat} {rt : Option FieldType} {a : Array Value} {s : State} {m : MethodId} {meth : Method} {c : Code} (h1 : s.methodNamed? y = some m) (h2 : s.vm.method? m = some meth) (h3 : meth.code = some c) (h4 : c.code = bytes)
    (h5 : (c.maxLocals == mx && c.exceptionTable.isEmpty && decide (c.maxStack ≤ mostOperands) && decide (meth.sig.returnType = rt) && !meth.locks && decide (parseMethodDescriptor y.desc = some meth.sig)) = true) : (Jvm.Cond.code y bytes mx rt).before a s = true := by
  simp only [Bool.and_eq_true, beq_iff_eq, Bool.not_eq_true', decide_eq_true_eq] at h5
  obtain ⟨⟨⟨⟨⟨g1, g2⟩, g3⟩, g4⟩, g5⟩, g6⟩ := h5
  simp [Cond.before, Cond.holds, Cond.value, h1, h2, h3, h4, g1, g2, g3, g4, g5, g6]
def isCode : Jvm.Cond → Bool
  | .code _ _ _ _ => true
  | _ => false
theorem all_split {L : List Jvm.Cond} {P : Jvm.Cond → Bool} (h1 : L.all (fun c => isCode c || P c) = true) (h2 : ∀ c ∈ L.filter isCode, P c = true) : L.all P = true := by
  refine List.all_eq_true.mpr fun c hc => ?_
  have h := List.all_eq_true.mp h1 c hc
  rcases Bool.eq_false_or_eq_true (isCode c) with hi | hi
  · exact h2 c (List.mem_filter.mpr ⟨hc, hi⟩)
  · simpa [hi] using h
set_option maxRecDepth 65536 in
theorem w_c0 : (Jvm.Cond.code x code maxLocals ret).before args0 about1 = true := code_word (m := ⟨1, 1⟩) (meth := k1m1) (c := k1c1) (by decide +kernel) rfl rfl rfl (by decide +kernel)
set_option maxRecDepth 65536 in
theorem w_c1 : (Jvm.Cond.code ({ cls := "com/example/covenantry/covenantry/model/Bound", name := "admits", desc := "(I)Z" } : Jvm.MethodName) prog_37_method_5_code (3 : Nat) (Option.some Jvm.ClassFile.FieldType.boolean)).before args0 about1 = true := code_word (m := ⟨6, 0⟩) (meth := k6m0) (c := k6c0) (by decide +kernel) rfl rfl rfl (by decide +kernel)
def codes1 : List Jvm.Cond := [Jvm.Cond.code x code maxLocals ret, Jvm.Cond.code ({ cls := "com/example/covenantry/covenantry/model/Bound", name := "admits", desc := "(I)Z" } : Jvm.MethodName) prog_37_method_5_code (3 : Nat) (Option.some Jvm.ClassFile.FieldType.boolean)]
set_option maxRecDepth 65536 in
theorem codes_eq : words1.filter isCode = codes1 := rfl
theorem w_codes : ∀ c ∈ words1.filter isCode, c.before args0 about1 = true := by
  rw [codes_eq]
  intro c hc
  simp only [codes1, List.mem_cons, List.not_mem_nil, or_false] at hc
  rcases hc with rfl | rfl
  · exact w_c0
  · exact w_c1
set_option maxRecDepth 65536 in
theorem w_t1 : words1.all (fun c => isCode c || c.before args0 about1) = true := by decide +kernel
theorem w_tables : (allAtoms (Jvm.Cond.code x code maxLocals ret :: tables_1)).before args0 about1 = true := by
  rw [allAtoms_all]
  show words1.all (fun c => c.before args0 about1) = true
  refine all_split ?_ w_codes
  rw [w_t1]
set_option maxRecDepth 65536 in
theorem w_case : (Jvm.Cond.and given_1 narrow_1).before args0 about1 = true := by decide +kernel
theorem w_applies : (headSpec (Jvm.Cond.code x code maxLocals ret :: tables_1) room_1).applies x e0.platform about1 = true :=
  (Spec.applies_iff w_frames).mpr ⟨w_running, w_runnable, w_alone, w_named, w_hears, w_ripe, w_room, w_tables⟩
theorem atStart : AtStart classFile x code maxLocals ret World_1 tables_1 room_1 Calls_1 rest_1 Pre_1 launch0 p0 e0 about1 theMethod args0 below0 :=
  ⟨lists_1, trivial, launch0.admits_env _ _ _, launch0.least_env, fairChoices_fair.cas, fairChoices_fair.clock, w_frames, w_args, w_heap, w_applies, trivial, trivial, w_case⟩
end start1
theorem witness_1 : WitnessClaimed_1 := ⟨start1.p0, start1.e0, start1.about1, start1.theMethod, start1.args0, start1.below0, start1.atStart⟩
end Jvm.Pilot.@@N@@
