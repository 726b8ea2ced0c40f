import JvmDerived
import JvmDerived.Pilot.@@N@@Statement
import JvmDerived.Pilot.@@N@@Code
set_option linter.unusedVariables false
set_option linter.unusedSimpArgs false
namespace Jvm.RoadKit
open Sem ClassFile Op Lib Jvm.Stand Jvm.Free Jvm.LawKit
section Own
variable {p : Program} {l : Launch} {e : Env} {R : Room} {s : State} {m : MethodId} {args : Array Value} {below : List Frame} {meth : Method} {c : Code} {T : State} {locs : List Loc} {cells slots : Nat}
/-- the run from S ends by a return, with Qp of what it returns, the heap and the places written, within kc cells and ks slots -/
def OwnGo (p : Program) (e : Env) (below : List Frame) (s : State) (Qp : Option Value → Heap → List Loc → Prop) (kc ks : Nat) (S : State) : Prop :=
  ∃ s₂ o, Steps p.tables e below S s₂ ∧ s₂.status = .running ∧ Ended s₂ below o ∧ ∃ v L, o = .returned v ∧ Qp v s₂.heap L ∧ FrameEnd s o s₂ L kc ks
variable {Qp : Option Value → Heap → List Loc → Prop} {kc ks : Nat} {S S' : State}
theorem ownStep (h : ∀ t, Steps p.tables e below S' t → Steps p.tables e below S t) (k : OwnGo p e below s Qp kc ks S') : OwnGo p e below s Qp kc ks S := by
  obtain ⟨s₂, o, h1, r⟩ := k
  exact ⟨s₂, o, h _ h1, r⟩
theorem ownTrans (h : Steps p.tables e below S S') (k : OwnGo p e below s Qp kc ks S') : OwnGo p e below s Qp kc ks S := ownStep (fun _ q => h.trans q) k
theorem ownEnd (X : Stand p l e R s m args below meth c T locs cells slots) {v : Option Value} (hv : meth.sig.returnType = none → v = none) (hlk : meth.locks = false) (hc : cells ≤ kc) (hs : slots ≤ ks) (hq : Qp v T.heap locs)
    (hst : ∀ fs : List Frame, (∀ (f : JFrame) (acts : List Action), f.method = m → f.locked = none → f.entered = [] → (doReturn e (T.setTop f) acts v).1 = T.setFrames fs) → Steps p.tables e below S (T.setFrames fs)) : OwnGo p e below s Qp kc ks S := by
  obtain ⟨fs, hr, hrun, hended, hW, hsame⟩ := X.leave (v := v) hv hlk
  exact ⟨_, _, hst fs hr, hrun, hended, _, _, rfl, hq, ⟨_, rfl⟩, hW, hsame.mono hc hs⟩
theorem ownRetN (X : Stand p l e R s m args below meth c T locs cells slots) (hx : p.tables.exec = Jvm.exec) {pc : Nat} {Ls : Array Slot} {z : Int32} {t : FieldType} {rest : List Value} (hret : meth.sig.returnType = some t) (ht : t = .boolean ∨ t = .byte ∨ t = .char ∨ t = .short) (hd : decode c.code pc = .ok (.ireturn, 1)) (hlk : meth.locks = false) (hc : cells ≤ kc) (hs : slots ≤ ks) (hq : Qp (some (.int (nar t z))) T.heap locs) :
    OwnGo p e below s Qp kc ks (T.setTop (mkF m pc Ls (.int z :: rest))) :=
  ownEnd X (fun h => by rw [hret] at h; cases h) hlk hc hs hq (fun fs hr => retN X hx hret ht hd hr)
theorem ownRetI (X : Stand p l e R s m args below meth c T locs cells slots) (hx : p.tables.exec = Jvm.exec) {pc : Nat} {Ls : Array Slot} {z : Int32} {rest : List Value} (hret : meth.sig.returnType = some .int) (hd : decode c.code pc = .ok (.ireturn, 1)) (hlk : meth.locks = false) (hc : cells ≤ kc) (hs : slots ≤ ks) (hq : Qp (some (.int z)) T.heap locs) :
    OwnGo p e below s Qp kc ks (T.setTop (mkF m pc Ls (.int z :: rest))) :=
  ownEnd X (fun h => by rw [hret] at h; cases h) hlk hc hs hq (fun fs hr => retOut X hx hret rfl (Or.inl ⟨rfl, Or.inl rfl, z, rfl⟩) hd hr)
theorem ownRetA (X : Stand p l e R s m args below meth c T locs cells slots) (hx : p.tables.exec = Jvm.exec) {pc : Nat} {Ls : Array Slot} {w : Value} {t : FieldType} {rest : List Value} (hret : meth.sig.returnType = some t) (hn : narrow t w = w) (ht : t.isReference = true) (hw : w.isRef = true) (hd : decode c.code pc = .ok (.areturn, 1)) (hlk : meth.locks = false) (hc : cells ≤ kc) (hs : slots ≤ ks) (hq : Qp (some w) T.heap locs) :
    OwnGo p e below s Qp kc ks (T.setTop (mkF m pc Ls (w :: rest))) :=
  ownEnd X (fun h => by rw [hret] at h; cases h) hlk hc hs hq (fun fs hr => retOut X hx hret hn (Or.inr (Or.inr (Or.inr (Or.inr ⟨rfl, ht, hw⟩)))) hd hr)
theorem ownRetB (X : Stand p l e R s m args below meth c T locs cells slots) (hx : p.tables.exec = Jvm.exec) {pc : Nat} {Ls : Array Slot} {z : Int32} {t : FieldType} {rest : List Value} (hret : meth.sig.returnType = some t) (ht : t = .int ∨ t = .boolean ∨ t = .byte ∨ t = .char ∨ t = .short) (hn : narrow t (.int z) = .int z) (hd : decode c.code pc = .ok (.ireturn, 1)) (hlk : meth.locks = false) (hc : cells ≤ kc) (hs : slots ≤ ks) (hq : Qp (some (.int z)) T.heap locs) :
    OwnGo p e below s Qp kc ks (T.setTop (mkF m pc Ls (.int z :: rest))) :=
  ownEnd X (fun h => by rw [hret] at h; cases h) hlk hc hs hq (fun fs hr => retOut X hx hret hn (Or.inl ⟨rfl, ht, z, rfl⟩) hd hr)
theorem ownRet0 (X : Stand p l e R s m args below meth c T locs cells slots) (hx : p.tables.exec = Jvm.exec) {pc : Nat} {Ls : Array Slot} (hret : meth.sig.returnType = none) (hd : decode c.code pc = .ok (.return_, 1)) (hlk : meth.locks = false) (hc : cells ≤ kc) (hs : slots ≤ ks) (hq : Qp none T.heap locs) :
    OwnGo p e below s Qp kc ks (T.setTop (mkF m pc Ls [])) :=
  ownEnd X (fun _ => rfl) hlk hc hs hq (fun fs hr => X.returnOut hx hret hd hr)
end Own
section OwnWords
variable {args : Array Value} {first s : State} {o : Option Outcome} {idx : List Nat} {t u : Term} {k : Int32} {x : Addr}
theorem own_eqI (h : (Cond.eq t (.int k)).value args first o s idx = some true) : t.eval args first o idx s = some (.int k) := by
  simp only [Cond.value, Term.eval] at h
  cases ht : t.eval args first o idx s with
  | none => simp [ht] at h
  | some y => cases y <;> simp [ht] at h ⊢ <;> exact h
theorem own_eqR (h : (Cond.eq t u).value args first o s idx = some true) (hu : u.eval args first o idx s = some (.ref x)) : t.eval args first o idx s = some (.ref x) := by
  simp only [Cond.value, hu] at h
  cases ht : t.eval args first o idx s with
  | none => simp [ht] at h
  | some y => cases y <;> simp [ht] at h ⊢ <;> exact h
theorem own_fld {C n d : String} {v : Value} (ht : t.eval args s none [] s = some (.ref x)) (h : (Term.field t C n d).eval args s none [] s = some v) : Fld s s.heap x C n d v :=
  Fld.start (by rw [← fld_at ht]; exact h)
theorem own_len {n : Int32} (ht : t.eval args first o idx s = some (.ref x)) (h : (Term.length t).eval args first o idx s = some (.int n)) {cl : Cell} (hc : s.heap[x]? = some cl) : cl.slots.size < 2 ^ 31 ∧ cl.slots.size.toInt32 = n := by
  obtain ⟨x', cl', e1, e2, e3⟩ := Term.length_spec h
  cases ht.symm.trans e1
  have e4 : cl' = cl := Option.some.inj ((State.arrayAt?_spec e2).1.symm.trans hc)
  subst e4
  simp only [Term.eval, ht, e2, Option.bind_eq_bind, Option.bind_some] at h
  split at h <;> simp_all
end OwnWords
theorem own_pos {x : Int32} (h1 : ¬ x < 0) (h2 : ¬ x = 0) : (0 : Int32) < x := by
  rw [Int32.lt_iff_toInt_lt] at *
  have h3 : x.toInt ≠ (0 : Int32).toInt := fun q => h2 (Int32.toInt_inj.mp q)
  have h4 : (0 : Int32).toInt = 0 := rfl
  omega
theorem own_nlt {x : Int32} (h1 : (0 : Int32) < x) : ¬ x < 0 := by
  rw [Int32.lt_iff_toInt_lt] at *
  have h4 : (0 : Int32).toInt = 0 := rfl
  omega
end Jvm.RoadKit
namespace Jvm.Pilot.@@N@@
open Jvm Jvm.ClassFile Sem Op Lib Jvm.Free Jvm.Stand Jvm.LawKit Jvm.RoadKit Bundle Jvm.Pilot.@@N@@.Jvm.D
theorem d1_0 : decode prog_14_method_5_code 0 = .ok (.invokestatic 42, 3) := by decide +kernel
theorem d1_3 : decode prog_14_method_5_code 3 = .ok (.astore_n 1, 1) := by decide +kernel
theorem d1_4 : decode prog_14_method_5_code 4 = .ok (.aload_n 1, 1) := by decide +kernel
theorem d1_5 : decode prog_14_method_5_code 5 = .ok (.arraylength, 1) := by decide +kernel
theorem d1_6 : decode prog_14_method_5_code 6 = .ok (.istore_n 2, 1) := by decide +kernel
theorem d1_7 : decode prog_14_method_5_code 7 = .ok (.iconst 0, 1) := by decide +kernel
theorem d1_8 : decode prog_14_method_5_code 8 = .ok (.istore_n 3, 1) := by decide +kernel
theorem d1_9 : decode prog_14_method_5_code 9 = .ok (.iload_n 3, 1) := by decide +kernel
theorem d1_10 : decode prog_14_method_5_code 10 = .ok (.iload_n 2, 1) := by decide +kernel
theorem d1_11 : decode prog_14_method_5_code 11 = .ok (.if_icmp .ge 26, 3) := by decide +kernel
theorem d1_14 : decode prog_14_method_5_code 14 = .ok (.aload_n 1, 1) := by decide +kernel
theorem d1_15 : decode prog_14_method_5_code 15 = .ok (.iload_n 3, 1) := by decide +kernel
theorem d1_16 : decode prog_14_method_5_code 16 = .ok (.aaload, 1) := by decide +kernel
theorem d1_17 : decode prog_14_method_5_code 17 = .ok (.astore 4, 2) := by decide +kernel
theorem d1_19 : decode prog_14_method_5_code 19 = .ok (.aload 4, 2) := by decide +kernel
theorem d1_21 : decode prog_14_method_5_code 21 = .ok (.getfield 38, 3) := by decide +kernel
theorem d1_24 : decode prog_14_method_5_code 24 = .ok (.iload_n 0, 1) := by decide +kernel
theorem d1_25 : decode prog_14_method_5_code 25 = .ok (.if_icmp .ne 6, 3) := by decide +kernel
theorem d1_28 : decode prog_14_method_5_code 28 = .ok (.aload 4, 2) := by decide +kernel
theorem d1_30 : decode prog_14_method_5_code 30 = .ok (.areturn, 1) := by decide +kernel
theorem d1_31 : decode prog_14_method_5_code 31 = .ok (.iinc 3 1, 3) := by decide +kernel
theorem d1_34 : decode prog_14_method_5_code 34 = .ok (.goto (-25), 3) := by decide +kernel
theorem d1_37 : decode prog_14_method_5_code 37 = .ok (.getstatic 3, 3) := by decide +kernel
theorem d1_40 : decode prog_14_method_5_code 40 = .ok (.areturn, 1) := by decide +kernel
theorem d2_0 : decode prog_14_method_1_code 0 = .ok (.getstatic 19, 3) := by decide +kernel
theorem d2_3 : decode prog_14_method_1_code 3 = .ok (.invokevirtual 23, 3) := by decide +kernel
theorem d2_6 : decode prog_14_method_1_code 6 = .ok (.checkcast 24, 3) := by decide +kernel
theorem d2_9 : decode prog_14_method_1_code 9 = .ok (.areturn, 1) := by decide +kernel
theorem own_pd0 : parseMethodDescriptor "()[Lcom/example/dectx/dectx/Isolation;" = some ⟨[], some (.array (.object "com/example/dectx/dectx/Isolation"))⟩ := by decide +kernel
theorem own_pd1 : parseMethodDescriptor "(I)Lcom/example/dectx/dectx/Isolation;" = some ⟨[.int], some (.object "com/example/dectx/dectx/Isolation")⟩ := by decide +kernel
def QV (Z : State) (wV : Addr) (kV : ClassId) (w0 : Addr) (w1 : Addr) (w2 : Addr) (w3 : Addr) (w4 : Addr) (h0 : Heap) (n0 : Nat) (v : Option Value) (h : Heap) (L : List Loc) : Prop := v = some (.ref h0.size) ∧ Fr n0 L ∧ Ext h0 h ∧ Arv Z h h0.size kV (.object "com/example/dectx/dectx/Isolation") (5 : Int32) [(.ref w0), (.ref w1), (.ref w2), (.ref w3), (.ref w4)] .null
theorem own_pn_rmV : plainName "com/example/dectx/dectx/Isolation" = true := by first | (simp [plainName, overriddenIn]; done) | decide +kernel
theorem own_ef_rmV (m : MethodId)  : entryFrame m #[] 0 = mkF m 0 #[] [] := by first | (simp [entryFrame, mkF, argsToLocals, Value.category]; done) | rfl
set_option maxRecDepth 65536 in
set_option maxHeartbeats 40000000 in
theorem rmV (l : Launch) (Z : State) (a0 : Array Value) (hw : ∀ d ∈ tables_1, d.before a0 Z = true) (ws : List Jvm.Cond) (wV : Addr) (kV : ClassId) (w0 : Addr) (w1 : Addr) (w2 : Addr) (w3 : Addr) (w4 : Addr) (h0 : Heap) (n0 : Nat) (O0 : Old Z n0 h0) (SV : Sta Z Z.heap "com/example/dectx/dectx/Isolation" "$VALUES" "[Lcom/example/dectx/dectx/Isolation;" (.ref wV)) (VV : Arv Z Z.heap wV kV (.object "com/example/dectx/dectx/Isolation") (5 : Int32) [(.ref w0), (.ref w1), (.ref w2), (.ref w3), (.ref w4)] .null) (EV : Exa Z Z.heap wV "[Lcom/example/dectx/dectx/Isolation;") :
    MetFree l (⟨"com/example/dectx/dectx/Isolation", "values", "()[Lcom/example/dectx/dectx/Isolation;"⟩ : MethodName) (head1 (Jvm.Cond.code (⟨"com/example/dectx/dectx/Isolation", "values", "()[Lcom/example/dectx/dectx/Isolation;"⟩ : MethodName) prog_14_method_1_code 0 (some (.array (.object "com/example/dectx/dectx/Isolation"))) :: ws) ({ frames := 1, cells := 1, slots := 5, locals := 14 } : Room)) (fun a U => a = #[] ∧ Z.Warmed39 U.vm ∧ U.heap = h0) (fun _ _ _ _ _ => True) (fun _ U o U' => ∃ v L, o = .returned v ∧ QV Z wV kV w0 w1 w2 w3 w4 h0 n0 v U'.heap L ∧ FrameEnd U o U' L ({ frames := 1, cells := 1, slots := 5, locals := 14 } : Room).cells ({ frames := 1, cells := 1, slots := 5, locals := 14 } : Room).slots) := by
  refine MetFree.of_bodySF (plainFor_of_name own_pn_rmV) hisR ?_
  intro p e s m args below meth c s₁ Bd hml0 hP hK
  obtain ⟨rfl, hZ, hh⟩ := hP
  have hx := Bd.exec
  have hby := Bd.bytes
  have hml : c.maxLocals = 0 := hml0
  have hown : s.vm.findClass "com/example/dectx/dectx/Isolation" = some m.cls := findClass_of_methodNamed Bd.named
  have hnm := (name_of_methodNamed Bd.named Bd.method).1
  have X0 : Stand p l e ({ frames := 1, cells := 1, slots := 5, locals := 14 } : Room) s m #[] below meth c s₁ [] 0 0 := Stand.of_body Bd
  have e0 : s₁.heap = h0 := by rw [← hh, Bd.state]; rfl
  have N0 := Fr.nil n0
  show OwnGo p e below s (QV Z wV kV w0 w1 w2 w3 w4 h0 n0) ({ frames := 1, cells := 1, slots := 5, locals := 14 } : Room).cells ({ frames := 1, cells := 1, slots := 5, locals := 14 } : Room).slots (s₁.setTop (entryFrame m #[] 0))
  refine ownStep (fun _ k => castTop (own_ef_rmV m ) k) ?_
  show OwnGo _ _ _ _ _ _ _ (s₁.setTop (mkF m 0 #[] []))
  obtain ⟨T1, X1, e1, st1⟩ := getS2 X0 hx hZ hown (host := "") (Or.inl (hw _ (List.mem_of_getElem? (i := 9) rfl))) Via.refl e0 (SV.ext O0.2) (g := (mkF m 0 #[] [])) rfl (hb hby d2_0)
  refine ownStep st1 ?_
  show OwnGo _ _ _ _ _ _ _ (T1.setTop (mkF m 3 #[] [(.ref wV)]))
  obtain ⟨T2, h2, X2, e2, E2, V2, A2, st2⟩ := cloneH X1 hx hZ hown (hw _ (List.mem_of_getElem? (i := 11) rfl)) (hw _ (List.mem_of_getElem? (i := 12) rfl)) (hw _ (List.mem_of_getElem? (i := 16) rfl)) (hw _ (List.mem_of_getElem? (i := 14) rfl)) (hw _ (List.mem_of_getElem? (i := 15) rfl)) (hw _ (List.mem_of_getElem? (i := 17) rfl)) e1 (Arv.arh (VV.ext O0.2)) (EV.ext O0.2) (g := (mkF m 3 #[] [(.ref wV)])) rfl (by rw [hml]; rfl) rfl (hb hby d2_3) (by decide) (W := 0) (cap := 5) (by show 2 * 0 + _ ≤ _; exact Nat.le_of_eq rfl) (by decide) (by decide) (by decide) (by decide)
  obtain ⟨b2, g2⟩ : ∃ z, z = h0.size := ⟨_, rfl⟩
  rw [← g2] at V2 A2 st2
  refine ownStep st2 ?_
  have ge2 : n0 ≤ b2 := by rw [g2]; exact Nat.le_trans (Nat.le_of_eq O0.1.symm) O0.2.1
  have O2 := O0.ext E2
  show OwnGo _ _ _ _ _ _ _ (T2.setTop (mkF m 6 #[] [(.ref b2)]))
  obtain ⟨T3, X3, e3, st3⟩ := castY X2 hx hZ hown (hw _ (List.mem_of_getElem? (i := 23) rfl)) e2 (Ins.self A2) (g := (mkF m 6 #[] [(.ref b2)])) rfl rfl (hb hby d2_6)
  refine ownStep st3 ?_
  show OwnGo _ _ _ _ _ _ _ (T3.setTop (mkF m 9 #[] [(.ref b2)]))
  have eq9 : T3.heap = h2 := e3
  exact ownRetA X3 hx (t := (.array (.object "com/example/dectx/dectx/Isolation"))) Bd.returns rfl rfl rfl (hb hby d2_9) (BodyLoose.notSynchronized Bd) (by decide) (by decide) (by rw [eq9]; exact ⟨by rw [g2], N0, E2, by rw [← g2]; exact V2⟩)
def QO (Z : State) (p1 : Int32) (wV : Addr) (kV : ClassId) (w0 : Addr) (w1 : Addr) (w2 : Addr) (w3 : Addr) (w4 : Addr) (r : Addr) (h0 : Heap) (n0 : Nat) (v : Option Value) (h : Heap) (L : List Loc) : Prop := v = some (.ref r) ∧ Fr n0 L ∧ Old Z n0 h
theorem own_pn_rmO : plainName "com/example/dectx/dectx/Isolation" = true := by first | (simp [plainName, overriddenIn]; done) | decide +kernel
theorem own_ef_rmO (m : MethodId) (x0 : Int32) : entryFrame m #[(.int x0)] 5 = mkF m 0 #[.val (.int x0), .unset, .unset, .unset, .unset] [] := by first | (simp [entryFrame, mkF, argsToLocals, Value.category]; done) | rfl
set_option maxRecDepth 65536 in
set_option maxHeartbeats 40000000 in
theorem rmO (l : Launch) (Z : State) (a0 : Array Value) (hw : ∀ d ∈ tables_1, d.before a0 Z = true) (ws : List Jvm.Cond) (p1 : Int32) (wV : Addr) (kV : ClassId) (w0 : Addr) (w1 : Addr) (w2 : Addr) (w3 : Addr) (w4 : Addr) (r : Addr) (h0 : Heap) (n0 : Nat) (O0 : Old Z n0 h0) (SV : Sta Z Z.heap "com/example/dectx/dectx/Isolation" "$VALUES" "[Lcom/example/dectx/dectx/Isolation;" (.ref wV)) (VV : Arv Z Z.heap wV kV (.object "com/example/dectx/dectx/Isolation") (5 : Int32) [(.ref w0), (.ref w1), (.ref w2), (.ref w3), (.ref w4)] .null) (EV : Exa Z Z.heap wV "[Lcom/example/dectx/dectx/Isolation;") (S0 : Sta Z Z.heap "com/example/dectx/dectx/Isolation" "DEFAULT" "Lcom/example/dectx/dectx/Isolation;" (.ref w0)) (F0 : Fld Z Z.heap w0 "com/example/dectx/dectx/Isolation" "jdbcLevel" "I" (.int (-1 : Int32))) (F1 : Fld Z Z.heap w1 "com/example/dectx/dectx/Isolation" "jdbcLevel" "I" (.int (1 : Int32))) (F2 : Fld Z Z.heap w2 "com/example/dectx/dectx/Isolation" "jdbcLevel" "I" (.int (2 : Int32))) (F3 : Fld Z Z.heap w3 "com/example/dectx/dectx/Isolation" "jdbcLevel" "I" (.int (4 : Int32))) (F4 : Fld Z Z.heap w4 "com/example/dectx/dectx/Isolation" "jdbcLevel" "I" (.int (8 : Int32))) (hr : (if (1 : Int32) = p1 then w1 else if (2 : Int32) = p1 then w2 else if (4 : Int32) = p1 then w3 else if (8 : Int32) = p1 then w4 else w0) = r) :
    MetFree l (⟨"com/example/dectx/dectx/Isolation", "ofJdbcLevel", "(I)Lcom/example/dectx/dectx/Isolation;"⟩ : MethodName) (head1 (Jvm.Cond.code (⟨"com/example/dectx/dectx/Isolation", "ofJdbcLevel", "(I)Lcom/example/dectx/dectx/Isolation;"⟩ : MethodName) prog_14_method_5_code 5 (some (.object "com/example/dectx/dectx/Isolation")) :: ws) ({ frames := 2, cells := 1, slots := 5, locals := 25 } : Room)) (fun a U => a = #[(.int p1)] ∧ Z.Warmed39 U.vm ∧ U.heap = h0) (fun _ _ _ _ _ => True) (fun _ U o U' => ∃ v L, o = .returned v ∧ QO Z p1 wV kV w0 w1 w2 w3 w4 r h0 n0 v U'.heap L ∧ FrameEnd U o U' L ({ frames := 2, cells := 1, slots := 5, locals := 25 } : Room).cells ({ frames := 2, cells := 1, slots := 5, locals := 25 } : Room).slots) := by
  refine MetFree.of_bodySF (plainFor_of_name own_pn_rmO) hisR ?_
  intro p e s m args below meth c s₁ Bd hml0 hP hK
  obtain ⟨rfl, hZ, hh⟩ := hP
  have hx := Bd.exec
  have hby := Bd.bytes
  have hml : c.maxLocals = 5 := hml0
  have hown : s.vm.findClass "com/example/dectx/dectx/Isolation" = some m.cls := findClass_of_methodNamed Bd.named
  have hnm := (name_of_methodNamed Bd.named Bd.method).1
  have X0 : Stand p l e ({ frames := 2, cells := 1, slots := 5, locals := 25 } : Room) s m #[(.int p1)] below meth c s₁ [] 0 0 := Stand.of_body Bd
  have e0 : s₁.heap = h0 := by rw [← hh, Bd.state]; rfl
  have N0 := Fr.nil n0
  show OwnGo p e below s (QO Z p1 wV kV w0 w1 w2 w3 w4 r h0 n0) ({ frames := 2, cells := 1, slots := 5, locals := 25 } : Room).cells ({ frames := 2, cells := 1, slots := 5, locals := 25 } : Room).slots (s₁.setTop (entryFrame m #[(.int p1)] 5))
  refine ownStep (fun _ k => castTop (own_ef_rmO m p1) k) ?_
  show OwnGo _ _ _ _ _ _ _ (s₁.setTop (mkF m 0 #[.val (.int p1), .unset, .unset, .unset, .unset] []))
  obtain ⟨_, _, ⟨T4, L4, k4, n4⟩, -, X4, ⟨Lc4, hQ4, l4, y4, z4⟩, st4⟩ := Jvm.LawKit.callS X0 hx (y := (⟨"com/example/dectx/dectx/Isolation", "values", "()[Lcom/example/dectx/dectx/Isolation;"⟩ : MethodName)) hown (mvT hZ (hw _ (List.mem_of_getElem? (i := 6) rfl))) (mvT hZ (hw _ (List.mem_of_getElem? (i := 7) rfl))) (mvT hZ (hw _ (List.mem_of_getElem? (i := 1) rfl))) (mvT hZ (hw _ (List.mem_of_getElem? (i := 8) rfl))) (by decide) (backOf (W := 0) (rmV l Z a0 hw [] wV kV w0 w1 w2 w3 w4 h0 n0 O0 SV VV EV) hZ (hw _ (List.mem_of_getElem? (i := 8) rfl)) (hw _ (List.mem_of_getElem? (i := 1) rfl)) (by decide) (by decide)) (g := (mkF m 0 #[.val (.int p1), .unset, .unset, .unset, .unset] [])) rfl (by rw [hml]; rfl) (argsL := []) (rest := []) (lenOf own_pd0 rfl) rfl (by show 2 * 0 + _ ≤ _; exact Nat.le_of_eq rfl) (hb hby d1_0) (fun _ _ => ⟨rfl, e0, (by decide : 0 + 1 ≤ _), (by decide : 0 + 5 ≤ _)⟩)
  dsimp only [Pt.U, Pt.locs, Pt.cells, Pt.slots] at X4 l4 y4 z4 st4 hQ4
  subst l4 y4 z4
  obtain ⟨rfl, N4q, E4, V4⟩ := hQ4
  have N4 := Fr.app N0 N4q
  refine ownStep st4 ?_
  show OwnGo _ _ _ _ _ _ _ (T4.setTop (mkF m 3 #[.val (.int p1), .unset, .unset, .unset, .unset] [(.ref h0.size)]))
  have O4 := O0.ext E4
  refine ownStep (fun _ k => XS.astoreN X4.here hx rfl (hb hby d1_3) rfl rfl (l' := #[.val (.int p1), .val (.ref h0.size), .unset, .unset, .unset]) rfl k) ?_
  show OwnGo _ _ _ _ _ _ _ (T4.setTop (mkF m 4 #[.val (.int p1), .val (.ref h0.size), .unset, .unset, .unset] []))
  refine ownStep (fun _ k => XS.aloadN X4.here hx rfl (hb hby d1_4) rfl rfl k) ?_
  show OwnGo _ _ _ _ _ _ _ (T4.setTop (mkF m 5 #[.val (.int p1), .val (.ref h0.size), .unset, .unset, .unset] [(.ref h0.size)]))
  obtain ⟨cla5, Ara5, qa5, Sa5, Pa5, Ha5, Ga5⟩ := id V4
  refine ownStep (X4.arraylength hx (by rw [(rfl : T4.heap = _)]; exact Ara5.1) (State.isArrayOf_alike hZ.alike Ara5.2.1) (g := (mkF m 5 #[.val (.int p1), .val (.ref h0.size), .unset, .unset, .unset] [(.ref h0.size)])) rfl rfl (hb hby d1_5)) ?_
  rw [len_of Sa5 Pa5]
  show OwnGo _ _ _ _ _ _ _ (T4.setTop (mkF m 6 #[.val (.int p1), .val (.ref h0.size), .unset, .unset, .unset] [(.int (5 : Int32))]))
  refine ownStep (fun _ k => XS.istoreN X4.here hx rfl (hb hby d1_6) rfl (l' := #[.val (.int p1), .val (.ref h0.size), .val (.int (5 : Int32)), .unset, .unset]) rfl k) ?_
  show OwnGo _ _ _ _ _ _ _ (T4.setTop (mkF m 7 #[.val (.int p1), .val (.ref h0.size), .val (.int (5 : Int32)), .unset, .unset] []))
  refine ownStep (fun _ k => XS.iconst X4.here hx rfl (hb hby d1_7) k) ?_
  show OwnGo _ _ _ _ _ _ _ (T4.setTop (mkF m 8 #[.val (.int p1), .val (.ref h0.size), .val (.int (5 : Int32)), .unset, .unset] [(.int (0 : Int32))]))
  refine ownStep (fun _ k => XS.istoreN X4.here hx rfl (hb hby d1_8) rfl (l' := #[.val (.int p1), .val (.ref h0.size), .val (.int (5 : Int32)), .val (.int (0 : Int32)), .unset]) rfl k) ?_
  show OwnGo _ _ _ _ _ _ _ (T4.setTop (mkF m 9 #[.val (.int p1), .val (.ref h0.size), .val (.int (5 : Int32)), .val (.int (0 : Int32)), .unset] []))
  refine ownStep (fun _ k => XS.iloadN X4.here hx rfl (hb hby d1_9) rfl k) ?_
  show OwnGo _ _ _ _ _ _ _ (T4.setTop (mkF m 10 #[.val (.int p1), .val (.ref h0.size), .val (.int (5 : Int32)), .val (.int (0 : Int32)), .unset] [(.int (0 : Int32))]))
  refine ownStep (fun _ k => XS.iloadN X4.here hx rfl (hb hby d1_10) rfl k) ?_
  show OwnGo _ _ _ _ _ _ _ (T4.setTop (mkF m 11 #[.val (.int p1), .val (.ref h0.size), .val (.int (5 : Int32)), .val (.int (0 : Int32)), .unset] [(.int (5 : Int32)), (.int (0 : Int32))]))
  refine ownStep (fun _ k => XS.icmpNo X4.here hx rfl (hb hby d1_11) rfl (tlt (by decide : (0 : Int32) < (5 : Int32))).2.1 k) ?_
  show OwnGo _ _ _ _ _ _ _ (T4.setTop (mkF m 14 #[.val (.int p1), .val (.ref h0.size), .val (.int (5 : Int32)), .val (.int (0 : Int32)), .unset] []))
  refine ownStep (fun _ k => XS.aloadN X4.here hx rfl (hb hby d1_14) rfl rfl k) ?_
  show OwnGo _ _ _ _ _ _ _ (T4.setTop (mkF m 15 #[.val (.int p1), .val (.ref h0.size), .val (.int (5 : Int32)), .val (.int (0 : Int32)), .unset] [(.ref h0.size)]))
  refine ownStep (fun _ k => XS.iloadN X4.here hx rfl (hb hby d1_15) rfl k) ?_
  show OwnGo _ _ _ _ _ _ _ (T4.setTop (mkF m 16 #[.val (.int p1), .val (.ref h0.size), .val (.int (5 : Int32)), .val (.int (0 : Int32)), .unset] [(.int (0 : Int32)), (.ref h0.size)]))
  obtain ⟨cla6, Ara6, qa6, Sa6, Pa6, Ha6, Ga6⟩ := id V4
  have hina6 : ¬ ((0 : Int32) < 0 ∨ cla6.slots.size ≤ ((0 : Int32) : Int32).toNatClampNeg) := inb_of Sa6 ⟨by decide, by decide⟩
  refine ownStep (X4.aaload hx (j := (0 : Int32)) (v := (.ref w0)) (by rw [(rfl : T4.heap = _)]; exact Ara6.1) (State.isArrayOf_alike hZ.alike Ara6.2.1) rfl Ara6.2.2 hina6 (Has.at Ha6 hina6 rfl) (g := (mkF m 16 #[.val (.int p1), .val (.ref h0.size), .val (.int (5 : Int32)), .val (.int (0 : Int32)), .unset] [(.int (0 : Int32)), (.ref h0.size)])) rfl rfl (hb hby d1_16)) ?_
  show OwnGo _ _ _ _ _ _ _ (T4.setTop (mkF m 17 #[.val (.int p1), .val (.ref h0.size), .val (.int (5 : Int32)), .val (.int (0 : Int32)), .unset] [(.ref w0)]))
  refine ownStep (fun _ k => XS.astore X4.here hx rfl (hb hby d1_17) rfl rfl (l' := #[.val (.int p1), .val (.ref h0.size), .val (.int (5 : Int32)), .val (.int (0 : Int32)), .val (.ref w0)]) rfl k) ?_
  show OwnGo _ _ _ _ _ _ _ (T4.setTop (mkF m 19 #[.val (.int p1), .val (.ref h0.size), .val (.int (5 : Int32)), .val (.int (0 : Int32)), .val (.ref w0)] []))
  refine ownStep (fun _ k => XS.aload X4.here hx rfl (hb hby d1_19) rfl rfl k) ?_
  show OwnGo _ _ _ _ _ _ _ (T4.setTop (mkF m 21 #[.val (.int p1), .val (.ref h0.size), .val (.int (5 : Int32)), .val (.int (0 : Int32)), .val (.ref w0)] [(.ref w0)]))
  obtain ⟨T7, X7, e7, st7⟩ := getF X4 hx hZ hown (host := "") (Or.inl (hw _ (List.mem_of_getElem? (i := 25) rfl))) Via.refl (rfl : T4.heap = _) (F0.ext O4.2) (g := (mkF m 21 #[.val (.int p1), .val (.ref h0.size), .val (.int (5 : Int32)), .val (.int (0 : Int32)), .val (.ref w0)] [(.ref w0)])) rfl rfl (hb hby d1_21)
  refine ownStep st7 ?_
  show OwnGo _ _ _ _ _ _ _ (T7.setTop (mkF m 24 #[.val (.int p1), .val (.ref h0.size), .val (.int (5 : Int32)), .val (.int (0 : Int32)), .val (.ref w0)] [(.int (-1 : Int32))]))
  refine ownStep (fun _ k => XS.iloadN X7.here hx rfl (hb hby d1_24) rfl k) ?_
  show OwnGo _ _ _ _ _ _ _ (T7.setTop (mkF m 25 #[.val (.int p1), .val (.ref h0.size), .val (.int (5 : Int32)), .val (.int (0 : Int32)), .val (.ref w0)] [(.int p1), (.int (-1 : Int32))]))
  by_cases h0' : (-1 : Int32) = p1
  · skip
    refine ownStep (fun _ k => XS.icmpNo X7.here hx rfl (hb hby d1_25) rfl (teq h0').2 k) ?_
    show OwnGo _ _ _ _ _ _ _ (T7.setTop (mkF m 28 #[.val (.int p1), .val (.ref h0.size), .val (.int (5 : Int32)), .val (.int (0 : Int32)), .val (.ref w0)] []))
    refine ownStep (fun _ k => XS.aload X7.here hx rfl (hb hby d1_28) rfl rfl k) ?_
    show OwnGo _ _ _ _ _ _ _ (T7.setTop (mkF m 30 #[.val (.int p1), .val (.ref h0.size), .val (.int (5 : Int32)), .val (.int (0 : Int32)), .val (.ref w0)] [(.ref w0)]))
    have eq30 : T7.heap = T4.heap := e7
    exact ownRetA X7 hx (t := (.object "com/example/dectx/dectx/Isolation")) Bd.returns rfl rfl rfl (hb hby d1_30) (BodyLoose.notSynchronized Bd) (by decide) (by decide) (by rw [eq30]; exact ⟨(by rw [← hr, ← h0', if_neg (by decide), if_neg (by decide), if_neg (by decide), if_neg (by decide)]), N4, O4⟩)
  · skip
    refine ownStep (fun _ k => XS.icmpYes X7.here hx rfl (pc0 := 25) (pc' := 31) rfl (hb hby d1_25) rfl (feq h0').2 (by decide) (by decide) k) ?_
    show OwnGo _ _ _ _ _ _ _ (T7.setTop (mkF m 31 #[.val (.int p1), .val (.ref h0.size), .val (.int (5 : Int32)), .val (.int (0 : Int32)), .val (.ref w0)] []))
    refine ownStep (fun _ k => XS.iinc X7.here hx rfl (hb hby d1_31) rfl (l' := #[.val (.int p1), .val (.ref h0.size), .val (.int (5 : Int32)), .val (.int (1 : Int32)), .val (.ref w0)]) rfl k) ?_
    show OwnGo _ _ _ _ _ _ _ (T7.setTop (mkF m 34 #[.val (.int p1), .val (.ref h0.size), .val (.int (5 : Int32)), .val (.int (1 : Int32)), .val (.ref w0)] []))
    refine ownStep (fun _ k => XS.goto X7.here hx rfl (pc0 := 34) (pc' := 9) rfl (hb hby d1_34) (by decide) (by decide) k) ?_
    show OwnGo _ _ _ _ _ _ _ (T7.setTop (mkF m 9 #[.val (.int p1), .val (.ref h0.size), .val (.int (5 : Int32)), .val (.int (1 : Int32)), .val (.ref w0)] []))
    refine ownStep (fun _ k => XS.iloadN X7.here hx rfl (hb hby d1_9) rfl k) ?_
    show OwnGo _ _ _ _ _ _ _ (T7.setTop (mkF m 10 #[.val (.int p1), .val (.ref h0.size), .val (.int (5 : Int32)), .val (.int (1 : Int32)), .val (.ref w0)] [(.int (1 : Int32))]))
    refine ownStep (fun _ k => XS.iloadN X7.here hx rfl (hb hby d1_10) rfl k) ?_
    show OwnGo _ _ _ _ _ _ _ (T7.setTop (mkF m 11 #[.val (.int p1), .val (.ref h0.size), .val (.int (5 : Int32)), .val (.int (1 : Int32)), .val (.ref w0)] [(.int (5 : Int32)), (.int (1 : Int32))]))
    refine ownStep (fun _ k => XS.icmpNo X7.here hx rfl (hb hby d1_11) rfl (tlt (by decide : (1 : Int32) < (5 : Int32))).2.1 k) ?_
    show OwnGo _ _ _ _ _ _ _ (T7.setTop (mkF m 14 #[.val (.int p1), .val (.ref h0.size), .val (.int (5 : Int32)), .val (.int (1 : Int32)), .val (.ref w0)] []))
    refine ownStep (fun _ k => XS.aloadN X7.here hx rfl (hb hby d1_14) rfl rfl k) ?_
    show OwnGo _ _ _ _ _ _ _ (T7.setTop (mkF m 15 #[.val (.int p1), .val (.ref h0.size), .val (.int (5 : Int32)), .val (.int (1 : Int32)), .val (.ref w0)] [(.ref h0.size)]))
    refine ownStep (fun _ k => XS.iloadN X7.here hx rfl (hb hby d1_15) rfl k) ?_
    show OwnGo _ _ _ _ _ _ _ (T7.setTop (mkF m 16 #[.val (.int p1), .val (.ref h0.size), .val (.int (5 : Int32)), .val (.int (1 : Int32)), .val (.ref w0)] [(.int (1 : Int32)), (.ref h0.size)]))
    obtain ⟨cla8, Ara8, qa8, Sa8, Pa8, Ha8, Ga8⟩ := id V4
    have hina8 : ¬ ((1 : Int32) < 0 ∨ cla8.slots.size ≤ ((1 : Int32) : Int32).toNatClampNeg) := inb_of Sa8 ⟨by decide, by decide⟩
    refine ownStep (X7.aaload hx (j := (1 : Int32)) (v := (.ref w1)) (by rw [e7]; exact Ara8.1) (State.isArrayOf_alike hZ.alike Ara8.2.1) rfl Ara8.2.2 hina8 (Has.at Ha8 hina8 rfl) (g := (mkF m 16 #[.val (.int p1), .val (.ref h0.size), .val (.int (5 : Int32)), .val (.int (1 : Int32)), .val (.ref w0)] [(.int (1 : Int32)), (.ref h0.size)])) rfl rfl (hb hby d1_16)) ?_
    show OwnGo _ _ _ _ _ _ _ (T7.setTop (mkF m 17 #[.val (.int p1), .val (.ref h0.size), .val (.int (5 : Int32)), .val (.int (1 : Int32)), .val (.ref w0)] [(.ref w1)]))
    refine ownStep (fun _ k => XS.astore X7.here hx rfl (hb hby d1_17) rfl rfl (l' := #[.val (.int p1), .val (.ref h0.size), .val (.int (5 : Int32)), .val (.int (1 : Int32)), .val (.ref w1)]) rfl k) ?_
    show OwnGo _ _ _ _ _ _ _ (T7.setTop (mkF m 19 #[.val (.int p1), .val (.ref h0.size), .val (.int (5 : Int32)), .val (.int (1 : Int32)), .val (.ref w1)] []))
    refine ownStep (fun _ k => XS.aload X7.here hx rfl (hb hby d1_19) rfl rfl k) ?_
    show OwnGo _ _ _ _ _ _ _ (T7.setTop (mkF m 21 #[.val (.int p1), .val (.ref h0.size), .val (.int (5 : Int32)), .val (.int (1 : Int32)), .val (.ref w1)] [(.ref w1)]))
    obtain ⟨T9, X9, e9, st9⟩ := getF X7 hx hZ hown (host := "") (Or.inl (hw _ (List.mem_of_getElem? (i := 25) rfl))) Via.refl e7 (F1.ext O4.2) (g := (mkF m 21 #[.val (.int p1), .val (.ref h0.size), .val (.int (5 : Int32)), .val (.int (1 : Int32)), .val (.ref w1)] [(.ref w1)])) rfl rfl (hb hby d1_21)
    refine ownStep st9 ?_
    show OwnGo _ _ _ _ _ _ _ (T9.setTop (mkF m 24 #[.val (.int p1), .val (.ref h0.size), .val (.int (5 : Int32)), .val (.int (1 : Int32)), .val (.ref w1)] [(.int (1 : Int32))]))
    refine ownStep (fun _ k => XS.iloadN X9.here hx rfl (hb hby d1_24) rfl k) ?_
    show OwnGo _ _ _ _ _ _ _ (T9.setTop (mkF m 25 #[.val (.int p1), .val (.ref h0.size), .val (.int (5 : Int32)), .val (.int (1 : Int32)), .val (.ref w1)] [(.int p1), (.int (1 : Int32))]))
    by_cases h1' : (1 : Int32) = p1
    · skip
      refine ownStep (fun _ k => XS.icmpNo X9.here hx rfl (hb hby d1_25) rfl (teq h1').2 k) ?_
      show OwnGo _ _ _ _ _ _ _ (T9.setTop (mkF m 28 #[.val (.int p1), .val (.ref h0.size), .val (.int (5 : Int32)), .val (.int (1 : Int32)), .val (.ref w1)] []))
      refine ownStep (fun _ k => XS.aload X9.here hx rfl (hb hby d1_28) rfl rfl k) ?_
      show OwnGo _ _ _ _ _ _ _ (T9.setTop (mkF m 30 #[.val (.int p1), .val (.ref h0.size), .val (.int (5 : Int32)), .val (.int (1 : Int32)), .val (.ref w1)] [(.ref w1)]))
      have eq30 : T9.heap = T4.heap := e9
      exact ownRetA X9 hx (t := (.object "com/example/dectx/dectx/Isolation")) Bd.returns rfl rfl rfl (hb hby d1_30) (BodyLoose.notSynchronized Bd) (by decide) (by decide) (by rw [eq30]; exact ⟨(by rw [← hr, if_pos h1']), N4, O4⟩)
    · skip
      refine ownStep (fun _ k => XS.icmpYes X9.here hx rfl (pc0 := 25) (pc' := 31) rfl (hb hby d1_25) rfl (feq h1').2 (by decide) (by decide) k) ?_
      show OwnGo _ _ _ _ _ _ _ (T9.setTop (mkF m 31 #[.val (.int p1), .val (.ref h0.size), .val (.int (5 : Int32)), .val (.int (1 : Int32)), .val (.ref w1)] []))
      refine ownStep (fun _ k => XS.iinc X9.here hx rfl (hb hby d1_31) rfl (l' := #[.val (.int p1), .val (.ref h0.size), .val (.int (5 : Int32)), .val (.int (2 : Int32)), .val (.ref w1)]) rfl k) ?_
      show OwnGo _ _ _ _ _ _ _ (T9.setTop (mkF m 34 #[.val (.int p1), .val (.ref h0.size), .val (.int (5 : Int32)), .val (.int (2 : Int32)), .val (.ref w1)] []))
      refine ownStep (fun _ k => XS.goto X9.here hx rfl (pc0 := 34) (pc' := 9) rfl (hb hby d1_34) (by decide) (by decide) k) ?_
      show OwnGo _ _ _ _ _ _ _ (T9.setTop (mkF m 9 #[.val (.int p1), .val (.ref h0.size), .val (.int (5 : Int32)), .val (.int (2 : Int32)), .val (.ref w1)] []))
      refine ownStep (fun _ k => XS.iloadN X9.here hx rfl (hb hby d1_9) rfl k) ?_
      show OwnGo _ _ _ _ _ _ _ (T9.setTop (mkF m 10 #[.val (.int p1), .val (.ref h0.size), .val (.int (5 : Int32)), .val (.int (2 : Int32)), .val (.ref w1)] [(.int (2 : Int32))]))
      refine ownStep (fun _ k => XS.iloadN X9.here hx rfl (hb hby d1_10) rfl k) ?_
      show OwnGo _ _ _ _ _ _ _ (T9.setTop (mkF m 11 #[.val (.int p1), .val (.ref h0.size), .val (.int (5 : Int32)), .val (.int (2 : Int32)), .val (.ref w1)] [(.int (5 : Int32)), (.int (2 : Int32))]))
      refine ownStep (fun _ k => XS.icmpNo X9.here hx rfl (hb hby d1_11) rfl (tlt (by decide : (2 : Int32) < (5 : Int32))).2.1 k) ?_
      show OwnGo _ _ _ _ _ _ _ (T9.setTop (mkF m 14 #[.val (.int p1), .val (.ref h0.size), .val (.int (5 : Int32)), .val (.int (2 : Int32)), .val (.ref w1)] []))
      refine ownStep (fun _ k => XS.aloadN X9.here hx rfl (hb hby d1_14) rfl rfl k) ?_
      show OwnGo _ _ _ _ _ _ _ (T9.setTop (mkF m 15 #[.val (.int p1), .val (.ref h0.size), .val (.int (5 : Int32)), .val (.int (2 : Int32)), .val (.ref w1)] [(.ref h0.size)]))
      refine ownStep (fun _ k => XS.iloadN X9.here hx rfl (hb hby d1_15) rfl k) ?_
      show OwnGo _ _ _ _ _ _ _ (T9.setTop (mkF m 16 #[.val (.int p1), .val (.ref h0.size), .val (.int (5 : Int32)), .val (.int (2 : Int32)), .val (.ref w1)] [(.int (2 : Int32)), (.ref h0.size)]))
      obtain ⟨cla10, Ara10, qa10, Sa10, Pa10, Ha10, Ga10⟩ := id V4
      have hina10 : ¬ ((2 : Int32) < 0 ∨ cla10.slots.size ≤ ((2 : Int32) : Int32).toNatClampNeg) := inb_of Sa10 ⟨by decide, by decide⟩
      refine ownStep (X9.aaload hx (j := (2 : Int32)) (v := (.ref w2)) (by rw [e9]; exact Ara10.1) (State.isArrayOf_alike hZ.alike Ara10.2.1) rfl Ara10.2.2 hina10 (Has.at Ha10 hina10 rfl) (g := (mkF m 16 #[.val (.int p1), .val (.ref h0.size), .val (.int (5 : Int32)), .val (.int (2 : Int32)), .val (.ref w1)] [(.int (2 : Int32)), (.ref h0.size)])) rfl rfl (hb hby d1_16)) ?_
      show OwnGo _ _ _ _ _ _ _ (T9.setTop (mkF m 17 #[.val (.int p1), .val (.ref h0.size), .val (.int (5 : Int32)), .val (.int (2 : Int32)), .val (.ref w1)] [(.ref w2)]))
      refine ownStep (fun _ k => XS.astore X9.here hx rfl (hb hby d1_17) rfl rfl (l' := #[.val (.int p1), .val (.ref h0.size), .val (.int (5 : Int32)), .val (.int (2 : Int32)), .val (.ref w2)]) rfl k) ?_
      show OwnGo _ _ _ _ _ _ _ (T9.setTop (mkF m 19 #[.val (.int p1), .val (.ref h0.size), .val (.int (5 : Int32)), .val (.int (2 : Int32)), .val (.ref w2)] []))
      refine ownStep (fun _ k => XS.aload X9.here hx rfl (hb hby d1_19) rfl rfl k) ?_
      show OwnGo _ _ _ _ _ _ _ (T9.setTop (mkF m 21 #[.val (.int p1), .val (.ref h0.size), .val (.int (5 : Int32)), .val (.int (2 : Int32)), .val (.ref w2)] [(.ref w2)]))
      obtain ⟨T11, X11, e11, st11⟩ := getF X9 hx hZ hown (host := "") (Or.inl (hw _ (List.mem_of_getElem? (i := 25) rfl))) Via.refl e9 (F2.ext O4.2) (g := (mkF m 21 #[.val (.int p1), .val (.ref h0.size), .val (.int (5 : Int32)), .val (.int (2 : Int32)), .val (.ref w2)] [(.ref w2)])) rfl rfl (hb hby d1_21)
      refine ownStep st11 ?_
      show OwnGo _ _ _ _ _ _ _ (T11.setTop (mkF m 24 #[.val (.int p1), .val (.ref h0.size), .val (.int (5 : Int32)), .val (.int (2 : Int32)), .val (.ref w2)] [(.int (2 : Int32))]))
      refine ownStep (fun _ k => XS.iloadN X11.here hx rfl (hb hby d1_24) rfl k) ?_
      show OwnGo _ _ _ _ _ _ _ (T11.setTop (mkF m 25 #[.val (.int p1), .val (.ref h0.size), .val (.int (5 : Int32)), .val (.int (2 : Int32)), .val (.ref w2)] [(.int p1), (.int (2 : Int32))]))
      by_cases h2' : (2 : Int32) = p1
      · skip
        refine ownStep (fun _ k => XS.icmpNo X11.here hx rfl (hb hby d1_25) rfl (teq h2').2 k) ?_
        show OwnGo _ _ _ _ _ _ _ (T11.setTop (mkF m 28 #[.val (.int p1), .val (.ref h0.size), .val (.int (5 : Int32)), .val (.int (2 : Int32)), .val (.ref w2)] []))
        refine ownStep (fun _ k => XS.aload X11.here hx rfl (hb hby d1_28) rfl rfl k) ?_
        show OwnGo _ _ _ _ _ _ _ (T11.setTop (mkF m 30 #[.val (.int p1), .val (.ref h0.size), .val (.int (5 : Int32)), .val (.int (2 : Int32)), .val (.ref w2)] [(.ref w2)]))
        have eq30 : T11.heap = T4.heap := e11
        exact ownRetA X11 hx (t := (.object "com/example/dectx/dectx/Isolation")) Bd.returns rfl rfl rfl (hb hby d1_30) (BodyLoose.notSynchronized Bd) (by decide) (by decide) (by rw [eq30]; exact ⟨(by rw [← hr, if_neg h1', if_pos h2']), N4, O4⟩)
      · skip
        refine ownStep (fun _ k => XS.icmpYes X11.here hx rfl (pc0 := 25) (pc' := 31) rfl (hb hby d1_25) rfl (feq h2').2 (by decide) (by decide) k) ?_
        show OwnGo _ _ _ _ _ _ _ (T11.setTop (mkF m 31 #[.val (.int p1), .val (.ref h0.size), .val (.int (5 : Int32)), .val (.int (2 : Int32)), .val (.ref w2)] []))
        refine ownStep (fun _ k => XS.iinc X11.here hx rfl (hb hby d1_31) rfl (l' := #[.val (.int p1), .val (.ref h0.size), .val (.int (5 : Int32)), .val (.int (3 : Int32)), .val (.ref w2)]) rfl k) ?_
        show OwnGo _ _ _ _ _ _ _ (T11.setTop (mkF m 34 #[.val (.int p1), .val (.ref h0.size), .val (.int (5 : Int32)), .val (.int (3 : Int32)), .val (.ref w2)] []))
        refine ownStep (fun _ k => XS.goto X11.here hx rfl (pc0 := 34) (pc' := 9) rfl (hb hby d1_34) (by decide) (by decide) k) ?_
        show OwnGo _ _ _ _ _ _ _ (T11.setTop (mkF m 9 #[.val (.int p1), .val (.ref h0.size), .val (.int (5 : Int32)), .val (.int (3 : Int32)), .val (.ref w2)] []))
        refine ownStep (fun _ k => XS.iloadN X11.here hx rfl (hb hby d1_9) rfl k) ?_
        show OwnGo _ _ _ _ _ _ _ (T11.setTop (mkF m 10 #[.val (.int p1), .val (.ref h0.size), .val (.int (5 : Int32)), .val (.int (3 : Int32)), .val (.ref w2)] [(.int (3 : Int32))]))
        refine ownStep (fun _ k => XS.iloadN X11.here hx rfl (hb hby d1_10) rfl k) ?_
        show OwnGo _ _ _ _ _ _ _ (T11.setTop (mkF m 11 #[.val (.int p1), .val (.ref h0.size), .val (.int (5 : Int32)), .val (.int (3 : Int32)), .val (.ref w2)] [(.int (5 : Int32)), (.int (3 : Int32))]))
        refine ownStep (fun _ k => XS.icmpNo X11.here hx rfl (hb hby d1_11) rfl (tlt (by decide : (3 : Int32) < (5 : Int32))).2.1 k) ?_
        show OwnGo _ _ _ _ _ _ _ (T11.setTop (mkF m 14 #[.val (.int p1), .val (.ref h0.size), .val (.int (5 : Int32)), .val (.int (3 : Int32)), .val (.ref w2)] []))
        refine ownStep (fun _ k => XS.aloadN X11.here hx rfl (hb hby d1_14) rfl rfl k) ?_
        show OwnGo _ _ _ _ _ _ _ (T11.setTop (mkF m 15 #[.val (.int p1), .val (.ref h0.size), .val (.int (5 : Int32)), .val (.int (3 : Int32)), .val (.ref w2)] [(.ref h0.size)]))
        refine ownStep (fun _ k => XS.iloadN X11.here hx rfl (hb hby d1_15) rfl k) ?_
        show OwnGo _ _ _ _ _ _ _ (T11.setTop (mkF m 16 #[.val (.int p1), .val (.ref h0.size), .val (.int (5 : Int32)), .val (.int (3 : Int32)), .val (.ref w2)] [(.int (3 : Int32)), (.ref h0.size)]))
        obtain ⟨cla12, Ara12, qa12, Sa12, Pa12, Ha12, Ga12⟩ := id V4
        have hina12 : ¬ ((3 : Int32) < 0 ∨ cla12.slots.size ≤ ((3 : Int32) : Int32).toNatClampNeg) := inb_of Sa12 ⟨by decide, by decide⟩
        refine ownStep (X11.aaload hx (j := (3 : Int32)) (v := (.ref w3)) (by rw [e11]; exact Ara12.1) (State.isArrayOf_alike hZ.alike Ara12.2.1) rfl Ara12.2.2 hina12 (Has.at Ha12 hina12 rfl) (g := (mkF m 16 #[.val (.int p1), .val (.ref h0.size), .val (.int (5 : Int32)), .val (.int (3 : Int32)), .val (.ref w2)] [(.int (3 : Int32)), (.ref h0.size)])) rfl rfl (hb hby d1_16)) ?_
        show OwnGo _ _ _ _ _ _ _ (T11.setTop (mkF m 17 #[.val (.int p1), .val (.ref h0.size), .val (.int (5 : Int32)), .val (.int (3 : Int32)), .val (.ref w2)] [(.ref w3)]))
        refine ownStep (fun _ k => XS.astore X11.here hx rfl (hb hby d1_17) rfl rfl (l' := #[.val (.int p1), .val (.ref h0.size), .val (.int (5 : Int32)), .val (.int (3 : Int32)), .val (.ref w3)]) rfl k) ?_
        show OwnGo _ _ _ _ _ _ _ (T11.setTop (mkF m 19 #[.val (.int p1), .val (.ref h0.size), .val (.int (5 : Int32)), .val (.int (3 : Int32)), .val (.ref w3)] []))
        refine ownStep (fun _ k => XS.aload X11.here hx rfl (hb hby d1_19) rfl rfl k) ?_
        show OwnGo _ _ _ _ _ _ _ (T11.setTop (mkF m 21 #[.val (.int p1), .val (.ref h0.size), .val (.int (5 : Int32)), .val (.int (3 : Int32)), .val (.ref w3)] [(.ref w3)]))
        obtain ⟨T13, X13, e13, st13⟩ := getF X11 hx hZ hown (host := "") (Or.inl (hw _ (List.mem_of_getElem? (i := 25) rfl))) Via.refl e11 (F3.ext O4.2) (g := (mkF m 21 #[.val (.int p1), .val (.ref h0.size), .val (.int (5 : Int32)), .val (.int (3 : Int32)), .val (.ref w3)] [(.ref w3)])) rfl rfl (hb hby d1_21)
        refine ownStep st13 ?_
        show OwnGo _ _ _ _ _ _ _ (T13.setTop (mkF m 24 #[.val (.int p1), .val (.ref h0.size), .val (.int (5 : Int32)), .val (.int (3 : Int32)), .val (.ref w3)] [(.int (4 : Int32))]))
        refine ownStep (fun _ k => XS.iloadN X13.here hx rfl (hb hby d1_24) rfl k) ?_
        show OwnGo _ _ _ _ _ _ _ (T13.setTop (mkF m 25 #[.val (.int p1), .val (.ref h0.size), .val (.int (5 : Int32)), .val (.int (3 : Int32)), .val (.ref w3)] [(.int p1), (.int (4 : Int32))]))
        by_cases h3' : (4 : Int32) = p1
        · skip
          refine ownStep (fun _ k => XS.icmpNo X13.here hx rfl (hb hby d1_25) rfl (teq h3').2 k) ?_
          show OwnGo _ _ _ _ _ _ _ (T13.setTop (mkF m 28 #[.val (.int p1), .val (.ref h0.size), .val (.int (5 : Int32)), .val (.int (3 : Int32)), .val (.ref w3)] []))
          refine ownStep (fun _ k => XS.aload X13.here hx rfl (hb hby d1_28) rfl rfl k) ?_
          show OwnGo _ _ _ _ _ _ _ (T13.setTop (mkF m 30 #[.val (.int p1), .val (.ref h0.size), .val (.int (5 : Int32)), .val (.int (3 : Int32)), .val (.ref w3)] [(.ref w3)]))
          have eq30 : T13.heap = T4.heap := e13
          exact ownRetA X13 hx (t := (.object "com/example/dectx/dectx/Isolation")) Bd.returns rfl rfl rfl (hb hby d1_30) (BodyLoose.notSynchronized Bd) (by decide) (by decide) (by rw [eq30]; exact ⟨(by rw [← hr, if_neg h1', if_neg h2', if_pos h3']), N4, O4⟩)
        · skip
          refine ownStep (fun _ k => XS.icmpYes X13.here hx rfl (pc0 := 25) (pc' := 31) rfl (hb hby d1_25) rfl (feq h3').2 (by decide) (by decide) k) ?_
          show OwnGo _ _ _ _ _ _ _ (T13.setTop (mkF m 31 #[.val (.int p1), .val (.ref h0.size), .val (.int (5 : Int32)), .val (.int (3 : Int32)), .val (.ref w3)] []))
          refine ownStep (fun _ k => XS.iinc X13.here hx rfl (hb hby d1_31) rfl (l' := #[.val (.int p1), .val (.ref h0.size), .val (.int (5 : Int32)), .val (.int (4 : Int32)), .val (.ref w3)]) rfl k) ?_
          show OwnGo _ _ _ _ _ _ _ (T13.setTop (mkF m 34 #[.val (.int p1), .val (.ref h0.size), .val (.int (5 : Int32)), .val (.int (4 : Int32)), .val (.ref w3)] []))
          refine ownStep (fun _ k => XS.goto X13.here hx rfl (pc0 := 34) (pc' := 9) rfl (hb hby d1_34) (by decide) (by decide) k) ?_
          show OwnGo _ _ _ _ _ _ _ (T13.setTop (mkF m 9 #[.val (.int p1), .val (.ref h0.size), .val (.int (5 : Int32)), .val (.int (4 : Int32)), .val (.ref w3)] []))
          refine ownStep (fun _ k => XS.iloadN X13.here hx rfl (hb hby d1_9) rfl k) ?_
          show OwnGo _ _ _ _ _ _ _ (T13.setTop (mkF m 10 #[.val (.int p1), .val (.ref h0.size), .val (.int (5 : Int32)), .val (.int (4 : Int32)), .val (.ref w3)] [(.int (4 : Int32))]))
          refine ownStep (fun _ k => XS.iloadN X13.here hx rfl (hb hby d1_10) rfl k) ?_
          show OwnGo _ _ _ _ _ _ _ (T13.setTop (mkF m 11 #[.val (.int p1), .val (.ref h0.size), .val (.int (5 : Int32)), .val (.int (4 : Int32)), .val (.ref w3)] [(.int (5 : Int32)), (.int (4 : Int32))]))
          refine ownStep (fun _ k => XS.icmpNo X13.here hx rfl (hb hby d1_11) rfl (tlt (by decide : (4 : Int32) < (5 : Int32))).2.1 k) ?_
          show OwnGo _ _ _ _ _ _ _ (T13.setTop (mkF m 14 #[.val (.int p1), .val (.ref h0.size), .val (.int (5 : Int32)), .val (.int (4 : Int32)), .val (.ref w3)] []))
          refine ownStep (fun _ k => XS.aloadN X13.here hx rfl (hb hby d1_14) rfl rfl k) ?_
          show OwnGo _ _ _ _ _ _ _ (T13.setTop (mkF m 15 #[.val (.int p1), .val (.ref h0.size), .val (.int (5 : Int32)), .val (.int (4 : Int32)), .val (.ref w3)] [(.ref h0.size)]))
          refine ownStep (fun _ k => XS.iloadN X13.here hx rfl (hb hby d1_15) rfl k) ?_
          show OwnGo _ _ _ _ _ _ _ (T13.setTop (mkF m 16 #[.val (.int p1), .val (.ref h0.size), .val (.int (5 : Int32)), .val (.int (4 : Int32)), .val (.ref w3)] [(.int (4 : Int32)), (.ref h0.size)]))
          obtain ⟨cla14, Ara14, qa14, Sa14, Pa14, Ha14, Ga14⟩ := id V4
          have hina14 : ¬ ((4 : Int32) < 0 ∨ cla14.slots.size ≤ ((4 : Int32) : Int32).toNatClampNeg) := inb_of Sa14 ⟨by decide, by decide⟩
          refine ownStep (X13.aaload hx (j := (4 : Int32)) (v := (.ref w4)) (by rw [e13]; exact Ara14.1) (State.isArrayOf_alike hZ.alike Ara14.2.1) rfl Ara14.2.2 hina14 (Has.at Ha14 hina14 rfl) (g := (mkF m 16 #[.val (.int p1), .val (.ref h0.size), .val (.int (5 : Int32)), .val (.int (4 : Int32)), .val (.ref w3)] [(.int (4 : Int32)), (.ref h0.size)])) rfl rfl (hb hby d1_16)) ?_
          show OwnGo _ _ _ _ _ _ _ (T13.setTop (mkF m 17 #[.val (.int p1), .val (.ref h0.size), .val (.int (5 : Int32)), .val (.int (4 : Int32)), .val (.ref w3)] [(.ref w4)]))
          refine ownStep (fun _ k => XS.astore X13.here hx rfl (hb hby d1_17) rfl rfl (l' := #[.val (.int p1), .val (.ref h0.size), .val (.int (5 : Int32)), .val (.int (4 : Int32)), .val (.ref w4)]) rfl k) ?_
          show OwnGo _ _ _ _ _ _ _ (T13.setTop (mkF m 19 #[.val (.int p1), .val (.ref h0.size), .val (.int (5 : Int32)), .val (.int (4 : Int32)), .val (.ref w4)] []))
          refine ownStep (fun _ k => XS.aload X13.here hx rfl (hb hby d1_19) rfl rfl k) ?_
          show OwnGo _ _ _ _ _ _ _ (T13.setTop (mkF m 21 #[.val (.int p1), .val (.ref h0.size), .val (.int (5 : Int32)), .val (.int (4 : Int32)), .val (.ref w4)] [(.ref w4)]))
          obtain ⟨T15, X15, e15, st15⟩ := getF X13 hx hZ hown (host := "") (Or.inl (hw _ (List.mem_of_getElem? (i := 25) rfl))) Via.refl e13 (F4.ext O4.2) (g := (mkF m 21 #[.val (.int p1), .val (.ref h0.size), .val (.int (5 : Int32)), .val (.int (4 : Int32)), .val (.ref w4)] [(.ref w4)])) rfl rfl (hb hby d1_21)
          refine ownStep st15 ?_
          show OwnGo _ _ _ _ _ _ _ (T15.setTop (mkF m 24 #[.val (.int p1), .val (.ref h0.size), .val (.int (5 : Int32)), .val (.int (4 : Int32)), .val (.ref w4)] [(.int (8 : Int32))]))
          refine ownStep (fun _ k => XS.iloadN X15.here hx rfl (hb hby d1_24) rfl k) ?_
          show OwnGo _ _ _ _ _ _ _ (T15.setTop (mkF m 25 #[.val (.int p1), .val (.ref h0.size), .val (.int (5 : Int32)), .val (.int (4 : Int32)), .val (.ref w4)] [(.int p1), (.int (8 : Int32))]))
          by_cases h4' : (8 : Int32) = p1
          · skip
            refine ownStep (fun _ k => XS.icmpNo X15.here hx rfl (hb hby d1_25) rfl (teq h4').2 k) ?_
            show OwnGo _ _ _ _ _ _ _ (T15.setTop (mkF m 28 #[.val (.int p1), .val (.ref h0.size), .val (.int (5 : Int32)), .val (.int (4 : Int32)), .val (.ref w4)] []))
            refine ownStep (fun _ k => XS.aload X15.here hx rfl (hb hby d1_28) rfl rfl k) ?_
            show OwnGo _ _ _ _ _ _ _ (T15.setTop (mkF m 30 #[.val (.int p1), .val (.ref h0.size), .val (.int (5 : Int32)), .val (.int (4 : Int32)), .val (.ref w4)] [(.ref w4)]))
            have eq30 : T15.heap = T4.heap := e15
            exact ownRetA X15 hx (t := (.object "com/example/dectx/dectx/Isolation")) Bd.returns rfl rfl rfl (hb hby d1_30) (BodyLoose.notSynchronized Bd) (by decide) (by decide) (by rw [eq30]; exact ⟨(by rw [← hr, if_neg h1', if_neg h2', if_neg h3', if_pos h4']), N4, O4⟩)
          · skip
            refine ownStep (fun _ k => XS.icmpYes X15.here hx rfl (pc0 := 25) (pc' := 31) rfl (hb hby d1_25) rfl (feq h4').2 (by decide) (by decide) k) ?_
            show OwnGo _ _ _ _ _ _ _ (T15.setTop (mkF m 31 #[.val (.int p1), .val (.ref h0.size), .val (.int (5 : Int32)), .val (.int (4 : Int32)), .val (.ref w4)] []))
            refine ownStep (fun _ k => XS.iinc X15.here hx rfl (hb hby d1_31) rfl (l' := #[.val (.int p1), .val (.ref h0.size), .val (.int (5 : Int32)), .val (.int (5 : Int32)), .val (.ref w4)]) rfl k) ?_
            show OwnGo _ _ _ _ _ _ _ (T15.setTop (mkF m 34 #[.val (.int p1), .val (.ref h0.size), .val (.int (5 : Int32)), .val (.int (5 : Int32)), .val (.ref w4)] []))
            refine ownStep (fun _ k => XS.goto X15.here hx rfl (pc0 := 34) (pc' := 9) rfl (hb hby d1_34) (by decide) (by decide) k) ?_
            show OwnGo _ _ _ _ _ _ _ (T15.setTop (mkF m 9 #[.val (.int p1), .val (.ref h0.size), .val (.int (5 : Int32)), .val (.int (5 : Int32)), .val (.ref w4)] []))
            refine ownStep (fun _ k => XS.iloadN X15.here hx rfl (hb hby d1_9) rfl k) ?_
            show OwnGo _ _ _ _ _ _ _ (T15.setTop (mkF m 10 #[.val (.int p1), .val (.ref h0.size), .val (.int (5 : Int32)), .val (.int (5 : Int32)), .val (.ref w4)] [(.int (5 : Int32))]))
            refine ownStep (fun _ k => XS.iloadN X15.here hx rfl (hb hby d1_10) rfl k) ?_
            show OwnGo _ _ _ _ _ _ _ (T15.setTop (mkF m 11 #[.val (.int p1), .val (.ref h0.size), .val (.int (5 : Int32)), .val (.int (5 : Int32)), .val (.ref w4)] [(.int (5 : Int32)), (.int (5 : Int32))]))
            refine ownStep (fun _ k => XS.icmpYes X15.here hx rfl (pc0 := 11) (pc' := 37) rfl (hb hby d1_11) rfl (flt (by decide : ¬ ((5 : Int32) < (5 : Int32)))).2.1 (by decide) (by decide) k) ?_
            show OwnGo _ _ _ _ _ _ _ (T15.setTop (mkF m 37 #[.val (.int p1), .val (.ref h0.size), .val (.int (5 : Int32)), .val (.int (5 : Int32)), .val (.ref w4)] []))
            obtain ⟨T16, X16, e16, st16⟩ := getS2 X15 hx hZ hown (host := "") (Or.inl (hw _ (List.mem_of_getElem? (i := 27) rfl))) Via.refl e15 (S0.ext O4.2) (g := (mkF m 37 #[.val (.int p1), .val (.ref h0.size), .val (.int (5 : Int32)), .val (.int (5 : Int32)), .val (.ref w4)] [])) rfl (hb hby d1_37)
            refine ownStep st16 ?_
            show OwnGo _ _ _ _ _ _ _ (T16.setTop (mkF m 40 #[.val (.int p1), .val (.ref h0.size), .val (.int (5 : Int32)), .val (.int (5 : Int32)), .val (.ref w4)] [(.ref w0)]))
            have eq40 : T16.heap = T4.heap := e16
            exact ownRetA X16 hx (t := (.object "com/example/dectx/dectx/Isolation")) Bd.returns rfl rfl rfl (hb hby d1_40) (BodyLoose.notSynchronized Bd) (by decide) (by decide) (by rw [eq40]; exact ⟨(by rw [← hr, if_neg h1', if_neg h2', if_neg h3', if_neg h4']), N4, O4⟩)
def Q0 (Z : State) (p0 : Int32) (p1 : Int32) (wV : Addr) (kV : ClassId) (w0 : Addr) (w1 : Addr) (w2 : Addr) (w3 : Addr) (w4 : Addr) (h0 : Heap) (n0 : Nat) (v : Option Value) (h : Heap) (L : List Loc) : Prop := v = some (.int 1) ∧ Fr n0 L
theorem own_pn_rm0 : plainName "com/example/dectx/dectx/IsolationOfJdbcLevelPinLaw" = true := by first | (simp [plainName, overriddenIn]; done) | decide +kernel
theorem own_ef_rm0 (m : MethodId) (x0 : Int32) (x1 : Int32) : entryFrame m #[(.int x0), (.int x1)] maxLocals = mkF m 0 #[.val (.int x0), .val (.int x1), .unset, .unset, .unset] [] := by first | (simp [entryFrame, mkF, argsToLocals, Value.category, maxLocals]; done) | rfl
set_option maxRecDepth 65536 in
set_option maxHeartbeats 40000000 in
theorem rm0 (l : Launch) (Z : State) (a0 : Array Value) (hw : ∀ d ∈ tables_1, d.before a0 Z = true) (ws : List Jvm.Cond) (p0 : Int32) (p1 : Int32) (wV : Addr) (kV : ClassId) (w0 : Addr) (w1 : Addr) (w2 : Addr) (w3 : Addr) (w4 : Addr) (h0 : Heap) (n0 : Nat) (O0 : Old Z n0 h0) (SV : Sta Z Z.heap "com/example/dectx/dectx/Isolation" "$VALUES" "[Lcom/example/dectx/dectx/Isolation;" (.ref wV)) (VV : Arv Z Z.heap wV kV (.object "com/example/dectx/dectx/Isolation") (5 : Int32) [(.ref w0), (.ref w1), (.ref w2), (.ref w3), (.ref w4)] .null) (EV : Exa Z Z.heap wV "[Lcom/example/dectx/dectx/Isolation;") (S0 : Sta Z Z.heap "com/example/dectx/dectx/Isolation" "DEFAULT" "Lcom/example/dectx/dectx/Isolation;" (.ref w0)) (S1 : Sta Z Z.heap "com/example/dectx/dectx/Isolation" "READ_UNCOMMITTED" "Lcom/example/dectx/dectx/Isolation;" (.ref w1)) (S2 : Sta Z Z.heap "com/example/dectx/dectx/Isolation" "READ_COMMITTED" "Lcom/example/dectx/dectx/Isolation;" (.ref w2)) (S3 : Sta Z Z.heap "com/example/dectx/dectx/Isolation" "REPEATABLE_READ" "Lcom/example/dectx/dectx/Isolation;" (.ref w3)) (S4 : Sta Z Z.heap "com/example/dectx/dectx/Isolation" "SERIALIZABLE" "Lcom/example/dectx/dectx/Isolation;" (.ref w4)) (F0 : Fld Z Z.heap w0 "com/example/dectx/dectx/Isolation" "jdbcLevel" "I" (.int (-1 : Int32))) (F1 : Fld Z Z.heap w1 "com/example/dectx/dectx/Isolation" "jdbcLevel" "I" (.int (1 : Int32))) (F2 : Fld Z Z.heap w2 "com/example/dectx/dectx/Isolation" "jdbcLevel" "I" (.int (2 : Int32))) (F3 : Fld Z Z.heap w3 "com/example/dectx/dectx/Isolation" "jdbcLevel" "I" (.int (4 : Int32))) (F4 : Fld Z Z.heap w4 "com/example/dectx/dectx/Isolation" "jdbcLevel" "I" (.int (8 : Int32))) :
    MetFree l x (head1 (Jvm.Cond.code x code maxLocals ret :: ws) room_1) (fun a U => a = #[(.int p0), (.int p1)] ∧ Z.Warmed39 U.vm ∧ U.heap = h0) (fun _ _ _ _ _ => True) (fun _ U o U' => ∃ v L, o = .returned v ∧ Q0 Z p0 p1 wV kV w0 w1 w2 w3 w4 h0 n0 v U'.heap L ∧ FrameEnd U o U' L room_1.cells room_1.slots) := by
  refine MetFree.of_bodySF (plainFor_of_name own_pn_rm0) hisR ?_
  intro p e s m args below meth c s₁ Bd hml0 hP hK
  obtain ⟨rfl, hZ, hh⟩ := hP
  have hx := Bd.exec
  have hby := Bd.bytes
  have hml : c.maxLocals = 5 := hml0
  have hown : s.vm.findClass "com/example/dectx/dectx/IsolationOfJdbcLevelPinLaw" = some m.cls := findClass_of_methodNamed Bd.named
  have hnm := (name_of_methodNamed Bd.named Bd.method).1
  have X0 : Stand p l e room_1 s m #[(.int p0), (.int p1)] below meth c s₁ [] 0 0 := Stand.of_body Bd
  have e0 : s₁.heap = h0 := by rw [← hh, Bd.state]; rfl
  have N0 := Fr.nil n0
  show OwnGo p e below s (Q0 Z p0 p1 wV kV w0 w1 w2 w3 w4 h0 n0) room_1.cells room_1.slots (s₁.setTop (entryFrame m #[(.int p0), (.int p1)] maxLocals))
  refine ownStep (fun _ k => castTop (own_ef_rm0 m p0 p1) k) ?_
  show OwnGo _ _ _ _ _ _ _ (s₁.setTop (mkF m 0 #[.val (.int p0), .val (.int p1), .unset, .unset, .unset] []))
  have J : ∀ q2 : Int32, OwnGo p e below s (Q0 Z p0 p1 wV kV w0 w1 w2 w3 w4 h0 n0) room_1.cells room_1.slots (s₁.setTop (mkF m 17 #[.val (.int p0), .val (.int p1), .val (.int q2), .unset, .unset] [])) := by
    intro q2
    show OwnGo _ _ _ _ _ _ _ (s₁.setTop (mkF m 17 #[.val (.int p0), .val (.int p1), .val (.int q2), .unset, .unset] []))
    refine ownStep (fun _ k => XS.iloadN X0.here hx rfl (hb hby at_17) rfl k) ?_
    show OwnGo _ _ _ _ _ _ _ (s₁.setTop (mkF m 18 #[.val (.int p0), .val (.int p1), .val (.int q2), .unset, .unset] [(.int q2)]))
    refine ownStep (fun _ k => XS.iconst X0.here hx rfl (hb hby at_18) k) ?_
    show OwnGo _ _ _ _ _ _ _ (s₁.setTop (mkF m 19 #[.val (.int p0), .val (.int p1), .val (.int q2), .unset, .unset] [(.int (1 : Int32)), (.int q2)]))
    by_cases t1 : q2 = (1 : Int32)
    · skip
      refine ownStep (fun _ k => XS.icmpNo X0.here hx rfl (hb hby at_19) rfl (teq t1).2 k) ?_
      show OwnGo _ _ _ _ _ _ _ (s₁.setTop (mkF m 22 #[.val (.int p0), .val (.int p1), .val (.int q2), .unset, .unset] []))
      obtain ⟨T17, X17, e17, st17⟩ := getS2 X0 hx hZ hown (host := "") (Or.inl (hw _ (List.mem_of_getElem? (i := 28) rfl))) Via.refl e0 (S1.ext O0.2) (g := (mkF m 22 #[.val (.int p0), .val (.int p1), .val (.int q2), .unset, .unset] [])) rfl (hb hby at_22)
      refine ownStep st17 ?_
      show OwnGo _ _ _ _ _ _ _ (T17.setTop (mkF m 25 #[.val (.int p0), .val (.int p1), .val (.int q2), .unset, .unset] [(.ref w1)]))
      refine ownStep (fun _ k => XS.astoreN X17.here hx rfl (hb hby at_25) rfl rfl (l' := #[.val (.int p0), .val (.int p1), .val (.int q2), .val (.ref w1), .unset]) rfl k) ?_
      show OwnGo _ _ _ _ _ _ _ (T17.setTop (mkF m 26 #[.val (.int p0), .val (.int p1), .val (.int q2), .val (.ref w1), .unset] []))
      refine ownStep (fun _ k => XS.goto X17.here hx rfl (pc0 := 26) (pc' := 70) rfl (hb hby at_26) (by decide) (by decide) k) ?_
      show OwnGo _ _ _ _ _ _ _ (T17.setTop (mkF m 70 #[.val (.int p0), .val (.int p1), .val (.int q2), .val (.ref w1), .unset] []))
      refine ownStep (fun _ k => XS.iloadN X17.here hx rfl (hb hby at_70) rfl k) ?_
      show OwnGo _ _ _ _ _ _ _ (T17.setTop (mkF m 71 #[.val (.int p0), .val (.int p1), .val (.int q2), .val (.ref w1), .unset] [(.int q2)]))
      obtain ⟨_, _, ⟨T18, L18, k18, n18⟩, -, X18, ⟨Lc18, hQ18, l18, y18, z18⟩, st18⟩ := Jvm.LawKit.callS X17 hx (y := (⟨"com/example/dectx/dectx/Isolation", "ofJdbcLevel", "(I)Lcom/example/dectx/dectx/Isolation;"⟩ : MethodName)) hown (mvT hZ (hw _ (List.mem_of_getElem? (i := 3) rfl))) (mvT hZ (hw _ (List.mem_of_getElem? (i := 4) rfl))) (mvT hZ (hw _ (List.mem_of_getElem? (i := 1) rfl))) (mvT hZ (hw _ (List.mem_of_getElem? (i := 5) rfl))) (by decide) (backOf (W := 0) (rmO l Z a0 hw [] q2 wV kV w0 w1 w2 w3 w4 w1 h0 n0 O0 SV VV EV S0 F0 F1 F2 F3 F4 (by rw [if_pos t1.symm])) hZ (hw _ (List.mem_of_getElem? (i := 5) rfl)) (hw _ (List.mem_of_getElem? (i := 1) rfl)) (by decide) (by decide)) (g := (mkF m 71 #[.val (.int p0), .val (.int p1), .val (.int q2), .val (.ref w1), .unset] [(.int q2)])) rfl (by rw [hml]; rfl) (argsL := [(.int q2)]) (rest := []) (lenOf own_pd1 rfl) rfl (by show 2 * 0 + _ ≤ _; exact Nat.le_of_eq rfl) (hb hby at_71) (fun _ _ => ⟨rfl, e17, (by decide : 0 + 1 ≤ _), (by decide : 0 + 5 ≤ _)⟩)
      dsimp only [Pt.U, Pt.locs, Pt.cells, Pt.slots] at X18 l18 y18 z18 st18 hQ18
      subst l18 y18 z18
      obtain ⟨rfl, N18q, O18⟩ := hQ18
      have N18 := Fr.app N0 N18q
      refine ownStep st18 ?_
      show OwnGo _ _ _ _ _ _ _ (T18.setTop (mkF m 74 #[.val (.int p0), .val (.int p1), .val (.int q2), .val (.ref w1), .unset] [(.ref w1)]))
      refine ownStep (fun _ k => XS.astore X18.here hx rfl (hb hby at_74) rfl rfl (l' := #[.val (.int p0), .val (.int p1), .val (.int q2), .val (.ref w1), .val (.ref w1)]) rfl k) ?_
      show OwnGo _ _ _ _ _ _ _ (T18.setTop (mkF m 76 #[.val (.int p0), .val (.int p1), .val (.int q2), .val (.ref w1), .val (.ref w1)] []))
      refine ownStep (fun _ k => XS.aload X18.here hx rfl (hb hby at_76) rfl rfl k) ?_
      show OwnGo _ _ _ _ _ _ _ (T18.setTop (mkF m 78 #[.val (.int p0), .val (.int p1), .val (.int q2), .val (.ref w1), .val (.ref w1)] [(.ref w1)]))
      refine ownStep (fun _ k => XS.aloadN X18.here hx rfl (hb hby at_78) rfl rfl k) ?_
      show OwnGo _ _ _ _ _ _ _ (T18.setTop (mkF m 79 #[.val (.int p0), .val (.int p1), .val (.int q2), .val (.ref w1), .val (.ref w1)] [(.ref w1), (.ref w1)]))
      refine ownStep (fun _ k => Jvm.RoadKit.acmp (g := (mkF m 79 #[.val (.int p0), .val (.int p1), .val (.int q2), .val (.ref w1), .val (.ref w1)] [(.ref w1), (.ref w1)])) X18 hx rfl rfl rfl (pc0 := 79) (pc' := 82) (same := true) rfl (hb hby at_79) rfl (decide_eq_true rfl) (by decide) (by decide) k) ?_
      show OwnGo _ _ _ _ _ _ _ (T18.setTop (mkF m 82 #[.val (.int p0), .val (.int p1), .val (.int q2), .val (.ref w1), .val (.ref w1)] []))
      refine ownStep (fun _ k => XS.iconst X18.here hx rfl (hb hby at_82) k) ?_
      show OwnGo _ _ _ _ _ _ _ (T18.setTop (mkF m 83 #[.val (.int p0), .val (.int p1), .val (.int q2), .val (.ref w1), .val (.ref w1)] [(.int (1 : Int32))]))
      refine ownStep (fun _ k => XS.goto X18.here hx rfl (pc0 := 83) (pc' := 87) rfl (hb hby at_83) (by decide) (by decide) k) ?_
      show OwnGo _ _ _ _ _ _ _ (T18.setTop (mkF m 87 #[.val (.int p0), .val (.int p1), .val (.int q2), .val (.ref w1), .val (.ref w1)] [(.int (1 : Int32))]))
      have eq87 : T18.heap = T18.heap := (rfl : T18.heap = _)
      exact ownRetN X18 hx (t := .boolean) Bd.returns (by simp) (hb hby at_87) (BodyLoose.notSynchronized Bd) (by decide) (by decide) (by rw [eq87]; exact ⟨rfl, N18⟩)
    · skip
      refine ownStep (fun _ k => XS.icmpYes X0.here hx rfl (pc0 := 19) (pc' := 29) rfl (hb hby at_19) rfl (feq t1).2 (by decide) (by decide) k) ?_
      show OwnGo _ _ _ _ _ _ _ (s₁.setTop (mkF m 29 #[.val (.int p0), .val (.int p1), .val (.int q2), .unset, .unset] []))
      refine ownStep (fun _ k => XS.iloadN X0.here hx rfl (hb hby at_29) rfl k) ?_
      show OwnGo _ _ _ _ _ _ _ (s₁.setTop (mkF m 30 #[.val (.int p0), .val (.int p1), .val (.int q2), .unset, .unset] [(.int q2)]))
      refine ownStep (fun _ k => XS.iconst X0.here hx rfl (hb hby at_30) k) ?_
      show OwnGo _ _ _ _ _ _ _ (s₁.setTop (mkF m 31 #[.val (.int p0), .val (.int p1), .val (.int q2), .unset, .unset] [(.int (2 : Int32)), (.int q2)]))
      by_cases t2 : q2 = (2 : Int32)
      · skip
        refine ownStep (fun _ k => XS.icmpNo X0.here hx rfl (hb hby at_31) rfl (teq t2).2 k) ?_
        show OwnGo _ _ _ _ _ _ _ (s₁.setTop (mkF m 34 #[.val (.int p0), .val (.int p1), .val (.int q2), .unset, .unset] []))
        obtain ⟨T19, X19, e19, st19⟩ := getS2 X0 hx hZ hown (host := "") (Or.inl (hw _ (List.mem_of_getElem? (i := 30) rfl))) Via.refl e0 (S2.ext O0.2) (g := (mkF m 34 #[.val (.int p0), .val (.int p1), .val (.int q2), .unset, .unset] [])) rfl (hb hby at_34)
        refine ownStep st19 ?_
        show OwnGo _ _ _ _ _ _ _ (T19.setTop (mkF m 37 #[.val (.int p0), .val (.int p1), .val (.int q2), .unset, .unset] [(.ref w2)]))
        refine ownStep (fun _ k => XS.astoreN X19.here hx rfl (hb hby at_37) rfl rfl (l' := #[.val (.int p0), .val (.int p1), .val (.int q2), .val (.ref w2), .unset]) rfl k) ?_
        show OwnGo _ _ _ _ _ _ _ (T19.setTop (mkF m 38 #[.val (.int p0), .val (.int p1), .val (.int q2), .val (.ref w2), .unset] []))
        refine ownStep (fun _ k => XS.goto X19.here hx rfl (pc0 := 38) (pc' := 70) rfl (hb hby at_38) (by decide) (by decide) k) ?_
        show OwnGo _ _ _ _ _ _ _ (T19.setTop (mkF m 70 #[.val (.int p0), .val (.int p1), .val (.int q2), .val (.ref w2), .unset] []))
        refine ownStep (fun _ k => XS.iloadN X19.here hx rfl (hb hby at_70) rfl k) ?_
        show OwnGo _ _ _ _ _ _ _ (T19.setTop (mkF m 71 #[.val (.int p0), .val (.int p1), .val (.int q2), .val (.ref w2), .unset] [(.int q2)]))
        obtain ⟨_, _, ⟨T20, L20, k20, n20⟩, -, X20, ⟨Lc20, hQ20, l20, y20, z20⟩, st20⟩ := Jvm.LawKit.callS X19 hx (y := (⟨"com/example/dectx/dectx/Isolation", "ofJdbcLevel", "(I)Lcom/example/dectx/dectx/Isolation;"⟩ : MethodName)) hown (mvT hZ (hw _ (List.mem_of_getElem? (i := 3) rfl))) (mvT hZ (hw _ (List.mem_of_getElem? (i := 4) rfl))) (mvT hZ (hw _ (List.mem_of_getElem? (i := 1) rfl))) (mvT hZ (hw _ (List.mem_of_getElem? (i := 5) rfl))) (by decide) (backOf (W := 0) (rmO l Z a0 hw [] q2 wV kV w0 w1 w2 w3 w4 w2 h0 n0 O0 SV VV EV S0 F0 F1 F2 F3 F4 (by rw [if_neg (fun q => t1 q.symm), if_pos t2.symm])) hZ (hw _ (List.mem_of_getElem? (i := 5) rfl)) (hw _ (List.mem_of_getElem? (i := 1) rfl)) (by decide) (by decide)) (g := (mkF m 71 #[.val (.int p0), .val (.int p1), .val (.int q2), .val (.ref w2), .unset] [(.int q2)])) rfl (by rw [hml]; rfl) (argsL := [(.int q2)]) (rest := []) (lenOf own_pd1 rfl) rfl (by show 2 * 0 + _ ≤ _; exact Nat.le_of_eq rfl) (hb hby at_71) (fun _ _ => ⟨rfl, e19, (by decide : 0 + 1 ≤ _), (by decide : 0 + 5 ≤ _)⟩)
        dsimp only [Pt.U, Pt.locs, Pt.cells, Pt.slots] at X20 l20 y20 z20 st20 hQ20
        subst l20 y20 z20
        obtain ⟨rfl, N20q, O20⟩ := hQ20
        have N20 := Fr.app N0 N20q
        refine ownStep st20 ?_
        show OwnGo _ _ _ _ _ _ _ (T20.setTop (mkF m 74 #[.val (.int p0), .val (.int p1), .val (.int q2), .val (.ref w2), .unset] [(.ref w2)]))
        refine ownStep (fun _ k => XS.astore X20.here hx rfl (hb hby at_74) rfl rfl (l' := #[.val (.int p0), .val (.int p1), .val (.int q2), .val (.ref w2), .val (.ref w2)]) rfl k) ?_
        show OwnGo _ _ _ _ _ _ _ (T20.setTop (mkF m 76 #[.val (.int p0), .val (.int p1), .val (.int q2), .val (.ref w2), .val (.ref w2)] []))
        refine ownStep (fun _ k => XS.aload X20.here hx rfl (hb hby at_76) rfl rfl k) ?_
        show OwnGo _ _ _ _ _ _ _ (T20.setTop (mkF m 78 #[.val (.int p0), .val (.int p1), .val (.int q2), .val (.ref w2), .val (.ref w2)] [(.ref w2)]))
        refine ownStep (fun _ k => XS.aloadN X20.here hx rfl (hb hby at_78) rfl rfl k) ?_
        show OwnGo _ _ _ _ _ _ _ (T20.setTop (mkF m 79 #[.val (.int p0), .val (.int p1), .val (.int q2), .val (.ref w2), .val (.ref w2)] [(.ref w2), (.ref w2)]))
        refine ownStep (fun _ k => Jvm.RoadKit.acmp (g := (mkF m 79 #[.val (.int p0), .val (.int p1), .val (.int q2), .val (.ref w2), .val (.ref w2)] [(.ref w2), (.ref w2)])) X20 hx rfl rfl rfl (pc0 := 79) (pc' := 82) (same := true) rfl (hb hby at_79) rfl (decide_eq_true rfl) (by decide) (by decide) k) ?_
        show OwnGo _ _ _ _ _ _ _ (T20.setTop (mkF m 82 #[.val (.int p0), .val (.int p1), .val (.int q2), .val (.ref w2), .val (.ref w2)] []))
        refine ownStep (fun _ k => XS.iconst X20.here hx rfl (hb hby at_82) k) ?_
        show OwnGo _ _ _ _ _ _ _ (T20.setTop (mkF m 83 #[.val (.int p0), .val (.int p1), .val (.int q2), .val (.ref w2), .val (.ref w2)] [(.int (1 : Int32))]))
        refine ownStep (fun _ k => XS.goto X20.here hx rfl (pc0 := 83) (pc' := 87) rfl (hb hby at_83) (by decide) (by decide) k) ?_
        show OwnGo _ _ _ _ _ _ _ (T20.setTop (mkF m 87 #[.val (.int p0), .val (.int p1), .val (.int q2), .val (.ref w2), .val (.ref w2)] [(.int (1 : Int32))]))
        have eq87 : T20.heap = T20.heap := (rfl : T20.heap = _)
        exact ownRetN X20 hx (t := .boolean) Bd.returns (by simp) (hb hby at_87) (BodyLoose.notSynchronized Bd) (by decide) (by decide) (by rw [eq87]; exact ⟨rfl, N20⟩)
      · skip
        refine ownStep (fun _ k => XS.icmpYes X0.here hx rfl (pc0 := 31) (pc' := 41) rfl (hb hby at_31) rfl (feq t2).2 (by decide) (by decide) k) ?_
        show OwnGo _ _ _ _ _ _ _ (s₁.setTop (mkF m 41 #[.val (.int p0), .val (.int p1), .val (.int q2), .unset, .unset] []))
        refine ownStep (fun _ k => XS.iloadN X0.here hx rfl (hb hby at_41) rfl k) ?_
        show OwnGo _ _ _ _ _ _ _ (s₁.setTop (mkF m 42 #[.val (.int p0), .val (.int p1), .val (.int q2), .unset, .unset] [(.int q2)]))
        refine ownStep (fun _ k => XS.iconst X0.here hx rfl (hb hby at_42) k) ?_
        show OwnGo _ _ _ _ _ _ _ (s₁.setTop (mkF m 43 #[.val (.int p0), .val (.int p1), .val (.int q2), .unset, .unset] [(.int (4 : Int32)), (.int q2)]))
        by_cases t3 : q2 = (4 : Int32)
        · skip
          refine ownStep (fun _ k => XS.icmpNo X0.here hx rfl (hb hby at_43) rfl (teq t3).2 k) ?_
          show OwnGo _ _ _ _ _ _ _ (s₁.setTop (mkF m 46 #[.val (.int p0), .val (.int p1), .val (.int q2), .unset, .unset] []))
          obtain ⟨T21, X21, e21, st21⟩ := getS2 X0 hx hZ hown (host := "") (Or.inl (hw _ (List.mem_of_getElem? (i := 29) rfl))) Via.refl e0 (S3.ext O0.2) (g := (mkF m 46 #[.val (.int p0), .val (.int p1), .val (.int q2), .unset, .unset] [])) rfl (hb hby at_46)
          refine ownStep st21 ?_
          show OwnGo _ _ _ _ _ _ _ (T21.setTop (mkF m 49 #[.val (.int p0), .val (.int p1), .val (.int q2), .unset, .unset] [(.ref w3)]))
          refine ownStep (fun _ k => XS.astoreN X21.here hx rfl (hb hby at_49) rfl rfl (l' := #[.val (.int p0), .val (.int p1), .val (.int q2), .val (.ref w3), .unset]) rfl k) ?_
          show OwnGo _ _ _ _ _ _ _ (T21.setTop (mkF m 50 #[.val (.int p0), .val (.int p1), .val (.int q2), .val (.ref w3), .unset] []))
          refine ownStep (fun _ k => XS.goto X21.here hx rfl (pc0 := 50) (pc' := 70) rfl (hb hby at_50) (by decide) (by decide) k) ?_
          show OwnGo _ _ _ _ _ _ _ (T21.setTop (mkF m 70 #[.val (.int p0), .val (.int p1), .val (.int q2), .val (.ref w3), .unset] []))
          refine ownStep (fun _ k => XS.iloadN X21.here hx rfl (hb hby at_70) rfl k) ?_
          show OwnGo _ _ _ _ _ _ _ (T21.setTop (mkF m 71 #[.val (.int p0), .val (.int p1), .val (.int q2), .val (.ref w3), .unset] [(.int q2)]))
          obtain ⟨_, _, ⟨T22, L22, k22, n22⟩, -, X22, ⟨Lc22, hQ22, l22, y22, z22⟩, st22⟩ := Jvm.LawKit.callS X21 hx (y := (⟨"com/example/dectx/dectx/Isolation", "ofJdbcLevel", "(I)Lcom/example/dectx/dectx/Isolation;"⟩ : MethodName)) hown (mvT hZ (hw _ (List.mem_of_getElem? (i := 3) rfl))) (mvT hZ (hw _ (List.mem_of_getElem? (i := 4) rfl))) (mvT hZ (hw _ (List.mem_of_getElem? (i := 1) rfl))) (mvT hZ (hw _ (List.mem_of_getElem? (i := 5) rfl))) (by decide) (backOf (W := 0) (rmO l Z a0 hw [] q2 wV kV w0 w1 w2 w3 w4 w3 h0 n0 O0 SV VV EV S0 F0 F1 F2 F3 F4 (by rw [if_neg (fun q => t1 q.symm), if_neg (fun q => t2 q.symm), if_pos t3.symm])) hZ (hw _ (List.mem_of_getElem? (i := 5) rfl)) (hw _ (List.mem_of_getElem? (i := 1) rfl)) (by decide) (by decide)) (g := (mkF m 71 #[.val (.int p0), .val (.int p1), .val (.int q2), .val (.ref w3), .unset] [(.int q2)])) rfl (by rw [hml]; rfl) (argsL := [(.int q2)]) (rest := []) (lenOf own_pd1 rfl) rfl (by show 2 * 0 + _ ≤ _; exact Nat.le_of_eq rfl) (hb hby at_71) (fun _ _ => ⟨rfl, e21, (by decide : 0 + 1 ≤ _), (by decide : 0 + 5 ≤ _)⟩)
          dsimp only [Pt.U, Pt.locs, Pt.cells, Pt.slots] at X22 l22 y22 z22 st22 hQ22
          subst l22 y22 z22
          obtain ⟨rfl, N22q, O22⟩ := hQ22
          have N22 := Fr.app N0 N22q
          refine ownStep st22 ?_
          show OwnGo _ _ _ _ _ _ _ (T22.setTop (mkF m 74 #[.val (.int p0), .val (.int p1), .val (.int q2), .val (.ref w3), .unset] [(.ref w3)]))
          refine ownStep (fun _ k => XS.astore X22.here hx rfl (hb hby at_74) rfl rfl (l' := #[.val (.int p0), .val (.int p1), .val (.int q2), .val (.ref w3), .val (.ref w3)]) rfl k) ?_
          show OwnGo _ _ _ _ _ _ _ (T22.setTop (mkF m 76 #[.val (.int p0), .val (.int p1), .val (.int q2), .val (.ref w3), .val (.ref w3)] []))
          refine ownStep (fun _ k => XS.aload X22.here hx rfl (hb hby at_76) rfl rfl k) ?_
          show OwnGo _ _ _ _ _ _ _ (T22.setTop (mkF m 78 #[.val (.int p0), .val (.int p1), .val (.int q2), .val (.ref w3), .val (.ref w3)] [(.ref w3)]))
          refine ownStep (fun _ k => XS.aloadN X22.here hx rfl (hb hby at_78) rfl rfl k) ?_
          show OwnGo _ _ _ _ _ _ _ (T22.setTop (mkF m 79 #[.val (.int p0), .val (.int p1), .val (.int q2), .val (.ref w3), .val (.ref w3)] [(.ref w3), (.ref w3)]))
          refine ownStep (fun _ k => Jvm.RoadKit.acmp (g := (mkF m 79 #[.val (.int p0), .val (.int p1), .val (.int q2), .val (.ref w3), .val (.ref w3)] [(.ref w3), (.ref w3)])) X22 hx rfl rfl rfl (pc0 := 79) (pc' := 82) (same := true) rfl (hb hby at_79) rfl (decide_eq_true rfl) (by decide) (by decide) k) ?_
          show OwnGo _ _ _ _ _ _ _ (T22.setTop (mkF m 82 #[.val (.int p0), .val (.int p1), .val (.int q2), .val (.ref w3), .val (.ref w3)] []))
          refine ownStep (fun _ k => XS.iconst X22.here hx rfl (hb hby at_82) k) ?_
          show OwnGo _ _ _ _ _ _ _ (T22.setTop (mkF m 83 #[.val (.int p0), .val (.int p1), .val (.int q2), .val (.ref w3), .val (.ref w3)] [(.int (1 : Int32))]))
          refine ownStep (fun _ k => XS.goto X22.here hx rfl (pc0 := 83) (pc' := 87) rfl (hb hby at_83) (by decide) (by decide) k) ?_
          show OwnGo _ _ _ _ _ _ _ (T22.setTop (mkF m 87 #[.val (.int p0), .val (.int p1), .val (.int q2), .val (.ref w3), .val (.ref w3)] [(.int (1 : Int32))]))
          have eq87 : T22.heap = T22.heap := (rfl : T22.heap = _)
          exact ownRetN X22 hx (t := .boolean) Bd.returns (by simp) (hb hby at_87) (BodyLoose.notSynchronized Bd) (by decide) (by decide) (by rw [eq87]; exact ⟨rfl, N22⟩)
        · skip
          refine ownStep (fun _ k => XS.icmpYes X0.here hx rfl (pc0 := 43) (pc' := 53) rfl (hb hby at_43) rfl (feq t3).2 (by decide) (by decide) k) ?_
          show OwnGo _ _ _ _ _ _ _ (s₁.setTop (mkF m 53 #[.val (.int p0), .val (.int p1), .val (.int q2), .unset, .unset] []))
          refine ownStep (fun _ k => XS.iloadN X0.here hx rfl (hb hby at_53) rfl k) ?_
          show OwnGo _ _ _ _ _ _ _ (s₁.setTop (mkF m 54 #[.val (.int p0), .val (.int p1), .val (.int q2), .unset, .unset] [(.int q2)]))
          refine ownStep (fun _ k => XS.bipush X0.here hx rfl (hb hby at_54) k) ?_
          show OwnGo _ _ _ _ _ _ _ (s₁.setTop (mkF m 56 #[.val (.int p0), .val (.int p1), .val (.int q2), .unset, .unset] [(.int (8 : Int32)), (.int q2)]))
          by_cases t4 : q2 = (8 : Int32)
          · skip
            refine ownStep (fun _ k => XS.icmpNo X0.here hx rfl (hb hby at_56) rfl (teq t4).2 k) ?_
            show OwnGo _ _ _ _ _ _ _ (s₁.setTop (mkF m 59 #[.val (.int p0), .val (.int p1), .val (.int q2), .unset, .unset] []))
            obtain ⟨T23, X23, e23, st23⟩ := getS2 X0 hx hZ hown (host := "") (Or.inl (hw _ (List.mem_of_getElem? (i := 31) rfl))) Via.refl e0 (S4.ext O0.2) (g := (mkF m 59 #[.val (.int p0), .val (.int p1), .val (.int q2), .unset, .unset] [])) rfl (hb hby at_59)
            refine ownStep st23 ?_
            show OwnGo _ _ _ _ _ _ _ (T23.setTop (mkF m 62 #[.val (.int p0), .val (.int p1), .val (.int q2), .unset, .unset] [(.ref w4)]))
            refine ownStep (fun _ k => XS.astoreN X23.here hx rfl (hb hby at_62) rfl rfl (l' := #[.val (.int p0), .val (.int p1), .val (.int q2), .val (.ref w4), .unset]) rfl k) ?_
            show OwnGo _ _ _ _ _ _ _ (T23.setTop (mkF m 63 #[.val (.int p0), .val (.int p1), .val (.int q2), .val (.ref w4), .unset] []))
            refine ownStep (fun _ k => XS.goto X23.here hx rfl (pc0 := 63) (pc' := 70) rfl (hb hby at_63) (by decide) (by decide) k) ?_
            show OwnGo _ _ _ _ _ _ _ (T23.setTop (mkF m 70 #[.val (.int p0), .val (.int p1), .val (.int q2), .val (.ref w4), .unset] []))
            refine ownStep (fun _ k => XS.iloadN X23.here hx rfl (hb hby at_70) rfl k) ?_
            show OwnGo _ _ _ _ _ _ _ (T23.setTop (mkF m 71 #[.val (.int p0), .val (.int p1), .val (.int q2), .val (.ref w4), .unset] [(.int q2)]))
            obtain ⟨_, _, ⟨T24, L24, k24, n24⟩, -, X24, ⟨Lc24, hQ24, l24, y24, z24⟩, st24⟩ := Jvm.LawKit.callS X23 hx (y := (⟨"com/example/dectx/dectx/Isolation", "ofJdbcLevel", "(I)Lcom/example/dectx/dectx/Isolation;"⟩ : MethodName)) hown (mvT hZ (hw _ (List.mem_of_getElem? (i := 3) rfl))) (mvT hZ (hw _ (List.mem_of_getElem? (i := 4) rfl))) (mvT hZ (hw _ (List.mem_of_getElem? (i := 1) rfl))) (mvT hZ (hw _ (List.mem_of_getElem? (i := 5) rfl))) (by decide) (backOf (W := 0) (rmO l Z a0 hw [] q2 wV kV w0 w1 w2 w3 w4 w4 h0 n0 O0 SV VV EV S0 F0 F1 F2 F3 F4 (by rw [if_neg (fun q => t1 q.symm), if_neg (fun q => t2 q.symm), if_neg (fun q => t3 q.symm), if_pos t4.symm])) hZ (hw _ (List.mem_of_getElem? (i := 5) rfl)) (hw _ (List.mem_of_getElem? (i := 1) rfl)) (by decide) (by decide)) (g := (mkF m 71 #[.val (.int p0), .val (.int p1), .val (.int q2), .val (.ref w4), .unset] [(.int q2)])) rfl (by rw [hml]; rfl) (argsL := [(.int q2)]) (rest := []) (lenOf own_pd1 rfl) rfl (by show 2 * 0 + _ ≤ _; exact Nat.le_of_eq rfl) (hb hby at_71) (fun _ _ => ⟨rfl, e23, (by decide : 0 + 1 ≤ _), (by decide : 0 + 5 ≤ _)⟩)
            dsimp only [Pt.U, Pt.locs, Pt.cells, Pt.slots] at X24 l24 y24 z24 st24 hQ24
            subst l24 y24 z24
            obtain ⟨rfl, N24q, O24⟩ := hQ24
            have N24 := Fr.app N0 N24q
            refine ownStep st24 ?_
            show OwnGo _ _ _ _ _ _ _ (T24.setTop (mkF m 74 #[.val (.int p0), .val (.int p1), .val (.int q2), .val (.ref w4), .unset] [(.ref w4)]))
            refine ownStep (fun _ k => XS.astore X24.here hx rfl (hb hby at_74) rfl rfl (l' := #[.val (.int p0), .val (.int p1), .val (.int q2), .val (.ref w4), .val (.ref w4)]) rfl k) ?_
            show OwnGo _ _ _ _ _ _ _ (T24.setTop (mkF m 76 #[.val (.int p0), .val (.int p1), .val (.int q2), .val (.ref w4), .val (.ref w4)] []))
            refine ownStep (fun _ k => XS.aload X24.here hx rfl (hb hby at_76) rfl rfl k) ?_
            show OwnGo _ _ _ _ _ _ _ (T24.setTop (mkF m 78 #[.val (.int p0), .val (.int p1), .val (.int q2), .val (.ref w4), .val (.ref w4)] [(.ref w4)]))
            refine ownStep (fun _ k => XS.aloadN X24.here hx rfl (hb hby at_78) rfl rfl k) ?_
            show OwnGo _ _ _ _ _ _ _ (T24.setTop (mkF m 79 #[.val (.int p0), .val (.int p1), .val (.int q2), .val (.ref w4), .val (.ref w4)] [(.ref w4), (.ref w4)]))
            refine ownStep (fun _ k => Jvm.RoadKit.acmp (g := (mkF m 79 #[.val (.int p0), .val (.int p1), .val (.int q2), .val (.ref w4), .val (.ref w4)] [(.ref w4), (.ref w4)])) X24 hx rfl rfl rfl (pc0 := 79) (pc' := 82) (same := true) rfl (hb hby at_79) rfl (decide_eq_true rfl) (by decide) (by decide) k) ?_
            show OwnGo _ _ _ _ _ _ _ (T24.setTop (mkF m 82 #[.val (.int p0), .val (.int p1), .val (.int q2), .val (.ref w4), .val (.ref w4)] []))
            refine ownStep (fun _ k => XS.iconst X24.here hx rfl (hb hby at_82) k) ?_
            show OwnGo _ _ _ _ _ _ _ (T24.setTop (mkF m 83 #[.val (.int p0), .val (.int p1), .val (.int q2), .val (.ref w4), .val (.ref w4)] [(.int (1 : Int32))]))
            refine ownStep (fun _ k => XS.goto X24.here hx rfl (pc0 := 83) (pc' := 87) rfl (hb hby at_83) (by decide) (by decide) k) ?_
            show OwnGo _ _ _ _ _ _ _ (T24.setTop (mkF m 87 #[.val (.int p0), .val (.int p1), .val (.int q2), .val (.ref w4), .val (.ref w4)] [(.int (1 : Int32))]))
            have eq87 : T24.heap = T24.heap := (rfl : T24.heap = _)
            exact ownRetN X24 hx (t := .boolean) Bd.returns (by simp) (hb hby at_87) (BodyLoose.notSynchronized Bd) (by decide) (by decide) (by rw [eq87]; exact ⟨rfl, N24⟩)
          · skip
            refine ownStep (fun _ k => XS.icmpYes X0.here hx rfl (pc0 := 56) (pc' := 66) rfl (hb hby at_56) rfl (feq t4).2 (by decide) (by decide) k) ?_
            show OwnGo _ _ _ _ _ _ _ (s₁.setTop (mkF m 66 #[.val (.int p0), .val (.int p1), .val (.int q2), .unset, .unset] []))
            obtain ⟨T25, X25, e25, st25⟩ := getS2 X0 hx hZ hown (host := "") (Or.inl (hw _ (List.mem_of_getElem? (i := 0) rfl))) Via.refl e0 (S0.ext O0.2) (g := (mkF m 66 #[.val (.int p0), .val (.int p1), .val (.int q2), .unset, .unset] [])) rfl (hb hby at_66)
            refine ownStep st25 ?_
            show OwnGo _ _ _ _ _ _ _ (T25.setTop (mkF m 69 #[.val (.int p0), .val (.int p1), .val (.int q2), .unset, .unset] [(.ref w0)]))
            refine ownStep (fun _ k => XS.astoreN X25.here hx rfl (hb hby at_69) rfl rfl (l' := #[.val (.int p0), .val (.int p1), .val (.int q2), .val (.ref w0), .unset]) rfl k) ?_
            show OwnGo _ _ _ _ _ _ _ (T25.setTop (mkF m 70 #[.val (.int p0), .val (.int p1), .val (.int q2), .val (.ref w0), .unset] []))
            refine ownStep (fun _ k => XS.iloadN X25.here hx rfl (hb hby at_70) rfl k) ?_
            show OwnGo _ _ _ _ _ _ _ (T25.setTop (mkF m 71 #[.val (.int p0), .val (.int p1), .val (.int q2), .val (.ref w0), .unset] [(.int q2)]))
            obtain ⟨_, _, ⟨T26, L26, k26, n26⟩, -, X26, ⟨Lc26, hQ26, l26, y26, z26⟩, st26⟩ := Jvm.LawKit.callS X25 hx (y := (⟨"com/example/dectx/dectx/Isolation", "ofJdbcLevel", "(I)Lcom/example/dectx/dectx/Isolation;"⟩ : MethodName)) hown (mvT hZ (hw _ (List.mem_of_getElem? (i := 3) rfl))) (mvT hZ (hw _ (List.mem_of_getElem? (i := 4) rfl))) (mvT hZ (hw _ (List.mem_of_getElem? (i := 1) rfl))) (mvT hZ (hw _ (List.mem_of_getElem? (i := 5) rfl))) (by decide) (backOf (W := 0) (rmO l Z a0 hw [] q2 wV kV w0 w1 w2 w3 w4 w0 h0 n0 O0 SV VV EV S0 F0 F1 F2 F3 F4 (by rw [if_neg (fun q => t1 q.symm), if_neg (fun q => t2 q.symm), if_neg (fun q => t3 q.symm), if_neg (fun q => t4 q.symm)])) hZ (hw _ (List.mem_of_getElem? (i := 5) rfl)) (hw _ (List.mem_of_getElem? (i := 1) rfl)) (by decide) (by decide)) (g := (mkF m 71 #[.val (.int p0), .val (.int p1), .val (.int q2), .val (.ref w0), .unset] [(.int q2)])) rfl (by rw [hml]; rfl) (argsL := [(.int q2)]) (rest := []) (lenOf own_pd1 rfl) rfl (by show 2 * 0 + _ ≤ _; exact Nat.le_of_eq rfl) (hb hby at_71) (fun _ _ => ⟨rfl, e25, (by decide : 0 + 1 ≤ _), (by decide : 0 + 5 ≤ _)⟩)
            dsimp only [Pt.U, Pt.locs, Pt.cells, Pt.slots] at X26 l26 y26 z26 st26 hQ26
            subst l26 y26 z26
            obtain ⟨rfl, N26q, O26⟩ := hQ26
            have N26 := Fr.app N0 N26q
            refine ownStep st26 ?_
            show OwnGo _ _ _ _ _ _ _ (T26.setTop (mkF m 74 #[.val (.int p0), .val (.int p1), .val (.int q2), .val (.ref w0), .unset] [(.ref w0)]))
            refine ownStep (fun _ k => XS.astore X26.here hx rfl (hb hby at_74) rfl rfl (l' := #[.val (.int p0), .val (.int p1), .val (.int q2), .val (.ref w0), .val (.ref w0)]) rfl k) ?_
            show OwnGo _ _ _ _ _ _ _ (T26.setTop (mkF m 76 #[.val (.int p0), .val (.int p1), .val (.int q2), .val (.ref w0), .val (.ref w0)] []))
            refine ownStep (fun _ k => XS.aload X26.here hx rfl (hb hby at_76) rfl rfl k) ?_
            show OwnGo _ _ _ _ _ _ _ (T26.setTop (mkF m 78 #[.val (.int p0), .val (.int p1), .val (.int q2), .val (.ref w0), .val (.ref w0)] [(.ref w0)]))
            refine ownStep (fun _ k => XS.aloadN X26.here hx rfl (hb hby at_78) rfl rfl k) ?_
            show OwnGo _ _ _ _ _ _ _ (T26.setTop (mkF m 79 #[.val (.int p0), .val (.int p1), .val (.int q2), .val (.ref w0), .val (.ref w0)] [(.ref w0), (.ref w0)]))
            refine ownStep (fun _ k => Jvm.RoadKit.acmp (g := (mkF m 79 #[.val (.int p0), .val (.int p1), .val (.int q2), .val (.ref w0), .val (.ref w0)] [(.ref w0), (.ref w0)])) X26 hx rfl rfl rfl (pc0 := 79) (pc' := 82) (same := true) rfl (hb hby at_79) rfl (decide_eq_true rfl) (by decide) (by decide) k) ?_
            show OwnGo _ _ _ _ _ _ _ (T26.setTop (mkF m 82 #[.val (.int p0), .val (.int p1), .val (.int q2), .val (.ref w0), .val (.ref w0)] []))
            refine ownStep (fun _ k => XS.iconst X26.here hx rfl (hb hby at_82) k) ?_
            show OwnGo _ _ _ _ _ _ _ (T26.setTop (mkF m 83 #[.val (.int p0), .val (.int p1), .val (.int q2), .val (.ref w0), .val (.ref w0)] [(.int (1 : Int32))]))
            refine ownStep (fun _ k => XS.goto X26.here hx rfl (pc0 := 83) (pc' := 87) rfl (hb hby at_83) (by decide) (by decide) k) ?_
            show OwnGo _ _ _ _ _ _ _ (T26.setTop (mkF m 87 #[.val (.int p0), .val (.int p1), .val (.int q2), .val (.ref w0), .val (.ref w0)] [(.int (1 : Int32))]))
            have eq87 : T26.heap = T26.heap := (rfl : T26.heap = _)
            exact ownRetN X26 hx (t := .boolean) Bd.returns (by simp) (hb hby at_87) (BodyLoose.notSynchronized Bd) (by decide) (by decide) (by rw [eq87]; exact ⟨rfl, N26⟩)
  refine ownStep (fun _ k => XS.iloadN X0.here hx rfl (hb hby at_0) rfl k) ?_
  show OwnGo _ _ _ _ _ _ _ (s₁.setTop (mkF m 1 #[.val (.int p0), .val (.int p1), .unset, .unset, .unset] [(.int p1)]))
  refine ownStep (fun _ k => XS.iconst X0.here hx rfl (hb hby at_1) k) ?_
  show OwnGo _ _ _ _ _ _ _ (s₁.setTop (mkF m 2 #[.val (.int p0), .val (.int p1), .unset, .unset, .unset] [(.int (1 : Int32)), (.int p1)]))
  refine ownStep (fun _ k => XS.iand X0.here hx rfl (hb hby at_2) rfl k) ?_
  show OwnGo _ _ _ _ _ _ _ (s₁.setTop (mkF m 3 #[.val (.int p0), .val (.int p1), .unset, .unset, .unset] [(.int (p1 &&& (1 : Int32)))]))
  by_cases c0 : (p1 &&& (1 : Int32)) = (0 : Int32)
  · skip
    refine ownStep (fun _ k => XS.ifYes X0.here hx rfl (pc0 := 3) (pc' := 15) rfl (hb hby at_3) rfl ((if0 _ _).trans (teq c0).1) (by decide) (by decide) k) ?_
    show OwnGo _ _ _ _ _ _ _ (s₁.setTop (mkF m 15 #[.val (.int p0), .val (.int p1), .unset, .unset, .unset] []))
    refine ownStep (fun _ k => XS.iloadN X0.here hx rfl (hb hby at_15) rfl k) ?_
    show OwnGo _ _ _ _ _ _ _ (s₁.setTop (mkF m 16 #[.val (.int p0), .val (.int p1), .unset, .unset, .unset] [(.int p0)]))
    refine ownStep (fun _ k => XS.istoreN X0.here hx rfl (hb hby at_16) rfl (l' := #[.val (.int p0), .val (.int p1), .val (.int p0), .unset, .unset]) rfl k) ?_
    show OwnGo _ _ _ _ _ _ _ (s₁.setTop (mkF m 17 #[.val (.int p0), .val (.int p1), .val (.int p0), .unset, .unset] []))
    exact J _
  · skip
    refine ownStep (fun _ k => XS.ifNo X0.here hx rfl (hb hby at_3) rfl ((if0 _ _).trans (feq c0).1) k) ?_
    show OwnGo _ _ _ _ _ _ _ (s₁.setTop (mkF m 6 #[.val (.int p0), .val (.int p1), .unset, .unset, .unset] []))
    refine ownStep (fun _ k => XS.iloadN X0.here hx rfl (hb hby at_6) rfl k) ?_
    show OwnGo _ _ _ _ _ _ _ (s₁.setTop (mkF m 7 #[.val (.int p0), .val (.int p1), .unset, .unset, .unset] [(.int p0)]))
    refine ownStep (fun _ k => XS.bipush X0.here hx rfl (hb hby at_7) k) ?_
    show OwnGo _ _ _ _ _ _ _ (s₁.setTop (mkF m 9 #[.val (.int p0), .val (.int p1), .unset, .unset, .unset] [(.int (15 : Int32)), (.int p0)]))
    refine ownStep (fun _ k => XS.iand X0.here hx rfl (hb hby at_9) rfl k) ?_
    show OwnGo _ _ _ _ _ _ _ (s₁.setTop (mkF m 10 #[.val (.int p0), .val (.int p1), .unset, .unset, .unset] [(.int (p0 &&& (15 : Int32)))]))
    refine ownStep (fun _ k => XS.iconst X0.here hx rfl (hb hby at_10) k) ?_
    show OwnGo _ _ _ _ _ _ _ (s₁.setTop (mkF m 11 #[.val (.int p0), .val (.int p1), .unset, .unset, .unset] [(.int (2 : Int32)), (.int (p0 &&& (15 : Int32)))]))
    refine ownStep (fun _ k => XS.isub X0.here hx rfl (hb hby at_11) rfl k) ?_
    show OwnGo _ _ _ _ _ _ _ (s₁.setTop (mkF m 12 #[.val (.int p0), .val (.int p1), .unset, .unset, .unset] [(.int ((p0 &&& (15 : Int32)) - (2 : Int32)))]))
    refine ownStep (fun _ k => XS.goto X0.here hx rfl (pc0 := 12) (pc' := 16) rfl (hb hby at_12) (by decide) (by decide) k) ?_
    show OwnGo _ _ _ _ _ _ _ (s₁.setTop (mkF m 16 #[.val (.int p0), .val (.int p1), .unset, .unset, .unset] [(.int ((p0 &&& (15 : Int32)) - (2 : Int32)))]))
    refine ownStep (fun _ k => XS.istoreN X0.here hx rfl (hb hby at_16) rfl (l' := #[.val (.int p0), .val (.int p1), .val (.int ((p0 &&& (15 : Int32)) - (2 : Int32))), .unset, .unset]) rfl k) ?_
    show OwnGo _ _ _ _ _ _ _ (s₁.setTop (mkF m 17 #[.val (.int p0), .val (.int p1), .val (.int ((p0 &&& (15 : Int32)) - (2 : Int32))), .unset, .unset] []))
    exact J _
set_option maxRecDepth 65536 in
set_option maxHeartbeats 40000000 in
theorem comes_1 {Post : Tables → Env → Array Value → State → Outcome → State → Prop} (hpost : ∀ tb e args s v u, (limb_1_1.after args s (.returned v) u = true ∧ limb_1_2.after args s (.returned v) u = true ∧ True) → FrameEnd s (.returned v) u (Jvm.fieldLocs frame_1_writes args s ++ Jvm.arrayLocs frame_1_arrays args s ++ Jvm.staticLocs frame_1_statics s) 16 128 → Post tb e args s (.returned v) u) :
    ArmFor flags0 classFile x code maxLocals ret World_1 tables_1 room_1 Calls_1 rest_1 Pre_1 Post := by
  intro l hfl _ _ p e ha hc hk s m args below hf hA hF happ hP
  obtain ⟨hcalls, hrest, hpre⟩ := hP
  obtain ⟨-, -, -, hnamed, -, -, -, hat⟩ := (Spec.applies_iff hf).mp happ
  obtain ⟨hg, hn⟩ := and_e (Cond.before_iff.mp (show (Jvm.Cond.and given_1 narrow_1).before args s = true from hpre))
  obtain ⟨g27, g28⟩ := and_e hg
  obtain ⟨g29, g30⟩ := and_e g28
  obtain ⟨w0, w1, rfl⟩ : ∃ w0 w1 : Value, args = #[w0, w1] := by
    have hs : args.size = 2 := by simpa [Cond.value, given_1] using g27
    obtain ⟨L⟩ := args
    match L, hs with
    | [w0, w1], _ => exact ⟨w0, w1, rfl⟩
  have hw := fun d (hd : d ∈ tables_1) => atoms_spec (ws := Jvm.Cond.code x code maxLocals ret :: tables_1) hat d (List.mem_cons_of_mem _ hd)
  have hfit : Fit s := fun {y c} hc i hi => by
    obtain ⟨ha, rfl⟩ := Array.getElem?_eq_some_iff.mp hc
    have q := List.all_eq_true.mp ((Array.all_eq_true_iff_forall_mem.mp hF) _ (Array.getElem_mem ha)) i (List.mem_range.mpr hi)
    simpa [Array.getElem?_eq_getElem hi] using q
  obtain ⟨i0, ei0⟩ := is_v g29
  obtain rfl : w0 = (.int i0) := Option.some.inj ei0
  obtain ⟨i1, ei1⟩ := is_v g30
  obtain rfl : w1 = (.int i1) := Option.some.inj ei1
  obtain ⟨hn31, hn32⟩ := and_e hn
  obtain ⟨hn33, hn34⟩ := and_e hn32
  obtain ⟨hn35, hn36⟩ := and_e hn34
  obtain ⟨hn37, hn38⟩ := and_e hn36
  obtain ⟨hn39, hn40⟩ := and_e hn38
  obtain ⟨hn41, hn42⟩ := and_e hn40
  obtain ⟨hn43, hn44⟩ := and_e hn42
  obtain ⟨hn45, hn46⟩ := and_e hn44
  obtain ⟨hn47, hn48⟩ := and_e hn46
  obtain ⟨hn49, hn50⟩ := and_e hn48
  obtain ⟨hn51, hn52⟩ := and_e hn50
  obtain ⟨hn53, hn54⟩ := and_e hn52
  obtain ⟨hn55, hn56⟩ := and_e hn54
  obtain ⟨hn57, hn58⟩ := and_e hn56
  obtain ⟨hn59, hn60⟩ := and_e hn58
  obtain ⟨hn61, hn62⟩ := and_e hn60
  obtain ⟨hn63, hn64⟩ := and_e hn62
  obtain ⟨w0', ev0⟩ := exa_v hn31
  have E0 := Exa.start ev0 hn31
  have F0 := own_fld ev0 (own_eqI hn57)
  have S0 := Sta.start ev0 (Or.inr ⟨(hw _ (List.mem_of_getElem? (i := 1) rfl)), (hw _ (List.mem_of_getElem? (i := 2) rfl))⟩)
  obtain ⟨w1', ev1⟩ := exa_v hn41
  have E1 := Exa.start ev1 hn41
  have F1 := own_fld ev1 (own_eqI hn59)
  have S1 := Sta.start ev1 (Or.inr ⟨(hw _ (List.mem_of_getElem? (i := 1) rfl)), (hw _ (List.mem_of_getElem? (i := 18) rfl))⟩)
  obtain ⟨w2', ev2⟩ := exa_v hn45
  have E2 := Exa.start ev2 hn45
  have F2 := own_fld ev2 (own_eqI hn61)
  have S2 := Sta.start ev2 (Or.inr ⟨(hw _ (List.mem_of_getElem? (i := 1) rfl)), (hw _ (List.mem_of_getElem? (i := 19) rfl))⟩)
  obtain ⟨w3', ev3⟩ := exa_v hn49
  have E3 := Exa.start ev3 hn49
  have F3 := own_fld ev3 (own_eqI hn63)
  have S3 := Sta.start ev3 (Or.inr ⟨(hw _ (List.mem_of_getElem? (i := 1) rfl)), (hw _ (List.mem_of_getElem? (i := 20) rfl))⟩)
  obtain ⟨w4', ev4⟩ := exa_v hn53
  have E4 := Exa.start ev4 hn53
  have F4 := own_fld ev4 (own_eqI hn64)
  have S4 := Sta.start ev4 (Or.inr ⟨(hw _ (List.mem_of_getElem? (i := 1) rfl)), (hw _ (List.mem_of_getElem? (i := 21) rfl))⟩)
  obtain ⟨wV, evV⟩ := arr_v hn33
  have EV := Exa.start evV hn35
  have SV := Sta.start evV (Or.inr ⟨(hw _ (List.mem_of_getElem? (i := 1) rfl)), (hw _ (List.mem_of_getElem? (i := 10) rfl))⟩)
  obtain ⟨clV, AV⟩ := Arr.start evV hn33
  have hlV := own_len evV (own_eqI hn37) AV.1
  have hV0 := (elem_in (own_eqR hn39 ev0) evV rfl AV.1).2
  have hV1 := (elem_in (own_eqR hn43 ev1) evV rfl AV.1).2
  have hV2 := (elem_in (own_eqR hn47 ev2) evV rfl AV.1).2
  have hV3 := (elem_in (own_eqR hn51 ev3) evV rfl AV.1).2
  have hV4 := (elem_in (own_eqR hn55 ev4) evV rfl AV.1).2
  have VV : Arv s s.heap wV clV.cls (.object "com/example/dectx/dectx/Isolation") (5 : Int32) [(.ref w0'), (.ref w1'), (.ref w2'), (.ref w3'), (.ref w4')] .null := Arv.start hfit AV hlV.1 hlV.2 (by decide) rfl ⟨hV0, hV1, hV2, hV3, hV4, trivial⟩
  obtain ⟨n, o, h1, h2, h3, _, L, rfl, ⟨rfl, N⟩, hq⟩ := rm0 l s _ hw tables_1 i0 i1 wV clV.cls w0' w1' w2' w3' w4' s.heap s.heap.size (Old.start s) SV VV EV S0 S1 S2 S3 S4 F0 F1 F2 F3 F4 p e ha hc hk s m _ below hf ((Spec.applies_iff_loose hf).mp happ).1 ⟨rfl, State.Warmed39.refl s, rfl⟩ trivial
  refine ⟨n, _, h1, h2, h3, hpost _ _ _ _ _ _ ⟨Cond.after_iff.mpr rfl, Cond.after_iff.mpr (eq_i res_at (Term.int_eval (1)) rfl), trivial⟩ ⟨hq.1, hq.2.1, (hq.2.2.sift fun y hy => Or.inr (N y hy)).mono (by decide) (by decide)⟩⟩
theorem main_1_1 : Claimed_1_1 := comes_1 fun _ _ _ _ _ _ h hF => ⟨h.1, hF⟩
theorem main_1_2 : Claimed_1_2 := comes_1 fun _ _ _ _ _ _ h hF => ⟨h.2.1, hF⟩
end Jvm.Pilot.@@N@@
namespace Jvm.Pilot.@@N@@
open Jvm Jvm.ClassFile Sem Op Lib Jvm.Free Jvm.Stand Jvm.Pilot.@@N@@.Jvm.D
/-! MADE BY PROGRAM (witnessworld.py) out of the Statement's table words and the real class files: 13 classes; the members and pool entries that the words name. The judged class is class 1, her method 1. -/
namespace start1
open Jvm.ClassFile
def u (s : String) : CpInfo := .utf8 (stringToUtf16 s)
/-- a pool by its gaps: so many unusable entries, then the entry; so many at the end -/
def gap : Nat → List CpInfo → List CpInfo
  | 0, r => r
  | n + 1, r => .unusable :: gap n r
def poolList (es : List (Nat × CpInfo)) (last : Nat) : List CpInfo := es.foldr (fun e r => gap e.1 (e.2 :: r)) (gap last [])
def pool (es : List (Nat × CpInfo)) (last : Nat) : Array CpInfo := ⟨poolList es last⟩
def fileOf (pool : Array CpInfo) (this : Nat) (attrs : Array Attribute := #[]) (ms : Array MethodInfo := #[]) (fl : Nat := 33) (sup : Nat := 0) (ifs : Array Nat := #[]) (fds : Array FieldInfo := #[]) : ClassFile where
  minorVersion := 0
  majorVersion := 65
  constantPool := pool
  accessFlags := fl
  thisClass := this
  superClass := sup
  interfaces := ifs
  fields := fds
  methods := ms
  attributes := attrs
def plain (name : String) (sup : Option ClassId) : Class where
  name := name
  kind := .ordinary
  loader := none
  accessFlags := 33
  super := sup
  interfaces := #[]
  cf := none
  fields := #[]
  methods := #[]
  instanceTypes := #[]
  staticTypes := #[]
  resolved := #[]
  callSites := []
  init := .initialized
  statics := none
  mirror := none

def pool0 : Array CpInfo := pool [(5, u "<init>"), (0, u "()V"), (1, .class_ 10), (1, u "java/lang/Object"), (85, u "clone"), (0, u "()Ljava/lang/Object;")] 26

def k0m0 : Method := { name := "<init>", desc := "()V", sig := { parameters := [], returnType := none }, accessFlags := 1, code := none }
def k0m1 : Method := { name := "clone", desc := "()Ljava/lang/Object;", sig := { parameters := [], returnType := some (.object "java/lang/Object") }, accessFlags := 260, code := none }
/-- java/lang/Object -/
def k0 : Class := { plain "java/lang/Object" none with
  accessFlags := 33
  interfaces := #[]
  cf := some (fileOf pool0 8 #[] #[{ accessFlags := 1, nameIndex := 5, descriptorIndex := 6, attributes := #[] }, { accessFlags := 260, nameIndex := 96, descriptorIndex := 97, attributes := #[] }] 33 0 #[] #[])
  fields := #[]
  methods := #[k0m0, k0m1]
  instanceTypes := #[]
  staticTypes := #[]
  resolved := Array.replicate 124 none
  statics := none }

def pool1 : Array CpInfo := pool [(2, .class_ 4), (1, u "java/lang/Object"), (0, u "<init>"), (0, u "()V"), (0, .fieldref 8 9), (0, .class_ 10), (0, .nameAndType 11 12), (0, u "com/example/dectx/dectx/Isolation"), (0, u "READ_UNCOMMITTED"), (0, u "Lcom/example/dectx/dectx/Isolation;"), (0, .fieldref 8 14), (0, .nameAndType 15 12), (0, u "READ_COMMITTED"), (0, .fieldref 8 17), (0, .nameAndType 18 12), (0, u "REPEATABLE_READ"), (0, .fieldref 8 20), (0, .nameAndType 21 12), (0, u "SERIALIZABLE"), (0, .fieldref 8 23), (0, .nameAndType 24 12), (0, u "DEFAULT"), (0, .methodref 8 26), (0, .nameAndType 27 28), (0, u "ofJdbcLevel"), (0, u "(I)Lcom/example/dectx/dectx/Isolation;"), (0, .class_ 30), (0, u "com/example/dectx/dectx/IsolationOfJdbcLevelPinLaw"), (2, u "law"), (0, u "(II)Z")] 3

def k1m0 : Method := { name := "<init>", desc := "()V", sig := { parameters := [], returnType := none }, accessFlags := 1, code := none }
def k1c1 : Code := { maxStack := 2, maxLocals := 5, code := code, exceptionTable := #[], attributes := #[] }
def k1m1 : Method := { name := "law", desc := "(II)Z", sig := { parameters := [.int, .int], returnType := some .boolean }, accessFlags := 9, code := some k1c1 }
/-- com/example/dectx/dectx/IsolationOfJdbcLevelPinLaw -/
def k1 : Class := { plain "com/example/dectx/dectx/IsolationOfJdbcLevelPinLaw" (some 0) with
  accessFlags := 49
  interfaces := #[]
  cf := some (fileOf pool1 29 #[] #[{ accessFlags := 1, nameIndex := 5, descriptorIndex := 6, attributes := #[] }, { accessFlags := 9, nameIndex := 33, descriptorIndex := 34, attributes := #[] }] 49 2 #[] #[])
  fields := #[]
  methods := #[k1m0, k1m1]
  instanceTypes := #[]
  staticTypes := #[]
  resolved := Array.replicate 38 none
  statics := none }

def pool2 : Array CpInfo := pool [(1, .class_ 2), (0, u "java/lang/constant/Constable"), (0, .class_ 4), (0, u "java/lang/Object")] 6

/-- java/lang/constant/Constable -/
def k2 : Class := { plain "java/lang/constant/Constable" (some 0) with
  accessFlags := 1537
  interfaces := #[]
  cf := some (fileOf pool2 1 #[] #[] 1537 3 #[] #[])
  fields := #[]
  methods := #[]
  instanceTypes := #[]
  staticTypes := #[]
  resolved := Array.replicate 11 none
  statics := none }

def pool3 : Array CpInfo := pool [(1, .class_ 2), (0, u "java/lang/Comparable"), (0, .class_ 4), (0, u "java/lang/Object")] 7

/-- java/lang/Comparable -/
def k3 : Class := { plain "java/lang/Comparable" (some 0) with
  accessFlags := 1537
  interfaces := #[]
  cf := some (fileOf pool3 1 #[] #[] 1537 3 #[] #[])
  fields := #[]
  methods := #[]
  instanceTypes := #[]
  staticTypes := #[]
  resolved := Array.replicate 12 none
  statics := none }

def pool4 : Array CpInfo := pool [(1, .class_ 2), (0, u "java/io/Serializable"), (0, .class_ 4), (0, u "java/lang/Object")] 2

/-- java/io/Serializable -/
def k4 : Class := { plain "java/io/Serializable" (some 0) with
  accessFlags := 1537
  interfaces := #[]
  cf := some (fileOf pool4 1 #[] #[] 1537 3 #[] #[])
  fields := #[]
  methods := #[]
  instanceTypes := #[]
  staticTypes := #[]
  resolved := Array.replicate 7 none
  statics := none }

def pool5 : Array CpInfo := pool [(2, .class_ 4), (1, u "java/lang/Enum"), (0, u "name"), (0, u "Ljava/lang/String;"), (2, u "ordinal"), (0, u "I"), (1, .class_ 14), (1, u "java/lang/Object"), (4, u "hash"), (86, .class_ 108), (1, u "java/lang/Enum$EnumDesc"), (2, .class_ 112), (0, u "java/lang/constant/Constable"), (0, .class_ 114), (0, u "java/lang/Comparable"), (0, .class_ 116), (0, u "java/io/Serializable")] 87

/-- java/lang/Enum -/
def k5 : Class := { plain "java/lang/Enum" (some 0) with
  accessFlags := 1057
  interfaces := #[2, 3, 4]
  cf := some (fileOf pool5 2 #[.nestMembers #[106]] #[] 1057 12 #[111, 113, 115] #[{ accessFlags := 18, nameIndex := 5, descriptorIndex := 6, attributes := #[] }, { accessFlags := 18, nameIndex := 9, descriptorIndex := 10, attributes := #[] }, { accessFlags := 2, nameIndex := 19, descriptorIndex := 10, attributes := #[] }])
  fields := #[{ name := "name", type := (.object "java/lang/String"), accessFlags := 18, slot := 0, constantValue := 0 }, { name := "ordinal", type := .int, accessFlags := 18, slot := 1, constantValue := 0 }, { name := "hash", type := .int, accessFlags := 2, slot := 2, constantValue := 0 }]
  methods := #[]
  instanceTypes := #[(.object "java/lang/String"), .int, .int]
  staticTypes := #[]
  resolved := Array.replicate 204 none
  statics := none }

def pool6 : Array CpInfo := pool [(1, .class_ 2), (0, u "com/example/dectx/dectx/Isolation"), (0, .fieldref 1 4), (0, .nameAndType 5 6), (0, u "DEFAULT"), (0, u "Lcom/example/dectx/dectx/Isolation;"), (2, u "READ_UNCOMMITTED"), (2, u "READ_COMMITTED"), (2, u "REPEATABLE_READ"), (2, u "SERIALIZABLE"), (0, .fieldref 1 20), (0, .nameAndType 21 22), (0, u "$VALUES"), (0, u "[Lcom/example/dectx/dectx/Isolation;"), (0, .methodref 24 25), (0, .class_ 22), (0, .nameAndType 26 27), (0, u "clone"), (0, u "()Ljava/lang/Object;"), (1, .class_ 31), (1, u "java/lang/Enum"), (6, .fieldref 1 39), (0, .nameAndType 40 41), (0, u "jdbcLevel"), (0, u "I"), (0, .methodref 1 43), (0, .nameAndType 44 45), (0, u "values"), (0, u "()[Lcom/example/dectx/dectx/Isolation;"), (20, u "ofJdbcLevel"), (0, u "(I)Lcom/example/dectx/dectx/Isolation;")] 6

def k6c0 : Code := { maxStack := 1, maxLocals := 0, code := prog_14_method_1_code, exceptionTable := #[], attributes := #[] }
def k6m0 : Method := { name := "values", desc := "()[Lcom/example/dectx/dectx/Isolation;", sig := { parameters := [], returnType := some (.array (.object "com/example/dectx/dectx/Isolation")) }, accessFlags := 9, code := some k6c0 }
def k6c1 : Code := { maxStack := 2, maxLocals := 5, code := prog_14_method_5_code, exceptionTable := #[], attributes := #[] }
def k6m1 : Method := { name := "ofJdbcLevel", desc := "(I)Lcom/example/dectx/dectx/Isolation;", sig := { parameters := [.int], returnType := some (.object "com/example/dectx/dectx/Isolation") }, accessFlags := 8, code := some k6c1 }
/-- com/example/dectx/dectx/Isolation -/
def k6 : Class := { plain "com/example/dectx/dectx/Isolation" (some 5) with
  accessFlags := 16433
  interfaces := #[]
  cf := some (fileOf pool6 1 #[] #[{ accessFlags := 9, nameIndex := 44, descriptorIndex := 45, attributes := #[] }, { accessFlags := 8, nameIndex := 66, descriptorIndex := 67, attributes := #[] }] 16433 29 #[] #[{ accessFlags := 16409, nameIndex := 5, descriptorIndex := 6, attributes := #[] }, { accessFlags := 16409, nameIndex := 9, descriptorIndex := 6, attributes := #[] }, { accessFlags := 16409, nameIndex := 12, descriptorIndex := 6, attributes := #[] }, { accessFlags := 16409, nameIndex := 15, descriptorIndex := 6, attributes := #[] }, { accessFlags := 16409, nameIndex := 18, descriptorIndex := 6, attributes := #[] }, { accessFlags := 18, nameIndex := 40, descriptorIndex := 41, attributes := #[] }, { accessFlags := 4122, nameIndex := 21, descriptorIndex := 22, attributes := #[] }])
  fields := #[{ name := "DEFAULT", type := (.object "com/example/dectx/dectx/Isolation"), accessFlags := 16409, slot := 0, constantValue := 0 }, { name := "READ_UNCOMMITTED", type := (.object "com/example/dectx/dectx/Isolation"), accessFlags := 16409, slot := 1, constantValue := 0 }, { name := "READ_COMMITTED", type := (.object "com/example/dectx/dectx/Isolation"), accessFlags := 16409, slot := 2, constantValue := 0 }, { name := "REPEATABLE_READ", type := (.object "com/example/dectx/dectx/Isolation"), accessFlags := 16409, slot := 3, constantValue := 0 }, { name := "SERIALIZABLE", type := (.object "com/example/dectx/dectx/Isolation"), accessFlags := 16409, slot := 4, constantValue := 0 }, { name := "jdbcLevel", type := .int, accessFlags := 18, slot := 3, constantValue := 0 }, { name := "$VALUES", type := (.array (.object "com/example/dectx/dectx/Isolation")), accessFlags := 4122, slot := 5, constantValue := 0 }]
  methods := #[k6m0, k6m1]
  instanceTypes := #[(.object "java/lang/String"), .int, .int, .int]
  staticTypes := #[(.object "com/example/dectx/dectx/Isolation"), (.object "com/example/dectx/dectx/Isolation"), (.object "com/example/dectx/dectx/Isolation"), (.object "com/example/dectx/dectx/Isolation"), (.object "com/example/dectx/dectx/Isolation"), (.array (.object "com/example/dectx/dectx/Isolation"))]
  resolved := Array.replicate 74 none
  statics := some 0 }

def pool7 : Array CpInfo := pool [(1, .class_ 2), (0, u "java/lang/Cloneable"), (0, .class_ 4), (0, u "java/lang/Object")] 2

/-- java/lang/Cloneable -/
def k7 : Class := { plain "java/lang/Cloneable" (some 0) with
  accessFlags := 1537
  interfaces := #[]
  cf := some (fileOf pool7 1 #[] #[] 1537 3 #[] #[])
  fields := #[]
  methods := #[]
  instanceTypes := #[]
  staticTypes := #[]
  resolved := Array.replicate 7 none
  statics := none }

/-- the primitive byte -/
def k8 : Class := { plain "byte" none with kind := .primitive 'B', accessFlags := 0x411 }
/-- [B -/
def k9 : Class := { plain "[B" (some 0) with kind := .array 8 .byte, interfaces := #[7, 4], accessFlags := 1041 }

/-- the primitive int -/
def k10 : Class := { plain "int" none with kind := .primitive 'I', accessFlags := 0x411 }
/-- [I -/
def k11 : Class := { plain "[I" (some 0) with kind := .array 10 .int, interfaces := #[7, 4], accessFlags := 1041 }

/-- [Lcom/example/dectx/dectx/Isolation; -/
def k12 : Class := { plain "[Lcom/example/dectx/dectx/Isolation;" (some 0) with kind := .array 6 (.object "com/example/dectx/dectx/Isolation"), interfaces := #[7, 4], accessFlags := 1041 }

def heap : Heap := #[{ cls := 6, slots := #[.ref 2, .ref 3, .ref 4, .ref 5, .ref 6, .ref 1], vm := .statics 6 },
  { cls := 12, slots := #[.ref 2, .ref 3, .ref 4, .ref 5, .ref 6], vm := .none },
  { cls := 6, slots := #[.null, .int 0, .int 0, .int (-1)], vm := .none },
  { cls := 6, slots := #[.null, .int 1, .int 0, .int 1], vm := .none },
  { cls := 6, slots := #[.null, .int 2, .int 0, .int 2], vm := .none },
  { cls := 6, slots := #[.null, .int 3, .int 0, .int 4], vm := .none },
  { cls := 6, slots := #[.null, .int 4, .int 0, .int 8], vm := .none }]
def classes : Array Class := #[k0, k1, k2, k3, k4, k5, k6, k7, k8, k9, k10, k11, k12]
def interned : List (Array UInt16 × Addr) := []
def slotsUsed : Nat := 31
def theMethod : MethodId := ⟨1, 1⟩
def args0 : Array Value := #[.int 4, .int 0]
def aboutOver (below : List Frame) : State where
  vm := { classes := classes, interned := interned.toArray }
  heap := heap
  slotsUsed := slotsUsed
  threads := #[{ frames := .invoking theMethod args0 :: below }]
def below0 : List Frame := [.native { method := ⟨0, 0⟩, args := #[] }]
def about1 : State := aboutOver below0
def p0 : Program := .bare "" "" ""
def e0 : Env := launch0.env 0 0 0
theorem w_frames : about1.frames = Frame.invoking theMethod args0 :: below0 := rfl
set_option maxRecDepth 65536 in
theorem w_args : argsFit about1.vm theMethod args0 = true := by decide +kernel
set_option maxRecDepth 65536 in
theorem w_heap : heapFits about1 = true := by decide +kernel
set_option maxRecDepth 65536 in
theorem w_runnable : about1.curStatus? = some .runnable := by decide +kernel
set_option maxRecDepth 65536 in
theorem w_alone : about1.alone = true := by decide +kernel
set_option maxRecDepth 65536 in
theorem w_named : about1.methodNamed? x = some theMethod := by decide +kernel
set_option maxRecDepth 65536 in
theorem w_hears : about1.hears theMethod below0 = true := by decide +kernel
set_option maxRecDepth 65536 in
theorem w_ripe : about1.ripe theMethod args0 below0 = true := by decide +kernel
theorem w_running : about1.status = .running := rfl
set_option maxRecDepth 65536 in
theorem w_room : about1.hasRoom e0.platform room_1 = true :=
  launch0.hasRoom_least _ room_1 (by decide +kernel) (by decide +kernel) (by decide +kernel) (by decide +kernel) (by decide +kernel) (by decide +kernel)
theorem allAtoms_all (ts : List Jvm.Cond) (a : Array Jvm.Value) (st : Jvm.State) : (allAtoms ts).before a st = ts.all (fun c => c.before a st) := by
  induction ts with
  | nil => rfl
  | cons c t ih =>
    show (Jvm.Cond.and c (allAtoms t)).before a st = _
    rw [Jvm.Cond.before_and, ih, List.all_cons]
def words1 : List Jvm.Cond := Jvm.Cond.code x code maxLocals ret :: tables_1
/-- a 'code' word, met by the world's own term for the bytes: nothing is compared byte by byte -/
theorem code_word {y : MethodName} {bytes : ByteArray} {mx : Nat} {rt : Option FieldType} {a : Array Value} {s : State} {m : MethodId} {meth : Method} {c : Code} (h1 : s.methodNamed? y = some m) (h2 : s.vm.method? m = some meth) (h3 : meth.code = some c) (h4 : c.code = bytes)
    (h5 : (c.maxLocals == mx && c.exceptionTable.isEmpty && decide (c.maxStack ≤ mostOperands) && decide (meth.sig.returnType = rt) && !meth.locks && decide (parseMethodDescriptor y.desc = some meth.sig)) = true) : (Jvm.Cond.code y bytes mx rt).before a s = true := by
  simp only [Bool.and_eq_true, beq_iff_eq, Bool.not_eq_true', decide_eq_true_eq] at h5
  obtain ⟨⟨⟨⟨⟨g1, g2⟩, g3⟩, g4⟩, g5⟩, g6⟩ := h5
  simp [Cond.before, Cond.holds, Cond.value, h1, h2, h3, h4, g1, g2, g3, g4, g5, g6]
def isCode : Jvm.Cond → Bool
  | .code _ _ _ _ => true
  | _ => false
theorem all_split {L : List Jvm.Cond} {P : Jvm.Cond → Bool} (h1 : L.all (fun c => isCode c || P c) = true) (h2 : ∀ c ∈ L.filter isCode, P c = true) : L.all P = true := by
  refine List.all_eq_true.mpr fun c hc => ?_
  have h := List.all_eq_true.mp h1 c hc
  rcases Bool.eq_false_or_eq_true (isCode c) with hi | hi
  · exact h2 c (List.mem_filter.mpr ⟨hc, hi⟩)
  · simpa [hi] using h
set_option maxRecDepth 65536 in
theorem w_c0 : (Jvm.Cond.code x code maxLocals ret).before args0 about1 = true := code_word (m := ⟨1, 1⟩) (meth := k1m1) (c := k1c1) (by decide +kernel) rfl rfl rfl (by decide +kernel)
set_option maxRecDepth 65536 in
theorem w_c1 : (Jvm.Cond.code ({ cls := "com/example/dectx/dectx/Isolation", name := "ofJdbcLevel", desc := "(I)Lcom/example/dectx/dectx/Isolation;" } : Jvm.MethodName) prog_14_method_5_code (5 : Nat) (Option.some (Jvm.ClassFile.FieldType.object "com/example/dectx/dectx/Isolation"))).before args0 about1 = true := code_word (m := ⟨6, 1⟩) (meth := k6m1) (c := k6c1) (by decide +kernel) rfl rfl rfl (by decide +kernel)
set_option maxRecDepth 65536 in
theorem w_c2 : (Jvm.Cond.code ({ cls := "com/example/dectx/dectx/Isolation", name := "values", desc := "()[Lcom/example/dectx/dectx/Isolation;" } : Jvm.MethodName) prog_14_method_1_code (0 : Nat) (Option.some (Jvm.ClassFile.FieldType.array (Jvm.ClassFile.FieldType.object "com/example/dectx/dectx/Isolation")))).before args0 about1 = true := code_word (m := ⟨6, 0⟩) (meth := k6m0) (c := k6c0) (by decide +kernel) rfl rfl rfl (by decide +kernel)
def codes1 : List Jvm.Cond := [Jvm.Cond.code x code maxLocals ret, Jvm.Cond.code ({ cls := "com/example/dectx/dectx/Isolation", name := "ofJdbcLevel", desc := "(I)Lcom/example/dectx/dectx/Isolation;" } : Jvm.MethodName) prog_14_method_5_code (5 : Nat) (Option.some (Jvm.ClassFile.FieldType.object "com/example/dectx/dectx/Isolation")), Jvm.Cond.code ({ cls := "com/example/dectx/dectx/Isolation", name := "values", desc := "()[Lcom/example/dectx/dectx/Isolation;" } : Jvm.MethodName) prog_14_method_1_code (0 : Nat) (Option.some (Jvm.ClassFile.FieldType.array (Jvm.ClassFile.FieldType.object "com/example/dectx/dectx/Isolation")))]
set_option maxRecDepth 65536 in
theorem codes_eq : words1.filter isCode = codes1 := rfl
theorem w_codes : ∀ c ∈ words1.filter isCode, c.before args0 about1 = true := by
  rw [codes_eq]
  intro c hc
  simp only [codes1, List.mem_cons, List.not_mem_nil, or_false] at hc
  rcases hc with rfl | rfl | rfl
  · exact w_c0
  · exact w_c1
  · exact w_c2
set_option maxRecDepth 65536 in
theorem w_t1 : (words1.take 24).all (fun c => isCode c || c.before args0 about1) = true := by decide +kernel
set_option maxRecDepth 65536 in
theorem w_t2 : (words1.drop 24).all (fun c => isCode c || c.before args0 about1) = true := by decide +kernel
theorem w_tables : (allAtoms (Jvm.Cond.code x code maxLocals ret :: tables_1)).before args0 about1 = true := by
  rw [allAtoms_all]
  show words1.all (fun c => c.before args0 about1) = true
  refine all_split ?_ w_codes
  rw [← List.take_append_drop 24 words1, List.all_append, w_t1, w_t2]
  rfl
set_option maxRecDepth 65536 in
theorem w_case : (Jvm.Cond.and given_1 narrow_1).before args0 about1 = true := by decide +kernel
theorem w_applies : (headSpec (Jvm.Cond.code x code maxLocals ret :: tables_1) room_1).applies x e0.platform about1 = true :=
  (Spec.applies_iff w_frames).mpr ⟨w_running, w_runnable, w_alone, w_named, w_hears, w_ripe, w_room, w_tables⟩
theorem atStart : AtStart classFile x code maxLocals ret World_1 tables_1 room_1 Calls_1 rest_1 Pre_1 launch0 p0 e0 about1 theMethod args0 below0 :=
  ⟨lists_1, trivial, launch0.admits_env _ _ _, launch0.least_env, fairChoices_fair.cas, fairChoices_fair.clock, w_frames, w_args, w_heap, w_applies, trivial, trivial, w_case⟩
end start1
theorem witness_1 : WitnessClaimed_1 := ⟨start1.p0, start1.e0, start1.about1, start1.theMethod, start1.args0, start1.below0, start1.atStart⟩
end Jvm.Pilot.@@N@@
