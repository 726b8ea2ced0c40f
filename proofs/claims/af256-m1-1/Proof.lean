import JvmDerived
import JvmDerived.Pilot.@@N@@Statement
import JvmDerived.Pilot.@@N@@Code
set_option linter.unusedVariables false
set_option linter.unusedSimpArgs false
namespace Jvm.RoadKit
open Sem ClassFile Op Lib Jvm.Stand Jvm.Free Jvm.LawKit
section Own
variable {p : Program} {l : Launch} {e : Env} {R : Room} {s : State} {m : MethodId} {args : Array Value} {below : List Frame} {meth : Method} {c : Code} {T : State} {locs : List Loc} {cells slots : Nat}
/-- the run from S ends by a return, with Qp of what it returns, the heap and the places written, within kc cells and ks slots -/
def OwnGo (p : Program) (e : Env) (below : List Frame) (s : State) (Qp : Option Value → Heap → List Loc → Prop) (kc ks : Nat) (S : State) : Prop :=
  ∃ s₂ o, Steps p.tables e below S s₂ ∧ s₂.status = .running ∧ Ended s₂ below o ∧ ∃ v L, o = .returned v ∧ Qp v s₂.heap L ∧ FrameEnd s o s₂ L kc ks
variable {Qp : Option Value → Heap → List Loc → Prop} {kc ks : Nat} {S S' : State}
theorem ownStep (h : ∀ t, Steps p.tables e below S' t → Steps p.tables e below S t) (k : OwnGo p e below s Qp kc ks S') : OwnGo p e below s Qp kc ks S := by
  obtain ⟨s₂, o, h1, r⟩ := k
  exact ⟨s₂, o, h _ h1, r⟩
theorem ownTrans (h : Steps p.tables e below S S') (k : OwnGo p e below s Qp kc ks S') : OwnGo p e below s Qp kc ks S := ownStep (fun _ q => h.trans q) k
theorem ownEnd (X : Stand p l e R s m args below meth c T locs cells slots) {v : Option Value} (hv : meth.sig.returnType = none → v = none) (hlk : meth.locks = false) (hc : cells ≤ kc) (hs : slots ≤ ks) (hq : Qp v T.heap locs)
    (hst : ∀ fs : List Frame, (∀ (f : JFrame) (acts : List Action), f.method = m → f.locked = none → f.entered = [] → (doReturn e (T.setTop f) acts v).1 = T.setFrames fs) → Steps p.tables e below S (T.setFrames fs)) : OwnGo p e below s Qp kc ks S := by
  obtain ⟨fs, hr, hrun, hended, hW, hsame⟩ := X.leave (v := v) hv hlk
  exact ⟨_, _, hst fs hr, hrun, hended, _, _, rfl, hq, ⟨_, rfl⟩, hW, hsame.mono hc hs⟩
theorem ownRetN (X : Stand p l e R s m args below meth c T locs cells slots) (hx : p.tables.exec = Jvm.exec) {pc : Nat} {Ls : Array Slot} {z : Int32} {t : FieldType} {rest : List Value} (hret : meth.sig.returnType = some t) (ht : t = .boolean ∨ t = .byte ∨ t = .char ∨ t = .short) (hd : decode c.code pc = .ok (.ireturn, 1)) (hlk : meth.locks = false) (hc : cells ≤ kc) (hs : slots ≤ ks) (hq : Qp (some (.int (nar t z))) T.heap locs) :
    OwnGo p e below s Qp kc ks (T.setTop (mkF m pc Ls (.int z :: rest))) :=
  ownEnd X (fun h => by rw [hret] at h; cases h) hlk hc hs hq (fun fs hr => retN X hx hret ht hd hr)
theorem ownRetI (X : Stand p l e R s m args below meth c T locs cells slots) (hx : p.tables.exec = Jvm.exec) {pc : Nat} {Ls : Array Slot} {z : Int32} {rest : List Value} (hret : meth.sig.returnType = some .int) (hd : decode c.code pc = .ok (.ireturn, 1)) (hlk : meth.locks = false) (hc : cells ≤ kc) (hs : slots ≤ ks) (hq : Qp (some (.int z)) T.heap locs) :
    OwnGo p e below s Qp kc ks (T.setTop (mkF m pc Ls (.int z :: rest))) :=
  ownEnd X (fun h => by rw [hret] at h; cases h) hlk hc hs hq (fun fs hr => retOut X hx hret rfl (Or.inl ⟨rfl, Or.inl rfl, z, rfl⟩) hd hr)
theorem ownRetA (X : Stand p l e R s m args below meth c T locs cells slots) (hx : p.tables.exec = Jvm.exec) {pc : Nat} {Ls : Array Slot} {w : Value} {t : FieldType} {rest : List Value} (hret : meth.sig.returnType = some t) (hn : narrow t w = w) (ht : t.isReference = true) (hw : w.isRef = true) (hd : decode c.code pc = .ok (.areturn, 1)) (hlk : meth.locks = false) (hc : cells ≤ kc) (hs : slots ≤ ks) (hq : Qp (some w) T.heap locs) :
    OwnGo p e below s Qp kc ks (T.setTop (mkF m pc Ls (w :: rest))) :=
  ownEnd X (fun h => by rw [hret] at h; cases h) hlk hc hs hq (fun fs hr => retOut X hx hret hn (Or.inr (Or.inr (Or.inr (Or.inr ⟨rfl, ht, hw⟩)))) hd hr)
theorem ownRetB (X : Stand p l e R s m args below meth c T locs cells slots) (hx : p.tables.exec = Jvm.exec) {pc : Nat} {Ls : Array Slot} {z : Int32} {t : FieldType} {rest : List Value} (hret : meth.sig.returnType = some t) (ht : t = .int ∨ t = .boolean ∨ t = .byte ∨ t = .char ∨ t = .short) (hn : narrow t (.int z) = .int z) (hd : decode c.code pc = .ok (.ireturn, 1)) (hlk : meth.locks = false) (hc : cells ≤ kc) (hs : slots ≤ ks) (hq : Qp (some (.int z)) T.heap locs) :
    OwnGo p e below s Qp kc ks (T.setTop (mkF m pc Ls (.int z :: rest))) :=
  ownEnd X (fun h => by rw [hret] at h; cases h) hlk hc hs hq (fun fs hr => retOut X hx hret hn (Or.inl ⟨rfl, ht, z, rfl⟩) hd hr)
theorem ownRet0 (X : Stand p l e R s m args below meth c T locs cells slots) (hx : p.tables.exec = Jvm.exec) {pc : Nat} {Ls : Array Slot} (hret : meth.sig.returnType = none) (hd : decode c.code pc = .ok (.return_, 1)) (hlk : meth.locks = false) (hc : cells ≤ kc) (hs : slots ≤ ks) (hq : Qp none T.heap locs) :
    OwnGo p e below s Qp kc ks (T.setTop (mkF m pc Ls [])) :=
  ownEnd X (fun _ => rfl) hlk hc hs hq (fun fs hr => X.returnOut hx hret hd hr)
end Own
section OwnWords
variable {args : Array Value} {first s : State} {o : Option Outcome} {idx : List Nat} {t u : Term} {k : Int32} {x : Addr}
theorem own_eqI (h : (Cond.eq t (.int k)).value args first o s idx = some true) : t.eval args first o idx s = some (.int k) := by
  simp only [Cond.value, Term.eval] at h
  cases ht : t.eval args first o idx s with
  | none => simp [ht] at h
  | some y => cases y <;> simp [ht] at h ⊢ <;> exact h
theorem own_eqR (h : (Cond.eq t u).value args first o s idx = some true) (hu : u.eval args first o idx s = some (.ref x)) : t.eval args first o idx s = some (.ref x) := by
  simp only [Cond.value, hu] at h
  cases ht : t.eval args first o idx s with
  | none => simp [ht] at h
  | some y => cases y <;> simp [ht] at h ⊢ <;> exact h
theorem own_fld {C n d : String} {v : Value} (ht : t.eval args s none [] s = some (.ref x)) (h : (Term.field t C n d).eval args s none [] s = some v) : Fld s s.heap x C n d v :=
  Fld.start (by rw [← fld_at ht]; exact h)
theorem own_len {n : Int32} (ht : t.eval args first o idx s = some (.ref x)) (h : (Term.length t).eval args first o idx s = some (.int n)) {cl : Cell} (hc : s.heap[x]? = some cl) : cl.slots.size < 2 ^ 31 ∧ cl.slots.size.toInt32 = n := by
  obtain ⟨x', cl', e1, e2, e3⟩ := Term.length_spec h
  cases ht.symm.trans e1
  have e4 : cl' = cl := Option.some.inj ((State.arrayAt?_spec e2).1.symm.trans hc)
  subst e4
  simp only [Term.eval, ht, e2, Option.bind_eq_bind, Option.bind_some] at h
  split at h <;> simp_all
end OwnWords
theorem own_pos {x : Int32} (h1 : ¬ x < 0) (h2 : ¬ x = 0) : (0 : Int32) < x := by
  rw [Int32.lt_iff_toInt_lt] at *
  have h3 : x.toInt ≠ (0 : Int32).toInt := fun q => h2 (Int32.toInt_inj.mp q)
  have h4 : (0 : Int32).toInt = 0 := rfl
  omega
theorem own_nlt {x : Int32} (h1 : (0 : Int32) < x) : ¬ x < 0 := by
  rw [Int32.lt_iff_toInt_lt] at *
  have h4 : (0 : Int32).toInt = 0 := rfl
  omega
end Jvm.RoadKit
namespace Jvm.Pilot.@@N@@
open Jvm Jvm.ClassFile Sem Op Lib Jvm.Free Jvm.Stand Jvm.LawKit Jvm.RoadKit Bundle Jvm.Pilot.@@N@@.Jvm.D
theorem d1_0 : decode method_2_code 0 = .ok (.iload_n 0, 1) := by decide +kernel
theorem d1_1 : decode method_2_code 1 = .ok (.iconst 3, 1) := by decide +kernel
theorem d1_2 : decode method_2_code 2 = .ok (.iand, 1) := by decide +kernel
theorem d1_3 : decode method_2_code 3 = .ok (.ifCond .ne 8, 3) := by decide +kernel
theorem d1_6 : decode method_2_code 6 = .ok (.iload_n 1, 1) := by decide +kernel
theorem d1_7 : decode method_2_code 7 = .ok (.i2b, 1) := by decide +kernel
theorem d1_8 : decode method_2_code 8 = .ok (.goto 7, 3) := by decide +kernel
theorem d1_11 : decode method_2_code 11 = .ok (.iload_n 0, 1) := by decide +kernel
theorem d1_12 : decode method_2_code 12 = .ok (.iconst 2, 1) := by decide +kernel
theorem d1_13 : decode method_2_code 13 = .ok (.ishr, 1) := by decide +kernel
theorem d1_14 : decode method_2_code 14 = .ok (.i2b, 1) := by decide +kernel
theorem d1_15 : decode method_2_code 15 = .ok (.ireturn, 1) := by decide +kernel
theorem d2_0 : decode prog_53_method_3_code 0 = .ok (.aload_n 0, 1) := by decide +kernel
theorem d2_1 : decode prog_53_method_3_code 1 = .ok (.arraylength, 1) := by decide +kernel
theorem d2_2 : decode prog_53_method_3_code 2 = .ok (.getstatic 36, 3) := by decide +kernel
theorem d2_5 : decode prog_53_method_3_code 5 = .ok (.arraylength, 1) := by decide +kernel
theorem d2_6 : decode prog_53_method_3_code 6 = .ok (.if_icmp .lt 40, 3) := by decide +kernel
theorem d2_9 : decode prog_53_method_3_code 9 = .ok (.aload_n 0, 1) := by decide +kernel
theorem d2_10 : decode prog_53_method_3_code 10 = .ok (.iconst 0, 1) := by decide +kernel
theorem d2_11 : decode prog_53_method_3_code 11 = .ok (.baload, 1) := by decide +kernel
theorem d2_12 : decode prog_53_method_3_code 12 = .ok (.getstatic 36, 3) := by decide +kernel
theorem d2_15 : decode prog_53_method_3_code 15 = .ok (.iconst 0, 1) := by decide +kernel
theorem d2_16 : decode prog_53_method_3_code 16 = .ok (.baload, 1) := by decide +kernel
theorem d2_17 : decode prog_53_method_3_code 17 = .ok (.if_icmp .ne 29, 3) := by decide +kernel
theorem d2_20 : decode prog_53_method_3_code 20 = .ok (.aload_n 0, 1) := by decide +kernel
theorem d2_21 : decode prog_53_method_3_code 21 = .ok (.iconst 1, 1) := by decide +kernel
theorem d2_22 : decode prog_53_method_3_code 22 = .ok (.baload, 1) := by decide +kernel
theorem d2_23 : decode prog_53_method_3_code 23 = .ok (.getstatic 36, 3) := by decide +kernel
theorem d2_26 : decode prog_53_method_3_code 26 = .ok (.iconst 1, 1) := by decide +kernel
theorem d2_27 : decode prog_53_method_3_code 27 = .ok (.baload, 1) := by decide +kernel
theorem d2_28 : decode prog_53_method_3_code 28 = .ok (.if_icmp .ne 18, 3) := by decide +kernel
theorem d2_31 : decode prog_53_method_3_code 31 = .ok (.aload_n 0, 1) := by decide +kernel
theorem d2_32 : decode prog_53_method_3_code 32 = .ok (.iconst 2, 1) := by decide +kernel
theorem d2_33 : decode prog_53_method_3_code 33 = .ok (.baload, 1) := by decide +kernel
theorem d2_34 : decode prog_53_method_3_code 34 = .ok (.getstatic 36, 3) := by decide +kernel
theorem d2_37 : decode prog_53_method_3_code 37 = .ok (.iconst 2, 1) := by decide +kernel
theorem d2_38 : decode prog_53_method_3_code 38 = .ok (.baload, 1) := by decide +kernel
theorem d2_39 : decode prog_53_method_3_code 39 = .ok (.if_icmp .ne 7, 3) := by decide +kernel
theorem d2_42 : decode prog_53_method_3_code 42 = .ok (.iconst 1, 1) := by decide +kernel
theorem d2_43 : decode prog_53_method_3_code 43 = .ok (.goto 4, 3) := by decide +kernel
theorem d2_46 : decode prog_53_method_3_code 46 = .ok (.iconst 0, 1) := by decide +kernel
theorem d2_47 : decode prog_53_method_3_code 47 = .ok (.ireturn, 1) := by decide +kernel
theorem own_pd0 : parseMethodDescriptor "(IC)B" = some ⟨[.int, .char], some .byte⟩ := by decide +kernel
theorem own_pd1 : parseMethodDescriptor "([B)Z" = some ⟨[(.array .byte)], some .boolean⟩ := by decide +kernel
def Q1 (Z : State) (p1 : Int32) (p2 : Int32) (r : Int32) (h0 : Heap) (n0 : Nat) (v : Option Value) (h : Heap) (L : List Loc) : Prop := v = some (.int r) ∧ Fr n0 L ∧ h = h0
theorem own_pn_rm1 : plainName "com/example/counterfoil/counterfoil/io/bai2/FieldsIsContinuationPinLaw" = true := by first | (simp [plainName, overriddenIn]; done) | decide +kernel
theorem own_ef_rm1 (m : MethodId) (x0 : Int32) (x1 : Int32) : entryFrame m #[(.int x0), (.int x1)] 2 = mkF m 0 #[.val (.int x0), .val (.int x1)] [] := by first | (simp [entryFrame, mkF, argsToLocals, Value.category]; done) | rfl
set_option maxRecDepth 65536 in
set_option maxHeartbeats 40000000 in
theorem rm1 (l : Launch) (Z : State) (a0 : Array Value) (hw : ∀ d ∈ tables_1, d.before a0 Z = true) (ws : List Jvm.Cond) (p1 : Int32) (p2 : Int32) (r : Int32) (h0 : Heap) (n0 : Nat) (O0 : Old Z n0 h0) (hr : (if (p1 &&& (3 : Int32)) = (0 : Int32) then (p2.toInt8.toInt32) else ((p1 >>> ((2 : Int32) &&& 31)).toInt8.toInt32)) = r) :
    MetFree l (⟨"com/example/counterfoil/counterfoil/io/bai2/FieldsIsContinuationPinLaw", "draw", "(IC)B"⟩ : MethodName) (head1 (Jvm.Cond.code (⟨"com/example/counterfoil/counterfoil/io/bai2/FieldsIsContinuationPinLaw", "draw", "(IC)B"⟩ : MethodName) method_2_code 2 (some .byte) :: ws) ({ frames := 0, cells := 0, slots := 0, locals := 0 } : Room)) (fun a U => a = #[(.int p1), (.int p2)] ∧ Z.Warmed39 U.vm ∧ U.heap = h0) (fun _ _ _ _ _ => True) (fun _ U o U' => ∃ v L, o = .returned v ∧ Q1 Z p1 p2 r h0 n0 v U'.heap L ∧ FrameEnd U o U' L ({ frames := 0, cells := 0, slots := 0, locals := 0 } : Room).cells ({ frames := 0, cells := 0, slots := 0, locals := 0 } : Room).slots) := by
  refine MetFree.of_bodySF (plainFor_of_name own_pn_rm1) hisR ?_
  intro p e s m args below meth c s₁ Bd hml0 hP hK
  obtain ⟨rfl, hZ, hh⟩ := hP
  have hx := Bd.exec
  have hby := Bd.bytes
  have hml : c.maxLocals = 2 := hml0
  have hown : s.vm.findClass "com/example/counterfoil/counterfoil/io/bai2/FieldsIsContinuationPinLaw" = some m.cls := findClass_of_methodNamed Bd.named
  have hnm := (name_of_methodNamed Bd.named Bd.method).1
  have X0 : Stand p l e ({ frames := 0, cells := 0, slots := 0, locals := 0 } : Room) s m #[(.int p1), (.int p2)] below meth c s₁ [] 0 0 := Stand.of_body Bd
  have e0 : s₁.heap = h0 := by rw [← hh, Bd.state]; rfl
  have N0 := Fr.nil n0
  show OwnGo p e below s (Q1 Z p1 p2 r h0 n0) ({ frames := 0, cells := 0, slots := 0, locals := 0 } : Room).cells ({ frames := 0, cells := 0, slots := 0, locals := 0 } : Room).slots (s₁.setTop (entryFrame m #[(.int p1), (.int p2)] 2))
  refine ownStep (fun _ k => castTop (own_ef_rm1 m p1 p2) k) ?_
  show OwnGo _ _ _ _ _ _ _ (s₁.setTop (mkF m 0 #[.val (.int p1), .val (.int p2)] []))
  refine ownStep (fun _ k => XS.iloadN X0.here hx rfl (hb hby d1_0) rfl k) ?_
  show OwnGo _ _ _ _ _ _ _ (s₁.setTop (mkF m 1 #[.val (.int p1), .val (.int p2)] [(.int p1)]))
  refine ownStep (fun _ k => XS.iconst X0.here hx rfl (hb hby d1_1) k) ?_
  show OwnGo _ _ _ _ _ _ _ (s₁.setTop (mkF m 2 #[.val (.int p1), .val (.int p2)] [(.int (3 : Int32)), (.int p1)]))
  refine ownStep (fun _ k => XS.iand X0.here hx rfl (hb hby d1_2) rfl k) ?_
  show OwnGo _ _ _ _ _ _ _ (s₁.setTop (mkF m 3 #[.val (.int p1), .val (.int p2)] [(.int (p1 &&& (3 : Int32)))]))
  by_cases h : (p1 &&& (3 : Int32)) = (0 : Int32)
  · skip
    refine ownStep (fun _ k => XS.ifNo X0.here hx rfl (hb hby d1_3) rfl ((if0 _ _).trans (teq h).2) k) ?_
    show OwnGo _ _ _ _ _ _ _ (s₁.setTop (mkF m 6 #[.val (.int p1), .val (.int p2)] []))
    refine ownStep (fun _ k => XS.iloadN X0.here hx rfl (hb hby d1_6) rfl k) ?_
    show OwnGo _ _ _ _ _ _ _ (s₁.setTop (mkF m 7 #[.val (.int p1), .val (.int p2)] [(.int p2)]))
    refine ownStep (fun _ k => XS.i2b X0.here hx rfl (hb hby d1_7) rfl k) ?_
    show OwnGo _ _ _ _ _ _ _ (s₁.setTop (mkF m 8 #[.val (.int p1), .val (.int p2)] [(.int (p2.toInt8.toInt32))]))
    refine ownStep (fun _ k => XS.goto X0.here hx rfl (pc0 := 8) (pc' := 15) rfl (hb hby d1_8) (by decide) (by decide) k) ?_
    show OwnGo _ _ _ _ _ _ _ (s₁.setTop (mkF m 15 #[.val (.int p1), .val (.int p2)] [(.int (p2.toInt8.toInt32))]))
    have eq15 : s₁.heap = h0 := e0
    exact ownRetB X0 hx (t := .byte) Bd.returns (by simp) (Jvm.Free.XT.narrow_b _) (hb hby d1_15) (BodyLoose.notSynchronized Bd) (by decide) (by decide) (by rw [eq15]; exact ⟨by rw [← hr, if_pos h], N0, rfl⟩)
  · skip
    refine ownStep (fun _ k => XS.ifYes X0.here hx rfl (pc0 := 3) (pc' := 11) rfl (hb hby d1_3) rfl ((if0 _ _).trans (feq h).2) (by decide) (by decide) k) ?_
    show OwnGo _ _ _ _ _ _ _ (s₁.setTop (mkF m 11 #[.val (.int p1), .val (.int p2)] []))
    refine ownStep (fun _ k => XS.iloadN X0.here hx rfl (hb hby d1_11) rfl k) ?_
    show OwnGo _ _ _ _ _ _ _ (s₁.setTop (mkF m 12 #[.val (.int p1), .val (.int p2)] [(.int p1)]))
    refine ownStep (fun _ k => XS.iconst X0.here hx rfl (hb hby d1_12) k) ?_
    show OwnGo _ _ _ _ _ _ _ (s₁.setTop (mkF m 13 #[.val (.int p1), .val (.int p2)] [(.int (2 : Int32)), (.int p1)]))
    refine ownStep (fun _ k => XS.ishr X0.here hx rfl (hb hby d1_13) rfl k) ?_
    show OwnGo _ _ _ _ _ _ _ (s₁.setTop (mkF m 14 #[.val (.int p1), .val (.int p2)] [(.int (p1 >>> ((2 : Int32) &&& 31)))]))
    refine ownStep (fun _ k => XS.i2b X0.here hx rfl (hb hby d1_14) rfl k) ?_
    show OwnGo _ _ _ _ _ _ _ (s₁.setTop (mkF m 15 #[.val (.int p1), .val (.int p2)] [(.int ((p1 >>> ((2 : Int32) &&& 31)).toInt8.toInt32))]))
    have eq15 : s₁.heap = h0 := e0
    exact ownRetB X0 hx (t := .byte) Bd.returns (by simp) (Jvm.Free.XT.narrow_b _) (hb hby d1_15) (BodyLoose.notSynchronized Bd) (by decide) (by decide) (by rw [eq15]; exact ⟨by rw [← hr, if_neg h], N0, rfl⟩)
def Q2s (Z : State) (a1 : Addr) (k1 : ClassId) (z : Int32) (vs : List Value) (wC : Addr) (kC : ClassId) (h0 : Heap) (n0 : Nat) (v : Option Value) (h : Heap) (L : List Loc) : Prop := v = some (.int 0) ∧ Fr n0 L ∧ h = h0
theorem own_pn_rm2s : plainName "com/example/counterfoil/counterfoil/io/bai2/Fields" = true := by first | (simp [plainName, overriddenIn]; done) | decide +kernel
theorem own_ef_rm2s (m : MethodId) (x0 : Addr) : entryFrame m #[(.ref x0)] 1 = mkF m 0 #[.val (.ref x0)] [] := by first | (simp [entryFrame, mkF, argsToLocals, Value.category]; done) | rfl
set_option maxRecDepth 65536 in
set_option maxHeartbeats 40000000 in
theorem rm2s (l : Launch) (Z : State) (a0 : Array Value) (hw : ∀ d ∈ tables_1, d.before a0 Z = true) (ws : List Jvm.Cond) (a1 : Addr) (k1 : ClassId) (z : Int32) (vs : List Value) (wC : Addr) (kC : ClassId) (h0 : Heap) (n0 : Nat) (O0 : Old Z n0 h0) (SC : Sta Z Z.heap "com/example/counterfoil/counterfoil/io/bai2/Fields" "CONTINUATION_START" "[B" (.ref wC)) (VC : Arv Z Z.heap wC kC .byte (3 : Int32) [.int 56, .int 56, .int 44] (.int 0)) (V1 : Arv Z h0 a1 k1 .byte z vs (.int 0)) (hz : z < (3 : Int32)) :
    MetFree l (⟨"com/example/counterfoil/counterfoil/io/bai2/Fields", "isContinuation", "([B)Z"⟩ : MethodName) (head1 (Jvm.Cond.code (⟨"com/example/counterfoil/counterfoil/io/bai2/Fields", "isContinuation", "([B)Z"⟩ : MethodName) prog_53_method_3_code 1 (some .boolean) :: ws) ({ frames := 0, cells := 0, slots := 0, locals := 0 } : Room)) (fun a U => a = #[(.ref a1)] ∧ Z.Warmed39 U.vm ∧ U.heap = h0) (fun _ _ _ _ _ => True) (fun _ U o U' => ∃ v L, o = .returned v ∧ Q2s Z a1 k1 z vs wC kC h0 n0 v U'.heap L ∧ FrameEnd U o U' L ({ frames := 0, cells := 0, slots := 0, locals := 0 } : Room).cells ({ frames := 0, cells := 0, slots := 0, locals := 0 } : Room).slots) := by
  refine MetFree.of_bodySF (plainFor_of_name own_pn_rm2s) hisR ?_
  intro p e s m args below meth c s₁ Bd hml0 hP hK
  obtain ⟨rfl, hZ, hh⟩ := hP
  have hx := Bd.exec
  have hby := Bd.bytes
  have hml : c.maxLocals = 1 := hml0
  have hown : s.vm.findClass "com/example/counterfoil/counterfoil/io/bai2/Fields" = some m.cls := findClass_of_methodNamed Bd.named
  have hnm := (name_of_methodNamed Bd.named Bd.method).1
  have X0 : Stand p l e ({ frames := 0, cells := 0, slots := 0, locals := 0 } : Room) s m #[(.ref a1)] below meth c s₁ [] 0 0 := Stand.of_body Bd
  have e0 : s₁.heap = h0 := by rw [← hh, Bd.state]; rfl
  have N0 := Fr.nil n0
  show OwnGo p e below s (Q2s Z a1 k1 z vs wC kC h0 n0) ({ frames := 0, cells := 0, slots := 0, locals := 0 } : Room).cells ({ frames := 0, cells := 0, slots := 0, locals := 0 } : Room).slots (s₁.setTop (entryFrame m #[(.ref a1)] 1))
  refine ownStep (fun _ k => castTop (own_ef_rm2s m a1) k) ?_
  show OwnGo _ _ _ _ _ _ _ (s₁.setTop (mkF m 0 #[.val (.ref a1)] []))
  refine ownStep (fun _ k => XS.aloadN X0.here hx rfl (hb hby d2_0) rfl rfl k) ?_
  show OwnGo _ _ _ _ _ _ _ (s₁.setTop (mkF m 1 #[.val (.ref a1)] [(.ref a1)]))
  obtain ⟨cla1, Ara1, qa1, Sa1, Pa1, Ha1, Ga1⟩ := id V1
  refine ownStep (X0.arraylength hx (by rw [e0]; exact Ara1.1) (State.isArrayOf_alike hZ.alike Ara1.2.1) (g := (mkF m 1 #[.val (.ref a1)] [(.ref a1)])) rfl rfl (hb hby d2_1)) ?_
  rw [len_of Sa1 Pa1]
  show OwnGo _ _ _ _ _ _ _ (s₁.setTop (mkF m 2 #[.val (.ref a1)] [(.int z)]))
  obtain ⟨T2, X2, e2, st2⟩ := getS2 X0 hx hZ hown (host := "") (Or.inl (hw _ (List.mem_of_getElem? (i := 9) rfl))) Via.refl e0 (SC.ext O0.2) (g := (mkF m 2 #[.val (.ref a1)] [(.int z)])) rfl (hb hby d2_2)
  refine ownStep st2 ?_
  show OwnGo _ _ _ _ _ _ _ (T2.setTop (mkF m 5 #[.val (.ref a1)] [(.ref wC), (.int z)]))
  obtain ⟨cla3, Ara3, qa3, Sa3, Pa3, Ha3, Ga3⟩ := id (VC.ext O0.2)
  refine ownStep (X2.arraylength hx (by rw [e2]; exact Ara3.1) (State.isArrayOf_alike hZ.alike Ara3.2.1) (g := (mkF m 5 #[.val (.ref a1)] [(.ref wC), (.int z)])) rfl rfl (hb hby d2_5)) ?_
  rw [len_of Sa3 Pa3]
  show OwnGo _ _ _ _ _ _ _ (T2.setTop (mkF m 6 #[.val (.ref a1)] [(.int (3 : Int32)), (.int z)]))
  refine ownStep (fun _ k => XS.icmpYes X2.here hx rfl (pc0 := 6) (pc' := 46) rfl (hb hby d2_6) rfl (tlt hz).1 (by decide) (by decide) k) ?_
  show OwnGo _ _ _ _ _ _ _ (T2.setTop (mkF m 46 #[.val (.ref a1)] []))
  refine ownStep (fun _ k => XS.iconst X2.here hx rfl (hb hby d2_46) k) ?_
  show OwnGo _ _ _ _ _ _ _ (T2.setTop (mkF m 47 #[.val (.ref a1)] [(.int (0 : Int32))]))
  have eq47 : T2.heap = h0 := e2
  exact ownRetN X2 hx (t := .boolean) Bd.returns (by simp) (hb hby d2_47) (BodyLoose.notSynchronized Bd) (by decide) (by decide) (by rw [eq47]; exact ⟨rfl, N0, rfl⟩)
def Q2 (Z : State) (a1 : Addr) (k1 : ClassId) (z : Int32) (vs : List Value) (c0 : Int32) (c1 : Int32) (c2 : Int32) (wC : Addr) (kC : ClassId) (r : Int32) (h0 : Heap) (n0 : Nat) (v : Option Value) (h : Heap) (L : List Loc) : Prop := v = some (.int r) ∧ Fr n0 L ∧ h = h0
theorem own_pn_rm2 : plainName "com/example/counterfoil/counterfoil/io/bai2/Fields" = true := by first | (simp [plainName, overriddenIn]; done) | decide +kernel
theorem own_ef_rm2 (m : MethodId) (x0 : Addr) : entryFrame m #[(.ref x0)] 1 = mkF m 0 #[.val (.ref x0)] [] := by first | (simp [entryFrame, mkF, argsToLocals, Value.category]; done) | rfl
set_option maxRecDepth 65536 in
set_option maxHeartbeats 40000000 in
theorem rm2 (l : Launch) (Z : State) (a0 : Array Value) (hw : ∀ d ∈ tables_1, d.before a0 Z = true) (ws : List Jvm.Cond) (a1 : Addr) (k1 : ClassId) (z : Int32) (vs : List Value) (c0 : Int32) (c1 : Int32) (c2 : Int32) (wC : Addr) (kC : ClassId) (r : Int32) (h0 : Heap) (n0 : Nat) (O0 : Old Z n0 h0) (SC : Sta Z Z.heap "com/example/counterfoil/counterfoil/io/bai2/Fields" "CONTINUATION_START" "[B" (.ref wC)) (VC : Arv Z Z.heap wC kC .byte (3 : Int32) [.int 56, .int 56, .int 44] (.int 0)) (V1 : Arv Z h0 a1 k1 .byte z vs (.int 0)) (hz : ¬ (z < (3 : Int32))) (z0 : (0 : Int32) < z) (z1 : (1 : Int32) < z) (z2 : (2 : Int32) < z) (u0 : vs.getD 0 (.int 0) = .int c0) (u1 : vs.getD 1 (.int 0) = .int c1) (u2 : vs.getD 2 (.int 0) = .int c2) (hr : (if c0 = (56 : Int32) ∧ c1 = (56 : Int32) ∧ c2 = (44 : Int32) then (1 : Int32) else 0) = r) :
    MetFree l (⟨"com/example/counterfoil/counterfoil/io/bai2/Fields", "isContinuation", "([B)Z"⟩ : MethodName) (head1 (Jvm.Cond.code (⟨"com/example/counterfoil/counterfoil/io/bai2/Fields", "isContinuation", "([B)Z"⟩ : MethodName) prog_53_method_3_code 1 (some .boolean) :: ws) ({ frames := 0, cells := 0, slots := 0, locals := 0 } : Room)) (fun a U => a = #[(.ref a1)] ∧ Z.Warmed39 U.vm ∧ U.heap = h0) (fun _ _ _ _ _ => True) (fun _ U o U' => ∃ v L, o = .returned v ∧ Q2 Z a1 k1 z vs c0 c1 c2 wC kC r h0 n0 v U'.heap L ∧ FrameEnd U o U' L ({ frames := 0, cells := 0, slots := 0, locals := 0 } : Room).cells ({ frames := 0, cells := 0, slots := 0, locals := 0 } : Room).slots) := by
  refine MetFree.of_bodySF (plainFor_of_name own_pn_rm2) hisR ?_
  intro p e s m args below meth c s₁ Bd hml0 hP hK
  obtain ⟨rfl, hZ, hh⟩ := hP
  have hx := Bd.exec
  have hby := Bd.bytes
  have hml : c.maxLocals = 1 := hml0
  have hown : s.vm.findClass "com/example/counterfoil/counterfoil/io/bai2/Fields" = some m.cls := findClass_of_methodNamed Bd.named
  have hnm := (name_of_methodNamed Bd.named Bd.method).1
  have X0 : Stand p l e ({ frames := 0, cells := 0, slots := 0, locals := 0 } : Room) s m #[(.ref a1)] below meth c s₁ [] 0 0 := Stand.of_body Bd
  have e0 : s₁.heap = h0 := by rw [← hh, Bd.state]; rfl
  have N0 := Fr.nil n0
  show OwnGo p e below s (Q2 Z a1 k1 z vs c0 c1 c2 wC kC r h0 n0) ({ frames := 0, cells := 0, slots := 0, locals := 0 } : Room).cells ({ frames := 0, cells := 0, slots := 0, locals := 0 } : Room).slots (s₁.setTop (entryFrame m #[(.ref a1)] 1))
  refine ownStep (fun _ k => castTop (own_ef_rm2 m a1) k) ?_
  show OwnGo _ _ _ _ _ _ _ (s₁.setTop (mkF m 0 #[.val (.ref a1)] []))
  refine ownStep (fun _ k => XS.aloadN X0.here hx rfl (hb hby d2_0) rfl rfl k) ?_
  show OwnGo _ _ _ _ _ _ _ (s₁.setTop (mkF m 1 #[.val (.ref a1)] [(.ref a1)]))
  obtain ⟨cla4, Ara4, qa4, Sa4, Pa4, Ha4, Ga4⟩ := id V1
  refine ownStep (X0.arraylength hx (by rw [e0]; exact Ara4.1) (State.isArrayOf_alike hZ.alike Ara4.2.1) (g := (mkF m 1 #[.val (.ref a1)] [(.ref a1)])) rfl rfl (hb hby d2_1)) ?_
  rw [len_of Sa4 Pa4]
  show OwnGo _ _ _ _ _ _ _ (s₁.setTop (mkF m 2 #[.val (.ref a1)] [(.int z)]))
  obtain ⟨T5, X5, e5, st5⟩ := getS2 X0 hx hZ hown (host := "") (Or.inl (hw _ (List.mem_of_getElem? (i := 9) rfl))) Via.refl e0 (SC.ext O0.2) (g := (mkF m 2 #[.val (.ref a1)] [(.int z)])) rfl (hb hby d2_2)
  refine ownStep st5 ?_
  show OwnGo _ _ _ _ _ _ _ (T5.setTop (mkF m 5 #[.val (.ref a1)] [(.ref wC), (.int z)]))
  obtain ⟨cla6, Ara6, qa6, Sa6, Pa6, Ha6, Ga6⟩ := id (VC.ext O0.2)
  refine ownStep (X5.arraylength hx (by rw [e5]; exact Ara6.1) (State.isArrayOf_alike hZ.alike Ara6.2.1) (g := (mkF m 5 #[.val (.ref a1)] [(.ref wC), (.int z)])) rfl rfl (hb hby d2_5)) ?_
  rw [len_of Sa6 Pa6]
  show OwnGo _ _ _ _ _ _ _ (T5.setTop (mkF m 6 #[.val (.ref a1)] [(.int (3 : Int32)), (.int z)]))
  refine ownStep (fun _ k => XS.icmpNo X5.here hx rfl (hb hby d2_6) rfl (flt hz).1 k) ?_
  show OwnGo _ _ _ _ _ _ _ (T5.setTop (mkF m 9 #[.val (.ref a1)] []))
  refine ownStep (fun _ k => XS.aloadN X5.here hx rfl (hb hby d2_9) rfl rfl k) ?_
  show OwnGo _ _ _ _ _ _ _ (T5.setTop (mkF m 10 #[.val (.ref a1)] [(.ref a1)]))
  refine ownStep (fun _ k => XS.iconst X5.here hx rfl (hb hby d2_10) k) ?_
  show OwnGo _ _ _ _ _ _ _ (T5.setTop (mkF m 11 #[.val (.ref a1)] [(.int (0 : Int32)), (.ref a1)]))
  obtain ⟨clb0, Arb0, qb0, Sb0, Pb0, Hb0, Gb0⟩ := id V1
  have hinb0 : ¬ ((0 : Int32) < 0 ∨ clb0.slots.size ≤ (0 : Int32).toNatClampNeg) := inb_of Sb0 ⟨by decide, z0⟩
  refine ownStep (X5.baloadBytes hx (j := (0 : Int32)) (v := (.int c0)) (by rw [e5]; exact Arb0.1) (State.isArrayOf_alike hZ.alike Arb0.2.1) Arb0.2.2 hinb0 (Has.at Hb0 hinb0 u0) (g := (mkF m 11 #[.val (.ref a1)] [(.int (0 : Int32)), (.ref a1)])) rfl rfl (hb hby d2_11)) ?_
  show OwnGo _ _ _ _ _ _ _ (T5.setTop (mkF m 12 #[.val (.ref a1)] [(.int c0)]))
  obtain ⟨T7, X7, e7, st7⟩ := getS2 X5 hx hZ hown (host := "") (Or.inl (hw _ (List.mem_of_getElem? (i := 9) rfl))) Via.refl e5 (SC.ext O0.2) (g := (mkF m 12 #[.val (.ref a1)] [(.int c0)])) rfl (hb hby d2_12)
  refine ownStep st7 ?_
  show OwnGo _ _ _ _ _ _ _ (T7.setTop (mkF m 15 #[.val (.ref a1)] [(.ref wC), (.int c0)]))
  refine ownStep (fun _ k => XS.iconst X7.here hx rfl (hb hby d2_15) k) ?_
  show OwnGo _ _ _ _ _ _ _ (T7.setTop (mkF m 16 #[.val (.ref a1)] [(.int (0 : Int32)), (.ref wC), (.int c0)]))
  obtain ⟨cla8, Ara8, qa8, Sa8, Pa8, Ha8, Ga8⟩ := id (VC.ext O0.2)
  have hina8 : ¬ ((0 : Int32) < 0 ∨ cla8.slots.size ≤ ((0 : Int32) : Int32).toNatClampNeg) := inb_of Sa8 ⟨by decide, by decide⟩
  refine ownStep (X7.baloadBytes hx (j := (0 : Int32)) (v := (.int (56 : Int32))) (by rw [e7]; exact Ara8.1) (State.isArrayOf_alike hZ.alike Ara8.2.1) Ara8.2.2 hina8 (Has.at Ha8 hina8 rfl) (g := (mkF m 16 #[.val (.ref a1)] [(.int (0 : Int32)), (.ref wC), (.int c0)])) rfl rfl (hb hby d2_16)) ?_
  show OwnGo _ _ _ _ _ _ _ (T7.setTop (mkF m 17 #[.val (.ref a1)] [(.int (56 : Int32)), (.int c0)]))
  by_cases hc0 : c0 = (56 : Int32)
  · skip
    refine ownStep (fun _ k => XS.icmpNo X7.here hx rfl (hb hby d2_17) rfl (teq hc0).2 k) ?_
    show OwnGo _ _ _ _ _ _ _ (T7.setTop (mkF m 20 #[.val (.ref a1)] []))
    refine ownStep (fun _ k => XS.aloadN X7.here hx rfl (hb hby d2_20) rfl rfl k) ?_
    show OwnGo _ _ _ _ _ _ _ (T7.setTop (mkF m 21 #[.val (.ref a1)] [(.ref a1)]))
    refine ownStep (fun _ k => XS.iconst X7.here hx rfl (hb hby d2_21) k) ?_
    show OwnGo _ _ _ _ _ _ _ (T7.setTop (mkF m 22 #[.val (.ref a1)] [(.int (1 : Int32)), (.ref a1)]))
    obtain ⟨clb1, Arb1, qb1, Sb1, Pb1, Hb1, Gb1⟩ := id V1
    have hinb1 : ¬ ((1 : Int32) < 0 ∨ clb1.slots.size ≤ (1 : Int32).toNatClampNeg) := inb_of Sb1 ⟨by decide, z1⟩
    refine ownStep (X7.baloadBytes hx (j := (1 : Int32)) (v := (.int c1)) (by rw [e7]; exact Arb1.1) (State.isArrayOf_alike hZ.alike Arb1.2.1) Arb1.2.2 hinb1 (Has.at Hb1 hinb1 u1) (g := (mkF m 22 #[.val (.ref a1)] [(.int (1 : Int32)), (.ref a1)])) rfl rfl (hb hby d2_22)) ?_
    show OwnGo _ _ _ _ _ _ _ (T7.setTop (mkF m 23 #[.val (.ref a1)] [(.int c1)]))
    obtain ⟨T9, X9, e9, st9⟩ := getS2 X7 hx hZ hown (host := "") (Or.inl (hw _ (List.mem_of_getElem? (i := 9) rfl))) Via.refl e7 (SC.ext O0.2) (g := (mkF m 23 #[.val (.ref a1)] [(.int c1)])) rfl (hb hby d2_23)
    refine ownStep st9 ?_
    show OwnGo _ _ _ _ _ _ _ (T9.setTop (mkF m 26 #[.val (.ref a1)] [(.ref wC), (.int c1)]))
    refine ownStep (fun _ k => XS.iconst X9.here hx rfl (hb hby d2_26) k) ?_
    show OwnGo _ _ _ _ _ _ _ (T9.setTop (mkF m 27 #[.val (.ref a1)] [(.int (1 : Int32)), (.ref wC), (.int c1)]))
    obtain ⟨cla10, Ara10, qa10, Sa10, Pa10, Ha10, Ga10⟩ := id (VC.ext O0.2)
    have hina10 : ¬ ((1 : Int32) < 0 ∨ cla10.slots.size ≤ ((1 : Int32) : Int32).toNatClampNeg) := inb_of Sa10 ⟨by decide, by decide⟩
    refine ownStep (X9.baloadBytes hx (j := (1 : Int32)) (v := (.int (56 : Int32))) (by rw [e9]; exact Ara10.1) (State.isArrayOf_alike hZ.alike Ara10.2.1) Ara10.2.2 hina10 (Has.at Ha10 hina10 rfl) (g := (mkF m 27 #[.val (.ref a1)] [(.int (1 : Int32)), (.ref wC), (.int c1)])) rfl rfl (hb hby d2_27)) ?_
    show OwnGo _ _ _ _ _ _ _ (T9.setTop (mkF m 28 #[.val (.ref a1)] [(.int (56 : Int32)), (.int c1)]))
    by_cases hc1 : c1 = (56 : Int32)
    · skip
      refine ownStep (fun _ k => XS.icmpNo X9.here hx rfl (hb hby d2_28) rfl (teq hc1).2 k) ?_
      show OwnGo _ _ _ _ _ _ _ (T9.setTop (mkF m 31 #[.val (.ref a1)] []))
      refine ownStep (fun _ k => XS.aloadN X9.here hx rfl (hb hby d2_31) rfl rfl k) ?_
      show OwnGo _ _ _ _ _ _ _ (T9.setTop (mkF m 32 #[.val (.ref a1)] [(.ref a1)]))
      refine ownStep (fun _ k => XS.iconst X9.here hx rfl (hb hby d2_32) k) ?_
      show OwnGo _ _ _ _ _ _ _ (T9.setTop (mkF m 33 #[.val (.ref a1)] [(.int (2 : Int32)), (.ref a1)]))
      obtain ⟨clb2, Arb2, qb2, Sb2, Pb2, Hb2, Gb2⟩ := id V1
      have hinb2 : ¬ ((2 : Int32) < 0 ∨ clb2.slots.size ≤ (2 : Int32).toNatClampNeg) := inb_of Sb2 ⟨by decide, z2⟩
      refine ownStep (X9.baloadBytes hx (j := (2 : Int32)) (v := (.int c2)) (by rw [e9]; exact Arb2.1) (State.isArrayOf_alike hZ.alike Arb2.2.1) Arb2.2.2 hinb2 (Has.at Hb2 hinb2 u2) (g := (mkF m 33 #[.val (.ref a1)] [(.int (2 : Int32)), (.ref a1)])) rfl rfl (hb hby d2_33)) ?_
      show OwnGo _ _ _ _ _ _ _ (T9.setTop (mkF m 34 #[.val (.ref a1)] [(.int c2)]))
      obtain ⟨T11, X11, e11, st11⟩ := getS2 X9 hx hZ hown (host := "") (Or.inl (hw _ (List.mem_of_getElem? (i := 9) rfl))) Via.refl e9 (SC.ext O0.2) (g := (mkF m 34 #[.val (.ref a1)] [(.int c2)])) rfl (hb hby d2_34)
      refine ownStep st11 ?_
      show OwnGo _ _ _ _ _ _ _ (T11.setTop (mkF m 37 #[.val (.ref a1)] [(.ref wC), (.int c2)]))
      refine ownStep (fun _ k => XS.iconst X11.here hx rfl (hb hby d2_37) k) ?_
      show OwnGo _ _ _ _ _ _ _ (T11.setTop (mkF m 38 #[.val (.ref a1)] [(.int (2 : Int32)), (.ref wC), (.int c2)]))
      obtain ⟨cla12, Ara12, qa12, Sa12, Pa12, Ha12, Ga12⟩ := id (VC.ext O0.2)
      have hina12 : ¬ ((2 : Int32) < 0 ∨ cla12.slots.size ≤ ((2 : Int32) : Int32).toNatClampNeg) := inb_of Sa12 ⟨by decide, by decide⟩
      refine ownStep (X11.baloadBytes hx (j := (2 : Int32)) (v := (.int (44 : Int32))) (by rw [e11]; exact Ara12.1) (State.isArrayOf_alike hZ.alike Ara12.2.1) Ara12.2.2 hina12 (Has.at Ha12 hina12 rfl) (g := (mkF m 38 #[.val (.ref a1)] [(.int (2 : Int32)), (.ref wC), (.int c2)])) rfl rfl (hb hby d2_38)) ?_
      show OwnGo _ _ _ _ _ _ _ (T11.setTop (mkF m 39 #[.val (.ref a1)] [(.int (44 : Int32)), (.int c2)]))
      by_cases hc2 : c2 = (44 : Int32)
      · skip
        refine ownStep (fun _ k => XS.icmpNo X11.here hx rfl (hb hby d2_39) rfl (teq hc2).2 k) ?_
        show OwnGo _ _ _ _ _ _ _ (T11.setTop (mkF m 42 #[.val (.ref a1)] []))
        refine ownStep (fun _ k => XS.iconst X11.here hx rfl (hb hby d2_42) k) ?_
        show OwnGo _ _ _ _ _ _ _ (T11.setTop (mkF m 43 #[.val (.ref a1)] [(.int (1 : Int32))]))
        refine ownStep (fun _ k => XS.goto X11.here hx rfl (pc0 := 43) (pc' := 47) rfl (hb hby d2_43) (by decide) (by decide) k) ?_
        show OwnGo _ _ _ _ _ _ _ (T11.setTop (mkF m 47 #[.val (.ref a1)] [(.int (1 : Int32))]))
        have eq47 : T11.heap = h0 := e11
        exact ownRetN X11 hx (t := .boolean) Bd.returns (by simp) (hb hby d2_47) (BodyLoose.notSynchronized Bd) (by decide) (by decide) (by rw [eq47]; exact ⟨(by rw [← hr, if_pos ⟨hc0, hc1, hc2⟩]; first | done | rfl), N0, rfl⟩)
      · skip
        refine ownStep (fun _ k => XS.icmpYes X11.here hx rfl (pc0 := 39) (pc' := 46) rfl (hb hby d2_39) rfl (feq hc2).2 (by decide) (by decide) k) ?_
        show OwnGo _ _ _ _ _ _ _ (T11.setTop (mkF m 46 #[.val (.ref a1)] []))
        refine ownStep (fun _ k => XS.iconst X11.here hx rfl (hb hby d2_46) k) ?_
        show OwnGo _ _ _ _ _ _ _ (T11.setTop (mkF m 47 #[.val (.ref a1)] [(.int (0 : Int32))]))
        have eq47 : T11.heap = h0 := e11
        exact ownRetN X11 hx (t := .boolean) Bd.returns (by simp) (hb hby d2_47) (BodyLoose.notSynchronized Bd) (by decide) (by decide) (by rw [eq47]; exact ⟨(by rw [← hr, if_neg (fun q => hc2 q.2.2)]; first | done | rfl), N0, rfl⟩)
    · skip
      refine ownStep (fun _ k => XS.icmpYes X9.here hx rfl (pc0 := 28) (pc' := 46) rfl (hb hby d2_28) rfl (feq hc1).2 (by decide) (by decide) k) ?_
      show OwnGo _ _ _ _ _ _ _ (T9.setTop (mkF m 46 #[.val (.ref a1)] []))
      refine ownStep (fun _ k => XS.iconst X9.here hx rfl (hb hby d2_46) k) ?_
      show OwnGo _ _ _ _ _ _ _ (T9.setTop (mkF m 47 #[.val (.ref a1)] [(.int (0 : Int32))]))
      have eq47 : T9.heap = h0 := e9
      exact ownRetN X9 hx (t := .boolean) Bd.returns (by simp) (hb hby d2_47) (BodyLoose.notSynchronized Bd) (by decide) (by decide) (by rw [eq47]; exact ⟨(by rw [← hr, if_neg (fun q => hc1 q.2.1)]; first | done | rfl), N0, rfl⟩)
  · skip
    refine ownStep (fun _ k => XS.icmpYes X7.here hx rfl (pc0 := 17) (pc' := 46) rfl (hb hby d2_17) rfl (feq hc0).2 (by decide) (by decide) k) ?_
    show OwnGo _ _ _ _ _ _ _ (T7.setTop (mkF m 46 #[.val (.ref a1)] []))
    refine ownStep (fun _ k => XS.iconst X7.here hx rfl (hb hby d2_46) k) ?_
    show OwnGo _ _ _ _ _ _ _ (T7.setTop (mkF m 47 #[.val (.ref a1)] [(.int (0 : Int32))]))
    have eq47 : T7.heap = h0 := e7
    exact ownRetN X7 hx (t := .boolean) Bd.returns (by simp) (hb hby d2_47) (BodyLoose.notSynchronized Bd) (by decide) (by decide) (by rw [eq47]; exact ⟨(by rw [← hr, if_neg (fun q => hc0 q.1)]; first | done | rfl), N0, rfl⟩)
theorem own_cases8 (x : Int32) : (x &&& (7 : Int32)) = 0 ∨ (x &&& (7 : Int32)) = 1 ∨ (x &&& (7 : Int32)) = 2 ∨ (x &&& (7 : Int32)) = 3 ∨ (x &&& (7 : Int32)) = 4 ∨ (x &&& (7 : Int32)) = 5 ∨ (x &&& (7 : Int32)) = 6 ∨ (x &&& (7 : Int32)) = 7 := by
  have h1 := c_mask x (7 : Int32) 3 (by decide) (by decide)
  generalize (x &&& (7 : Int32)) = k at *
  have e : ∀ j : Int32, k.toInt = j.toInt → k = j := fun j q => Int32.toInt_inj.mp q
  have h3 : k.toInt = 0 ∨ k.toInt = 1 ∨ k.toInt = 2 ∨ k.toInt = 3 ∨ k.toInt = 4 ∨ k.toInt = 5 ∨ k.toInt = 6 ∨ k.toInt = 7 := by omega
  rcases h3 with h | h | h | h | h | h | h | h
  · exact Or.inl (e 0 h)
  · exact Or.inr (Or.inl (e 1 h))
  · exact Or.inr (Or.inr (Or.inl (e 2 h)))
  · exact Or.inr (Or.inr (Or.inr (Or.inl (e 3 h))))
  · exact Or.inr (Or.inr (Or.inr (Or.inr (Or.inl (e 4 h)))))
  · exact Or.inr (Or.inr (Or.inr (Or.inr (Or.inr (Or.inl (e 5 h))))))
  · exact Or.inr (Or.inr (Or.inr (Or.inr (Or.inr (Or.inr (Or.inl (e 6 h)))))))
  · exact Or.inr (Or.inr (Or.inr (Or.inr (Or.inr (Or.inr (Or.inr (e 7 h)))))))
theorem own_nar {p c r : Int32} (h : (if (p &&& (3 : Int32)) = (0 : Int32) then (c.toInt8.toInt32) else ((p >>> ((2 : Int32) &&& 31)).toInt8.toInt32)) = r) : r.toInt8.toInt32 = r := by
  have q : ∀ x : Int32, (x.toInt8.toInt32).toInt8.toInt32 = x.toInt8.toInt32 := fun x => by simp
  rw [← h]; split <;> exact q _
def Q0 (Z : State) (p0 : Int32) (p1 : Int32) (p2 : Int32) (p3 : Int32) (p4 : Int32) (wC : Addr) (kC : ClassId) (h0 : Heap) (n0 : Nat) (v : Option Value) (h : Heap) (L : List Loc) : Prop := v = some (.int 1) ∧ Fr n0 L
theorem own_pn_rm0 : plainName "com/example/counterfoil/counterfoil/io/bai2/FieldsIsContinuationPinLaw" = true := by first | (simp [plainName, overriddenIn]; done) | decide +kernel
theorem own_ef_rm0 (m : MethodId) (x0 : Int32) (x1 : Int32) (x2 : Int32) (x3 : Int32) (x4 : Int32) : entryFrame m #[(.int x0), (.int x1), (.int x2), (.int x3), (.int x4)] maxLocals = mkF m 0 #[.val (.int x0), .val (.int x1), .val (.int x2), .val (.int x3), .val (.int x4), .unset, .unset, .unset, .unset, .unset, .unset] [] := by first | (simp [entryFrame, mkF, argsToLocals, Value.category, maxLocals]; done) | rfl
set_option maxRecDepth 65536 in
set_option maxHeartbeats 40000000 in
theorem rm0 (l : Launch) (Z : State) (a0 : Array Value) (hw : ∀ d ∈ tables_1, d.before a0 Z = true) (ws : List Jvm.Cond) (p0 : Int32) (p1 : Int32) (p2 : Int32) (p3 : Int32) (p4 : Int32) (wC : Addr) (kC : ClassId) (h0 : Heap) (n0 : Nat) (O0 : Old Z n0 h0) (SC : Sta Z Z.heap "com/example/counterfoil/counterfoil/io/bai2/Fields" "CONTINUATION_START" "[B" (.ref wC)) (VC : Arv Z Z.heap wC kC .byte (3 : Int32) [.int 56, .int 56, .int 44] (.int 0)) :
    MetFree l x (head1 (Jvm.Cond.code x code maxLocals ret :: ws) room_1) (fun a U => a = #[(.int p0), (.int p1), (.int p2), (.int p3), (.int p4)] ∧ Z.Warmed39 U.vm ∧ U.heap = h0) (fun _ _ _ _ _ => True) (fun _ U o U' => ∃ v L, o = .returned v ∧ Q0 Z p0 p1 p2 p3 p4 wC kC h0 n0 v U'.heap L ∧ FrameEnd U o U' L room_1.cells room_1.slots) := by
  refine MetFree.of_bodySF (plainFor_of_name own_pn_rm0) hisR ?_
  intro p e s m args below meth c s₁ Bd hml0 hP hK
  obtain ⟨rfl, hZ, hh⟩ := hP
  have hx := Bd.exec
  have hby := Bd.bytes
  have hml : c.maxLocals = 11 := hml0
  have hown : s.vm.findClass "com/example/counterfoil/counterfoil/io/bai2/FieldsIsContinuationPinLaw" = some m.cls := findClass_of_methodNamed Bd.named
  have hnm := (name_of_methodNamed Bd.named Bd.method).1
  have X0 : Stand p l e room_1 s m #[(.int p0), (.int p1), (.int p2), (.int p3), (.int p4)] below meth c s₁ [] 0 0 := Stand.of_body Bd
  have e0 : s₁.heap = h0 := by rw [← hh, Bd.state]; rfl
  have N0 := Fr.nil n0
  show OwnGo p e below s (Q0 Z p0 p1 p2 p3 p4 wC kC h0 n0) room_1.cells room_1.slots (s₁.setTop (entryFrame m #[(.int p0), (.int p1), (.int p2), (.int p3), (.int p4)] maxLocals))
  refine ownStep (fun _ k => castTop (own_ef_rm0 m p0 p1 p2 p3 p4) k) ?_
  show OwnGo _ _ _ _ _ _ _ (s₁.setTop (mkF m 0 #[.val (.int p0), .val (.int p1), .val (.int p2), .val (.int p3), .val (.int p4), .unset, .unset, .unset, .unset, .unset, .unset] []))
  obtain ⟨cb1, hb1⟩ : ∃ z, (if (p1 &&& (3 : Int32)) = (0 : Int32) then ((56 : Int32).toInt8.toInt32) else ((p1 >>> ((2 : Int32) &&& 31)).toInt8.toInt32)) = z := ⟨_, rfl⟩
  have nb1 := own_nar hb1
  obtain ⟨cb2, hb2⟩ : ∃ z, (if (p2 &&& (3 : Int32)) = (0 : Int32) then ((56 : Int32).toInt8.toInt32) else ((p2 >>> ((2 : Int32) &&& 31)).toInt8.toInt32)) = z := ⟨_, rfl⟩
  have nb2 := own_nar hb2
  obtain ⟨cb3, hb3⟩ : ∃ z, (if (p3 &&& (3 : Int32)) = (0 : Int32) then ((44 : Int32).toInt8.toInt32) else ((p3 >>> ((2 : Int32) &&& 31)).toInt8.toInt32)) = z := ⟨_, rfl⟩
  have nb3 := own_nar hb3
  refine ownStep (fun _ k => XS.iloadN X0.here hx rfl (hb hby at_0) rfl k) ?_
  show OwnGo _ _ _ _ _ _ _ (s₁.setTop (mkF m 1 #[.val (.int p0), .val (.int p1), .val (.int p2), .val (.int p3), .val (.int p4), .unset, .unset, .unset, .unset, .unset, .unset] [(.int p0)]))
  refine ownStep (fun _ k => XS.bipush X0.here hx rfl (hb hby at_1) k) ?_
  show OwnGo _ _ _ _ _ _ _ (s₁.setTop (mkF m 3 #[.val (.int p0), .val (.int p1), .val (.int p2), .val (.int p3), .val (.int p4), .unset, .unset, .unset, .unset, .unset, .unset] [(.int (7 : Int32)), (.int p0)]))
  refine ownStep (fun _ k => XS.iand X0.here hx rfl (hb hby at_3) rfl k) ?_
  show OwnGo _ _ _ _ _ _ _ (s₁.setTop (mkF m 4 #[.val (.int p0), .val (.int p1), .val (.int p2), .val (.int p3), .val (.int p4), .unset, .unset, .unset, .unset, .unset, .unset] [(.int (p0 &&& (7 : Int32)))]))
  refine ownStep (fun _ k => XS.istore X0.here hx rfl (hb hby at_4) rfl (l' := #[.val (.int p0), .val (.int p1), .val (.int p2), .val (.int p3), .val (.int p4), .val (.int (p0 &&& (7 : Int32))), .unset, .unset, .unset, .unset, .unset]) rfl k) ?_
  show OwnGo _ _ _ _ _ _ _ (s₁.setTop (mkF m 6 #[.val (.int p0), .val (.int p1), .val (.int p2), .val (.int p3), .val (.int p4), .val (.int (p0 &&& (7 : Int32))), .unset, .unset, .unset, .unset, .unset] []))
  refine ownStep (fun _ k => XS.iloadN X0.here hx rfl (hb hby at_6) rfl k) ?_
  show OwnGo _ _ _ _ _ _ _ (s₁.setTop (mkF m 7 #[.val (.int p0), .val (.int p1), .val (.int p2), .val (.int p3), .val (.int p4), .val (.int (p0 &&& (7 : Int32))), .unset, .unset, .unset, .unset, .unset] [(.int p1)]))
  refine ownStep (fun _ k => XS.bipush X0.here hx rfl (hb hby at_7) k) ?_
  show OwnGo _ _ _ _ _ _ _ (s₁.setTop (mkF m 9 #[.val (.int p0), .val (.int p1), .val (.int p2), .val (.int p3), .val (.int p4), .val (.int (p0 &&& (7 : Int32))), .unset, .unset, .unset, .unset, .unset] [(.int (56 : Int32)), (.int p1)]))
  obtain ⟨_, _, ⟨T13, L13, k13, n13⟩, -, X13, ⟨Lc13, hQ13, l13, y13, z13⟩, st13⟩ := Jvm.LawKit.callS X0 hx (y := (⟨"com/example/counterfoil/counterfoil/io/bai2/FieldsIsContinuationPinLaw", "draw", "(IC)B"⟩ : MethodName)) hown (mvT hZ (hw _ (List.mem_of_getElem? (i := 0) rfl))) (mvT hZ (hw _ (List.mem_of_getElem? (i := 1) rfl))) (mvT hZ (hw _ (List.mem_of_getElem? (i := 2) rfl))) (mvT hZ (hw _ (List.mem_of_getElem? (i := 3) rfl))) (by decide) (backOf (W := 0) (rm1 l Z a0 hw [] p1 (56 : Int32) cb1 h0 n0 O0 hb1) hZ (hw _ (List.mem_of_getElem? (i := 3) rfl)) (hw _ (List.mem_of_getElem? (i := 2) rfl)) (by decide) (by decide)) (g := (mkF m 9 #[.val (.int p0), .val (.int p1), .val (.int p2), .val (.int p3), .val (.int p4), .val (.int (p0 &&& (7 : Int32))), .unset, .unset, .unset, .unset, .unset] [(.int (56 : Int32)), (.int p1)])) rfl (by rw [hml]; rfl) (argsL := [(.int p1), (.int (56 : Int32))]) (rest := []) (lenOf own_pd0 rfl) rfl (by show 2 * 0 + _ ≤ _; exact Nat.le_of_eq rfl) (hb hby at_9) (fun _ _ => ⟨rfl, e0, (by decide : 0 + 0 ≤ _), (by decide : 0 + 0 ≤ _)⟩)
  dsimp only [Pt.U, Pt.locs, Pt.cells, Pt.slots] at X13 l13 y13 z13 st13 hQ13
  subst l13 y13 z13
  obtain ⟨rfl, N13q, e13⟩ := hQ13
  have N13 := Fr.app N0 N13q
  refine ownStep st13 ?_
  show OwnGo _ _ _ _ _ _ _ (T13.setTop (mkF m 12 #[.val (.int p0), .val (.int p1), .val (.int p2), .val (.int p3), .val (.int p4), .val (.int (p0 &&& (7 : Int32))), .unset, .unset, .unset, .unset, .unset] [(.int cb1)]))
  refine ownStep (fun _ k => XS.istore X13.here hx rfl (hb hby at_12) rfl (l' := #[.val (.int p0), .val (.int p1), .val (.int p2), .val (.int p3), .val (.int p4), .val (.int (p0 &&& (7 : Int32))), .val (.int cb1), .unset, .unset, .unset, .unset]) rfl k) ?_
  show OwnGo _ _ _ _ _ _ _ (T13.setTop (mkF m 14 #[.val (.int p0), .val (.int p1), .val (.int p2), .val (.int p3), .val (.int p4), .val (.int (p0 &&& (7 : Int32))), .val (.int cb1), .unset, .unset, .unset, .unset] []))
  refine ownStep (fun _ k => XS.iloadN X13.here hx rfl (hb hby at_14) rfl k) ?_
  show OwnGo _ _ _ _ _ _ _ (T13.setTop (mkF m 15 #[.val (.int p0), .val (.int p1), .val (.int p2), .val (.int p3), .val (.int p4), .val (.int (p0 &&& (7 : Int32))), .val (.int cb1), .unset, .unset, .unset, .unset] [(.int p2)]))
  refine ownStep (fun _ k => XS.bipush X13.here hx rfl (hb hby at_15) k) ?_
  show OwnGo _ _ _ _ _ _ _ (T13.setTop (mkF m 17 #[.val (.int p0), .val (.int p1), .val (.int p2), .val (.int p3), .val (.int p4), .val (.int (p0 &&& (7 : Int32))), .val (.int cb1), .unset, .unset, .unset, .unset] [(.int (56 : Int32)), (.int p2)]))
  obtain ⟨_, _, ⟨T14, L14, k14, n14⟩, -, X14, ⟨Lc14, hQ14, l14, y14, z14⟩, st14⟩ := Jvm.LawKit.callS X13 hx (y := (⟨"com/example/counterfoil/counterfoil/io/bai2/FieldsIsContinuationPinLaw", "draw", "(IC)B"⟩ : MethodName)) hown (mvT hZ (hw _ (List.mem_of_getElem? (i := 0) rfl))) (mvT hZ (hw _ (List.mem_of_getElem? (i := 1) rfl))) (mvT hZ (hw _ (List.mem_of_getElem? (i := 2) rfl))) (mvT hZ (hw _ (List.mem_of_getElem? (i := 3) rfl))) (by decide) (backOf (W := 0) (rm1 l Z a0 hw [] p2 (56 : Int32) cb2 h0 n0 O0 hb2) hZ (hw _ (List.mem_of_getElem? (i := 3) rfl)) (hw _ (List.mem_of_getElem? (i := 2) rfl)) (by decide) (by decide)) (g := (mkF m 17 #[.val (.int p0), .val (.int p1), .val (.int p2), .val (.int p3), .val (.int p4), .val (.int (p0 &&& (7 : Int32))), .val (.int cb1), .unset, .unset, .unset, .unset] [(.int (56 : Int32)), (.int p2)])) rfl (by rw [hml]; rfl) (argsL := [(.int p2), (.int (56 : Int32))]) (rest := []) (lenOf own_pd0 rfl) rfl (by show 2 * 0 + _ ≤ _; exact Nat.le_of_eq rfl) (hb hby at_17) (fun _ _ => ⟨rfl, e13, (by decide : 0 + 0 ≤ _), (by decide : 0 + 0 ≤ _)⟩)
  dsimp only [Pt.U, Pt.locs, Pt.cells, Pt.slots] at X14 l14 y14 z14 st14 hQ14
  subst l14 y14 z14
  obtain ⟨rfl, N14q, e14⟩ := hQ14
  have N14 := Fr.app N13 N14q
  refine ownStep st14 ?_
  show OwnGo _ _ _ _ _ _ _ (T14.setTop (mkF m 20 #[.val (.int p0), .val (.int p1), .val (.int p2), .val (.int p3), .val (.int p4), .val (.int (p0 &&& (7 : Int32))), .val (.int cb1), .unset, .unset, .unset, .unset] [(.int cb2)]))
  refine ownStep (fun _ k => XS.istore X14.here hx rfl (hb hby at_20) rfl (l' := #[.val (.int p0), .val (.int p1), .val (.int p2), .val (.int p3), .val (.int p4), .val (.int (p0 &&& (7 : Int32))), .val (.int cb1), .val (.int cb2), .unset, .unset, .unset]) rfl k) ?_
  show OwnGo _ _ _ _ _ _ _ (T14.setTop (mkF m 22 #[.val (.int p0), .val (.int p1), .val (.int p2), .val (.int p3), .val (.int p4), .val (.int (p0 &&& (7 : Int32))), .val (.int cb1), .val (.int cb2), .unset, .unset, .unset] []))
  refine ownStep (fun _ k => XS.iloadN X14.here hx rfl (hb hby at_22) rfl k) ?_
  show OwnGo _ _ _ _ _ _ _ (T14.setTop (mkF m 23 #[.val (.int p0), .val (.int p1), .val (.int p2), .val (.int p3), .val (.int p4), .val (.int (p0 &&& (7 : Int32))), .val (.int cb1), .val (.int cb2), .unset, .unset, .unset] [(.int p3)]))
  refine ownStep (fun _ k => XS.bipush X14.here hx rfl (hb hby at_23) k) ?_
  show OwnGo _ _ _ _ _ _ _ (T14.setTop (mkF m 25 #[.val (.int p0), .val (.int p1), .val (.int p2), .val (.int p3), .val (.int p4), .val (.int (p0 &&& (7 : Int32))), .val (.int cb1), .val (.int cb2), .unset, .unset, .unset] [(.int (44 : Int32)), (.int p3)]))
  obtain ⟨_, _, ⟨T15, L15, k15, n15⟩, -, X15, ⟨Lc15, hQ15, l15, y15, z15⟩, st15⟩ := Jvm.LawKit.callS X14 hx (y := (⟨"com/example/counterfoil/counterfoil/io/bai2/FieldsIsContinuationPinLaw", "draw", "(IC)B"⟩ : MethodName)) hown (mvT hZ (hw _ (List.mem_of_getElem? (i := 0) rfl))) (mvT hZ (hw _ (List.mem_of_getElem? (i := 1) rfl))) (mvT hZ (hw _ (List.mem_of_getElem? (i := 2) rfl))) (mvT hZ (hw _ (List.mem_of_getElem? (i := 3) rfl))) (by decide) (backOf (W := 0) (rm1 l Z a0 hw [] p3 (44 : Int32) cb3 h0 n0 O0 hb3) hZ (hw _ (List.mem_of_getElem? (i := 3) rfl)) (hw _ (List.mem_of_getElem? (i := 2) rfl)) (by decide) (by decide)) (g := (mkF m 25 #[.val (.int p0), .val (.int p1), .val (.int p2), .val (.int p3), .val (.int p4), .val (.int (p0 &&& (7 : Int32))), .val (.int cb1), .val (.int cb2), .unset, .unset, .unset] [(.int (44 : Int32)), (.int p3)])) rfl (by rw [hml]; rfl) (argsL := [(.int p3), (.int (44 : Int32))]) (rest := []) (lenOf own_pd0 rfl) rfl (by show 2 * 0 + _ ≤ _; exact Nat.le_of_eq rfl) (hb hby at_25) (fun _ _ => ⟨rfl, e14, (by decide : 0 + 0 ≤ _), (by decide : 0 + 0 ≤ _)⟩)
  dsimp only [Pt.U, Pt.locs, Pt.cells, Pt.slots] at X15 l15 y15 z15 st15 hQ15
  subst l15 y15 z15
  obtain ⟨rfl, N15q, e15⟩ := hQ15
  have N15 := Fr.app N14 N15q
  refine ownStep st15 ?_
  show OwnGo _ _ _ _ _ _ _ (T15.setTop (mkF m 28 #[.val (.int p0), .val (.int p1), .val (.int p2), .val (.int p3), .val (.int p4), .val (.int (p0 &&& (7 : Int32))), .val (.int cb1), .val (.int cb2), .unset, .unset, .unset] [(.int cb3)]))
  refine ownStep (fun _ k => XS.istore X15.here hx rfl (hb hby at_28) rfl (l' := #[.val (.int p0), .val (.int p1), .val (.int p2), .val (.int p3), .val (.int p4), .val (.int (p0 &&& (7 : Int32))), .val (.int cb1), .val (.int cb2), .val (.int cb3), .unset, .unset]) rfl k) ?_
  show OwnGo _ _ _ _ _ _ _ (T15.setTop (mkF m 30 #[.val (.int p0), .val (.int p1), .val (.int p2), .val (.int p3), .val (.int p4), .val (.int (p0 &&& (7 : Int32))), .val (.int cb1), .val (.int cb2), .val (.int cb3), .unset, .unset] []))
  refine ownStep (fun _ k => XS.iload X15.here hx rfl (hb hby at_30) rfl k) ?_
  show OwnGo _ _ _ _ _ _ _ (T15.setTop (mkF m 32 #[.val (.int p0), .val (.int p1), .val (.int p2), .val (.int p3), .val (.int p4), .val (.int (p0 &&& (7 : Int32))), .val (.int cb1), .val (.int cb2), .val (.int cb3), .unset, .unset] [(.int (p0 &&& (7 : Int32)))]))
  rcases own_cases8 p0 with hk | hk | hk | hk | hk | hk | hk | hk
  · rw [hk]
    show OwnGo _ _ _ _ _ _ _ (T15.setTop (mkF m 32 #[.val (.int p0), .val (.int p1), .val (.int p2), .val (.int p3), .val (.int p4), .val (.int (0 : Int32)), .val (.int cb1), .val (.int cb2), .val (.int cb3), .unset, .unset] [(.int (0 : Int32))]))
    obtain ⟨T16, h16, k16, X16, e16, E16, A16, st16⟩ := newP X15 hx hZ (hw _ (List.mem_of_getElem? (i := 4) rfl)) e15 (g := (mkF m 32 #[.val (.int p0), .val (.int p1), .val (.int p2), .val (.int p3), .val (.int p4), .val (.int (0 : Int32)), .val (.int cb1), .val (.int cb2), .val (.int cb3), .unset, .unset] [(.int (0 : Int32))])) rfl (hb hby at_32) rfl (by decide) (cap := 0) (by decide) (by decide) (by decide) (by decide)
    obtain ⟨b16, g16⟩ : ∃ z, z = h0.size := ⟨_, rfl⟩
    rw [← g16] at A16 st16
    refine ownStep st16 ?_
    have ge16 : n0 ≤ b16 := by rw [g16]; exact Nat.le_trans (Nat.le_of_eq O0.1.symm) O0.2.1
    have O16 := O0.ext E16
    show OwnGo _ _ _ _ _ _ _ (T16.setTop (mkF m 34 #[.val (.int p0), .val (.int p1), .val (.int p2), .val (.int p3), .val (.int p4), .val (.int (0 : Int32)), .val (.int cb1), .val (.int cb2), .val (.int cb3), .unset, .unset] [(.ref b16)]))
    have V16 : Arv Z h16 b16 k16 .byte (0 : Int32) [] (.int (0 : Int32)) := (Arv.new A16 (by decide)).pad (pad_rep [] (.int (0 : Int32)) 0)
    refine ownStep (fun _ k => XS.astore X16.here hx rfl (hb hby at_34) rfl rfl (l' := #[.val (.int p0), .val (.int p1), .val (.int p2), .val (.int p3), .val (.int p4), .val (.int (0 : Int32)), .val (.int cb1), .val (.int cb2), .val (.int cb3), .val (.ref b16), .unset]) rfl k) ?_
    show OwnGo _ _ _ _ _ _ _ (T16.setTop (mkF m 36 #[.val (.int p0), .val (.int p1), .val (.int p2), .val (.int p3), .val (.int p4), .val (.int (0 : Int32)), .val (.int cb1), .val (.int cb2), .val (.int cb3), .val (.ref b16), .unset] []))
    refine ownStep (fun _ k => XS.iload X16.here hx rfl (hb hby at_36) rfl k) ?_
    show OwnGo _ _ _ _ _ _ _ (T16.setTop (mkF m 38 #[.val (.int p0), .val (.int p1), .val (.int p2), .val (.int p3), .val (.int p4), .val (.int (0 : Int32)), .val (.int cb1), .val (.int cb2), .val (.int cb3), .val (.ref b16), .unset] [(.int (0 : Int32))]))
    refine ownStep (fun _ k => XS.ifYes X16.here hx rfl (pc0 := 38) (pc' := 47) rfl (hb hby at_38) rfl ((if0 _ _).trans (flt (by decide : ¬ ((0 : Int32) < (0 : Int32)))).2.2.2) (by decide) (by decide) k) ?_
    show OwnGo _ _ _ _ _ _ _ (T16.setTop (mkF m 47 #[.val (.int p0), .val (.int p1), .val (.int p2), .val (.int p3), .val (.int p4), .val (.int (0 : Int32)), .val (.int cb1), .val (.int cb2), .val (.int cb3), .val (.ref b16), .unset] []))
    refine ownStep (fun _ k => XS.iload X16.here hx rfl (hb hby at_47) rfl k) ?_
    show OwnGo _ _ _ _ _ _ _ (T16.setTop (mkF m 49 #[.val (.int p0), .val (.int p1), .val (.int p2), .val (.int p3), .val (.int p4), .val (.int (0 : Int32)), .val (.int cb1), .val (.int cb2), .val (.int cb3), .val (.ref b16), .unset] [(.int (0 : Int32))]))
    refine ownStep (fun _ k => XS.iconst X16.here hx rfl (hb hby at_49) k) ?_
    show OwnGo _ _ _ _ _ _ _ (T16.setTop (mkF m 50 #[.val (.int p0), .val (.int p1), .val (.int p2), .val (.int p3), .val (.int p4), .val (.int (0 : Int32)), .val (.int cb1), .val (.int cb2), .val (.int cb3), .val (.ref b16), .unset] [(.int (1 : Int32)), (.int (0 : Int32))]))
    refine ownStep (fun _ k => XS.icmpYes X16.here hx rfl (pc0 := 50) (pc' := 59) rfl (hb hby at_50) rfl (flt (by decide : ¬ ((1 : Int32) < (0 : Int32)))).2.2.2 (by decide) (by decide) k) ?_
    show OwnGo _ _ _ _ _ _ _ (T16.setTop (mkF m 59 #[.val (.int p0), .val (.int p1), .val (.int p2), .val (.int p3), .val (.int p4), .val (.int (0 : Int32)), .val (.int cb1), .val (.int cb2), .val (.int cb3), .val (.ref b16), .unset] []))
    refine ownStep (fun _ k => XS.iload X16.here hx rfl (hb hby at_59) rfl k) ?_
    show OwnGo _ _ _ _ _ _ _ (T16.setTop (mkF m 61 #[.val (.int p0), .val (.int p1), .val (.int p2), .val (.int p3), .val (.int p4), .val (.int (0 : Int32)), .val (.int cb1), .val (.int cb2), .val (.int cb3), .val (.ref b16), .unset] [(.int (0 : Int32))]))
    refine ownStep (fun _ k => XS.iconst X16.here hx rfl (hb hby at_61) k) ?_
    show OwnGo _ _ _ _ _ _ _ (T16.setTop (mkF m 62 #[.val (.int p0), .val (.int p1), .val (.int p2), .val (.int p3), .val (.int p4), .val (.int (0 : Int32)), .val (.int cb1), .val (.int cb2), .val (.int cb3), .val (.ref b16), .unset] [(.int (2 : Int32)), (.int (0 : Int32))]))
    refine ownStep (fun _ k => XS.icmpYes X16.here hx rfl (pc0 := 62) (pc' := 71) rfl (hb hby at_62) rfl (flt (by decide : ¬ ((2 : Int32) < (0 : Int32)))).2.2.2 (by decide) (by decide) k) ?_
    show OwnGo _ _ _ _ _ _ _ (T16.setTop (mkF m 71 #[.val (.int p0), .val (.int p1), .val (.int p2), .val (.int p3), .val (.int p4), .val (.int (0 : Int32)), .val (.int cb1), .val (.int cb2), .val (.int cb3), .val (.ref b16), .unset] []))
    refine ownStep (fun _ k => XS.iload X16.here hx rfl (hb hby at_71) rfl k) ?_
    show OwnGo _ _ _ _ _ _ _ (T16.setTop (mkF m 73 #[.val (.int p0), .val (.int p1), .val (.int p2), .val (.int p3), .val (.int p4), .val (.int (0 : Int32)), .val (.int cb1), .val (.int cb2), .val (.int cb3), .val (.ref b16), .unset] [(.int (0 : Int32))]))
    refine ownStep (fun _ k => XS.iconst X16.here hx rfl (hb hby at_73) k) ?_
    show OwnGo _ _ _ _ _ _ _ (T16.setTop (mkF m 74 #[.val (.int p0), .val (.int p1), .val (.int p2), .val (.int p3), .val (.int p4), .val (.int (0 : Int32)), .val (.int cb1), .val (.int cb2), .val (.int cb3), .val (.ref b16), .unset] [(.int (3 : Int32)), (.int (0 : Int32))]))
    refine ownStep (fun _ k => XS.icmpYes X16.here hx rfl (pc0 := 74) (pc' := 84) rfl (hb hby at_74) rfl (flt (by decide : ¬ ((3 : Int32) < (0 : Int32)))).2.2.2 (by decide) (by decide) k) ?_
    show OwnGo _ _ _ _ _ _ _ (T16.setTop (mkF m 84 #[.val (.int p0), .val (.int p1), .val (.int p2), .val (.int p3), .val (.int p4), .val (.int (0 : Int32)), .val (.int cb1), .val (.int cb2), .val (.int cb3), .val (.ref b16), .unset] []))
    refine ownStep (fun _ k => XS.iload X16.here hx rfl (hb hby at_84) rfl k) ?_
    show OwnGo _ _ _ _ _ _ _ (T16.setTop (mkF m 86 #[.val (.int p0), .val (.int p1), .val (.int p2), .val (.int p3), .val (.int p4), .val (.int (0 : Int32)), .val (.int cb1), .val (.int cb2), .val (.int cb3), .val (.ref b16), .unset] [(.int (0 : Int32))]))
    refine ownStep (fun _ k => XS.iconst X16.here hx rfl (hb hby at_86) k) ?_
    show OwnGo _ _ _ _ _ _ _ (T16.setTop (mkF m 87 #[.val (.int p0), .val (.int p1), .val (.int p2), .val (.int p3), .val (.int p4), .val (.int (0 : Int32)), .val (.int cb1), .val (.int cb2), .val (.int cb3), .val (.ref b16), .unset] [(.int (4 : Int32)), (.int (0 : Int32))]))
    refine ownStep (fun _ k => XS.icmpYes X16.here hx rfl (pc0 := 87) (pc' := 100) rfl (hb hby at_87) rfl (flt (by decide : ¬ ((4 : Int32) < (0 : Int32)))).2.2.2 (by decide) (by decide) k) ?_
    show OwnGo _ _ _ _ _ _ _ (T16.setTop (mkF m 100 #[.val (.int p0), .val (.int p1), .val (.int p2), .val (.int p3), .val (.int p4), .val (.int (0 : Int32)), .val (.int cb1), .val (.int cb2), .val (.int cb3), .val (.ref b16), .unset] []))
    refine ownStep (fun _ k => XS.iload X16.here hx rfl (hb hby at_100) rfl k) ?_
    show OwnGo _ _ _ _ _ _ _ (T16.setTop (mkF m 102 #[.val (.int p0), .val (.int p1), .val (.int p2), .val (.int p3), .val (.int p4), .val (.int (0 : Int32)), .val (.int cb1), .val (.int cb2), .val (.int cb3), .val (.ref b16), .unset] [(.int (0 : Int32))]))
    refine ownStep (fun _ k => XS.iconst X16.here hx rfl (hb hby at_102) k) ?_
    show OwnGo _ _ _ _ _ _ _ (T16.setTop (mkF m 103 #[.val (.int p0), .val (.int p1), .val (.int p2), .val (.int p3), .val (.int p4), .val (.int (0 : Int32)), .val (.int cb1), .val (.int cb2), .val (.int cb3), .val (.ref b16), .unset] [(.int (5 : Int32)), (.int (0 : Int32))]))
    refine ownStep (fun _ k => XS.icmpYes X16.here hx rfl (pc0 := 103) (pc' := 116) rfl (hb hby at_103) rfl (flt (by decide : ¬ ((5 : Int32) < (0 : Int32)))).2.2.2 (by decide) (by decide) k) ?_
    show OwnGo _ _ _ _ _ _ _ (T16.setTop (mkF m 116 #[.val (.int p0), .val (.int p1), .val (.int p2), .val (.int p3), .val (.int p4), .val (.int (0 : Int32)), .val (.int cb1), .val (.int cb2), .val (.int cb3), .val (.ref b16), .unset] []))
    refine ownStep (fun _ k => XS.iload X16.here hx rfl (hb hby at_116) rfl k) ?_
    show OwnGo _ _ _ _ _ _ _ (T16.setTop (mkF m 118 #[.val (.int p0), .val (.int p1), .val (.int p2), .val (.int p3), .val (.int p4), .val (.int (0 : Int32)), .val (.int cb1), .val (.int cb2), .val (.int cb3), .val (.ref b16), .unset] [(.int (0 : Int32))]))
    refine ownStep (fun _ k => XS.bipush X16.here hx rfl (hb hby at_118) k) ?_
    show OwnGo _ _ _ _ _ _ _ (T16.setTop (mkF m 120 #[.val (.int p0), .val (.int p1), .val (.int p2), .val (.int p3), .val (.int p4), .val (.int (0 : Int32)), .val (.int cb1), .val (.int cb2), .val (.int cb3), .val (.ref b16), .unset] [(.int (6 : Int32)), (.int (0 : Int32))]))
    refine ownStep (fun _ k => XS.icmpYes X16.here hx rfl (pc0 := 120) (pc' := 134) rfl (hb hby at_120) rfl (flt (by decide : ¬ ((6 : Int32) < (0 : Int32)))).2.2.2 (by decide) (by decide) k) ?_
    show OwnGo _ _ _ _ _ _ _ (T16.setTop (mkF m 134 #[.val (.int p0), .val (.int p1), .val (.int p2), .val (.int p3), .val (.int p4), .val (.int (0 : Int32)), .val (.int cb1), .val (.int cb2), .val (.int cb3), .val (.ref b16), .unset] []))
    refine ownStep (fun _ k => XS.iload X16.here hx rfl (hb hby at_134) rfl k) ?_
    show OwnGo _ _ _ _ _ _ _ (T16.setTop (mkF m 136 #[.val (.int p0), .val (.int p1), .val (.int p2), .val (.int p3), .val (.int p4), .val (.int (0 : Int32)), .val (.int cb1), .val (.int cb2), .val (.int cb3), .val (.ref b16), .unset] [(.int (0 : Int32))]))
    refine ownStep (fun _ k => XS.iconst X16.here hx rfl (hb hby at_136) k) ?_
    show OwnGo _ _ _ _ _ _ _ (T16.setTop (mkF m 137 #[.val (.int p0), .val (.int p1), .val (.int p2), .val (.int p3), .val (.int p4), .val (.int (0 : Int32)), .val (.int cb1), .val (.int cb2), .val (.int cb3), .val (.ref b16), .unset] [(.int (3 : Int32)), (.int (0 : Int32))]))
    refine ownStep (fun _ k => XS.icmpYes X16.here hx rfl (pc0 := 137) (pc' := 165) rfl (hb hby at_137) rfl (tlt (by decide : (0 : Int32) < (3 : Int32))).1 (by decide) (by decide) k) ?_
    show OwnGo _ _ _ _ _ _ _ (T16.setTop (mkF m 165 #[.val (.int p0), .val (.int p1), .val (.int p2), .val (.int p3), .val (.int p4), .val (.int (0 : Int32)), .val (.int cb1), .val (.int cb2), .val (.int cb3), .val (.ref b16), .unset] []))
    refine ownStep (fun _ k => XS.iconst X16.here hx rfl (hb hby at_165) k) ?_
    show OwnGo _ _ _ _ _ _ _ (T16.setTop (mkF m 166 #[.val (.int p0), .val (.int p1), .val (.int p2), .val (.int p3), .val (.int p4), .val (.int (0 : Int32)), .val (.int cb1), .val (.int cb2), .val (.int cb3), .val (.ref b16), .unset] [(.int (0 : Int32))]))
    refine ownStep (fun _ k => XS.istore X16.here hx rfl (hb hby at_166) rfl (l' := #[.val (.int p0), .val (.int p1), .val (.int p2), .val (.int p3), .val (.int p4), .val (.int (0 : Int32)), .val (.int cb1), .val (.int cb2), .val (.int cb3), .val (.ref b16), .val (.int (0 : Int32))]) rfl k) ?_
    show OwnGo _ _ _ _ _ _ _ (T16.setTop (mkF m 168 #[.val (.int p0), .val (.int p1), .val (.int p2), .val (.int p3), .val (.int p4), .val (.int (0 : Int32)), .val (.int cb1), .val (.int cb2), .val (.int cb3), .val (.ref b16), .val (.int (0 : Int32))] []))
    refine ownStep (fun _ k => XS.aload X16.here hx rfl (hb hby at_168) rfl rfl k) ?_
    show OwnGo _ _ _ _ _ _ _ (T16.setTop (mkF m 170 #[.val (.int p0), .val (.int p1), .val (.int p2), .val (.int p3), .val (.int p4), .val (.int (0 : Int32)), .val (.int cb1), .val (.int cb2), .val (.int cb3), .val (.ref b16), .val (.int (0 : Int32))] [(.ref b16)]))
    obtain ⟨_, _, ⟨T17, L17, k17, n17⟩, -, X17, ⟨Lc17, hQ17, l17, y17, z17⟩, st17⟩ := Jvm.LawKit.callS X16 hx (y := (⟨"com/example/counterfoil/counterfoil/io/bai2/Fields", "isContinuation", "([B)Z"⟩ : MethodName)) hown (mvT hZ (hw _ (List.mem_of_getElem? (i := 5) rfl))) (mvT hZ (hw _ (List.mem_of_getElem? (i := 6) rfl))) (mvT hZ (hw _ (List.mem_of_getElem? (i := 7) rfl))) (mvT hZ (hw _ (List.mem_of_getElem? (i := 8) rfl))) (by decide) (backOf (W := 0) (rm2s l Z a0 hw [] b16 k16 (0 : Int32) _ wC kC h16 n0 O16 SC VC V16 (by decide)) hZ (hw _ (List.mem_of_getElem? (i := 8) rfl)) (hw _ (List.mem_of_getElem? (i := 7) rfl)) (by decide) (by decide)) (g := (mkF m 170 #[.val (.int p0), .val (.int p1), .val (.int p2), .val (.int p3), .val (.int p4), .val (.int (0 : Int32)), .val (.int cb1), .val (.int cb2), .val (.int cb3), .val (.ref b16), .val (.int (0 : Int32))] [(.ref b16)])) rfl (by rw [hml]; rfl) (argsL := [(.ref b16)]) (rest := []) (lenOf own_pd1 rfl) rfl (by show 2 * 0 + _ ≤ _; exact Nat.le_of_eq rfl) (hb hby at_170) (fun _ _ => ⟨rfl, e16, (by decide : 0 + 1 + 0 ≤ _), (by decide : 0 + 0 + 0 ≤ _)⟩)
    dsimp only [Pt.U, Pt.locs, Pt.cells, Pt.slots] at X17 l17 y17 z17 st17 hQ17
    subst l17 y17 z17
    obtain ⟨rfl, N17q, e17⟩ := hQ17
    have N17 := Fr.app N15 N17q
    refine ownStep st17 ?_
    show OwnGo _ _ _ _ _ _ _ (T17.setTop (mkF m 173 #[.val (.int p0), .val (.int p1), .val (.int p2), .val (.int p3), .val (.int p4), .val (.int (0 : Int32)), .val (.int cb1), .val (.int cb2), .val (.int cb3), .val (.ref b16), .val (.int (0 : Int32))] [(.int (0 : Int32))]))
    refine ownStep (fun _ k => XS.iload X17.here hx rfl (hb hby at_173) rfl k) ?_
    show OwnGo _ _ _ _ _ _ _ (T17.setTop (mkF m 175 #[.val (.int p0), .val (.int p1), .val (.int p2), .val (.int p3), .val (.int p4), .val (.int (0 : Int32)), .val (.int cb1), .val (.int cb2), .val (.int cb3), .val (.ref b16), .val (.int (0 : Int32))] [(.int (0 : Int32)), (.int (0 : Int32))]))
    refine ownStep (fun _ k => XS.icmpNo X17.here hx rfl (hb hby at_175) rfl (teq (by decide : (0 : Int32) = (0 : Int32))).2 k) ?_
    show OwnGo _ _ _ _ _ _ _ (T17.setTop (mkF m 178 #[.val (.int p0), .val (.int p1), .val (.int p2), .val (.int p3), .val (.int p4), .val (.int (0 : Int32)), .val (.int cb1), .val (.int cb2), .val (.int cb3), .val (.ref b16), .val (.int (0 : Int32))] []))
    refine ownStep (fun _ k => XS.iconst X17.here hx rfl (hb hby at_178) k) ?_
    show OwnGo _ _ _ _ _ _ _ (T17.setTop (mkF m 179 #[.val (.int p0), .val (.int p1), .val (.int p2), .val (.int p3), .val (.int p4), .val (.int (0 : Int32)), .val (.int cb1), .val (.int cb2), .val (.int cb3), .val (.ref b16), .val (.int (0 : Int32))] [(.int (1 : Int32))]))
    refine ownStep (fun _ k => XS.goto X17.here hx rfl (pc0 := 179) (pc' := 183) rfl (hb hby at_179) (by decide) (by decide) k) ?_
    show OwnGo _ _ _ _ _ _ _ (T17.setTop (mkF m 183 #[.val (.int p0), .val (.int p1), .val (.int p2), .val (.int p3), .val (.int p4), .val (.int (0 : Int32)), .val (.int cb1), .val (.int cb2), .val (.int cb3), .val (.ref b16), .val (.int (0 : Int32))] [(.int (1 : Int32))]))
    have eq183 : T17.heap = h16 := e17
    exact ownRetN X17 hx (t := .boolean) Bd.returns (by simp) (hb hby at_183) (BodyLoose.notSynchronized Bd) (by decide) (by decide) (by rw [eq183]; exact ⟨rfl, N17⟩)
  · rw [hk]
    show OwnGo _ _ _ _ _ _ _ (T15.setTop (mkF m 32 #[.val (.int p0), .val (.int p1), .val (.int p2), .val (.int p3), .val (.int p4), .val (.int (1 : Int32)), .val (.int cb1), .val (.int cb2), .val (.int cb3), .unset, .unset] [(.int (1 : Int32))]))
    obtain ⟨T18, h18, k18, X18, e18, E18, A18, st18⟩ := newP X15 hx hZ (hw _ (List.mem_of_getElem? (i := 4) rfl)) e15 (g := (mkF m 32 #[.val (.int p0), .val (.int p1), .val (.int p2), .val (.int p3), .val (.int p4), .val (.int (1 : Int32)), .val (.int cb1), .val (.int cb2), .val (.int cb3), .unset, .unset] [(.int (1 : Int32))])) rfl (hb hby at_32) rfl (by decide) (cap := 1) (by decide) (by decide) (by decide) (by decide)
    obtain ⟨b18, g18⟩ : ∃ z, z = h0.size := ⟨_, rfl⟩
    rw [← g18] at A18 st18
    refine ownStep st18 ?_
    have ge18 : n0 ≤ b18 := by rw [g18]; exact Nat.le_trans (Nat.le_of_eq O0.1.symm) O0.2.1
    have O18 := O0.ext E18
    show OwnGo _ _ _ _ _ _ _ (T18.setTop (mkF m 34 #[.val (.int p0), .val (.int p1), .val (.int p2), .val (.int p3), .val (.int p4), .val (.int (1 : Int32)), .val (.int cb1), .val (.int cb2), .val (.int cb3), .unset, .unset] [(.ref b18)]))
    have V18 : Arv Z h18 b18 k18 .byte (1 : Int32) [(.int (0 : Int32))] (.int (0 : Int32)) := (Arv.new A18 (by decide)).pad (pad_rep [] (.int (0 : Int32)) 1)
    refine ownStep (fun _ k => XS.astore X18.here hx rfl (hb hby at_34) rfl rfl (l' := #[.val (.int p0), .val (.int p1), .val (.int p2), .val (.int p3), .val (.int p4), .val (.int (1 : Int32)), .val (.int cb1), .val (.int cb2), .val (.int cb3), .val (.ref b18), .unset]) rfl k) ?_
    show OwnGo _ _ _ _ _ _ _ (T18.setTop (mkF m 36 #[.val (.int p0), .val (.int p1), .val (.int p2), .val (.int p3), .val (.int p4), .val (.int (1 : Int32)), .val (.int cb1), .val (.int cb2), .val (.int cb3), .val (.ref b18), .unset] []))
    refine ownStep (fun _ k => XS.iload X18.here hx rfl (hb hby at_36) rfl k) ?_
    show OwnGo _ _ _ _ _ _ _ (T18.setTop (mkF m 38 #[.val (.int p0), .val (.int p1), .val (.int p2), .val (.int p3), .val (.int p4), .val (.int (1 : Int32)), .val (.int cb1), .val (.int cb2), .val (.int cb3), .val (.ref b18), .unset] [(.int (1 : Int32))]))
    refine ownStep (fun _ k => XS.ifNo X18.here hx rfl (hb hby at_38) rfl ((if0 _ _).trans (tlt (by decide : (0 : Int32) < (1 : Int32))).2.2.2) k) ?_
    show OwnGo _ _ _ _ _ _ _ (T18.setTop (mkF m 41 #[.val (.int p0), .val (.int p1), .val (.int p2), .val (.int p3), .val (.int p4), .val (.int (1 : Int32)), .val (.int cb1), .val (.int cb2), .val (.int cb3), .val (.ref b18), .unset] []))
    refine ownStep (fun _ k => XS.aload X18.here hx rfl (hb hby at_41) rfl rfl k) ?_
    show OwnGo _ _ _ _ _ _ _ (T18.setTop (mkF m 43 #[.val (.int p0), .val (.int p1), .val (.int p2), .val (.int p3), .val (.int p4), .val (.int (1 : Int32)), .val (.int cb1), .val (.int cb2), .val (.int cb3), .val (.ref b18), .unset] [(.ref b18)]))
    refine ownStep (fun _ k => XS.iconst X18.here hx rfl (hb hby at_43) k) ?_
    show OwnGo _ _ _ _ _ _ _ (T18.setTop (mkF m 44 #[.val (.int p0), .val (.int p1), .val (.int p2), .val (.int p3), .val (.int p4), .val (.int (1 : Int32)), .val (.int cb1), .val (.int cb2), .val (.int cb3), .val (.ref b18), .unset] [(.int (0 : Int32)), (.ref b18)]))
    refine ownStep (fun _ k => XS.iload X18.here hx rfl (hb hby at_44) rfl k) ?_
    show OwnGo _ _ _ _ _ _ _ (T18.setTop (mkF m 46 #[.val (.int p0), .val (.int p1), .val (.int p2), .val (.int p3), .val (.int p4), .val (.int (1 : Int32)), .val (.int cb1), .val (.int cb2), .val (.int cb3), .val (.ref b18), .unset] [(.int cb1), (.int (0 : Int32)), (.ref b18)]))
    obtain ⟨cla19, Ara19, qa19, Sa19, Pa19, Ha19, Ga19⟩ := id V18
    have hina19 : ¬ ((0 : Int32) < 0 ∨ cla19.slots.size ≤ ((0 : Int32) : Int32).toNatClampNeg) := inb_of Sa19 ⟨by decide, by decide⟩
    obtain ⟨T20, h20, X20, e20, W20, st20⟩ := stB X18 hx hZ e18 Ara19 (j := (0 : Int32)) hina19 (g := (mkF m 46 #[.val (.int p0), .val (.int p1), .val (.int p2), .val (.int p3), .val (.int p4), .val (.int (1 : Int32)), .val (.int cb1), .val (.int cb2), .val (.int cb3), .val (.ref b18), .unset] [(.int cb1), (.int (0 : Int32)), (.ref b18)])) rfl rfl (hb hby at_46)
    refine ownStep st20 ?_
    have N20 := Fr.snoc X20 N15 ge18
    have O20 := O18.wr W20 ge18
    show OwnGo _ _ _ _ _ _ _ (T20.setTop (mkF m 47 #[.val (.int p0), .val (.int p1), .val (.int p2), .val (.int p3), .val (.int p4), .val (.int (1 : Int32)), .val (.int cb1), .val (.int cb2), .val (.int cb3), .val (.ref b18), .unset] []))
    have V20 : Arv Z h20 b18 k18 .byte (1 : Int32) [(.int cb1)] (.int (0 : Int32)) := by
      have q := Arv.set Ara19 qa19 Sa19 Pa19 Ha19 Ga19 (fits_nar_byte _) W20 0 rfl (Nat.le_of_ble_eq_true rfl)
      rw [nb1] at q
      exact q
    refine ownStep (fun _ k => XS.iload X20.here hx rfl (hb hby at_47) rfl k) ?_
    show OwnGo _ _ _ _ _ _ _ (T20.setTop (mkF m 49 #[.val (.int p0), .val (.int p1), .val (.int p2), .val (.int p3), .val (.int p4), .val (.int (1 : Int32)), .val (.int cb1), .val (.int cb2), .val (.int cb3), .val (.ref b18), .unset] [(.int (1 : Int32))]))
    refine ownStep (fun _ k => XS.iconst X20.here hx rfl (hb hby at_49) k) ?_
    show OwnGo _ _ _ _ _ _ _ (T20.setTop (mkF m 50 #[.val (.int p0), .val (.int p1), .val (.int p2), .val (.int p3), .val (.int p4), .val (.int (1 : Int32)), .val (.int cb1), .val (.int cb2), .val (.int cb3), .val (.ref b18), .unset] [(.int (1 : Int32)), (.int (1 : Int32))]))
    refine ownStep (fun _ k => XS.icmpYes X20.here hx rfl (pc0 := 50) (pc' := 59) rfl (hb hby at_50) rfl (flt (by decide : ¬ ((1 : Int32) < (1 : Int32)))).2.2.2 (by decide) (by decide) k) ?_
    show OwnGo _ _ _ _ _ _ _ (T20.setTop (mkF m 59 #[.val (.int p0), .val (.int p1), .val (.int p2), .val (.int p3), .val (.int p4), .val (.int (1 : Int32)), .val (.int cb1), .val (.int cb2), .val (.int cb3), .val (.ref b18), .unset] []))
    refine ownStep (fun _ k => XS.iload X20.here hx rfl (hb hby at_59) rfl k) ?_
    show OwnGo _ _ _ _ _ _ _ (T20.setTop (mkF m 61 #[.val (.int p0), .val (.int p1), .val (.int p2), .val (.int p3), .val (.int p4), .val (.int (1 : Int32)), .val (.int cb1), .val (.int cb2), .val (.int cb3), .val (.ref b18), .unset] [(.int (1 : Int32))]))
    refine ownStep (fun _ k => XS.iconst X20.here hx rfl (hb hby at_61) k) ?_
    show OwnGo _ _ _ _ _ _ _ (T20.setTop (mkF m 62 #[.val (.int p0), .val (.int p1), .val (.int p2), .val (.int p3), .val (.int p4), .val (.int (1 : Int32)), .val (.int cb1), .val (.int cb2), .val (.int cb3), .val (.ref b18), .unset] [(.int (2 : Int32)), (.int (1 : Int32))]))
    refine ownStep (fun _ k => XS.icmpYes X20.here hx rfl (pc0 := 62) (pc' := 71) rfl (hb hby at_62) rfl (flt (by decide : ¬ ((2 : Int32) < (1 : Int32)))).2.2.2 (by decide) (by decide) k) ?_
    show OwnGo _ _ _ _ _ _ _ (T20.setTop (mkF m 71 #[.val (.int p0), .val (.int p1), .val (.int p2), .val (.int p3), .val (.int p4), .val (.int (1 : Int32)), .val (.int cb1), .val (.int cb2), .val (.int cb3), .val (.ref b18), .unset] []))
    refine ownStep (fun _ k => XS.iload X20.here hx rfl (hb hby at_71) rfl k) ?_
    show OwnGo _ _ _ _ _ _ _ (T20.setTop (mkF m 73 #[.val (.int p0), .val (.int p1), .val (.int p2), .val (.int p3), .val (.int p4), .val (.int (1 : Int32)), .val (.int cb1), .val (.int cb2), .val (.int cb3), .val (.ref b18), .unset] [(.int (1 : Int32))]))
    refine ownStep (fun _ k => XS.iconst X20.here hx rfl (hb hby at_73) k) ?_
    show OwnGo _ _ _ _ _ _ _ (T20.setTop (mkF m 74 #[.val (.int p0), .val (.int p1), .val (.int p2), .val (.int p3), .val (.int p4), .val (.int (1 : Int32)), .val (.int cb1), .val (.int cb2), .val (.int cb3), .val (.ref b18), .unset] [(.int (3 : Int32)), (.int (1 : Int32))]))
    refine ownStep (fun _ k => XS.icmpYes X20.here hx rfl (pc0 := 74) (pc' := 84) rfl (hb hby at_74) rfl (flt (by decide : ¬ ((3 : Int32) < (1 : Int32)))).2.2.2 (by decide) (by decide) k) ?_
    show OwnGo _ _ _ _ _ _ _ (T20.setTop (mkF m 84 #[.val (.int p0), .val (.int p1), .val (.int p2), .val (.int p3), .val (.int p4), .val (.int (1 : Int32)), .val (.int cb1), .val (.int cb2), .val (.int cb3), .val (.ref b18), .unset] []))
    refine ownStep (fun _ k => XS.iload X20.here hx rfl (hb hby at_84) rfl k) ?_
    show OwnGo _ _ _ _ _ _ _ (T20.setTop (mkF m 86 #[.val (.int p0), .val (.int p1), .val (.int p2), .val (.int p3), .val (.int p4), .val (.int (1 : Int32)), .val (.int cb1), .val (.int cb2), .val (.int cb3), .val (.ref b18), .unset] [(.int (1 : Int32))]))
    refine ownStep (fun _ k => XS.iconst X20.here hx rfl (hb hby at_86) k) ?_
    show OwnGo _ _ _ _ _ _ _ (T20.setTop (mkF m 87 #[.val (.int p0), .val (.int p1), .val (.int p2), .val (.int p3), .val (.int p4), .val (.int (1 : Int32)), .val (.int cb1), .val (.int cb2), .val (.int cb3), .val (.ref b18), .unset] [(.int (4 : Int32)), (.int (1 : Int32))]))
    refine ownStep (fun _ k => XS.icmpYes X20.here hx rfl (pc0 := 87) (pc' := 100) rfl (hb hby at_87) rfl (flt (by decide : ¬ ((4 : Int32) < (1 : Int32)))).2.2.2 (by decide) (by decide) k) ?_
    show OwnGo _ _ _ _ _ _ _ (T20.setTop (mkF m 100 #[.val (.int p0), .val (.int p1), .val (.int p2), .val (.int p3), .val (.int p4), .val (.int (1 : Int32)), .val (.int cb1), .val (.int cb2), .val (.int cb3), .val (.ref b18), .unset] []))
    refine ownStep (fun _ k => XS.iload X20.here hx rfl (hb hby at_100) rfl k) ?_
    show OwnGo _ _ _ _ _ _ _ (T20.setTop (mkF m 102 #[.val (.int p0), .val (.int p1), .val (.int p2), .val (.int p3), .val (.int p4), .val (.int (1 : Int32)), .val (.int cb1), .val (.int cb2), .val (.int cb3), .val (.ref b18), .unset] [(.int (1 : Int32))]))
    refine ownStep (fun _ k => XS.iconst X20.here hx rfl (hb hby at_102) k) ?_
    show OwnGo _ _ _ _ _ _ _ (T20.setTop (mkF m 103 #[.val (.int p0), .val (.int p1), .val (.int p2), .val (.int p3), .val (.int p4), .val (.int (1 : Int32)), .val (.int cb1), .val (.int cb2), .val (.int cb3), .val (.ref b18), .unset] [(.int (5 : Int32)), (.int (1 : Int32))]))
    refine ownStep (fun _ k => XS.icmpYes X20.here hx rfl (pc0 := 103) (pc' := 116) rfl (hb hby at_103) rfl (flt (by decide : ¬ ((5 : Int32) < (1 : Int32)))).2.2.2 (by decide) (by decide) k) ?_
    show OwnGo _ _ _ _ _ _ _ (T20.setTop (mkF m 116 #[.val (.int p0), .val (.int p1), .val (.int p2), .val (.int p3), .val (.int p4), .val (.int (1 : Int32)), .val (.int cb1), .val (.int cb2), .val (.int cb3), .val (.ref b18), .unset] []))
    refine ownStep (fun _ k => XS.iload X20.here hx rfl (hb hby at_116) rfl k) ?_
    show OwnGo _ _ _ _ _ _ _ (T20.setTop (mkF m 118 #[.val (.int p0), .val (.int p1), .val (.int p2), .val (.int p3), .val (.int p4), .val (.int (1 : Int32)), .val (.int cb1), .val (.int cb2), .val (.int cb3), .val (.ref b18), .unset] [(.int (1 : Int32))]))
    refine ownStep (fun _ k => XS.bipush X20.here hx rfl (hb hby at_118) k) ?_
    show OwnGo _ _ _ _ _ _ _ (T20.setTop (mkF m 120 #[.val (.int p0), .val (.int p1), .val (.int p2), .val (.int p3), .val (.int p4), .val (.int (1 : Int32)), .val (.int cb1), .val (.int cb2), .val (.int cb3), .val (.ref b18), .unset] [(.int (6 : Int32)), (.int (1 : Int32))]))
    refine ownStep (fun _ k => XS.icmpYes X20.here hx rfl (pc0 := 120) (pc' := 134) rfl (hb hby at_120) rfl (flt (by decide : ¬ ((6 : Int32) < (1 : Int32)))).2.2.2 (by decide) (by decide) k) ?_
    show OwnGo _ _ _ _ _ _ _ (T20.setTop (mkF m 134 #[.val (.int p0), .val (.int p1), .val (.int p2), .val (.int p3), .val (.int p4), .val (.int (1 : Int32)), .val (.int cb1), .val (.int cb2), .val (.int cb3), .val (.ref b18), .unset] []))
    refine ownStep (fun _ k => XS.iload X20.here hx rfl (hb hby at_134) rfl k) ?_
    show OwnGo _ _ _ _ _ _ _ (T20.setTop (mkF m 136 #[.val (.int p0), .val (.int p1), .val (.int p2), .val (.int p3), .val (.int p4), .val (.int (1 : Int32)), .val (.int cb1), .val (.int cb2), .val (.int cb3), .val (.ref b18), .unset] [(.int (1 : Int32))]))
    refine ownStep (fun _ k => XS.iconst X20.here hx rfl (hb hby at_136) k) ?_
    show OwnGo _ _ _ _ _ _ _ (T20.setTop (mkF m 137 #[.val (.int p0), .val (.int p1), .val (.int p2), .val (.int p3), .val (.int p4), .val (.int (1 : Int32)), .val (.int cb1), .val (.int cb2), .val (.int cb3), .val (.ref b18), .unset] [(.int (3 : Int32)), (.int (1 : Int32))]))
    refine ownStep (fun _ k => XS.icmpYes X20.here hx rfl (pc0 := 137) (pc' := 165) rfl (hb hby at_137) rfl (tlt (by decide : (1 : Int32) < (3 : Int32))).1 (by decide) (by decide) k) ?_
    show OwnGo _ _ _ _ _ _ _ (T20.setTop (mkF m 165 #[.val (.int p0), .val (.int p1), .val (.int p2), .val (.int p3), .val (.int p4), .val (.int (1 : Int32)), .val (.int cb1), .val (.int cb2), .val (.int cb3), .val (.ref b18), .unset] []))
    refine ownStep (fun _ k => XS.iconst X20.here hx rfl (hb hby at_165) k) ?_
    show OwnGo _ _ _ _ _ _ _ (T20.setTop (mkF m 166 #[.val (.int p0), .val (.int p1), .val (.int p2), .val (.int p3), .val (.int p4), .val (.int (1 : Int32)), .val (.int cb1), .val (.int cb2), .val (.int cb3), .val (.ref b18), .unset] [(.int (0 : Int32))]))
    refine ownStep (fun _ k => XS.istore X20.here hx rfl (hb hby at_166) rfl (l' := #[.val (.int p0), .val (.int p1), .val (.int p2), .val (.int p3), .val (.int p4), .val (.int (1 : Int32)), .val (.int cb1), .val (.int cb2), .val (.int cb3), .val (.ref b18), .val (.int (0 : Int32))]) rfl k) ?_
    show OwnGo _ _ _ _ _ _ _ (T20.setTop (mkF m 168 #[.val (.int p0), .val (.int p1), .val (.int p2), .val (.int p3), .val (.int p4), .val (.int (1 : Int32)), .val (.int cb1), .val (.int cb2), .val (.int cb3), .val (.ref b18), .val (.int (0 : Int32))] []))
    refine ownStep (fun _ k => XS.aload X20.here hx rfl (hb hby at_168) rfl rfl k) ?_
    show OwnGo _ _ _ _ _ _ _ (T20.setTop (mkF m 170 #[.val (.int p0), .val (.int p1), .val (.int p2), .val (.int p3), .val (.int p4), .val (.int (1 : Int32)), .val (.int cb1), .val (.int cb2), .val (.int cb3), .val (.ref b18), .val (.int (0 : Int32))] [(.ref b18)]))
    obtain ⟨_, _, ⟨T21, L21, k21, n21⟩, -, X21, ⟨Lc21, hQ21, l21, y21, z21⟩, st21⟩ := Jvm.LawKit.callS X20 hx (y := (⟨"com/example/counterfoil/counterfoil/io/bai2/Fields", "isContinuation", "([B)Z"⟩ : MethodName)) hown (mvT hZ (hw _ (List.mem_of_getElem? (i := 5) rfl))) (mvT hZ (hw _ (List.mem_of_getElem? (i := 6) rfl))) (mvT hZ (hw _ (List.mem_of_getElem? (i := 7) rfl))) (mvT hZ (hw _ (List.mem_of_getElem? (i := 8) rfl))) (by decide) (backOf (W := 0) (rm2s l Z a0 hw [] b18 k18 (1 : Int32) _ wC kC h20 n0 O20 SC VC V20 (by decide)) hZ (hw _ (List.mem_of_getElem? (i := 8) rfl)) (hw _ (List.mem_of_getElem? (i := 7) rfl)) (by decide) (by decide)) (g := (mkF m 170 #[.val (.int p0), .val (.int p1), .val (.int p2), .val (.int p3), .val (.int p4), .val (.int (1 : Int32)), .val (.int cb1), .val (.int cb2), .val (.int cb3), .val (.ref b18), .val (.int (0 : Int32))] [(.ref b18)])) rfl (by rw [hml]; rfl) (argsL := [(.ref b18)]) (rest := []) (lenOf own_pd1 rfl) rfl (by show 2 * 0 + _ ≤ _; exact Nat.le_of_eq rfl) (hb hby at_170) (fun _ _ => ⟨rfl, e20, (by decide : 0 + 1 + 0 ≤ _), (by decide : 0 + 1 + 0 ≤ _)⟩)
    dsimp only [Pt.U, Pt.locs, Pt.cells, Pt.slots] at X21 l21 y21 z21 st21 hQ21
    subst l21 y21 z21
    obtain ⟨rfl, N21q, e21⟩ := hQ21
    have N21 := Fr.app N20 N21q
    refine ownStep st21 ?_
    show OwnGo _ _ _ _ _ _ _ (T21.setTop (mkF m 173 #[.val (.int p0), .val (.int p1), .val (.int p2), .val (.int p3), .val (.int p4), .val (.int (1 : Int32)), .val (.int cb1), .val (.int cb2), .val (.int cb3), .val (.ref b18), .val (.int (0 : Int32))] [(.int (0 : Int32))]))
    refine ownStep (fun _ k => XS.iload X21.here hx rfl (hb hby at_173) rfl k) ?_
    show OwnGo _ _ _ _ _ _ _ (T21.setTop (mkF m 175 #[.val (.int p0), .val (.int p1), .val (.int p2), .val (.int p3), .val (.int p4), .val (.int (1 : Int32)), .val (.int cb1), .val (.int cb2), .val (.int cb3), .val (.ref b18), .val (.int (0 : Int32))] [(.int (0 : Int32)), (.int (0 : Int32))]))
    refine ownStep (fun _ k => XS.icmpNo X21.here hx rfl (hb hby at_175) rfl (teq (by decide : (0 : Int32) = (0 : Int32))).2 k) ?_
    show OwnGo _ _ _ _ _ _ _ (T21.setTop (mkF m 178 #[.val (.int p0), .val (.int p1), .val (.int p2), .val (.int p3), .val (.int p4), .val (.int (1 : Int32)), .val (.int cb1), .val (.int cb2), .val (.int cb3), .val (.ref b18), .val (.int (0 : Int32))] []))
    refine ownStep (fun _ k => XS.iconst X21.here hx rfl (hb hby at_178) k) ?_
    show OwnGo _ _ _ _ _ _ _ (T21.setTop (mkF m 179 #[.val (.int p0), .val (.int p1), .val (.int p2), .val (.int p3), .val (.int p4), .val (.int (1 : Int32)), .val (.int cb1), .val (.int cb2), .val (.int cb3), .val (.ref b18), .val (.int (0 : Int32))] [(.int (1 : Int32))]))
    refine ownStep (fun _ k => XS.goto X21.here hx rfl (pc0 := 179) (pc' := 183) rfl (hb hby at_179) (by decide) (by decide) k) ?_
    show OwnGo _ _ _ _ _ _ _ (T21.setTop (mkF m 183 #[.val (.int p0), .val (.int p1), .val (.int p2), .val (.int p3), .val (.int p4), .val (.int (1 : Int32)), .val (.int cb1), .val (.int cb2), .val (.int cb3), .val (.ref b18), .val (.int (0 : Int32))] [(.int (1 : Int32))]))
    have eq183 : T21.heap = h20 := e21
    exact ownRetN X21 hx (t := .boolean) Bd.returns (by simp) (hb hby at_183) (BodyLoose.notSynchronized Bd) (by decide) (by decide) (by rw [eq183]; exact ⟨rfl, N21⟩)
  · rw [hk]
    show OwnGo _ _ _ _ _ _ _ (T15.setTop (mkF m 32 #[.val (.int p0), .val (.int p1), .val (.int p2), .val (.int p3), .val (.int p4), .val (.int (2 : Int32)), .val (.int cb1), .val (.int cb2), .val (.int cb3), .unset, .unset] [(.int (2 : Int32))]))
    obtain ⟨T22, h22, k22, X22, e22, E22, A22, st22⟩ := newP X15 hx hZ (hw _ (List.mem_of_getElem? (i := 4) rfl)) e15 (g := (mkF m 32 #[.val (.int p0), .val (.int p1), .val (.int p2), .val (.int p3), .val (.int p4), .val (.int (2 : Int32)), .val (.int cb1), .val (.int cb2), .val (.int cb3), .unset, .unset] [(.int (2 : Int32))])) rfl (hb hby at_32) rfl (by decide) (cap := 2) (by decide) (by decide) (by decide) (by decide)
    obtain ⟨b22, g22⟩ : ∃ z, z = h0.size := ⟨_, rfl⟩
    rw [← g22] at A22 st22
    refine ownStep st22 ?_
    have ge22 : n0 ≤ b22 := by rw [g22]; exact Nat.le_trans (Nat.le_of_eq O0.1.symm) O0.2.1
    have O22 := O0.ext E22
    show OwnGo _ _ _ _ _ _ _ (T22.setTop (mkF m 34 #[.val (.int p0), .val (.int p1), .val (.int p2), .val (.int p3), .val (.int p4), .val (.int (2 : Int32)), .val (.int cb1), .val (.int cb2), .val (.int cb3), .unset, .unset] [(.ref b22)]))
    have V22 : Arv Z h22 b22 k22 .byte (2 : Int32) [(.int (0 : Int32)), (.int (0 : Int32))] (.int (0 : Int32)) := (Arv.new A22 (by decide)).pad (pad_rep [] (.int (0 : Int32)) 2)
    refine ownStep (fun _ k => XS.astore X22.here hx rfl (hb hby at_34) rfl rfl (l' := #[.val (.int p0), .val (.int p1), .val (.int p2), .val (.int p3), .val (.int p4), .val (.int (2 : Int32)), .val (.int cb1), .val (.int cb2), .val (.int cb3), .val (.ref b22), .unset]) rfl k) ?_
    show OwnGo _ _ _ _ _ _ _ (T22.setTop (mkF m 36 #[.val (.int p0), .val (.int p1), .val (.int p2), .val (.int p3), .val (.int p4), .val (.int (2 : Int32)), .val (.int cb1), .val (.int cb2), .val (.int cb3), .val (.ref b22), .unset] []))
    refine ownStep (fun _ k => XS.iload X22.here hx rfl (hb hby at_36) rfl k) ?_
    show OwnGo _ _ _ _ _ _ _ (T22.setTop (mkF m 38 #[.val (.int p0), .val (.int p1), .val (.int p2), .val (.int p3), .val (.int p4), .val (.int (2 : Int32)), .val (.int cb1), .val (.int cb2), .val (.int cb3), .val (.ref b22), .unset] [(.int (2 : Int32))]))
    refine ownStep (fun _ k => XS.ifNo X22.here hx rfl (hb hby at_38) rfl ((if0 _ _).trans (tlt (by decide : (0 : Int32) < (2 : Int32))).2.2.2) k) ?_
    show OwnGo _ _ _ _ _ _ _ (T22.setTop (mkF m 41 #[.val (.int p0), .val (.int p1), .val (.int p2), .val (.int p3), .val (.int p4), .val (.int (2 : Int32)), .val (.int cb1), .val (.int cb2), .val (.int cb3), .val (.ref b22), .unset] []))
    refine ownStep (fun _ k => XS.aload X22.here hx rfl (hb hby at_41) rfl rfl k) ?_
    show OwnGo _ _ _ _ _ _ _ (T22.setTop (mkF m 43 #[.val (.int p0), .val (.int p1), .val (.int p2), .val (.int p3), .val (.int p4), .val (.int (2 : Int32)), .val (.int cb1), .val (.int cb2), .val (.int cb3), .val (.ref b22), .unset] [(.ref b22)]))
    refine ownStep (fun _ k => XS.iconst X22.here hx rfl (hb hby at_43) k) ?_
    show OwnGo _ _ _ _ _ _ _ (T22.setTop (mkF m 44 #[.val (.int p0), .val (.int p1), .val (.int p2), .val (.int p3), .val (.int p4), .val (.int (2 : Int32)), .val (.int cb1), .val (.int cb2), .val (.int cb3), .val (.ref b22), .unset] [(.int (0 : Int32)), (.ref b22)]))
    refine ownStep (fun _ k => XS.iload X22.here hx rfl (hb hby at_44) rfl k) ?_
    show OwnGo _ _ _ _ _ _ _ (T22.setTop (mkF m 46 #[.val (.int p0), .val (.int p1), .val (.int p2), .val (.int p3), .val (.int p4), .val (.int (2 : Int32)), .val (.int cb1), .val (.int cb2), .val (.int cb3), .val (.ref b22), .unset] [(.int cb1), (.int (0 : Int32)), (.ref b22)]))
    obtain ⟨cla23, Ara23, qa23, Sa23, Pa23, Ha23, Ga23⟩ := id V22
    have hina23 : ¬ ((0 : Int32) < 0 ∨ cla23.slots.size ≤ ((0 : Int32) : Int32).toNatClampNeg) := inb_of Sa23 ⟨by decide, by decide⟩
    obtain ⟨T24, h24, X24, e24, W24, st24⟩ := stB X22 hx hZ e22 Ara23 (j := (0 : Int32)) hina23 (g := (mkF m 46 #[.val (.int p0), .val (.int p1), .val (.int p2), .val (.int p3), .val (.int p4), .val (.int (2 : Int32)), .val (.int cb1), .val (.int cb2), .val (.int cb3), .val (.ref b22), .unset] [(.int cb1), (.int (0 : Int32)), (.ref b22)])) rfl rfl (hb hby at_46)
    refine ownStep st24 ?_
    have N24 := Fr.snoc X24 N15 ge22
    have O24 := O22.wr W24 ge22
    show OwnGo _ _ _ _ _ _ _ (T24.setTop (mkF m 47 #[.val (.int p0), .val (.int p1), .val (.int p2), .val (.int p3), .val (.int p4), .val (.int (2 : Int32)), .val (.int cb1), .val (.int cb2), .val (.int cb3), .val (.ref b22), .unset] []))
    have V24 : Arv Z h24 b22 k22 .byte (2 : Int32) [(.int cb1), (.int (0 : Int32))] (.int (0 : Int32)) := by
      have q := Arv.set Ara23 qa23 Sa23 Pa23 Ha23 Ga23 (fits_nar_byte _) W24 0 rfl (Nat.le_of_ble_eq_true rfl)
      rw [nb1] at q
      exact q
    refine ownStep (fun _ k => XS.iload X24.here hx rfl (hb hby at_47) rfl k) ?_
    show OwnGo _ _ _ _ _ _ _ (T24.setTop (mkF m 49 #[.val (.int p0), .val (.int p1), .val (.int p2), .val (.int p3), .val (.int p4), .val (.int (2 : Int32)), .val (.int cb1), .val (.int cb2), .val (.int cb3), .val (.ref b22), .unset] [(.int (2 : Int32))]))
    refine ownStep (fun _ k => XS.iconst X24.here hx rfl (hb hby at_49) k) ?_
    show OwnGo _ _ _ _ _ _ _ (T24.setTop (mkF m 50 #[.val (.int p0), .val (.int p1), .val (.int p2), .val (.int p3), .val (.int p4), .val (.int (2 : Int32)), .val (.int cb1), .val (.int cb2), .val (.int cb3), .val (.ref b22), .unset] [(.int (1 : Int32)), (.int (2 : Int32))]))
    refine ownStep (fun _ k => XS.icmpNo X24.here hx rfl (hb hby at_50) rfl (tlt (by decide : (1 : Int32) < (2 : Int32))).2.2.2 k) ?_
    show OwnGo _ _ _ _ _ _ _ (T24.setTop (mkF m 53 #[.val (.int p0), .val (.int p1), .val (.int p2), .val (.int p3), .val (.int p4), .val (.int (2 : Int32)), .val (.int cb1), .val (.int cb2), .val (.int cb3), .val (.ref b22), .unset] []))
    refine ownStep (fun _ k => XS.aload X24.here hx rfl (hb hby at_53) rfl rfl k) ?_
    show OwnGo _ _ _ _ _ _ _ (T24.setTop (mkF m 55 #[.val (.int p0), .val (.int p1), .val (.int p2), .val (.int p3), .val (.int p4), .val (.int (2 : Int32)), .val (.int cb1), .val (.int cb2), .val (.int cb3), .val (.ref b22), .unset] [(.ref b22)]))
    refine ownStep (fun _ k => XS.iconst X24.here hx rfl (hb hby at_55) k) ?_
    show OwnGo _ _ _ _ _ _ _ (T24.setTop (mkF m 56 #[.val (.int p0), .val (.int p1), .val (.int p2), .val (.int p3), .val (.int p4), .val (.int (2 : Int32)), .val (.int cb1), .val (.int cb2), .val (.int cb3), .val (.ref b22), .unset] [(.int (1 : Int32)), (.ref b22)]))
    refine ownStep (fun _ k => XS.iload X24.here hx rfl (hb hby at_56) rfl k) ?_
    show OwnGo _ _ _ _ _ _ _ (T24.setTop (mkF m 58 #[.val (.int p0), .val (.int p1), .val (.int p2), .val (.int p3), .val (.int p4), .val (.int (2 : Int32)), .val (.int cb1), .val (.int cb2), .val (.int cb3), .val (.ref b22), .unset] [(.int cb2), (.int (1 : Int32)), (.ref b22)]))
    obtain ⟨cla25, Ara25, qa25, Sa25, Pa25, Ha25, Ga25⟩ := id V24
    have hina25 : ¬ ((1 : Int32) < 0 ∨ cla25.slots.size ≤ ((1 : Int32) : Int32).toNatClampNeg) := inb_of Sa25 ⟨by decide, by decide⟩
    obtain ⟨T26, h26, X26, e26, W26, st26⟩ := stB X24 hx hZ e24 Ara25 (j := (1 : Int32)) hina25 (g := (mkF m 58 #[.val (.int p0), .val (.int p1), .val (.int p2), .val (.int p3), .val (.int p4), .val (.int (2 : Int32)), .val (.int cb1), .val (.int cb2), .val (.int cb3), .val (.ref b22), .unset] [(.int cb2), (.int (1 : Int32)), (.ref b22)])) rfl rfl (hb hby at_58)
    refine ownStep st26 ?_
    have N26 := Fr.snoc X26 N24 ge22
    have O26 := O24.wr W26 ge22
    show OwnGo _ _ _ _ _ _ _ (T26.setTop (mkF m 59 #[.val (.int p0), .val (.int p1), .val (.int p2), .val (.int p3), .val (.int p4), .val (.int (2 : Int32)), .val (.int cb1), .val (.int cb2), .val (.int cb3), .val (.ref b22), .unset] []))
    have V26 : Arv Z h26 b22 k22 .byte (2 : Int32) [(.int cb1), (.int cb2)] (.int (0 : Int32)) := by
      have q := Arv.set Ara25 qa25 Sa25 Pa25 Ha25 Ga25 (fits_nar_byte _) W26 1 rfl (Nat.le_of_ble_eq_true rfl)
      rw [nb2] at q
      exact q
    refine ownStep (fun _ k => XS.iload X26.here hx rfl (hb hby at_59) rfl k) ?_
    show OwnGo _ _ _ _ _ _ _ (T26.setTop (mkF m 61 #[.val (.int p0), .val (.int p1), .val (.int p2), .val (.int p3), .val (.int p4), .val (.int (2 : Int32)), .val (.int cb1), .val (.int cb2), .val (.int cb3), .val (.ref b22), .unset] [(.int (2 : Int32))]))
    refine ownStep (fun _ k => XS.iconst X26.here hx rfl (hb hby at_61) k) ?_
    show OwnGo _ _ _ _ _ _ _ (T26.setTop (mkF m 62 #[.val (.int p0), .val (.int p1), .val (.int p2), .val (.int p3), .val (.int p4), .val (.int (2 : Int32)), .val (.int cb1), .val (.int cb2), .val (.int cb3), .val (.ref b22), .unset] [(.int (2 : Int32)), (.int (2 : Int32))]))
    refine ownStep (fun _ k => XS.icmpYes X26.here hx rfl (pc0 := 62) (pc' := 71) rfl (hb hby at_62) rfl (flt (by decide : ¬ ((2 : Int32) < (2 : Int32)))).2.2.2 (by decide) (by decide) k) ?_
    show OwnGo _ _ _ _ _ _ _ (T26.setTop (mkF m 71 #[.val (.int p0), .val (.int p1), .val (.int p2), .val (.int p3), .val (.int p4), .val (.int (2 : Int32)), .val (.int cb1), .val (.int cb2), .val (.int cb3), .val (.ref b22), .unset] []))
    refine ownStep (fun _ k => XS.iload X26.here hx rfl (hb hby at_71) rfl k) ?_
    show OwnGo _ _ _ _ _ _ _ (T26.setTop (mkF m 73 #[.val (.int p0), .val (.int p1), .val (.int p2), .val (.int p3), .val (.int p4), .val (.int (2 : Int32)), .val (.int cb1), .val (.int cb2), .val (.int cb3), .val (.ref b22), .unset] [(.int (2 : Int32))]))
    refine ownStep (fun _ k => XS.iconst X26.here hx rfl (hb hby at_73) k) ?_
    show OwnGo _ _ _ _ _ _ _ (T26.setTop (mkF m 74 #[.val (.int p0), .val (.int p1), .val (.int p2), .val (.int p3), .val (.int p4), .val (.int (2 : Int32)), .val (.int cb1), .val (.int cb2), .val (.int cb3), .val (.ref b22), .unset] [(.int (3 : Int32)), (.int (2 : Int32))]))
    refine ownStep (fun _ k => XS.icmpYes X26.here hx rfl (pc0 := 74) (pc' := 84) rfl (hb hby at_74) rfl (flt (by decide : ¬ ((3 : Int32) < (2 : Int32)))).2.2.2 (by decide) (by decide) k) ?_
    show OwnGo _ _ _ _ _ _ _ (T26.setTop (mkF m 84 #[.val (.int p0), .val (.int p1), .val (.int p2), .val (.int p3), .val (.int p4), .val (.int (2 : Int32)), .val (.int cb1), .val (.int cb2), .val (.int cb3), .val (.ref b22), .unset] []))
    refine ownStep (fun _ k => XS.iload X26.here hx rfl (hb hby at_84) rfl k) ?_
    show OwnGo _ _ _ _ _ _ _ (T26.setTop (mkF m 86 #[.val (.int p0), .val (.int p1), .val (.int p2), .val (.int p3), .val (.int p4), .val (.int (2 : Int32)), .val (.int cb1), .val (.int cb2), .val (.int cb3), .val (.ref b22), .unset] [(.int (2 : Int32))]))
    refine ownStep (fun _ k => XS.iconst X26.here hx rfl (hb hby at_86) k) ?_
    show OwnGo _ _ _ _ _ _ _ (T26.setTop (mkF m 87 #[.val (.int p0), .val (.int p1), .val (.int p2), .val (.int p3), .val (.int p4), .val (.int (2 : Int32)), .val (.int cb1), .val (.int cb2), .val (.int cb3), .val (.ref b22), .unset] [(.int (4 : Int32)), (.int (2 : Int32))]))
    refine ownStep (fun _ k => XS.icmpYes X26.here hx rfl (pc0 := 87) (pc' := 100) rfl (hb hby at_87) rfl (flt (by decide : ¬ ((4 : Int32) < (2 : Int32)))).2.2.2 (by decide) (by decide) k) ?_
    show OwnGo _ _ _ _ _ _ _ (T26.setTop (mkF m 100 #[.val (.int p0), .val (.int p1), .val (.int p2), .val (.int p3), .val (.int p4), .val (.int (2 : Int32)), .val (.int cb1), .val (.int cb2), .val (.int cb3), .val (.ref b22), .unset] []))
    refine ownStep (fun _ k => XS.iload X26.here hx rfl (hb hby at_100) rfl k) ?_
    show OwnGo _ _ _ _ _ _ _ (T26.setTop (mkF m 102 #[.val (.int p0), .val (.int p1), .val (.int p2), .val (.int p3), .val (.int p4), .val (.int (2 : Int32)), .val (.int cb1), .val (.int cb2), .val (.int cb3), .val (.ref b22), .unset] [(.int (2 : Int32))]))
    refine ownStep (fun _ k => XS.iconst X26.here hx rfl (hb hby at_102) k) ?_
    show OwnGo _ _ _ _ _ _ _ (T26.setTop (mkF m 103 #[.val (.int p0), .val (.int p1), .val (.int p2), .val (.int p3), .val (.int p4), .val (.int (2 : Int32)), .val (.int cb1), .val (.int cb2), .val (.int cb3), .val (.ref b22), .unset] [(.int (5 : Int32)), (.int (2 : Int32))]))
    refine ownStep (fun _ k => XS.icmpYes X26.here hx rfl (pc0 := 103) (pc' := 116) rfl (hb hby at_103) rfl (flt (by decide : ¬ ((5 : Int32) < (2 : Int32)))).2.2.2 (by decide) (by decide) k) ?_
    show OwnGo _ _ _ _ _ _ _ (T26.setTop (mkF m 116 #[.val (.int p0), .val (.int p1), .val (.int p2), .val (.int p3), .val (.int p4), .val (.int (2 : Int32)), .val (.int cb1), .val (.int cb2), .val (.int cb3), .val (.ref b22), .unset] []))
    refine ownStep (fun _ k => XS.iload X26.here hx rfl (hb hby at_116) rfl k) ?_
    show OwnGo _ _ _ _ _ _ _ (T26.setTop (mkF m 118 #[.val (.int p0), .val (.int p1), .val (.int p2), .val (.int p3), .val (.int p4), .val (.int (2 : Int32)), .val (.int cb1), .val (.int cb2), .val (.int cb3), .val (.ref b22), .unset] [(.int (2 : Int32))]))
    refine ownStep (fun _ k => XS.bipush X26.here hx rfl (hb hby at_118) k) ?_
    show OwnGo _ _ _ _ _ _ _ (T26.setTop (mkF m 120 #[.val (.int p0), .val (.int p1), .val (.int p2), .val (.int p3), .val (.int p4), .val (.int (2 : Int32)), .val (.int cb1), .val (.int cb2), .val (.int cb3), .val (.ref b22), .unset] [(.int (6 : Int32)), (.int (2 : Int32))]))
    refine ownStep (fun _ k => XS.icmpYes X26.here hx rfl (pc0 := 120) (pc' := 134) rfl (hb hby at_120) rfl (flt (by decide : ¬ ((6 : Int32) < (2 : Int32)))).2.2.2 (by decide) (by decide) k) ?_
    show OwnGo _ _ _ _ _ _ _ (T26.setTop (mkF m 134 #[.val (.int p0), .val (.int p1), .val (.int p2), .val (.int p3), .val (.int p4), .val (.int (2 : Int32)), .val (.int cb1), .val (.int cb2), .val (.int cb3), .val (.ref b22), .unset] []))
    refine ownStep (fun _ k => XS.iload X26.here hx rfl (hb hby at_134) rfl k) ?_
    show OwnGo _ _ _ _ _ _ _ (T26.setTop (mkF m 136 #[.val (.int p0), .val (.int p1), .val (.int p2), .val (.int p3), .val (.int p4), .val (.int (2 : Int32)), .val (.int cb1), .val (.int cb2), .val (.int cb3), .val (.ref b22), .unset] [(.int (2 : Int32))]))
    refine ownStep (fun _ k => XS.iconst X26.here hx rfl (hb hby at_136) k) ?_
    show OwnGo _ _ _ _ _ _ _ (T26.setTop (mkF m 137 #[.val (.int p0), .val (.int p1), .val (.int p2), .val (.int p3), .val (.int p4), .val (.int (2 : Int32)), .val (.int cb1), .val (.int cb2), .val (.int cb3), .val (.ref b22), .unset] [(.int (3 : Int32)), (.int (2 : Int32))]))
    refine ownStep (fun _ k => XS.icmpYes X26.here hx rfl (pc0 := 137) (pc' := 165) rfl (hb hby at_137) rfl (tlt (by decide : (2 : Int32) < (3 : Int32))).1 (by decide) (by decide) k) ?_
    show OwnGo _ _ _ _ _ _ _ (T26.setTop (mkF m 165 #[.val (.int p0), .val (.int p1), .val (.int p2), .val (.int p3), .val (.int p4), .val (.int (2 : Int32)), .val (.int cb1), .val (.int cb2), .val (.int cb3), .val (.ref b22), .unset] []))
    refine ownStep (fun _ k => XS.iconst X26.here hx rfl (hb hby at_165) k) ?_
    show OwnGo _ _ _ _ _ _ _ (T26.setTop (mkF m 166 #[.val (.int p0), .val (.int p1), .val (.int p2), .val (.int p3), .val (.int p4), .val (.int (2 : Int32)), .val (.int cb1), .val (.int cb2), .val (.int cb3), .val (.ref b22), .unset] [(.int (0 : Int32))]))
    refine ownStep (fun _ k => XS.istore X26.here hx rfl (hb hby at_166) rfl (l' := #[.val (.int p0), .val (.int p1), .val (.int p2), .val (.int p3), .val (.int p4), .val (.int (2 : Int32)), .val (.int cb1), .val (.int cb2), .val (.int cb3), .val (.ref b22), .val (.int (0 : Int32))]) rfl k) ?_
    show OwnGo _ _ _ _ _ _ _ (T26.setTop (mkF m 168 #[.val (.int p0), .val (.int p1), .val (.int p2), .val (.int p3), .val (.int p4), .val (.int (2 : Int32)), .val (.int cb1), .val (.int cb2), .val (.int cb3), .val (.ref b22), .val (.int (0 : Int32))] []))
    refine ownStep (fun _ k => XS.aload X26.here hx rfl (hb hby at_168) rfl rfl k) ?_
    show OwnGo _ _ _ _ _ _ _ (T26.setTop (mkF m 170 #[.val (.int p0), .val (.int p1), .val (.int p2), .val (.int p3), .val (.int p4), .val (.int (2 : Int32)), .val (.int cb1), .val (.int cb2), .val (.int cb3), .val (.ref b22), .val (.int (0 : Int32))] [(.ref b22)]))
    obtain ⟨_, _, ⟨T27, L27, k27, n27⟩, -, X27, ⟨Lc27, hQ27, l27, y27, z27⟩, st27⟩ := Jvm.LawKit.callS X26 hx (y := (⟨"com/example/counterfoil/counterfoil/io/bai2/Fields", "isContinuation", "([B)Z"⟩ : MethodName)) hown (mvT hZ (hw _ (List.mem_of_getElem? (i := 5) rfl))) (mvT hZ (hw _ (List.mem_of_getElem? (i := 6) rfl))) (mvT hZ (hw _ (List.mem_of_getElem? (i := 7) rfl))) (mvT hZ (hw _ (List.mem_of_getElem? (i := 8) rfl))) (by decide) (backOf (W := 0) (rm2s l Z a0 hw [] b22 k22 (2 : Int32) _ wC kC h26 n0 O26 SC VC V26 (by decide)) hZ (hw _ (List.mem_of_getElem? (i := 8) rfl)) (hw _ (List.mem_of_getElem? (i := 7) rfl)) (by decide) (by decide)) (g := (mkF m 170 #[.val (.int p0), .val (.int p1), .val (.int p2), .val (.int p3), .val (.int p4), .val (.int (2 : Int32)), .val (.int cb1), .val (.int cb2), .val (.int cb3), .val (.ref b22), .val (.int (0 : Int32))] [(.ref b22)])) rfl (by rw [hml]; rfl) (argsL := [(.ref b22)]) (rest := []) (lenOf own_pd1 rfl) rfl (by show 2 * 0 + _ ≤ _; exact Nat.le_of_eq rfl) (hb hby at_170) (fun _ _ => ⟨rfl, e26, (by decide : 0 + 1 + 0 ≤ _), (by decide : 0 + 2 + 0 ≤ _)⟩)
    dsimp only [Pt.U, Pt.locs, Pt.cells, Pt.slots] at X27 l27 y27 z27 st27 hQ27
    subst l27 y27 z27
    obtain ⟨rfl, N27q, e27⟩ := hQ27
    have N27 := Fr.app N26 N27q
    refine ownStep st27 ?_
    show OwnGo _ _ _ _ _ _ _ (T27.setTop (mkF m 173 #[.val (.int p0), .val (.int p1), .val (.int p2), .val (.int p3), .val (.int p4), .val (.int (2 : Int32)), .val (.int cb1), .val (.int cb2), .val (.int cb3), .val (.ref b22), .val (.int (0 : Int32))] [(.int (0 : Int32))]))
    refine ownStep (fun _ k => XS.iload X27.here hx rfl (hb hby at_173) rfl k) ?_
    show OwnGo _ _ _ _ _ _ _ (T27.setTop (mkF m 175 #[.val (.int p0), .val (.int p1), .val (.int p2), .val (.int p3), .val (.int p4), .val (.int (2 : Int32)), .val (.int cb1), .val (.int cb2), .val (.int cb3), .val (.ref b22), .val (.int (0 : Int32))] [(.int (0 : Int32)), (.int (0 : Int32))]))
    refine ownStep (fun _ k => XS.icmpNo X27.here hx rfl (hb hby at_175) rfl (teq (by decide : (0 : Int32) = (0 : Int32))).2 k) ?_
    show OwnGo _ _ _ _ _ _ _ (T27.setTop (mkF m 178 #[.val (.int p0), .val (.int p1), .val (.int p2), .val (.int p3), .val (.int p4), .val (.int (2 : Int32)), .val (.int cb1), .val (.int cb2), .val (.int cb3), .val (.ref b22), .val (.int (0 : Int32))] []))
    refine ownStep (fun _ k => XS.iconst X27.here hx rfl (hb hby at_178) k) ?_
    show OwnGo _ _ _ _ _ _ _ (T27.setTop (mkF m 179 #[.val (.int p0), .val (.int p1), .val (.int p2), .val (.int p3), .val (.int p4), .val (.int (2 : Int32)), .val (.int cb1), .val (.int cb2), .val (.int cb3), .val (.ref b22), .val (.int (0 : Int32))] [(.int (1 : Int32))]))
    refine ownStep (fun _ k => XS.goto X27.here hx rfl (pc0 := 179) (pc' := 183) rfl (hb hby at_179) (by decide) (by decide) k) ?_
    show OwnGo _ _ _ _ _ _ _ (T27.setTop (mkF m 183 #[.val (.int p0), .val (.int p1), .val (.int p2), .val (.int p3), .val (.int p4), .val (.int (2 : Int32)), .val (.int cb1), .val (.int cb2), .val (.int cb3), .val (.ref b22), .val (.int (0 : Int32))] [(.int (1 : Int32))]))
    have eq183 : T27.heap = h26 := e27
    exact ownRetN X27 hx (t := .boolean) Bd.returns (by simp) (hb hby at_183) (BodyLoose.notSynchronized Bd) (by decide) (by decide) (by rw [eq183]; exact ⟨rfl, N27⟩)
  · rw [hk]
    show OwnGo _ _ _ _ _ _ _ (T15.setTop (mkF m 32 #[.val (.int p0), .val (.int p1), .val (.int p2), .val (.int p3), .val (.int p4), .val (.int (3 : Int32)), .val (.int cb1), .val (.int cb2), .val (.int cb3), .unset, .unset] [(.int (3 : Int32))]))
    obtain ⟨T28, h28, k28, X28, e28, E28, A28, st28⟩ := newP X15 hx hZ (hw _ (List.mem_of_getElem? (i := 4) rfl)) e15 (g := (mkF m 32 #[.val (.int p0), .val (.int p1), .val (.int p2), .val (.int p3), .val (.int p4), .val (.int (3 : Int32)), .val (.int cb1), .val (.int cb2), .val (.int cb3), .unset, .unset] [(.int (3 : Int32))])) rfl (hb hby at_32) rfl (by decide) (cap := 3) (by decide) (by decide) (by decide) (by decide)
    obtain ⟨b28, g28⟩ : ∃ z, z = h0.size := ⟨_, rfl⟩
    rw [← g28] at A28 st28
    refine ownStep st28 ?_
    have ge28 : n0 ≤ b28 := by rw [g28]; exact Nat.le_trans (Nat.le_of_eq O0.1.symm) O0.2.1
    have O28 := O0.ext E28
    show OwnGo _ _ _ _ _ _ _ (T28.setTop (mkF m 34 #[.val (.int p0), .val (.int p1), .val (.int p2), .val (.int p3), .val (.int p4), .val (.int (3 : Int32)), .val (.int cb1), .val (.int cb2), .val (.int cb3), .unset, .unset] [(.ref b28)]))
    have V28 : Arv Z h28 b28 k28 .byte (3 : Int32) [(.int (0 : Int32)), (.int (0 : Int32)), (.int (0 : Int32))] (.int (0 : Int32)) := (Arv.new A28 (by decide)).pad (pad_rep [] (.int (0 : Int32)) 3)
    refine ownStep (fun _ k => XS.astore X28.here hx rfl (hb hby at_34) rfl rfl (l' := #[.val (.int p0), .val (.int p1), .val (.int p2), .val (.int p3), .val (.int p4), .val (.int (3 : Int32)), .val (.int cb1), .val (.int cb2), .val (.int cb3), .val (.ref b28), .unset]) rfl k) ?_
    show OwnGo _ _ _ _ _ _ _ (T28.setTop (mkF m 36 #[.val (.int p0), .val (.int p1), .val (.int p2), .val (.int p3), .val (.int p4), .val (.int (3 : Int32)), .val (.int cb1), .val (.int cb2), .val (.int cb3), .val (.ref b28), .unset] []))
    refine ownStep (fun _ k => XS.iload X28.here hx rfl (hb hby at_36) rfl k) ?_
    show OwnGo _ _ _ _ _ _ _ (T28.setTop (mkF m 38 #[.val (.int p0), .val (.int p1), .val (.int p2), .val (.int p3), .val (.int p4), .val (.int (3 : Int32)), .val (.int cb1), .val (.int cb2), .val (.int cb3), .val (.ref b28), .unset] [(.int (3 : Int32))]))
    refine ownStep (fun _ k => XS.ifNo X28.here hx rfl (hb hby at_38) rfl ((if0 _ _).trans (tlt (by decide : (0 : Int32) < (3 : Int32))).2.2.2) k) ?_
    show OwnGo _ _ _ _ _ _ _ (T28.setTop (mkF m 41 #[.val (.int p0), .val (.int p1), .val (.int p2), .val (.int p3), .val (.int p4), .val (.int (3 : Int32)), .val (.int cb1), .val (.int cb2), .val (.int cb3), .val (.ref b28), .unset] []))
    refine ownStep (fun _ k => XS.aload X28.here hx rfl (hb hby at_41) rfl rfl k) ?_
    show OwnGo _ _ _ _ _ _ _ (T28.setTop (mkF m 43 #[.val (.int p0), .val (.int p1), .val (.int p2), .val (.int p3), .val (.int p4), .val (.int (3 : Int32)), .val (.int cb1), .val (.int cb2), .val (.int cb3), .val (.ref b28), .unset] [(.ref b28)]))
    refine ownStep (fun _ k => XS.iconst X28.here hx rfl (hb hby at_43) k) ?_
    show OwnGo _ _ _ _ _ _ _ (T28.setTop (mkF m 44 #[.val (.int p0), .val (.int p1), .val (.int p2), .val (.int p3), .val (.int p4), .val (.int (3 : Int32)), .val (.int cb1), .val (.int cb2), .val (.int cb3), .val (.ref b28), .unset] [(.int (0 : Int32)), (.ref b28)]))
    refine ownStep (fun _ k => XS.iload X28.here hx rfl (hb hby at_44) rfl k) ?_
    show OwnGo _ _ _ _ _ _ _ (T28.setTop (mkF m 46 #[.val (.int p0), .val (.int p1), .val (.int p2), .val (.int p3), .val (.int p4), .val (.int (3 : Int32)), .val (.int cb1), .val (.int cb2), .val (.int cb3), .val (.ref b28), .unset] [(.int cb1), (.int (0 : Int32)), (.ref b28)]))
    obtain ⟨cla29, Ara29, qa29, Sa29, Pa29, Ha29, Ga29⟩ := id V28
    have hina29 : ¬ ((0 : Int32) < 0 ∨ cla29.slots.size ≤ ((0 : Int32) : Int32).toNatClampNeg) := inb_of Sa29 ⟨by decide, by decide⟩
    obtain ⟨T30, h30, X30, e30, W30, st30⟩ := stB X28 hx hZ e28 Ara29 (j := (0 : Int32)) hina29 (g := (mkF m 46 #[.val (.int p0), .val (.int p1), .val (.int p2), .val (.int p3), .val (.int p4), .val (.int (3 : Int32)), .val (.int cb1), .val (.int cb2), .val (.int cb3), .val (.ref b28), .unset] [(.int cb1), (.int (0 : Int32)), (.ref b28)])) rfl rfl (hb hby at_46)
    refine ownStep st30 ?_
    have N30 := Fr.snoc X30 N15 ge28
    have O30 := O28.wr W30 ge28
    show OwnGo _ _ _ _ _ _ _ (T30.setTop (mkF m 47 #[.val (.int p0), .val (.int p1), .val (.int p2), .val (.int p3), .val (.int p4), .val (.int (3 : Int32)), .val (.int cb1), .val (.int cb2), .val (.int cb3), .val (.ref b28), .unset] []))
    have V30 : Arv Z h30 b28 k28 .byte (3 : Int32) [(.int cb1), (.int (0 : Int32)), (.int (0 : Int32))] (.int (0 : Int32)) := by
      have q := Arv.set Ara29 qa29 Sa29 Pa29 Ha29 Ga29 (fits_nar_byte _) W30 0 rfl (Nat.le_of_ble_eq_true rfl)
      rw [nb1] at q
      exact q
    refine ownStep (fun _ k => XS.iload X30.here hx rfl (hb hby at_47) rfl k) ?_
    show OwnGo _ _ _ _ _ _ _ (T30.setTop (mkF m 49 #[.val (.int p0), .val (.int p1), .val (.int p2), .val (.int p3), .val (.int p4), .val (.int (3 : Int32)), .val (.int cb1), .val (.int cb2), .val (.int cb3), .val (.ref b28), .unset] [(.int (3 : Int32))]))
    refine ownStep (fun _ k => XS.iconst X30.here hx rfl (hb hby at_49) k) ?_
    show OwnGo _ _ _ _ _ _ _ (T30.setTop (mkF m 50 #[.val (.int p0), .val (.int p1), .val (.int p2), .val (.int p3), .val (.int p4), .val (.int (3 : Int32)), .val (.int cb1), .val (.int cb2), .val (.int cb3), .val (.ref b28), .unset] [(.int (1 : Int32)), (.int (3 : Int32))]))
    refine ownStep (fun _ k => XS.icmpNo X30.here hx rfl (hb hby at_50) rfl (tlt (by decide : (1 : Int32) < (3 : Int32))).2.2.2 k) ?_
    show OwnGo _ _ _ _ _ _ _ (T30.setTop (mkF m 53 #[.val (.int p0), .val (.int p1), .val (.int p2), .val (.int p3), .val (.int p4), .val (.int (3 : Int32)), .val (.int cb1), .val (.int cb2), .val (.int cb3), .val (.ref b28), .unset] []))
    refine ownStep (fun _ k => XS.aload X30.here hx rfl (hb hby at_53) rfl rfl k) ?_
    show OwnGo _ _ _ _ _ _ _ (T30.setTop (mkF m 55 #[.val (.int p0), .val (.int p1), .val (.int p2), .val (.int p3), .val (.int p4), .val (.int (3 : Int32)), .val (.int cb1), .val (.int cb2), .val (.int cb3), .val (.ref b28), .unset] [(.ref b28)]))
    refine ownStep (fun _ k => XS.iconst X30.here hx rfl (hb hby at_55) k) ?_
    show OwnGo _ _ _ _ _ _ _ (T30.setTop (mkF m 56 #[.val (.int p0), .val (.int p1), .val (.int p2), .val (.int p3), .val (.int p4), .val (.int (3 : Int32)), .val (.int cb1), .val (.int cb2), .val (.int cb3), .val (.ref b28), .unset] [(.int (1 : Int32)), (.ref b28)]))
    refine ownStep (fun _ k => XS.iload X30.here hx rfl (hb hby at_56) rfl k) ?_
    show OwnGo _ _ _ _ _ _ _ (T30.setTop (mkF m 58 #[.val (.int p0), .val (.int p1), .val (.int p2), .val (.int p3), .val (.int p4), .val (.int (3 : Int32)), .val (.int cb1), .val (.int cb2), .val (.int cb3), .val (.ref b28), .unset] [(.int cb2), (.int (1 : Int32)), (.ref b28)]))
    obtain ⟨cla31, Ara31, qa31, Sa31, Pa31, Ha31, Ga31⟩ := id V30
    have hina31 : ¬ ((1 : Int32) < 0 ∨ cla31.slots.size ≤ ((1 : Int32) : Int32).toNatClampNeg) := inb_of Sa31 ⟨by decide, by decide⟩
    obtain ⟨T32, h32, X32, e32, W32, st32⟩ := stB X30 hx hZ e30 Ara31 (j := (1 : Int32)) hina31 (g := (mkF m 58 #[.val (.int p0), .val (.int p1), .val (.int p2), .val (.int p3), .val (.int p4), .val (.int (3 : Int32)), .val (.int cb1), .val (.int cb2), .val (.int cb3), .val (.ref b28), .unset] [(.int cb2), (.int (1 : Int32)), (.ref b28)])) rfl rfl (hb hby at_58)
    refine ownStep st32 ?_
    have N32 := Fr.snoc X32 N30 ge28
    have O32 := O30.wr W32 ge28
    show OwnGo _ _ _ _ _ _ _ (T32.setTop (mkF m 59 #[.val (.int p0), .val (.int p1), .val (.int p2), .val (.int p3), .val (.int p4), .val (.int (3 : Int32)), .val (.int cb1), .val (.int cb2), .val (.int cb3), .val (.ref b28), .unset] []))
    have V32 : Arv Z h32 b28 k28 .byte (3 : Int32) [(.int cb1), (.int cb2), (.int (0 : Int32))] (.int (0 : Int32)) := by
      have q := Arv.set Ara31 qa31 Sa31 Pa31 Ha31 Ga31 (fits_nar_byte _) W32 1 rfl (Nat.le_of_ble_eq_true rfl)
      rw [nb2] at q
      exact q
    refine ownStep (fun _ k => XS.iload X32.here hx rfl (hb hby at_59) rfl k) ?_
    show OwnGo _ _ _ _ _ _ _ (T32.setTop (mkF m 61 #[.val (.int p0), .val (.int p1), .val (.int p2), .val (.int p3), .val (.int p4), .val (.int (3 : Int32)), .val (.int cb1), .val (.int cb2), .val (.int cb3), .val (.ref b28), .unset] [(.int (3 : Int32))]))
    refine ownStep (fun _ k => XS.iconst X32.here hx rfl (hb hby at_61) k) ?_
    show OwnGo _ _ _ _ _ _ _ (T32.setTop (mkF m 62 #[.val (.int p0), .val (.int p1), .val (.int p2), .val (.int p3), .val (.int p4), .val (.int (3 : Int32)), .val (.int cb1), .val (.int cb2), .val (.int cb3), .val (.ref b28), .unset] [(.int (2 : Int32)), (.int (3 : Int32))]))
    refine ownStep (fun _ k => XS.icmpNo X32.here hx rfl (hb hby at_62) rfl (tlt (by decide : (2 : Int32) < (3 : Int32))).2.2.2 k) ?_
    show OwnGo _ _ _ _ _ _ _ (T32.setTop (mkF m 65 #[.val (.int p0), .val (.int p1), .val (.int p2), .val (.int p3), .val (.int p4), .val (.int (3 : Int32)), .val (.int cb1), .val (.int cb2), .val (.int cb3), .val (.ref b28), .unset] []))
    refine ownStep (fun _ k => XS.aload X32.here hx rfl (hb hby at_65) rfl rfl k) ?_
    show OwnGo _ _ _ _ _ _ _ (T32.setTop (mkF m 67 #[.val (.int p0), .val (.int p1), .val (.int p2), .val (.int p3), .val (.int p4), .val (.int (3 : Int32)), .val (.int cb1), .val (.int cb2), .val (.int cb3), .val (.ref b28), .unset] [(.ref b28)]))
    refine ownStep (fun _ k => XS.iconst X32.here hx rfl (hb hby at_67) k) ?_
    show OwnGo _ _ _ _ _ _ _ (T32.setTop (mkF m 68 #[.val (.int p0), .val (.int p1), .val (.int p2), .val (.int p3), .val (.int p4), .val (.int (3 : Int32)), .val (.int cb1), .val (.int cb2), .val (.int cb3), .val (.ref b28), .unset] [(.int (2 : Int32)), (.ref b28)]))
    refine ownStep (fun _ k => XS.iload X32.here hx rfl (hb hby at_68) rfl k) ?_
    show OwnGo _ _ _ _ _ _ _ (T32.setTop (mkF m 70 #[.val (.int p0), .val (.int p1), .val (.int p2), .val (.int p3), .val (.int p4), .val (.int (3 : Int32)), .val (.int cb1), .val (.int cb2), .val (.int cb3), .val (.ref b28), .unset] [(.int cb3), (.int (2 : Int32)), (.ref b28)]))
    obtain ⟨cla33, Ara33, qa33, Sa33, Pa33, Ha33, Ga33⟩ := id V32
    have hina33 : ¬ ((2 : Int32) < 0 ∨ cla33.slots.size ≤ ((2 : Int32) : Int32).toNatClampNeg) := inb_of Sa33 ⟨by decide, by decide⟩
    obtain ⟨T34, h34, X34, e34, W34, st34⟩ := stB X32 hx hZ e32 Ara33 (j := (2 : Int32)) hina33 (g := (mkF m 70 #[.val (.int p0), .val (.int p1), .val (.int p2), .val (.int p3), .val (.int p4), .val (.int (3 : Int32)), .val (.int cb1), .val (.int cb2), .val (.int cb3), .val (.ref b28), .unset] [(.int cb3), (.int (2 : Int32)), (.ref b28)])) rfl rfl (hb hby at_70)
    refine ownStep st34 ?_
    have N34 := Fr.snoc X34 N32 ge28
    have O34 := O32.wr W34 ge28
    show OwnGo _ _ _ _ _ _ _ (T34.setTop (mkF m 71 #[.val (.int p0), .val (.int p1), .val (.int p2), .val (.int p3), .val (.int p4), .val (.int (3 : Int32)), .val (.int cb1), .val (.int cb2), .val (.int cb3), .val (.ref b28), .unset] []))
    have V34 : Arv Z h34 b28 k28 .byte (3 : Int32) [(.int cb1), (.int cb2), (.int cb3)] (.int (0 : Int32)) := by
      have q := Arv.set Ara33 qa33 Sa33 Pa33 Ha33 Ga33 (fits_nar_byte _) W34 2 rfl (Nat.le_of_ble_eq_true rfl)
      rw [nb3] at q
      exact q
    refine ownStep (fun _ k => XS.iload X34.here hx rfl (hb hby at_71) rfl k) ?_
    show OwnGo _ _ _ _ _ _ _ (T34.setTop (mkF m 73 #[.val (.int p0), .val (.int p1), .val (.int p2), .val (.int p3), .val (.int p4), .val (.int (3 : Int32)), .val (.int cb1), .val (.int cb2), .val (.int cb3), .val (.ref b28), .unset] [(.int (3 : Int32))]))
    refine ownStep (fun _ k => XS.iconst X34.here hx rfl (hb hby at_73) k) ?_
    show OwnGo _ _ _ _ _ _ _ (T34.setTop (mkF m 74 #[.val (.int p0), .val (.int p1), .val (.int p2), .val (.int p3), .val (.int p4), .val (.int (3 : Int32)), .val (.int cb1), .val (.int cb2), .val (.int cb3), .val (.ref b28), .unset] [(.int (3 : Int32)), (.int (3 : Int32))]))
    refine ownStep (fun _ k => XS.icmpYes X34.here hx rfl (pc0 := 74) (pc' := 84) rfl (hb hby at_74) rfl (flt (by decide : ¬ ((3 : Int32) < (3 : Int32)))).2.2.2 (by decide) (by decide) k) ?_
    show OwnGo _ _ _ _ _ _ _ (T34.setTop (mkF m 84 #[.val (.int p0), .val (.int p1), .val (.int p2), .val (.int p3), .val (.int p4), .val (.int (3 : Int32)), .val (.int cb1), .val (.int cb2), .val (.int cb3), .val (.ref b28), .unset] []))
    refine ownStep (fun _ k => XS.iload X34.here hx rfl (hb hby at_84) rfl k) ?_
    show OwnGo _ _ _ _ _ _ _ (T34.setTop (mkF m 86 #[.val (.int p0), .val (.int p1), .val (.int p2), .val (.int p3), .val (.int p4), .val (.int (3 : Int32)), .val (.int cb1), .val (.int cb2), .val (.int cb3), .val (.ref b28), .unset] [(.int (3 : Int32))]))
    refine ownStep (fun _ k => XS.iconst X34.here hx rfl (hb hby at_86) k) ?_
    show OwnGo _ _ _ _ _ _ _ (T34.setTop (mkF m 87 #[.val (.int p0), .val (.int p1), .val (.int p2), .val (.int p3), .val (.int p4), .val (.int (3 : Int32)), .val (.int cb1), .val (.int cb2), .val (.int cb3), .val (.ref b28), .unset] [(.int (4 : Int32)), (.int (3 : Int32))]))
    refine ownStep (fun _ k => XS.icmpYes X34.here hx rfl (pc0 := 87) (pc' := 100) rfl (hb hby at_87) rfl (flt (by decide : ¬ ((4 : Int32) < (3 : Int32)))).2.2.2 (by decide) (by decide) k) ?_
    show OwnGo _ _ _ _ _ _ _ (T34.setTop (mkF m 100 #[.val (.int p0), .val (.int p1), .val (.int p2), .val (.int p3), .val (.int p4), .val (.int (3 : Int32)), .val (.int cb1), .val (.int cb2), .val (.int cb3), .val (.ref b28), .unset] []))
    refine ownStep (fun _ k => XS.iload X34.here hx rfl (hb hby at_100) rfl k) ?_
    show OwnGo _ _ _ _ _ _ _ (T34.setTop (mkF m 102 #[.val (.int p0), .val (.int p1), .val (.int p2), .val (.int p3), .val (.int p4), .val (.int (3 : Int32)), .val (.int cb1), .val (.int cb2), .val (.int cb3), .val (.ref b28), .unset] [(.int (3 : Int32))]))
    refine ownStep (fun _ k => XS.iconst X34.here hx rfl (hb hby at_102) k) ?_
    show OwnGo _ _ _ _ _ _ _ (T34.setTop (mkF m 103 #[.val (.int p0), .val (.int p1), .val (.int p2), .val (.int p3), .val (.int p4), .val (.int (3 : Int32)), .val (.int cb1), .val (.int cb2), .val (.int cb3), .val (.ref b28), .unset] [(.int (5 : Int32)), (.int (3 : Int32))]))
    refine ownStep (fun _ k => XS.icmpYes X34.here hx rfl (pc0 := 103) (pc' := 116) rfl (hb hby at_103) rfl (flt (by decide : ¬ ((5 : Int32) < (3 : Int32)))).2.2.2 (by decide) (by decide) k) ?_
    show OwnGo _ _ _ _ _ _ _ (T34.setTop (mkF m 116 #[.val (.int p0), .val (.int p1), .val (.int p2), .val (.int p3), .val (.int p4), .val (.int (3 : Int32)), .val (.int cb1), .val (.int cb2), .val (.int cb3), .val (.ref b28), .unset] []))
    refine ownStep (fun _ k => XS.iload X34.here hx rfl (hb hby at_116) rfl k) ?_
    show OwnGo _ _ _ _ _ _ _ (T34.setTop (mkF m 118 #[.val (.int p0), .val (.int p1), .val (.int p2), .val (.int p3), .val (.int p4), .val (.int (3 : Int32)), .val (.int cb1), .val (.int cb2), .val (.int cb3), .val (.ref b28), .unset] [(.int (3 : Int32))]))
    refine ownStep (fun _ k => XS.bipush X34.here hx rfl (hb hby at_118) k) ?_
    show OwnGo _ _ _ _ _ _ _ (T34.setTop (mkF m 120 #[.val (.int p0), .val (.int p1), .val (.int p2), .val (.int p3), .val (.int p4), .val (.int (3 : Int32)), .val (.int cb1), .val (.int cb2), .val (.int cb3), .val (.ref b28), .unset] [(.int (6 : Int32)), (.int (3 : Int32))]))
    refine ownStep (fun _ k => XS.icmpYes X34.here hx rfl (pc0 := 120) (pc' := 134) rfl (hb hby at_120) rfl (flt (by decide : ¬ ((6 : Int32) < (3 : Int32)))).2.2.2 (by decide) (by decide) k) ?_
    show OwnGo _ _ _ _ _ _ _ (T34.setTop (mkF m 134 #[.val (.int p0), .val (.int p1), .val (.int p2), .val (.int p3), .val (.int p4), .val (.int (3 : Int32)), .val (.int cb1), .val (.int cb2), .val (.int cb3), .val (.ref b28), .unset] []))
    refine ownStep (fun _ k => XS.iload X34.here hx rfl (hb hby at_134) rfl k) ?_
    show OwnGo _ _ _ _ _ _ _ (T34.setTop (mkF m 136 #[.val (.int p0), .val (.int p1), .val (.int p2), .val (.int p3), .val (.int p4), .val (.int (3 : Int32)), .val (.int cb1), .val (.int cb2), .val (.int cb3), .val (.ref b28), .unset] [(.int (3 : Int32))]))
    refine ownStep (fun _ k => XS.iconst X34.here hx rfl (hb hby at_136) k) ?_
    show OwnGo _ _ _ _ _ _ _ (T34.setTop (mkF m 137 #[.val (.int p0), .val (.int p1), .val (.int p2), .val (.int p3), .val (.int p4), .val (.int (3 : Int32)), .val (.int cb1), .val (.int cb2), .val (.int cb3), .val (.ref b28), .unset] [(.int (3 : Int32)), (.int (3 : Int32))]))
    refine ownStep (fun _ k => XS.icmpNo X34.here hx rfl (hb hby at_137) rfl (flt (by decide : ¬ ((3 : Int32) < (3 : Int32)))).1 k) ?_
    show OwnGo _ _ _ _ _ _ _ (T34.setTop (mkF m 140 #[.val (.int p0), .val (.int p1), .val (.int p2), .val (.int p3), .val (.int p4), .val (.int (3 : Int32)), .val (.int cb1), .val (.int cb2), .val (.int cb3), .val (.ref b28), .unset] []))
    refine ownStep (fun _ k => XS.iload X34.here hx rfl (hb hby at_140) rfl k) ?_
    show OwnGo _ _ _ _ _ _ _ (T34.setTop (mkF m 142 #[.val (.int p0), .val (.int p1), .val (.int p2), .val (.int p3), .val (.int p4), .val (.int (3 : Int32)), .val (.int cb1), .val (.int cb2), .val (.int cb3), .val (.ref b28), .unset] [(.int cb1)]))
    refine ownStep (fun _ k => XS.bipush X34.here hx rfl (hb hby at_142) k) ?_
    show OwnGo _ _ _ _ _ _ _ (T34.setTop (mkF m 144 #[.val (.int p0), .val (.int p1), .val (.int p2), .val (.int p3), .val (.int p4), .val (.int (3 : Int32)), .val (.int cb1), .val (.int cb2), .val (.int cb3), .val (.ref b28), .unset] [(.int (56 : Int32)), (.int cb1)]))
    by_cases t0 : cb1 = (56 : Int32)
    · skip
      refine ownStep (fun _ k => XS.icmpNo X34.here hx rfl (hb hby at_144) rfl (teq t0).2 k) ?_
      show OwnGo _ _ _ _ _ _ _ (T34.setTop (mkF m 147 #[.val (.int p0), .val (.int p1), .val (.int p2), .val (.int p3), .val (.int p4), .val (.int (3 : Int32)), .val (.int cb1), .val (.int cb2), .val (.int cb3), .val (.ref b28), .unset] []))
      refine ownStep (fun _ k => XS.iload X34.here hx rfl (hb hby at_147) rfl k) ?_
      show OwnGo _ _ _ _ _ _ _ (T34.setTop (mkF m 149 #[.val (.int p0), .val (.int p1), .val (.int p2), .val (.int p3), .val (.int p4), .val (.int (3 : Int32)), .val (.int cb1), .val (.int cb2), .val (.int cb3), .val (.ref b28), .unset] [(.int cb2)]))
      refine ownStep (fun _ k => XS.bipush X34.here hx rfl (hb hby at_149) k) ?_
      show OwnGo _ _ _ _ _ _ _ (T34.setTop (mkF m 151 #[.val (.int p0), .val (.int p1), .val (.int p2), .val (.int p3), .val (.int p4), .val (.int (3 : Int32)), .val (.int cb1), .val (.int cb2), .val (.int cb3), .val (.ref b28), .unset] [(.int (56 : Int32)), (.int cb2)]))
      by_cases t1 : cb2 = (56 : Int32)
      · skip
        refine ownStep (fun _ k => XS.icmpNo X34.here hx rfl (hb hby at_151) rfl (teq t1).2 k) ?_
        show OwnGo _ _ _ _ _ _ _ (T34.setTop (mkF m 154 #[.val (.int p0), .val (.int p1), .val (.int p2), .val (.int p3), .val (.int p4), .val (.int (3 : Int32)), .val (.int cb1), .val (.int cb2), .val (.int cb3), .val (.ref b28), .unset] []))
        refine ownStep (fun _ k => XS.iload X34.here hx rfl (hb hby at_154) rfl k) ?_
        show OwnGo _ _ _ _ _ _ _ (T34.setTop (mkF m 156 #[.val (.int p0), .val (.int p1), .val (.int p2), .val (.int p3), .val (.int p4), .val (.int (3 : Int32)), .val (.int cb1), .val (.int cb2), .val (.int cb3), .val (.ref b28), .unset] [(.int cb3)]))
        refine ownStep (fun _ k => XS.bipush X34.here hx rfl (hb hby at_156) k) ?_
        show OwnGo _ _ _ _ _ _ _ (T34.setTop (mkF m 158 #[.val (.int p0), .val (.int p1), .val (.int p2), .val (.int p3), .val (.int p4), .val (.int (3 : Int32)), .val (.int cb1), .val (.int cb2), .val (.int cb3), .val (.ref b28), .unset] [(.int (44 : Int32)), (.int cb3)]))
        by_cases t2 : cb3 = (44 : Int32)
        · skip
          refine ownStep (fun _ k => XS.icmpNo X34.here hx rfl (hb hby at_158) rfl (teq t2).2 k) ?_
          show OwnGo _ _ _ _ _ _ _ (T34.setTop (mkF m 161 #[.val (.int p0), .val (.int p1), .val (.int p2), .val (.int p3), .val (.int p4), .val (.int (3 : Int32)), .val (.int cb1), .val (.int cb2), .val (.int cb3), .val (.ref b28), .unset] []))
          refine ownStep (fun _ k => XS.iconst X34.here hx rfl (hb hby at_161) k) ?_
          show OwnGo _ _ _ _ _ _ _ (T34.setTop (mkF m 162 #[.val (.int p0), .val (.int p1), .val (.int p2), .val (.int p3), .val (.int p4), .val (.int (3 : Int32)), .val (.int cb1), .val (.int cb2), .val (.int cb3), .val (.ref b28), .unset] [(.int (1 : Int32))]))
          refine ownStep (fun _ k => XS.goto X34.here hx rfl (pc0 := 162) (pc' := 166) rfl (hb hby at_162) (by decide) (by decide) k) ?_
          show OwnGo _ _ _ _ _ _ _ (T34.setTop (mkF m 166 #[.val (.int p0), .val (.int p1), .val (.int p2), .val (.int p3), .val (.int p4), .val (.int (3 : Int32)), .val (.int cb1), .val (.int cb2), .val (.int cb3), .val (.ref b28), .unset] [(.int (1 : Int32))]))
          refine ownStep (fun _ k => XS.istore X34.here hx rfl (hb hby at_166) rfl (l' := #[.val (.int p0), .val (.int p1), .val (.int p2), .val (.int p3), .val (.int p4), .val (.int (3 : Int32)), .val (.int cb1), .val (.int cb2), .val (.int cb3), .val (.ref b28), .val (.int (1 : Int32))]) rfl k) ?_
          show OwnGo _ _ _ _ _ _ _ (T34.setTop (mkF m 168 #[.val (.int p0), .val (.int p1), .val (.int p2), .val (.int p3), .val (.int p4), .val (.int (3 : Int32)), .val (.int cb1), .val (.int cb2), .val (.int cb3), .val (.ref b28), .val (.int (1 : Int32))] []))
          refine ownStep (fun _ k => XS.aload X34.here hx rfl (hb hby at_168) rfl rfl k) ?_
          show OwnGo _ _ _ _ _ _ _ (T34.setTop (mkF m 170 #[.val (.int p0), .val (.int p1), .val (.int p2), .val (.int p3), .val (.int p4), .val (.int (3 : Int32)), .val (.int cb1), .val (.int cb2), .val (.int cb3), .val (.ref b28), .val (.int (1 : Int32))] [(.ref b28)]))
          obtain ⟨_, _, ⟨T35, L35, k35, n35⟩, -, X35, ⟨Lc35, hQ35, l35, y35, z35⟩, st35⟩ := Jvm.LawKit.callS X34 hx (y := (⟨"com/example/counterfoil/counterfoil/io/bai2/Fields", "isContinuation", "([B)Z"⟩ : MethodName)) hown (mvT hZ (hw _ (List.mem_of_getElem? (i := 5) rfl))) (mvT hZ (hw _ (List.mem_of_getElem? (i := 6) rfl))) (mvT hZ (hw _ (List.mem_of_getElem? (i := 7) rfl))) (mvT hZ (hw _ (List.mem_of_getElem? (i := 8) rfl))) (by decide) (backOf (W := 0) (rm2 l Z a0 hw [] b28 k28 (3 : Int32) _ cb1 cb2 cb3 wC kC (1 : Int32) h34 n0 O34 SC VC V34 (by decide) (by decide) (by decide) (by decide) rfl rfl rfl (if_pos ⟨t0, t1, t2⟩)) hZ (hw _ (List.mem_of_getElem? (i := 8) rfl)) (hw _ (List.mem_of_getElem? (i := 7) rfl)) (by decide) (by decide)) (g := (mkF m 170 #[.val (.int p0), .val (.int p1), .val (.int p2), .val (.int p3), .val (.int p4), .val (.int (3 : Int32)), .val (.int cb1), .val (.int cb2), .val (.int cb3), .val (.ref b28), .val (.int (1 : Int32))] [(.ref b28)])) rfl (by rw [hml]; rfl) (argsL := [(.ref b28)]) (rest := []) (lenOf own_pd1 rfl) rfl (by show 2 * 0 + _ ≤ _; exact Nat.le_of_eq rfl) (hb hby at_170) (fun _ _ => ⟨rfl, e34, (by decide : 0 + 1 + 0 ≤ _), (by decide : 0 + 3 + 0 ≤ _)⟩)
          dsimp only [Pt.U, Pt.locs, Pt.cells, Pt.slots] at X35 l35 y35 z35 st35 hQ35
          subst l35 y35 z35
          obtain ⟨rfl, N35q, e35⟩ := hQ35
          have N35 := Fr.app N34 N35q
          refine ownStep st35 ?_
          show OwnGo _ _ _ _ _ _ _ (T35.setTop (mkF m 173 #[.val (.int p0), .val (.int p1), .val (.int p2), .val (.int p3), .val (.int p4), .val (.int (3 : Int32)), .val (.int cb1), .val (.int cb2), .val (.int cb3), .val (.ref b28), .val (.int (1 : Int32))] [(.int (1 : Int32))]))
          refine ownStep (fun _ k => XS.iload X35.here hx rfl (hb hby at_173) rfl k) ?_
          show OwnGo _ _ _ _ _ _ _ (T35.setTop (mkF m 175 #[.val (.int p0), .val (.int p1), .val (.int p2), .val (.int p3), .val (.int p4), .val (.int (3 : Int32)), .val (.int cb1), .val (.int cb2), .val (.int cb3), .val (.ref b28), .val (.int (1 : Int32))] [(.int (1 : Int32)), (.int (1 : Int32))]))
          refine ownStep (fun _ k => XS.icmpNo X35.here hx rfl (hb hby at_175) rfl (teq (by decide : (1 : Int32) = (1 : Int32))).2 k) ?_
          show OwnGo _ _ _ _ _ _ _ (T35.setTop (mkF m 178 #[.val (.int p0), .val (.int p1), .val (.int p2), .val (.int p3), .val (.int p4), .val (.int (3 : Int32)), .val (.int cb1), .val (.int cb2), .val (.int cb3), .val (.ref b28), .val (.int (1 : Int32))] []))
          refine ownStep (fun _ k => XS.iconst X35.here hx rfl (hb hby at_178) k) ?_
          show OwnGo _ _ _ _ _ _ _ (T35.setTop (mkF m 179 #[.val (.int p0), .val (.int p1), .val (.int p2), .val (.int p3), .val (.int p4), .val (.int (3 : Int32)), .val (.int cb1), .val (.int cb2), .val (.int cb3), .val (.ref b28), .val (.int (1 : Int32))] [(.int (1 : Int32))]))
          refine ownStep (fun _ k => XS.goto X35.here hx rfl (pc0 := 179) (pc' := 183) rfl (hb hby at_179) (by decide) (by decide) k) ?_
          show OwnGo _ _ _ _ _ _ _ (T35.setTop (mkF m 183 #[.val (.int p0), .val (.int p1), .val (.int p2), .val (.int p3), .val (.int p4), .val (.int (3 : Int32)), .val (.int cb1), .val (.int cb2), .val (.int cb3), .val (.ref b28), .val (.int (1 : Int32))] [(.int (1 : Int32))]))
          have eq183 : T35.heap = h34 := e35
          exact ownRetN X35 hx (t := .boolean) Bd.returns (by simp) (hb hby at_183) (BodyLoose.notSynchronized Bd) (by decide) (by decide) (by rw [eq183]; exact ⟨rfl, N35⟩)
        · skip
          refine ownStep (fun _ k => XS.icmpYes X34.here hx rfl (pc0 := 158) (pc' := 165) rfl (hb hby at_158) rfl (feq t2).2 (by decide) (by decide) k) ?_
          show OwnGo _ _ _ _ _ _ _ (T34.setTop (mkF m 165 #[.val (.int p0), .val (.int p1), .val (.int p2), .val (.int p3), .val (.int p4), .val (.int (3 : Int32)), .val (.int cb1), .val (.int cb2), .val (.int cb3), .val (.ref b28), .unset] []))
          refine ownStep (fun _ k => XS.iconst X34.here hx rfl (hb hby at_165) k) ?_
          show OwnGo _ _ _ _ _ _ _ (T34.setTop (mkF m 166 #[.val (.int p0), .val (.int p1), .val (.int p2), .val (.int p3), .val (.int p4), .val (.int (3 : Int32)), .val (.int cb1), .val (.int cb2), .val (.int cb3), .val (.ref b28), .unset] [(.int (0 : Int32))]))
          refine ownStep (fun _ k => XS.istore X34.here hx rfl (hb hby at_166) rfl (l' := #[.val (.int p0), .val (.int p1), .val (.int p2), .val (.int p3), .val (.int p4), .val (.int (3 : Int32)), .val (.int cb1), .val (.int cb2), .val (.int cb3), .val (.ref b28), .val (.int (0 : Int32))]) rfl k) ?_
          show OwnGo _ _ _ _ _ _ _ (T34.setTop (mkF m 168 #[.val (.int p0), .val (.int p1), .val (.int p2), .val (.int p3), .val (.int p4), .val (.int (3 : Int32)), .val (.int cb1), .val (.int cb2), .val (.int cb3), .val (.ref b28), .val (.int (0 : Int32))] []))
          refine ownStep (fun _ k => XS.aload X34.here hx rfl (hb hby at_168) rfl rfl k) ?_
          show OwnGo _ _ _ _ _ _ _ (T34.setTop (mkF m 170 #[.val (.int p0), .val (.int p1), .val (.int p2), .val (.int p3), .val (.int p4), .val (.int (3 : Int32)), .val (.int cb1), .val (.int cb2), .val (.int cb3), .val (.ref b28), .val (.int (0 : Int32))] [(.ref b28)]))
          obtain ⟨_, _, ⟨T36, L36, k36, n36⟩, -, X36, ⟨Lc36, hQ36, l36, y36, z36⟩, st36⟩ := Jvm.LawKit.callS X34 hx (y := (⟨"com/example/counterfoil/counterfoil/io/bai2/Fields", "isContinuation", "([B)Z"⟩ : MethodName)) hown (mvT hZ (hw _ (List.mem_of_getElem? (i := 5) rfl))) (mvT hZ (hw _ (List.mem_of_getElem? (i := 6) rfl))) (mvT hZ (hw _ (List.mem_of_getElem? (i := 7) rfl))) (mvT hZ (hw _ (List.mem_of_getElem? (i := 8) rfl))) (by decide) (backOf (W := 0) (rm2 l Z a0 hw [] b28 k28 (3 : Int32) _ cb1 cb2 cb3 wC kC (0 : Int32) h34 n0 O34 SC VC V34 (by decide) (by decide) (by decide) (by decide) rfl rfl rfl (if_neg (fun q => t2 q.2.2))) hZ (hw _ (List.mem_of_getElem? (i := 8) rfl)) (hw _ (List.mem_of_getElem? (i := 7) rfl)) (by decide) (by decide)) (g := (mkF m 170 #[.val (.int p0), .val (.int p1), .val (.int p2), .val (.int p3), .val (.int p4), .val (.int (3 : Int32)), .val (.int cb1), .val (.int cb2), .val (.int cb3), .val (.ref b28), .val (.int (0 : Int32))] [(.ref b28)])) rfl (by rw [hml]; rfl) (argsL := [(.ref b28)]) (rest := []) (lenOf own_pd1 rfl) rfl (by show 2 * 0 + _ ≤ _; exact Nat.le_of_eq rfl) (hb hby at_170) (fun _ _ => ⟨rfl, e34, (by decide : 0 + 1 + 0 ≤ _), (by decide : 0 + 3 + 0 ≤ _)⟩)
          dsimp only [Pt.U, Pt.locs, Pt.cells, Pt.slots] at X36 l36 y36 z36 st36 hQ36
          subst l36 y36 z36
          obtain ⟨rfl, N36q, e36⟩ := hQ36
          have N36 := Fr.app N34 N36q
          refine ownStep st36 ?_
          show OwnGo _ _ _ _ _ _ _ (T36.setTop (mkF m 173 #[.val (.int p0), .val (.int p1), .val (.int p2), .val (.int p3), .val (.int p4), .val (.int (3 : Int32)), .val (.int cb1), .val (.int cb2), .val (.int cb3), .val (.ref b28), .val (.int (0 : Int32))] [(.int (0 : Int32))]))
          refine ownStep (fun _ k => XS.iload X36.here hx rfl (hb hby at_173) rfl k) ?_
          show OwnGo _ _ _ _ _ _ _ (T36.setTop (mkF m 175 #[.val (.int p0), .val (.int p1), .val (.int p2), .val (.int p3), .val (.int p4), .val (.int (3 : Int32)), .val (.int cb1), .val (.int cb2), .val (.int cb3), .val (.ref b28), .val (.int (0 : Int32))] [(.int (0 : Int32)), (.int (0 : Int32))]))
          refine ownStep (fun _ k => XS.icmpNo X36.here hx rfl (hb hby at_175) rfl (teq (by decide : (0 : Int32) = (0 : Int32))).2 k) ?_
          show OwnGo _ _ _ _ _ _ _ (T36.setTop (mkF m 178 #[.val (.int p0), .val (.int p1), .val (.int p2), .val (.int p3), .val (.int p4), .val (.int (3 : Int32)), .val (.int cb1), .val (.int cb2), .val (.int cb3), .val (.ref b28), .val (.int (0 : Int32))] []))
          refine ownStep (fun _ k => XS.iconst X36.here hx rfl (hb hby at_178) k) ?_
          show OwnGo _ _ _ _ _ _ _ (T36.setTop (mkF m 179 #[.val (.int p0), .val (.int p1), .val (.int p2), .val (.int p3), .val (.int p4), .val (.int (3 : Int32)), .val (.int cb1), .val (.int cb2), .val (.int cb3), .val (.ref b28), .val (.int (0 : Int32))] [(.int (1 : Int32))]))
          refine ownStep (fun _ k => XS.goto X36.here hx rfl (pc0 := 179) (pc' := 183) rfl (hb hby at_179) (by decide) (by decide) k) ?_
          show OwnGo _ _ _ _ _ _ _ (T36.setTop (mkF m 183 #[.val (.int p0), .val (.int p1), .val (.int p2), .val (.int p3), .val (.int p4), .val (.int (3 : Int32)), .val (.int cb1), .val (.int cb2), .val (.int cb3), .val (.ref b28), .val (.int (0 : Int32))] [(.int (1 : Int32))]))
          have eq183 : T36.heap = h34 := e36
          exact ownRetN X36 hx (t := .boolean) Bd.returns (by simp) (hb hby at_183) (BodyLoose.notSynchronized Bd) (by decide) (by decide) (by rw [eq183]; exact ⟨rfl, N36⟩)
      · skip
        refine ownStep (fun _ k => XS.icmpYes X34.here hx rfl (pc0 := 151) (pc' := 165) rfl (hb hby at_151) rfl (feq t1).2 (by decide) (by decide) k) ?_
        show OwnGo _ _ _ _ _ _ _ (T34.setTop (mkF m 165 #[.val (.int p0), .val (.int p1), .val (.int p2), .val (.int p3), .val (.int p4), .val (.int (3 : Int32)), .val (.int cb1), .val (.int cb2), .val (.int cb3), .val (.ref b28), .unset] []))
        refine ownStep (fun _ k => XS.iconst X34.here hx rfl (hb hby at_165) k) ?_
        show OwnGo _ _ _ _ _ _ _ (T34.setTop (mkF m 166 #[.val (.int p0), .val (.int p1), .val (.int p2), .val (.int p3), .val (.int p4), .val (.int (3 : Int32)), .val (.int cb1), .val (.int cb2), .val (.int cb3), .val (.ref b28), .unset] [(.int (0 : Int32))]))
        refine ownStep (fun _ k => XS.istore X34.here hx rfl (hb hby at_166) rfl (l' := #[.val (.int p0), .val (.int p1), .val (.int p2), .val (.int p3), .val (.int p4), .val (.int (3 : Int32)), .val (.int cb1), .val (.int cb2), .val (.int cb3), .val (.ref b28), .val (.int (0 : Int32))]) rfl k) ?_
        show OwnGo _ _ _ _ _ _ _ (T34.setTop (mkF m 168 #[.val (.int p0), .val (.int p1), .val (.int p2), .val (.int p3), .val (.int p4), .val (.int (3 : Int32)), .val (.int cb1), .val (.int cb2), .val (.int cb3), .val (.ref b28), .val (.int (0 : Int32))] []))
        refine ownStep (fun _ k => XS.aload X34.here hx rfl (hb hby at_168) rfl rfl k) ?_
        show OwnGo _ _ _ _ _ _ _ (T34.setTop (mkF m 170 #[.val (.int p0), .val (.int p1), .val (.int p2), .val (.int p3), .val (.int p4), .val (.int (3 : Int32)), .val (.int cb1), .val (.int cb2), .val (.int cb3), .val (.ref b28), .val (.int (0 : Int32))] [(.ref b28)]))
        obtain ⟨_, _, ⟨T37, L37, k37, n37⟩, -, X37, ⟨Lc37, hQ37, l37, y37, z37⟩, st37⟩ := Jvm.LawKit.callS X34 hx (y := (⟨"com/example/counterfoil/counterfoil/io/bai2/Fields", "isContinuation", "([B)Z"⟩ : MethodName)) hown (mvT hZ (hw _ (List.mem_of_getElem? (i := 5) rfl))) (mvT hZ (hw _ (List.mem_of_getElem? (i := 6) rfl))) (mvT hZ (hw _ (List.mem_of_getElem? (i := 7) rfl))) (mvT hZ (hw _ (List.mem_of_getElem? (i := 8) rfl))) (by decide) (backOf (W := 0) (rm2 l Z a0 hw [] b28 k28 (3 : Int32) _ cb1 cb2 cb3 wC kC (0 : Int32) h34 n0 O34 SC VC V34 (by decide) (by decide) (by decide) (by decide) rfl rfl rfl (if_neg (fun q => t1 q.2.1))) hZ (hw _ (List.mem_of_getElem? (i := 8) rfl)) (hw _ (List.mem_of_getElem? (i := 7) rfl)) (by decide) (by decide)) (g := (mkF m 170 #[.val (.int p0), .val (.int p1), .val (.int p2), .val (.int p3), .val (.int p4), .val (.int (3 : Int32)), .val (.int cb1), .val (.int cb2), .val (.int cb3), .val (.ref b28), .val (.int (0 : Int32))] [(.ref b28)])) rfl (by rw [hml]; rfl) (argsL := [(.ref b28)]) (rest := []) (lenOf own_pd1 rfl) rfl (by show 2 * 0 + _ ≤ _; exact Nat.le_of_eq rfl) (hb hby at_170) (fun _ _ => ⟨rfl, e34, (by decide : 0 + 1 + 0 ≤ _), (by decide : 0 + 3 + 0 ≤ _)⟩)
        dsimp only [Pt.U, Pt.locs, Pt.cells, Pt.slots] at X37 l37 y37 z37 st37 hQ37
        subst l37 y37 z37
        obtain ⟨rfl, N37q, e37⟩ := hQ37
        have N37 := Fr.app N34 N37q
        refine ownStep st37 ?_
        show OwnGo _ _ _ _ _ _ _ (T37.setTop (mkF m 173 #[.val (.int p0), .val (.int p1), .val (.int p2), .val (.int p3), .val (.int p4), .val (.int (3 : Int32)), .val (.int cb1), .val (.int cb2), .val (.int cb3), .val (.ref b28), .val (.int (0 : Int32))] [(.int (0 : Int32))]))
        refine ownStep (fun _ k => XS.iload X37.here hx rfl (hb hby at_173) rfl k) ?_
        show OwnGo _ _ _ _ _ _ _ (T37.setTop (mkF m 175 #[.val (.int p0), .val (.int p1), .val (.int p2), .val (.int p3), .val (.int p4), .val (.int (3 : Int32)), .val (.int cb1), .val (.int cb2), .val (.int cb3), .val (.ref b28), .val (.int (0 : Int32))] [(.int (0 : Int32)), (.int (0 : Int32))]))
        refine ownStep (fun _ k => XS.icmpNo X37.here hx rfl (hb hby at_175) rfl (teq (by decide : (0 : Int32) = (0 : Int32))).2 k) ?_
        show OwnGo _ _ _ _ _ _ _ (T37.setTop (mkF m 178 #[.val (.int p0), .val (.int p1), .val (.int p2), .val (.int p3), .val (.int p4), .val (.int (3 : Int32)), .val (.int cb1), .val (.int cb2), .val (.int cb3), .val (.ref b28), .val (.int (0 : Int32))] []))
        refine ownStep (fun _ k => XS.iconst X37.here hx rfl (hb hby at_178) k) ?_
        show OwnGo _ _ _ _ _ _ _ (T37.setTop (mkF m 179 #[.val (.int p0), .val (.int p1), .val (.int p2), .val (.int p3), .val (.int p4), .val (.int (3 : Int32)), .val (.int cb1), .val (.int cb2), .val (.int cb3), .val (.ref b28), .val (.int (0 : Int32))] [(.int (1 : Int32))]))
        refine ownStep (fun _ k => XS.goto X37.here hx rfl (pc0 := 179) (pc' := 183) rfl (hb hby at_179) (by decide) (by decide) k) ?_
        show OwnGo _ _ _ _ _ _ _ (T37.setTop (mkF m 183 #[.val (.int p0), .val (.int p1), .val (.int p2), .val (.int p3), .val (.int p4), .val (.int (3 : Int32)), .val (.int cb1), .val (.int cb2), .val (.int cb3), .val (.ref b28), .val (.int (0 : Int32))] [(.int (1 : Int32))]))
        have eq183 : T37.heap = h34 := e37
        exact ownRetN X37 hx (t := .boolean) Bd.returns (by simp) (hb hby at_183) (BodyLoose.notSynchronized Bd) (by decide) (by decide) (by rw [eq183]; exact ⟨rfl, N37⟩)
    · skip
      refine ownStep (fun _ k => XS.icmpYes X34.here hx rfl (pc0 := 144) (pc' := 165) rfl (hb hby at_144) rfl (feq t0).2 (by decide) (by decide) k) ?_
      show OwnGo _ _ _ _ _ _ _ (T34.setTop (mkF m 165 #[.val (.int p0), .val (.int p1), .val (.int p2), .val (.int p3), .val (.int p4), .val (.int (3 : Int32)), .val (.int cb1), .val (.int cb2), .val (.int cb3), .val (.ref b28), .unset] []))
      refine ownStep (fun _ k => XS.iconst X34.here hx rfl (hb hby at_165) k) ?_
      show OwnGo _ _ _ _ _ _ _ (T34.setTop (mkF m 166 #[.val (.int p0), .val (.int p1), .val (.int p2), .val (.int p3), .val (.int p4), .val (.int (3 : Int32)), .val (.int cb1), .val (.int cb2), .val (.int cb3), .val (.ref b28), .unset] [(.int (0 : Int32))]))
      refine ownStep (fun _ k => XS.istore X34.here hx rfl (hb hby at_166) rfl (l' := #[.val (.int p0), .val (.int p1), .val (.int p2), .val (.int p3), .val (.int p4), .val (.int (3 : Int32)), .val (.int cb1), .val (.int cb2), .val (.int cb3), .val (.ref b28), .val (.int (0 : Int32))]) rfl k) ?_
      show OwnGo _ _ _ _ _ _ _ (T34.setTop (mkF m 168 #[.val (.int p0), .val (.int p1), .val (.int p2), .val (.int p3), .val (.int p4), .val (.int (3 : Int32)), .val (.int cb1), .val (.int cb2), .val (.int cb3), .val (.ref b28), .val (.int (0 : Int32))] []))
      refine ownStep (fun _ k => XS.aload X34.here hx rfl (hb hby at_168) rfl rfl k) ?_
      show OwnGo _ _ _ _ _ _ _ (T34.setTop (mkF m 170 #[.val (.int p0), .val (.int p1), .val (.int p2), .val (.int p3), .val (.int p4), .val (.int (3 : Int32)), .val (.int cb1), .val (.int cb2), .val (.int cb3), .val (.ref b28), .val (.int (0 : Int32))] [(.ref b28)]))
      obtain ⟨_, _, ⟨T38, L38, k38, n38⟩, -, X38, ⟨Lc38, hQ38, l38, y38, z38⟩, st38⟩ := Jvm.LawKit.callS X34 hx (y := (⟨"com/example/counterfoil/counterfoil/io/bai2/Fields", "isContinuation", "([B)Z"⟩ : MethodName)) hown (mvT hZ (hw _ (List.mem_of_getElem? (i := 5) rfl))) (mvT hZ (hw _ (List.mem_of_getElem? (i := 6) rfl))) (mvT hZ (hw _ (List.mem_of_getElem? (i := 7) rfl))) (mvT hZ (hw _ (List.mem_of_getElem? (i := 8) rfl))) (by decide) (backOf (W := 0) (rm2 l Z a0 hw [] b28 k28 (3 : Int32) _ cb1 cb2 cb3 wC kC (0 : Int32) h34 n0 O34 SC VC V34 (by decide) (by decide) (by decide) (by decide) rfl rfl rfl (if_neg (fun q => t0 q.1))) hZ (hw _ (List.mem_of_getElem? (i := 8) rfl)) (hw _ (List.mem_of_getElem? (i := 7) rfl)) (by decide) (by decide)) (g := (mkF m 170 #[.val (.int p0), .val (.int p1), .val (.int p2), .val (.int p3), .val (.int p4), .val (.int (3 : Int32)), .val (.int cb1), .val (.int cb2), .val (.int cb3), .val (.ref b28), .val (.int (0 : Int32))] [(.ref b28)])) rfl (by rw [hml]; rfl) (argsL := [(.ref b28)]) (rest := []) (lenOf own_pd1 rfl) rfl (by show 2 * 0 + _ ≤ _; exact Nat.le_of_eq rfl) (hb hby at_170) (fun _ _ => ⟨rfl, e34, (by decide : 0 + 1 + 0 ≤ _), (by decide : 0 + 3 + 0 ≤ _)⟩)
      dsimp only [Pt.U, Pt.locs, Pt.cells, Pt.slots] at X38 l38 y38 z38 st38 hQ38
      subst l38 y38 z38
      obtain ⟨rfl, N38q, e38⟩ := hQ38
      have N38 := Fr.app N34 N38q
      refine ownStep st38 ?_
      show OwnGo _ _ _ _ _ _ _ (T38.setTop (mkF m 173 #[.val (.int p0), .val (.int p1), .val (.int p2), .val (.int p3), .val (.int p4), .val (.int (3 : Int32)), .val (.int cb1), .val (.int cb2), .val (.int cb3), .val (.ref b28), .val (.int (0 : Int32))] [(.int (0 : Int32))]))
      refine ownStep (fun _ k => XS.iload X38.here hx rfl (hb hby at_173) rfl k) ?_
      show OwnGo _ _ _ _ _ _ _ (T38.setTop (mkF m 175 #[.val (.int p0), .val (.int p1), .val (.int p2), .val (.int p3), .val (.int p4), .val (.int (3 : Int32)), .val (.int cb1), .val (.int cb2), .val (.int cb3), .val (.ref b28), .val (.int (0 : Int32))] [(.int (0 : Int32)), (.int (0 : Int32))]))
      refine ownStep (fun _ k => XS.icmpNo X38.here hx rfl (hb hby at_175) rfl (teq (by decide : (0 : Int32) = (0 : Int32))).2 k) ?_
      show OwnGo _ _ _ _ _ _ _ (T38.setTop (mkF m 178 #[.val (.int p0), .val (.int p1), .val (.int p2), .val (.int p3), .val (.int p4), .val (.int (3 : Int32)), .val (.int cb1), .val (.int cb2), .val (.int cb3), .val (.ref b28), .val (.int (0 : Int32))] []))
      refine ownStep (fun _ k => XS.iconst X38.here hx rfl (hb hby at_178) k) ?_
      show OwnGo _ _ _ _ _ _ _ (T38.setTop (mkF m 179 #[.val (.int p0), .val (.int p1), .val (.int p2), .val (.int p3), .val (.int p4), .val (.int (3 : Int32)), .val (.int cb1), .val (.int cb2), .val (.int cb3), .val (.ref b28), .val (.int (0 : Int32))] [(.int (1 : Int32))]))
      refine ownStep (fun _ k => XS.goto X38.here hx rfl (pc0 := 179) (pc' := 183) rfl (hb hby at_179) (by decide) (by decide) k) ?_
      show OwnGo _ _ _ _ _ _ _ (T38.setTop (mkF m 183 #[.val (.int p0), .val (.int p1), .val (.int p2), .val (.int p3), .val (.int p4), .val (.int (3 : Int32)), .val (.int cb1), .val (.int cb2), .val (.int cb3), .val (.ref b28), .val (.int (0 : Int32))] [(.int (1 : Int32))]))
      have eq183 : T38.heap = h34 := e38
      exact ownRetN X38 hx (t := .boolean) Bd.returns (by simp) (hb hby at_183) (BodyLoose.notSynchronized Bd) (by decide) (by decide) (by rw [eq183]; exact ⟨rfl, N38⟩)
  · rw [hk]
    show OwnGo _ _ _ _ _ _ _ (T15.setTop (mkF m 32 #[.val (.int p0), .val (.int p1), .val (.int p2), .val (.int p3), .val (.int p4), .val (.int (4 : Int32)), .val (.int cb1), .val (.int cb2), .val (.int cb3), .unset, .unset] [(.int (4 : Int32))]))
    obtain ⟨T39, h39, k39, X39, e39, E39, A39, st39⟩ := newP X15 hx hZ (hw _ (List.mem_of_getElem? (i := 4) rfl)) e15 (g := (mkF m 32 #[.val (.int p0), .val (.int p1), .val (.int p2), .val (.int p3), .val (.int p4), .val (.int (4 : Int32)), .val (.int cb1), .val (.int cb2), .val (.int cb3), .unset, .unset] [(.int (4 : Int32))])) rfl (hb hby at_32) rfl (by decide) (cap := 4) (by decide) (by decide) (by decide) (by decide)
    obtain ⟨b39, g39⟩ : ∃ z, z = h0.size := ⟨_, rfl⟩
    rw [← g39] at A39 st39
    refine ownStep st39 ?_
    have ge39 : n0 ≤ b39 := by rw [g39]; exact Nat.le_trans (Nat.le_of_eq O0.1.symm) O0.2.1
    have O39 := O0.ext E39
    show OwnGo _ _ _ _ _ _ _ (T39.setTop (mkF m 34 #[.val (.int p0), .val (.int p1), .val (.int p2), .val (.int p3), .val (.int p4), .val (.int (4 : Int32)), .val (.int cb1), .val (.int cb2), .val (.int cb3), .unset, .unset] [(.ref b39)]))
    have V39 : Arv Z h39 b39 k39 .byte (4 : Int32) [(.int (0 : Int32)), (.int (0 : Int32)), (.int (0 : Int32)), (.int (0 : Int32))] (.int (0 : Int32)) := (Arv.new A39 (by decide)).pad (pad_rep [] (.int (0 : Int32)) 4)
    refine ownStep (fun _ k => XS.astore X39.here hx rfl (hb hby at_34) rfl rfl (l' := #[.val (.int p0), .val (.int p1), .val (.int p2), .val (.int p3), .val (.int p4), .val (.int (4 : Int32)), .val (.int cb1), .val (.int cb2), .val (.int cb3), .val (.ref b39), .unset]) rfl k) ?_
    show OwnGo _ _ _ _ _ _ _ (T39.setTop (mkF m 36 #[.val (.int p0), .val (.int p1), .val (.int p2), .val (.int p3), .val (.int p4), .val (.int (4 : Int32)), .val (.int cb1), .val (.int cb2), .val (.int cb3), .val (.ref b39), .unset] []))
    refine ownStep (fun _ k => XS.iload X39.here hx rfl (hb hby at_36) rfl k) ?_
    show OwnGo _ _ _ _ _ _ _ (T39.setTop (mkF m 38 #[.val (.int p0), .val (.int p1), .val (.int p2), .val (.int p3), .val (.int p4), .val (.int (4 : Int32)), .val (.int cb1), .val (.int cb2), .val (.int cb3), .val (.ref b39), .unset] [(.int (4 : Int32))]))
    refine ownStep (fun _ k => XS.ifNo X39.here hx rfl (hb hby at_38) rfl ((if0 _ _).trans (tlt (by decide : (0 : Int32) < (4 : Int32))).2.2.2) k) ?_
    show OwnGo _ _ _ _ _ _ _ (T39.setTop (mkF m 41 #[.val (.int p0), .val (.int p1), .val (.int p2), .val (.int p3), .val (.int p4), .val (.int (4 : Int32)), .val (.int cb1), .val (.int cb2), .val (.int cb3), .val (.ref b39), .unset] []))
    refine ownStep (fun _ k => XS.aload X39.here hx rfl (hb hby at_41) rfl rfl k) ?_
    show OwnGo _ _ _ _ _ _ _ (T39.setTop (mkF m 43 #[.val (.int p0), .val (.int p1), .val (.int p2), .val (.int p3), .val (.int p4), .val (.int (4 : Int32)), .val (.int cb1), .val (.int cb2), .val (.int cb3), .val (.ref b39), .unset] [(.ref b39)]))
    refine ownStep (fun _ k => XS.iconst X39.here hx rfl (hb hby at_43) k) ?_
    show OwnGo _ _ _ _ _ _ _ (T39.setTop (mkF m 44 #[.val (.int p0), .val (.int p1), .val (.int p2), .val (.int p3), .val (.int p4), .val (.int (4 : Int32)), .val (.int cb1), .val (.int cb2), .val (.int cb3), .val (.ref b39), .unset] [(.int (0 : Int32)), (.ref b39)]))
    refine ownStep (fun _ k => XS.iload X39.here hx rfl (hb hby at_44) rfl k) ?_
    show OwnGo _ _ _ _ _ _ _ (T39.setTop (mkF m 46 #[.val (.int p0), .val (.int p1), .val (.int p2), .val (.int p3), .val (.int p4), .val (.int (4 : Int32)), .val (.int cb1), .val (.int cb2), .val (.int cb3), .val (.ref b39), .unset] [(.int cb1), (.int (0 : Int32)), (.ref b39)]))
    obtain ⟨cla40, Ara40, qa40, Sa40, Pa40, Ha40, Ga40⟩ := id V39
    have hina40 : ¬ ((0 : Int32) < 0 ∨ cla40.slots.size ≤ ((0 : Int32) : Int32).toNatClampNeg) := inb_of Sa40 ⟨by decide, by decide⟩
    obtain ⟨T41, h41, X41, e41, W41, st41⟩ := stB X39 hx hZ e39 Ara40 (j := (0 : Int32)) hina40 (g := (mkF m 46 #[.val (.int p0), .val (.int p1), .val (.int p2), .val (.int p3), .val (.int p4), .val (.int (4 : Int32)), .val (.int cb1), .val (.int cb2), .val (.int cb3), .val (.ref b39), .unset] [(.int cb1), (.int (0 : Int32)), (.ref b39)])) rfl rfl (hb hby at_46)
    refine ownStep st41 ?_
    have N41 := Fr.snoc X41 N15 ge39
    have O41 := O39.wr W41 ge39
    show OwnGo _ _ _ _ _ _ _ (T41.setTop (mkF m 47 #[.val (.int p0), .val (.int p1), .val (.int p2), .val (.int p3), .val (.int p4), .val (.int (4 : Int32)), .val (.int cb1), .val (.int cb2), .val (.int cb3), .val (.ref b39), .unset] []))
    have V41 : Arv Z h41 b39 k39 .byte (4 : Int32) [(.int cb1), (.int (0 : Int32)), (.int (0 : Int32)), (.int (0 : Int32))] (.int (0 : Int32)) := by
      have q := Arv.set Ara40 qa40 Sa40 Pa40 Ha40 Ga40 (fits_nar_byte _) W41 0 rfl (Nat.le_of_ble_eq_true rfl)
      rw [nb1] at q
      exact q
    refine ownStep (fun _ k => XS.iload X41.here hx rfl (hb hby at_47) rfl k) ?_
    show OwnGo _ _ _ _ _ _ _ (T41.setTop (mkF m 49 #[.val (.int p0), .val (.int p1), .val (.int p2), .val (.int p3), .val (.int p4), .val (.int (4 : Int32)), .val (.int cb1), .val (.int cb2), .val (.int cb3), .val (.ref b39), .unset] [(.int (4 : Int32))]))
    refine ownStep (fun _ k => XS.iconst X41.here hx rfl (hb hby at_49) k) ?_
    show OwnGo _ _ _ _ _ _ _ (T41.setTop (mkF m 50 #[.val (.int p0), .val (.int p1), .val (.int p2), .val (.int p3), .val (.int p4), .val (.int (4 : Int32)), .val (.int cb1), .val (.int cb2), .val (.int cb3), .val (.ref b39), .unset] [(.int (1 : Int32)), (.int (4 : Int32))]))
    refine ownStep (fun _ k => XS.icmpNo X41.here hx rfl (hb hby at_50) rfl (tlt (by decide : (1 : Int32) < (4 : Int32))).2.2.2 k) ?_
    show OwnGo _ _ _ _ _ _ _ (T41.setTop (mkF m 53 #[.val (.int p0), .val (.int p1), .val (.int p2), .val (.int p3), .val (.int p4), .val (.int (4 : Int32)), .val (.int cb1), .val (.int cb2), .val (.int cb3), .val (.ref b39), .unset] []))
    refine ownStep (fun _ k => XS.aload X41.here hx rfl (hb hby at_53) rfl rfl k) ?_
    show OwnGo _ _ _ _ _ _ _ (T41.setTop (mkF m 55 #[.val (.int p0), .val (.int p1), .val (.int p2), .val (.int p3), .val (.int p4), .val (.int (4 : Int32)), .val (.int cb1), .val (.int cb2), .val (.int cb3), .val (.ref b39), .unset] [(.ref b39)]))
    refine ownStep (fun _ k => XS.iconst X41.here hx rfl (hb hby at_55) k) ?_
    show OwnGo _ _ _ _ _ _ _ (T41.setTop (mkF m 56 #[.val (.int p0), .val (.int p1), .val (.int p2), .val (.int p3), .val (.int p4), .val (.int (4 : Int32)), .val (.int cb1), .val (.int cb2), .val (.int cb3), .val (.ref b39), .unset] [(.int (1 : Int32)), (.ref b39)]))
    refine ownStep (fun _ k => XS.iload X41.here hx rfl (hb hby at_56) rfl k) ?_
    show OwnGo _ _ _ _ _ _ _ (T41.setTop (mkF m 58 #[.val (.int p0), .val (.int p1), .val (.int p2), .val (.int p3), .val (.int p4), .val (.int (4 : Int32)), .val (.int cb1), .val (.int cb2), .val (.int cb3), .val (.ref b39), .unset] [(.int cb2), (.int (1 : Int32)), (.ref b39)]))
    obtain ⟨cla42, Ara42, qa42, Sa42, Pa42, Ha42, Ga42⟩ := id V41
    have hina42 : ¬ ((1 : Int32) < 0 ∨ cla42.slots.size ≤ ((1 : Int32) : Int32).toNatClampNeg) := inb_of Sa42 ⟨by decide, by decide⟩
    obtain ⟨T43, h43, X43, e43, W43, st43⟩ := stB X41 hx hZ e41 Ara42 (j := (1 : Int32)) hina42 (g := (mkF m 58 #[.val (.int p0), .val (.int p1), .val (.int p2), .val (.int p3), .val (.int p4), .val (.int (4 : Int32)), .val (.int cb1), .val (.int cb2), .val (.int cb3), .val (.ref b39), .unset] [(.int cb2), (.int (1 : Int32)), (.ref b39)])) rfl rfl (hb hby at_58)
    refine ownStep st43 ?_
    have N43 := Fr.snoc X43 N41 ge39
    have O43 := O41.wr W43 ge39
    show OwnGo _ _ _ _ _ _ _ (T43.setTop (mkF m 59 #[.val (.int p0), .val (.int p1), .val (.int p2), .val (.int p3), .val (.int p4), .val (.int (4 : Int32)), .val (.int cb1), .val (.int cb2), .val (.int cb3), .val (.ref b39), .unset] []))
    have V43 : Arv Z h43 b39 k39 .byte (4 : Int32) [(.int cb1), (.int cb2), (.int (0 : Int32)), (.int (0 : Int32))] (.int (0 : Int32)) := by
      have q := Arv.set Ara42 qa42 Sa42 Pa42 Ha42 Ga42 (fits_nar_byte _) W43 1 rfl (Nat.le_of_ble_eq_true rfl)
      rw [nb2] at q
      exact q
    refine ownStep (fun _ k => XS.iload X43.here hx rfl (hb hby at_59) rfl k) ?_
    show OwnGo _ _ _ _ _ _ _ (T43.setTop (mkF m 61 #[.val (.int p0), .val (.int p1), .val (.int p2), .val (.int p3), .val (.int p4), .val (.int (4 : Int32)), .val (.int cb1), .val (.int cb2), .val (.int cb3), .val (.ref b39), .unset] [(.int (4 : Int32))]))
    refine ownStep (fun _ k => XS.iconst X43.here hx rfl (hb hby at_61) k) ?_
    show OwnGo _ _ _ _ _ _ _ (T43.setTop (mkF m 62 #[.val (.int p0), .val (.int p1), .val (.int p2), .val (.int p3), .val (.int p4), .val (.int (4 : Int32)), .val (.int cb1), .val (.int cb2), .val (.int cb3), .val (.ref b39), .unset] [(.int (2 : Int32)), (.int (4 : Int32))]))
    refine ownStep (fun _ k => XS.icmpNo X43.here hx rfl (hb hby at_62) rfl (tlt (by decide : (2 : Int32) < (4 : Int32))).2.2.2 k) ?_
    show OwnGo _ _ _ _ _ _ _ (T43.setTop (mkF m 65 #[.val (.int p0), .val (.int p1), .val (.int p2), .val (.int p3), .val (.int p4), .val (.int (4 : Int32)), .val (.int cb1), .val (.int cb2), .val (.int cb3), .val (.ref b39), .unset] []))
    refine ownStep (fun _ k => XS.aload X43.here hx rfl (hb hby at_65) rfl rfl k) ?_
    show OwnGo _ _ _ _ _ _ _ (T43.setTop (mkF m 67 #[.val (.int p0), .val (.int p1), .val (.int p2), .val (.int p3), .val (.int p4), .val (.int (4 : Int32)), .val (.int cb1), .val (.int cb2), .val (.int cb3), .val (.ref b39), .unset] [(.ref b39)]))
    refine ownStep (fun _ k => XS.iconst X43.here hx rfl (hb hby at_67) k) ?_
    show OwnGo _ _ _ _ _ _ _ (T43.setTop (mkF m 68 #[.val (.int p0), .val (.int p1), .val (.int p2), .val (.int p3), .val (.int p4), .val (.int (4 : Int32)), .val (.int cb1), .val (.int cb2), .val (.int cb3), .val (.ref b39), .unset] [(.int (2 : Int32)), (.ref b39)]))
    refine ownStep (fun _ k => XS.iload X43.here hx rfl (hb hby at_68) rfl k) ?_
    show OwnGo _ _ _ _ _ _ _ (T43.setTop (mkF m 70 #[.val (.int p0), .val (.int p1), .val (.int p2), .val (.int p3), .val (.int p4), .val (.int (4 : Int32)), .val (.int cb1), .val (.int cb2), .val (.int cb3), .val (.ref b39), .unset] [(.int cb3), (.int (2 : Int32)), (.ref b39)]))
    obtain ⟨cla44, Ara44, qa44, Sa44, Pa44, Ha44, Ga44⟩ := id V43
    have hina44 : ¬ ((2 : Int32) < 0 ∨ cla44.slots.size ≤ ((2 : Int32) : Int32).toNatClampNeg) := inb_of Sa44 ⟨by decide, by decide⟩
    obtain ⟨T45, h45, X45, e45, W45, st45⟩ := stB X43 hx hZ e43 Ara44 (j := (2 : Int32)) hina44 (g := (mkF m 70 #[.val (.int p0), .val (.int p1), .val (.int p2), .val (.int p3), .val (.int p4), .val (.int (4 : Int32)), .val (.int cb1), .val (.int cb2), .val (.int cb3), .val (.ref b39), .unset] [(.int cb3), (.int (2 : Int32)), (.ref b39)])) rfl rfl (hb hby at_70)
    refine ownStep st45 ?_
    have N45 := Fr.snoc X45 N43 ge39
    have O45 := O43.wr W45 ge39
    show OwnGo _ _ _ _ _ _ _ (T45.setTop (mkF m 71 #[.val (.int p0), .val (.int p1), .val (.int p2), .val (.int p3), .val (.int p4), .val (.int (4 : Int32)), .val (.int cb1), .val (.int cb2), .val (.int cb3), .val (.ref b39), .unset] []))
    have V45 : Arv Z h45 b39 k39 .byte (4 : Int32) [(.int cb1), (.int cb2), (.int cb3), (.int (0 : Int32))] (.int (0 : Int32)) := by
      have q := Arv.set Ara44 qa44 Sa44 Pa44 Ha44 Ga44 (fits_nar_byte _) W45 2 rfl (Nat.le_of_ble_eq_true rfl)
      rw [nb3] at q
      exact q
    refine ownStep (fun _ k => XS.iload X45.here hx rfl (hb hby at_71) rfl k) ?_
    show OwnGo _ _ _ _ _ _ _ (T45.setTop (mkF m 73 #[.val (.int p0), .val (.int p1), .val (.int p2), .val (.int p3), .val (.int p4), .val (.int (4 : Int32)), .val (.int cb1), .val (.int cb2), .val (.int cb3), .val (.ref b39), .unset] [(.int (4 : Int32))]))
    refine ownStep (fun _ k => XS.iconst X45.here hx rfl (hb hby at_73) k) ?_
    show OwnGo _ _ _ _ _ _ _ (T45.setTop (mkF m 74 #[.val (.int p0), .val (.int p1), .val (.int p2), .val (.int p3), .val (.int p4), .val (.int (4 : Int32)), .val (.int cb1), .val (.int cb2), .val (.int cb3), .val (.ref b39), .unset] [(.int (3 : Int32)), (.int (4 : Int32))]))
    refine ownStep (fun _ k => XS.icmpNo X45.here hx rfl (hb hby at_74) rfl (tlt (by decide : (3 : Int32) < (4 : Int32))).2.2.2 k) ?_
    show OwnGo _ _ _ _ _ _ _ (T45.setTop (mkF m 77 #[.val (.int p0), .val (.int p1), .val (.int p2), .val (.int p3), .val (.int p4), .val (.int (4 : Int32)), .val (.int cb1), .val (.int cb2), .val (.int cb3), .val (.ref b39), .unset] []))
    refine ownStep (fun _ k => XS.aload X45.here hx rfl (hb hby at_77) rfl rfl k) ?_
    show OwnGo _ _ _ _ _ _ _ (T45.setTop (mkF m 79 #[.val (.int p0), .val (.int p1), .val (.int p2), .val (.int p3), .val (.int p4), .val (.int (4 : Int32)), .val (.int cb1), .val (.int cb2), .val (.int cb3), .val (.ref b39), .unset] [(.ref b39)]))
    refine ownStep (fun _ k => XS.iconst X45.here hx rfl (hb hby at_79) k) ?_
    show OwnGo _ _ _ _ _ _ _ (T45.setTop (mkF m 80 #[.val (.int p0), .val (.int p1), .val (.int p2), .val (.int p3), .val (.int p4), .val (.int (4 : Int32)), .val (.int cb1), .val (.int cb2), .val (.int cb3), .val (.ref b39), .unset] [(.int (3 : Int32)), (.ref b39)]))
    refine ownStep (fun _ k => XS.iload X45.here hx rfl (hb hby at_80) rfl k) ?_
    show OwnGo _ _ _ _ _ _ _ (T45.setTop (mkF m 82 #[.val (.int p0), .val (.int p1), .val (.int p2), .val (.int p3), .val (.int p4), .val (.int (4 : Int32)), .val (.int cb1), .val (.int cb2), .val (.int cb3), .val (.ref b39), .unset] [(.int p4), (.int (3 : Int32)), (.ref b39)]))
    refine ownStep (fun _ k => XS.i2b X45.here hx rfl (hb hby at_82) rfl k) ?_
    show OwnGo _ _ _ _ _ _ _ (T45.setTop (mkF m 83 #[.val (.int p0), .val (.int p1), .val (.int p2), .val (.int p3), .val (.int p4), .val (.int (4 : Int32)), .val (.int cb1), .val (.int cb2), .val (.int cb3), .val (.ref b39), .unset] [(.int (p4.toInt8.toInt32)), (.int (3 : Int32)), (.ref b39)]))
    obtain ⟨cla46, Ara46, qa46, Sa46, Pa46, Ha46, Ga46⟩ := id V45
    have hina46 : ¬ ((3 : Int32) < 0 ∨ cla46.slots.size ≤ ((3 : Int32) : Int32).toNatClampNeg) := inb_of Sa46 ⟨by decide, by decide⟩
    obtain ⟨T47, h47, X47, e47, W47, st47⟩ := stB X45 hx hZ e45 Ara46 (j := (3 : Int32)) hina46 (g := (mkF m 83 #[.val (.int p0), .val (.int p1), .val (.int p2), .val (.int p3), .val (.int p4), .val (.int (4 : Int32)), .val (.int cb1), .val (.int cb2), .val (.int cb3), .val (.ref b39), .unset] [(.int (p4.toInt8.toInt32)), (.int (3 : Int32)), (.ref b39)])) rfl rfl (hb hby at_83)
    refine ownStep st47 ?_
    have N47 := Fr.snoc X47 N45 ge39
    have O47 := O45.wr W47 ge39
    show OwnGo _ _ _ _ _ _ _ (T47.setTop (mkF m 84 #[.val (.int p0), .val (.int p1), .val (.int p2), .val (.int p3), .val (.int p4), .val (.int (4 : Int32)), .val (.int cb1), .val (.int cb2), .val (.int cb3), .val (.ref b39), .unset] []))
    have V47 : Arv Z h47 b39 k39 .byte (4 : Int32) [(.int cb1), (.int cb2), (.int cb3), (.int ((p4.toInt8.toInt32).toInt8.toInt32))] (.int (0 : Int32)) := by
      have q := Arv.set Ara46 qa46 Sa46 Pa46 Ha46 Ga46 (fits_nar_byte _) W47 3 rfl (Nat.le_of_ble_eq_true rfl)
      exact q
    refine ownStep (fun _ k => XS.iload X47.here hx rfl (hb hby at_84) rfl k) ?_
    show OwnGo _ _ _ _ _ _ _ (T47.setTop (mkF m 86 #[.val (.int p0), .val (.int p1), .val (.int p2), .val (.int p3), .val (.int p4), .val (.int (4 : Int32)), .val (.int cb1), .val (.int cb2), .val (.int cb3), .val (.ref b39), .unset] [(.int (4 : Int32))]))
    refine ownStep (fun _ k => XS.iconst X47.here hx rfl (hb hby at_86) k) ?_
    show OwnGo _ _ _ _ _ _ _ (T47.setTop (mkF m 87 #[.val (.int p0), .val (.int p1), .val (.int p2), .val (.int p3), .val (.int p4), .val (.int (4 : Int32)), .val (.int cb1), .val (.int cb2), .val (.int cb3), .val (.ref b39), .unset] [(.int (4 : Int32)), (.int (4 : Int32))]))
    refine ownStep (fun _ k => XS.icmpYes X47.here hx rfl (pc0 := 87) (pc' := 100) rfl (hb hby at_87) rfl (flt (by decide : ¬ ((4 : Int32) < (4 : Int32)))).2.2.2 (by decide) (by decide) k) ?_
    show OwnGo _ _ _ _ _ _ _ (T47.setTop (mkF m 100 #[.val (.int p0), .val (.int p1), .val (.int p2), .val (.int p3), .val (.int p4), .val (.int (4 : Int32)), .val (.int cb1), .val (.int cb2), .val (.int cb3), .val (.ref b39), .unset] []))
    refine ownStep (fun _ k => XS.iload X47.here hx rfl (hb hby at_100) rfl k) ?_
    show OwnGo _ _ _ _ _ _ _ (T47.setTop (mkF m 102 #[.val (.int p0), .val (.int p1), .val (.int p2), .val (.int p3), .val (.int p4), .val (.int (4 : Int32)), .val (.int cb1), .val (.int cb2), .val (.int cb3), .val (.ref b39), .unset] [(.int (4 : Int32))]))
    refine ownStep (fun _ k => XS.iconst X47.here hx rfl (hb hby at_102) k) ?_
    show OwnGo _ _ _ _ _ _ _ (T47.setTop (mkF m 103 #[.val (.int p0), .val (.int p1), .val (.int p2), .val (.int p3), .val (.int p4), .val (.int (4 : Int32)), .val (.int cb1), .val (.int cb2), .val (.int cb3), .val (.ref b39), .unset] [(.int (5 : Int32)), (.int (4 : Int32))]))
    refine ownStep (fun _ k => XS.icmpYes X47.here hx rfl (pc0 := 103) (pc' := 116) rfl (hb hby at_103) rfl (flt (by decide : ¬ ((5 : Int32) < (4 : Int32)))).2.2.2 (by decide) (by decide) k) ?_
    show OwnGo _ _ _ _ _ _ _ (T47.setTop (mkF m 116 #[.val (.int p0), .val (.int p1), .val (.int p2), .val (.int p3), .val (.int p4), .val (.int (4 : Int32)), .val (.int cb1), .val (.int cb2), .val (.int cb3), .val (.ref b39), .unset] []))
    refine ownStep (fun _ k => XS.iload X47.here hx rfl (hb hby at_116) rfl k) ?_
    show OwnGo _ _ _ _ _ _ _ (T47.setTop (mkF m 118 #[.val (.int p0), .val (.int p1), .val (.int p2), .val (.int p3), .val (.int p4), .val (.int (4 : Int32)), .val (.int cb1), .val (.int cb2), .val (.int cb3), .val (.ref b39), .unset] [(.int (4 : Int32))]))
    refine ownStep (fun _ k => XS.bipush X47.here hx rfl (hb hby at_118) k) ?_
    show OwnGo _ _ _ _ _ _ _ (T47.setTop (mkF m 120 #[.val (.int p0), .val (.int p1), .val (.int p2), .val (.int p3), .val (.int p4), .val (.int (4 : Int32)), .val (.int cb1), .val (.int cb2), .val (.int cb3), .val (.ref b39), .unset] [(.int (6 : Int32)), (.int (4 : Int32))]))
    refine ownStep (fun _ k => XS.icmpYes X47.here hx rfl (pc0 := 120) (pc' := 134) rfl (hb hby at_120) rfl (flt (by decide : ¬ ((6 : Int32) < (4 : Int32)))).2.2.2 (by decide) (by decide) k) ?_
    show OwnGo _ _ _ _ _ _ _ (T47.setTop (mkF m 134 #[.val (.int p0), .val (.int p1), .val (.int p2), .val (.int p3), .val (.int p4), .val (.int (4 : Int32)), .val (.int cb1), .val (.int cb2), .val (.int cb3), .val (.ref b39), .unset] []))
    refine ownStep (fun _ k => XS.iload X47.here hx rfl (hb hby at_134) rfl k) ?_
    show OwnGo _ _ _ _ _ _ _ (T47.setTop (mkF m 136 #[.val (.int p0), .val (.int p1), .val (.int p2), .val (.int p3), .val (.int p4), .val (.int (4 : Int32)), .val (.int cb1), .val (.int cb2), .val (.int cb3), .val (.ref b39), .unset] [(.int (4 : Int32))]))
    refine ownStep (fun _ k => XS.iconst X47.here hx rfl (hb hby at_136) k) ?_
    show OwnGo _ _ _ _ _ _ _ (T47.setTop (mkF m 137 #[.val (.int p0), .val (.int p1), .val (.int p2), .val (.int p3), .val (.int p4), .val (.int (4 : Int32)), .val (.int cb1), .val (.int cb2), .val (.int cb3), .val (.ref b39), .unset] [(.int (3 : Int32)), (.int (4 : Int32))]))
    refine ownStep (fun _ k => XS.icmpNo X47.here hx rfl (hb hby at_137) rfl (flt (by decide : ¬ ((4 : Int32) < (3 : Int32)))).1 k) ?_
    show OwnGo _ _ _ _ _ _ _ (T47.setTop (mkF m 140 #[.val (.int p0), .val (.int p1), .val (.int p2), .val (.int p3), .val (.int p4), .val (.int (4 : Int32)), .val (.int cb1), .val (.int cb2), .val (.int cb3), .val (.ref b39), .unset] []))
    refine ownStep (fun _ k => XS.iload X47.here hx rfl (hb hby at_140) rfl k) ?_
    show OwnGo _ _ _ _ _ _ _ (T47.setTop (mkF m 142 #[.val (.int p0), .val (.int p1), .val (.int p2), .val (.int p3), .val (.int p4), .val (.int (4 : Int32)), .val (.int cb1), .val (.int cb2), .val (.int cb3), .val (.ref b39), .unset] [(.int cb1)]))
    refine ownStep (fun _ k => XS.bipush X47.here hx rfl (hb hby at_142) k) ?_
    show OwnGo _ _ _ _ _ _ _ (T47.setTop (mkF m 144 #[.val (.int p0), .val (.int p1), .val (.int p2), .val (.int p3), .val (.int p4), .val (.int (4 : Int32)), .val (.int cb1), .val (.int cb2), .val (.int cb3), .val (.ref b39), .unset] [(.int (56 : Int32)), (.int cb1)]))
    by_cases t0 : cb1 = (56 : Int32)
    · skip
      refine ownStep (fun _ k => XS.icmpNo X47.here hx rfl (hb hby at_144) rfl (teq t0).2 k) ?_
      show OwnGo _ _ _ _ _ _ _ (T47.setTop (mkF m 147 #[.val (.int p0), .val (.int p1), .val (.int p2), .val (.int p3), .val (.int p4), .val (.int (4 : Int32)), .val (.int cb1), .val (.int cb2), .val (.int cb3), .val (.ref b39), .unset] []))
      refine ownStep (fun _ k => XS.iload X47.here hx rfl (hb hby at_147) rfl k) ?_
      show OwnGo _ _ _ _ _ _ _ (T47.setTop (mkF m 149 #[.val (.int p0), .val (.int p1), .val (.int p2), .val (.int p3), .val (.int p4), .val (.int (4 : Int32)), .val (.int cb1), .val (.int cb2), .val (.int cb3), .val (.ref b39), .unset] [(.int cb2)]))
      refine ownStep (fun _ k => XS.bipush X47.here hx rfl (hb hby at_149) k) ?_
      show OwnGo _ _ _ _ _ _ _ (T47.setTop (mkF m 151 #[.val (.int p0), .val (.int p1), .val (.int p2), .val (.int p3), .val (.int p4), .val (.int (4 : Int32)), .val (.int cb1), .val (.int cb2), .val (.int cb3), .val (.ref b39), .unset] [(.int (56 : Int32)), (.int cb2)]))
      by_cases t1 : cb2 = (56 : Int32)
      · skip
        refine ownStep (fun _ k => XS.icmpNo X47.here hx rfl (hb hby at_151) rfl (teq t1).2 k) ?_
        show OwnGo _ _ _ _ _ _ _ (T47.setTop (mkF m 154 #[.val (.int p0), .val (.int p1), .val (.int p2), .val (.int p3), .val (.int p4), .val (.int (4 : Int32)), .val (.int cb1), .val (.int cb2), .val (.int cb3), .val (.ref b39), .unset] []))
        refine ownStep (fun _ k => XS.iload X47.here hx rfl (hb hby at_154) rfl k) ?_
        show OwnGo _ _ _ _ _ _ _ (T47.setTop (mkF m 156 #[.val (.int p0), .val (.int p1), .val (.int p2), .val (.int p3), .val (.int p4), .val (.int (4 : Int32)), .val (.int cb1), .val (.int cb2), .val (.int cb3), .val (.ref b39), .unset] [(.int cb3)]))
        refine ownStep (fun _ k => XS.bipush X47.here hx rfl (hb hby at_156) k) ?_
        show OwnGo _ _ _ _ _ _ _ (T47.setTop (mkF m 158 #[.val (.int p0), .val (.int p1), .val (.int p2), .val (.int p3), .val (.int p4), .val (.int (4 : Int32)), .val (.int cb1), .val (.int cb2), .val (.int cb3), .val (.ref b39), .unset] [(.int (44 : Int32)), (.int cb3)]))
        by_cases t2 : cb3 = (44 : Int32)
        · skip
          refine ownStep (fun _ k => XS.icmpNo X47.here hx rfl (hb hby at_158) rfl (teq t2).2 k) ?_
          show OwnGo _ _ _ _ _ _ _ (T47.setTop (mkF m 161 #[.val (.int p0), .val (.int p1), .val (.int p2), .val (.int p3), .val (.int p4), .val (.int (4 : Int32)), .val (.int cb1), .val (.int cb2), .val (.int cb3), .val (.ref b39), .unset] []))
          refine ownStep (fun _ k => XS.iconst X47.here hx rfl (hb hby at_161) k) ?_
          show OwnGo _ _ _ _ _ _ _ (T47.setTop (mkF m 162 #[.val (.int p0), .val (.int p1), .val (.int p2), .val (.int p3), .val (.int p4), .val (.int (4 : Int32)), .val (.int cb1), .val (.int cb2), .val (.int cb3), .val (.ref b39), .unset] [(.int (1 : Int32))]))
          refine ownStep (fun _ k => XS.goto X47.here hx rfl (pc0 := 162) (pc' := 166) rfl (hb hby at_162) (by decide) (by decide) k) ?_
          show OwnGo _ _ _ _ _ _ _ (T47.setTop (mkF m 166 #[.val (.int p0), .val (.int p1), .val (.int p2), .val (.int p3), .val (.int p4), .val (.int (4 : Int32)), .val (.int cb1), .val (.int cb2), .val (.int cb3), .val (.ref b39), .unset] [(.int (1 : Int32))]))
          refine ownStep (fun _ k => XS.istore X47.here hx rfl (hb hby at_166) rfl (l' := #[.val (.int p0), .val (.int p1), .val (.int p2), .val (.int p3), .val (.int p4), .val (.int (4 : Int32)), .val (.int cb1), .val (.int cb2), .val (.int cb3), .val (.ref b39), .val (.int (1 : Int32))]) rfl k) ?_
          show OwnGo _ _ _ _ _ _ _ (T47.setTop (mkF m 168 #[.val (.int p0), .val (.int p1), .val (.int p2), .val (.int p3), .val (.int p4), .val (.int (4 : Int32)), .val (.int cb1), .val (.int cb2), .val (.int cb3), .val (.ref b39), .val (.int (1 : Int32))] []))
          refine ownStep (fun _ k => XS.aload X47.here hx rfl (hb hby at_168) rfl rfl k) ?_
          show OwnGo _ _ _ _ _ _ _ (T47.setTop (mkF m 170 #[.val (.int p0), .val (.int p1), .val (.int p2), .val (.int p3), .val (.int p4), .val (.int (4 : Int32)), .val (.int cb1), .val (.int cb2), .val (.int cb3), .val (.ref b39), .val (.int (1 : Int32))] [(.ref b39)]))
          obtain ⟨_, _, ⟨T48, L48, k48, n48⟩, -, X48, ⟨Lc48, hQ48, l48, y48, z48⟩, st48⟩ := Jvm.LawKit.callS X47 hx (y := (⟨"com/example/counterfoil/counterfoil/io/bai2/Fields", "isContinuation", "([B)Z"⟩ : MethodName)) hown (mvT hZ (hw _ (List.mem_of_getElem? (i := 5) rfl))) (mvT hZ (hw _ (List.mem_of_getElem? (i := 6) rfl))) (mvT hZ (hw _ (List.mem_of_getElem? (i := 7) rfl))) (mvT hZ (hw _ (List.mem_of_getElem? (i := 8) rfl))) (by decide) (backOf (W := 0) (rm2 l Z a0 hw [] b39 k39 (4 : Int32) _ cb1 cb2 cb3 wC kC (1 : Int32) h47 n0 O47 SC VC V47 (by decide) (by decide) (by decide) (by decide) rfl rfl rfl (if_pos ⟨t0, t1, t2⟩)) hZ (hw _ (List.mem_of_getElem? (i := 8) rfl)) (hw _ (List.mem_of_getElem? (i := 7) rfl)) (by decide) (by decide)) (g := (mkF m 170 #[.val (.int p0), .val (.int p1), .val (.int p2), .val (.int p3), .val (.int p4), .val (.int (4 : Int32)), .val (.int cb1), .val (.int cb2), .val (.int cb3), .val (.ref b39), .val (.int (1 : Int32))] [(.ref b39)])) rfl (by rw [hml]; rfl) (argsL := [(.ref b39)]) (rest := []) (lenOf own_pd1 rfl) rfl (by show 2 * 0 + _ ≤ _; exact Nat.le_of_eq rfl) (hb hby at_170) (fun _ _ => ⟨rfl, e47, (by decide : 0 + 1 + 0 ≤ _), (by decide : 0 + 4 + 0 ≤ _)⟩)
          dsimp only [Pt.U, Pt.locs, Pt.cells, Pt.slots] at X48 l48 y48 z48 st48 hQ48
          subst l48 y48 z48
          obtain ⟨rfl, N48q, e48⟩ := hQ48
          have N48 := Fr.app N47 N48q
          refine ownStep st48 ?_
          show OwnGo _ _ _ _ _ _ _ (T48.setTop (mkF m 173 #[.val (.int p0), .val (.int p1), .val (.int p2), .val (.int p3), .val (.int p4), .val (.int (4 : Int32)), .val (.int cb1), .val (.int cb2), .val (.int cb3), .val (.ref b39), .val (.int (1 : Int32))] [(.int (1 : Int32))]))
          refine ownStep (fun _ k => XS.iload X48.here hx rfl (hb hby at_173) rfl k) ?_
          show OwnGo _ _ _ _ _ _ _ (T48.setTop (mkF m 175 #[.val (.int p0), .val (.int p1), .val (.int p2), .val (.int p3), .val (.int p4), .val (.int (4 : Int32)), .val (.int cb1), .val (.int cb2), .val (.int cb3), .val (.ref b39), .val (.int (1 : Int32))] [(.int (1 : Int32)), (.int (1 : Int32))]))
          refine ownStep (fun _ k => XS.icmpNo X48.here hx rfl (hb hby at_175) rfl (teq (by decide : (1 : Int32) = (1 : Int32))).2 k) ?_
          show OwnGo _ _ _ _ _ _ _ (T48.setTop (mkF m 178 #[.val (.int p0), .val (.int p1), .val (.int p2), .val (.int p3), .val (.int p4), .val (.int (4 : Int32)), .val (.int cb1), .val (.int cb2), .val (.int cb3), .val (.ref b39), .val (.int (1 : Int32))] []))
          refine ownStep (fun _ k => XS.iconst X48.here hx rfl (hb hby at_178) k) ?_
          show OwnGo _ _ _ _ _ _ _ (T48.setTop (mkF m 179 #[.val (.int p0), .val (.int p1), .val (.int p2), .val (.int p3), .val (.int p4), .val (.int (4 : Int32)), .val (.int cb1), .val (.int cb2), .val (.int cb3), .val (.ref b39), .val (.int (1 : Int32))] [(.int (1 : Int32))]))
          refine ownStep (fun _ k => XS.goto X48.here hx rfl (pc0 := 179) (pc' := 183) rfl (hb hby at_179) (by decide) (by decide) k) ?_
          show OwnGo _ _ _ _ _ _ _ (T48.setTop (mkF m 183 #[.val (.int p0), .val (.int p1), .val (.int p2), .val (.int p3), .val (.int p4), .val (.int (4 : Int32)), .val (.int cb1), .val (.int cb2), .val (.int cb3), .val (.ref b39), .val (.int (1 : Int32))] [(.int (1 : Int32))]))
          have eq183 : T48.heap = h47 := e48
          exact ownRetN X48 hx (t := .boolean) Bd.returns (by simp) (hb hby at_183) (BodyLoose.notSynchronized Bd) (by decide) (by decide) (by rw [eq183]; exact ⟨rfl, N48⟩)
        · skip
          refine ownStep (fun _ k => XS.icmpYes X47.here hx rfl (pc0 := 158) (pc' := 165) rfl (hb hby at_158) rfl (feq t2).2 (by decide) (by decide) k) ?_
          show OwnGo _ _ _ _ _ _ _ (T47.setTop (mkF m 165 #[.val (.int p0), .val (.int p1), .val (.int p2), .val (.int p3), .val (.int p4), .val (.int (4 : Int32)), .val (.int cb1), .val (.int cb2), .val (.int cb3), .val (.ref b39), .unset] []))
          refine ownStep (fun _ k => XS.iconst X47.here hx rfl (hb hby at_165) k) ?_
          show OwnGo _ _ _ _ _ _ _ (T47.setTop (mkF m 166 #[.val (.int p0), .val (.int p1), .val (.int p2), .val (.int p3), .val (.int p4), .val (.int (4 : Int32)), .val (.int cb1), .val (.int cb2), .val (.int cb3), .val (.ref b39), .unset] [(.int (0 : Int32))]))
          refine ownStep (fun _ k => XS.istore X47.here hx rfl (hb hby at_166) rfl (l' := #[.val (.int p0), .val (.int p1), .val (.int p2), .val (.int p3), .val (.int p4), .val (.int (4 : Int32)), .val (.int cb1), .val (.int cb2), .val (.int cb3), .val (.ref b39), .val (.int (0 : Int32))]) rfl k) ?_
          show OwnGo _ _ _ _ _ _ _ (T47.setTop (mkF m 168 #[.val (.int p0), .val (.int p1), .val (.int p2), .val (.int p3), .val (.int p4), .val (.int (4 : Int32)), .val (.int cb1), .val (.int cb2), .val (.int cb3), .val (.ref b39), .val (.int (0 : Int32))] []))
          refine ownStep (fun _ k => XS.aload X47.here hx rfl (hb hby at_168) rfl rfl k) ?_
          show OwnGo _ _ _ _ _ _ _ (T47.setTop (mkF m 170 #[.val (.int p0), .val (.int p1), .val (.int p2), .val (.int p3), .val (.int p4), .val (.int (4 : Int32)), .val (.int cb1), .val (.int cb2), .val (.int cb3), .val (.ref b39), .val (.int (0 : Int32))] [(.ref b39)]))
          obtain ⟨_, _, ⟨T49, L49, k49, n49⟩, -, X49, ⟨Lc49, hQ49, l49, y49, z49⟩, st49⟩ := Jvm.LawKit.callS X47 hx (y := (⟨"com/example/counterfoil/counterfoil/io/bai2/Fields", "isContinuation", "([B)Z"⟩ : MethodName)) hown (mvT hZ (hw _ (List.mem_of_getElem? (i := 5) rfl))) (mvT hZ (hw _ (List.mem_of_getElem? (i := 6) rfl))) (mvT hZ (hw _ (List.mem_of_getElem? (i := 7) rfl))) (mvT hZ (hw _ (List.mem_of_getElem? (i := 8) rfl))) (by decide) (backOf (W := 0) (rm2 l Z a0 hw [] b39 k39 (4 : Int32) _ cb1 cb2 cb3 wC kC (0 : Int32) h47 n0 O47 SC VC V47 (by decide) (by decide) (by decide) (by decide) rfl rfl rfl (if_neg (fun q => t2 q.2.2))) hZ (hw _ (List.mem_of_getElem? (i := 8) rfl)) (hw _ (List.mem_of_getElem? (i := 7) rfl)) (by decide) (by decide)) (g := (mkF m 170 #[.val (.int p0), .val (.int p1), .val (.int p2), .val (.int p3), .val (.int p4), .val (.int (4 : Int32)), .val (.int cb1), .val (.int cb2), .val (.int cb3), .val (.ref b39), .val (.int (0 : Int32))] [(.ref b39)])) rfl (by rw [hml]; rfl) (argsL := [(.ref b39)]) (rest := []) (lenOf own_pd1 rfl) rfl (by show 2 * 0 + _ ≤ _; exact Nat.le_of_eq rfl) (hb hby at_170) (fun _ _ => ⟨rfl, e47, (by decide : 0 + 1 + 0 ≤ _), (by decide : 0 + 4 + 0 ≤ _)⟩)
          dsimp only [Pt.U, Pt.locs, Pt.cells, Pt.slots] at X49 l49 y49 z49 st49 hQ49
          subst l49 y49 z49
          obtain ⟨rfl, N49q, e49⟩ := hQ49
          have N49 := Fr.app N47 N49q
          refine ownStep st49 ?_
          show OwnGo _ _ _ _ _ _ _ (T49.setTop (mkF m 173 #[.val (.int p0), .val (.int p1), .val (.int p2), .val (.int p3), .val (.int p4), .val (.int (4 : Int32)), .val (.int cb1), .val (.int cb2), .val (.int cb3), .val (.ref b39), .val (.int (0 : Int32))] [(.int (0 : Int32))]))
          refine ownStep (fun _ k => XS.iload X49.here hx rfl (hb hby at_173) rfl k) ?_
          show OwnGo _ _ _ _ _ _ _ (T49.setTop (mkF m 175 #[.val (.int p0), .val (.int p1), .val (.int p2), .val (.int p3), .val (.int p4), .val (.int (4 : Int32)), .val (.int cb1), .val (.int cb2), .val (.int cb3), .val (.ref b39), .val (.int (0 : Int32))] [(.int (0 : Int32)), (.int (0 : Int32))]))
          refine ownStep (fun _ k => XS.icmpNo X49.here hx rfl (hb hby at_175) rfl (teq (by decide : (0 : Int32) = (0 : Int32))).2 k) ?_
          show OwnGo _ _ _ _ _ _ _ (T49.setTop (mkF m 178 #[.val (.int p0), .val (.int p1), .val (.int p2), .val (.int p3), .val (.int p4), .val (.int (4 : Int32)), .val (.int cb1), .val (.int cb2), .val (.int cb3), .val (.ref b39), .val (.int (0 : Int32))] []))
          refine ownStep (fun _ k => XS.iconst X49.here hx rfl (hb hby at_178) k) ?_
          show OwnGo _ _ _ _ _ _ _ (T49.setTop (mkF m 179 #[.val (.int p0), .val (.int p1), .val (.int p2), .val (.int p3), .val (.int p4), .val (.int (4 : Int32)), .val (.int cb1), .val (.int cb2), .val (.int cb3), .val (.ref b39), .val (.int (0 : Int32))] [(.int (1 : Int32))]))
          refine ownStep (fun _ k => XS.goto X49.here hx rfl (pc0 := 179) (pc' := 183) rfl (hb hby at_179) (by decide) (by decide) k) ?_
          show OwnGo _ _ _ _ _ _ _ (T49.setTop (mkF m 183 #[.val (.int p0), .val (.int p1), .val (.int p2), .val (.int p3), .val (.int p4), .val (.int (4 : Int32)), .val (.int cb1), .val (.int cb2), .val (.int cb3), .val (.ref b39), .val (.int (0 : Int32))] [(.int (1 : Int32))]))
          have eq183 : T49.heap = h47 := e49
          exact ownRetN X49 hx (t := .boolean) Bd.returns (by simp) (hb hby at_183) (BodyLoose.notSynchronized Bd) (by decide) (by decide) (by rw [eq183]; exact ⟨rfl, N49⟩)
      · skip
        refine ownStep (fun _ k => XS.icmpYes X47.here hx rfl (pc0 := 151) (pc' := 165) rfl (hb hby at_151) rfl (feq t1).2 (by decide) (by decide) k) ?_
        show OwnGo _ _ _ _ _ _ _ (T47.setTop (mkF m 165 #[.val (.int p0), .val (.int p1), .val (.int p2), .val (.int p3), .val (.int p4), .val (.int (4 : Int32)), .val (.int cb1), .val (.int cb2), .val (.int cb3), .val (.ref b39), .unset] []))
        refine ownStep (fun _ k => XS.iconst X47.here hx rfl (hb hby at_165) k) ?_
        show OwnGo _ _ _ _ _ _ _ (T47.setTop (mkF m 166 #[.val (.int p0), .val (.int p1), .val (.int p2), .val (.int p3), .val (.int p4), .val (.int (4 : Int32)), .val (.int cb1), .val (.int cb2), .val (.int cb3), .val (.ref b39), .unset] [(.int (0 : Int32))]))
        refine ownStep (fun _ k => XS.istore X47.here hx rfl (hb hby at_166) rfl (l' := #[.val (.int p0), .val (.int p1), .val (.int p2), .val (.int p3), .val (.int p4), .val (.int (4 : Int32)), .val (.int cb1), .val (.int cb2), .val (.int cb3), .val (.ref b39), .val (.int (0 : Int32))]) rfl k) ?_
        show OwnGo _ _ _ _ _ _ _ (T47.setTop (mkF m 168 #[.val (.int p0), .val (.int p1), .val (.int p2), .val (.int p3), .val (.int p4), .val (.int (4 : Int32)), .val (.int cb1), .val (.int cb2), .val (.int cb3), .val (.ref b39), .val (.int (0 : Int32))] []))
        refine ownStep (fun _ k => XS.aload X47.here hx rfl (hb hby at_168) rfl rfl k) ?_
        show OwnGo _ _ _ _ _ _ _ (T47.setTop (mkF m 170 #[.val (.int p0), .val (.int p1), .val (.int p2), .val (.int p3), .val (.int p4), .val (.int (4 : Int32)), .val (.int cb1), .val (.int cb2), .val (.int cb3), .val (.ref b39), .val (.int (0 : Int32))] [(.ref b39)]))
        obtain ⟨_, _, ⟨T50, L50, k50, n50⟩, -, X50, ⟨Lc50, hQ50, l50, y50, z50⟩, st50⟩ := Jvm.LawKit.callS X47 hx (y := (⟨"com/example/counterfoil/counterfoil/io/bai2/Fields", "isContinuation", "([B)Z"⟩ : MethodName)) hown (mvT hZ (hw _ (List.mem_of_getElem? (i := 5) rfl))) (mvT hZ (hw _ (List.mem_of_getElem? (i := 6) rfl))) (mvT hZ (hw _ (List.mem_of_getElem? (i := 7) rfl))) (mvT hZ (hw _ (List.mem_of_getElem? (i := 8) rfl))) (by decide) (backOf (W := 0) (rm2 l Z a0 hw [] b39 k39 (4 : Int32) _ cb1 cb2 cb3 wC kC (0 : Int32) h47 n0 O47 SC VC V47 (by decide) (by decide) (by decide) (by decide) rfl rfl rfl (if_neg (fun q => t1 q.2.1))) hZ (hw _ (List.mem_of_getElem? (i := 8) rfl)) (hw _ (List.mem_of_getElem? (i := 7) rfl)) (by decide) (by decide)) (g := (mkF m 170 #[.val (.int p0), .val (.int p1), .val (.int p2), .val (.int p3), .val (.int p4), .val (.int (4 : Int32)), .val (.int cb1), .val (.int cb2), .val (.int cb3), .val (.ref b39), .val (.int (0 : Int32))] [(.ref b39)])) rfl (by rw [hml]; rfl) (argsL := [(.ref b39)]) (rest := []) (lenOf own_pd1 rfl) rfl (by show 2 * 0 + _ ≤ _; exact Nat.le_of_eq rfl) (hb hby at_170) (fun _ _ => ⟨rfl, e47, (by decide : 0 + 1 + 0 ≤ _), (by decide : 0 + 4 + 0 ≤ _)⟩)
        dsimp only [Pt.U, Pt.locs, Pt.cells, Pt.slots] at X50 l50 y50 z50 st50 hQ50
        subst l50 y50 z50
        obtain ⟨rfl, N50q, e50⟩ := hQ50
        have N50 := Fr.app N47 N50q
        refine ownStep st50 ?_
        show OwnGo _ _ _ _ _ _ _ (T50.setTop (mkF m 173 #[.val (.int p0), .val (.int p1), .val (.int p2), .val (.int p3), .val (.int p4), .val (.int (4 : Int32)), .val (.int cb1), .val (.int cb2), .val (.int cb3), .val (.ref b39), .val (.int (0 : Int32))] [(.int (0 : Int32))]))
        refine ownStep (fun _ k => XS.iload X50.here hx rfl (hb hby at_173) rfl k) ?_
        show OwnGo _ _ _ _ _ _ _ (T50.setTop (mkF m 175 #[.val (.int p0), .val (.int p1), .val (.int p2), .val (.int p3), .val (.int p4), .val (.int (4 : Int32)), .val (.int cb1), .val (.int cb2), .val (.int cb3), .val (.ref b39), .val (.int (0 : Int32))] [(.int (0 : Int32)), (.int (0 : Int32))]))
        refine ownStep (fun _ k => XS.icmpNo X50.here hx rfl (hb hby at_175) rfl (teq (by decide : (0 : Int32) = (0 : Int32))).2 k) ?_
        show OwnGo _ _ _ _ _ _ _ (T50.setTop (mkF m 178 #[.val (.int p0), .val (.int p1), .val (.int p2), .val (.int p3), .val (.int p4), .val (.int (4 : Int32)), .val (.int cb1), .val (.int cb2), .val (.int cb3), .val (.ref b39), .val (.int (0 : Int32))] []))
        refine ownStep (fun _ k => XS.iconst X50.here hx rfl (hb hby at_178) k) ?_
        show OwnGo _ _ _ _ _ _ _ (T50.setTop (mkF m 179 #[.val (.int p0), .val (.int p1), .val (.int p2), .val (.int p3), .val (.int p4), .val (.int (4 : Int32)), .val (.int cb1), .val (.int cb2), .val (.int cb3), .val (.ref b39), .val (.int (0 : Int32))] [(.int (1 : Int32))]))
        refine ownStep (fun _ k => XS.goto X50.here hx rfl (pc0 := 179) (pc' := 183) rfl (hb hby at_179) (by decide) (by decide) k) ?_
        show OwnGo _ _ _ _ _ _ _ (T50.setTop (mkF m 183 #[.val (.int p0), .val (.int p1), .val (.int p2), .val (.int p3), .val (.int p4), .val (.int (4 : Int32)), .val (.int cb1), .val (.int cb2), .val (.int cb3), .val (.ref b39), .val (.int (0 : Int32))] [(.int (1 : Int32))]))
        have eq183 : T50.heap = h47 := e50
        exact ownRetN X50 hx (t := .boolean) Bd.returns (by simp) (hb hby at_183) (BodyLoose.notSynchronized Bd) (by decide) (by decide) (by rw [eq183]; exact ⟨rfl, N50⟩)
    · skip
      refine ownStep (fun _ k => XS.icmpYes X47.here hx rfl (pc0 := 144) (pc' := 165) rfl (hb hby at_144) rfl (feq t0).2 (by decide) (by decide) k) ?_
      show OwnGo _ _ _ _ _ _ _ (T47.setTop (mkF m 165 #[.val (.int p0), .val (.int p1), .val (.int p2), .val (.int p3), .val (.int p4), .val (.int (4 : Int32)), .val (.int cb1), .val (.int cb2), .val (.int cb3), .val (.ref b39), .unset] []))
      refine ownStep (fun _ k => XS.iconst X47.here hx rfl (hb hby at_165) k) ?_
      show OwnGo _ _ _ _ _ _ _ (T47.setTop (mkF m 166 #[.val (.int p0), .val (.int p1), .val (.int p2), .val (.int p3), .val (.int p4), .val (.int (4 : Int32)), .val (.int cb1), .val (.int cb2), .val (.int cb3), .val (.ref b39), .unset] [(.int (0 : Int32))]))
      refine ownStep (fun _ k => XS.istore X47.here hx rfl (hb hby at_166) rfl (l' := #[.val (.int p0), .val (.int p1), .val (.int p2), .val (.int p3), .val (.int p4), .val (.int (4 : Int32)), .val (.int cb1), .val (.int cb2), .val (.int cb3), .val (.ref b39), .val (.int (0 : Int32))]) rfl k) ?_
      show OwnGo _ _ _ _ _ _ _ (T47.setTop (mkF m 168 #[.val (.int p0), .val (.int p1), .val (.int p2), .val (.int p3), .val (.int p4), .val (.int (4 : Int32)), .val (.int cb1), .val (.int cb2), .val (.int cb3), .val (.ref b39), .val (.int (0 : Int32))] []))
      refine ownStep (fun _ k => XS.aload X47.here hx rfl (hb hby at_168) rfl rfl k) ?_
      show OwnGo _ _ _ _ _ _ _ (T47.setTop (mkF m 170 #[.val (.int p0), .val (.int p1), .val (.int p2), .val (.int p3), .val (.int p4), .val (.int (4 : Int32)), .val (.int cb1), .val (.int cb2), .val (.int cb3), .val (.ref b39), .val (.int (0 : Int32))] [(.ref b39)]))
      obtain ⟨_, _, ⟨T51, L51, k51, n51⟩, -, X51, ⟨Lc51, hQ51, l51, y51, z51⟩, st51⟩ := Jvm.LawKit.callS X47 hx (y := (⟨"com/example/counterfoil/counterfoil/io/bai2/Fields", "isContinuation", "([B)Z"⟩ : MethodName)) hown (mvT hZ (hw _ (List.mem_of_getElem? (i := 5) rfl))) (mvT hZ (hw _ (List.mem_of_getElem? (i := 6) rfl))) (mvT hZ (hw _ (List.mem_of_getElem? (i := 7) rfl))) (mvT hZ (hw _ (List.mem_of_getElem? (i := 8) rfl))) (by decide) (backOf (W := 0) (rm2 l Z a0 hw [] b39 k39 (4 : Int32) _ cb1 cb2 cb3 wC kC (0 : Int32) h47 n0 O47 SC VC V47 (by decide) (by decide) (by decide) (by decide) rfl rfl rfl (if_neg (fun q => t0 q.1))) hZ (hw _ (List.mem_of_getElem? (i := 8) rfl)) (hw _ (List.mem_of_getElem? (i := 7) rfl)) (by decide) (by decide)) (g := (mkF m 170 #[.val (.int p0), .val (.int p1), .val (.int p2), .val (.int p3), .val (.int p4), .val (.int (4 : Int32)), .val (.int cb1), .val (.int cb2), .val (.int cb3), .val (.ref b39), .val (.int (0 : Int32))] [(.ref b39)])) rfl (by rw [hml]; rfl) (argsL := [(.ref b39)]) (rest := []) (lenOf own_pd1 rfl) rfl (by show 2 * 0 + _ ≤ _; exact Nat.le_of_eq rfl) (hb hby at_170) (fun _ _ => ⟨rfl, e47, (by decide : 0 + 1 + 0 ≤ _), (by decide : 0 + 4 + 0 ≤ _)⟩)
      dsimp only [Pt.U, Pt.locs, Pt.cells, Pt.slots] at X51 l51 y51 z51 st51 hQ51
      subst l51 y51 z51
      obtain ⟨rfl, N51q, e51⟩ := hQ51
      have N51 := Fr.app N47 N51q
      refine ownStep st51 ?_
      show OwnGo _ _ _ _ _ _ _ (T51.setTop (mkF m 173 #[.val (.int p0), .val (.int p1), .val (.int p2), .val (.int p3), .val (.int p4), .val (.int (4 : Int32)), .val (.int cb1), .val (.int cb2), .val (.int cb3), .val (.ref b39), .val (.int (0 : Int32))] [(.int (0 : Int32))]))
      refine ownStep (fun _ k => XS.iload X51.here hx rfl (hb hby at_173) rfl k) ?_
      show OwnGo _ _ _ _ _ _ _ (T51.setTop (mkF m 175 #[.val (.int p0), .val (.int p1), .val (.int p2), .val (.int p3), .val (.int p4), .val (.int (4 : Int32)), .val (.int cb1), .val (.int cb2), .val (.int cb3), .val (.ref b39), .val (.int (0 : Int32))] [(.int (0 : Int32)), (.int (0 : Int32))]))
      refine ownStep (fun _ k => XS.icmpNo X51.here hx rfl (hb hby at_175) rfl (teq (by decide : (0 : Int32) = (0 : Int32))).2 k) ?_
      show OwnGo _ _ _ _ _ _ _ (T51.setTop (mkF m 178 #[.val (.int p0), .val (.int p1), .val (.int p2), .val (.int p3), .val (.int p4), .val (.int (4 : Int32)), .val (.int cb1), .val (.int cb2), .val (.int cb3), .val (.ref b39), .val (.int (0 : Int32))] []))
      refine ownStep (fun _ k => XS.iconst X51.here hx rfl (hb hby at_178) k) ?_
      show OwnGo _ _ _ _ _ _ _ (T51.setTop (mkF m 179 #[.val (.int p0), .val (.int p1), .val (.int p2), .val (.int p3), .val (.int p4), .val (.int (4 : Int32)), .val (.int cb1), .val (.int cb2), .val (.int cb3), .val (.ref b39), .val (.int (0 : Int32))] [(.int (1 : Int32))]))
      refine ownStep (fun _ k => XS.goto X51.here hx rfl (pc0 := 179) (pc' := 183) rfl (hb hby at_179) (by decide) (by decide) k) ?_
      show OwnGo _ _ _ _ _ _ _ (T51.setTop (mkF m 183 #[.val (.int p0), .val (.int p1), .val (.int p2), .val (.int p3), .val (.int p4), .val (.int (4 : Int32)), .val (.int cb1), .val (.int cb2), .val (.int cb3), .val (.ref b39), .val (.int (0 : Int32))] [(.int (1 : Int32))]))
      have eq183 : T51.heap = h47 := e51
      exact ownRetN X51 hx (t := .boolean) Bd.returns (by simp) (hb hby at_183) (BodyLoose.notSynchronized Bd) (by decide) (by decide) (by rw [eq183]; exact ⟨rfl, N51⟩)
  · rw [hk]
    show OwnGo _ _ _ _ _ _ _ (T15.setTop (mkF m 32 #[.val (.int p0), .val (.int p1), .val (.int p2), .val (.int p3), .val (.int p4), .val (.int (5 : Int32)), .val (.int cb1), .val (.int cb2), .val (.int cb3), .unset, .unset] [(.int (5 : Int32))]))
    obtain ⟨T52, h52, k52, X52, e52, E52, A52, st52⟩ := newP X15 hx hZ (hw _ (List.mem_of_getElem? (i := 4) rfl)) e15 (g := (mkF m 32 #[.val (.int p0), .val (.int p1), .val (.int p2), .val (.int p3), .val (.int p4), .val (.int (5 : Int32)), .val (.int cb1), .val (.int cb2), .val (.int cb3), .unset, .unset] [(.int (5 : Int32))])) rfl (hb hby at_32) rfl (by decide) (cap := 5) (by decide) (by decide) (by decide) (by decide)
    obtain ⟨b52, g52⟩ : ∃ z, z = h0.size := ⟨_, rfl⟩
    rw [← g52] at A52 st52
    refine ownStep st52 ?_
    have ge52 : n0 ≤ b52 := by rw [g52]; exact Nat.le_trans (Nat.le_of_eq O0.1.symm) O0.2.1
    have O52 := O0.ext E52
    show OwnGo _ _ _ _ _ _ _ (T52.setTop (mkF m 34 #[.val (.int p0), .val (.int p1), .val (.int p2), .val (.int p3), .val (.int p4), .val (.int (5 : Int32)), .val (.int cb1), .val (.int cb2), .val (.int cb3), .unset, .unset] [(.ref b52)]))
    have V52 : Arv Z h52 b52 k52 .byte (5 : Int32) [(.int (0 : Int32)), (.int (0 : Int32)), (.int (0 : Int32)), (.int (0 : Int32)), (.int (0 : Int32))] (.int (0 : Int32)) := (Arv.new A52 (by decide)).pad (pad_rep [] (.int (0 : Int32)) 5)
    refine ownStep (fun _ k => XS.astore X52.here hx rfl (hb hby at_34) rfl rfl (l' := #[.val (.int p0), .val (.int p1), .val (.int p2), .val (.int p3), .val (.int p4), .val (.int (5 : Int32)), .val (.int cb1), .val (.int cb2), .val (.int cb3), .val (.ref b52), .unset]) rfl k) ?_
    show OwnGo _ _ _ _ _ _ _ (T52.setTop (mkF m 36 #[.val (.int p0), .val (.int p1), .val (.int p2), .val (.int p3), .val (.int p4), .val (.int (5 : Int32)), .val (.int cb1), .val (.int cb2), .val (.int cb3), .val (.ref b52), .unset] []))
    refine ownStep (fun _ k => XS.iload X52.here hx rfl (hb hby at_36) rfl k) ?_
    show OwnGo _ _ _ _ _ _ _ (T52.setTop (mkF m 38 #[.val (.int p0), .val (.int p1), .val (.int p2), .val (.int p3), .val (.int p4), .val (.int (5 : Int32)), .val (.int cb1), .val (.int cb2), .val (.int cb3), .val (.ref b52), .unset] [(.int (5 : Int32))]))
    refine ownStep (fun _ k => XS.ifNo X52.here hx rfl (hb hby at_38) rfl ((if0 _ _).trans (tlt (by decide : (0 : Int32) < (5 : Int32))).2.2.2) k) ?_
    show OwnGo _ _ _ _ _ _ _ (T52.setTop (mkF m 41 #[.val (.int p0), .val (.int p1), .val (.int p2), .val (.int p3), .val (.int p4), .val (.int (5 : Int32)), .val (.int cb1), .val (.int cb2), .val (.int cb3), .val (.ref b52), .unset] []))
    refine ownStep (fun _ k => XS.aload X52.here hx rfl (hb hby at_41) rfl rfl k) ?_
    show OwnGo _ _ _ _ _ _ _ (T52.setTop (mkF m 43 #[.val (.int p0), .val (.int p1), .val (.int p2), .val (.int p3), .val (.int p4), .val (.int (5 : Int32)), .val (.int cb1), .val (.int cb2), .val (.int cb3), .val (.ref b52), .unset] [(.ref b52)]))
    refine ownStep (fun _ k => XS.iconst X52.here hx rfl (hb hby at_43) k) ?_
    show OwnGo _ _ _ _ _ _ _ (T52.setTop (mkF m 44 #[.val (.int p0), .val (.int p1), .val (.int p2), .val (.int p3), .val (.int p4), .val (.int (5 : Int32)), .val (.int cb1), .val (.int cb2), .val (.int cb3), .val (.ref b52), .unset] [(.int (0 : Int32)), (.ref b52)]))
    refine ownStep (fun _ k => XS.iload X52.here hx rfl (hb hby at_44) rfl k) ?_
    show OwnGo _ _ _ _ _ _ _ (T52.setTop (mkF m 46 #[.val (.int p0), .val (.int p1), .val (.int p2), .val (.int p3), .val (.int p4), .val (.int (5 : Int32)), .val (.int cb1), .val (.int cb2), .val (.int cb3), .val (.ref b52), .unset] [(.int cb1), (.int (0 : Int32)), (.ref b52)]))
    obtain ⟨cla53, Ara53, qa53, Sa53, Pa53, Ha53, Ga53⟩ := id V52
    have hina53 : ¬ ((0 : Int32) < 0 ∨ cla53.slots.size ≤ ((0 : Int32) : Int32).toNatClampNeg) := inb_of Sa53 ⟨by decide, by decide⟩
    obtain ⟨T54, h54, X54, e54, W54, st54⟩ := stB X52 hx hZ e52 Ara53 (j := (0 : Int32)) hina53 (g := (mkF m 46 #[.val (.int p0), .val (.int p1), .val (.int p2), .val (.int p3), .val (.int p4), .val (.int (5 : Int32)), .val (.int cb1), .val (.int cb2), .val (.int cb3), .val (.ref b52), .unset] [(.int cb1), (.int (0 : Int32)), (.ref b52)])) rfl rfl (hb hby at_46)
    refine ownStep st54 ?_
    have N54 := Fr.snoc X54 N15 ge52
    have O54 := O52.wr W54 ge52
    show OwnGo _ _ _ _ _ _ _ (T54.setTop (mkF m 47 #[.val (.int p0), .val (.int p1), .val (.int p2), .val (.int p3), .val (.int p4), .val (.int (5 : Int32)), .val (.int cb1), .val (.int cb2), .val (.int cb3), .val (.ref b52), .unset] []))
    have V54 : Arv Z h54 b52 k52 .byte (5 : Int32) [(.int cb1), (.int (0 : Int32)), (.int (0 : Int32)), (.int (0 : Int32)), (.int (0 : Int32))] (.int (0 : Int32)) := by
      have q := Arv.set Ara53 qa53 Sa53 Pa53 Ha53 Ga53 (fits_nar_byte _) W54 0 rfl (Nat.le_of_ble_eq_true rfl)
      rw [nb1] at q
      exact q
    refine ownStep (fun _ k => XS.iload X54.here hx rfl (hb hby at_47) rfl k) ?_
    show OwnGo _ _ _ _ _ _ _ (T54.setTop (mkF m 49 #[.val (.int p0), .val (.int p1), .val (.int p2), .val (.int p3), .val (.int p4), .val (.int (5 : Int32)), .val (.int cb1), .val (.int cb2), .val (.int cb3), .val (.ref b52), .unset] [(.int (5 : Int32))]))
    refine ownStep (fun _ k => XS.iconst X54.here hx rfl (hb hby at_49) k) ?_
    show OwnGo _ _ _ _ _ _ _ (T54.setTop (mkF m 50 #[.val (.int p0), .val (.int p1), .val (.int p2), .val (.int p3), .val (.int p4), .val (.int (5 : Int32)), .val (.int cb1), .val (.int cb2), .val (.int cb3), .val (.ref b52), .unset] [(.int (1 : Int32)), (.int (5 : Int32))]))
    refine ownStep (fun _ k => XS.icmpNo X54.here hx rfl (hb hby at_50) rfl (tlt (by decide : (1 : Int32) < (5 : Int32))).2.2.2 k) ?_
    show OwnGo _ _ _ _ _ _ _ (T54.setTop (mkF m 53 #[.val (.int p0), .val (.int p1), .val (.int p2), .val (.int p3), .val (.int p4), .val (.int (5 : Int32)), .val (.int cb1), .val (.int cb2), .val (.int cb3), .val (.ref b52), .unset] []))
    refine ownStep (fun _ k => XS.aload X54.here hx rfl (hb hby at_53) rfl rfl k) ?_
    show OwnGo _ _ _ _ _ _ _ (T54.setTop (mkF m 55 #[.val (.int p0), .val (.int p1), .val (.int p2), .val (.int p3), .val (.int p4), .val (.int (5 : Int32)), .val (.int cb1), .val (.int cb2), .val (.int cb3), .val (.ref b52), .unset] [(.ref b52)]))
    refine ownStep (fun _ k => XS.iconst X54.here hx rfl (hb hby at_55) k) ?_
    show OwnGo _ _ _ _ _ _ _ (T54.setTop (mkF m 56 #[.val (.int p0), .val (.int p1), .val (.int p2), .val (.int p3), .val (.int p4), .val (.int (5 : Int32)), .val (.int cb1), .val (.int cb2), .val (.int cb3), .val (.ref b52), .unset] [(.int (1 : Int32)), (.ref b52)]))
    refine ownStep (fun _ k => XS.iload X54.here hx rfl (hb hby at_56) rfl k) ?_
    show OwnGo _ _ _ _ _ _ _ (T54.setTop (mkF m 58 #[.val (.int p0), .val (.int p1), .val (.int p2), .val (.int p3), .val (.int p4), .val (.int (5 : Int32)), .val (.int cb1), .val (.int cb2), .val (.int cb3), .val (.ref b52), .unset] [(.int cb2), (.int (1 : Int32)), (.ref b52)]))
    obtain ⟨cla55, Ara55, qa55, Sa55, Pa55, Ha55, Ga55⟩ := id V54
    have hina55 : ¬ ((1 : Int32) < 0 ∨ cla55.slots.size ≤ ((1 : Int32) : Int32).toNatClampNeg) := inb_of Sa55 ⟨by decide, by decide⟩
    obtain ⟨T56, h56, X56, e56, W56, st56⟩ := stB X54 hx hZ e54 Ara55 (j := (1 : Int32)) hina55 (g := (mkF m 58 #[.val (.int p0), .val (.int p1), .val (.int p2), .val (.int p3), .val (.int p4), .val (.int (5 : Int32)), .val (.int cb1), .val (.int cb2), .val (.int cb3), .val (.ref b52), .unset] [(.int cb2), (.int (1 : Int32)), (.ref b52)])) rfl rfl (hb hby at_58)
    refine ownStep st56 ?_
    have N56 := Fr.snoc X56 N54 ge52
    have O56 := O54.wr W56 ge52
    show OwnGo _ _ _ _ _ _ _ (T56.setTop (mkF m 59 #[.val (.int p0), .val (.int p1), .val (.int p2), .val (.int p3), .val (.int p4), .val (.int (5 : Int32)), .val (.int cb1), .val (.int cb2), .val (.int cb3), .val (.ref b52), .unset] []))
    have V56 : Arv Z h56 b52 k52 .byte (5 : Int32) [(.int cb1), (.int cb2), (.int (0 : Int32)), (.int (0 : Int32)), (.int (0 : Int32))] (.int (0 : Int32)) := by
      have q := Arv.set Ara55 qa55 Sa55 Pa55 Ha55 Ga55 (fits_nar_byte _) W56 1 rfl (Nat.le_of_ble_eq_true rfl)
      rw [nb2] at q
      exact q
    refine ownStep (fun _ k => XS.iload X56.here hx rfl (hb hby at_59) rfl k) ?_
    show OwnGo _ _ _ _ _ _ _ (T56.setTop (mkF m 61 #[.val (.int p0), .val (.int p1), .val (.int p2), .val (.int p3), .val (.int p4), .val (.int (5 : Int32)), .val (.int cb1), .val (.int cb2), .val (.int cb3), .val (.ref b52), .unset] [(.int (5 : Int32))]))
    refine ownStep (fun _ k => XS.iconst X56.here hx rfl (hb hby at_61) k) ?_
    show OwnGo _ _ _ _ _ _ _ (T56.setTop (mkF m 62 #[.val (.int p0), .val (.int p1), .val (.int p2), .val (.int p3), .val (.int p4), .val (.int (5 : Int32)), .val (.int cb1), .val (.int cb2), .val (.int cb3), .val (.ref b52), .unset] [(.int (2 : Int32)), (.int (5 : Int32))]))
    refine ownStep (fun _ k => XS.icmpNo X56.here hx rfl (hb hby at_62) rfl (tlt (by decide : (2 : Int32) < (5 : Int32))).2.2.2 k) ?_
    show OwnGo _ _ _ _ _ _ _ (T56.setTop (mkF m 65 #[.val (.int p0), .val (.int p1), .val (.int p2), .val (.int p3), .val (.int p4), .val (.int (5 : Int32)), .val (.int cb1), .val (.int cb2), .val (.int cb3), .val (.ref b52), .unset] []))
    refine ownStep (fun _ k => XS.aload X56.here hx rfl (hb hby at_65) rfl rfl k) ?_
    show OwnGo _ _ _ _ _ _ _ (T56.setTop (mkF m 67 #[.val (.int p0), .val (.int p1), .val (.int p2), .val (.int p3), .val (.int p4), .val (.int (5 : Int32)), .val (.int cb1), .val (.int cb2), .val (.int cb3), .val (.ref b52), .unset] [(.ref b52)]))
    refine ownStep (fun _ k => XS.iconst X56.here hx rfl (hb hby at_67) k) ?_
    show OwnGo _ _ _ _ _ _ _ (T56.setTop (mkF m 68 #[.val (.int p0), .val (.int p1), .val (.int p2), .val (.int p3), .val (.int p4), .val (.int (5 : Int32)), .val (.int cb1), .val (.int cb2), .val (.int cb3), .val (.ref b52), .unset] [(.int (2 : Int32)), (.ref b52)]))
    refine ownStep (fun _ k => XS.iload X56.here hx rfl (hb hby at_68) rfl k) ?_
    show OwnGo _ _ _ _ _ _ _ (T56.setTop (mkF m 70 #[.val (.int p0), .val (.int p1), .val (.int p2), .val (.int p3), .val (.int p4), .val (.int (5 : Int32)), .val (.int cb1), .val (.int cb2), .val (.int cb3), .val (.ref b52), .unset] [(.int cb3), (.int (2 : Int32)), (.ref b52)]))
    obtain ⟨cla57, Ara57, qa57, Sa57, Pa57, Ha57, Ga57⟩ := id V56
    have hina57 : ¬ ((2 : Int32) < 0 ∨ cla57.slots.size ≤ ((2 : Int32) : Int32).toNatClampNeg) := inb_of Sa57 ⟨by decide, by decide⟩
    obtain ⟨T58, h58, X58, e58, W58, st58⟩ := stB X56 hx hZ e56 Ara57 (j := (2 : Int32)) hina57 (g := (mkF m 70 #[.val (.int p0), .val (.int p1), .val (.int p2), .val (.int p3), .val (.int p4), .val (.int (5 : Int32)), .val (.int cb1), .val (.int cb2), .val (.int cb3), .val (.ref b52), .unset] [(.int cb3), (.int (2 : Int32)), (.ref b52)])) rfl rfl (hb hby at_70)
    refine ownStep st58 ?_
    have N58 := Fr.snoc X58 N56 ge52
    have O58 := O56.wr W58 ge52
    show OwnGo _ _ _ _ _ _ _ (T58.setTop (mkF m 71 #[.val (.int p0), .val (.int p1), .val (.int p2), .val (.int p3), .val (.int p4), .val (.int (5 : Int32)), .val (.int cb1), .val (.int cb2), .val (.int cb3), .val (.ref b52), .unset] []))
    have V58 : Arv Z h58 b52 k52 .byte (5 : Int32) [(.int cb1), (.int cb2), (.int cb3), (.int (0 : Int32)), (.int (0 : Int32))] (.int (0 : Int32)) := by
      have q := Arv.set Ara57 qa57 Sa57 Pa57 Ha57 Ga57 (fits_nar_byte _) W58 2 rfl (Nat.le_of_ble_eq_true rfl)
      rw [nb3] at q
      exact q
    refine ownStep (fun _ k => XS.iload X58.here hx rfl (hb hby at_71) rfl k) ?_
    show OwnGo _ _ _ _ _ _ _ (T58.setTop (mkF m 73 #[.val (.int p0), .val (.int p1), .val (.int p2), .val (.int p3), .val (.int p4), .val (.int (5 : Int32)), .val (.int cb1), .val (.int cb2), .val (.int cb3), .val (.ref b52), .unset] [(.int (5 : Int32))]))
    refine ownStep (fun _ k => XS.iconst X58.here hx rfl (hb hby at_73) k) ?_
    show OwnGo _ _ _ _ _ _ _ (T58.setTop (mkF m 74 #[.val (.int p0), .val (.int p1), .val (.int p2), .val (.int p3), .val (.int p4), .val (.int (5 : Int32)), .val (.int cb1), .val (.int cb2), .val (.int cb3), .val (.ref b52), .unset] [(.int (3 : Int32)), (.int (5 : Int32))]))
    refine ownStep (fun _ k => XS.icmpNo X58.here hx rfl (hb hby at_74) rfl (tlt (by decide : (3 : Int32) < (5 : Int32))).2.2.2 k) ?_
    show OwnGo _ _ _ _ _ _ _ (T58.setTop (mkF m 77 #[.val (.int p0), .val (.int p1), .val (.int p2), .val (.int p3), .val (.int p4), .val (.int (5 : Int32)), .val (.int cb1), .val (.int cb2), .val (.int cb3), .val (.ref b52), .unset] []))
    refine ownStep (fun _ k => XS.aload X58.here hx rfl (hb hby at_77) rfl rfl k) ?_
    show OwnGo _ _ _ _ _ _ _ (T58.setTop (mkF m 79 #[.val (.int p0), .val (.int p1), .val (.int p2), .val (.int p3), .val (.int p4), .val (.int (5 : Int32)), .val (.int cb1), .val (.int cb2), .val (.int cb3), .val (.ref b52), .unset] [(.ref b52)]))
    refine ownStep (fun _ k => XS.iconst X58.here hx rfl (hb hby at_79) k) ?_
    show OwnGo _ _ _ _ _ _ _ (T58.setTop (mkF m 80 #[.val (.int p0), .val (.int p1), .val (.int p2), .val (.int p3), .val (.int p4), .val (.int (5 : Int32)), .val (.int cb1), .val (.int cb2), .val (.int cb3), .val (.ref b52), .unset] [(.int (3 : Int32)), (.ref b52)]))
    refine ownStep (fun _ k => XS.iload X58.here hx rfl (hb hby at_80) rfl k) ?_
    show OwnGo _ _ _ _ _ _ _ (T58.setTop (mkF m 82 #[.val (.int p0), .val (.int p1), .val (.int p2), .val (.int p3), .val (.int p4), .val (.int (5 : Int32)), .val (.int cb1), .val (.int cb2), .val (.int cb3), .val (.ref b52), .unset] [(.int p4), (.int (3 : Int32)), (.ref b52)]))
    refine ownStep (fun _ k => XS.i2b X58.here hx rfl (hb hby at_82) rfl k) ?_
    show OwnGo _ _ _ _ _ _ _ (T58.setTop (mkF m 83 #[.val (.int p0), .val (.int p1), .val (.int p2), .val (.int p3), .val (.int p4), .val (.int (5 : Int32)), .val (.int cb1), .val (.int cb2), .val (.int cb3), .val (.ref b52), .unset] [(.int (p4.toInt8.toInt32)), (.int (3 : Int32)), (.ref b52)]))
    obtain ⟨cla59, Ara59, qa59, Sa59, Pa59, Ha59, Ga59⟩ := id V58
    have hina59 : ¬ ((3 : Int32) < 0 ∨ cla59.slots.size ≤ ((3 : Int32) : Int32).toNatClampNeg) := inb_of Sa59 ⟨by decide, by decide⟩
    obtain ⟨T60, h60, X60, e60, W60, st60⟩ := stB X58 hx hZ e58 Ara59 (j := (3 : Int32)) hina59 (g := (mkF m 83 #[.val (.int p0), .val (.int p1), .val (.int p2), .val (.int p3), .val (.int p4), .val (.int (5 : Int32)), .val (.int cb1), .val (.int cb2), .val (.int cb3), .val (.ref b52), .unset] [(.int (p4.toInt8.toInt32)), (.int (3 : Int32)), (.ref b52)])) rfl rfl (hb hby at_83)
    refine ownStep st60 ?_
    have N60 := Fr.snoc X60 N58 ge52
    have O60 := O58.wr W60 ge52
    show OwnGo _ _ _ _ _ _ _ (T60.setTop (mkF m 84 #[.val (.int p0), .val (.int p1), .val (.int p2), .val (.int p3), .val (.int p4), .val (.int (5 : Int32)), .val (.int cb1), .val (.int cb2), .val (.int cb3), .val (.ref b52), .unset] []))
    have V60 : Arv Z h60 b52 k52 .byte (5 : Int32) [(.int cb1), (.int cb2), (.int cb3), (.int ((p4.toInt8.toInt32).toInt8.toInt32)), (.int (0 : Int32))] (.int (0 : Int32)) := by
      have q := Arv.set Ara59 qa59 Sa59 Pa59 Ha59 Ga59 (fits_nar_byte _) W60 3 rfl (Nat.le_of_ble_eq_true rfl)
      exact q
    refine ownStep (fun _ k => XS.iload X60.here hx rfl (hb hby at_84) rfl k) ?_
    show OwnGo _ _ _ _ _ _ _ (T60.setTop (mkF m 86 #[.val (.int p0), .val (.int p1), .val (.int p2), .val (.int p3), .val (.int p4), .val (.int (5 : Int32)), .val (.int cb1), .val (.int cb2), .val (.int cb3), .val (.ref b52), .unset] [(.int (5 : Int32))]))
    refine ownStep (fun _ k => XS.iconst X60.here hx rfl (hb hby at_86) k) ?_
    show OwnGo _ _ _ _ _ _ _ (T60.setTop (mkF m 87 #[.val (.int p0), .val (.int p1), .val (.int p2), .val (.int p3), .val (.int p4), .val (.int (5 : Int32)), .val (.int cb1), .val (.int cb2), .val (.int cb3), .val (.ref b52), .unset] [(.int (4 : Int32)), (.int (5 : Int32))]))
    refine ownStep (fun _ k => XS.icmpNo X60.here hx rfl (hb hby at_87) rfl (tlt (by decide : (4 : Int32) < (5 : Int32))).2.2.2 k) ?_
    show OwnGo _ _ _ _ _ _ _ (T60.setTop (mkF m 90 #[.val (.int p0), .val (.int p1), .val (.int p2), .val (.int p3), .val (.int p4), .val (.int (5 : Int32)), .val (.int cb1), .val (.int cb2), .val (.int cb3), .val (.ref b52), .unset] []))
    refine ownStep (fun _ k => XS.aload X60.here hx rfl (hb hby at_90) rfl rfl k) ?_
    show OwnGo _ _ _ _ _ _ _ (T60.setTop (mkF m 92 #[.val (.int p0), .val (.int p1), .val (.int p2), .val (.int p3), .val (.int p4), .val (.int (5 : Int32)), .val (.int cb1), .val (.int cb2), .val (.int cb3), .val (.ref b52), .unset] [(.ref b52)]))
    refine ownStep (fun _ k => XS.iconst X60.here hx rfl (hb hby at_92) k) ?_
    show OwnGo _ _ _ _ _ _ _ (T60.setTop (mkF m 93 #[.val (.int p0), .val (.int p1), .val (.int p2), .val (.int p3), .val (.int p4), .val (.int (5 : Int32)), .val (.int cb1), .val (.int cb2), .val (.int cb3), .val (.ref b52), .unset] [(.int (4 : Int32)), (.ref b52)]))
    refine ownStep (fun _ k => XS.iload X60.here hx rfl (hb hby at_93) rfl k) ?_
    show OwnGo _ _ _ _ _ _ _ (T60.setTop (mkF m 95 #[.val (.int p0), .val (.int p1), .val (.int p2), .val (.int p3), .val (.int p4), .val (.int (5 : Int32)), .val (.int cb1), .val (.int cb2), .val (.int cb3), .val (.ref b52), .unset] [(.int p4), (.int (4 : Int32)), (.ref b52)]))
    refine ownStep (fun _ k => XS.bipush X60.here hx rfl (hb hby at_95) k) ?_
    show OwnGo _ _ _ _ _ _ _ (T60.setTop (mkF m 97 #[.val (.int p0), .val (.int p1), .val (.int p2), .val (.int p3), .val (.int p4), .val (.int (5 : Int32)), .val (.int cb1), .val (.int cb2), .val (.int cb3), .val (.ref b52), .unset] [(.int (8 : Int32)), (.int p4), (.int (4 : Int32)), (.ref b52)]))
    refine ownStep (fun _ k => XS.ishr X60.here hx rfl (hb hby at_97) rfl k) ?_
    show OwnGo _ _ _ _ _ _ _ (T60.setTop (mkF m 98 #[.val (.int p0), .val (.int p1), .val (.int p2), .val (.int p3), .val (.int p4), .val (.int (5 : Int32)), .val (.int cb1), .val (.int cb2), .val (.int cb3), .val (.ref b52), .unset] [(.int (p4 >>> ((8 : Int32) &&& 31))), (.int (4 : Int32)), (.ref b52)]))
    refine ownStep (fun _ k => XS.i2b X60.here hx rfl (hb hby at_98) rfl k) ?_
    show OwnGo _ _ _ _ _ _ _ (T60.setTop (mkF m 99 #[.val (.int p0), .val (.int p1), .val (.int p2), .val (.int p3), .val (.int p4), .val (.int (5 : Int32)), .val (.int cb1), .val (.int cb2), .val (.int cb3), .val (.ref b52), .unset] [(.int ((p4 >>> ((8 : Int32) &&& 31)).toInt8.toInt32)), (.int (4 : Int32)), (.ref b52)]))
    obtain ⟨cla61, Ara61, qa61, Sa61, Pa61, Ha61, Ga61⟩ := id V60
    have hina61 : ¬ ((4 : Int32) < 0 ∨ cla61.slots.size ≤ ((4 : Int32) : Int32).toNatClampNeg) := inb_of Sa61 ⟨by decide, by decide⟩
    obtain ⟨T62, h62, X62, e62, W62, st62⟩ := stB X60 hx hZ e60 Ara61 (j := (4 : Int32)) hina61 (g := (mkF m 99 #[.val (.int p0), .val (.int p1), .val (.int p2), .val (.int p3), .val (.int p4), .val (.int (5 : Int32)), .val (.int cb1), .val (.int cb2), .val (.int cb3), .val (.ref b52), .unset] [(.int ((p4 >>> ((8 : Int32) &&& 31)).toInt8.toInt32)), (.int (4 : Int32)), (.ref b52)])) rfl rfl (hb hby at_99)
    refine ownStep st62 ?_
    have N62 := Fr.snoc X62 N60 ge52
    have O62 := O60.wr W62 ge52
    show OwnGo _ _ _ _ _ _ _ (T62.setTop (mkF m 100 #[.val (.int p0), .val (.int p1), .val (.int p2), .val (.int p3), .val (.int p4), .val (.int (5 : Int32)), .val (.int cb1), .val (.int cb2), .val (.int cb3), .val (.ref b52), .unset] []))
    have V62 : Arv Z h62 b52 k52 .byte (5 : Int32) [(.int cb1), (.int cb2), (.int cb3), (.int ((p4.toInt8.toInt32).toInt8.toInt32)), (.int (((p4 >>> ((8 : Int32) &&& 31)).toInt8.toInt32).toInt8.toInt32))] (.int (0 : Int32)) := by
      have q := Arv.set Ara61 qa61 Sa61 Pa61 Ha61 Ga61 (fits_nar_byte _) W62 4 rfl (Nat.le_of_ble_eq_true rfl)
      exact q
    refine ownStep (fun _ k => XS.iload X62.here hx rfl (hb hby at_100) rfl k) ?_
    show OwnGo _ _ _ _ _ _ _ (T62.setTop (mkF m 102 #[.val (.int p0), .val (.int p1), .val (.int p2), .val (.int p3), .val (.int p4), .val (.int (5 : Int32)), .val (.int cb1), .val (.int cb2), .val (.int cb3), .val (.ref b52), .unset] [(.int (5 : Int32))]))
    refine ownStep (fun _ k => XS.iconst X62.here hx rfl (hb hby at_102) k) ?_
    show OwnGo _ _ _ _ _ _ _ (T62.setTop (mkF m 103 #[.val (.int p0), .val (.int p1), .val (.int p2), .val (.int p3), .val (.int p4), .val (.int (5 : Int32)), .val (.int cb1), .val (.int cb2), .val (.int cb3), .val (.ref b52), .unset] [(.int (5 : Int32)), (.int (5 : Int32))]))
    refine ownStep (fun _ k => XS.icmpYes X62.here hx rfl (pc0 := 103) (pc' := 116) rfl (hb hby at_103) rfl (flt (by decide : ¬ ((5 : Int32) < (5 : Int32)))).2.2.2 (by decide) (by decide) k) ?_
    show OwnGo _ _ _ _ _ _ _ (T62.setTop (mkF m 116 #[.val (.int p0), .val (.int p1), .val (.int p2), .val (.int p3), .val (.int p4), .val (.int (5 : Int32)), .val (.int cb1), .val (.int cb2), .val (.int cb3), .val (.ref b52), .unset] []))
    refine ownStep (fun _ k => XS.iload X62.here hx rfl (hb hby at_116) rfl k) ?_
    show OwnGo _ _ _ _ _ _ _ (T62.setTop (mkF m 118 #[.val (.int p0), .val (.int p1), .val (.int p2), .val (.int p3), .val (.int p4), .val (.int (5 : Int32)), .val (.int cb1), .val (.int cb2), .val (.int cb3), .val (.ref b52), .unset] [(.int (5 : Int32))]))
    refine ownStep (fun _ k => XS.bipush X62.here hx rfl (hb hby at_118) k) ?_
    show OwnGo _ _ _ _ _ _ _ (T62.setTop (mkF m 120 #[.val (.int p0), .val (.int p1), .val (.int p2), .val (.int p3), .val (.int p4), .val (.int (5 : Int32)), .val (.int cb1), .val (.int cb2), .val (.int cb3), .val (.ref b52), .unset] [(.int (6 : Int32)), (.int (5 : Int32))]))
    refine ownStep (fun _ k => XS.icmpYes X62.here hx rfl (pc0 := 120) (pc' := 134) rfl (hb hby at_120) rfl (flt (by decide : ¬ ((6 : Int32) < (5 : Int32)))).2.2.2 (by decide) (by decide) k) ?_
    show OwnGo _ _ _ _ _ _ _ (T62.setTop (mkF m 134 #[.val (.int p0), .val (.int p1), .val (.int p2), .val (.int p3), .val (.int p4), .val (.int (5 : Int32)), .val (.int cb1), .val (.int cb2), .val (.int cb3), .val (.ref b52), .unset] []))
    refine ownStep (fun _ k => XS.iload X62.here hx rfl (hb hby at_134) rfl k) ?_
    show OwnGo _ _ _ _ _ _ _ (T62.setTop (mkF m 136 #[.val (.int p0), .val (.int p1), .val (.int p2), .val (.int p3), .val (.int p4), .val (.int (5 : Int32)), .val (.int cb1), .val (.int cb2), .val (.int cb3), .val (.ref b52), .unset] [(.int (5 : Int32))]))
    refine ownStep (fun _ k => XS.iconst X62.here hx rfl (hb hby at_136) k) ?_
    show OwnGo _ _ _ _ _ _ _ (T62.setTop (mkF m 137 #[.val (.int p0), .val (.int p1), .val (.int p2), .val (.int p3), .val (.int p4), .val (.int (5 : Int32)), .val (.int cb1), .val (.int cb2), .val (.int cb3), .val (.ref b52), .unset] [(.int (3 : Int32)), (.int (5 : Int32))]))
    refine ownStep (fun _ k => XS.icmpNo X62.here hx rfl (hb hby at_137) rfl (flt (by decide : ¬ ((5 : Int32) < (3 : Int32)))).1 k) ?_
    show OwnGo _ _ _ _ _ _ _ (T62.setTop (mkF m 140 #[.val (.int p0), .val (.int p1), .val (.int p2), .val (.int p3), .val (.int p4), .val (.int (5 : Int32)), .val (.int cb1), .val (.int cb2), .val (.int cb3), .val (.ref b52), .unset] []))
    refine ownStep (fun _ k => XS.iload X62.here hx rfl (hb hby at_140) rfl k) ?_
    show OwnGo _ _ _ _ _ _ _ (T62.setTop (mkF m 142 #[.val (.int p0), .val (.int p1), .val (.int p2), .val (.int p3), .val (.int p4), .val (.int (5 : Int32)), .val (.int cb1), .val (.int cb2), .val (.int cb3), .val (.ref b52), .unset] [(.int cb1)]))
    refine ownStep (fun _ k => XS.bipush X62.here hx rfl (hb hby at_142) k) ?_
    show OwnGo _ _ _ _ _ _ _ (T62.setTop (mkF m 144 #[.val (.int p0), .val (.int p1), .val (.int p2), .val (.int p3), .val (.int p4), .val (.int (5 : Int32)), .val (.int cb1), .val (.int cb2), .val (.int cb3), .val (.ref b52), .unset] [(.int (56 : Int32)), (.int cb1)]))
    by_cases t0 : cb1 = (56 : Int32)
    · skip
      refine ownStep (fun _ k => XS.icmpNo X62.here hx rfl (hb hby at_144) rfl (teq t0).2 k) ?_
      show OwnGo _ _ _ _ _ _ _ (T62.setTop (mkF m 147 #[.val (.int p0), .val (.int p1), .val (.int p2), .val (.int p3), .val (.int p4), .val (.int (5 : Int32)), .val (.int cb1), .val (.int cb2), .val (.int cb3), .val (.ref b52), .unset] []))
      refine ownStep (fun _ k => XS.iload X62.here hx rfl (hb hby at_147) rfl k) ?_
      show OwnGo _ _ _ _ _ _ _ (T62.setTop (mkF m 149 #[.val (.int p0), .val (.int p1), .val (.int p2), .val (.int p3), .val (.int p4), .val (.int (5 : Int32)), .val (.int cb1), .val (.int cb2), .val (.int cb3), .val (.ref b52), .unset] [(.int cb2)]))
      refine ownStep (fun _ k => XS.bipush X62.here hx rfl (hb hby at_149) k) ?_
      show OwnGo _ _ _ _ _ _ _ (T62.setTop (mkF m 151 #[.val (.int p0), .val (.int p1), .val (.int p2), .val (.int p3), .val (.int p4), .val (.int (5 : Int32)), .val (.int cb1), .val (.int cb2), .val (.int cb3), .val (.ref b52), .unset] [(.int (56 : Int32)), (.int cb2)]))
      by_cases t1 : cb2 = (56 : Int32)
      · skip
        refine ownStep (fun _ k => XS.icmpNo X62.here hx rfl (hb hby at_151) rfl (teq t1).2 k) ?_
        show OwnGo _ _ _ _ _ _ _ (T62.setTop (mkF m 154 #[.val (.int p0), .val (.int p1), .val (.int p2), .val (.int p3), .val (.int p4), .val (.int (5 : Int32)), .val (.int cb1), .val (.int cb2), .val (.int cb3), .val (.ref b52), .unset] []))
        refine ownStep (fun _ k => XS.iload X62.here hx rfl (hb hby at_154) rfl k) ?_
        show OwnGo _ _ _ _ _ _ _ (T62.setTop (mkF m 156 #[.val (.int p0), .val (.int p1), .val (.int p2), .val (.int p3), .val (.int p4), .val (.int (5 : Int32)), .val (.int cb1), .val (.int cb2), .val (.int cb3), .val (.ref b52), .unset] [(.int cb3)]))
        refine ownStep (fun _ k => XS.bipush X62.here hx rfl (hb hby at_156) k) ?_
        show OwnGo _ _ _ _ _ _ _ (T62.setTop (mkF m 158 #[.val (.int p0), .val (.int p1), .val (.int p2), .val (.int p3), .val (.int p4), .val (.int (5 : Int32)), .val (.int cb1), .val (.int cb2), .val (.int cb3), .val (.ref b52), .unset] [(.int (44 : Int32)), (.int cb3)]))
        by_cases t2 : cb3 = (44 : Int32)
        · skip
          refine ownStep (fun _ k => XS.icmpNo X62.here hx rfl (hb hby at_158) rfl (teq t2).2 k) ?_
          show OwnGo _ _ _ _ _ _ _ (T62.setTop (mkF m 161 #[.val (.int p0), .val (.int p1), .val (.int p2), .val (.int p3), .val (.int p4), .val (.int (5 : Int32)), .val (.int cb1), .val (.int cb2), .val (.int cb3), .val (.ref b52), .unset] []))
          refine ownStep (fun _ k => XS.iconst X62.here hx rfl (hb hby at_161) k) ?_
          show OwnGo _ _ _ _ _ _ _ (T62.setTop (mkF m 162 #[.val (.int p0), .val (.int p1), .val (.int p2), .val (.int p3), .val (.int p4), .val (.int (5 : Int32)), .val (.int cb1), .val (.int cb2), .val (.int cb3), .val (.ref b52), .unset] [(.int (1 : Int32))]))
          refine ownStep (fun _ k => XS.goto X62.here hx rfl (pc0 := 162) (pc' := 166) rfl (hb hby at_162) (by decide) (by decide) k) ?_
          show OwnGo _ _ _ _ _ _ _ (T62.setTop (mkF m 166 #[.val (.int p0), .val (.int p1), .val (.int p2), .val (.int p3), .val (.int p4), .val (.int (5 : Int32)), .val (.int cb1), .val (.int cb2), .val (.int cb3), .val (.ref b52), .unset] [(.int (1 : Int32))]))
          refine ownStep (fun _ k => XS.istore X62.here hx rfl (hb hby at_166) rfl (l' := #[.val (.int p0), .val (.int p1), .val (.int p2), .val (.int p3), .val (.int p4), .val (.int (5 : Int32)), .val (.int cb1), .val (.int cb2), .val (.int cb3), .val (.ref b52), .val (.int (1 : Int32))]) rfl k) ?_
          show OwnGo _ _ _ _ _ _ _ (T62.setTop (mkF m 168 #[.val (.int p0), .val (.int p1), .val (.int p2), .val (.int p3), .val (.int p4), .val (.int (5 : Int32)), .val (.int cb1), .val (.int cb2), .val (.int cb3), .val (.ref b52), .val (.int (1 : Int32))] []))
          refine ownStep (fun _ k => XS.aload X62.here hx rfl (hb hby at_168) rfl rfl k) ?_
          show OwnGo _ _ _ _ _ _ _ (T62.setTop (mkF m 170 #[.val (.int p0), .val (.int p1), .val (.int p2), .val (.int p3), .val (.int p4), .val (.int (5 : Int32)), .val (.int cb1), .val (.int cb2), .val (.int cb3), .val (.ref b52), .val (.int (1 : Int32))] [(.ref b52)]))
          obtain ⟨_, _, ⟨T63, L63, k63, n63⟩, -, X63, ⟨Lc63, hQ63, l63, y63, z63⟩, st63⟩ := Jvm.LawKit.callS X62 hx (y := (⟨"com/example/counterfoil/counterfoil/io/bai2/Fields", "isContinuation", "([B)Z"⟩ : MethodName)) hown (mvT hZ (hw _ (List.mem_of_getElem? (i := 5) rfl))) (mvT hZ (hw _ (List.mem_of_getElem? (i := 6) rfl))) (mvT hZ (hw _ (List.mem_of_getElem? (i := 7) rfl))) (mvT hZ (hw _ (List.mem_of_getElem? (i := 8) rfl))) (by decide) (backOf (W := 0) (rm2 l Z a0 hw [] b52 k52 (5 : Int32) _ cb1 cb2 cb3 wC kC (1 : Int32) h62 n0 O62 SC VC V62 (by decide) (by decide) (by decide) (by decide) rfl rfl rfl (if_pos ⟨t0, t1, t2⟩)) hZ (hw _ (List.mem_of_getElem? (i := 8) rfl)) (hw _ (List.mem_of_getElem? (i := 7) rfl)) (by decide) (by decide)) (g := (mkF m 170 #[.val (.int p0), .val (.int p1), .val (.int p2), .val (.int p3), .val (.int p4), .val (.int (5 : Int32)), .val (.int cb1), .val (.int cb2), .val (.int cb3), .val (.ref b52), .val (.int (1 : Int32))] [(.ref b52)])) rfl (by rw [hml]; rfl) (argsL := [(.ref b52)]) (rest := []) (lenOf own_pd1 rfl) rfl (by show 2 * 0 + _ ≤ _; exact Nat.le_of_eq rfl) (hb hby at_170) (fun _ _ => ⟨rfl, e62, (by decide : 0 + 1 + 0 ≤ _), (by decide : 0 + 5 + 0 ≤ _)⟩)
          dsimp only [Pt.U, Pt.locs, Pt.cells, Pt.slots] at X63 l63 y63 z63 st63 hQ63
          subst l63 y63 z63
          obtain ⟨rfl, N63q, e63⟩ := hQ63
          have N63 := Fr.app N62 N63q
          refine ownStep st63 ?_
          show OwnGo _ _ _ _ _ _ _ (T63.setTop (mkF m 173 #[.val (.int p0), .val (.int p1), .val (.int p2), .val (.int p3), .val (.int p4), .val (.int (5 : Int32)), .val (.int cb1), .val (.int cb2), .val (.int cb3), .val (.ref b52), .val (.int (1 : Int32))] [(.int (1 : Int32))]))
          refine ownStep (fun _ k => XS.iload X63.here hx rfl (hb hby at_173) rfl k) ?_
          show OwnGo _ _ _ _ _ _ _ (T63.setTop (mkF m 175 #[.val (.int p0), .val (.int p1), .val (.int p2), .val (.int p3), .val (.int p4), .val (.int (5 : Int32)), .val (.int cb1), .val (.int cb2), .val (.int cb3), .val (.ref b52), .val (.int (1 : Int32))] [(.int (1 : Int32)), (.int (1 : Int32))]))
          refine ownStep (fun _ k => XS.icmpNo X63.here hx rfl (hb hby at_175) rfl (teq (by decide : (1 : Int32) = (1 : Int32))).2 k) ?_
          show OwnGo _ _ _ _ _ _ _ (T63.setTop (mkF m 178 #[.val (.int p0), .val (.int p1), .val (.int p2), .val (.int p3), .val (.int p4), .val (.int (5 : Int32)), .val (.int cb1), .val (.int cb2), .val (.int cb3), .val (.ref b52), .val (.int (1 : Int32))] []))
          refine ownStep (fun _ k => XS.iconst X63.here hx rfl (hb hby at_178) k) ?_
          show OwnGo _ _ _ _ _ _ _ (T63.setTop (mkF m 179 #[.val (.int p0), .val (.int p1), .val (.int p2), .val (.int p3), .val (.int p4), .val (.int (5 : Int32)), .val (.int cb1), .val (.int cb2), .val (.int cb3), .val (.ref b52), .val (.int (1 : Int32))] [(.int (1 : Int32))]))
          refine ownStep (fun _ k => XS.goto X63.here hx rfl (pc0 := 179) (pc' := 183) rfl (hb hby at_179) (by decide) (by decide) k) ?_
          show OwnGo _ _ _ _ _ _ _ (T63.setTop (mkF m 183 #[.val (.int p0), .val (.int p1), .val (.int p2), .val (.int p3), .val (.int p4), .val (.int (5 : Int32)), .val (.int cb1), .val (.int cb2), .val (.int cb3), .val (.ref b52), .val (.int (1 : Int32))] [(.int (1 : Int32))]))
          have eq183 : T63.heap = h62 := e63
          exact ownRetN X63 hx (t := .boolean) Bd.returns (by simp) (hb hby at_183) (BodyLoose.notSynchronized Bd) (by decide) (by decide) (by rw [eq183]; exact ⟨rfl, N63⟩)
        · skip
          refine ownStep (fun _ k => XS.icmpYes X62.here hx rfl (pc0 := 158) (pc' := 165) rfl (hb hby at_158) rfl (feq t2).2 (by decide) (by decide) k) ?_
          show OwnGo _ _ _ _ _ _ _ (T62.setTop (mkF m 165 #[.val (.int p0), .val (.int p1), .val (.int p2), .val (.int p3), .val (.int p4), .val (.int (5 : Int32)), .val (.int cb1), .val (.int cb2), .val (.int cb3), .val (.ref b52), .unset] []))
          refine ownStep (fun _ k => XS.iconst X62.here hx rfl (hb hby at_165) k) ?_
          show OwnGo _ _ _ _ _ _ _ (T62.setTop (mkF m 166 #[.val (.int p0), .val (.int p1), .val (.int p2), .val (.int p3), .val (.int p4), .val (.int (5 : Int32)), .val (.int cb1), .val (.int cb2), .val (.int cb3), .val (.ref b52), .unset] [(.int (0 : Int32))]))
          refine ownStep (fun _ k => XS.istore X62.here hx rfl (hb hby at_166) rfl (l' := #[.val (.int p0), .val (.int p1), .val (.int p2), .val (.int p3), .val (.int p4), .val (.int (5 : Int32)), .val (.int cb1), .val (.int cb2), .val (.int cb3), .val (.ref b52), .val (.int (0 : Int32))]) rfl k) ?_
          show OwnGo _ _ _ _ _ _ _ (T62.setTop (mkF m 168 #[.val (.int p0), .val (.int p1), .val (.int p2), .val (.int p3), .val (.int p4), .val (.int (5 : Int32)), .val (.int cb1), .val (.int cb2), .val (.int cb3), .val (.ref b52), .val (.int (0 : Int32))] []))
          refine ownStep (fun _ k => XS.aload X62.here hx rfl (hb hby at_168) rfl rfl k) ?_
          show OwnGo _ _ _ _ _ _ _ (T62.setTop (mkF m 170 #[.val (.int p0), .val (.int p1), .val (.int p2), .val (.int p3), .val (.int p4), .val (.int (5 : Int32)), .val (.int cb1), .val (.int cb2), .val (.int cb3), .val (.ref b52), .val (.int (0 : Int32))] [(.ref b52)]))
          obtain ⟨_, _, ⟨T64, L64, k64, n64⟩, -, X64, ⟨Lc64, hQ64, l64, y64, z64⟩, st64⟩ := Jvm.LawKit.callS X62 hx (y := (⟨"com/example/counterfoil/counterfoil/io/bai2/Fields", "isContinuation", "([B)Z"⟩ : MethodName)) hown (mvT hZ (hw _ (List.mem_of_getElem? (i := 5) rfl))) (mvT hZ (hw _ (List.mem_of_getElem? (i := 6) rfl))) (mvT hZ (hw _ (List.mem_of_getElem? (i := 7) rfl))) (mvT hZ (hw _ (List.mem_of_getElem? (i := 8) rfl))) (by decide) (backOf (W := 0) (rm2 l Z a0 hw [] b52 k52 (5 : Int32) _ cb1 cb2 cb3 wC kC (0 : Int32) h62 n0 O62 SC VC V62 (by decide) (by decide) (by decide) (by decide) rfl rfl rfl (if_neg (fun q => t2 q.2.2))) hZ (hw _ (List.mem_of_getElem? (i := 8) rfl)) (hw _ (List.mem_of_getElem? (i := 7) rfl)) (by decide) (by decide)) (g := (mkF m 170 #[.val (.int p0), .val (.int p1), .val (.int p2), .val (.int p3), .val (.int p4), .val (.int (5 : Int32)), .val (.int cb1), .val (.int cb2), .val (.int cb3), .val (.ref b52), .val (.int (0 : Int32))] [(.ref b52)])) rfl (by rw [hml]; rfl) (argsL := [(.ref b52)]) (rest := []) (lenOf own_pd1 rfl) rfl (by show 2 * 0 + _ ≤ _; exact Nat.le_of_eq rfl) (hb hby at_170) (fun _ _ => ⟨rfl, e62, (by decide : 0 + 1 + 0 ≤ _), (by decide : 0 + 5 + 0 ≤ _)⟩)
          dsimp only [Pt.U, Pt.locs, Pt.cells, Pt.slots] at X64 l64 y64 z64 st64 hQ64
          subst l64 y64 z64
          obtain ⟨rfl, N64q, e64⟩ := hQ64
          have N64 := Fr.app N62 N64q
          refine ownStep st64 ?_
          show OwnGo _ _ _ _ _ _ _ (T64.setTop (mkF m 173 #[.val (.int p0), .val (.int p1), .val (.int p2), .val (.int p3), .val (.int p4), .val (.int (5 : Int32)), .val (.int cb1), .val (.int cb2), .val (.int cb3), .val (.ref b52), .val (.int (0 : Int32))] [(.int (0 : Int32))]))
          refine ownStep (fun _ k => XS.iload X64.here hx rfl (hb hby at_173) rfl k) ?_
          show OwnGo _ _ _ _ _ _ _ (T64.setTop (mkF m 175 #[.val (.int p0), .val (.int p1), .val (.int p2), .val (.int p3), .val (.int p4), .val (.int (5 : Int32)), .val (.int cb1), .val (.int cb2), .val (.int cb3), .val (.ref b52), .val (.int (0 : Int32))] [(.int (0 : Int32)), (.int (0 : Int32))]))
          refine ownStep (fun _ k => XS.icmpNo X64.here hx rfl (hb hby at_175) rfl (teq (by decide : (0 : Int32) = (0 : Int32))).2 k) ?_
          show OwnGo _ _ _ _ _ _ _ (T64.setTop (mkF m 178 #[.val (.int p0), .val (.int p1), .val (.int p2), .val (.int p3), .val (.int p4), .val (.int (5 : Int32)), .val (.int cb1), .val (.int cb2), .val (.int cb3), .val (.ref b52), .val (.int (0 : Int32))] []))
          refine ownStep (fun _ k => XS.iconst X64.here hx rfl (hb hby at_178) k) ?_
          show OwnGo _ _ _ _ _ _ _ (T64.setTop (mkF m 179 #[.val (.int p0), .val (.int p1), .val (.int p2), .val (.int p3), .val (.int p4), .val (.int (5 : Int32)), .val (.int cb1), .val (.int cb2), .val (.int cb3), .val (.ref b52), .val (.int (0 : Int32))] [(.int (1 : Int32))]))
          refine ownStep (fun _ k => XS.goto X64.here hx rfl (pc0 := 179) (pc' := 183) rfl (hb hby at_179) (by decide) (by decide) k) ?_
          show OwnGo _ _ _ _ _ _ _ (T64.setTop (mkF m 183 #[.val (.int p0), .val (.int p1), .val (.int p2), .val (.int p3), .val (.int p4), .val (.int (5 : Int32)), .val (.int cb1), .val (.int cb2), .val (.int cb3), .val (.ref b52), .val (.int (0 : Int32))] [(.int (1 : Int32))]))
          have eq183 : T64.heap = h62 := e64
          exact ownRetN X64 hx (t := .boolean) Bd.returns (by simp) (hb hby at_183) (BodyLoose.notSynchronized Bd) (by decide) (by decide) (by rw [eq183]; exact ⟨rfl, N64⟩)
      · skip
        refine ownStep (fun _ k => XS.icmpYes X62.here hx rfl (pc0 := 151) (pc' := 165) rfl (hb hby at_151) rfl (feq t1).2 (by decide) (by decide) k) ?_
        show OwnGo _ _ _ _ _ _ _ (T62.setTop (mkF m 165 #[.val (.int p0), .val (.int p1), .val (.int p2), .val (.int p3), .val (.int p4), .val (.int (5 : Int32)), .val (.int cb1), .val (.int cb2), .val (.int cb3), .val (.ref b52), .unset] []))
        refine ownStep (fun _ k => XS.iconst X62.here hx rfl (hb hby at_165) k) ?_
        show OwnGo _ _ _ _ _ _ _ (T62.setTop (mkF m 166 #[.val (.int p0), .val (.int p1), .val (.int p2), .val (.int p3), .val (.int p4), .val (.int (5 : Int32)), .val (.int cb1), .val (.int cb2), .val (.int cb3), .val (.ref b52), .unset] [(.int (0 : Int32))]))
        refine ownStep (fun _ k => XS.istore X62.here hx rfl (hb hby at_166) rfl (l' := #[.val (.int p0), .val (.int p1), .val (.int p2), .val (.int p3), .val (.int p4), .val (.int (5 : Int32)), .val (.int cb1), .val (.int cb2), .val (.int cb3), .val (.ref b52), .val (.int (0 : Int32))]) rfl k) ?_
        show OwnGo _ _ _ _ _ _ _ (T62.setTop (mkF m 168 #[.val (.int p0), .val (.int p1), .val (.int p2), .val (.int p3), .val (.int p4), .val (.int (5 : Int32)), .val (.int cb1), .val (.int cb2), .val (.int cb3), .val (.ref b52), .val (.int (0 : Int32))] []))
        refine ownStep (fun _ k => XS.aload X62.here hx rfl (hb hby at_168) rfl rfl k) ?_
        show OwnGo _ _ _ _ _ _ _ (T62.setTop (mkF m 170 #[.val (.int p0), .val (.int p1), .val (.int p2), .val (.int p3), .val (.int p4), .val (.int (5 : Int32)), .val (.int cb1), .val (.int cb2), .val (.int cb3), .val (.ref b52), .val (.int (0 : Int32))] [(.ref b52)]))
        obtain ⟨_, _, ⟨T65, L65, k65, n65⟩, -, X65, ⟨Lc65, hQ65, l65, y65, z65⟩, st65⟩ := Jvm.LawKit.callS X62 hx (y := (⟨"com/example/counterfoil/counterfoil/io/bai2/Fields", "isContinuation", "([B)Z"⟩ : MethodName)) hown (mvT hZ (hw _ (List.mem_of_getElem? (i := 5) rfl))) (mvT hZ (hw _ (List.mem_of_getElem? (i := 6) rfl))) (mvT hZ (hw _ (List.mem_of_getElem? (i := 7) rfl))) (mvT hZ (hw _ (List.mem_of_getElem? (i := 8) rfl))) (by decide) (backOf (W := 0) (rm2 l Z a0 hw [] b52 k52 (5 : Int32) _ cb1 cb2 cb3 wC kC (0 : Int32) h62 n0 O62 SC VC V62 (by decide) (by decide) (by decide) (by decide) rfl rfl rfl (if_neg (fun q => t1 q.2.1))) hZ (hw _ (List.mem_of_getElem? (i := 8) rfl)) (hw _ (List.mem_of_getElem? (i := 7) rfl)) (by decide) (by decide)) (g := (mkF m 170 #[.val (.int p0), .val (.int p1), .val (.int p2), .val (.int p3), .val (.int p4), .val (.int (5 : Int32)), .val (.int cb1), .val (.int cb2), .val (.int cb3), .val (.ref b52), .val (.int (0 : Int32))] [(.ref b52)])) rfl (by rw [hml]; rfl) (argsL := [(.ref b52)]) (rest := []) (lenOf own_pd1 rfl) rfl (by show 2 * 0 + _ ≤ _; exact Nat.le_of_eq rfl) (hb hby at_170) (fun _ _ => ⟨rfl, e62, (by decide : 0 + 1 + 0 ≤ _), (by decide : 0 + 5 + 0 ≤ _)⟩)
        dsimp only [Pt.U, Pt.locs, Pt.cells, Pt.slots] at X65 l65 y65 z65 st65 hQ65
        subst l65 y65 z65
        obtain ⟨rfl, N65q, e65⟩ := hQ65
        have N65 := Fr.app N62 N65q
        refine ownStep st65 ?_
        show OwnGo _ _ _ _ _ _ _ (T65.setTop (mkF m 173 #[.val (.int p0), .val (.int p1), .val (.int p2), .val (.int p3), .val (.int p4), .val (.int (5 : Int32)), .val (.int cb1), .val (.int cb2), .val (.int cb3), .val (.ref b52), .val (.int (0 : Int32))] [(.int (0 : Int32))]))
        refine ownStep (fun _ k => XS.iload X65.here hx rfl (hb hby at_173) rfl k) ?_
        show OwnGo _ _ _ _ _ _ _ (T65.setTop (mkF m 175 #[.val (.int p0), .val (.int p1), .val (.int p2), .val (.int p3), .val (.int p4), .val (.int (5 : Int32)), .val (.int cb1), .val (.int cb2), .val (.int cb3), .val (.ref b52), .val (.int (0 : Int32))] [(.int (0 : Int32)), (.int (0 : Int32))]))
        refine ownStep (fun _ k => XS.icmpNo X65.here hx rfl (hb hby at_175) rfl (teq (by decide : (0 : Int32) = (0 : Int32))).2 k) ?_
        show OwnGo _ _ _ _ _ _ _ (T65.setTop (mkF m 178 #[.val (.int p0), .val (.int p1), .val (.int p2), .val (.int p3), .val (.int p4), .val (.int (5 : Int32)), .val (.int cb1), .val (.int cb2), .val (.int cb3), .val (.ref b52), .val (.int (0 : Int32))] []))
        refine ownStep (fun _ k => XS.iconst X65.here hx rfl (hb hby at_178) k) ?_
        show OwnGo _ _ _ _ _ _ _ (T65.setTop (mkF m 179 #[.val (.int p0), .val (.int p1), .val (.int p2), .val (.int p3), .val (.int p4), .val (.int (5 : Int32)), .val (.int cb1), .val (.int cb2), .val (.int cb3), .val (.ref b52), .val (.int (0 : Int32))] [(.int (1 : Int32))]))
        refine ownStep (fun _ k => XS.goto X65.here hx rfl (pc0 := 179) (pc' := 183) rfl (hb hby at_179) (by decide) (by decide) k) ?_
        show OwnGo _ _ _ _ _ _ _ (T65.setTop (mkF m 183 #[.val (.int p0), .val (.int p1), .val (.int p2), .val (.int p3), .val (.int p4), .val (.int (5 : Int32)), .val (.int cb1), .val (.int cb2), .val (.int cb3), .val (.ref b52), .val (.int (0 : Int32))] [(.int (1 : Int32))]))
        have eq183 : T65.heap = h62 := e65
        exact ownRetN X65 hx (t := .boolean) Bd.returns (by simp) (hb hby at_183) (BodyLoose.notSynchronized Bd) (by decide) (by decide) (by rw [eq183]; exact ⟨rfl, N65⟩)
    · skip
      refine ownStep (fun _ k => XS.icmpYes X62.here hx rfl (pc0 := 144) (pc' := 165) rfl (hb hby at_144) rfl (feq t0).2 (by decide) (by decide) k) ?_
      show OwnGo _ _ _ _ _ _ _ (T62.setTop (mkF m 165 #[.val (.int p0), .val (.int p1), .val (.int p2), .val (.int p3), .val (.int p4), .val (.int (5 : Int32)), .val (.int cb1), .val (.int cb2), .val (.int cb3), .val (.ref b52), .unset] []))
      refine ownStep (fun _ k => XS.iconst X62.here hx rfl (hb hby at_165) k) ?_
      show OwnGo _ _ _ _ _ _ _ (T62.setTop (mkF m 166 #[.val (.int p0), .val (.int p1), .val (.int p2), .val (.int p3), .val (.int p4), .val (.int (5 : Int32)), .val (.int cb1), .val (.int cb2), .val (.int cb3), .val (.ref b52), .unset] [(.int (0 : Int32))]))
      refine ownStep (fun _ k => XS.istore X62.here hx rfl (hb hby at_166) rfl (l' := #[.val (.int p0), .val (.int p1), .val (.int p2), .val (.int p3), .val (.int p4), .val (.int (5 : Int32)), .val (.int cb1), .val (.int cb2), .val (.int cb3), .val (.ref b52), .val (.int (0 : Int32))]) rfl k) ?_
      show OwnGo _ _ _ _ _ _ _ (T62.setTop (mkF m 168 #[.val (.int p0), .val (.int p1), .val (.int p2), .val (.int p3), .val (.int p4), .val (.int (5 : Int32)), .val (.int cb1), .val (.int cb2), .val (.int cb3), .val (.ref b52), .val (.int (0 : Int32))] []))
      refine ownStep (fun _ k => XS.aload X62.here hx rfl (hb hby at_168) rfl rfl k) ?_
      show OwnGo _ _ _ _ _ _ _ (T62.setTop (mkF m 170 #[.val (.int p0), .val (.int p1), .val (.int p2), .val (.int p3), .val (.int p4), .val (.int (5 : Int32)), .val (.int cb1), .val (.int cb2), .val (.int cb3), .val (.ref b52), .val (.int (0 : Int32))] [(.ref b52)]))
      obtain ⟨_, _, ⟨T66, L66, k66, n66⟩, -, X66, ⟨Lc66, hQ66, l66, y66, z66⟩, st66⟩ := Jvm.LawKit.callS X62 hx (y := (⟨"com/example/counterfoil/counterfoil/io/bai2/Fields", "isContinuation", "([B)Z"⟩ : MethodName)) hown (mvT hZ (hw _ (List.mem_of_getElem? (i := 5) rfl))) (mvT hZ (hw _ (List.mem_of_getElem? (i := 6) rfl))) (mvT hZ (hw _ (List.mem_of_getElem? (i := 7) rfl))) (mvT hZ (hw _ (List.mem_of_getElem? (i := 8) rfl))) (by decide) (backOf (W := 0) (rm2 l Z a0 hw [] b52 k52 (5 : Int32) _ cb1 cb2 cb3 wC kC (0 : Int32) h62 n0 O62 SC VC V62 (by decide) (by decide) (by decide) (by decide) rfl rfl rfl (if_neg (fun q => t0 q.1))) hZ (hw _ (List.mem_of_getElem? (i := 8) rfl)) (hw _ (List.mem_of_getElem? (i := 7) rfl)) (by decide) (by decide)) (g := (mkF m 170 #[.val (.int p0), .val (.int p1), .val (.int p2), .val (.int p3), .val (.int p4), .val (.int (5 : Int32)), .val (.int cb1), .val (.int cb2), .val (.int cb3), .val (.ref b52), .val (.int (0 : Int32))] [(.ref b52)])) rfl (by rw [hml]; rfl) (argsL := [(.ref b52)]) (rest := []) (lenOf own_pd1 rfl) rfl (by show 2 * 0 + _ ≤ _; exact Nat.le_of_eq rfl) (hb hby at_170) (fun _ _ => ⟨rfl, e62, (by decide : 0 + 1 + 0 ≤ _), (by decide : 0 + 5 + 0 ≤ _)⟩)
      dsimp only [Pt.U, Pt.locs, Pt.cells, Pt.slots] at X66 l66 y66 z66 st66 hQ66
      subst l66 y66 z66
      obtain ⟨rfl, N66q, e66⟩ := hQ66
      have N66 := Fr.app N62 N66q
      refine ownStep st66 ?_
      show OwnGo _ _ _ _ _ _ _ (T66.setTop (mkF m 173 #[.val (.int p0), .val (.int p1), .val (.int p2), .val (.int p3), .val (.int p4), .val (.int (5 : Int32)), .val (.int cb1), .val (.int cb2), .val (.int cb3), .val (.ref b52), .val (.int (0 : Int32))] [(.int (0 : Int32))]))
      refine ownStep (fun _ k => XS.iload X66.here hx rfl (hb hby at_173) rfl k) ?_
      show OwnGo _ _ _ _ _ _ _ (T66.setTop (mkF m 175 #[.val (.int p0), .val (.int p1), .val (.int p2), .val (.int p3), .val (.int p4), .val (.int (5 : Int32)), .val (.int cb1), .val (.int cb2), .val (.int cb3), .val (.ref b52), .val (.int (0 : Int32))] [(.int (0 : Int32)), (.int (0 : Int32))]))
      refine ownStep (fun _ k => XS.icmpNo X66.here hx rfl (hb hby at_175) rfl (teq (by decide : (0 : Int32) = (0 : Int32))).2 k) ?_
      show OwnGo _ _ _ _ _ _ _ (T66.setTop (mkF m 178 #[.val (.int p0), .val (.int p1), .val (.int p2), .val (.int p3), .val (.int p4), .val (.int (5 : Int32)), .val (.int cb1), .val (.int cb2), .val (.int cb3), .val (.ref b52), .val (.int (0 : Int32))] []))
      refine ownStep (fun _ k => XS.iconst X66.here hx rfl (hb hby at_178) k) ?_
      show OwnGo _ _ _ _ _ _ _ (T66.setTop (mkF m 179 #[.val (.int p0), .val (.int p1), .val (.int p2), .val (.int p3), .val (.int p4), .val (.int (5 : Int32)), .val (.int cb1), .val (.int cb2), .val (.int cb3), .val (.ref b52), .val (.int (0 : Int32))] [(.int (1 : Int32))]))
      refine ownStep (fun _ k => XS.goto X66.here hx rfl (pc0 := 179) (pc' := 183) rfl (hb hby at_179) (by decide) (by decide) k) ?_
      show OwnGo _ _ _ _ _ _ _ (T66.setTop (mkF m 183 #[.val (.int p0), .val (.int p1), .val (.int p2), .val (.int p3), .val (.int p4), .val (.int (5 : Int32)), .val (.int cb1), .val (.int cb2), .val (.int cb3), .val (.ref b52), .val (.int (0 : Int32))] [(.int (1 : Int32))]))
      have eq183 : T66.heap = h62 := e66
      exact ownRetN X66 hx (t := .boolean) Bd.returns (by simp) (hb hby at_183) (BodyLoose.notSynchronized Bd) (by decide) (by decide) (by rw [eq183]; exact ⟨rfl, N66⟩)
  · rw [hk]
    show OwnGo _ _ _ _ _ _ _ (T15.setTop (mkF m 32 #[.val (.int p0), .val (.int p1), .val (.int p2), .val (.int p3), .val (.int p4), .val (.int (6 : Int32)), .val (.int cb1), .val (.int cb2), .val (.int cb3), .unset, .unset] [(.int (6 : Int32))]))
    obtain ⟨T67, h67, k67, X67, e67, E67, A67, st67⟩ := newP X15 hx hZ (hw _ (List.mem_of_getElem? (i := 4) rfl)) e15 (g := (mkF m 32 #[.val (.int p0), .val (.int p1), .val (.int p2), .val (.int p3), .val (.int p4), .val (.int (6 : Int32)), .val (.int cb1), .val (.int cb2), .val (.int cb3), .unset, .unset] [(.int (6 : Int32))])) rfl (hb hby at_32) rfl (by decide) (cap := 6) (by decide) (by decide) (by decide) (by decide)
    obtain ⟨b67, g67⟩ : ∃ z, z = h0.size := ⟨_, rfl⟩
    rw [← g67] at A67 st67
    refine ownStep st67 ?_
    have ge67 : n0 ≤ b67 := by rw [g67]; exact Nat.le_trans (Nat.le_of_eq O0.1.symm) O0.2.1
    have O67 := O0.ext E67
    show OwnGo _ _ _ _ _ _ _ (T67.setTop (mkF m 34 #[.val (.int p0), .val (.int p1), .val (.int p2), .val (.int p3), .val (.int p4), .val (.int (6 : Int32)), .val (.int cb1), .val (.int cb2), .val (.int cb3), .unset, .unset] [(.ref b67)]))
    have V67 : Arv Z h67 b67 k67 .byte (6 : Int32) [(.int (0 : Int32)), (.int (0 : Int32)), (.int (0 : Int32)), (.int (0 : Int32)), (.int (0 : Int32)), (.int (0 : Int32))] (.int (0 : Int32)) := (Arv.new A67 (by decide)).pad (pad_rep [] (.int (0 : Int32)) 6)
    refine ownStep (fun _ k => XS.astore X67.here hx rfl (hb hby at_34) rfl rfl (l' := #[.val (.int p0), .val (.int p1), .val (.int p2), .val (.int p3), .val (.int p4), .val (.int (6 : Int32)), .val (.int cb1), .val (.int cb2), .val (.int cb3), .val (.ref b67), .unset]) rfl k) ?_
    show OwnGo _ _ _ _ _ _ _ (T67.setTop (mkF m 36 #[.val (.int p0), .val (.int p1), .val (.int p2), .val (.int p3), .val (.int p4), .val (.int (6 : Int32)), .val (.int cb1), .val (.int cb2), .val (.int cb3), .val (.ref b67), .unset] []))
    refine ownStep (fun _ k => XS.iload X67.here hx rfl (hb hby at_36) rfl k) ?_
    show OwnGo _ _ _ _ _ _ _ (T67.setTop (mkF m 38 #[.val (.int p0), .val (.int p1), .val (.int p2), .val (.int p3), .val (.int p4), .val (.int (6 : Int32)), .val (.int cb1), .val (.int cb2), .val (.int cb3), .val (.ref b67), .unset] [(.int (6 : Int32))]))
    refine ownStep (fun _ k => XS.ifNo X67.here hx rfl (hb hby at_38) rfl ((if0 _ _).trans (tlt (by decide : (0 : Int32) < (6 : Int32))).2.2.2) k) ?_
    show OwnGo _ _ _ _ _ _ _ (T67.setTop (mkF m 41 #[.val (.int p0), .val (.int p1), .val (.int p2), .val (.int p3), .val (.int p4), .val (.int (6 : Int32)), .val (.int cb1), .val (.int cb2), .val (.int cb3), .val (.ref b67), .unset] []))
    refine ownStep (fun _ k => XS.aload X67.here hx rfl (hb hby at_41) rfl rfl k) ?_
    show OwnGo _ _ _ _ _ _ _ (T67.setTop (mkF m 43 #[.val (.int p0), .val (.int p1), .val (.int p2), .val (.int p3), .val (.int p4), .val (.int (6 : Int32)), .val (.int cb1), .val (.int cb2), .val (.int cb3), .val (.ref b67), .unset] [(.ref b67)]))
    refine ownStep (fun _ k => XS.iconst X67.here hx rfl (hb hby at_43) k) ?_
    show OwnGo _ _ _ _ _ _ _ (T67.setTop (mkF m 44 #[.val (.int p0), .val (.int p1), .val (.int p2), .val (.int p3), .val (.int p4), .val (.int (6 : Int32)), .val (.int cb1), .val (.int cb2), .val (.int cb3), .val (.ref b67), .unset] [(.int (0 : Int32)), (.ref b67)]))
    refine ownStep (fun _ k => XS.iload X67.here hx rfl (hb hby at_44) rfl k) ?_
    show OwnGo _ _ _ _ _ _ _ (T67.setTop (mkF m 46 #[.val (.int p0), .val (.int p1), .val (.int p2), .val (.int p3), .val (.int p4), .val (.int (6 : Int32)), .val (.int cb1), .val (.int cb2), .val (.int cb3), .val (.ref b67), .unset] [(.int cb1), (.int (0 : Int32)), (.ref b67)]))
    obtain ⟨cla68, Ara68, qa68, Sa68, Pa68, Ha68, Ga68⟩ := id V67
    have hina68 : ¬ ((0 : Int32) < 0 ∨ cla68.slots.size ≤ ((0 : Int32) : Int32).toNatClampNeg) := inb_of Sa68 ⟨by decide, by decide⟩
    obtain ⟨T69, h69, X69, e69, W69, st69⟩ := stB X67 hx hZ e67 Ara68 (j := (0 : Int32)) hina68 (g := (mkF m 46 #[.val (.int p0), .val (.int p1), .val (.int p2), .val (.int p3), .val (.int p4), .val (.int (6 : Int32)), .val (.int cb1), .val (.int cb2), .val (.int cb3), .val (.ref b67), .unset] [(.int cb1), (.int (0 : Int32)), (.ref b67)])) rfl rfl (hb hby at_46)
    refine ownStep st69 ?_
    have N69 := Fr.snoc X69 N15 ge67
    have O69 := O67.wr W69 ge67
    show OwnGo _ _ _ _ _ _ _ (T69.setTop (mkF m 47 #[.val (.int p0), .val (.int p1), .val (.int p2), .val (.int p3), .val (.int p4), .val (.int (6 : Int32)), .val (.int cb1), .val (.int cb2), .val (.int cb3), .val (.ref b67), .unset] []))
    have V69 : Arv Z h69 b67 k67 .byte (6 : Int32) [(.int cb1), (.int (0 : Int32)), (.int (0 : Int32)), (.int (0 : Int32)), (.int (0 : Int32)), (.int (0 : Int32))] (.int (0 : Int32)) := by
      have q := Arv.set Ara68 qa68 Sa68 Pa68 Ha68 Ga68 (fits_nar_byte _) W69 0 rfl (Nat.le_of_ble_eq_true rfl)
      rw [nb1] at q
      exact q
    refine ownStep (fun _ k => XS.iload X69.here hx rfl (hb hby at_47) rfl k) ?_
    show OwnGo _ _ _ _ _ _ _ (T69.setTop (mkF m 49 #[.val (.int p0), .val (.int p1), .val (.int p2), .val (.int p3), .val (.int p4), .val (.int (6 : Int32)), .val (.int cb1), .val (.int cb2), .val (.int cb3), .val (.ref b67), .unset] [(.int (6 : Int32))]))
    refine ownStep (fun _ k => XS.iconst X69.here hx rfl (hb hby at_49) k) ?_
    show OwnGo _ _ _ _ _ _ _ (T69.setTop (mkF m 50 #[.val (.int p0), .val (.int p1), .val (.int p2), .val (.int p3), .val (.int p4), .val (.int (6 : Int32)), .val (.int cb1), .val (.int cb2), .val (.int cb3), .val (.ref b67), .unset] [(.int (1 : Int32)), (.int (6 : Int32))]))
    refine ownStep (fun _ k => XS.icmpNo X69.here hx rfl (hb hby at_50) rfl (tlt (by decide : (1 : Int32) < (6 : Int32))).2.2.2 k) ?_
    show OwnGo _ _ _ _ _ _ _ (T69.setTop (mkF m 53 #[.val (.int p0), .val (.int p1), .val (.int p2), .val (.int p3), .val (.int p4), .val (.int (6 : Int32)), .val (.int cb1), .val (.int cb2), .val (.int cb3), .val (.ref b67), .unset] []))
    refine ownStep (fun _ k => XS.aload X69.here hx rfl (hb hby at_53) rfl rfl k) ?_
    show OwnGo _ _ _ _ _ _ _ (T69.setTop (mkF m 55 #[.val (.int p0), .val (.int p1), .val (.int p2), .val (.int p3), .val (.int p4), .val (.int (6 : Int32)), .val (.int cb1), .val (.int cb2), .val (.int cb3), .val (.ref b67), .unset] [(.ref b67)]))
    refine ownStep (fun _ k => XS.iconst X69.here hx rfl (hb hby at_55) k) ?_
    show OwnGo _ _ _ _ _ _ _ (T69.setTop (mkF m 56 #[.val (.int p0), .val (.int p1), .val (.int p2), .val (.int p3), .val (.int p4), .val (.int (6 : Int32)), .val (.int cb1), .val (.int cb2), .val (.int cb3), .val (.ref b67), .unset] [(.int (1 : Int32)), (.ref b67)]))
    refine ownStep (fun _ k => XS.iload X69.here hx rfl (hb hby at_56) rfl k) ?_
    show OwnGo _ _ _ _ _ _ _ (T69.setTop (mkF m 58 #[.val (.int p0), .val (.int p1), .val (.int p2), .val (.int p3), .val (.int p4), .val (.int (6 : Int32)), .val (.int cb1), .val (.int cb2), .val (.int cb3), .val (.ref b67), .unset] [(.int cb2), (.int (1 : Int32)), (.ref b67)]))
    obtain ⟨cla70, Ara70, qa70, Sa70, Pa70, Ha70, Ga70⟩ := id V69
    have hina70 : ¬ ((1 : Int32) < 0 ∨ cla70.slots.size ≤ ((1 : Int32) : Int32).toNatClampNeg) := inb_of Sa70 ⟨by decide, by decide⟩
    obtain ⟨T71, h71, X71, e71, W71, st71⟩ := stB X69 hx hZ e69 Ara70 (j := (1 : Int32)) hina70 (g := (mkF m 58 #[.val (.int p0), .val (.int p1), .val (.int p2), .val (.int p3), .val (.int p4), .val (.int (6 : Int32)), .val (.int cb1), .val (.int cb2), .val (.int cb3), .val (.ref b67), .unset] [(.int cb2), (.int (1 : Int32)), (.ref b67)])) rfl rfl (hb hby at_58)
    refine ownStep st71 ?_
    have N71 := Fr.snoc X71 N69 ge67
    have O71 := O69.wr W71 ge67
    show OwnGo _ _ _ _ _ _ _ (T71.setTop (mkF m 59 #[.val (.int p0), .val (.int p1), .val (.int p2), .val (.int p3), .val (.int p4), .val (.int (6 : Int32)), .val (.int cb1), .val (.int cb2), .val (.int cb3), .val (.ref b67), .unset] []))
    have V71 : Arv Z h71 b67 k67 .byte (6 : Int32) [(.int cb1), (.int cb2), (.int (0 : Int32)), (.int (0 : Int32)), (.int (0 : Int32)), (.int (0 : Int32))] (.int (0 : Int32)) := by
      have q := Arv.set Ara70 qa70 Sa70 Pa70 Ha70 Ga70 (fits_nar_byte _) W71 1 rfl (Nat.le_of_ble_eq_true rfl)
      rw [nb2] at q
      exact q
    refine ownStep (fun _ k => XS.iload X71.here hx rfl (hb hby at_59) rfl k) ?_
    show OwnGo _ _ _ _ _ _ _ (T71.setTop (mkF m 61 #[.val (.int p0), .val (.int p1), .val (.int p2), .val (.int p3), .val (.int p4), .val (.int (6 : Int32)), .val (.int cb1), .val (.int cb2), .val (.int cb3), .val (.ref b67), .unset] [(.int (6 : Int32))]))
    refine ownStep (fun _ k => XS.iconst X71.here hx rfl (hb hby at_61) k) ?_
    show OwnGo _ _ _ _ _ _ _ (T71.setTop (mkF m 62 #[.val (.int p0), .val (.int p1), .val (.int p2), .val (.int p3), .val (.int p4), .val (.int (6 : Int32)), .val (.int cb1), .val (.int cb2), .val (.int cb3), .val (.ref b67), .unset] [(.int (2 : Int32)), (.int (6 : Int32))]))
    refine ownStep (fun _ k => XS.icmpNo X71.here hx rfl (hb hby at_62) rfl (tlt (by decide : (2 : Int32) < (6 : Int32))).2.2.2 k) ?_
    show OwnGo _ _ _ _ _ _ _ (T71.setTop (mkF m 65 #[.val (.int p0), .val (.int p1), .val (.int p2), .val (.int p3), .val (.int p4), .val (.int (6 : Int32)), .val (.int cb1), .val (.int cb2), .val (.int cb3), .val (.ref b67), .unset] []))
    refine ownStep (fun _ k => XS.aload X71.here hx rfl (hb hby at_65) rfl rfl k) ?_
    show OwnGo _ _ _ _ _ _ _ (T71.setTop (mkF m 67 #[.val (.int p0), .val (.int p1), .val (.int p2), .val (.int p3), .val (.int p4), .val (.int (6 : Int32)), .val (.int cb1), .val (.int cb2), .val (.int cb3), .val (.ref b67), .unset] [(.ref b67)]))
    refine ownStep (fun _ k => XS.iconst X71.here hx rfl (hb hby at_67) k) ?_
    show OwnGo _ _ _ _ _ _ _ (T71.setTop (mkF m 68 #[.val (.int p0), .val (.int p1), .val (.int p2), .val (.int p3), .val (.int p4), .val (.int (6 : Int32)), .val (.int cb1), .val (.int cb2), .val (.int cb3), .val (.ref b67), .unset] [(.int (2 : Int32)), (.ref b67)]))
    refine ownStep (fun _ k => XS.iload X71.here hx rfl (hb hby at_68) rfl k) ?_
    show OwnGo _ _ _ _ _ _ _ (T71.setTop (mkF m 70 #[.val (.int p0), .val (.int p1), .val (.int p2), .val (.int p3), .val (.int p4), .val (.int (6 : Int32)), .val (.int cb1), .val (.int cb2), .val (.int cb3), .val (.ref b67), .unset] [(.int cb3), (.int (2 : Int32)), (.ref b67)]))
    obtain ⟨cla72, Ara72, qa72, Sa72, Pa72, Ha72, Ga72⟩ := id V71
    have hina72 : ¬ ((2 : Int32) < 0 ∨ cla72.slots.size ≤ ((2 : Int32) : Int32).toNatClampNeg) := inb_of Sa72 ⟨by decide, by decide⟩
    obtain ⟨T73, h73, X73, e73, W73, st73⟩ := stB X71 hx hZ e71 Ara72 (j := (2 : Int32)) hina72 (g := (mkF m 70 #[.val (.int p0), .val (.int p1), .val (.int p2), .val (.int p3), .val (.int p4), .val (.int (6 : Int32)), .val (.int cb1), .val (.int cb2), .val (.int cb3), .val (.ref b67), .unset] [(.int cb3), (.int (2 : Int32)), (.ref b67)])) rfl rfl (hb hby at_70)
    refine ownStep st73 ?_
    have N73 := Fr.snoc X73 N71 ge67
    have O73 := O71.wr W73 ge67
    show OwnGo _ _ _ _ _ _ _ (T73.setTop (mkF m 71 #[.val (.int p0), .val (.int p1), .val (.int p2), .val (.int p3), .val (.int p4), .val (.int (6 : Int32)), .val (.int cb1), .val (.int cb2), .val (.int cb3), .val (.ref b67), .unset] []))
    have V73 : Arv Z h73 b67 k67 .byte (6 : Int32) [(.int cb1), (.int cb2), (.int cb3), (.int (0 : Int32)), (.int (0 : Int32)), (.int (0 : Int32))] (.int (0 : Int32)) := by
      have q := Arv.set Ara72 qa72 Sa72 Pa72 Ha72 Ga72 (fits_nar_byte _) W73 2 rfl (Nat.le_of_ble_eq_true rfl)
      rw [nb3] at q
      exact q
    refine ownStep (fun _ k => XS.iload X73.here hx rfl (hb hby at_71) rfl k) ?_
    show OwnGo _ _ _ _ _ _ _ (T73.setTop (mkF m 73 #[.val (.int p0), .val (.int p1), .val (.int p2), .val (.int p3), .val (.int p4), .val (.int (6 : Int32)), .val (.int cb1), .val (.int cb2), .val (.int cb3), .val (.ref b67), .unset] [(.int (6 : Int32))]))
    refine ownStep (fun _ k => XS.iconst X73.here hx rfl (hb hby at_73) k) ?_
    show OwnGo _ _ _ _ _ _ _ (T73.setTop (mkF m 74 #[.val (.int p0), .val (.int p1), .val (.int p2), .val (.int p3), .val (.int p4), .val (.int (6 : Int32)), .val (.int cb1), .val (.int cb2), .val (.int cb3), .val (.ref b67), .unset] [(.int (3 : Int32)), (.int (6 : Int32))]))
    refine ownStep (fun _ k => XS.icmpNo X73.here hx rfl (hb hby at_74) rfl (tlt (by decide : (3 : Int32) < (6 : Int32))).2.2.2 k) ?_
    show OwnGo _ _ _ _ _ _ _ (T73.setTop (mkF m 77 #[.val (.int p0), .val (.int p1), .val (.int p2), .val (.int p3), .val (.int p4), .val (.int (6 : Int32)), .val (.int cb1), .val (.int cb2), .val (.int cb3), .val (.ref b67), .unset] []))
    refine ownStep (fun _ k => XS.aload X73.here hx rfl (hb hby at_77) rfl rfl k) ?_
    show OwnGo _ _ _ _ _ _ _ (T73.setTop (mkF m 79 #[.val (.int p0), .val (.int p1), .val (.int p2), .val (.int p3), .val (.int p4), .val (.int (6 : Int32)), .val (.int cb1), .val (.int cb2), .val (.int cb3), .val (.ref b67), .unset] [(.ref b67)]))
    refine ownStep (fun _ k => XS.iconst X73.here hx rfl (hb hby at_79) k) ?_
    show OwnGo _ _ _ _ _ _ _ (T73.setTop (mkF m 80 #[.val (.int p0), .val (.int p1), .val (.int p2), .val (.int p3), .val (.int p4), .val (.int (6 : Int32)), .val (.int cb1), .val (.int cb2), .val (.int cb3), .val (.ref b67), .unset] [(.int (3 : Int32)), (.ref b67)]))
    refine ownStep (fun _ k => XS.iload X73.here hx rfl (hb hby at_80) rfl k) ?_
    show OwnGo _ _ _ _ _ _ _ (T73.setTop (mkF m 82 #[.val (.int p0), .val (.int p1), .val (.int p2), .val (.int p3), .val (.int p4), .val (.int (6 : Int32)), .val (.int cb1), .val (.int cb2), .val (.int cb3), .val (.ref b67), .unset] [(.int p4), (.int (3 : Int32)), (.ref b67)]))
    refine ownStep (fun _ k => XS.i2b X73.here hx rfl (hb hby at_82) rfl k) ?_
    show OwnGo _ _ _ _ _ _ _ (T73.setTop (mkF m 83 #[.val (.int p0), .val (.int p1), .val (.int p2), .val (.int p3), .val (.int p4), .val (.int (6 : Int32)), .val (.int cb1), .val (.int cb2), .val (.int cb3), .val (.ref b67), .unset] [(.int (p4.toInt8.toInt32)), (.int (3 : Int32)), (.ref b67)]))
    obtain ⟨cla74, Ara74, qa74, Sa74, Pa74, Ha74, Ga74⟩ := id V73
    have hina74 : ¬ ((3 : Int32) < 0 ∨ cla74.slots.size ≤ ((3 : Int32) : Int32).toNatClampNeg) := inb_of Sa74 ⟨by decide, by decide⟩
    obtain ⟨T75, h75, X75, e75, W75, st75⟩ := stB X73 hx hZ e73 Ara74 (j := (3 : Int32)) hina74 (g := (mkF m 83 #[.val (.int p0), .val (.int p1), .val (.int p2), .val (.int p3), .val (.int p4), .val (.int (6 : Int32)), .val (.int cb1), .val (.int cb2), .val (.int cb3), .val (.ref b67), .unset] [(.int (p4.toInt8.toInt32)), (.int (3 : Int32)), (.ref b67)])) rfl rfl (hb hby at_83)
    refine ownStep st75 ?_
    have N75 := Fr.snoc X75 N73 ge67
    have O75 := O73.wr W75 ge67
    show OwnGo _ _ _ _ _ _ _ (T75.setTop (mkF m 84 #[.val (.int p0), .val (.int p1), .val (.int p2), .val (.int p3), .val (.int p4), .val (.int (6 : Int32)), .val (.int cb1), .val (.int cb2), .val (.int cb3), .val (.ref b67), .unset] []))
    have V75 : Arv Z h75 b67 k67 .byte (6 : Int32) [(.int cb1), (.int cb2), (.int cb3), (.int ((p4.toInt8.toInt32).toInt8.toInt32)), (.int (0 : Int32)), (.int (0 : Int32))] (.int (0 : Int32)) := by
      have q := Arv.set Ara74 qa74 Sa74 Pa74 Ha74 Ga74 (fits_nar_byte _) W75 3 rfl (Nat.le_of_ble_eq_true rfl)
      exact q
    refine ownStep (fun _ k => XS.iload X75.here hx rfl (hb hby at_84) rfl k) ?_
    show OwnGo _ _ _ _ _ _ _ (T75.setTop (mkF m 86 #[.val (.int p0), .val (.int p1), .val (.int p2), .val (.int p3), .val (.int p4), .val (.int (6 : Int32)), .val (.int cb1), .val (.int cb2), .val (.int cb3), .val (.ref b67), .unset] [(.int (6 : Int32))]))
    refine ownStep (fun _ k => XS.iconst X75.here hx rfl (hb hby at_86) k) ?_
    show OwnGo _ _ _ _ _ _ _ (T75.setTop (mkF m 87 #[.val (.int p0), .val (.int p1), .val (.int p2), .val (.int p3), .val (.int p4), .val (.int (6 : Int32)), .val (.int cb1), .val (.int cb2), .val (.int cb3), .val (.ref b67), .unset] [(.int (4 : Int32)), (.int (6 : Int32))]))
    refine ownStep (fun _ k => XS.icmpNo X75.here hx rfl (hb hby at_87) rfl (tlt (by decide : (4 : Int32) < (6 : Int32))).2.2.2 k) ?_
    show OwnGo _ _ _ _ _ _ _ (T75.setTop (mkF m 90 #[.val (.int p0), .val (.int p1), .val (.int p2), .val (.int p3), .val (.int p4), .val (.int (6 : Int32)), .val (.int cb1), .val (.int cb2), .val (.int cb3), .val (.ref b67), .unset] []))
    refine ownStep (fun _ k => XS.aload X75.here hx rfl (hb hby at_90) rfl rfl k) ?_
    show OwnGo _ _ _ _ _ _ _ (T75.setTop (mkF m 92 #[.val (.int p0), .val (.int p1), .val (.int p2), .val (.int p3), .val (.int p4), .val (.int (6 : Int32)), .val (.int cb1), .val (.int cb2), .val (.int cb3), .val (.ref b67), .unset] [(.ref b67)]))
    refine ownStep (fun _ k => XS.iconst X75.here hx rfl (hb hby at_92) k) ?_
    show OwnGo _ _ _ _ _ _ _ (T75.setTop (mkF m 93 #[.val (.int p0), .val (.int p1), .val (.int p2), .val (.int p3), .val (.int p4), .val (.int (6 : Int32)), .val (.int cb1), .val (.int cb2), .val (.int cb3), .val (.ref b67), .unset] [(.int (4 : Int32)), (.ref b67)]))
    refine ownStep (fun _ k => XS.iload X75.here hx rfl (hb hby at_93) rfl k) ?_
    show OwnGo _ _ _ _ _ _ _ (T75.setTop (mkF m 95 #[.val (.int p0), .val (.int p1), .val (.int p2), .val (.int p3), .val (.int p4), .val (.int (6 : Int32)), .val (.int cb1), .val (.int cb2), .val (.int cb3), .val (.ref b67), .unset] [(.int p4), (.int (4 : Int32)), (.ref b67)]))
    refine ownStep (fun _ k => XS.bipush X75.here hx rfl (hb hby at_95) k) ?_
    show OwnGo _ _ _ _ _ _ _ (T75.setTop (mkF m 97 #[.val (.int p0), .val (.int p1), .val (.int p2), .val (.int p3), .val (.int p4), .val (.int (6 : Int32)), .val (.int cb1), .val (.int cb2), .val (.int cb3), .val (.ref b67), .unset] [(.int (8 : Int32)), (.int p4), (.int (4 : Int32)), (.ref b67)]))
    refine ownStep (fun _ k => XS.ishr X75.here hx rfl (hb hby at_97) rfl k) ?_
    show OwnGo _ _ _ _ _ _ _ (T75.setTop (mkF m 98 #[.val (.int p0), .val (.int p1), .val (.int p2), .val (.int p3), .val (.int p4), .val (.int (6 : Int32)), .val (.int cb1), .val (.int cb2), .val (.int cb3), .val (.ref b67), .unset] [(.int (p4 >>> ((8 : Int32) &&& 31))), (.int (4 : Int32)), (.ref b67)]))
    refine ownStep (fun _ k => XS.i2b X75.here hx rfl (hb hby at_98) rfl k) ?_
    show OwnGo _ _ _ _ _ _ _ (T75.setTop (mkF m 99 #[.val (.int p0), .val (.int p1), .val (.int p2), .val (.int p3), .val (.int p4), .val (.int (6 : Int32)), .val (.int cb1), .val (.int cb2), .val (.int cb3), .val (.ref b67), .unset] [(.int ((p4 >>> ((8 : Int32) &&& 31)).toInt8.toInt32)), (.int (4 : Int32)), (.ref b67)]))
    obtain ⟨cla76, Ara76, qa76, Sa76, Pa76, Ha76, Ga76⟩ := id V75
    have hina76 : ¬ ((4 : Int32) < 0 ∨ cla76.slots.size ≤ ((4 : Int32) : Int32).toNatClampNeg) := inb_of Sa76 ⟨by decide, by decide⟩
    obtain ⟨T77, h77, X77, e77, W77, st77⟩ := stB X75 hx hZ e75 Ara76 (j := (4 : Int32)) hina76 (g := (mkF m 99 #[.val (.int p0), .val (.int p1), .val (.int p2), .val (.int p3), .val (.int p4), .val (.int (6 : Int32)), .val (.int cb1), .val (.int cb2), .val (.int cb3), .val (.ref b67), .unset] [(.int ((p4 >>> ((8 : Int32) &&& 31)).toInt8.toInt32)), (.int (4 : Int32)), (.ref b67)])) rfl rfl (hb hby at_99)
    refine ownStep st77 ?_
    have N77 := Fr.snoc X77 N75 ge67
    have O77 := O75.wr W77 ge67
    show OwnGo _ _ _ _ _ _ _ (T77.setTop (mkF m 100 #[.val (.int p0), .val (.int p1), .val (.int p2), .val (.int p3), .val (.int p4), .val (.int (6 : Int32)), .val (.int cb1), .val (.int cb2), .val (.int cb3), .val (.ref b67), .unset] []))
    have V77 : Arv Z h77 b67 k67 .byte (6 : Int32) [(.int cb1), (.int cb2), (.int cb3), (.int ((p4.toInt8.toInt32).toInt8.toInt32)), (.int (((p4 >>> ((8 : Int32) &&& 31)).toInt8.toInt32).toInt8.toInt32)), (.int (0 : Int32))] (.int (0 : Int32)) := by
      have q := Arv.set Ara76 qa76 Sa76 Pa76 Ha76 Ga76 (fits_nar_byte _) W77 4 rfl (Nat.le_of_ble_eq_true rfl)
      exact q
    refine ownStep (fun _ k => XS.iload X77.here hx rfl (hb hby at_100) rfl k) ?_
    show OwnGo _ _ _ _ _ _ _ (T77.setTop (mkF m 102 #[.val (.int p0), .val (.int p1), .val (.int p2), .val (.int p3), .val (.int p4), .val (.int (6 : Int32)), .val (.int cb1), .val (.int cb2), .val (.int cb3), .val (.ref b67), .unset] [(.int (6 : Int32))]))
    refine ownStep (fun _ k => XS.iconst X77.here hx rfl (hb hby at_102) k) ?_
    show OwnGo _ _ _ _ _ _ _ (T77.setTop (mkF m 103 #[.val (.int p0), .val (.int p1), .val (.int p2), .val (.int p3), .val (.int p4), .val (.int (6 : Int32)), .val (.int cb1), .val (.int cb2), .val (.int cb3), .val (.ref b67), .unset] [(.int (5 : Int32)), (.int (6 : Int32))]))
    refine ownStep (fun _ k => XS.icmpNo X77.here hx rfl (hb hby at_103) rfl (tlt (by decide : (5 : Int32) < (6 : Int32))).2.2.2 k) ?_
    show OwnGo _ _ _ _ _ _ _ (T77.setTop (mkF m 106 #[.val (.int p0), .val (.int p1), .val (.int p2), .val (.int p3), .val (.int p4), .val (.int (6 : Int32)), .val (.int cb1), .val (.int cb2), .val (.int cb3), .val (.ref b67), .unset] []))
    refine ownStep (fun _ k => XS.aload X77.here hx rfl (hb hby at_106) rfl rfl k) ?_
    show OwnGo _ _ _ _ _ _ _ (T77.setTop (mkF m 108 #[.val (.int p0), .val (.int p1), .val (.int p2), .val (.int p3), .val (.int p4), .val (.int (6 : Int32)), .val (.int cb1), .val (.int cb2), .val (.int cb3), .val (.ref b67), .unset] [(.ref b67)]))
    refine ownStep (fun _ k => XS.iconst X77.here hx rfl (hb hby at_108) k) ?_
    show OwnGo _ _ _ _ _ _ _ (T77.setTop (mkF m 109 #[.val (.int p0), .val (.int p1), .val (.int p2), .val (.int p3), .val (.int p4), .val (.int (6 : Int32)), .val (.int cb1), .val (.int cb2), .val (.int cb3), .val (.ref b67), .unset] [(.int (5 : Int32)), (.ref b67)]))
    refine ownStep (fun _ k => XS.iload X77.here hx rfl (hb hby at_109) rfl k) ?_
    show OwnGo _ _ _ _ _ _ _ (T77.setTop (mkF m 111 #[.val (.int p0), .val (.int p1), .val (.int p2), .val (.int p3), .val (.int p4), .val (.int (6 : Int32)), .val (.int cb1), .val (.int cb2), .val (.int cb3), .val (.ref b67), .unset] [(.int p4), (.int (5 : Int32)), (.ref b67)]))
    refine ownStep (fun _ k => XS.bipush X77.here hx rfl (hb hby at_111) k) ?_
    show OwnGo _ _ _ _ _ _ _ (T77.setTop (mkF m 113 #[.val (.int p0), .val (.int p1), .val (.int p2), .val (.int p3), .val (.int p4), .val (.int (6 : Int32)), .val (.int cb1), .val (.int cb2), .val (.int cb3), .val (.ref b67), .unset] [(.int (16 : Int32)), (.int p4), (.int (5 : Int32)), (.ref b67)]))
    refine ownStep (fun _ k => XS.ishr X77.here hx rfl (hb hby at_113) rfl k) ?_
    show OwnGo _ _ _ _ _ _ _ (T77.setTop (mkF m 114 #[.val (.int p0), .val (.int p1), .val (.int p2), .val (.int p3), .val (.int p4), .val (.int (6 : Int32)), .val (.int cb1), .val (.int cb2), .val (.int cb3), .val (.ref b67), .unset] [(.int (p4 >>> ((16 : Int32) &&& 31))), (.int (5 : Int32)), (.ref b67)]))
    refine ownStep (fun _ k => XS.i2b X77.here hx rfl (hb hby at_114) rfl k) ?_
    show OwnGo _ _ _ _ _ _ _ (T77.setTop (mkF m 115 #[.val (.int p0), .val (.int p1), .val (.int p2), .val (.int p3), .val (.int p4), .val (.int (6 : Int32)), .val (.int cb1), .val (.int cb2), .val (.int cb3), .val (.ref b67), .unset] [(.int ((p4 >>> ((16 : Int32) &&& 31)).toInt8.toInt32)), (.int (5 : Int32)), (.ref b67)]))
    obtain ⟨cla78, Ara78, qa78, Sa78, Pa78, Ha78, Ga78⟩ := id V77
    have hina78 : ¬ ((5 : Int32) < 0 ∨ cla78.slots.size ≤ ((5 : Int32) : Int32).toNatClampNeg) := inb_of Sa78 ⟨by decide, by decide⟩
    obtain ⟨T79, h79, X79, e79, W79, st79⟩ := stB X77 hx hZ e77 Ara78 (j := (5 : Int32)) hina78 (g := (mkF m 115 #[.val (.int p0), .val (.int p1), .val (.int p2), .val (.int p3), .val (.int p4), .val (.int (6 : Int32)), .val (.int cb1), .val (.int cb2), .val (.int cb3), .val (.ref b67), .unset] [(.int ((p4 >>> ((16 : Int32) &&& 31)).toInt8.toInt32)), (.int (5 : Int32)), (.ref b67)])) rfl rfl (hb hby at_115)
    refine ownStep st79 ?_
    have N79 := Fr.snoc X79 N77 ge67
    have O79 := O77.wr W79 ge67
    show OwnGo _ _ _ _ _ _ _ (T79.setTop (mkF m 116 #[.val (.int p0), .val (.int p1), .val (.int p2), .val (.int p3), .val (.int p4), .val (.int (6 : Int32)), .val (.int cb1), .val (.int cb2), .val (.int cb3), .val (.ref b67), .unset] []))
    have V79 : Arv Z h79 b67 k67 .byte (6 : Int32) [(.int cb1), (.int cb2), (.int cb3), (.int ((p4.toInt8.toInt32).toInt8.toInt32)), (.int (((p4 >>> ((8 : Int32) &&& 31)).toInt8.toInt32).toInt8.toInt32)), (.int (((p4 >>> ((16 : Int32) &&& 31)).toInt8.toInt32).toInt8.toInt32))] (.int (0 : Int32)) := by
      have q := Arv.set Ara78 qa78 Sa78 Pa78 Ha78 Ga78 (fits_nar_byte _) W79 5 rfl (Nat.le_of_ble_eq_true rfl)
      exact q
    refine ownStep (fun _ k => XS.iload X79.here hx rfl (hb hby at_116) rfl k) ?_
    show OwnGo _ _ _ _ _ _ _ (T79.setTop (mkF m 118 #[.val (.int p0), .val (.int p1), .val (.int p2), .val (.int p3), .val (.int p4), .val (.int (6 : Int32)), .val (.int cb1), .val (.int cb2), .val (.int cb3), .val (.ref b67), .unset] [(.int (6 : Int32))]))
    refine ownStep (fun _ k => XS.bipush X79.here hx rfl (hb hby at_118) k) ?_
    show OwnGo _ _ _ _ _ _ _ (T79.setTop (mkF m 120 #[.val (.int p0), .val (.int p1), .val (.int p2), .val (.int p3), .val (.int p4), .val (.int (6 : Int32)), .val (.int cb1), .val (.int cb2), .val (.int cb3), .val (.ref b67), .unset] [(.int (6 : Int32)), (.int (6 : Int32))]))
    refine ownStep (fun _ k => XS.icmpYes X79.here hx rfl (pc0 := 120) (pc' := 134) rfl (hb hby at_120) rfl (flt (by decide : ¬ ((6 : Int32) < (6 : Int32)))).2.2.2 (by decide) (by decide) k) ?_
    show OwnGo _ _ _ _ _ _ _ (T79.setTop (mkF m 134 #[.val (.int p0), .val (.int p1), .val (.int p2), .val (.int p3), .val (.int p4), .val (.int (6 : Int32)), .val (.int cb1), .val (.int cb2), .val (.int cb3), .val (.ref b67), .unset] []))
    refine ownStep (fun _ k => XS.iload X79.here hx rfl (hb hby at_134) rfl k) ?_
    show OwnGo _ _ _ _ _ _ _ (T79.setTop (mkF m 136 #[.val (.int p0), .val (.int p1), .val (.int p2), .val (.int p3), .val (.int p4), .val (.int (6 : Int32)), .val (.int cb1), .val (.int cb2), .val (.int cb3), .val (.ref b67), .unset] [(.int (6 : Int32))]))
    refine ownStep (fun _ k => XS.iconst X79.here hx rfl (hb hby at_136) k) ?_
    show OwnGo _ _ _ _ _ _ _ (T79.setTop (mkF m 137 #[.val (.int p0), .val (.int p1), .val (.int p2), .val (.int p3), .val (.int p4), .val (.int (6 : Int32)), .val (.int cb1), .val (.int cb2), .val (.int cb3), .val (.ref b67), .unset] [(.int (3 : Int32)), (.int (6 : Int32))]))
    refine ownStep (fun _ k => XS.icmpNo X79.here hx rfl (hb hby at_137) rfl (flt (by decide : ¬ ((6 : Int32) < (3 : Int32)))).1 k) ?_
    show OwnGo _ _ _ _ _ _ _ (T79.setTop (mkF m 140 #[.val (.int p0), .val (.int p1), .val (.int p2), .val (.int p3), .val (.int p4), .val (.int (6 : Int32)), .val (.int cb1), .val (.int cb2), .val (.int cb3), .val (.ref b67), .unset] []))
    refine ownStep (fun _ k => XS.iload X79.here hx rfl (hb hby at_140) rfl k) ?_
    show OwnGo _ _ _ _ _ _ _ (T79.setTop (mkF m 142 #[.val (.int p0), .val (.int p1), .val (.int p2), .val (.int p3), .val (.int p4), .val (.int (6 : Int32)), .val (.int cb1), .val (.int cb2), .val (.int cb3), .val (.ref b67), .unset] [(.int cb1)]))
    refine ownStep (fun _ k => XS.bipush X79.here hx rfl (hb hby at_142) k) ?_
    show OwnGo _ _ _ _ _ _ _ (T79.setTop (mkF m 144 #[.val (.int p0), .val (.int p1), .val (.int p2), .val (.int p3), .val (.int p4), .val (.int (6 : Int32)), .val (.int cb1), .val (.int cb2), .val (.int cb3), .val (.ref b67), .unset] [(.int (56 : Int32)), (.int cb1)]))
    by_cases t0 : cb1 = (56 : Int32)
    · skip
      refine ownStep (fun _ k => XS.icmpNo X79.here hx rfl (hb hby at_144) rfl (teq t0).2 k) ?_
      show OwnGo _ _ _ _ _ _ _ (T79.setTop (mkF m 147 #[.val (.int p0), .val (.int p1), .val (.int p2), .val (.int p3), .val (.int p4), .val (.int (6 : Int32)), .val (.int cb1), .val (.int cb2), .val (.int cb3), .val (.ref b67), .unset] []))
      refine ownStep (fun _ k => XS.iload X79.here hx rfl (hb hby at_147) rfl k) ?_
      show OwnGo _ _ _ _ _ _ _ (T79.setTop (mkF m 149 #[.val (.int p0), .val (.int p1), .val (.int p2), .val (.int p3), .val (.int p4), .val (.int (6 : Int32)), .val (.int cb1), .val (.int cb2), .val (.int cb3), .val (.ref b67), .unset] [(.int cb2)]))
      refine ownStep (fun _ k => XS.bipush X79.here hx rfl (hb hby at_149) k) ?_
      show OwnGo _ _ _ _ _ _ _ (T79.setTop (mkF m 151 #[.val (.int p0), .val (.int p1), .val (.int p2), .val (.int p3), .val (.int p4), .val (.int (6 : Int32)), .val (.int cb1), .val (.int cb2), .val (.int cb3), .val (.ref b67), .unset] [(.int (56 : Int32)), (.int cb2)]))
      by_cases t1 : cb2 = (56 : Int32)
      · skip
        refine ownStep (fun _ k => XS.icmpNo X79.here hx rfl (hb hby at_151) rfl (teq t1).2 k) ?_
        show OwnGo _ _ _ _ _ _ _ (T79.setTop (mkF m 154 #[.val (.int p0), .val (.int p1), .val (.int p2), .val (.int p3), .val (.int p4), .val (.int (6 : Int32)), .val (.int cb1), .val (.int cb2), .val (.int cb3), .val (.ref b67), .unset] []))
        refine ownStep (fun _ k => XS.iload X79.here hx rfl (hb hby at_154) rfl k) ?_
        show OwnGo _ _ _ _ _ _ _ (T79.setTop (mkF m 156 #[.val (.int p0), .val (.int p1), .val (.int p2), .val (.int p3), .val (.int p4), .val (.int (6 : Int32)), .val (.int cb1), .val (.int cb2), .val (.int cb3), .val (.ref b67), .unset] [(.int cb3)]))
        refine ownStep (fun _ k => XS.bipush X79.here hx rfl (hb hby at_156) k) ?_
        show OwnGo _ _ _ _ _ _ _ (T79.setTop (mkF m 158 #[.val (.int p0), .val (.int p1), .val (.int p2), .val (.int p3), .val (.int p4), .val (.int (6 : Int32)), .val (.int cb1), .val (.int cb2), .val (.int cb3), .val (.ref b67), .unset] [(.int (44 : Int32)), (.int cb3)]))
        by_cases t2 : cb3 = (44 : Int32)
        · skip
          refine ownStep (fun _ k => XS.icmpNo X79.here hx rfl (hb hby at_158) rfl (teq t2).2 k) ?_
          show OwnGo _ _ _ _ _ _ _ (T79.setTop (mkF m 161 #[.val (.int p0), .val (.int p1), .val (.int p2), .val (.int p3), .val (.int p4), .val (.int (6 : Int32)), .val (.int cb1), .val (.int cb2), .val (.int cb3), .val (.ref b67), .unset] []))
          refine ownStep (fun _ k => XS.iconst X79.here hx rfl (hb hby at_161) k) ?_
          show OwnGo _ _ _ _ _ _ _ (T79.setTop (mkF m 162 #[.val (.int p0), .val (.int p1), .val (.int p2), .val (.int p3), .val (.int p4), .val (.int (6 : Int32)), .val (.int cb1), .val (.int cb2), .val (.int cb3), .val (.ref b67), .unset] [(.int (1 : Int32))]))
          refine ownStep (fun _ k => XS.goto X79.here hx rfl (pc0 := 162) (pc' := 166) rfl (hb hby at_162) (by decide) (by decide) k) ?_
          show OwnGo _ _ _ _ _ _ _ (T79.setTop (mkF m 166 #[.val (.int p0), .val (.int p1), .val (.int p2), .val (.int p3), .val (.int p4), .val (.int (6 : Int32)), .val (.int cb1), .val (.int cb2), .val (.int cb3), .val (.ref b67), .unset] [(.int (1 : Int32))]))
          refine ownStep (fun _ k => XS.istore X79.here hx rfl (hb hby at_166) rfl (l' := #[.val (.int p0), .val (.int p1), .val (.int p2), .val (.int p3), .val (.int p4), .val (.int (6 : Int32)), .val (.int cb1), .val (.int cb2), .val (.int cb3), .val (.ref b67), .val (.int (1 : Int32))]) rfl k) ?_
          show OwnGo _ _ _ _ _ _ _ (T79.setTop (mkF m 168 #[.val (.int p0), .val (.int p1), .val (.int p2), .val (.int p3), .val (.int p4), .val (.int (6 : Int32)), .val (.int cb1), .val (.int cb2), .val (.int cb3), .val (.ref b67), .val (.int (1 : Int32))] []))
          refine ownStep (fun _ k => XS.aload X79.here hx rfl (hb hby at_168) rfl rfl k) ?_
          show OwnGo _ _ _ _ _ _ _ (T79.setTop (mkF m 170 #[.val (.int p0), .val (.int p1), .val (.int p2), .val (.int p3), .val (.int p4), .val (.int (6 : Int32)), .val (.int cb1), .val (.int cb2), .val (.int cb3), .val (.ref b67), .val (.int (1 : Int32))] [(.ref b67)]))
          obtain ⟨_, _, ⟨T80, L80, k80, n80⟩, -, X80, ⟨Lc80, hQ80, l80, y80, z80⟩, st80⟩ := Jvm.LawKit.callS X79 hx (y := (⟨"com/example/counterfoil/counterfoil/io/bai2/Fields", "isContinuation", "([B)Z"⟩ : MethodName)) hown (mvT hZ (hw _ (List.mem_of_getElem? (i := 5) rfl))) (mvT hZ (hw _ (List.mem_of_getElem? (i := 6) rfl))) (mvT hZ (hw _ (List.mem_of_getElem? (i := 7) rfl))) (mvT hZ (hw _ (List.mem_of_getElem? (i := 8) rfl))) (by decide) (backOf (W := 0) (rm2 l Z a0 hw [] b67 k67 (6 : Int32) _ cb1 cb2 cb3 wC kC (1 : Int32) h79 n0 O79 SC VC V79 (by decide) (by decide) (by decide) (by decide) rfl rfl rfl (if_pos ⟨t0, t1, t2⟩)) hZ (hw _ (List.mem_of_getElem? (i := 8) rfl)) (hw _ (List.mem_of_getElem? (i := 7) rfl)) (by decide) (by decide)) (g := (mkF m 170 #[.val (.int p0), .val (.int p1), .val (.int p2), .val (.int p3), .val (.int p4), .val (.int (6 : Int32)), .val (.int cb1), .val (.int cb2), .val (.int cb3), .val (.ref b67), .val (.int (1 : Int32))] [(.ref b67)])) rfl (by rw [hml]; rfl) (argsL := [(.ref b67)]) (rest := []) (lenOf own_pd1 rfl) rfl (by show 2 * 0 + _ ≤ _; exact Nat.le_of_eq rfl) (hb hby at_170) (fun _ _ => ⟨rfl, e79, (by decide : 0 + 1 + 0 ≤ _), (by decide : 0 + 6 + 0 ≤ _)⟩)
          dsimp only [Pt.U, Pt.locs, Pt.cells, Pt.slots] at X80 l80 y80 z80 st80 hQ80
          subst l80 y80 z80
          obtain ⟨rfl, N80q, e80⟩ := hQ80
          have N80 := Fr.app N79 N80q
          refine ownStep st80 ?_
          show OwnGo _ _ _ _ _ _ _ (T80.setTop (mkF m 173 #[.val (.int p0), .val (.int p1), .val (.int p2), .val (.int p3), .val (.int p4), .val (.int (6 : Int32)), .val (.int cb1), .val (.int cb2), .val (.int cb3), .val (.ref b67), .val (.int (1 : Int32))] [(.int (1 : Int32))]))
          refine ownStep (fun _ k => XS.iload X80.here hx rfl (hb hby at_173) rfl k) ?_
          show OwnGo _ _ _ _ _ _ _ (T80.setTop (mkF m 175 #[.val (.int p0), .val (.int p1), .val (.int p2), .val (.int p3), .val (.int p4), .val (.int (6 : Int32)), .val (.int cb1), .val (.int cb2), .val (.int cb3), .val (.ref b67), .val (.int (1 : Int32))] [(.int (1 : Int32)), (.int (1 : Int32))]))
          refine ownStep (fun _ k => XS.icmpNo X80.here hx rfl (hb hby at_175) rfl (teq (by decide : (1 : Int32) = (1 : Int32))).2 k) ?_
          show OwnGo _ _ _ _ _ _ _ (T80.setTop (mkF m 178 #[.val (.int p0), .val (.int p1), .val (.int p2), .val (.int p3), .val (.int p4), .val (.int (6 : Int32)), .val (.int cb1), .val (.int cb2), .val (.int cb3), .val (.ref b67), .val (.int (1 : Int32))] []))
          refine ownStep (fun _ k => XS.iconst X80.here hx rfl (hb hby at_178) k) ?_
          show OwnGo _ _ _ _ _ _ _ (T80.setTop (mkF m 179 #[.val (.int p0), .val (.int p1), .val (.int p2), .val (.int p3), .val (.int p4), .val (.int (6 : Int32)), .val (.int cb1), .val (.int cb2), .val (.int cb3), .val (.ref b67), .val (.int (1 : Int32))] [(.int (1 : Int32))]))
          refine ownStep (fun _ k => XS.goto X80.here hx rfl (pc0 := 179) (pc' := 183) rfl (hb hby at_179) (by decide) (by decide) k) ?_
          show OwnGo _ _ _ _ _ _ _ (T80.setTop (mkF m 183 #[.val (.int p0), .val (.int p1), .val (.int p2), .val (.int p3), .val (.int p4), .val (.int (6 : Int32)), .val (.int cb1), .val (.int cb2), .val (.int cb3), .val (.ref b67), .val (.int (1 : Int32))] [(.int (1 : Int32))]))
          have eq183 : T80.heap = h79 := e80
          exact ownRetN X80 hx (t := .boolean) Bd.returns (by simp) (hb hby at_183) (BodyLoose.notSynchronized Bd) (by decide) (by decide) (by rw [eq183]; exact ⟨rfl, N80⟩)
        · skip
          refine ownStep (fun _ k => XS.icmpYes X79.here hx rfl (pc0 := 158) (pc' := 165) rfl (hb hby at_158) rfl (feq t2).2 (by decide) (by decide) k) ?_
          show OwnGo _ _ _ _ _ _ _ (T79.setTop (mkF m 165 #[.val (.int p0), .val (.int p1), .val (.int p2), .val (.int p3), .val (.int p4), .val (.int (6 : Int32)), .val (.int cb1), .val (.int cb2), .val (.int cb3), .val (.ref b67), .unset] []))
          refine ownStep (fun _ k => XS.iconst X79.here hx rfl (hb hby at_165) k) ?_
          show OwnGo _ _ _ _ _ _ _ (T79.setTop (mkF m 166 #[.val (.int p0), .val (.int p1), .val (.int p2), .val (.int p3), .val (.int p4), .val (.int (6 : Int32)), .val (.int cb1), .val (.int cb2), .val (.int cb3), .val (.ref b67), .unset] [(.int (0 : Int32))]))
          refine ownStep (fun _ k => XS.istore X79.here hx rfl (hb hby at_166) rfl (l' := #[.val (.int p0), .val (.int p1), .val (.int p2), .val (.int p3), .val (.int p4), .val (.int (6 : Int32)), .val (.int cb1), .val (.int cb2), .val (.int cb3), .val (.ref b67), .val (.int (0 : Int32))]) rfl k) ?_
          show OwnGo _ _ _ _ _ _ _ (T79.setTop (mkF m 168 #[.val (.int p0), .val (.int p1), .val (.int p2), .val (.int p3), .val (.int p4), .val (.int (6 : Int32)), .val (.int cb1), .val (.int cb2), .val (.int cb3), .val (.ref b67), .val (.int (0 : Int32))] []))
          refine ownStep (fun _ k => XS.aload X79.here hx rfl (hb hby at_168) rfl rfl k) ?_
          show OwnGo _ _ _ _ _ _ _ (T79.setTop (mkF m 170 #[.val (.int p0), .val (.int p1), .val (.int p2), .val (.int p3), .val (.int p4), .val (.int (6 : Int32)), .val (.int cb1), .val (.int cb2), .val (.int cb3), .val (.ref b67), .val (.int (0 : Int32))] [(.ref b67)]))
          obtain ⟨_, _, ⟨T81, L81, k81, n81⟩, -, X81, ⟨Lc81, hQ81, l81, y81, z81⟩, st81⟩ := Jvm.LawKit.callS X79 hx (y := (⟨"com/example/counterfoil/counterfoil/io/bai2/Fields", "isContinuation", "([B)Z"⟩ : MethodName)) hown (mvT hZ (hw _ (List.mem_of_getElem? (i := 5) rfl))) (mvT hZ (hw _ (List.mem_of_getElem? (i := 6) rfl))) (mvT hZ (hw _ (List.mem_of_getElem? (i := 7) rfl))) (mvT hZ (hw _ (List.mem_of_getElem? (i := 8) rfl))) (by decide) (backOf (W := 0) (rm2 l Z a0 hw [] b67 k67 (6 : Int32) _ cb1 cb2 cb3 wC kC (0 : Int32) h79 n0 O79 SC VC V79 (by decide) (by decide) (by decide) (by decide) rfl rfl rfl (if_neg (fun q => t2 q.2.2))) hZ (hw _ (List.mem_of_getElem? (i := 8) rfl)) (hw _ (List.mem_of_getElem? (i := 7) rfl)) (by decide) (by decide)) (g := (mkF m 170 #[.val (.int p0), .val (.int p1), .val (.int p2), .val (.int p3), .val (.int p4), .val (.int (6 : Int32)), .val (.int cb1), .val (.int cb2), .val (.int cb3), .val (.ref b67), .val (.int (0 : Int32))] [(.ref b67)])) rfl (by rw [hml]; rfl) (argsL := [(.ref b67)]) (rest := []) (lenOf own_pd1 rfl) rfl (by show 2 * 0 + _ ≤ _; exact Nat.le_of_eq rfl) (hb hby at_170) (fun _ _ => ⟨rfl, e79, (by decide : 0 + 1 + 0 ≤ _), (by decide : 0 + 6 + 0 ≤ _)⟩)
          dsimp only [Pt.U, Pt.locs, Pt.cells, Pt.slots] at X81 l81 y81 z81 st81 hQ81
          subst l81 y81 z81
          obtain ⟨rfl, N81q, e81⟩ := hQ81
          have N81 := Fr.app N79 N81q
          refine ownStep st81 ?_
          show OwnGo _ _ _ _ _ _ _ (T81.setTop (mkF m 173 #[.val (.int p0), .val (.int p1), .val (.int p2), .val (.int p3), .val (.int p4), .val (.int (6 : Int32)), .val (.int cb1), .val (.int cb2), .val (.int cb3), .val (.ref b67), .val (.int (0 : Int32))] [(.int (0 : Int32))]))
          refine ownStep (fun _ k => XS.iload X81.here hx rfl (hb hby at_173) rfl k) ?_
          show OwnGo _ _ _ _ _ _ _ (T81.setTop (mkF m 175 #[.val (.int p0), .val (.int p1), .val (.int p2), .val (.int p3), .val (.int p4), .val (.int (6 : Int32)), .val (.int cb1), .val (.int cb2), .val (.int cb3), .val (.ref b67), .val (.int (0 : Int32))] [(.int (0 : Int32)), (.int (0 : Int32))]))
          refine ownStep (fun _ k => XS.icmpNo X81.here hx rfl (hb hby at_175) rfl (teq (by decide : (0 : Int32) = (0 : Int32))).2 k) ?_
          show OwnGo _ _ _ _ _ _ _ (T81.setTop (mkF m 178 #[.val (.int p0), .val (.int p1), .val (.int p2), .val (.int p3), .val (.int p4), .val (.int (6 : Int32)), .val (.int cb1), .val (.int cb2), .val (.int cb3), .val (.ref b67), .val (.int (0 : Int32))] []))
          refine ownStep (fun _ k => XS.iconst X81.here hx rfl (hb hby at_178) k) ?_
          show OwnGo _ _ _ _ _ _ _ (T81.setTop (mkF m 179 #[.val (.int p0), .val (.int p1), .val (.int p2), .val (.int p3), .val (.int p4), .val (.int (6 : Int32)), .val (.int cb1), .val (.int cb2), .val (.int cb3), .val (.ref b67), .val (.int (0 : Int32))] [(.int (1 : Int32))]))
          refine ownStep (fun _ k => XS.goto X81.here hx rfl (pc0 := 179) (pc' := 183) rfl (hb hby at_179) (by decide) (by decide) k) ?_
          show OwnGo _ _ _ _ _ _ _ (T81.setTop (mkF m 183 #[.val (.int p0), .val (.int p1), .val (.int p2), .val (.int p3), .val (.int p4), .val (.int (6 : Int32)), .val (.int cb1), .val (.int cb2), .val (.int cb3), .val (.ref b67), .val (.int (0 : Int32))] [(.int (1 : Int32))]))
          have eq183 : T81.heap = h79 := e81
          exact ownRetN X81 hx (t := .boolean) Bd.returns (by simp) (hb hby at_183) (BodyLoose.notSynchronized Bd) (by decide) (by decide) (by rw [eq183]; exact ⟨rfl, N81⟩)
      · skip
        refine ownStep (fun _ k => XS.icmpYes X79.here hx rfl (pc0 := 151) (pc' := 165) rfl (hb hby at_151) rfl (feq t1).2 (by decide) (by decide) k) ?_
        show OwnGo _ _ _ _ _ _ _ (T79.setTop (mkF m 165 #[.val (.int p0), .val (.int p1), .val (.int p2), .val (.int p3), .val (.int p4), .val (.int (6 : Int32)), .val (.int cb1), .val (.int cb2), .val (.int cb3), .val (.ref b67), .unset] []))
        refine ownStep (fun _ k => XS.iconst X79.here hx rfl (hb hby at_165) k) ?_
        show OwnGo _ _ _ _ _ _ _ (T79.setTop (mkF m 166 #[.val (.int p0), .val (.int p1), .val (.int p2), .val (.int p3), .val (.int p4), .val (.int (6 : Int32)), .val (.int cb1), .val (.int cb2), .val (.int cb3), .val (.ref b67), .unset] [(.int (0 : Int32))]))
        refine ownStep (fun _ k => XS.istore X79.here hx rfl (hb hby at_166) rfl (l' := #[.val (.int p0), .val (.int p1), .val (.int p2), .val (.int p3), .val (.int p4), .val (.int (6 : Int32)), .val (.int cb1), .val (.int cb2), .val (.int cb3), .val (.ref b67), .val (.int (0 : Int32))]) rfl k) ?_
        show OwnGo _ _ _ _ _ _ _ (T79.setTop (mkF m 168 #[.val (.int p0), .val (.int p1), .val (.int p2), .val (.int p3), .val (.int p4), .val (.int (6 : Int32)), .val (.int cb1), .val (.int cb2), .val (.int cb3), .val (.ref b67), .val (.int (0 : Int32))] []))
        refine ownStep (fun _ k => XS.aload X79.here hx rfl (hb hby at_168) rfl rfl k) ?_
        show OwnGo _ _ _ _ _ _ _ (T79.setTop (mkF m 170 #[.val (.int p0), .val (.int p1), .val (.int p2), .val (.int p3), .val (.int p4), .val (.int (6 : Int32)), .val (.int cb1), .val (.int cb2), .val (.int cb3), .val (.ref b67), .val (.int (0 : Int32))] [(.ref b67)]))
        obtain ⟨_, _, ⟨T82, L82, k82, n82⟩, -, X82, ⟨Lc82, hQ82, l82, y82, z82⟩, st82⟩ := Jvm.LawKit.callS X79 hx (y := (⟨"com/example/counterfoil/counterfoil/io/bai2/Fields", "isContinuation", "([B)Z"⟩ : MethodName)) hown (mvT hZ (hw _ (List.mem_of_getElem? (i := 5) rfl))) (mvT hZ (hw _ (List.mem_of_getElem? (i := 6) rfl))) (mvT hZ (hw _ (List.mem_of_getElem? (i := 7) rfl))) (mvT hZ (hw _ (List.mem_of_getElem? (i := 8) rfl))) (by decide) (backOf (W := 0) (rm2 l Z a0 hw [] b67 k67 (6 : Int32) _ cb1 cb2 cb3 wC kC (0 : Int32) h79 n0 O79 SC VC V79 (by decide) (by decide) (by decide) (by decide) rfl rfl rfl (if_neg (fun q => t1 q.2.1))) hZ (hw _ (List.mem_of_getElem? (i := 8) rfl)) (hw _ (List.mem_of_getElem? (i := 7) rfl)) (by decide) (by decide)) (g := (mkF m 170 #[.val (.int p0), .val (.int p1), .val (.int p2), .val (.int p3), .val (.int p4), .val (.int (6 : Int32)), .val (.int cb1), .val (.int cb2), .val (.int cb3), .val (.ref b67), .val (.int (0 : Int32))] [(.ref b67)])) rfl (by rw [hml]; rfl) (argsL := [(.ref b67)]) (rest := []) (lenOf own_pd1 rfl) rfl (by show 2 * 0 + _ ≤ _; exact Nat.le_of_eq rfl) (hb hby at_170) (fun _ _ => ⟨rfl, e79, (by decide : 0 + 1 + 0 ≤ _), (by decide : 0 + 6 + 0 ≤ _)⟩)
        dsimp only [Pt.U, Pt.locs, Pt.cells, Pt.slots] at X82 l82 y82 z82 st82 hQ82
        subst l82 y82 z82
        obtain ⟨rfl, N82q, e82⟩ := hQ82
        have N82 := Fr.app N79 N82q
        refine ownStep st82 ?_
        show OwnGo _ _ _ _ _ _ _ (T82.setTop (mkF m 173 #[.val (.int p0), .val (.int p1), .val (.int p2), .val (.int p3), .val (.int p4), .val (.int (6 : Int32)), .val (.int cb1), .val (.int cb2), .val (.int cb3), .val (.ref b67), .val (.int (0 : Int32))] [(.int (0 : Int32))]))
        refine ownStep (fun _ k => XS.iload X82.here hx rfl (hb hby at_173) rfl k) ?_
        show OwnGo _ _ _ _ _ _ _ (T82.setTop (mkF m 175 #[.val (.int p0), .val (.int p1), .val (.int p2), .val (.int p3), .val (.int p4), .val (.int (6 : Int32)), .val (.int cb1), .val (.int cb2), .val (.int cb3), .val (.ref b67), .val (.int (0 : Int32))] [(.int (0 : Int32)), (.int (0 : Int32))]))
        refine ownStep (fun _ k => XS.icmpNo X82.here hx rfl (hb hby at_175) rfl (teq (by decide : (0 : Int32) = (0 : Int32))).2 k) ?_
        show OwnGo _ _ _ _ _ _ _ (T82.setTop (mkF m 178 #[.val (.int p0), .val (.int p1), .val (.int p2), .val (.int p3), .val (.int p4), .val (.int (6 : Int32)), .val (.int cb1), .val (.int cb2), .val (.int cb3), .val (.ref b67), .val (.int (0 : Int32))] []))
        refine ownStep (fun _ k => XS.iconst X82.here hx rfl (hb hby at_178) k) ?_
        show OwnGo _ _ _ _ _ _ _ (T82.setTop (mkF m 179 #[.val (.int p0), .val (.int p1), .val (.int p2), .val (.int p3), .val (.int p4), .val (.int (6 : Int32)), .val (.int cb1), .val (.int cb2), .val (.int cb3), .val (.ref b67), .val (.int (0 : Int32))] [(.int (1 : Int32))]))
        refine ownStep (fun _ k => XS.goto X82.here hx rfl (pc0 := 179) (pc' := 183) rfl (hb hby at_179) (by decide) (by decide) k) ?_
        show OwnGo _ _ _ _ _ _ _ (T82.setTop (mkF m 183 #[.val (.int p0), .val (.int p1), .val (.int p2), .val (.int p3), .val (.int p4), .val (.int (6 : Int32)), .val (.int cb1), .val (.int cb2), .val (.int cb3), .val (.ref b67), .val (.int (0 : Int32))] [(.int (1 : Int32))]))
        have eq183 : T82.heap = h79 := e82
        exact ownRetN X82 hx (t := .boolean) Bd.returns (by simp) (hb hby at_183) (BodyLoose.notSynchronized Bd) (by decide) (by decide) (by rw [eq183]; exact ⟨rfl, N82⟩)
    · skip
      refine ownStep (fun _ k => XS.icmpYes X79.here hx rfl (pc0 := 144) (pc' := 165) rfl (hb hby at_144) rfl (feq t0).2 (by decide) (by decide) k) ?_
      show OwnGo _ _ _ _ _ _ _ (T79.setTop (mkF m 165 #[.val (.int p0), .val (.int p1), .val (.int p2), .val (.int p3), .val (.int p4), .val (.int (6 : Int32)), .val (.int cb1), .val (.int cb2), .val (.int cb3), .val (.ref b67), .unset] []))
      refine ownStep (fun _ k => XS.iconst X79.here hx rfl (hb hby at_165) k) ?_
      show OwnGo _ _ _ _ _ _ _ (T79.setTop (mkF m 166 #[.val (.int p0), .val (.int p1), .val (.int p2), .val (.int p3), .val (.int p4), .val (.int (6 : Int32)), .val (.int cb1), .val (.int cb2), .val (.int cb3), .val (.ref b67), .unset] [(.int (0 : Int32))]))
      refine ownStep (fun _ k => XS.istore X79.here hx rfl (hb hby at_166) rfl (l' := #[.val (.int p0), .val (.int p1), .val (.int p2), .val (.int p3), .val (.int p4), .val (.int (6 : Int32)), .val (.int cb1), .val (.int cb2), .val (.int cb3), .val (.ref b67), .val (.int (0 : Int32))]) rfl k) ?_
      show OwnGo _ _ _ _ _ _ _ (T79.setTop (mkF m 168 #[.val (.int p0), .val (.int p1), .val (.int p2), .val (.int p3), .val (.int p4), .val (.int (6 : Int32)), .val (.int cb1), .val (.int cb2), .val (.int cb3), .val (.ref b67), .val (.int (0 : Int32))] []))
      refine ownStep (fun _ k => XS.aload X79.here hx rfl (hb hby at_168) rfl rfl k) ?_
      show OwnGo _ _ _ _ _ _ _ (T79.setTop (mkF m 170 #[.val (.int p0), .val (.int p1), .val (.int p2), .val (.int p3), .val (.int p4), .val (.int (6 : Int32)), .val (.int cb1), .val (.int cb2), .val (.int cb3), .val (.ref b67), .val (.int (0 : Int32))] [(.ref b67)]))
      obtain ⟨_, _, ⟨T83, L83, k83, n83⟩, -, X83, ⟨Lc83, hQ83, l83, y83, z83⟩, st83⟩ := Jvm.LawKit.callS X79 hx (y := (⟨"com/example/counterfoil/counterfoil/io/bai2/Fields", "isContinuation", "([B)Z"⟩ : MethodName)) hown (mvT hZ (hw _ (List.mem_of_getElem? (i := 5) rfl))) (mvT hZ (hw _ (List.mem_of_getElem? (i := 6) rfl))) (mvT hZ (hw _ (List.mem_of_getElem? (i := 7) rfl))) (mvT hZ (hw _ (List.mem_of_getElem? (i := 8) rfl))) (by decide) (backOf (W := 0) (rm2 l Z a0 hw [] b67 k67 (6 : Int32) _ cb1 cb2 cb3 wC kC (0 : Int32) h79 n0 O79 SC VC V79 (by decide) (by decide) (by decide) (by decide) rfl rfl rfl (if_neg (fun q => t0 q.1))) hZ (hw _ (List.mem_of_getElem? (i := 8) rfl)) (hw _ (List.mem_of_getElem? (i := 7) rfl)) (by decide) (by decide)) (g := (mkF m 170 #[.val (.int p0), .val (.int p1), .val (.int p2), .val (.int p3), .val (.int p4), .val (.int (6 : Int32)), .val (.int cb1), .val (.int cb2), .val (.int cb3), .val (.ref b67), .val (.int (0 : Int32))] [(.ref b67)])) rfl (by rw [hml]; rfl) (argsL := [(.ref b67)]) (rest := []) (lenOf own_pd1 rfl) rfl (by show 2 * 0 + _ ≤ _; exact Nat.le_of_eq rfl) (hb hby at_170) (fun _ _ => ⟨rfl, e79, (by decide : 0 + 1 + 0 ≤ _), (by decide : 0 + 6 + 0 ≤ _)⟩)
      dsimp only [Pt.U, Pt.locs, Pt.cells, Pt.slots] at X83 l83 y83 z83 st83 hQ83
      subst l83 y83 z83
      obtain ⟨rfl, N83q, e83⟩ := hQ83
      have N83 := Fr.app N79 N83q
      refine ownStep st83 ?_
      show OwnGo _ _ _ _ _ _ _ (T83.setTop (mkF m 173 #[.val (.int p0), .val (.int p1), .val (.int p2), .val (.int p3), .val (.int p4), .val (.int (6 : Int32)), .val (.int cb1), .val (.int cb2), .val (.int cb3), .val (.ref b67), .val (.int (0 : Int32))] [(.int (0 : Int32))]))
      refine ownStep (fun _ k => XS.iload X83.here hx rfl (hb hby at_173) rfl k) ?_
      show OwnGo _ _ _ _ _ _ _ (T83.setTop (mkF m 175 #[.val (.int p0), .val (.int p1), .val (.int p2), .val (.int p3), .val (.int p4), .val (.int (6 : Int32)), .val (.int cb1), .val (.int cb2), .val (.int cb3), .val (.ref b67), .val (.int (0 : Int32))] [(.int (0 : Int32)), (.int (0 : Int32))]))
      refine ownStep (fun _ k => XS.icmpNo X83.here hx rfl (hb hby at_175) rfl (teq (by decide : (0 : Int32) = (0 : Int32))).2 k) ?_
      show OwnGo _ _ _ _ _ _ _ (T83.setTop (mkF m 178 #[.val (.int p0), .val (.int p1), .val (.int p2), .val (.int p3), .val (.int p4), .val (.int (6 : Int32)), .val (.int cb1), .val (.int cb2), .val (.int cb3), .val (.ref b67), .val (.int (0 : Int32))] []))
      refine ownStep (fun _ k => XS.iconst X83.here hx rfl (hb hby at_178) k) ?_
      show OwnGo _ _ _ _ _ _ _ (T83.setTop (mkF m 179 #[.val (.int p0), .val (.int p1), .val (.int p2), .val (.int p3), .val (.int p4), .val (.int (6 : Int32)), .val (.int cb1), .val (.int cb2), .val (.int cb3), .val (.ref b67), .val (.int (0 : Int32))] [(.int (1 : Int32))]))
      refine ownStep (fun _ k => XS.goto X83.here hx rfl (pc0 := 179) (pc' := 183) rfl (hb hby at_179) (by decide) (by decide) k) ?_
      show OwnGo _ _ _ _ _ _ _ (T83.setTop (mkF m 183 #[.val (.int p0), .val (.int p1), .val (.int p2), .val (.int p3), .val (.int p4), .val (.int (6 : Int32)), .val (.int cb1), .val (.int cb2), .val (.int cb3), .val (.ref b67), .val (.int (0 : Int32))] [(.int (1 : Int32))]))
      have eq183 : T83.heap = h79 := e83
      exact ownRetN X83 hx (t := .boolean) Bd.returns (by simp) (hb hby at_183) (BodyLoose.notSynchronized Bd) (by decide) (by decide) (by rw [eq183]; exact ⟨rfl, N83⟩)
  · rw [hk]
    show OwnGo _ _ _ _ _ _ _ (T15.setTop (mkF m 32 #[.val (.int p0), .val (.int p1), .val (.int p2), .val (.int p3), .val (.int p4), .val (.int (7 : Int32)), .val (.int cb1), .val (.int cb2), .val (.int cb3), .unset, .unset] [(.int (7 : Int32))]))
    obtain ⟨T84, h84, k84, X84, e84, E84, A84, st84⟩ := newP X15 hx hZ (hw _ (List.mem_of_getElem? (i := 4) rfl)) e15 (g := (mkF m 32 #[.val (.int p0), .val (.int p1), .val (.int p2), .val (.int p3), .val (.int p4), .val (.int (7 : Int32)), .val (.int cb1), .val (.int cb2), .val (.int cb3), .unset, .unset] [(.int (7 : Int32))])) rfl (hb hby at_32) rfl (by decide) (cap := 7) (by decide) (by decide) (by decide) (by decide)
    obtain ⟨b84, g84⟩ : ∃ z, z = h0.size := ⟨_, rfl⟩
    rw [← g84] at A84 st84
    refine ownStep st84 ?_
    have ge84 : n0 ≤ b84 := by rw [g84]; exact Nat.le_trans (Nat.le_of_eq O0.1.symm) O0.2.1
    have O84 := O0.ext E84
    show OwnGo _ _ _ _ _ _ _ (T84.setTop (mkF m 34 #[.val (.int p0), .val (.int p1), .val (.int p2), .val (.int p3), .val (.int p4), .val (.int (7 : Int32)), .val (.int cb1), .val (.int cb2), .val (.int cb3), .unset, .unset] [(.ref b84)]))
    have V84 : Arv Z h84 b84 k84 .byte (7 : Int32) [(.int (0 : Int32)), (.int (0 : Int32)), (.int (0 : Int32)), (.int (0 : Int32)), (.int (0 : Int32)), (.int (0 : Int32)), (.int (0 : Int32))] (.int (0 : Int32)) := (Arv.new A84 (by decide)).pad (pad_rep [] (.int (0 : Int32)) 7)
    refine ownStep (fun _ k => XS.astore X84.here hx rfl (hb hby at_34) rfl rfl (l' := #[.val (.int p0), .val (.int p1), .val (.int p2), .val (.int p3), .val (.int p4), .val (.int (7 : Int32)), .val (.int cb1), .val (.int cb2), .val (.int cb3), .val (.ref b84), .unset]) rfl k) ?_
    show OwnGo _ _ _ _ _ _ _ (T84.setTop (mkF m 36 #[.val (.int p0), .val (.int p1), .val (.int p2), .val (.int p3), .val (.int p4), .val (.int (7 : Int32)), .val (.int cb1), .val (.int cb2), .val (.int cb3), .val (.ref b84), .unset] []))
    refine ownStep (fun _ k => XS.iload X84.here hx rfl (hb hby at_36) rfl k) ?_
    show OwnGo _ _ _ _ _ _ _ (T84.setTop (mkF m 38 #[.val (.int p0), .val (.int p1), .val (.int p2), .val (.int p3), .val (.int p4), .val (.int (7 : Int32)), .val (.int cb1), .val (.int cb2), .val (.int cb3), .val (.ref b84), .unset] [(.int (7 : Int32))]))
    refine ownStep (fun _ k => XS.ifNo X84.here hx rfl (hb hby at_38) rfl ((if0 _ _).trans (tlt (by decide : (0 : Int32) < (7 : Int32))).2.2.2) k) ?_
    show OwnGo _ _ _ _ _ _ _ (T84.setTop (mkF m 41 #[.val (.int p0), .val (.int p1), .val (.int p2), .val (.int p3), .val (.int p4), .val (.int (7 : Int32)), .val (.int cb1), .val (.int cb2), .val (.int cb3), .val (.ref b84), .unset] []))
    refine ownStep (fun _ k => XS.aload X84.here hx rfl (hb hby at_41) rfl rfl k) ?_
    show OwnGo _ _ _ _ _ _ _ (T84.setTop (mkF m 43 #[.val (.int p0), .val (.int p1), .val (.int p2), .val (.int p3), .val (.int p4), .val (.int (7 : Int32)), .val (.int cb1), .val (.int cb2), .val (.int cb3), .val (.ref b84), .unset] [(.ref b84)]))
    refine ownStep (fun _ k => XS.iconst X84.here hx rfl (hb hby at_43) k) ?_
    show OwnGo _ _ _ _ _ _ _ (T84.setTop (mkF m 44 #[.val (.int p0), .val (.int p1), .val (.int p2), .val (.int p3), .val (.int p4), .val (.int (7 : Int32)), .val (.int cb1), .val (.int cb2), .val (.int cb3), .val (.ref b84), .unset] [(.int (0 : Int32)), (.ref b84)]))
    refine ownStep (fun _ k => XS.iload X84.here hx rfl (hb hby at_44) rfl k) ?_
    show OwnGo _ _ _ _ _ _ _ (T84.setTop (mkF m 46 #[.val (.int p0), .val (.int p1), .val (.int p2), .val (.int p3), .val (.int p4), .val (.int (7 : Int32)), .val (.int cb1), .val (.int cb2), .val (.int cb3), .val (.ref b84), .unset] [(.int cb1), (.int (0 : Int32)), (.ref b84)]))
    obtain ⟨cla85, Ara85, qa85, Sa85, Pa85, Ha85, Ga85⟩ := id V84
    have hina85 : ¬ ((0 : Int32) < 0 ∨ cla85.slots.size ≤ ((0 : Int32) : Int32).toNatClampNeg) := inb_of Sa85 ⟨by decide, by decide⟩
    obtain ⟨T86, h86, X86, e86, W86, st86⟩ := stB X84 hx hZ e84 Ara85 (j := (0 : Int32)) hina85 (g := (mkF m 46 #[.val (.int p0), .val (.int p1), .val (.int p2), .val (.int p3), .val (.int p4), .val (.int (7 : Int32)), .val (.int cb1), .val (.int cb2), .val (.int cb3), .val (.ref b84), .unset] [(.int cb1), (.int (0 : Int32)), (.ref b84)])) rfl rfl (hb hby at_46)
    refine ownStep st86 ?_
    have N86 := Fr.snoc X86 N15 ge84
    have O86 := O84.wr W86 ge84
    show OwnGo _ _ _ _ _ _ _ (T86.setTop (mkF m 47 #[.val (.int p0), .val (.int p1), .val (.int p2), .val (.int p3), .val (.int p4), .val (.int (7 : Int32)), .val (.int cb1), .val (.int cb2), .val (.int cb3), .val (.ref b84), .unset] []))
    have V86 : Arv Z h86 b84 k84 .byte (7 : Int32) [(.int cb1), (.int (0 : Int32)), (.int (0 : Int32)), (.int (0 : Int32)), (.int (0 : Int32)), (.int (0 : Int32)), (.int (0 : Int32))] (.int (0 : Int32)) := by
      have q := Arv.set Ara85 qa85 Sa85 Pa85 Ha85 Ga85 (fits_nar_byte _) W86 0 rfl (Nat.le_of_ble_eq_true rfl)
      rw [nb1] at q
      exact q
    refine ownStep (fun _ k => XS.iload X86.here hx rfl (hb hby at_47) rfl k) ?_
    show OwnGo _ _ _ _ _ _ _ (T86.setTop (mkF m 49 #[.val (.int p0), .val (.int p1), .val (.int p2), .val (.int p3), .val (.int p4), .val (.int (7 : Int32)), .val (.int cb1), .val (.int cb2), .val (.int cb3), .val (.ref b84), .unset] [(.int (7 : Int32))]))
    refine ownStep (fun _ k => XS.iconst X86.here hx rfl (hb hby at_49) k) ?_
    show OwnGo _ _ _ _ _ _ _ (T86.setTop (mkF m 50 #[.val (.int p0), .val (.int p1), .val (.int p2), .val (.int p3), .val (.int p4), .val (.int (7 : Int32)), .val (.int cb1), .val (.int cb2), .val (.int cb3), .val (.ref b84), .unset] [(.int (1 : Int32)), (.int (7 : Int32))]))
    refine ownStep (fun _ k => XS.icmpNo X86.here hx rfl (hb hby at_50) rfl (tlt (by decide : (1 : Int32) < (7 : Int32))).2.2.2 k) ?_
    show OwnGo _ _ _ _ _ _ _ (T86.setTop (mkF m 53 #[.val (.int p0), .val (.int p1), .val (.int p2), .val (.int p3), .val (.int p4), .val (.int (7 : Int32)), .val (.int cb1), .val (.int cb2), .val (.int cb3), .val (.ref b84), .unset] []))
    refine ownStep (fun _ k => XS.aload X86.here hx rfl (hb hby at_53) rfl rfl k) ?_
    show OwnGo _ _ _ _ _ _ _ (T86.setTop (mkF m 55 #[.val (.int p0), .val (.int p1), .val (.int p2), .val (.int p3), .val (.int p4), .val (.int (7 : Int32)), .val (.int cb1), .val (.int cb2), .val (.int cb3), .val (.ref b84), .unset] [(.ref b84)]))
    refine ownStep (fun _ k => XS.iconst X86.here hx rfl (hb hby at_55) k) ?_
    show OwnGo _ _ _ _ _ _ _ (T86.setTop (mkF m 56 #[.val (.int p0), .val (.int p1), .val (.int p2), .val (.int p3), .val (.int p4), .val (.int (7 : Int32)), .val (.int cb1), .val (.int cb2), .val (.int cb3), .val (.ref b84), .unset] [(.int (1 : Int32)), (.ref b84)]))
    refine ownStep (fun _ k => XS.iload X86.here hx rfl (hb hby at_56) rfl k) ?_
    show OwnGo _ _ _ _ _ _ _ (T86.setTop (mkF m 58 #[.val (.int p0), .val (.int p1), .val (.int p2), .val (.int p3), .val (.int p4), .val (.int (7 : Int32)), .val (.int cb1), .val (.int cb2), .val (.int cb3), .val (.ref b84), .unset] [(.int cb2), (.int (1 : Int32)), (.ref b84)]))
    obtain ⟨cla87, Ara87, qa87, Sa87, Pa87, Ha87, Ga87⟩ := id V86
    have hina87 : ¬ ((1 : Int32) < 0 ∨ cla87.slots.size ≤ ((1 : Int32) : Int32).toNatClampNeg) := inb_of Sa87 ⟨by decide, by decide⟩
    obtain ⟨T88, h88, X88, e88, W88, st88⟩ := stB X86 hx hZ e86 Ara87 (j := (1 : Int32)) hina87 (g := (mkF m 58 #[.val (.int p0), .val (.int p1), .val (.int p2), .val (.int p3), .val (.int p4), .val (.int (7 : Int32)), .val (.int cb1), .val (.int cb2), .val (.int cb3), .val (.ref b84), .unset] [(.int cb2), (.int (1 : Int32)), (.ref b84)])) rfl rfl (hb hby at_58)
    refine ownStep st88 ?_
    have N88 := Fr.snoc X88 N86 ge84
    have O88 := O86.wr W88 ge84
    show OwnGo _ _ _ _ _ _ _ (T88.setTop (mkF m 59 #[.val (.int p0), .val (.int p1), .val (.int p2), .val (.int p3), .val (.int p4), .val (.int (7 : Int32)), .val (.int cb1), .val (.int cb2), .val (.int cb3), .val (.ref b84), .unset] []))
    have V88 : Arv Z h88 b84 k84 .byte (7 : Int32) [(.int cb1), (.int cb2), (.int (0 : Int32)), (.int (0 : Int32)), (.int (0 : Int32)), (.int (0 : Int32)), (.int (0 : Int32))] (.int (0 : Int32)) := by
      have q := Arv.set Ara87 qa87 Sa87 Pa87 Ha87 Ga87 (fits_nar_byte _) W88 1 rfl (Nat.le_of_ble_eq_true rfl)
      rw [nb2] at q
      exact q
    refine ownStep (fun _ k => XS.iload X88.here hx rfl (hb hby at_59) rfl k) ?_
    show OwnGo _ _ _ _ _ _ _ (T88.setTop (mkF m 61 #[.val (.int p0), .val (.int p1), .val (.int p2), .val (.int p3), .val (.int p4), .val (.int (7 : Int32)), .val (.int cb1), .val (.int cb2), .val (.int cb3), .val (.ref b84), .unset] [(.int (7 : Int32))]))
    refine ownStep (fun _ k => XS.iconst X88.here hx rfl (hb hby at_61) k) ?_
    show OwnGo _ _ _ _ _ _ _ (T88.setTop (mkF m 62 #[.val (.int p0), .val (.int p1), .val (.int p2), .val (.int p3), .val (.int p4), .val (.int (7 : Int32)), .val (.int cb1), .val (.int cb2), .val (.int cb3), .val (.ref b84), .unset] [(.int (2 : Int32)), (.int (7 : Int32))]))
    refine ownStep (fun _ k => XS.icmpNo X88.here hx rfl (hb hby at_62) rfl (tlt (by decide : (2 : Int32) < (7 : Int32))).2.2.2 k) ?_
    show OwnGo _ _ _ _ _ _ _ (T88.setTop (mkF m 65 #[.val (.int p0), .val (.int p1), .val (.int p2), .val (.int p3), .val (.int p4), .val (.int (7 : Int32)), .val (.int cb1), .val (.int cb2), .val (.int cb3), .val (.ref b84), .unset] []))
    refine ownStep (fun _ k => XS.aload X88.here hx rfl (hb hby at_65) rfl rfl k) ?_
    show OwnGo _ _ _ _ _ _ _ (T88.setTop (mkF m 67 #[.val (.int p0), .val (.int p1), .val (.int p2), .val (.int p3), .val (.int p4), .val (.int (7 : Int32)), .val (.int cb1), .val (.int cb2), .val (.int cb3), .val (.ref b84), .unset] [(.ref b84)]))
    refine ownStep (fun _ k => XS.iconst X88.here hx rfl (hb hby at_67) k) ?_
    show OwnGo _ _ _ _ _ _ _ (T88.setTop (mkF m 68 #[.val (.int p0), .val (.int p1), .val (.int p2), .val (.int p3), .val (.int p4), .val (.int (7 : Int32)), .val (.int cb1), .val (.int cb2), .val (.int cb3), .val (.ref b84), .unset] [(.int (2 : Int32)), (.ref b84)]))
    refine ownStep (fun _ k => XS.iload X88.here hx rfl (hb hby at_68) rfl k) ?_
    show OwnGo _ _ _ _ _ _ _ (T88.setTop (mkF m 70 #[.val (.int p0), .val (.int p1), .val (.int p2), .val (.int p3), .val (.int p4), .val (.int (7 : Int32)), .val (.int cb1), .val (.int cb2), .val (.int cb3), .val (.ref b84), .unset] [(.int cb3), (.int (2 : Int32)), (.ref b84)]))
    obtain ⟨cla89, Ara89, qa89, Sa89, Pa89, Ha89, Ga89⟩ := id V88
    have hina89 : ¬ ((2 : Int32) < 0 ∨ cla89.slots.size ≤ ((2 : Int32) : Int32).toNatClampNeg) := inb_of Sa89 ⟨by decide, by decide⟩
    obtain ⟨T90, h90, X90, e90, W90, st90⟩ := stB X88 hx hZ e88 Ara89 (j := (2 : Int32)) hina89 (g := (mkF m 70 #[.val (.int p0), .val (.int p1), .val (.int p2), .val (.int p3), .val (.int p4), .val (.int (7 : Int32)), .val (.int cb1), .val (.int cb2), .val (.int cb3), .val (.ref b84), .unset] [(.int cb3), (.int (2 : Int32)), (.ref b84)])) rfl rfl (hb hby at_70)
    refine ownStep st90 ?_
    have N90 := Fr.snoc X90 N88 ge84
    have O90 := O88.wr W90 ge84
    show OwnGo _ _ _ _ _ _ _ (T90.setTop (mkF m 71 #[.val (.int p0), .val (.int p1), .val (.int p2), .val (.int p3), .val (.int p4), .val (.int (7 : Int32)), .val (.int cb1), .val (.int cb2), .val (.int cb3), .val (.ref b84), .unset] []))
    have V90 : Arv Z h90 b84 k84 .byte (7 : Int32) [(.int cb1), (.int cb2), (.int cb3), (.int (0 : Int32)), (.int (0 : Int32)), (.int (0 : Int32)), (.int (0 : Int32))] (.int (0 : Int32)) := by
      have q := Arv.set Ara89 qa89 Sa89 Pa89 Ha89 Ga89 (fits_nar_byte _) W90 2 rfl (Nat.le_of_ble_eq_true rfl)
      rw [nb3] at q
      exact q
    refine ownStep (fun _ k => XS.iload X90.here hx rfl (hb hby at_71) rfl k) ?_
    show OwnGo _ _ _ _ _ _ _ (T90.setTop (mkF m 73 #[.val (.int p0), .val (.int p1), .val (.int p2), .val (.int p3), .val (.int p4), .val (.int (7 : Int32)), .val (.int cb1), .val (.int cb2), .val (.int cb3), .val (.ref b84), .unset] [(.int (7 : Int32))]))
    refine ownStep (fun _ k => XS.iconst X90.here hx rfl (hb hby at_73) k) ?_
    show OwnGo _ _ _ _ _ _ _ (T90.setTop (mkF m 74 #[.val (.int p0), .val (.int p1), .val (.int p2), .val (.int p3), .val (.int p4), .val (.int (7 : Int32)), .val (.int cb1), .val (.int cb2), .val (.int cb3), .val (.ref b84), .unset] [(.int (3 : Int32)), (.int (7 : Int32))]))
    refine ownStep (fun _ k => XS.icmpNo X90.here hx rfl (hb hby at_74) rfl (tlt (by decide : (3 : Int32) < (7 : Int32))).2.2.2 k) ?_
    show OwnGo _ _ _ _ _ _ _ (T90.setTop (mkF m 77 #[.val (.int p0), .val (.int p1), .val (.int p2), .val (.int p3), .val (.int p4), .val (.int (7 : Int32)), .val (.int cb1), .val (.int cb2), .val (.int cb3), .val (.ref b84), .unset] []))
    refine ownStep (fun _ k => XS.aload X90.here hx rfl (hb hby at_77) rfl rfl k) ?_
    show OwnGo _ _ _ _ _ _ _ (T90.setTop (mkF m 79 #[.val (.int p0), .val (.int p1), .val (.int p2), .val (.int p3), .val (.int p4), .val (.int (7 : Int32)), .val (.int cb1), .val (.int cb2), .val (.int cb3), .val (.ref b84), .unset] [(.ref b84)]))
    refine ownStep (fun _ k => XS.iconst X90.here hx rfl (hb hby at_79) k) ?_
    show OwnGo _ _ _ _ _ _ _ (T90.setTop (mkF m 80 #[.val (.int p0), .val (.int p1), .val (.int p2), .val (.int p3), .val (.int p4), .val (.int (7 : Int32)), .val (.int cb1), .val (.int cb2), .val (.int cb3), .val (.ref b84), .unset] [(.int (3 : Int32)), (.ref b84)]))
    refine ownStep (fun _ k => XS.iload X90.here hx rfl (hb hby at_80) rfl k) ?_
    show OwnGo _ _ _ _ _ _ _ (T90.setTop (mkF m 82 #[.val (.int p0), .val (.int p1), .val (.int p2), .val (.int p3), .val (.int p4), .val (.int (7 : Int32)), .val (.int cb1), .val (.int cb2), .val (.int cb3), .val (.ref b84), .unset] [(.int p4), (.int (3 : Int32)), (.ref b84)]))
    refine ownStep (fun _ k => XS.i2b X90.here hx rfl (hb hby at_82) rfl k) ?_
    show OwnGo _ _ _ _ _ _ _ (T90.setTop (mkF m 83 #[.val (.int p0), .val (.int p1), .val (.int p2), .val (.int p3), .val (.int p4), .val (.int (7 : Int32)), .val (.int cb1), .val (.int cb2), .val (.int cb3), .val (.ref b84), .unset] [(.int (p4.toInt8.toInt32)), (.int (3 : Int32)), (.ref b84)]))
    obtain ⟨cla91, Ara91, qa91, Sa91, Pa91, Ha91, Ga91⟩ := id V90
    have hina91 : ¬ ((3 : Int32) < 0 ∨ cla91.slots.size ≤ ((3 : Int32) : Int32).toNatClampNeg) := inb_of Sa91 ⟨by decide, by decide⟩
    obtain ⟨T92, h92, X92, e92, W92, st92⟩ := stB X90 hx hZ e90 Ara91 (j := (3 : Int32)) hina91 (g := (mkF m 83 #[.val (.int p0), .val (.int p1), .val (.int p2), .val (.int p3), .val (.int p4), .val (.int (7 : Int32)), .val (.int cb1), .val (.int cb2), .val (.int cb3), .val (.ref b84), .unset] [(.int (p4.toInt8.toInt32)), (.int (3 : Int32)), (.ref b84)])) rfl rfl (hb hby at_83)
    refine ownStep st92 ?_
    have N92 := Fr.snoc X92 N90 ge84
    have O92 := O90.wr W92 ge84
    show OwnGo _ _ _ _ _ _ _ (T92.setTop (mkF m 84 #[.val (.int p0), .val (.int p1), .val (.int p2), .val (.int p3), .val (.int p4), .val (.int (7 : Int32)), .val (.int cb1), .val (.int cb2), .val (.int cb3), .val (.ref b84), .unset] []))
    have V92 : Arv Z h92 b84 k84 .byte (7 : Int32) [(.int cb1), (.int cb2), (.int cb3), (.int ((p4.toInt8.toInt32).toInt8.toInt32)), (.int (0 : Int32)), (.int (0 : Int32)), (.int (0 : Int32))] (.int (0 : Int32)) := by
      have q := Arv.set Ara91 qa91 Sa91 Pa91 Ha91 Ga91 (fits_nar_byte _) W92 3 rfl (Nat.le_of_ble_eq_true rfl)
      exact q
    refine ownStep (fun _ k => XS.iload X92.here hx rfl (hb hby at_84) rfl k) ?_
    show OwnGo _ _ _ _ _ _ _ (T92.setTop (mkF m 86 #[.val (.int p0), .val (.int p1), .val (.int p2), .val (.int p3), .val (.int p4), .val (.int (7 : Int32)), .val (.int cb1), .val (.int cb2), .val (.int cb3), .val (.ref b84), .unset] [(.int (7 : Int32))]))
    refine ownStep (fun _ k => XS.iconst X92.here hx rfl (hb hby at_86) k) ?_
    show OwnGo _ _ _ _ _ _ _ (T92.setTop (mkF m 87 #[.val (.int p0), .val (.int p1), .val (.int p2), .val (.int p3), .val (.int p4), .val (.int (7 : Int32)), .val (.int cb1), .val (.int cb2), .val (.int cb3), .val (.ref b84), .unset] [(.int (4 : Int32)), (.int (7 : Int32))]))
    refine ownStep (fun _ k => XS.icmpNo X92.here hx rfl (hb hby at_87) rfl (tlt (by decide : (4 : Int32) < (7 : Int32))).2.2.2 k) ?_
    show OwnGo _ _ _ _ _ _ _ (T92.setTop (mkF m 90 #[.val (.int p0), .val (.int p1), .val (.int p2), .val (.int p3), .val (.int p4), .val (.int (7 : Int32)), .val (.int cb1), .val (.int cb2), .val (.int cb3), .val (.ref b84), .unset] []))
    refine ownStep (fun _ k => XS.aload X92.here hx rfl (hb hby at_90) rfl rfl k) ?_
    show OwnGo _ _ _ _ _ _ _ (T92.setTop (mkF m 92 #[.val (.int p0), .val (.int p1), .val (.int p2), .val (.int p3), .val (.int p4), .val (.int (7 : Int32)), .val (.int cb1), .val (.int cb2), .val (.int cb3), .val (.ref b84), .unset] [(.ref b84)]))
    refine ownStep (fun _ k => XS.iconst X92.here hx rfl (hb hby at_92) k) ?_
    show OwnGo _ _ _ _ _ _ _ (T92.setTop (mkF m 93 #[.val (.int p0), .val (.int p1), .val (.int p2), .val (.int p3), .val (.int p4), .val (.int (7 : Int32)), .val (.int cb1), .val (.int cb2), .val (.int cb3), .val (.ref b84), .unset] [(.int (4 : Int32)), (.ref b84)]))
    refine ownStep (fun _ k => XS.iload X92.here hx rfl (hb hby at_93) rfl k) ?_
    show OwnGo _ _ _ _ _ _ _ (T92.setTop (mkF m 95 #[.val (.int p0), .val (.int p1), .val (.int p2), .val (.int p3), .val (.int p4), .val (.int (7 : Int32)), .val (.int cb1), .val (.int cb2), .val (.int cb3), .val (.ref b84), .unset] [(.int p4), (.int (4 : Int32)), (.ref b84)]))
    refine ownStep (fun _ k => XS.bipush X92.here hx rfl (hb hby at_95) k) ?_
    show OwnGo _ _ _ _ _ _ _ (T92.setTop (mkF m 97 #[.val (.int p0), .val (.int p1), .val (.int p2), .val (.int p3), .val (.int p4), .val (.int (7 : Int32)), .val (.int cb1), .val (.int cb2), .val (.int cb3), .val (.ref b84), .unset] [(.int (8 : Int32)), (.int p4), (.int (4 : Int32)), (.ref b84)]))
    refine ownStep (fun _ k => XS.ishr X92.here hx rfl (hb hby at_97) rfl k) ?_
    show OwnGo _ _ _ _ _ _ _ (T92.setTop (mkF m 98 #[.val (.int p0), .val (.int p1), .val (.int p2), .val (.int p3), .val (.int p4), .val (.int (7 : Int32)), .val (.int cb1), .val (.int cb2), .val (.int cb3), .val (.ref b84), .unset] [(.int (p4 >>> ((8 : Int32) &&& 31))), (.int (4 : Int32)), (.ref b84)]))
    refine ownStep (fun _ k => XS.i2b X92.here hx rfl (hb hby at_98) rfl k) ?_
    show OwnGo _ _ _ _ _ _ _ (T92.setTop (mkF m 99 #[.val (.int p0), .val (.int p1), .val (.int p2), .val (.int p3), .val (.int p4), .val (.int (7 : Int32)), .val (.int cb1), .val (.int cb2), .val (.int cb3), .val (.ref b84), .unset] [(.int ((p4 >>> ((8 : Int32) &&& 31)).toInt8.toInt32)), (.int (4 : Int32)), (.ref b84)]))
    obtain ⟨cla93, Ara93, qa93, Sa93, Pa93, Ha93, Ga93⟩ := id V92
    have hina93 : ¬ ((4 : Int32) < 0 ∨ cla93.slots.size ≤ ((4 : Int32) : Int32).toNatClampNeg) := inb_of Sa93 ⟨by decide, by decide⟩
    obtain ⟨T94, h94, X94, e94, W94, st94⟩ := stB X92 hx hZ e92 Ara93 (j := (4 : Int32)) hina93 (g := (mkF m 99 #[.val (.int p0), .val (.int p1), .val (.int p2), .val (.int p3), .val (.int p4), .val (.int (7 : Int32)), .val (.int cb1), .val (.int cb2), .val (.int cb3), .val (.ref b84), .unset] [(.int ((p4 >>> ((8 : Int32) &&& 31)).toInt8.toInt32)), (.int (4 : Int32)), (.ref b84)])) rfl rfl (hb hby at_99)
    refine ownStep st94 ?_
    have N94 := Fr.snoc X94 N92 ge84
    have O94 := O92.wr W94 ge84
    show OwnGo _ _ _ _ _ _ _ (T94.setTop (mkF m 100 #[.val (.int p0), .val (.int p1), .val (.int p2), .val (.int p3), .val (.int p4), .val (.int (7 : Int32)), .val (.int cb1), .val (.int cb2), .val (.int cb3), .val (.ref b84), .unset] []))
    have V94 : Arv Z h94 b84 k84 .byte (7 : Int32) [(.int cb1), (.int cb2), (.int cb3), (.int ((p4.toInt8.toInt32).toInt8.toInt32)), (.int (((p4 >>> ((8 : Int32) &&& 31)).toInt8.toInt32).toInt8.toInt32)), (.int (0 : Int32)), (.int (0 : Int32))] (.int (0 : Int32)) := by
      have q := Arv.set Ara93 qa93 Sa93 Pa93 Ha93 Ga93 (fits_nar_byte _) W94 4 rfl (Nat.le_of_ble_eq_true rfl)
      exact q
    refine ownStep (fun _ k => XS.iload X94.here hx rfl (hb hby at_100) rfl k) ?_
    show OwnGo _ _ _ _ _ _ _ (T94.setTop (mkF m 102 #[.val (.int p0), .val (.int p1), .val (.int p2), .val (.int p3), .val (.int p4), .val (.int (7 : Int32)), .val (.int cb1), .val (.int cb2), .val (.int cb3), .val (.ref b84), .unset] [(.int (7 : Int32))]))
    refine ownStep (fun _ k => XS.iconst X94.here hx rfl (hb hby at_102) k) ?_
    show OwnGo _ _ _ _ _ _ _ (T94.setTop (mkF m 103 #[.val (.int p0), .val (.int p1), .val (.int p2), .val (.int p3), .val (.int p4), .val (.int (7 : Int32)), .val (.int cb1), .val (.int cb2), .val (.int cb3), .val (.ref b84), .unset] [(.int (5 : Int32)), (.int (7 : Int32))]))
    refine ownStep (fun _ k => XS.icmpNo X94.here hx rfl (hb hby at_103) rfl (tlt (by decide : (5 : Int32) < (7 : Int32))).2.2.2 k) ?_
    show OwnGo _ _ _ _ _ _ _ (T94.setTop (mkF m 106 #[.val (.int p0), .val (.int p1), .val (.int p2), .val (.int p3), .val (.int p4), .val (.int (7 : Int32)), .val (.int cb1), .val (.int cb2), .val (.int cb3), .val (.ref b84), .unset] []))
    refine ownStep (fun _ k => XS.aload X94.here hx rfl (hb hby at_106) rfl rfl k) ?_
    show OwnGo _ _ _ _ _ _ _ (T94.setTop (mkF m 108 #[.val (.int p0), .val (.int p1), .val (.int p2), .val (.int p3), .val (.int p4), .val (.int (7 : Int32)), .val (.int cb1), .val (.int cb2), .val (.int cb3), .val (.ref b84), .unset] [(.ref b84)]))
    refine ownStep (fun _ k => XS.iconst X94.here hx rfl (hb hby at_108) k) ?_
    show OwnGo _ _ _ _ _ _ _ (T94.setTop (mkF m 109 #[.val (.int p0), .val (.int p1), .val (.int p2), .val (.int p3), .val (.int p4), .val (.int (7 : Int32)), .val (.int cb1), .val (.int cb2), .val (.int cb3), .val (.ref b84), .unset] [(.int (5 : Int32)), (.ref b84)]))
    refine ownStep (fun _ k => XS.iload X94.here hx rfl (hb hby at_109) rfl k) ?_
    show OwnGo _ _ _ _ _ _ _ (T94.setTop (mkF m 111 #[.val (.int p0), .val (.int p1), .val (.int p2), .val (.int p3), .val (.int p4), .val (.int (7 : Int32)), .val (.int cb1), .val (.int cb2), .val (.int cb3), .val (.ref b84), .unset] [(.int p4), (.int (5 : Int32)), (.ref b84)]))
    refine ownStep (fun _ k => XS.bipush X94.here hx rfl (hb hby at_111) k) ?_
    show OwnGo _ _ _ _ _ _ _ (T94.setTop (mkF m 113 #[.val (.int p0), .val (.int p1), .val (.int p2), .val (.int p3), .val (.int p4), .val (.int (7 : Int32)), .val (.int cb1), .val (.int cb2), .val (.int cb3), .val (.ref b84), .unset] [(.int (16 : Int32)), (.int p4), (.int (5 : Int32)), (.ref b84)]))
    refine ownStep (fun _ k => XS.ishr X94.here hx rfl (hb hby at_113) rfl k) ?_
    show OwnGo _ _ _ _ _ _ _ (T94.setTop (mkF m 114 #[.val (.int p0), .val (.int p1), .val (.int p2), .val (.int p3), .val (.int p4), .val (.int (7 : Int32)), .val (.int cb1), .val (.int cb2), .val (.int cb3), .val (.ref b84), .unset] [(.int (p4 >>> ((16 : Int32) &&& 31))), (.int (5 : Int32)), (.ref b84)]))
    refine ownStep (fun _ k => XS.i2b X94.here hx rfl (hb hby at_114) rfl k) ?_
    show OwnGo _ _ _ _ _ _ _ (T94.setTop (mkF m 115 #[.val (.int p0), .val (.int p1), .val (.int p2), .val (.int p3), .val (.int p4), .val (.int (7 : Int32)), .val (.int cb1), .val (.int cb2), .val (.int cb3), .val (.ref b84), .unset] [(.int ((p4 >>> ((16 : Int32) &&& 31)).toInt8.toInt32)), (.int (5 : Int32)), (.ref b84)]))
    obtain ⟨cla95, Ara95, qa95, Sa95, Pa95, Ha95, Ga95⟩ := id V94
    have hina95 : ¬ ((5 : Int32) < 0 ∨ cla95.slots.size ≤ ((5 : Int32) : Int32).toNatClampNeg) := inb_of Sa95 ⟨by decide, by decide⟩
    obtain ⟨T96, h96, X96, e96, W96, st96⟩ := stB X94 hx hZ e94 Ara95 (j := (5 : Int32)) hina95 (g := (mkF m 115 #[.val (.int p0), .val (.int p1), .val (.int p2), .val (.int p3), .val (.int p4), .val (.int (7 : Int32)), .val (.int cb1), .val (.int cb2), .val (.int cb3), .val (.ref b84), .unset] [(.int ((p4 >>> ((16 : Int32) &&& 31)).toInt8.toInt32)), (.int (5 : Int32)), (.ref b84)])) rfl rfl (hb hby at_115)
    refine ownStep st96 ?_
    have N96 := Fr.snoc X96 N94 ge84
    have O96 := O94.wr W96 ge84
    show OwnGo _ _ _ _ _ _ _ (T96.setTop (mkF m 116 #[.val (.int p0), .val (.int p1), .val (.int p2), .val (.int p3), .val (.int p4), .val (.int (7 : Int32)), .val (.int cb1), .val (.int cb2), .val (.int cb3), .val (.ref b84), .unset] []))
    have V96 : Arv Z h96 b84 k84 .byte (7 : Int32) [(.int cb1), (.int cb2), (.int cb3), (.int ((p4.toInt8.toInt32).toInt8.toInt32)), (.int (((p4 >>> ((8 : Int32) &&& 31)).toInt8.toInt32).toInt8.toInt32)), (.int (((p4 >>> ((16 : Int32) &&& 31)).toInt8.toInt32).toInt8.toInt32)), (.int (0 : Int32))] (.int (0 : Int32)) := by
      have q := Arv.set Ara95 qa95 Sa95 Pa95 Ha95 Ga95 (fits_nar_byte _) W96 5 rfl (Nat.le_of_ble_eq_true rfl)
      exact q
    refine ownStep (fun _ k => XS.iload X96.here hx rfl (hb hby at_116) rfl k) ?_
    show OwnGo _ _ _ _ _ _ _ (T96.setTop (mkF m 118 #[.val (.int p0), .val (.int p1), .val (.int p2), .val (.int p3), .val (.int p4), .val (.int (7 : Int32)), .val (.int cb1), .val (.int cb2), .val (.int cb3), .val (.ref b84), .unset] [(.int (7 : Int32))]))
    refine ownStep (fun _ k => XS.bipush X96.here hx rfl (hb hby at_118) k) ?_
    show OwnGo _ _ _ _ _ _ _ (T96.setTop (mkF m 120 #[.val (.int p0), .val (.int p1), .val (.int p2), .val (.int p3), .val (.int p4), .val (.int (7 : Int32)), .val (.int cb1), .val (.int cb2), .val (.int cb3), .val (.ref b84), .unset] [(.int (6 : Int32)), (.int (7 : Int32))]))
    refine ownStep (fun _ k => XS.icmpNo X96.here hx rfl (hb hby at_120) rfl (tlt (by decide : (6 : Int32) < (7 : Int32))).2.2.2 k) ?_
    show OwnGo _ _ _ _ _ _ _ (T96.setTop (mkF m 123 #[.val (.int p0), .val (.int p1), .val (.int p2), .val (.int p3), .val (.int p4), .val (.int (7 : Int32)), .val (.int cb1), .val (.int cb2), .val (.int cb3), .val (.ref b84), .unset] []))
    refine ownStep (fun _ k => XS.aload X96.here hx rfl (hb hby at_123) rfl rfl k) ?_
    show OwnGo _ _ _ _ _ _ _ (T96.setTop (mkF m 125 #[.val (.int p0), .val (.int p1), .val (.int p2), .val (.int p3), .val (.int p4), .val (.int (7 : Int32)), .val (.int cb1), .val (.int cb2), .val (.int cb3), .val (.ref b84), .unset] [(.ref b84)]))
    refine ownStep (fun _ k => XS.bipush X96.here hx rfl (hb hby at_125) k) ?_
    show OwnGo _ _ _ _ _ _ _ (T96.setTop (mkF m 127 #[.val (.int p0), .val (.int p1), .val (.int p2), .val (.int p3), .val (.int p4), .val (.int (7 : Int32)), .val (.int cb1), .val (.int cb2), .val (.int cb3), .val (.ref b84), .unset] [(.int (6 : Int32)), (.ref b84)]))
    refine ownStep (fun _ k => XS.iload X96.here hx rfl (hb hby at_127) rfl k) ?_
    show OwnGo _ _ _ _ _ _ _ (T96.setTop (mkF m 129 #[.val (.int p0), .val (.int p1), .val (.int p2), .val (.int p3), .val (.int p4), .val (.int (7 : Int32)), .val (.int cb1), .val (.int cb2), .val (.int cb3), .val (.ref b84), .unset] [(.int p4), (.int (6 : Int32)), (.ref b84)]))
    refine ownStep (fun _ k => XS.bipush X96.here hx rfl (hb hby at_129) k) ?_
    show OwnGo _ _ _ _ _ _ _ (T96.setTop (mkF m 131 #[.val (.int p0), .val (.int p1), .val (.int p2), .val (.int p3), .val (.int p4), .val (.int (7 : Int32)), .val (.int cb1), .val (.int cb2), .val (.int cb3), .val (.ref b84), .unset] [(.int (24 : Int32)), (.int p4), (.int (6 : Int32)), (.ref b84)]))
    refine ownStep (fun _ k => XS.ishr X96.here hx rfl (hb hby at_131) rfl k) ?_
    show OwnGo _ _ _ _ _ _ _ (T96.setTop (mkF m 132 #[.val (.int p0), .val (.int p1), .val (.int p2), .val (.int p3), .val (.int p4), .val (.int (7 : Int32)), .val (.int cb1), .val (.int cb2), .val (.int cb3), .val (.ref b84), .unset] [(.int (p4 >>> ((24 : Int32) &&& 31))), (.int (6 : Int32)), (.ref b84)]))
    refine ownStep (fun _ k => XS.i2b X96.here hx rfl (hb hby at_132) rfl k) ?_
    show OwnGo _ _ _ _ _ _ _ (T96.setTop (mkF m 133 #[.val (.int p0), .val (.int p1), .val (.int p2), .val (.int p3), .val (.int p4), .val (.int (7 : Int32)), .val (.int cb1), .val (.int cb2), .val (.int cb3), .val (.ref b84), .unset] [(.int ((p4 >>> ((24 : Int32) &&& 31)).toInt8.toInt32)), (.int (6 : Int32)), (.ref b84)]))
    obtain ⟨cla97, Ara97, qa97, Sa97, Pa97, Ha97, Ga97⟩ := id V96
    have hina97 : ¬ ((6 : Int32) < 0 ∨ cla97.slots.size ≤ ((6 : Int32) : Int32).toNatClampNeg) := inb_of Sa97 ⟨by decide, by decide⟩
    obtain ⟨T98, h98, X98, e98, W98, st98⟩ := stB X96 hx hZ e96 Ara97 (j := (6 : Int32)) hina97 (g := (mkF m 133 #[.val (.int p0), .val (.int p1), .val (.int p2), .val (.int p3), .val (.int p4), .val (.int (7 : Int32)), .val (.int cb1), .val (.int cb2), .val (.int cb3), .val (.ref b84), .unset] [(.int ((p4 >>> ((24 : Int32) &&& 31)).toInt8.toInt32)), (.int (6 : Int32)), (.ref b84)])) rfl rfl (hb hby at_133)
    refine ownStep st98 ?_
    have N98 := Fr.snoc X98 N96 ge84
    have O98 := O96.wr W98 ge84
    show OwnGo _ _ _ _ _ _ _ (T98.setTop (mkF m 134 #[.val (.int p0), .val (.int p1), .val (.int p2), .val (.int p3), .val (.int p4), .val (.int (7 : Int32)), .val (.int cb1), .val (.int cb2), .val (.int cb3), .val (.ref b84), .unset] []))
    have V98 : Arv Z h98 b84 k84 .byte (7 : Int32) [(.int cb1), (.int cb2), (.int cb3), (.int ((p4.toInt8.toInt32).toInt8.toInt32)), (.int (((p4 >>> ((8 : Int32) &&& 31)).toInt8.toInt32).toInt8.toInt32)), (.int (((p4 >>> ((16 : Int32) &&& 31)).toInt8.toInt32).toInt8.toInt32)), (.int (((p4 >>> ((24 : Int32) &&& 31)).toInt8.toInt32).toInt8.toInt32))] (.int (0 : Int32)) := by
      have q := Arv.set Ara97 qa97 Sa97 Pa97 Ha97 Ga97 (fits_nar_byte _) W98 6 rfl (Nat.le_of_ble_eq_true rfl)
      exact q
    refine ownStep (fun _ k => XS.iload X98.here hx rfl (hb hby at_134) rfl k) ?_
    show OwnGo _ _ _ _ _ _ _ (T98.setTop (mkF m 136 #[.val (.int p0), .val (.int p1), .val (.int p2), .val (.int p3), .val (.int p4), .val (.int (7 : Int32)), .val (.int cb1), .val (.int cb2), .val (.int cb3), .val (.ref b84), .unset] [(.int (7 : Int32))]))
    refine ownStep (fun _ k => XS.iconst X98.here hx rfl (hb hby at_136) k) ?_
    show OwnGo _ _ _ _ _ _ _ (T98.setTop (mkF m 137 #[.val (.int p0), .val (.int p1), .val (.int p2), .val (.int p3), .val (.int p4), .val (.int (7 : Int32)), .val (.int cb1), .val (.int cb2), .val (.int cb3), .val (.ref b84), .unset] [(.int (3 : Int32)), (.int (7 : Int32))]))
    refine ownStep (fun _ k => XS.icmpNo X98.here hx rfl (hb hby at_137) rfl (flt (by decide : ¬ ((7 : Int32) < (3 : Int32)))).1 k) ?_
    show OwnGo _ _ _ _ _ _ _ (T98.setTop (mkF m 140 #[.val (.int p0), .val (.int p1), .val (.int p2), .val (.int p3), .val (.int p4), .val (.int (7 : Int32)), .val (.int cb1), .val (.int cb2), .val (.int cb3), .val (.ref b84), .unset] []))
    refine ownStep (fun _ k => XS.iload X98.here hx rfl (hb hby at_140) rfl k) ?_
    show OwnGo _ _ _ _ _ _ _ (T98.setTop (mkF m 142 #[.val (.int p0), .val (.int p1), .val (.int p2), .val (.int p3), .val (.int p4), .val (.int (7 : Int32)), .val (.int cb1), .val (.int cb2), .val (.int cb3), .val (.ref b84), .unset] [(.int cb1)]))
    refine ownStep (fun _ k => XS.bipush X98.here hx rfl (hb hby at_142) k) ?_
    show OwnGo _ _ _ _ _ _ _ (T98.setTop (mkF m 144 #[.val (.int p0), .val (.int p1), .val (.int p2), .val (.int p3), .val (.int p4), .val (.int (7 : Int32)), .val (.int cb1), .val (.int cb2), .val (.int cb3), .val (.ref b84), .unset] [(.int (56 : Int32)), (.int cb1)]))
    by_cases t0 : cb1 = (56 : Int32)
    · skip
      refine ownStep (fun _ k => XS.icmpNo X98.here hx rfl (hb hby at_144) rfl (teq t0).2 k) ?_
      show OwnGo _ _ _ _ _ _ _ (T98.setTop (mkF m 147 #[.val (.int p0), .val (.int p1), .val (.int p2), .val (.int p3), .val (.int p4), .val (.int (7 : Int32)), .val (.int cb1), .val (.int cb2), .val (.int cb3), .val (.ref b84), .unset] []))
      refine ownStep (fun _ k => XS.iload X98.here hx rfl (hb hby at_147) rfl k) ?_
      show OwnGo _ _ _ _ _ _ _ (T98.setTop (mkF m 149 #[.val (.int p0), .val (.int p1), .val (.int p2), .val (.int p3), .val (.int p4), .val (.int (7 : Int32)), .val (.int cb1), .val (.int cb2), .val (.int cb3), .val (.ref b84), .unset] [(.int cb2)]))
      refine ownStep (fun _ k => XS.bipush X98.here hx rfl (hb hby at_149) k) ?_
      show OwnGo _ _ _ _ _ _ _ (T98.setTop (mkF m 151 #[.val (.int p0), .val (.int p1), .val (.int p2), .val (.int p3), .val (.int p4), .val (.int (7 : Int32)), .val (.int cb1), .val (.int cb2), .val (.int cb3), .val (.ref b84), .unset] [(.int (56 : Int32)), (.int cb2)]))
      by_cases t1 : cb2 = (56 : Int32)
      · skip
        refine ownStep (fun _ k => XS.icmpNo X98.here hx rfl (hb hby at_151) rfl (teq t1).2 k) ?_
        show OwnGo _ _ _ _ _ _ _ (T98.setTop (mkF m 154 #[.val (.int p0), .val (.int p1), .val (.int p2), .val (.int p3), .val (.int p4), .val (.int (7 : Int32)), .val (.int cb1), .val (.int cb2), .val (.int cb3), .val (.ref b84), .unset] []))
        refine ownStep (fun _ k => XS.iload X98.here hx rfl (hb hby at_154) rfl k) ?_
        show OwnGo _ _ _ _ _ _ _ (T98.setTop (mkF m 156 #[.val (.int p0), .val (.int p1), .val (.int p2), .val (.int p3), .val (.int p4), .val (.int (7 : Int32)), .val (.int cb1), .val (.int cb2), .val (.int cb3), .val (.ref b84), .unset] [(.int cb3)]))
        refine ownStep (fun _ k => XS.bipush X98.here hx rfl (hb hby at_156) k) ?_
        show OwnGo _ _ _ _ _ _ _ (T98.setTop (mkF m 158 #[.val (.int p0), .val (.int p1), .val (.int p2), .val (.int p3), .val (.int p4), .val (.int (7 : Int32)), .val (.int cb1), .val (.int cb2), .val (.int cb3), .val (.ref b84), .unset] [(.int (44 : Int32)), (.int cb3)]))
        by_cases t2 : cb3 = (44 : Int32)
        · skip
          refine ownStep (fun _ k => XS.icmpNo X98.here hx rfl (hb hby at_158) rfl (teq t2).2 k) ?_
          show OwnGo _ _ _ _ _ _ _ (T98.setTop (mkF m 161 #[.val (.int p0), .val (.int p1), .val (.int p2), .val (.int p3), .val (.int p4), .val (.int (7 : Int32)), .val (.int cb1), .val (.int cb2), .val (.int cb3), .val (.ref b84), .unset] []))
          refine ownStep (fun _ k => XS.iconst X98.here hx rfl (hb hby at_161) k) ?_
          show OwnGo _ _ _ _ _ _ _ (T98.setTop (mkF m 162 #[.val (.int p0), .val (.int p1), .val (.int p2), .val (.int p3), .val (.int p4), .val (.int (7 : Int32)), .val (.int cb1), .val (.int cb2), .val (.int cb3), .val (.ref b84), .unset] [(.int (1 : Int32))]))
          refine ownStep (fun _ k => XS.goto X98.here hx rfl (pc0 := 162) (pc' := 166) rfl (hb hby at_162) (by decide) (by decide) k) ?_
          show OwnGo _ _ _ _ _ _ _ (T98.setTop (mkF m 166 #[.val (.int p0), .val (.int p1), .val (.int p2), .val (.int p3), .val (.int p4), .val (.int (7 : Int32)), .val (.int cb1), .val (.int cb2), .val (.int cb3), .val (.ref b84), .unset] [(.int (1 : Int32))]))
          refine ownStep (fun _ k => XS.istore X98.here hx rfl (hb hby at_166) rfl (l' := #[.val (.int p0), .val (.int p1), .val (.int p2), .val (.int p3), .val (.int p4), .val (.int (7 : Int32)), .val (.int cb1), .val (.int cb2), .val (.int cb3), .val (.ref b84), .val (.int (1 : Int32))]) rfl k) ?_
          show OwnGo _ _ _ _ _ _ _ (T98.setTop (mkF m 168 #[.val (.int p0), .val (.int p1), .val (.int p2), .val (.int p3), .val (.int p4), .val (.int (7 : Int32)), .val (.int cb1), .val (.int cb2), .val (.int cb3), .val (.ref b84), .val (.int (1 : Int32))] []))
          refine ownStep (fun _ k => XS.aload X98.here hx rfl (hb hby at_168) rfl rfl k) ?_
          show OwnGo _ _ _ _ _ _ _ (T98.setTop (mkF m 170 #[.val (.int p0), .val (.int p1), .val (.int p2), .val (.int p3), .val (.int p4), .val (.int (7 : Int32)), .val (.int cb1), .val (.int cb2), .val (.int cb3), .val (.ref b84), .val (.int (1 : Int32))] [(.ref b84)]))
          obtain ⟨_, _, ⟨T99, L99, k99, n99⟩, -, X99, ⟨Lc99, hQ99, l99, y99, z99⟩, st99⟩ := Jvm.LawKit.callS X98 hx (y := (⟨"com/example/counterfoil/counterfoil/io/bai2/Fields", "isContinuation", "([B)Z"⟩ : MethodName)) hown (mvT hZ (hw _ (List.mem_of_getElem? (i := 5) rfl))) (mvT hZ (hw _ (List.mem_of_getElem? (i := 6) rfl))) (mvT hZ (hw _ (List.mem_of_getElem? (i := 7) rfl))) (mvT hZ (hw _ (List.mem_of_getElem? (i := 8) rfl))) (by decide) (backOf (W := 0) (rm2 l Z a0 hw [] b84 k84 (7 : Int32) _ cb1 cb2 cb3 wC kC (1 : Int32) h98 n0 O98 SC VC V98 (by decide) (by decide) (by decide) (by decide) rfl rfl rfl (if_pos ⟨t0, t1, t2⟩)) hZ (hw _ (List.mem_of_getElem? (i := 8) rfl)) (hw _ (List.mem_of_getElem? (i := 7) rfl)) (by decide) (by decide)) (g := (mkF m 170 #[.val (.int p0), .val (.int p1), .val (.int p2), .val (.int p3), .val (.int p4), .val (.int (7 : Int32)), .val (.int cb1), .val (.int cb2), .val (.int cb3), .val (.ref b84), .val (.int (1 : Int32))] [(.ref b84)])) rfl (by rw [hml]; rfl) (argsL := [(.ref b84)]) (rest := []) (lenOf own_pd1 rfl) rfl (by show 2 * 0 + _ ≤ _; exact Nat.le_of_eq rfl) (hb hby at_170) (fun _ _ => ⟨rfl, e98, (by decide : 0 + 1 + 0 ≤ _), (by decide : 0 + 7 + 0 ≤ _)⟩)
          dsimp only [Pt.U, Pt.locs, Pt.cells, Pt.slots] at X99 l99 y99 z99 st99 hQ99
          subst l99 y99 z99
          obtain ⟨rfl, N99q, e99⟩ := hQ99
          have N99 := Fr.app N98 N99q
          refine ownStep st99 ?_
          show OwnGo _ _ _ _ _ _ _ (T99.setTop (mkF m 173 #[.val (.int p0), .val (.int p1), .val (.int p2), .val (.int p3), .val (.int p4), .val (.int (7 : Int32)), .val (.int cb1), .val (.int cb2), .val (.int cb3), .val (.ref b84), .val (.int (1 : Int32))] [(.int (1 : Int32))]))
          refine ownStep (fun _ k => XS.iload X99.here hx rfl (hb hby at_173) rfl k) ?_
          show OwnGo _ _ _ _ _ _ _ (T99.setTop (mkF m 175 #[.val (.int p0), .val (.int p1), .val (.int p2), .val (.int p3), .val (.int p4), .val (.int (7 : Int32)), .val (.int cb1), .val (.int cb2), .val (.int cb3), .val (.ref b84), .val (.int (1 : Int32))] [(.int (1 : Int32)), (.int (1 : Int32))]))
          refine ownStep (fun _ k => XS.icmpNo X99.here hx rfl (hb hby at_175) rfl (teq (by decide : (1 : Int32) = (1 : Int32))).2 k) ?_
          show OwnGo _ _ _ _ _ _ _ (T99.setTop (mkF m 178 #[.val (.int p0), .val (.int p1), .val (.int p2), .val (.int p3), .val (.int p4), .val (.int (7 : Int32)), .val (.int cb1), .val (.int cb2), .val (.int cb3), .val (.ref b84), .val (.int (1 : Int32))] []))
          refine ownStep (fun _ k => XS.iconst X99.here hx rfl (hb hby at_178) k) ?_
          show OwnGo _ _ _ _ _ _ _ (T99.setTop (mkF m 179 #[.val (.int p0), .val (.int p1), .val (.int p2), .val (.int p3), .val (.int p4), .val (.int (7 : Int32)), .val (.int cb1), .val (.int cb2), .val (.int cb3), .val (.ref b84), .val (.int (1 : Int32))] [(.int (1 : Int32))]))
          refine ownStep (fun _ k => XS.goto X99.here hx rfl (pc0 := 179) (pc' := 183) rfl (hb hby at_179) (by decide) (by decide) k) ?_
          show OwnGo _ _ _ _ _ _ _ (T99.setTop (mkF m 183 #[.val (.int p0), .val (.int p1), .val (.int p2), .val (.int p3), .val (.int p4), .val (.int (7 : Int32)), .val (.int cb1), .val (.int cb2), .val (.int cb3), .val (.ref b84), .val (.int (1 : Int32))] [(.int (1 : Int32))]))
          have eq183 : T99.heap = h98 := e99
          exact ownRetN X99 hx (t := .boolean) Bd.returns (by simp) (hb hby at_183) (BodyLoose.notSynchronized Bd) (by decide) (by decide) (by rw [eq183]; exact ⟨rfl, N99⟩)
        · skip
          refine ownStep (fun _ k => XS.icmpYes X98.here hx rfl (pc0 := 158) (pc' := 165) rfl (hb hby at_158) rfl (feq t2).2 (by decide) (by decide) k) ?_
          show OwnGo _ _ _ _ _ _ _ (T98.setTop (mkF m 165 #[.val (.int p0), .val (.int p1), .val (.int p2), .val (.int p3), .val (.int p4), .val (.int (7 : Int32)), .val (.int cb1), .val (.int cb2), .val (.int cb3), .val (.ref b84), .unset] []))
          refine ownStep (fun _ k => XS.iconst X98.here hx rfl (hb hby at_165) k) ?_
          show OwnGo _ _ _ _ _ _ _ (T98.setTop (mkF m 166 #[.val (.int p0), .val (.int p1), .val (.int p2), .val (.int p3), .val (.int p4), .val (.int (7 : Int32)), .val (.int cb1), .val (.int cb2), .val (.int cb3), .val (.ref b84), .unset] [(.int (0 : Int32))]))
          refine ownStep (fun _ k => XS.istore X98.here hx rfl (hb hby at_166) rfl (l' := #[.val (.int p0), .val (.int p1), .val (.int p2), .val (.int p3), .val (.int p4), .val (.int (7 : Int32)), .val (.int cb1), .val (.int cb2), .val (.int cb3), .val (.ref b84), .val (.int (0 : Int32))]) rfl k) ?_
          show OwnGo _ _ _ _ _ _ _ (T98.setTop (mkF m 168 #[.val (.int p0), .val (.int p1), .val (.int p2), .val (.int p3), .val (.int p4), .val (.int (7 : Int32)), .val (.int cb1), .val (.int cb2), .val (.int cb3), .val (.ref b84), .val (.int (0 : Int32))] []))
          refine ownStep (fun _ k => XS.aload X98.here hx rfl (hb hby at_168) rfl rfl k) ?_
          show OwnGo _ _ _ _ _ _ _ (T98.setTop (mkF m 170 #[.val (.int p0), .val (.int p1), .val (.int p2), .val (.int p3), .val (.int p4), .val (.int (7 : Int32)), .val (.int cb1), .val (.int cb2), .val (.int cb3), .val (.ref b84), .val (.int (0 : Int32))] [(.ref b84)]))
          obtain ⟨_, _, ⟨T100, L100, k100, n100⟩, -, X100, ⟨Lc100, hQ100, l100, y100, z100⟩, st100⟩ := Jvm.LawKit.callS X98 hx (y := (⟨"com/example/counterfoil/counterfoil/io/bai2/Fields", "isContinuation", "([B)Z"⟩ : MethodName)) hown (mvT hZ (hw _ (List.mem_of_getElem? (i := 5) rfl))) (mvT hZ (hw _ (List.mem_of_getElem? (i := 6) rfl))) (mvT hZ (hw _ (List.mem_of_getElem? (i := 7) rfl))) (mvT hZ (hw _ (List.mem_of_getElem? (i := 8) rfl))) (by decide) (backOf (W := 0) (rm2 l Z a0 hw [] b84 k84 (7 : Int32) _ cb1 cb2 cb3 wC kC (0 : Int32) h98 n0 O98 SC VC V98 (by decide) (by decide) (by decide) (by decide) rfl rfl rfl (if_neg (fun q => t2 q.2.2))) hZ (hw _ (List.mem_of_getElem? (i := 8) rfl)) (hw _ (List.mem_of_getElem? (i := 7) rfl)) (by decide) (by decide)) (g := (mkF m 170 #[.val (.int p0), .val (.int p1), .val (.int p2), .val (.int p3), .val (.int p4), .val (.int (7 : Int32)), .val (.int cb1), .val (.int cb2), .val (.int cb3), .val (.ref b84), .val (.int (0 : Int32))] [(.ref b84)])) rfl (by rw [hml]; rfl) (argsL := [(.ref b84)]) (rest := []) (lenOf own_pd1 rfl) rfl (by show 2 * 0 + _ ≤ _; exact Nat.le_of_eq rfl) (hb hby at_170) (fun _ _ => ⟨rfl, e98, (by decide : 0 + 1 + 0 ≤ _), (by decide : 0 + 7 + 0 ≤ _)⟩)
          dsimp only [Pt.U, Pt.locs, Pt.cells, Pt.slots] at X100 l100 y100 z100 st100 hQ100
          subst l100 y100 z100
          obtain ⟨rfl, N100q, e100⟩ := hQ100
          have N100 := Fr.app N98 N100q
          refine ownStep st100 ?_
          show OwnGo _ _ _ _ _ _ _ (T100.setTop (mkF m 173 #[.val (.int p0), .val (.int p1), .val (.int p2), .val (.int p3), .val (.int p4), .val (.int (7 : Int32)), .val (.int cb1), .val (.int cb2), .val (.int cb3), .val (.ref b84), .val (.int (0 : Int32))] [(.int (0 : Int32))]))
          refine ownStep (fun _ k => XS.iload X100.here hx rfl (hb hby at_173) rfl k) ?_
          show OwnGo _ _ _ _ _ _ _ (T100.setTop (mkF m 175 #[.val (.int p0), .val (.int p1), .val (.int p2), .val (.int p3), .val (.int p4), .val (.int (7 : Int32)), .val (.int cb1), .val (.int cb2), .val (.int cb3), .val (.ref b84), .val (.int (0 : Int32))] [(.int (0 : Int32)), (.int (0 : Int32))]))
          refine ownStep (fun _ k => XS.icmpNo X100.here hx rfl (hb hby at_175) rfl (teq (by decide : (0 : Int32) = (0 : Int32))).2 k) ?_
          show OwnGo _ _ _ _ _ _ _ (T100.setTop (mkF m 178 #[.val (.int p0), .val (.int p1), .val (.int p2), .val (.int p3), .val (.int p4), .val (.int (7 : Int32)), .val (.int cb1), .val (.int cb2), .val (.int cb3), .val (.ref b84), .val (.int (0 : Int32))] []))
          refine ownStep (fun _ k => XS.iconst X100.here hx rfl (hb hby at_178) k) ?_
          show OwnGo _ _ _ _ _ _ _ (T100.setTop (mkF m 179 #[.val (.int p0), .val (.int p1), .val (.int p2), .val (.int p3), .val (.int p4), .val (.int (7 : Int32)), .val (.int cb1), .val (.int cb2), .val (.int cb3), .val (.ref b84), .val (.int (0 : Int32))] [(.int (1 : Int32))]))
          refine ownStep (fun _ k => XS.goto X100.here hx rfl (pc0 := 179) (pc' := 183) rfl (hb hby at_179) (by decide) (by decide) k) ?_
          show OwnGo _ _ _ _ _ _ _ (T100.setTop (mkF m 183 #[.val (.int p0), .val (.int p1), .val (.int p2), .val (.int p3), .val (.int p4), .val (.int (7 : Int32)), .val (.int cb1), .val (.int cb2), .val (.int cb3), .val (.ref b84), .val (.int (0 : Int32))] [(.int (1 : Int32))]))
          have eq183 : T100.heap = h98 := e100
          exact ownRetN X100 hx (t := .boolean) Bd.returns (by simp) (hb hby at_183) (BodyLoose.notSynchronized Bd) (by decide) (by decide) (by rw [eq183]; exact ⟨rfl, N100⟩)
      · skip
        refine ownStep (fun _ k => XS.icmpYes X98.here hx rfl (pc0 := 151) (pc' := 165) rfl (hb hby at_151) rfl (feq t1).2 (by decide) (by decide) k) ?_
        show OwnGo _ _ _ _ _ _ _ (T98.setTop (mkF m 165 #[.val (.int p0), .val (.int p1), .val (.int p2), .val (.int p3), .val (.int p4), .val (.int (7 : Int32)), .val (.int cb1), .val (.int cb2), .val (.int cb3), .val (.ref b84), .unset] []))
        refine ownStep (fun _ k => XS.iconst X98.here hx rfl (hb hby at_165) k) ?_
        show OwnGo _ _ _ _ _ _ _ (T98.setTop (mkF m 166 #[.val (.int p0), .val (.int p1), .val (.int p2), .val (.int p3), .val (.int p4), .val (.int (7 : Int32)), .val (.int cb1), .val (.int cb2), .val (.int cb3), .val (.ref b84), .unset] [(.int (0 : Int32))]))
        refine ownStep (fun _ k => XS.istore X98.here hx rfl (hb hby at_166) rfl (l' := #[.val (.int p0), .val (.int p1), .val (.int p2), .val (.int p3), .val (.int p4), .val (.int (7 : Int32)), .val (.int cb1), .val (.int cb2), .val (.int cb3), .val (.ref b84), .val (.int (0 : Int32))]) rfl k) ?_
        show OwnGo _ _ _ _ _ _ _ (T98.setTop (mkF m 168 #[.val (.int p0), .val (.int p1), .val (.int p2), .val (.int p3), .val (.int p4), .val (.int (7 : Int32)), .val (.int cb1), .val (.int cb2), .val (.int cb3), .val (.ref b84), .val (.int (0 : Int32))] []))
        refine ownStep (fun _ k => XS.aload X98.here hx rfl (hb hby at_168) rfl rfl k) ?_
        show OwnGo _ _ _ _ _ _ _ (T98.setTop (mkF m 170 #[.val (.int p0), .val (.int p1), .val (.int p2), .val (.int p3), .val (.int p4), .val (.int (7 : Int32)), .val (.int cb1), .val (.int cb2), .val (.int cb3), .val (.ref b84), .val (.int (0 : Int32))] [(.ref b84)]))
        obtain ⟨_, _, ⟨T101, L101, k101, n101⟩, -, X101, ⟨Lc101, hQ101, l101, y101, z101⟩, st101⟩ := Jvm.LawKit.callS X98 hx (y := (⟨"com/example/counterfoil/counterfoil/io/bai2/Fields", "isContinuation", "([B)Z"⟩ : MethodName)) hown (mvT hZ (hw _ (List.mem_of_getElem? (i := 5) rfl))) (mvT hZ (hw _ (List.mem_of_getElem? (i := 6) rfl))) (mvT hZ (hw _ (List.mem_of_getElem? (i := 7) rfl))) (mvT hZ (hw _ (List.mem_of_getElem? (i := 8) rfl))) (by decide) (backOf (W := 0) (rm2 l Z a0 hw [] b84 k84 (7 : Int32) _ cb1 cb2 cb3 wC kC (0 : Int32) h98 n0 O98 SC VC V98 (by decide) (by decide) (by decide) (by decide) rfl rfl rfl (if_neg (fun q => t1 q.2.1))) hZ (hw _ (List.mem_of_getElem? (i := 8) rfl)) (hw _ (List.mem_of_getElem? (i := 7) rfl)) (by decide) (by decide)) (g := (mkF m 170 #[.val (.int p0), .val (.int p1), .val (.int p2), .val (.int p3), .val (.int p4), .val (.int (7 : Int32)), .val (.int cb1), .val (.int cb2), .val (.int cb3), .val (.ref b84), .val (.int (0 : Int32))] [(.ref b84)])) rfl (by rw [hml]; rfl) (argsL := [(.ref b84)]) (rest := []) (lenOf own_pd1 rfl) rfl (by show 2 * 0 + _ ≤ _; exact Nat.le_of_eq rfl) (hb hby at_170) (fun _ _ => ⟨rfl, e98, (by decide : 0 + 1 + 0 ≤ _), (by decide : 0 + 7 + 0 ≤ _)⟩)
        dsimp only [Pt.U, Pt.locs, Pt.cells, Pt.slots] at X101 l101 y101 z101 st101 hQ101
        subst l101 y101 z101
        obtain ⟨rfl, N101q, e101⟩ := hQ101
        have N101 := Fr.app N98 N101q
        refine ownStep st101 ?_
        show OwnGo _ _ _ _ _ _ _ (T101.setTop (mkF m 173 #[.val (.int p0), .val (.int p1), .val (.int p2), .val (.int p3), .val (.int p4), .val (.int (7 : Int32)), .val (.int cb1), .val (.int cb2), .val (.int cb3), .val (.ref b84), .val (.int (0 : Int32))] [(.int (0 : Int32))]))
        refine ownStep (fun _ k => XS.iload X101.here hx rfl (hb hby at_173) rfl k) ?_
        show OwnGo _ _ _ _ _ _ _ (T101.setTop (mkF m 175 #[.val (.int p0), .val (.int p1), .val (.int p2), .val (.int p3), .val (.int p4), .val (.int (7 : Int32)), .val (.int cb1), .val (.int cb2), .val (.int cb3), .val (.ref b84), .val (.int (0 : Int32))] [(.int (0 : Int32)), (.int (0 : Int32))]))
        refine ownStep (fun _ k => XS.icmpNo X101.here hx rfl (hb hby at_175) rfl (teq (by decide : (0 : Int32) = (0 : Int32))).2 k) ?_
        show OwnGo _ _ _ _ _ _ _ (T101.setTop (mkF m 178 #[.val (.int p0), .val (.int p1), .val (.int p2), .val (.int p3), .val (.int p4), .val (.int (7 : Int32)), .val (.int cb1), .val (.int cb2), .val (.int cb3), .val (.ref b84), .val (.int (0 : Int32))] []))
        refine ownStep (fun _ k => XS.iconst X101.here hx rfl (hb hby at_178) k) ?_
        show OwnGo _ _ _ _ _ _ _ (T101.setTop (mkF m 179 #[.val (.int p0), .val (.int p1), .val (.int p2), .val (.int p3), .val (.int p4), .val (.int (7 : Int32)), .val (.int cb1), .val (.int cb2), .val (.int cb3), .val (.ref b84), .val (.int (0 : Int32))] [(.int (1 : Int32))]))
        refine ownStep (fun _ k => XS.goto X101.here hx rfl (pc0 := 179) (pc' := 183) rfl (hb hby at_179) (by decide) (by decide) k) ?_
        show OwnGo _ _ _ _ _ _ _ (T101.setTop (mkF m 183 #[.val (.int p0), .val (.int p1), .val (.int p2), .val (.int p3), .val (.int p4), .val (.int (7 : Int32)), .val (.int cb1), .val (.int cb2), .val (.int cb3), .val (.ref b84), .val (.int (0 : Int32))] [(.int (1 : Int32))]))
        have eq183 : T101.heap = h98 := e101
        exact ownRetN X101 hx (t := .boolean) Bd.returns (by simp) (hb hby at_183) (BodyLoose.notSynchronized Bd) (by decide) (by decide) (by rw [eq183]; exact ⟨rfl, N101⟩)
    · skip
      refine ownStep (fun _ k => XS.icmpYes X98.here hx rfl (pc0 := 144) (pc' := 165) rfl (hb hby at_144) rfl (feq t0).2 (by decide) (by decide) k) ?_
      show OwnGo _ _ _ _ _ _ _ (T98.setTop (mkF m 165 #[.val (.int p0), .val (.int p1), .val (.int p2), .val (.int p3), .val (.int p4), .val (.int (7 : Int32)), .val (.int cb1), .val (.int cb2), .val (.int cb3), .val (.ref b84), .unset] []))
      refine ownStep (fun _ k => XS.iconst X98.here hx rfl (hb hby at_165) k) ?_
      show OwnGo _ _ _ _ _ _ _ (T98.setTop (mkF m 166 #[.val (.int p0), .val (.int p1), .val (.int p2), .val (.int p3), .val (.int p4), .val (.int (7 : Int32)), .val (.int cb1), .val (.int cb2), .val (.int cb3), .val (.ref b84), .unset] [(.int (0 : Int32))]))
      refine ownStep (fun _ k => XS.istore X98.here hx rfl (hb hby at_166) rfl (l' := #[.val (.int p0), .val (.int p1), .val (.int p2), .val (.int p3), .val (.int p4), .val (.int (7 : Int32)), .val (.int cb1), .val (.int cb2), .val (.int cb3), .val (.ref b84), .val (.int (0 : Int32))]) rfl k) ?_
      show OwnGo _ _ _ _ _ _ _ (T98.setTop (mkF m 168 #[.val (.int p0), .val (.int p1), .val (.int p2), .val (.int p3), .val (.int p4), .val (.int (7 : Int32)), .val (.int cb1), .val (.int cb2), .val (.int cb3), .val (.ref b84), .val (.int (0 : Int32))] []))
      refine ownStep (fun _ k => XS.aload X98.here hx rfl (hb hby at_168) rfl rfl k) ?_
      show OwnGo _ _ _ _ _ _ _ (T98.setTop (mkF m 170 #[.val (.int p0), .val (.int p1), .val (.int p2), .val (.int p3), .val (.int p4), .val (.int (7 : Int32)), .val (.int cb1), .val (.int cb2), .val (.int cb3), .val (.ref b84), .val (.int (0 : Int32))] [(.ref b84)]))
      obtain ⟨_, _, ⟨T102, L102, k102, n102⟩, -, X102, ⟨Lc102, hQ102, l102, y102, z102⟩, st102⟩ := Jvm.LawKit.callS X98 hx (y := (⟨"com/example/counterfoil/counterfoil/io/bai2/Fields", "isContinuation", "([B)Z"⟩ : MethodName)) hown (mvT hZ (hw _ (List.mem_of_getElem? (i := 5) rfl))) (mvT hZ (hw _ (List.mem_of_getElem? (i := 6) rfl))) (mvT hZ (hw _ (List.mem_of_getElem? (i := 7) rfl))) (mvT hZ (hw _ (List.mem_of_getElem? (i := 8) rfl))) (by decide) (backOf (W := 0) (rm2 l Z a0 hw [] b84 k84 (7 : Int32) _ cb1 cb2 cb3 wC kC (0 : Int32) h98 n0 O98 SC VC V98 (by decide) (by decide) (by decide) (by decide) rfl rfl rfl (if_neg (fun q => t0 q.1))) hZ (hw _ (List.mem_of_getElem? (i := 8) rfl)) (hw _ (List.mem_of_getElem? (i := 7) rfl)) (by decide) (by decide)) (g := (mkF m 170 #[.val (.int p0), .val (.int p1), .val (.int p2), .val (.int p3), .val (.int p4), .val (.int (7 : Int32)), .val (.int cb1), .val (.int cb2), .val (.int cb3), .val (.ref b84), .val (.int (0 : Int32))] [(.ref b84)])) rfl (by rw [hml]; rfl) (argsL := [(.ref b84)]) (rest := []) (lenOf own_pd1 rfl) rfl (by show 2 * 0 + _ ≤ _; exact Nat.le_of_eq rfl) (hb hby at_170) (fun _ _ => ⟨rfl, e98, (by decide : 0 + 1 + 0 ≤ _), (by decide : 0 + 7 + 0 ≤ _)⟩)
      dsimp only [Pt.U, Pt.locs, Pt.cells, Pt.slots] at X102 l102 y102 z102 st102 hQ102
      subst l102 y102 z102
      obtain ⟨rfl, N102q, e102⟩ := hQ102
      have N102 := Fr.app N98 N102q
      refine ownStep st102 ?_
      show OwnGo _ _ _ _ _ _ _ (T102.setTop (mkF m 173 #[.val (.int p0), .val (.int p1), .val (.int p2), .val (.int p3), .val (.int p4), .val (.int (7 : Int32)), .val (.int cb1), .val (.int cb2), .val (.int cb3), .val (.ref b84), .val (.int (0 : Int32))] [(.int (0 : Int32))]))
      refine ownStep (fun _ k => XS.iload X102.here hx rfl (hb hby at_173) rfl k) ?_
      show OwnGo _ _ _ _ _ _ _ (T102.setTop (mkF m 175 #[.val (.int p0), .val (.int p1), .val (.int p2), .val (.int p3), .val (.int p4), .val (.int (7 : Int32)), .val (.int cb1), .val (.int cb2), .val (.int cb3), .val (.ref b84), .val (.int (0 : Int32))] [(.int (0 : Int32)), (.int (0 : Int32))]))
      refine ownStep (fun _ k => XS.icmpNo X102.here hx rfl (hb hby at_175) rfl (teq (by decide : (0 : Int32) = (0 : Int32))).2 k) ?_
      show OwnGo _ _ _ _ _ _ _ (T102.setTop (mkF m 178 #[.val (.int p0), .val (.int p1), .val (.int p2), .val (.int p3), .val (.int p4), .val (.int (7 : Int32)), .val (.int cb1), .val (.int cb2), .val (.int cb3), .val (.ref b84), .val (.int (0 : Int32))] []))
      refine ownStep (fun _ k => XS.iconst X102.here hx rfl (hb hby at_178) k) ?_
      show OwnGo _ _ _ _ _ _ _ (T102.setTop (mkF m 179 #[.val (.int p0), .val (.int p1), .val (.int p2), .val (.int p3), .val (.int p4), .val (.int (7 : Int32)), .val (.int cb1), .val (.int cb2), .val (.int cb3), .val (.ref b84), .val (.int (0 : Int32))] [(.int (1 : Int32))]))
      refine ownStep (fun _ k => XS.goto X102.here hx rfl (pc0 := 179) (pc' := 183) rfl (hb hby at_179) (by decide) (by decide) k) ?_
      show OwnGo _ _ _ _ _ _ _ (T102.setTop (mkF m 183 #[.val (.int p0), .val (.int p1), .val (.int p2), .val (.int p3), .val (.int p4), .val (.int (7 : Int32)), .val (.int cb1), .val (.int cb2), .val (.int cb3), .val (.ref b84), .val (.int (0 : Int32))] [(.int (1 : Int32))]))
      have eq183 : T102.heap = h98 := e102
      exact ownRetN X102 hx (t := .boolean) Bd.returns (by simp) (hb hby at_183) (BodyLoose.notSynchronized Bd) (by decide) (by decide) (by rw [eq183]; exact ⟨rfl, N102⟩)
set_option maxRecDepth 65536 in
set_option maxHeartbeats 40000000 in
theorem comes_1 {Post : Tables → Env → Array Value → State → Outcome → State → Prop} (hpost : ∀ tb e args s v u, (limb_1_1.after args s (.returned v) u = true ∧ limb_1_2.after args s (.returned v) u = true ∧ True) → FrameEnd s (.returned v) u (Jvm.fieldLocs frame_1_writes args s ++ Jvm.arrayLocs frame_1_arrays args s ++ Jvm.staticLocs frame_1_statics s) 16 128 → Post tb e args s (.returned v) u) :
    ArmFor flags0 classFile x code maxLocals ret World_1 tables_1 room_1 Calls_1 rest_1 Pre_1 Post := by
  intro l hfl _ _ p e ha hc hk s m args below hf hA hF happ hP
  obtain ⟨hcalls, hrest, hpre⟩ := hP
  obtain ⟨-, -, -, hnamed, -, -, -, hat⟩ := (Spec.applies_iff hf).mp happ
  obtain ⟨hg, hn⟩ := and_e (Cond.before_iff.mp (show (Jvm.Cond.and given_1 narrow_1).before args s = true from hpre))
  obtain ⟨g103, g104⟩ := and_e hg
  obtain ⟨g105, g106⟩ := and_e g104
  obtain ⟨g107, g108⟩ := and_e g106
  obtain ⟨g109, g110⟩ := and_e g108
  obtain ⟨g111, g112⟩ := and_e g110
  obtain ⟨w0, w1, w2, w3, w4, rfl⟩ : ∃ w0 w1 w2 w3 w4 : Value, args = #[w0, w1, w2, w3, w4] := by
    have hs : args.size = 5 := by simpa [Cond.value, given_1] using g103
    obtain ⟨L⟩ := args
    match L, hs with
    | [w0, w1, w2, w3, w4], _ => exact ⟨w0, w1, w2, w3, w4, rfl⟩
  have hw := fun d (hd : d ∈ tables_1) => atoms_spec (ws := Jvm.Cond.code x code maxLocals ret :: tables_1) hat d (List.mem_cons_of_mem _ hd)
  have hfit : Fit s := fun {y c} hc i hi => by
    obtain ⟨ha, rfl⟩ := Array.getElem?_eq_some_iff.mp hc
    have q := List.all_eq_true.mp ((Array.all_eq_true_iff_forall_mem.mp hF) _ (Array.getElem_mem ha)) i (List.mem_range.mpr hi)
    simpa [Array.getElem?_eq_getElem hi] using q
  obtain ⟨i0, ei0⟩ := is_v g105
  obtain rfl : w0 = (.int i0) := Option.some.inj ei0
  obtain ⟨i1, ei1⟩ := is_v g107
  obtain rfl : w1 = (.int i1) := Option.some.inj ei1
  obtain ⟨i2, ei2⟩ := is_v g109
  obtain rfl : w2 = (.int i2) := Option.some.inj ei2
  obtain ⟨i3, ei3⟩ := is_v g111
  obtain rfl : w3 = (.int i3) := Option.some.inj ei3
  obtain ⟨i4, ei4⟩ := is_v g112
  obtain rfl : w4 = (.int i4) := Option.some.inj ei4
  obtain ⟨hn113, hn114⟩ := and_e hn
  obtain ⟨hn115, hn116⟩ := and_e hn114
  obtain ⟨hn117, hn118⟩ := and_e hn116
  obtain ⟨hn119, hn120⟩ := and_e hn118
  obtain ⟨wC, evC⟩ := arr_v hn113
  have SC := Sta.start evC (Or.inr ⟨(hw _ (List.mem_of_getElem? (i := 7) rfl)), (hw _ (List.mem_of_getElem? (i := 10) rfl))⟩)
  obtain ⟨clC, AC⟩ := Arr.start evC hn113
  have hlC := own_len evC (own_eqI hn115) AC.1
  have hC0 := (elem_in (own_eqI hn117) evC rfl AC.1).2
  have hC1 := (elem_in (own_eqI hn119) evC rfl AC.1).2
  have hC2 := (elem_in (own_eqI hn120) evC rfl AC.1).2
  have VC : Arv s s.heap wC clC.cls .byte (3 : Int32) [.int 56, .int 56, .int 44] (.int 0) := Arv.start hfit AC hlC.1 hlC.2 (by decide) rfl ⟨hC0, hC1, hC2, trivial⟩
  obtain ⟨n, o, h1, h2, h3, _, L, rfl, ⟨rfl, N⟩, hq⟩ := rm0 l s _ hw tables_1 i0 i1 i2 i3 i4 wC clC.cls s.heap s.heap.size (Old.start s) SC VC p e ha hc hk s m _ below hf ((Spec.applies_iff_loose hf).mp happ).1 ⟨rfl, State.Warmed39.refl s, rfl⟩ trivial
  refine ⟨n, _, h1, h2, h3, hpost _ _ _ _ _ _ ⟨Cond.after_iff.mpr rfl, Cond.after_iff.mpr (eq_i res_at (Term.int_eval (1)) rfl), trivial⟩ ⟨hq.1, hq.2.1, (hq.2.2.sift fun y hy => Or.inr (N y hy)).mono (by decide) (by decide)⟩⟩
theorem main_1_1 : Claimed_1_1 := comes_1 fun _ _ _ _ _ _ h hF => ⟨h.1, hF⟩
theorem main_1_2 : Claimed_1_2 := comes_1 fun _ _ _ _ _ _ h hF => ⟨h.2.1, hF⟩
end Jvm.Pilot.@@N@@
namespace Jvm.Pilot.@@N@@
open Jvm Jvm.ClassFile Sem Op Lib Jvm.Free Jvm.Stand Jvm.Pilot.@@N@@.Jvm.D
/-! MADE BY PROGRAM (witnessworld.py) out of the Statement's table words and the real class files: 10 classes; the members and pool entries that the words name. The judged class is class 1, her method 2. -/
namespace start1
open Jvm.ClassFile
def u (s : String) : CpInfo := .utf8 (stringToUtf16 s)
/-- a pool by its gaps: so many unusable entries, then the entry; so many at the end -/
def gap : Nat → List CpInfo → List CpInfo
  | 0, r => r
  | n + 1, r => .unusable :: gap n r
def poolList (es : List (Nat × CpInfo)) (last : Nat) : List CpInfo := es.foldr (fun e r => gap e.1 (e.2 :: r)) (gap last [])
def pool (es : List (Nat × CpInfo)) (last : Nat) : Array CpInfo := ⟨poolList es last⟩
def fileOf (pool : Array CpInfo) (this : Nat) (attrs : Array Attribute := #[]) (ms : Array MethodInfo := #[]) (fl : Nat := 33) (sup : Nat := 0) (ifs : Array Nat := #[]) (fds : Array FieldInfo := #[]) : ClassFile where
  minorVersion := 0
  majorVersion := 65
  constantPool := pool
  accessFlags := fl
  thisClass := this
  superClass := sup
  interfaces := ifs
  fields := fds
  methods := ms
  attributes := attrs
def plain (name : String) (sup : Option ClassId) : Class where
  name := name
  kind := .ordinary
  loader := none
  accessFlags := 33
  super := sup
  interfaces := #[]
  cf := none
  fields := #[]
  methods := #[]
  instanceTypes := #[]
  staticTypes := #[]
  resolved := #[]
  callSites := []
  init := .initialized
  statics := none
  mirror := none

def pool0 : Array CpInfo := pool [(5, u "<init>"), (0, u "()V"), (1, .class_ 10), (1, u "java/lang/Object")] 113

def k0m0 : Method := { name := "<init>", desc := "()V", sig := { parameters := [], returnType := none }, accessFlags := 1, code := none }
/-- java/lang/Object -/
def k0 : Class := { plain "java/lang/Object" none with
  accessFlags := 33
  interfaces := #[]
  cf := some (fileOf pool0 8 #[] #[{ accessFlags := 1, nameIndex := 5, descriptorIndex := 6, attributes := #[] }] 33 0 #[] #[])
  fields := #[]
  methods := #[k0m0]
  instanceTypes := #[]
  staticTypes := #[]
  resolved := Array.replicate 124 none
  statics := none }

def pool1 : Array CpInfo := pool [(2, .class_ 4), (1, u "java/lang/Object"), (0, u "<init>"), (0, u "()V"), (0, .methodref 8 9), (0, .class_ 10), (0, .nameAndType 11 12), (0, u "com/example/counterfoil/counterfoil/io/bai2/FieldsIsContinuationPinLaw"), (0, u "draw"), (0, u "(IC)B"), (0, .methodref 14 15), (0, .class_ 16), (0, .nameAndType 17 18), (0, u "com/example/counterfoil/counterfoil/io/bai2/Fields"), (0, u "isContinuation"), (0, u "([B)Z"), (3, u "law"), (0, u "(IIIII)Z")] 4

def k1m0 : Method := { name := "<init>", desc := "()V", sig := { parameters := [], returnType := none }, accessFlags := 1, code := none }
def k1c1 : Code := { maxStack := 2, maxLocals := 2, code := method_2_code, exceptionTable := #[], attributes := #[] }
def k1m1 : Method := { name := "draw", desc := "(IC)B", sig := { parameters := [.int, .char], returnType := some .byte }, accessFlags := 10, code := some k1c1 }
def k1c2 : Code := { maxStack := 4, maxLocals := 11, code := code, exceptionTable := #[], attributes := #[] }
def k1m2 : Method := { name := "law", desc := "(IIIII)Z", sig := { parameters := [.int, .int, .int, .int, .int], returnType := some .boolean }, accessFlags := 9, code := some k1c2 }
/-- com/example/counterfoil/counterfoil/io/bai2/FieldsIsContinuationPinLaw -/
def k1 : Class := { plain "com/example/counterfoil/counterfoil/io/bai2/FieldsIsContinuationPinLaw" (some 0) with
  accessFlags := 49
  interfaces := #[]
  cf := some (fileOf pool1 8 #[] #[{ accessFlags := 1, nameIndex := 5, descriptorIndex := 6, attributes := #[] }, { accessFlags := 10, nameIndex := 11, descriptorIndex := 12, attributes := #[] }, { accessFlags := 9, nameIndex := 22, descriptorIndex := 23, attributes := #[] }] 49 2 #[] #[])
  fields := #[]
  methods := #[k1m0, k1m1, k1m2]
  instanceTypes := #[]
  staticTypes := #[]
  resolved := Array.replicate 28 none
  statics := none }

def pool2 : Array CpInfo := pool [(2, .class_ 4), (1, u "java/lang/CharSequence"), (42, .class_ 48), (0, u "java/lang/CharSequence$1CodePointIterator"), (10, .class_ 60), (0, u "java/lang/CharSequence$1CharIterator"), (5, .class_ 67), (0, u "java/lang/Object")] 63

/-- java/lang/CharSequence -/
def k2 : Class := { plain "java/lang/CharSequence" (some 0) with
  accessFlags := 1537
  interfaces := #[]
  cf := some (fileOf pool2 2 #[.nestMembers #[47, 59]] #[] 1537 66 #[] #[])
  fields := #[]
  methods := #[]
  instanceTypes := #[]
  staticTypes := #[]
  resolved := Array.replicate 131 none
  statics := none }

def pool3 : Array CpInfo := pool [(2, .class_ 4), (1, u "java/lang/Object"), (0, u "<init>"), (0, u "()V"), (1, u "[B"), (1, .class_ 12), (1, u "com/example/counterfoil/counterfoil/io/bai2/Fields"), (0, u "pieces"), (0, u "[[B"), (2, u "starts"), (0, u "[I"), (2, u "lines"), (0, u "[J"), (2, u "ends"), (5, u "leftOff"), (0, u "Ljava/util/List;"), (2, u "value"), (0, .fieldref 10 37), (0, .nameAndType 38 8), (0, u "CONTINUATION_START"), (2, u "records"), (0, u "I"), (8, u "length"), (0, u "J"), (2, u "piece"), (2, u "next"), (2, u "reached"), (2, u "ended"), (0, u "Z"), (47, u "name"), (0, u "Ljava/lang/String;"), (2, u "start"), (2, u "end"), (2, u "line"), (30, .class_ 155), (0, u "com/example/counterfoil/counterfoil/io/bai2/Fields$Field"), (46, .class_ 203), (0, u "java/lang/CharSequence"), (0, u "CONTINUATION"), (3, u "SEPARATOR"), (0, u "C"), (1, u "END"), (8, u "isContinuation"), (0, u "([B)Z")] 44

def k3m0 : Method := { name := "<init>", desc := "()V", sig := { parameters := [], returnType := none }, accessFlags := 1, code := none }
def k3c1 : Code := { maxStack := 3, maxLocals := 1, code := prog_53_method_3_code, exceptionTable := #[], attributes := #[] }
def k3m1 : Method := { name := "isContinuation", desc := "([B)Z", sig := { parameters := [(.array .byte)], returnType := some .boolean }, accessFlags := 8, code := some k3c1 }
/-- com/example/counterfoil/counterfoil/io/bai2/Fields -/
def k3 : Class := { plain "com/example/counterfoil/counterfoil/io/bai2/Fields" (some 0) with
  accessFlags := 49
  interfaces := #[2]
  cf := some (fileOf pool3 10 #[.nestMembers #[154]] #[{ accessFlags := 1, nameIndex := 5, descriptorIndex := 6, attributes := #[] }, { accessFlags := 8, nameIndex := 220, descriptorIndex := 221, attributes := #[] }] 49 2 #[202] #[{ accessFlags := 24, nameIndex := 204, descriptorIndex := 114, attributes := #[] }, { accessFlags := 26, nameIndex := 208, descriptorIndex := 209, attributes := #[] }, { accessFlags := 26, nameIndex := 211, descriptorIndex := 209, attributes := #[] }, { accessFlags := 26, nameIndex := 38, descriptorIndex := 8, attributes := #[] }, { accessFlags := 2, nameIndex := 13, descriptorIndex := 14, attributes := #[] }, { accessFlags := 2, nameIndex := 17, descriptorIndex := 18, attributes := #[] }, { accessFlags := 2, nameIndex := 21, descriptorIndex := 22, attributes := #[] }, { accessFlags := 2, nameIndex := 25, descriptorIndex := 18, attributes := #[] }, { accessFlags := 2, nameIndex := 41, descriptorIndex := 42, attributes := #[] }, { accessFlags := 2, nameIndex := 51, descriptorIndex := 52, attributes := #[] }, { accessFlags := 2, nameIndex := 55, descriptorIndex := 42, attributes := #[] }, { accessFlags := 2, nameIndex := 58, descriptorIndex := 42, attributes := #[] }, { accessFlags := 2, nameIndex := 61, descriptorIndex := 42, attributes := #[] }, { accessFlags := 2, nameIndex := 64, descriptorIndex := 65, attributes := #[] }, { accessFlags := 18, nameIndex := 31, descriptorIndex := 32, attributes := #[] }, { accessFlags := 2, nameIndex := 113, descriptorIndex := 114, attributes := #[] }, { accessFlags := 2, nameIndex := 35, descriptorIndex := 8, attributes := #[] }, { accessFlags := 2, nameIndex := 117, descriptorIndex := 42, attributes := #[] }, { accessFlags := 2, nameIndex := 120, descriptorIndex := 42, attributes := #[] }, { accessFlags := 2, nameIndex := 123, descriptorIndex := 52, attributes := #[] }])
  fields := #[{ name := "CONTINUATION", type := (.object "java/lang/String"), accessFlags := 24, slot := 0, constantValue := 0 }, { name := "SEPARATOR", type := .char, accessFlags := 26, slot := 1, constantValue := 0 }, { name := "END", type := .char, accessFlags := 26, slot := 2, constantValue := 0 }, { name := "CONTINUATION_START", type := (.array .byte), accessFlags := 26, slot := 3, constantValue := 0 }, { name := "pieces", type := (.array (.array .byte)), accessFlags := 2, slot := 0, constantValue := 0 }, { name := "starts", type := (.array .int), accessFlags := 2, slot := 1, constantValue := 0 }, { name := "lines", type := (.array .long), accessFlags := 2, slot := 2, constantValue := 0 }, { name := "ends", type := (.array .int), accessFlags := 2, slot := 3, constantValue := 0 }, { name := "records", type := .int, accessFlags := 2, slot := 4, constantValue := 0 }, { name := "length", type := .long, accessFlags := 2, slot := 5, constantValue := 0 }, { name := "piece", type := .int, accessFlags := 2, slot := 6, constantValue := 0 }, { name := "next", type := .int, accessFlags := 2, slot := 7, constantValue := 0 }, { name := "reached", type := .int, accessFlags := 2, slot := 8, constantValue := 0 }, { name := "ended", type := .boolean, accessFlags := 2, slot := 9, constantValue := 0 }, { name := "leftOff", type := (.object "java/util/List"), accessFlags := 18, slot := 10, constantValue := 0 }, { name := "name", type := (.object "java/lang/String"), accessFlags := 2, slot := 11, constantValue := 0 }, { name := "value", type := (.array .byte), accessFlags := 2, slot := 12, constantValue := 0 }, { name := "start", type := .int, accessFlags := 2, slot := 13, constantValue := 0 }, { name := "end", type := .int, accessFlags := 2, slot := 14, constantValue := 0 }, { name := "line", type := .long, accessFlags := 2, slot := 15, constantValue := 0 }]
  methods := #[k3m0, k3m1]
  instanceTypes := #[(.array (.array .byte)), (.array .int), (.array .long), (.array .int), .int, .long, .int, .int, .int, .boolean, (.object "java/util/List"), (.object "java/lang/String"), (.array .byte), .int, .int, .long]
  staticTypes := #[(.object "java/lang/String"), .char, .char, (.array .byte)]
  resolved := Array.replicate 266 none
  statics := some 0 }

def pool4 : Array CpInfo := pool [(1, u "java/lang/Cloneable"), (0, .class_ 1), (0, u "java/lang/Object"), (0, .class_ 3)] 3

/-- java/lang/Cloneable -/
def k4 : Class := { plain "java/lang/Cloneable" (some 0) with
  accessFlags := 1537
  interfaces := #[]
  cf := some (fileOf pool4 2 #[] #[] 1537 4 #[] #[])
  fields := #[]
  methods := #[]
  instanceTypes := #[]
  staticTypes := #[]
  resolved := Array.replicate 8 none
  statics := none }

def pool5 : Array CpInfo := pool [(1, u "java/io/Serializable"), (0, .class_ 1), (0, u "java/lang/Object"), (0, .class_ 3)] 3

/-- java/io/Serializable -/
def k5 : Class := { plain "java/io/Serializable" (some 0) with
  accessFlags := 1537
  interfaces := #[]
  cf := some (fileOf pool5 2 #[] #[] 1537 4 #[] #[])
  fields := #[]
  methods := #[]
  instanceTypes := #[]
  staticTypes := #[]
  resolved := Array.replicate 8 none
  statics := none }

/-- the primitive byte -/
def k6 : Class := { plain "byte" none with kind := .primitive 'B', accessFlags := 0x411 }
/-- [B -/
def k7 : Class := { plain "[B" (some 0) with kind := .array 6 .byte, interfaces := #[4, 5], accessFlags := 1041 }

/-- the primitive int -/
def k8 : Class := { plain "int" none with kind := .primitive 'I', accessFlags := 0x411 }
/-- [I -/
def k9 : Class := { plain "[I" (some 0) with kind := .array 8 .int, interfaces := #[4, 5], accessFlags := 1041 }

def heap : Heap := #[{ cls := 3, slots := #[.null, .int 0, .int 0, .ref 1], vm := .statics 3 },
  { cls := 7, slots := #[.int 56, .int 56, .int 44], vm := .none }]
def classes : Array Class := #[k0, k1, k2, k3, k4, k5, k6, k7, k8, k9]
def interned : List (Array UInt16 × Addr) := []
def slotsUsed : Nat := 7
def theMethod : MethodId := ⟨1, 2⟩
def args0 : Array Value := #[.int 5, .int 0, .int 0, .int 0, .int 77]
def aboutOver (below : List Frame) : State where
  vm := { classes := classes, interned := interned.toArray }
  heap := heap
  slotsUsed := slotsUsed
  threads := #[{ frames := .invoking theMethod args0 :: below }]
def below0 : List Frame := [.native { method := ⟨0, 0⟩, args := #[] }]
def about1 : State := aboutOver below0
def p0 : Program := .bare "" "" ""
def e0 : Env := launch0.env 0 0 0
theorem w_frames : about1.frames = Frame.invoking theMethod args0 :: below0 := rfl
set_option maxRecDepth 65536 in
theorem w_args : argsFit about1.vm theMethod args0 = true := by decide +kernel
set_option maxRecDepth 65536 in
theorem w_heap : heapFits about1 = true := by decide +kernel
set_option maxRecDepth 65536 in
theorem w_runnable : about1.curStatus? = some .runnable := by decide +kernel
set_option maxRecDepth 65536 in
theorem w_alone : about1.alone = true := by decide +kernel
set_option maxRecDepth 65536 in
theorem w_named : about1.methodNamed? x = some theMethod := by decide +kernel
set_option maxRecDepth 65536 in
theorem w_hears : about1.hears theMethod below0 = true := by decide +kernel
set_option maxRecDepth 65536 in
theorem w_ripe : about1.ripe theMethod args0 below0 = true := by decide +kernel
theorem w_running : about1.status = .running := rfl
set_option maxRecDepth 65536 in
theorem w_room : about1.hasRoom e0.platform room_1 = true :=
  launch0.hasRoom_least _ room_1 (by decide +kernel) (by decide +kernel) (by decide +kernel) (by decide +kernel) (by decide +kernel) (by decide +kernel)
theorem allAtoms_all (ts : List Jvm.Cond) (a : Array Jvm.Value) (st : Jvm.State) : (allAtoms ts).before a st = ts.all (fun c => c.before a st) := by
  induction ts with
  | nil => rfl
  | cons c t ih =>
    show (Jvm.Cond.and c (allAtoms t)).before a st = _
    rw [Jvm.Cond.before_and, ih, List.all_cons]
def words1 : List Jvm.Cond := Jvm.Cond.code x code maxLocals ret :: tables_1
/-- a 'code' word, met by the world's own term for the bytes: nothing is compared byte by byte -/
theorem code_word {y : MethodName} {bytes : ByteArray} {mx : Nat} {rt : Option FieldType} {a : Array Value} {s : State} {m : MethodId} {meth : Method} {c : Code} (h1 : s.methodNamed? y = some m) (h2 : s.vm.method? m = some meth) (h3 : meth.code = some c) (h4 : c.code = bytes)
    (h5 : (c.maxLocals == mx && c.exceptionTable.isEmpty && decide (c.maxStack ≤ mostOperands) && decide (meth.sig.returnType = rt) && !meth.locks && decide (parseMethodDescriptor y.desc = some meth.sig)) = true) : (Jvm.Cond.code y bytes mx rt).before a s = true := by
  simp only [Bool.and_eq_true, beq_iff_eq, Bool.not_eq_true', decide_eq_true_eq] at h5
  obtain ⟨⟨⟨⟨⟨g1, g2⟩, g3⟩, g4⟩, g5⟩, g6⟩ := h5
  simp [Cond.before, Cond.holds, Cond.value, h1, h2, h3, h4, g1, g2, g3, g4, g5, g6]
def isCode : Jvm.Cond → Bool
  | .code _ _ _ _ => true
  | _ => false
theorem all_split {L : List Jvm.Cond} {P : Jvm.Cond → Bool} (h1 : L.all (fun c => isCode c || P c) = true) (h2 : ∀ c ∈ L.filter isCode, P c = true) : L.all P = true := by
  refine List.all_eq_true.mpr fun c hc => ?_
  have h := List.all_eq_true.mp h1 c hc
  rcases Bool.eq_false_or_eq_true (isCode c) with hi | hi
  · exact h2 c (List.mem_filter.mpr ⟨hc, hi⟩)
  · simpa [hi] using h
set_option maxRecDepth 65536 in
theorem w_c0 : (Jvm.Cond.code x code maxLocals ret).before args0 about1 = true := code_word (m := ⟨1, 2⟩) (meth := k1m2) (c := k1c2) (by decide +kernel) rfl rfl rfl (by decide +kernel)
set_option maxRecDepth 65536 in
theorem w_c1 : (Jvm.Cond.code ({ cls := "com/example/counterfoil/counterfoil/io/bai2/FieldsIsContinuationPinLaw", name := "draw", desc := "(IC)B" } : Jvm.MethodName) method_2_code (2 : Nat) (Option.some Jvm.ClassFile.FieldType.byte)).before args0 about1 = true := code_word (m := ⟨1, 1⟩) (meth := k1m1) (c := k1c1) (by decide +kernel) rfl rfl rfl (by decide +kernel)
set_option maxRecDepth 65536 in
theorem w_c2 : (Jvm.Cond.code ({ cls := "com/example/counterfoil/counterfoil/io/bai2/Fields", name := "isContinuation", desc := "([B)Z" } : Jvm.MethodName) prog_53_method_3_code (1 : Nat) (Option.some Jvm.ClassFile.FieldType.boolean)).before args0 about1 = true := code_word (m := ⟨3, 1⟩) (meth := k3m1) (c := k3c1) (by decide +kernel) rfl rfl rfl (by decide +kernel)
def codes1 : List Jvm.Cond := [Jvm.Cond.code x code maxLocals ret, Jvm.Cond.code ({ cls := "com/example/counterfoil/counterfoil/io/bai2/FieldsIsContinuationPinLaw", name := "draw", desc := "(IC)B" } : Jvm.MethodName) method_2_code (2 : Nat) (Option.some Jvm.ClassFile.FieldType.byte), Jvm.Cond.code ({ cls := "com/example/counterfoil/counterfoil/io/bai2/Fields", name := "isContinuation", desc := "([B)Z" } : Jvm.MethodName) prog_53_method_3_code (1 : Nat) (Option.some Jvm.ClassFile.FieldType.boolean)]
set_option maxRecDepth 65536 in
theorem codes_eq : words1.filter isCode = codes1 := rfl
theorem w_codes : ∀ c ∈ words1.filter isCode, c.before args0 about1 = true := by
  rw [codes_eq]
  intro c hc
  simp only [codes1, List.mem_cons, List.not_mem_nil, or_false] at hc
  rcases hc with rfl | rfl | rfl
  · exact w_c0
  · exact w_c1
  · exact w_c2
set_option maxRecDepth 65536 in
theorem w_t1 : words1.all (fun c => isCode c || c.before args0 about1) = true := by decide +kernel
theorem w_tables : (allAtoms (Jvm.Cond.code x code maxLocals ret :: tables_1)).before args0 about1 = true := by
  rw [allAtoms_all]
  show words1.all (fun c => c.before args0 about1) = true
  refine all_split ?_ w_codes
  rw [w_t1]
set_option maxRecDepth 65536 in
theorem w_case : (Jvm.Cond.and given_1 narrow_1).before args0 about1 = true := by decide +kernel
theorem w_applies : (headSpec (Jvm.Cond.code x code maxLocals ret :: tables_1) room_1).applies x e0.platform about1 = true :=
  (Spec.applies_iff w_frames).mpr ⟨w_running, w_runnable, w_alone, w_named, w_hears, w_ripe, w_room, w_tables⟩
theorem atStart : AtStart classFile x code maxLocals ret World_1 tables_1 room_1 Calls_1 rest_1 Pre_1 launch0 p0 e0 about1 theMethod args0 below0 :=
  ⟨lists_1, trivial, launch0.admits_env _ _ _, launch0.least_env, fairChoices_fair.cas, fairChoices_fair.clock, w_frames, w_args, w_heap, w_applies, trivial, trivial, w_case⟩
end start1
theorem witness_1 : WitnessClaimed_1 := ⟨start1.p0, start1.e0, start1.about1, start1.theMethod, start1.args0, start1.below0, start1.atStart⟩
end Jvm.Pilot.@@N@@
