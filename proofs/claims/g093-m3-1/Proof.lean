import JvmDerived
import JvmDerived.Pilot.@@N@@Statement
import JvmDerived.Pilot.@@N@@Code
set_option linter.unusedVariables false
set_option linter.unusedSimpArgs false
set_option maxRecDepth 65536
set_option maxHeartbeats 40000000
namespace Jvm.Pilot.@@N@@
open Jvm Jvm.ClassFile Sem Op Lib Jvm.Free Jvm.Stand Jvm.LawKit Jvm.RoadKit Bundle Jvm.Pilot.@@N@@.Jvm.D
section OwnKit
variable {p : Program} {l : Launch} {e : Env} {R : Room} {s : State} {m : MethodId} {args : Array Value} {below : List Frame} {meth : Method} {c : Code} {T : State} {locs : List Loc} {cells slots : Nat}
/-- from here the run comes to an end that E allows -/
def own_Go (p : Program) (e : Env) (below : List Frame) (E : State → Prop) (S : State) : Prop := ∃ t, Steps p.tables e below S t ∧ E t
/-- the invocation has ended, with a value, a heap and a list of written places that Q allows -/
def own_End (s : State) (below : List Frame) (Q : Option Value → Heap → List Loc → Prop) (C N : Nat) (t : State) : Prop :=
  t.status = .running ∧ ∃ v L, Ended t below (.returned v) ∧ Q v t.heap L ∧ FrameEnd s (.returned v) t L C N
/-- the walk stands here, with this heap, having written only what is new -/
def own_At (p : Program) (l : Launch) (e : Env) (R : Room) (s : State) (m : MethodId) (args : Array Value) (below : List Frame) (meth : Method) (c : Code) (n0 : Nat) (T : State) (h : Heap) (cells slots : Nat) : Prop :=
  ∃ locs, Stand p l e R s m args below meth c T locs cells slots ∧ Fr n0 locs ∧ T.heap = h
theorem own_by {E : State → Prop} {S S' : State} (k : ∀ t, Steps p.tables e below S' t → Steps p.tables e below S t) (h : own_Go p e below E S') : own_Go p e below E S :=
  h.imp fun t q => ⟨k t q.1, q.2⟩
theorem own_tr {E : State → Prop} {S S' : State} (k : Steps p.tables e below S S') (h : own_Go p e below E S') : own_Go p e below E S :=
  h.imp fun t q => ⟨k.trans q.1, q.2⟩
theorem own_mono {E E' : State → Prop} {S : State} (k : ∀ t, E t → E' t) (h : own_Go p e below E S) : own_Go p e below E' S := h.imp fun t q => ⟨q.1, k t q.2⟩
theorem own_monoQ {Q Q' : Option Value → Heap → List Loc → Prop} {C N : Nat} {S : State} (k : ∀ v h L, Q v h L → Q' v h L) (h : own_Go p e below (own_End s below Q C N) S) : own_Go p e below (own_End s below Q' C N) S :=
  own_mono (fun t ⟨a, v, L, b, q, r⟩ => ⟨a, v, L, b, k _ _ _ q, r⟩) h
variable {Q : Option Value → Heap → List Loc → Prop} {C N : Nat} {h : Heap} {pc : Nat} {Ls : Array Slot} {rest : List Value}
theorem own_ret (X : Stand p l e R s m args below meth c T locs cells slots) (hx : p.tables.exec = Jvm.exec) (hlk : meth.locks = false) (eT : T.heap = h) {w : Value} {t : FieldType} {i : Instr} (hret : meth.sig.returnType = some t) (hn : narrow t w = w)
    (hi : (i = .ireturn ∧ (t = .int ∨ t = .boolean ∨ t = .byte ∨ t = .char ∨ t = .short) ∧ ∃ z, w = .int z) ∨ (i = .lreturn ∧ t = .long ∧ ∃ z, w = .long z) ∨ (i = .dreturn ∧ t = .double ∧ ∃ z, w = .double z) ∨ (i = .freturn ∧ t = .float ∧ ∃ z, w = .float z) ∨ (i = .areturn ∧ t.isReference = true ∧ w.isRef = true))
    (hd : decode c.code pc = .ok (i, 1)) (hc : cells ≤ C) (hs : slots ≤ N) (hQ : Q (some w) h locs) : own_Go p e below (own_End s below Q C N) (T.setTop (mkF m pc Ls (w :: rest))) := by
  obtain ⟨fs, hr, hrun, hended, hW, hsame⟩ := X.leave (v := some w) (fun q => by rw [hret] at q; cases q) hlk
  subst eT
  exact ⟨_, retOut X hx hret hn hi hd hr, hrun, _, _, hended, hQ, ⟨_, rfl⟩, hW, hsame.mono hc hs⟩
theorem own_retI (X : Stand p l e R s m args below meth c T locs cells slots) (hx : p.tables.exec = Jvm.exec) (hlk : meth.locks = false) (eT : T.heap = h) {z : Int32} (hret : meth.sig.returnType = some .int) (hd : decode c.code pc = .ok (.ireturn, 1)) (hc : cells ≤ C) (hs : slots ≤ N) (hQ : Q (some (.int z)) h locs) :
    own_Go p e below (own_End s below Q C N) (T.setTop (mkF m pc Ls (.int z :: rest))) := own_ret X hx hlk eT hret rfl (Or.inl ⟨rfl, Or.inl rfl, _, rfl⟩) hd hc hs hQ
theorem own_retZ (X : Stand p l e R s m args below meth c T locs cells slots) (hx : p.tables.exec = Jvm.exec) (hlk : meth.locks = false) (eT : T.heap = h) {z : Int32} (hz : z = 0 ∨ z = 1) (hret : meth.sig.returnType = some .boolean) (hd : decode c.code pc = .ok (.ireturn, 1)) (hc : cells ≤ C) (hs : slots ≤ N) (hQ : Q (some (.int z)) h locs) :
    own_Go p e below (own_End s below Q C N) (T.setTop (mkF m pc Ls (.int z :: rest))) := own_ret X hx hlk eT hret (by rcases hz with rfl | rfl <;> rfl) (Or.inl ⟨rfl, Or.inr (Or.inl rfl), _, rfl⟩) hd hc hs hQ
theorem own_retJ (X : Stand p l e R s m args below meth c T locs cells slots) (hx : p.tables.exec = Jvm.exec) (hlk : meth.locks = false) (eT : T.heap = h) {z : Int64} (hret : meth.sig.returnType = some .long) (hd : decode c.code pc = .ok (.lreturn, 1)) (hc : cells ≤ C) (hs : slots ≤ N) (hQ : Q (some (.long z)) h locs) :
    own_Go p e below (own_End s below Q C N) (T.setTop (mkF m pc Ls (.long z :: rest))) := own_ret X hx hlk eT hret rfl (Or.inr (Or.inl ⟨rfl, rfl, _, rfl⟩)) hd hc hs hQ
theorem own_retD (X : Stand p l e R s m args below meth c T locs cells slots) (hx : p.tables.exec = Jvm.exec) (hlk : meth.locks = false) (eT : T.heap = h) {z : UInt64} (hret : meth.sig.returnType = some .double) (hd : decode c.code pc = .ok (.dreturn, 1)) (hc : cells ≤ C) (hs : slots ≤ N) (hQ : Q (some (.double z)) h locs) :
    own_Go p e below (own_End s below Q C N) (T.setTop (mkF m pc Ls (.double z :: rest))) := own_ret X hx hlk eT hret rfl (Or.inr (Or.inr (Or.inl ⟨rfl, rfl, _, rfl⟩))) hd hc hs hQ
theorem own_retR (X : Stand p l e R s m args below meth c T locs cells slots) (hx : p.tables.exec = Jvm.exec) (hlk : meth.locks = false) (eT : T.heap = h) {w : Value} {t : FieldType} (hw : w.isRef = true) (ht : t.isReference = true) (hret : meth.sig.returnType = some t) (hd : decode c.code pc = .ok (.areturn, 1)) (hc : cells ≤ C) (hs : slots ≤ N) (hQ : Q (some w) h locs) :
    own_Go p e below (own_End s below Q C N) (T.setTop (mkF m pc Ls (w :: rest))) := own_ret X hx hlk eT hret (by cases t <;> first | (cases ht; done) | (cases w <;> first | rfl | cases hw)) (Or.inr (Or.inr (Or.inr (Or.inr ⟨rfl, ht, hw⟩)))) hd hc hs hQ
theorem own_retV (X : Stand p l e R s m args below meth c T locs cells slots) (hx : p.tables.exec = Jvm.exec) (hlk : meth.locks = false) (eT : T.heap = h) (hret : meth.sig.returnType = none) (hd : decode c.code pc = .ok (.return_, 1)) (hc : cells ≤ C) (hs : slots ≤ N) (hQ : Q none h locs) :
    own_Go p e below (own_End s below Q C N) (T.setTop (mkF m pc Ls [])) := by
  obtain ⟨fs, hr, hrun, hended, hW, hsame⟩ := X.leave (v := none) (fun _ => rfl) hlk
  subst eT
  exact ⟨_, X.returnOut hx hret hd hr, hrun, _, _, hended, hQ, ⟨_, rfl⟩, hW, hsame.mono hc hs⟩
end OwnKit

theorem own_pd0 : parseMethodDescriptor "(JJJJ)V" = some ⟨[.long, .long, .long, .long], none⟩ := by decide +kernel
theorem own_pd1 : parseMethodDescriptor "()Z" = some ⟨[], some .boolean⟩ := by decide +kernel
theorem own_d1_0 : decode prog_40_method_1_code 0 = .ok (.aload_n 0, 1) := by decide +kernel
theorem own_d1_1 : decode prog_40_method_1_code 1 = .ok (.invokespecial 1, 3) := by decide +kernel
theorem own_d1_4 : decode prog_40_method_1_code 4 = .ok (.aload_n 0, 1) := by decide +kernel
theorem own_d1_5 : decode prog_40_method_1_code 5 = .ok (.lload_n 1, 1) := by decide +kernel
theorem own_d1_6 : decode prog_40_method_1_code 6 = .ok (.putfield 7, 3) := by decide +kernel
theorem own_d1_9 : decode prog_40_method_1_code 9 = .ok (.aload_n 0, 1) := by decide +kernel
theorem own_d1_10 : decode prog_40_method_1_code 10 = .ok (.lload_n 3, 1) := by decide +kernel
theorem own_d1_11 : decode prog_40_method_1_code 11 = .ok (.putfield 13, 3) := by decide +kernel
theorem own_d1_14 : decode prog_40_method_1_code 14 = .ok (.aload_n 0, 1) := by decide +kernel
theorem own_d1_15 : decode prog_40_method_1_code 15 = .ok (.lload_n 1, 1) := by decide +kernel
theorem own_d1_16 : decode prog_40_method_1_code 16 = .ok (.l2d, 1) := by decide +kernel
theorem own_d1_17 : decode prog_40_method_1_code 17 = .ok (.putfield 16, 3) := by decide +kernel
theorem own_d1_20 : decode prog_40_method_1_code 20 = .ok (.aload_n 0, 1) := by decide +kernel
theorem own_d1_21 : decode prog_40_method_1_code 21 = .ok (.lload_n 3, 1) := by decide +kernel
theorem own_d1_22 : decode prog_40_method_1_code 22 = .ok (.l2d, 1) := by decide +kernel
theorem own_d1_23 : decode prog_40_method_1_code 23 = .ok (.putfield 20, 3) := by decide +kernel
theorem own_d1_26 : decode prog_40_method_1_code 26 = .ok (.aload_n 0, 1) := by decide +kernel
theorem own_d1_27 : decode prog_40_method_1_code 27 = .ok (.lload 5, 2) := by decide +kernel
theorem own_d1_29 : decode prog_40_method_1_code 29 = .ok (.putfield 23, 3) := by decide +kernel
theorem own_d1_32 : decode prog_40_method_1_code 32 = .ok (.aload_n 0, 1) := by decide +kernel
theorem own_d1_33 : decode prog_40_method_1_code 33 = .ok (.lload 7, 2) := by decide +kernel
theorem own_d1_35 : decode prog_40_method_1_code 35 = .ok (.putfield 26, 3) := by decide +kernel
theorem own_d1_38 : decode prog_40_method_1_code 38 = .ok (.aload_n 0, 1) := by decide +kernel
theorem own_d1_39 : decode prog_40_method_1_code 39 = .ok (.lload 5, 2) := by decide +kernel
theorem own_d1_41 : decode prog_40_method_1_code 41 = .ok (.l2d, 1) := by decide +kernel
theorem own_d1_42 : decode prog_40_method_1_code 42 = .ok (.putfield 29, 3) := by decide +kernel
theorem own_d1_45 : decode prog_40_method_1_code 45 = .ok (.aload_n 0, 1) := by decide +kernel
theorem own_d1_46 : decode prog_40_method_1_code 46 = .ok (.lload 7, 2) := by decide +kernel
theorem own_d1_48 : decode prog_40_method_1_code 48 = .ok (.l2d, 1) := by decide +kernel
theorem own_d1_49 : decode prog_40_method_1_code 49 = .ok (.putfield 32, 3) := by decide +kernel
theorem own_d1_52 : decode prog_40_method_1_code 52 = .ok (.return_, 1) := by decide +kernel
theorem own_pn1 : plainName "com/example/bucketsplit/bucketsplit/core/Meter" = true := by first | (simp [plainName, overriddenIn]; done) | decide +kernel
theorem own_ef1 (m : MethodId) (x0 : Addr) (x1 : Int64) (x2 : Int64) (x3 : Int64) (x4 : Int64) : entryFrame m #[(.ref x0), (.long x1), (.long x2), (.long x3), (.long x4)] 9 = mkF m 0 #[.val (.ref x0), .val (.long x1), .second, .val (.long x2), .second, .val (.long x3), .second, .val (.long x4), .second] [] := by first | (simp [entryFrame, mkF, argsToLocals, Value.category]; done) | rfl
def own_Q1 (Z : State) (ax : Addr) (xa : Int64) (xb : Int64) (xc : Int64) (xd : Int64) (u0 : Int64) (u1 : Int64) (u2 : UInt64) (u3 : UInt64) (u4 : Int64) (u5 : Int64) (u6 : UInt64) (u7 : UInt64) (h0 : Heap) (n0 : Nat) (v : Option Value) (h : Heap) (L : List Loc) : Prop := v = none ∧ Fr n0 L ∧ Keep h0 h [ax] ∧ Fld Z h ax "com/example/bucketsplit/bucketsplit/core/Meter" "mMaxOperations" "J" (.long xc) ∧ Fld Z h ax "com/example/bucketsplit/bucketsplit/core/Meter" "mMaxUnsafeValues" "J" (.long xd)
theorem own_rm1 (l : Launch) (Z : State) (a0 : Array Value) (hw : ∀ d ∈ tables_1, d.before a0 Z = true) (ws : List Jvm.Cond) (ax : Addr) (xa : Int64) (xb : Int64) (xc : Int64) (xd : Int64) (u0 : Int64) (u1 : Int64) (u2 : UInt64) (u3 : UInt64) (u4 : Int64) (u5 : Int64) (u6 : UInt64) (u7 : UInt64) (h0 : Heap) (n0 : Nat) (Z0 : n0 ≤ h0.size) (pf0 : Exa Z h0 ax "com/example/bucketsplit/bucketsplit/core/Meter") (pf1 : Fld Z h0 ax "com/example/bucketsplit/bucketsplit/core/Meter" "mMaxSteps" "J" (.long u0)) (pf2 : Fld Z h0 ax "com/example/bucketsplit/bucketsplit/core/Meter" "mMaxStepsPerOperation" "J" (.long u1)) (pf3 : Fld Z h0 ax "com/example/bucketsplit/bucketsplit/core/Meter" "mStepLimit" "D" (.double u2)) (pf4 : Fld Z h0 ax "com/example/bucketsplit/bucketsplit/core/Meter" "mOperationStepLimit" "D" (.double u3)) (pf5 : Fld Z h0 ax "com/example/bucketsplit/bucketsplit/core/Meter" "mMaxOperations" "J" (.long u4)) (pf6 : Fld Z h0 ax "com/example/bucketsplit/bucketsplit/core/Meter" "mMaxUnsafeValues" "J" (.long u5)) (pf7 : Fld Z h0 ax "com/example/bucketsplit/bucketsplit/core/Meter" "mOperationLimit" "D" (.double u6)) (pf8 : Fld Z h0 ax "com/example/bucketsplit/bucketsplit/core/Meter" "mUnsafeValueLimit" "D" (.double u7)) (pg_ax : n0 ≤ ax) :
    MetFree l (⟨"com/example/bucketsplit/bucketsplit/core/Meter", "<init>", "(JJJJ)V"⟩ : MethodName) (head1 (Jvm.Cond.code (⟨"com/example/bucketsplit/bucketsplit/core/Meter", "<init>", "(JJJJ)V"⟩ : MethodName) prog_40_method_1_code 9 none :: ws) ({ frames := 1, cells := 0, slots := 0, locals := 12 } : Room)) (fun a U => a = #[(.ref ax), (.long xa), (.long xb), (.long xc), (.long xd)] ∧ Z.Warmed39 U.vm ∧ U.heap = h0) (fun _ _ _ _ _ => True) (fun _ U o U' => ∃ v L, o = .returned v ∧ own_Q1 Z ax xa xb xc xd u0 u1 u2 u3 u4 u5 u6 u7 h0 n0 v U'.heap L ∧ FrameEnd U o U' L ({ frames := 1, cells := 0, slots := 0, locals := 12 } : Room).cells ({ frames := 1, cells := 0, slots := 0, locals := 12 } : Room).slots) := by
  refine MetFree.of_bodySF (plainFor_of_name own_pn1) hisR ?_
  intro p e s m args below meth c s₁ Bd hml0 hP hK
  obtain ⟨rfl, hZ, hh⟩ := hP
  have hx := Bd.exec
  have hby := Bd.bytes
  have hlk := Bd.notSynchronized
  have hret := Bd.returns
  have hml : c.maxLocals = 9 := hml0
  have hown : s.vm.findClass "com/example/bucketsplit/bucketsplit/core/Meter" = some m.cls := findClass_of_methodNamed Bd.named
  have hnm := (name_of_methodNamed Bd.named Bd.method).1
  have X0 : Stand p l e ({ frames := 1, cells := 0, slots := 0, locals := 12 } : Room) s m #[(.ref ax), (.long xa), (.long xb), (.long xc), (.long xd)] below meth c s₁ [] 0 0 := Stand.of_body Bd
  have e0 : s₁.heap = h0 := by rw [← hh, Bd.state]; rfl
  have N0 := Fr.nil n0
  suffices key : own_Go p e below (own_End s below (own_Q1 Z ax xa xb xc xd u0 u1 u2 u3 u4 u5 u6 u7 h0 n0) ({ frames := 1, cells := 0, slots := 0, locals := 12 } : Room).cells ({ frames := 1, cells := 0, slots := 0, locals := 12 } : Room).slots) (s₁.setTop (mkF m 0 #[.val (.ref ax), .val (.long xa), .second, .val (.long xb), .second, .val (.long xc), .second, .val (.long xd), .second] [])) by
    obtain ⟨t, k1, k2, v, L, k3, k4, k5⟩ := key
    exact ⟨t, _, castTop (own_ef1 m ax xa xb xc xd) k1, k2, k3, v, L, rfl, k4, k5⟩
  show own_Go p e below _ (s₁.setTop (mkF m 0 #[.val (.ref ax), .val (.long xa), .second, .val (.long xb), .second, .val (.long xc), .second, .val (.long xd), .second] []))
  refine own_by (fun _ => XS.aloadN X0.here hx rfl (hb hby own_d1_0) rfl rfl) ?_
  show own_Go p e below _ (s₁.setTop (mkF m 1 #[.val (.ref ax), .val (.long xa), .second, .val (.long xb), .second, .val (.long xc), .second, .val (.long xd), .second] [(.ref ax)]))
  obtain ⟨T1, X1, e1, st1⟩ := initO X0 hx hZ hown (hw _ (List.mem_of_getElem? (i := 7) rfl)) (hw _ (List.mem_of_getElem? (i := 8) rfl)) (hw _ (List.mem_of_getElem? (i := 9) rfl)) e0 (g := (mkF m 1 #[.val (.ref ax), .val (.long xa), .second, .val (.long xb), .second, .val (.long xc), .second, .val (.long xd), .second] [(.ref ax)])) rfl (by rw [hml]; rfl) rfl (hb hby own_d1_1) (by decide) (W := 0) (by show 2 * 0 + _ ≤ _; exact Nat.le_of_eq rfl) (by decide)
  refine own_by st1 ?_
  show own_Go p e below _ (T1.setTop (mkF m 4 #[.val (.ref ax), .val (.long xa), .second, .val (.long xb), .second, .val (.long xc), .second, .val (.long xd), .second] []))
  refine own_by (fun _ => XS.aloadN X1.here hx rfl (hb hby own_d1_4) rfl rfl) ?_
  show own_Go p e below _ (T1.setTop (mkF m 5 #[.val (.ref ax), .val (.long xa), .second, .val (.long xb), .second, .val (.long xc), .second, .val (.long xd), .second] [(.ref ax)]))
  refine own_by (fun _ => XS.lloadN X1.here hx rfl (hb hby own_d1_5) rfl) ?_
  show own_Go p e below _ (T1.setTop (mkF m 6 #[.val (.ref ax), .val (.long xa), .second, .val (.long xb), .second, .val (.long xc), .second, .val (.long xd), .second] [(.long xa), (.ref ax)]))
  obtain ⟨T2, h2, X2, e2, W2, st2⟩ := putF X1 hx hZ hown (host := "") (Or.inl (hw _ (List.mem_of_getElem? (i := 10) rfl))) Via.refl e1 pf1 pf0 (Or.inr ⟨(hw _ (List.mem_of_getElem? (i := 11) rfl)), rfl, hnm⟩) (hw _ (List.mem_of_getElem? (i := 2) rfl)) (ty := .long) (by decide) rfl rfl (g := (mkF m 6 #[.val (.ref ax), .val (.long xa), .second, .val (.long xb), .second, .val (.long xc), .second, .val (.long xd), .second] [(.long xa), (.ref ax)])) rfl rfl (hb hby own_d1_6)
  refine own_by st2 ?_
  have fw2 : Fld Z h2 ax "com/example/bucketsplit/bucketsplit/core/Meter" "mMaxSteps" "J" (.long xa) := pf1.same W2
  have z2 : n0 ≤ h2.size := Nat.le_trans Z0 (Keep.of_wr W2).1
  have N2 := Fr.snoc X2 N0 pg_ax
  have K2 : Keep h0 h2 [ax] := (Keep.refl h0 [ax]).wr W2 (Or.inl (List.mem_of_getElem? (i := 0) rfl))
  show own_Go p e below _ (T2.setTop (mkF m 9 #[.val (.ref ax), .val (.long xa), .second, .val (.long xb), .second, .val (.long xc), .second, .val (.long xd), .second] []))
  refine own_by (fun _ => XS.aloadN X2.here hx rfl (hb hby own_d1_9) rfl rfl) ?_
  show own_Go p e below _ (T2.setTop (mkF m 10 #[.val (.ref ax), .val (.long xa), .second, .val (.long xb), .second, .val (.long xc), .second, .val (.long xd), .second] [(.ref ax)]))
  refine own_by (fun _ => XS.lloadN X2.here hx rfl (hb hby own_d1_10) rfl) ?_
  show own_Go p e below _ (T2.setTop (mkF m 11 #[.val (.ref ax), .val (.long xa), .second, .val (.long xb), .second, .val (.long xc), .second, .val (.long xd), .second] [(.long xb), (.ref ax)]))
  have f3 : Exa Z h2 ax "com/example/bucketsplit/bucketsplit/core/Meter" := (pf0.wr W2)
  have f4 : Fld Z h2 ax "com/example/bucketsplit/bucketsplit/core/Meter" "mMaxStepsPerOperation" "J" (.long u1) := (pf2.other W2 (Or.inr (slot_ne (Or.inr (hw _ (List.mem_of_getElem? (i := 13) rfl))) (Or.inr (hw _ (List.mem_of_getElem? (i := 11) rfl))) (by decide) (t := .long) (t' := .long) (by decide) (by decide))))
  obtain ⟨T5, h5, X5, e5, W5, st5⟩ := putF X2 hx hZ hown (host := "") (Or.inl (hw _ (List.mem_of_getElem? (i := 12) rfl))) Via.refl e2 f4 f3 (Or.inr ⟨(hw _ (List.mem_of_getElem? (i := 13) rfl)), rfl, hnm⟩) (hw _ (List.mem_of_getElem? (i := 2) rfl)) (ty := .long) (by decide) rfl rfl (g := (mkF m 11 #[.val (.ref ax), .val (.long xa), .second, .val (.long xb), .second, .val (.long xc), .second, .val (.long xd), .second] [(.long xb), (.ref ax)])) rfl rfl (hb hby own_d1_11)
  refine own_by st5 ?_
  have fw5 : Fld Z h5 ax "com/example/bucketsplit/bucketsplit/core/Meter" "mMaxStepsPerOperation" "J" (.long xb) := f4.same W5
  have z5 : n0 ≤ h5.size := Nat.le_trans z2 (Keep.of_wr W5).1
  have N5 := Fr.snoc X5 N2 pg_ax
  have K5 : Keep h0 h5 [ax] := K2.wr W5 (Or.inl (List.mem_of_getElem? (i := 0) rfl))
  show own_Go p e below _ (T5.setTop (mkF m 14 #[.val (.ref ax), .val (.long xa), .second, .val (.long xb), .second, .val (.long xc), .second, .val (.long xd), .second] []))
  refine own_by (fun _ => XS.aloadN X5.here hx rfl (hb hby own_d1_14) rfl rfl) ?_
  show own_Go p e below _ (T5.setTop (mkF m 15 #[.val (.ref ax), .val (.long xa), .second, .val (.long xb), .second, .val (.long xc), .second, .val (.long xd), .second] [(.ref ax)]))
  refine own_by (fun _ => XS.lloadN X5.here hx rfl (hb hby own_d1_15) rfl) ?_
  show own_Go p e below _ (T5.setTop (mkF m 16 #[.val (.ref ax), .val (.long xa), .second, .val (.long xb), .second, .val (.long xc), .second, .val (.long xd), .second] [(.long xa), (.ref ax)]))
  refine own_by (fun _ => XS.l2dS X5.here hx rfl (hb hby own_d1_16) rfl rfl) ?_
  show own_Go p e below _ (T5.setTop (mkF m 17 #[.val (.ref ax), .val (.long xa), .second, .val (.long xb), .second, .val (.long xc), .second, .val (.long xd), .second] [(.double (FP.l2d xa)), (.ref ax)]))
  have f6 : Exa Z h5 ax "com/example/bucketsplit/bucketsplit/core/Meter" := (f3.wr W5)
  have f7 : Fld Z h5 ax "com/example/bucketsplit/bucketsplit/core/Meter" "mStepLimit" "D" (.double u2) := ((pf3.other W2 (Or.inr (slot_ne (Or.inr (hw _ (List.mem_of_getElem? (i := 15) rfl))) (Or.inr (hw _ (List.mem_of_getElem? (i := 11) rfl))) (by decide) (t := .double) (t' := .long) (by decide) (by decide)))).other W5 (Or.inr (slot_ne (Or.inr (hw _ (List.mem_of_getElem? (i := 15) rfl))) (Or.inr (hw _ (List.mem_of_getElem? (i := 13) rfl))) (by decide) (t := .double) (t' := .long) (by decide) (by decide))))
  obtain ⟨T8, h8, X8, e8, W8, st8⟩ := putF X5 hx hZ hown (host := "") (Or.inl (hw _ (List.mem_of_getElem? (i := 14) rfl))) Via.refl e5 f7 f6 (Or.inr ⟨(hw _ (List.mem_of_getElem? (i := 15) rfl)), rfl, hnm⟩) (hw _ (List.mem_of_getElem? (i := 2) rfl)) (ty := .double) (by decide) rfl rfl (g := (mkF m 17 #[.val (.ref ax), .val (.long xa), .second, .val (.long xb), .second, .val (.long xc), .second, .val (.long xd), .second] [(.double (FP.l2d xa)), (.ref ax)])) rfl rfl (hb hby own_d1_17)
  refine own_by st8 ?_
  have fw8 : Fld Z h8 ax "com/example/bucketsplit/bucketsplit/core/Meter" "mStepLimit" "D" (.double (FP.l2d xa)) := f7.same W8
  have z8 : n0 ≤ h8.size := Nat.le_trans z5 (Keep.of_wr W8).1
  have N8 := Fr.snoc X8 N5 pg_ax
  have K8 : Keep h0 h8 [ax] := K5.wr W8 (Or.inl (List.mem_of_getElem? (i := 0) rfl))
  show own_Go p e below _ (T8.setTop (mkF m 20 #[.val (.ref ax), .val (.long xa), .second, .val (.long xb), .second, .val (.long xc), .second, .val (.long xd), .second] []))
  refine own_by (fun _ => XS.aloadN X8.here hx rfl (hb hby own_d1_20) rfl rfl) ?_
  show own_Go p e below _ (T8.setTop (mkF m 21 #[.val (.ref ax), .val (.long xa), .second, .val (.long xb), .second, .val (.long xc), .second, .val (.long xd), .second] [(.ref ax)]))
  refine own_by (fun _ => XS.lloadN X8.here hx rfl (hb hby own_d1_21) rfl) ?_
  show own_Go p e below _ (T8.setTop (mkF m 22 #[.val (.ref ax), .val (.long xa), .second, .val (.long xb), .second, .val (.long xc), .second, .val (.long xd), .second] [(.long xb), (.ref ax)]))
  refine own_by (fun _ => XS.l2dS X8.here hx rfl (hb hby own_d1_22) rfl rfl) ?_
  show own_Go p e below _ (T8.setTop (mkF m 23 #[.val (.ref ax), .val (.long xa), .second, .val (.long xb), .second, .val (.long xc), .second, .val (.long xd), .second] [(.double (FP.l2d xb)), (.ref ax)]))
  have f9 : Exa Z h8 ax "com/example/bucketsplit/bucketsplit/core/Meter" := (f6.wr W8)
  have f10 : Fld Z h8 ax "com/example/bucketsplit/bucketsplit/core/Meter" "mOperationStepLimit" "D" (.double u3) := (((pf4.other W2 (Or.inr (slot_ne (Or.inr (hw _ (List.mem_of_getElem? (i := 17) rfl))) (Or.inr (hw _ (List.mem_of_getElem? (i := 11) rfl))) (by decide) (t := .double) (t' := .long) (by decide) (by decide)))).other W5 (Or.inr (slot_ne (Or.inr (hw _ (List.mem_of_getElem? (i := 17) rfl))) (Or.inr (hw _ (List.mem_of_getElem? (i := 13) rfl))) (by decide) (t := .double) (t' := .long) (by decide) (by decide)))).other W8 (Or.inr (slot_ne (Or.inr (hw _ (List.mem_of_getElem? (i := 17) rfl))) (Or.inr (hw _ (List.mem_of_getElem? (i := 15) rfl))) (by decide) (t := .double) (t' := .double) (by decide) (by decide))))
  obtain ⟨T11, h11, X11, e11, W11, st11⟩ := putF X8 hx hZ hown (host := "") (Or.inl (hw _ (List.mem_of_getElem? (i := 16) rfl))) Via.refl e8 f10 f9 (Or.inr ⟨(hw _ (List.mem_of_getElem? (i := 17) rfl)), rfl, hnm⟩) (hw _ (List.mem_of_getElem? (i := 2) rfl)) (ty := .double) (by decide) rfl rfl (g := (mkF m 23 #[.val (.ref ax), .val (.long xa), .second, .val (.long xb), .second, .val (.long xc), .second, .val (.long xd), .second] [(.double (FP.l2d xb)), (.ref ax)])) rfl rfl (hb hby own_d1_23)
  refine own_by st11 ?_
  have fw11 : Fld Z h11 ax "com/example/bucketsplit/bucketsplit/core/Meter" "mOperationStepLimit" "D" (.double (FP.l2d xb)) := f10.same W11
  have z11 : n0 ≤ h11.size := Nat.le_trans z8 (Keep.of_wr W11).1
  have N11 := Fr.snoc X11 N8 pg_ax
  have K11 : Keep h0 h11 [ax] := K8.wr W11 (Or.inl (List.mem_of_getElem? (i := 0) rfl))
  show own_Go p e below _ (T11.setTop (mkF m 26 #[.val (.ref ax), .val (.long xa), .second, .val (.long xb), .second, .val (.long xc), .second, .val (.long xd), .second] []))
  refine own_by (fun _ => XS.aloadN X11.here hx rfl (hb hby own_d1_26) rfl rfl) ?_
  show own_Go p e below _ (T11.setTop (mkF m 27 #[.val (.ref ax), .val (.long xa), .second, .val (.long xb), .second, .val (.long xc), .second, .val (.long xd), .second] [(.ref ax)]))
  refine own_by (fun _ => XS.lload X11.here hx rfl (hb hby own_d1_27) rfl) ?_
  show own_Go p e below _ (T11.setTop (mkF m 29 #[.val (.ref ax), .val (.long xa), .second, .val (.long xb), .second, .val (.long xc), .second, .val (.long xd), .second] [(.long xc), (.ref ax)]))
  have f12 : Exa Z h11 ax "com/example/bucketsplit/bucketsplit/core/Meter" := (f9.wr W11)
  have f13 : Fld Z h11 ax "com/example/bucketsplit/bucketsplit/core/Meter" "mMaxOperations" "J" (.long u4) := ((((pf5.other W2 (Or.inr (slot_ne (Or.inr (hw _ (List.mem_of_getElem? (i := 19) rfl))) (Or.inr (hw _ (List.mem_of_getElem? (i := 11) rfl))) (by decide) (t := .long) (t' := .long) (by decide) (by decide)))).other W5 (Or.inr (slot_ne (Or.inr (hw _ (List.mem_of_getElem? (i := 19) rfl))) (Or.inr (hw _ (List.mem_of_getElem? (i := 13) rfl))) (by decide) (t := .long) (t' := .long) (by decide) (by decide)))).other W8 (Or.inr (slot_ne (Or.inr (hw _ (List.mem_of_getElem? (i := 19) rfl))) (Or.inr (hw _ (List.mem_of_getElem? (i := 15) rfl))) (by decide) (t := .long) (t' := .double) (by decide) (by decide)))).other W11 (Or.inr (slot_ne (Or.inr (hw _ (List.mem_of_getElem? (i := 19) rfl))) (Or.inr (hw _ (List.mem_of_getElem? (i := 17) rfl))) (by decide) (t := .long) (t' := .double) (by decide) (by decide))))
  obtain ⟨T14, h14, X14, e14, W14, st14⟩ := putF X11 hx hZ hown (host := "") (Or.inl (hw _ (List.mem_of_getElem? (i := 18) rfl))) Via.refl e11 f13 f12 (Or.inr ⟨(hw _ (List.mem_of_getElem? (i := 19) rfl)), rfl, hnm⟩) (hw _ (List.mem_of_getElem? (i := 2) rfl)) (ty := .long) (by decide) rfl rfl (g := (mkF m 29 #[.val (.ref ax), .val (.long xa), .second, .val (.long xb), .second, .val (.long xc), .second, .val (.long xd), .second] [(.long xc), (.ref ax)])) rfl rfl (hb hby own_d1_29)
  refine own_by st14 ?_
  have fw14 : Fld Z h14 ax "com/example/bucketsplit/bucketsplit/core/Meter" "mMaxOperations" "J" (.long xc) := f13.same W14
  have z14 : n0 ≤ h14.size := Nat.le_trans z11 (Keep.of_wr W14).1
  have N14 := Fr.snoc X14 N11 pg_ax
  have K14 : Keep h0 h14 [ax] := K11.wr W14 (Or.inl (List.mem_of_getElem? (i := 0) rfl))
  show own_Go p e below _ (T14.setTop (mkF m 32 #[.val (.ref ax), .val (.long xa), .second, .val (.long xb), .second, .val (.long xc), .second, .val (.long xd), .second] []))
  refine own_by (fun _ => XS.aloadN X14.here hx rfl (hb hby own_d1_32) rfl rfl) ?_
  show own_Go p e below _ (T14.setTop (mkF m 33 #[.val (.ref ax), .val (.long xa), .second, .val (.long xb), .second, .val (.long xc), .second, .val (.long xd), .second] [(.ref ax)]))
  refine own_by (fun _ => XS.lload X14.here hx rfl (hb hby own_d1_33) rfl) ?_
  show own_Go p e below _ (T14.setTop (mkF m 35 #[.val (.ref ax), .val (.long xa), .second, .val (.long xb), .second, .val (.long xc), .second, .val (.long xd), .second] [(.long xd), (.ref ax)]))
  have f15 : Exa Z h14 ax "com/example/bucketsplit/bucketsplit/core/Meter" := (f12.wr W14)
  have f16 : Fld Z h14 ax "com/example/bucketsplit/bucketsplit/core/Meter" "mMaxUnsafeValues" "J" (.long u5) := (((((pf6.other W2 (Or.inr (slot_ne (Or.inr (hw _ (List.mem_of_getElem? (i := 21) rfl))) (Or.inr (hw _ (List.mem_of_getElem? (i := 11) rfl))) (by decide) (t := .long) (t' := .long) (by decide) (by decide)))).other W5 (Or.inr (slot_ne (Or.inr (hw _ (List.mem_of_getElem? (i := 21) rfl))) (Or.inr (hw _ (List.mem_of_getElem? (i := 13) rfl))) (by decide) (t := .long) (t' := .long) (by decide) (by decide)))).other W8 (Or.inr (slot_ne (Or.inr (hw _ (List.mem_of_getElem? (i := 21) rfl))) (Or.inr (hw _ (List.mem_of_getElem? (i := 15) rfl))) (by decide) (t := .long) (t' := .double) (by decide) (by decide)))).other W11 (Or.inr (slot_ne (Or.inr (hw _ (List.mem_of_getElem? (i := 21) rfl))) (Or.inr (hw _ (List.mem_of_getElem? (i := 17) rfl))) (by decide) (t := .long) (t' := .double) (by decide) (by decide)))).other W14 (Or.inr (slot_ne (Or.inr (hw _ (List.mem_of_getElem? (i := 21) rfl))) (Or.inr (hw _ (List.mem_of_getElem? (i := 19) rfl))) (by decide) (t := .long) (t' := .long) (by decide) (by decide))))
  obtain ⟨T17, h17, X17, e17, W17, st17⟩ := putF X14 hx hZ hown (host := "") (Or.inl (hw _ (List.mem_of_getElem? (i := 20) rfl))) Via.refl e14 f16 f15 (Or.inr ⟨(hw _ (List.mem_of_getElem? (i := 21) rfl)), rfl, hnm⟩) (hw _ (List.mem_of_getElem? (i := 2) rfl)) (ty := .long) (by decide) rfl rfl (g := (mkF m 35 #[.val (.ref ax), .val (.long xa), .second, .val (.long xb), .second, .val (.long xc), .second, .val (.long xd), .second] [(.long xd), (.ref ax)])) rfl rfl (hb hby own_d1_35)
  refine own_by st17 ?_
  have fw17 : Fld Z h17 ax "com/example/bucketsplit/bucketsplit/core/Meter" "mMaxUnsafeValues" "J" (.long xd) := f16.same W17
  have z17 : n0 ≤ h17.size := Nat.le_trans z14 (Keep.of_wr W17).1
  have N17 := Fr.snoc X17 N14 pg_ax
  have K17 : Keep h0 h17 [ax] := K14.wr W17 (Or.inl (List.mem_of_getElem? (i := 0) rfl))
  show own_Go p e below _ (T17.setTop (mkF m 38 #[.val (.ref ax), .val (.long xa), .second, .val (.long xb), .second, .val (.long xc), .second, .val (.long xd), .second] []))
  refine own_by (fun _ => XS.aloadN X17.here hx rfl (hb hby own_d1_38) rfl rfl) ?_
  show own_Go p e below _ (T17.setTop (mkF m 39 #[.val (.ref ax), .val (.long xa), .second, .val (.long xb), .second, .val (.long xc), .second, .val (.long xd), .second] [(.ref ax)]))
  refine own_by (fun _ => XS.lload X17.here hx rfl (hb hby own_d1_39) rfl) ?_
  show own_Go p e below _ (T17.setTop (mkF m 41 #[.val (.ref ax), .val (.long xa), .second, .val (.long xb), .second, .val (.long xc), .second, .val (.long xd), .second] [(.long xc), (.ref ax)]))
  refine own_by (fun _ => XS.l2dS X17.here hx rfl (hb hby own_d1_41) rfl rfl) ?_
  show own_Go p e below _ (T17.setTop (mkF m 42 #[.val (.ref ax), .val (.long xa), .second, .val (.long xb), .second, .val (.long xc), .second, .val (.long xd), .second] [(.double (FP.l2d xc)), (.ref ax)]))
  have f18 : Exa Z h17 ax "com/example/bucketsplit/bucketsplit/core/Meter" := (f15.wr W17)
  have f19 : Fld Z h17 ax "com/example/bucketsplit/bucketsplit/core/Meter" "mOperationLimit" "D" (.double u6) := ((((((pf7.other W2 (Or.inr (slot_ne (Or.inr (hw _ (List.mem_of_getElem? (i := 23) rfl))) (Or.inr (hw _ (List.mem_of_getElem? (i := 11) rfl))) (by decide) (t := .double) (t' := .long) (by decide) (by decide)))).other W5 (Or.inr (slot_ne (Or.inr (hw _ (List.mem_of_getElem? (i := 23) rfl))) (Or.inr (hw _ (List.mem_of_getElem? (i := 13) rfl))) (by decide) (t := .double) (t' := .long) (by decide) (by decide)))).other W8 (Or.inr (slot_ne (Or.inr (hw _ (List.mem_of_getElem? (i := 23) rfl))) (Or.inr (hw _ (List.mem_of_getElem? (i := 15) rfl))) (by decide) (t := .double) (t' := .double) (by decide) (by decide)))).other W11 (Or.inr (slot_ne (Or.inr (hw _ (List.mem_of_getElem? (i := 23) rfl))) (Or.inr (hw _ (List.mem_of_getElem? (i := 17) rfl))) (by decide) (t := .double) (t' := .double) (by decide) (by decide)))).other W14 (Or.inr (slot_ne (Or.inr (hw _ (List.mem_of_getElem? (i := 23) rfl))) (Or.inr (hw _ (List.mem_of_getElem? (i := 19) rfl))) (by decide) (t := .double) (t' := .long) (by decide) (by decide)))).other W17 (Or.inr (slot_ne (Or.inr (hw _ (List.mem_of_getElem? (i := 23) rfl))) (Or.inr (hw _ (List.mem_of_getElem? (i := 21) rfl))) (by decide) (t := .double) (t' := .long) (by decide) (by decide))))
  obtain ⟨T20, h20, X20, e20, W20, st20⟩ := putF X17 hx hZ hown (host := "") (Or.inl (hw _ (List.mem_of_getElem? (i := 22) rfl))) Via.refl e17 f19 f18 (Or.inr ⟨(hw _ (List.mem_of_getElem? (i := 23) rfl)), rfl, hnm⟩) (hw _ (List.mem_of_getElem? (i := 2) rfl)) (ty := .double) (by decide) rfl rfl (g := (mkF m 42 #[.val (.ref ax), .val (.long xa), .second, .val (.long xb), .second, .val (.long xc), .second, .val (.long xd), .second] [(.double (FP.l2d xc)), (.ref ax)])) rfl rfl (hb hby own_d1_42)
  refine own_by st20 ?_
  have fw20 : Fld Z h20 ax "com/example/bucketsplit/bucketsplit/core/Meter" "mOperationLimit" "D" (.double (FP.l2d xc)) := f19.same W20
  have z20 : n0 ≤ h20.size := Nat.le_trans z17 (Keep.of_wr W20).1
  have N20 := Fr.snoc X20 N17 pg_ax
  have K20 : Keep h0 h20 [ax] := K17.wr W20 (Or.inl (List.mem_of_getElem? (i := 0) rfl))
  show own_Go p e below _ (T20.setTop (mkF m 45 #[.val (.ref ax), .val (.long xa), .second, .val (.long xb), .second, .val (.long xc), .second, .val (.long xd), .second] []))
  refine own_by (fun _ => XS.aloadN X20.here hx rfl (hb hby own_d1_45) rfl rfl) ?_
  show own_Go p e below _ (T20.setTop (mkF m 46 #[.val (.ref ax), .val (.long xa), .second, .val (.long xb), .second, .val (.long xc), .second, .val (.long xd), .second] [(.ref ax)]))
  refine own_by (fun _ => XS.lload X20.here hx rfl (hb hby own_d1_46) rfl) ?_
  show own_Go p e below _ (T20.setTop (mkF m 48 #[.val (.ref ax), .val (.long xa), .second, .val (.long xb), .second, .val (.long xc), .second, .val (.long xd), .second] [(.long xd), (.ref ax)]))
  refine own_by (fun _ => XS.l2dS X20.here hx rfl (hb hby own_d1_48) rfl rfl) ?_
  show own_Go p e below _ (T20.setTop (mkF m 49 #[.val (.ref ax), .val (.long xa), .second, .val (.long xb), .second, .val (.long xc), .second, .val (.long xd), .second] [(.double (FP.l2d xd)), (.ref ax)]))
  have f21 : Exa Z h20 ax "com/example/bucketsplit/bucketsplit/core/Meter" := (f18.wr W20)
  have f22 : Fld Z h20 ax "com/example/bucketsplit/bucketsplit/core/Meter" "mUnsafeValueLimit" "D" (.double u7) := (((((((pf8.other W2 (Or.inr (slot_ne (Or.inr (hw _ (List.mem_of_getElem? (i := 25) rfl))) (Or.inr (hw _ (List.mem_of_getElem? (i := 11) rfl))) (by decide) (t := .double) (t' := .long) (by decide) (by decide)))).other W5 (Or.inr (slot_ne (Or.inr (hw _ (List.mem_of_getElem? (i := 25) rfl))) (Or.inr (hw _ (List.mem_of_getElem? (i := 13) rfl))) (by decide) (t := .double) (t' := .long) (by decide) (by decide)))).other W8 (Or.inr (slot_ne (Or.inr (hw _ (List.mem_of_getElem? (i := 25) rfl))) (Or.inr (hw _ (List.mem_of_getElem? (i := 15) rfl))) (by decide) (t := .double) (t' := .double) (by decide) (by decide)))).other W11 (Or.inr (slot_ne (Or.inr (hw _ (List.mem_of_getElem? (i := 25) rfl))) (Or.inr (hw _ (List.mem_of_getElem? (i := 17) rfl))) (by decide) (t := .double) (t' := .double) (by decide) (by decide)))).other W14 (Or.inr (slot_ne (Or.inr (hw _ (List.mem_of_getElem? (i := 25) rfl))) (Or.inr (hw _ (List.mem_of_getElem? (i := 19) rfl))) (by decide) (t := .double) (t' := .long) (by decide) (by decide)))).other W17 (Or.inr (slot_ne (Or.inr (hw _ (List.mem_of_getElem? (i := 25) rfl))) (Or.inr (hw _ (List.mem_of_getElem? (i := 21) rfl))) (by decide) (t := .double) (t' := .long) (by decide) (by decide)))).other W20 (Or.inr (slot_ne (Or.inr (hw _ (List.mem_of_getElem? (i := 25) rfl))) (Or.inr (hw _ (List.mem_of_getElem? (i := 23) rfl))) (by decide) (t := .double) (t' := .double) (by decide) (by decide))))
  obtain ⟨T23, h23, X23, e23, W23, st23⟩ := putF X20 hx hZ hown (host := "") (Or.inl (hw _ (List.mem_of_getElem? (i := 24) rfl))) Via.refl e20 f22 f21 (Or.inr ⟨(hw _ (List.mem_of_getElem? (i := 25) rfl)), rfl, hnm⟩) (hw _ (List.mem_of_getElem? (i := 2) rfl)) (ty := .double) (by decide) rfl rfl (g := (mkF m 49 #[.val (.ref ax), .val (.long xa), .second, .val (.long xb), .second, .val (.long xc), .second, .val (.long xd), .second] [(.double (FP.l2d xd)), (.ref ax)])) rfl rfl (hb hby own_d1_49)
  refine own_by st23 ?_
  have fw23 : Fld Z h23 ax "com/example/bucketsplit/bucketsplit/core/Meter" "mUnsafeValueLimit" "D" (.double (FP.l2d xd)) := f22.same W23
  have z23 : n0 ≤ h23.size := Nat.le_trans z20 (Keep.of_wr W23).1
  have N23 := Fr.snoc X23 N20 pg_ax
  have K23 : Keep h0 h23 [ax] := K20.wr W23 (Or.inl (List.mem_of_getElem? (i := 0) rfl))
  show own_Go p e below _ (T23.setTop (mkF m 52 #[.val (.ref ax), .val (.long xa), .second, .val (.long xb), .second, .val (.long xc), .second, .val (.long xd), .second] []))
  have f24 : Fld Z h23 ax "com/example/bucketsplit/bucketsplit/core/Meter" "mMaxOperations" "J" (.long xc) := (((fw14.other W17 (Or.inr (slot_ne (Or.inr (hw _ (List.mem_of_getElem? (i := 19) rfl))) (Or.inr (hw _ (List.mem_of_getElem? (i := 21) rfl))) (by decide) (t := .long) (t' := .long) (by decide) (by decide)))).other W20 (Or.inr (slot_ne (Or.inr (hw _ (List.mem_of_getElem? (i := 19) rfl))) (Or.inr (hw _ (List.mem_of_getElem? (i := 23) rfl))) (by decide) (t := .long) (t' := .double) (by decide) (by decide)))).other W23 (Or.inr (slot_ne (Or.inr (hw _ (List.mem_of_getElem? (i := 19) rfl))) (Or.inr (hw _ (List.mem_of_getElem? (i := 25) rfl))) (by decide) (t := .long) (t' := .double) (by decide) (by decide))))
  have f25 : Fld Z h23 ax "com/example/bucketsplit/bucketsplit/core/Meter" "mMaxUnsafeValues" "J" (.long xd) := ((fw17.other W20 (Or.inr (slot_ne (Or.inr (hw _ (List.mem_of_getElem? (i := 21) rfl))) (Or.inr (hw _ (List.mem_of_getElem? (i := 23) rfl))) (by decide) (t := .long) (t' := .double) (by decide) (by decide)))).other W23 (Or.inr (slot_ne (Or.inr (hw _ (List.mem_of_getElem? (i := 21) rfl))) (Or.inr (hw _ (List.mem_of_getElem? (i := 25) rfl))) (by decide) (t := .long) (t' := .double) (by decide) (by decide))))
  exact own_retV X23 hx hlk e23 hret (hb hby own_d1_52) (by decide) (by decide) ⟨rfl, N23, K23, f24, f25⟩

theorem own_d3_0 : decode prog_40_method_2_code 0 = .ok (.aload_n 0, 1) := by decide +kernel
theorem own_d3_1 : decode prog_40_method_2_code 1 = .ok (.getfield 23, 3) := by decide +kernel
theorem own_d3_4 : decode prog_40_method_2_code 4 = .ok (.ldc2_w 37, 3) := by decide +kernel
theorem own_d3_7 : decode prog_40_method_2_code 7 = .ok (.lcmp, 1) := by decide +kernel
theorem own_d3_8 : decode prog_40_method_2_code 8 = .ok (.ifCond .lt 14, 3) := by decide +kernel
theorem own_d3_11 : decode prog_40_method_2_code 11 = .ok (.aload_n 0, 1) := by decide +kernel
theorem own_d3_12 : decode prog_40_method_2_code 12 = .ok (.getfield 26, 3) := by decide +kernel
theorem own_d3_15 : decode prog_40_method_2_code 15 = .ok (.ldc2_w 37, 3) := by decide +kernel
theorem own_d3_18 : decode prog_40_method_2_code 18 = .ok (.lcmp, 1) := by decide +kernel
theorem own_d3_19 : decode prog_40_method_2_code 19 = .ok (.ifCond .ge 7, 3) := by decide +kernel
theorem own_d3_22 : decode prog_40_method_2_code 22 = .ok (.iconst 1, 1) := by decide +kernel
theorem own_d3_23 : decode prog_40_method_2_code 23 = .ok (.goto 4, 3) := by decide +kernel
theorem own_d3_26 : decode prog_40_method_2_code 26 = .ok (.iconst 0, 1) := by decide +kernel
theorem own_d3_27 : decode prog_40_method_2_code 27 = .ok (.ireturn, 1) := by decide +kernel
def own_watch (ua : Int64) (ub : Int64) : Int32 := (if ua < (9223372036854775807 : Int64) then (1 : Int32) else (if ub < (9223372036854775807 : Int64) then (1 : Int32) else (0 : Int32)))
theorem own_pn3 : plainName "com/example/bucketsplit/bucketsplit/core/Meter" = true := by first | (simp [plainName, overriddenIn]; done) | decide +kernel
theorem own_ef3 (m : MethodId) (x0 : Addr) : entryFrame m #[(.ref x0)] 1 = mkF m 0 #[.val (.ref x0)] [] := by first | (simp [entryFrame, mkF, argsToLocals, Value.category]; done) | rfl
def own_Q3 (Z : State) (ax : Addr) (ua : Int64) (ub : Int64) (h0 : Heap) (n0 : Nat) (v : Option Value) (h : Heap) (L : List Loc) : Prop := v = some (.int (own_watch ua ub)) ∧ Fr n0 L ∧ h = h0
theorem own_rm3 (l : Launch) (Z : State) (a0 : Array Value) (hw : ∀ d ∈ tables_1, d.before a0 Z = true) (ws : List Jvm.Cond) (ax : Addr) (ua : Int64) (ub : Int64) (h0 : Heap) (n0 : Nat) (Z0 : n0 ≤ h0.size) (pf0 : Fld Z h0 ax "com/example/bucketsplit/bucketsplit/core/Meter" "mMaxOperations" "J" (.long ua)) (pf1 : Fld Z h0 ax "com/example/bucketsplit/bucketsplit/core/Meter" "mMaxUnsafeValues" "J" (.long ub)) :
    MetFree l (⟨"com/example/bucketsplit/bucketsplit/core/Meter", "watchesValuations", "()Z"⟩ : MethodName) (head1 (Jvm.Cond.code (⟨"com/example/bucketsplit/bucketsplit/core/Meter", "watchesValuations", "()Z"⟩ : MethodName) prog_40_method_2_code 1 (some .boolean) :: ws) ({ frames := 0, cells := 0, slots := 0, locals := 0 } : Room)) (fun a U => a = #[(.ref ax)] ∧ Z.Warmed39 U.vm ∧ U.heap = h0) (fun _ _ _ _ _ => True) (fun _ U o U' => ∃ v L, o = .returned v ∧ own_Q3 Z ax ua ub h0 n0 v U'.heap L ∧ FrameEnd U o U' L ({ frames := 0, cells := 0, slots := 0, locals := 0 } : Room).cells ({ frames := 0, cells := 0, slots := 0, locals := 0 } : Room).slots) := by
  refine MetFree.of_bodySF (plainFor_of_name own_pn3) hisR ?_
  intro p e s m args below meth c s₁ Bd hml0 hP hK
  obtain ⟨rfl, hZ, hh⟩ := hP
  have hx := Bd.exec
  have hby := Bd.bytes
  have hlk := Bd.notSynchronized
  have hret := Bd.returns
  have hml : c.maxLocals = 1 := hml0
  have hown : s.vm.findClass "com/example/bucketsplit/bucketsplit/core/Meter" = some m.cls := findClass_of_methodNamed Bd.named
  have hnm := (name_of_methodNamed Bd.named Bd.method).1
  have X0 : Stand p l e ({ frames := 0, cells := 0, slots := 0, locals := 0 } : Room) s m #[(.ref ax)] below meth c s₁ [] 0 0 := Stand.of_body Bd
  have e0 : s₁.heap = h0 := by rw [← hh, Bd.state]; rfl
  have N0 := Fr.nil n0
  suffices key : own_Go p e below (own_End s below (own_Q3 Z ax ua ub h0 n0) ({ frames := 0, cells := 0, slots := 0, locals := 0 } : Room).cells ({ frames := 0, cells := 0, slots := 0, locals := 0 } : Room).slots) (s₁.setTop (mkF m 0 #[.val (.ref ax)] [])) by
    obtain ⟨t, k1, k2, v, L, k3, k4, k5⟩ := key
    exact ⟨t, _, castTop (own_ef3 m ax) k1, k2, k3, v, L, rfl, k4, k5⟩
  show own_Go p e below _ (s₁.setTop (mkF m 0 #[.val (.ref ax)] []))
  refine own_by (fun _ => XS.aloadN X0.here hx rfl (hb hby own_d3_0) rfl rfl) ?_
  show own_Go p e below _ (s₁.setTop (mkF m 1 #[.val (.ref ax)] [(.ref ax)]))
  obtain ⟨T1, X1, e1, st1⟩ := getF X0 hx hZ hown (host := "") (Or.inl (hw _ (List.mem_of_getElem? (i := 18) rfl))) Via.refl e0 pf0 (g := (mkF m 1 #[.val (.ref ax)] [(.ref ax)])) rfl rfl (hb hby own_d3_1)
  refine own_by st1 ?_
  show own_Go p e below _ (T1.setTop (mkF m 4 #[.val (.ref ax)] [(.long ua)]))
  refine own_by (X1.ldc2Long hx hown (mvT hZ (hw _ (List.mem_of_getElem? (i := 31) rfl))) (g := (mkF m 4 #[.val (.ref ax)] [(.long ua)])) rfl (hb hby own_d3_4)) ?_
  show own_Go p e below _ (T1.setTop (mkF m 7 #[.val (.ref ax)] [(.long (9223372036854775807 : Int64)), (.long ua)]))
  refine own_by (fun _ => XS.lcmp X1.here hx rfl (hb hby own_d3_7) rfl) ?_
  show own_Go p e below _ (T1.setTop (mkF m 8 #[.val (.ref ax)] [(.int (lcmpW ua (9223372036854775807 : Int64)))]))
  suffices J2 : ∀ (T' : State) (v2_t0 : Int32), v2_t0 = (if ua < (9223372036854775807 : Int64) then (1 : Int32) else (if ub < (9223372036854775807 : Int64) then (1 : Int32) else (0 : Int32))) → own_At p l e ({ frames := 0, cells := 0, slots := 0, locals := 0 } : Room) s m #[(.ref ax)] below meth c n0 T' h0 0 0 → own_Go p e below (own_End s below (own_Q3 Z ax ua ub h0 n0) ({ frames := 0, cells := 0, slots := 0, locals := 0 } : Room).cells ({ frames := 0, cells := 0, slots := 0, locals := 0 } : Room).slots) (T'.setTop (mkF m 27 #[.val (.ref ax)] [(.int v2_t0)])) by
    by_cases hc8_3 : ua < (9223372036854775807 : Int64)
    ·
      skip
      refine own_by (fun _ => XS.ifYes X1.here hx rfl (pc0 := 8) (pc' := 22) rfl (hb hby own_d3_8) rfl ((if0 _ _).trans (tlt ((lw_lt _ _).mpr hc8_3)).1) (by decide) (by decide)) ?_
      show own_Go p e below _ (T1.setTop (mkF m 22 #[.val (.ref ax)] []))
      refine own_by (fun _ => XS.iconst X1.here hx rfl (hb hby own_d3_22)) ?_
      show own_Go p e below _ (T1.setTop (mkF m 23 #[.val (.ref ax)] [(.int (1 : Int32))]))
      refine own_by (fun _ => XS.goto X1.here hx rfl (pc0 := 23) (pc' := 27) rfl (hb hby own_d3_23) (by decide) (by decide)) ?_
      show own_Go p e below _ (T1.setTop (mkF m 27 #[.val (.ref ax)] [(.int (1 : Int32))]))
      exact J2 _ _ (by first | rfl | simp only [if_pos hc8_3]) ⟨_, X1, N0, e1⟩
    ·
      skip
      refine own_by (fun _ => XS.ifNo X1.here hx rfl (hb hby own_d3_8) rfl ((if0 _ _).trans (flt (mt (lw_lt _ _).mp hc8_3)).1)) ?_
      show own_Go p e below _ (T1.setTop (mkF m 11 #[.val (.ref ax)] []))
      refine own_by (fun _ => XS.aloadN X1.here hx rfl (hb hby own_d3_11) rfl rfl) ?_
      show own_Go p e below _ (T1.setTop (mkF m 12 #[.val (.ref ax)] [(.ref ax)]))
      obtain ⟨T4, X4, e4, st4⟩ := getF X1 hx hZ hown (host := "") (Or.inl (hw _ (List.mem_of_getElem? (i := 20) rfl))) Via.refl e1 pf1 (g := (mkF m 12 #[.val (.ref ax)] [(.ref ax)])) rfl rfl (hb hby own_d3_12)
      refine own_by st4 ?_
      show own_Go p e below _ (T4.setTop (mkF m 15 #[.val (.ref ax)] [(.long ub)]))
      refine own_by (X4.ldc2Long hx hown (mvT hZ (hw _ (List.mem_of_getElem? (i := 31) rfl))) (g := (mkF m 15 #[.val (.ref ax)] [(.long ub)])) rfl (hb hby own_d3_15)) ?_
      show own_Go p e below _ (T4.setTop (mkF m 18 #[.val (.ref ax)] [(.long (9223372036854775807 : Int64)), (.long ub)]))
      refine own_by (fun _ => XS.lcmp X4.here hx rfl (hb hby own_d3_18) rfl) ?_
      show own_Go p e below _ (T4.setTop (mkF m 19 #[.val (.ref ax)] [(.int (lcmpW ub (9223372036854775807 : Int64)))]))
      by_cases hc19_5 : ub < (9223372036854775807 : Int64)
      ·
        skip
        refine own_by (fun _ => XS.ifNo X4.here hx rfl (hb hby own_d3_19) rfl ((if0 _ _).trans (tlt ((lw_lt _ _).mpr hc19_5)).2.1)) ?_
        show own_Go p e below _ (T4.setTop (mkF m 22 #[.val (.ref ax)] []))
        refine own_by (fun _ => XS.iconst X4.here hx rfl (hb hby own_d3_22)) ?_
        show own_Go p e below _ (T4.setTop (mkF m 23 #[.val (.ref ax)] [(.int (1 : Int32))]))
        refine own_by (fun _ => XS.goto X4.here hx rfl (pc0 := 23) (pc' := 27) rfl (hb hby own_d3_23) (by decide) (by decide)) ?_
        show own_Go p e below _ (T4.setTop (mkF m 27 #[.val (.ref ax)] [(.int (1 : Int32))]))
        exact J2 _ _ (by first | rfl | simp only [if_neg hc8_3, if_pos hc19_5]) ⟨_, X4, N0, e4⟩
      ·
        skip
        refine own_by (fun _ => XS.ifYes X4.here hx rfl (pc0 := 19) (pc' := 26) rfl (hb hby own_d3_19) rfl ((if0 _ _).trans (flt (mt (lw_lt _ _).mp hc19_5)).2.1) (by decide) (by decide)) ?_
        show own_Go p e below _ (T4.setTop (mkF m 26 #[.val (.ref ax)] []))
        refine own_by (fun _ => XS.iconst X4.here hx rfl (hb hby own_d3_26)) ?_
        show own_Go p e below _ (T4.setTop (mkF m 27 #[.val (.ref ax)] [(.int (0 : Int32))]))
        exact J2 _ _ (by first | rfl | simp only [if_neg hc8_3, if_neg hc19_5]) ⟨_, X4, N0, e4⟩
  intro T2 v2_t0 hv2_t0 ⟨locs2, X2, N2, e2⟩
  show own_Go p e below _ (T2.setTop (mkF m 27 #[.val (.ref ax)] [(.int v2_t0)]))
  exact own_retZ X2 hx hlk e2 (by rw [hv2_t0]; (repeat' split) <;> first | exact Or.inl rfl | exact Or.inr rfl) hret (hb hby own_d3_27) (by decide) (by decide) ⟨(by subst hv2_t0; first | rfl | simp only [own_watch]), N2, rfl⟩

def own_law (xa : Int64) (xb : Int64) (xc : Int64) (xd : Int64) (xe : Int32) : Int32 := (if (own_watch (if (xe &&& (1 : Int32)) = (0 : Int32) then xc else (9223372036854775807 : Int64)) (if (xe &&& (2 : Int32)) = (0 : Int32) then xd else (9223372036854775807 : Int64))) = (if (if (if (xe &&& (1 : Int32)) = (0 : Int32) then xc else (9223372036854775807 : Int64)) = (9223372036854775807 : Int64) then (1 : Int32) else (0 : Int32)) = (0 : Int32) then (1 : Int32) else (if (if (if (xe &&& (2 : Int32)) = (0 : Int32) then xd else (9223372036854775807 : Int64)) = (9223372036854775807 : Int64) then (1 : Int32) else (0 : Int32)) = (0 : Int32) then (1 : Int32) else (0 : Int32))) then (1 : Int32) else (0 : Int32))
theorem own_plain (xa xb xc xd : Int64) (xe : Int32) : own_law xa xb xc xd xe = 1 := by
  simp only [own_law]
  generalize (if xe &&& (1 : Int32) = (0 : Int32) then xc else (9223372036854775807 : Int64)) = u
  generalize (if xe &&& (2 : Int32) = (0 : Int32) then xd else (9223372036854775807 : Int64)) = w
  have r1 := rng64 u
  have r2 := rng64 w
  have k0 : (9223372036854775807 : Int64).toInt = 9223372036854775807 := by decide
  have i1 : ∀ a b : Int64, a = b ↔ a.toInt = b.toInt := fun a b => Int64.toInt_inj.symm
  simp only [own_watch, Int64.lt_iff_toInt_lt, i1, k0]
  repeat' split
  all_goals first | rfl | (exfalso; omega) | (exfalso; simp_all; done) | (exfalso; simp_all; omega)

theorem own_pn0 : plainName "com/example/bucketsplit/bucketsplit/core/MeterWatchesValuationsPinLaw" = true := by first | (simp [plainName, overriddenIn]; done) | decide +kernel
theorem own_ef0 (m : MethodId) (x0 : Int64) (x1 : Int64) (x2 : Int64) (x3 : Int64) (x4 : Int32) : entryFrame m #[(.long x0), (.long x1), (.long x2), (.long x3), (.int x4)] maxLocals = mkF m 0 #[.val (.long x0), .second, .val (.long x1), .second, .val (.long x2), .second, .val (.long x3), .second, .val (.int x4), .unset, .unset, .unset, .unset, .unset, .unset, .unset, .unset] [] := by first | (simp [entryFrame, mkF, argsToLocals, Value.category, maxLocals]; done) | rfl
def own_Q0 (Z : State) (xa : Int64) (xb : Int64) (xc : Int64) (xd : Int64) (xe : Int32) (h0 : Heap) (n0 : Nat) (v : Option Value) (h : Heap) (L : List Loc) : Prop := v = some (.int (1 : Int32)) ∧ Fr n0 L
theorem own_rm0 (l : Launch) (Z : State) (a0 : Array Value) (hw : ∀ d ∈ tables_1, d.before a0 Z = true) (ws : List Jvm.Cond) (xa : Int64) (xb : Int64) (xc : Int64) (xd : Int64) (xe : Int32) (h0 : Heap) (n0 : Nat) (Z0 : n0 ≤ h0.size) :
    MetFree l x (head1 (Jvm.Cond.code x code maxLocals ret :: ws) room_1) (fun a U => a = #[(.long xa), (.long xb), (.long xc), (.long xd), (.int xe)] ∧ Z.Warmed39 U.vm ∧ U.heap = h0) (fun _ _ _ _ _ => True) (fun _ U o U' => ∃ v L, o = .returned v ∧ own_Q0 Z xa xb xc xd xe h0 n0 v U'.heap L ∧ FrameEnd U o U' L room_1.cells room_1.slots) := by
  refine MetFree.of_bodySF (plainFor_of_name own_pn0) hisR ?_
  intro p e s m args below meth c s₁ Bd hml0 hP hK
  obtain ⟨rfl, hZ, hh⟩ := hP
  have hx := Bd.exec
  have hby := Bd.bytes
  have hlk := Bd.notSynchronized
  have hret := Bd.returns
  have hml : c.maxLocals = 17 := hml0
  have hown : s.vm.findClass "com/example/bucketsplit/bucketsplit/core/MeterWatchesValuationsPinLaw" = some m.cls := findClass_of_methodNamed Bd.named
  have hnm := (name_of_methodNamed Bd.named Bd.method).1
  have X0 : Stand p l e room_1 s m #[(.long xa), (.long xb), (.long xc), (.long xd), (.int xe)] below meth c s₁ [] 0 0 := Stand.of_body Bd
  have e0 : s₁.heap = h0 := by rw [← hh, Bd.state]; rfl
  have N0 := Fr.nil n0
  suffices key : own_Go p e below (own_End s below (own_Q0 Z xa xb xc xd xe h0 n0) room_1.cells room_1.slots) (s₁.setTop (mkF m 0 #[.val (.long xa), .second, .val (.long xb), .second, .val (.long xc), .second, .val (.long xd), .second, .val (.int xe), .unset, .unset, .unset, .unset, .unset, .unset, .unset, .unset] [])) by
    obtain ⟨t, k1, k2, v, L, k3, k4, k5⟩ := key
    exact ⟨t, _, castTop (own_ef0 m xa xb xc xd xe) k1, k2, k3, v, L, rfl, k4, k5⟩
  show own_Go p e below _ (s₁.setTop (mkF m 0 #[.val (.long xa), .second, .val (.long xb), .second, .val (.long xc), .second, .val (.long xd), .second, .val (.int xe), .unset, .unset, .unset, .unset, .unset, .unset, .unset, .unset] []))
  refine own_by (fun _ => XS.iload X0.here hx rfl (hb hby at_0) rfl) ?_
  show own_Go p e below _ (s₁.setTop (mkF m 2 #[.val (.long xa), .second, .val (.long xb), .second, .val (.long xc), .second, .val (.long xd), .second, .val (.int xe), .unset, .unset, .unset, .unset, .unset, .unset, .unset, .unset] [(.int xe)]))
  refine own_by (fun _ => XS.iconst X0.here hx rfl (hb hby at_2)) ?_
  show own_Go p e below _ (s₁.setTop (mkF m 3 #[.val (.long xa), .second, .val (.long xb), .second, .val (.long xc), .second, .val (.long xd), .second, .val (.int xe), .unset, .unset, .unset, .unset, .unset, .unset, .unset, .unset] [(.int (1 : Int32)), (.int xe)]))
  refine own_by (fun _ => XS.iand X0.here hx rfl (hb hby at_3) rfl) ?_
  show own_Go p e below _ (s₁.setTop (mkF m 4 #[.val (.long xa), .second, .val (.long xb), .second, .val (.long xc), .second, .val (.long xd), .second, .val (.int xe), .unset, .unset, .unset, .unset, .unset, .unset, .unset, .unset] [(.int (xe &&& (1 : Int32)))]))
  suffices J1 : ∀ (T' : State) (v1_t0 : Int64), v1_t0 = (if (xe &&& (1 : Int32)) = (0 : Int32) then xc else (9223372036854775807 : Int64)) → own_At p l e room_1 s m #[(.long xa), (.long xb), (.long xc), (.long xd), (.int xe)] below meth c n0 T' h0 0 0 → own_Go p e below (own_End s below (own_Q0 Z xa xb xc xd xe h0 n0) room_1.cells room_1.slots) (T'.setTop (mkF m 15 #[.val (.long xa), .second, .val (.long xb), .second, .val (.long xc), .second, .val (.long xd), .second, .val (.int xe), .unset, .unset, .unset, .unset, .unset, .unset, .unset, .unset] [(.long v1_t0)])) by
    by_cases hc4_2 : (xe &&& (1 : Int32)) = (0 : Int32)
    ·
      skip
      refine own_by (fun _ => XS.ifYes X0.here hx rfl (pc0 := 4) (pc' := 13) rfl (hb hby at_4) rfl ((if0 _ _).trans (teq hc4_2).1) (by decide) (by decide)) ?_
      show own_Go p e below _ (s₁.setTop (mkF m 13 #[.val (.long xa), .second, .val (.long xb), .second, .val (.long xc), .second, .val (.long xd), .second, .val (.int xe), .unset, .unset, .unset, .unset, .unset, .unset, .unset, .unset] []))
      refine own_by (fun _ => XS.lload X0.here hx rfl (hb hby at_13) rfl) ?_
      show own_Go p e below _ (s₁.setTop (mkF m 15 #[.val (.long xa), .second, .val (.long xb), .second, .val (.long xc), .second, .val (.long xd), .second, .val (.int xe), .unset, .unset, .unset, .unset, .unset, .unset, .unset, .unset] [(.long xc)]))
      exact J1 _ _ (by first | rfl | simp only [if_pos hc4_2]) ⟨_, X0, N0, e0⟩
    ·
      skip
      refine own_by (fun _ => XS.ifNo X0.here hx rfl (hb hby at_4) rfl ((if0 _ _).trans (feq hc4_2).1)) ?_
      show own_Go p e below _ (s₁.setTop (mkF m 7 #[.val (.long xa), .second, .val (.long xb), .second, .val (.long xc), .second, .val (.long xd), .second, .val (.int xe), .unset, .unset, .unset, .unset, .unset, .unset, .unset, .unset] []))
      refine own_by (X0.ldc2Long hx hown (mvT hZ (hw _ (List.mem_of_getElem? (i := 0) rfl))) (g := (mkF m 7 #[.val (.long xa), .second, .val (.long xb), .second, .val (.long xc), .second, .val (.long xd), .second, .val (.int xe), .unset, .unset, .unset, .unset, .unset, .unset, .unset, .unset] [])) rfl (hb hby at_7)) ?_
      show own_Go p e below _ (s₁.setTop (mkF m 10 #[.val (.long xa), .second, .val (.long xb), .second, .val (.long xc), .second, .val (.long xd), .second, .val (.int xe), .unset, .unset, .unset, .unset, .unset, .unset, .unset, .unset] [(.long (9223372036854775807 : Int64))]))
      refine own_by (fun _ => XS.goto X0.here hx rfl (pc0 := 10) (pc' := 15) rfl (hb hby at_10) (by decide) (by decide)) ?_
      show own_Go p e below _ (s₁.setTop (mkF m 15 #[.val (.long xa), .second, .val (.long xb), .second, .val (.long xc), .second, .val (.long xd), .second, .val (.int xe), .unset, .unset, .unset, .unset, .unset, .unset, .unset, .unset] [(.long (9223372036854775807 : Int64))]))
      exact J1 _ _ (by first | rfl | simp only [if_neg hc4_2]) ⟨_, X0, N0, e0⟩
  intro T1 v1_t0 hv1_t0 ⟨locs1, X1, N1, e1⟩
  show own_Go p e below _ (T1.setTop (mkF m 15 #[.val (.long xa), .second, .val (.long xb), .second, .val (.long xc), .second, .val (.long xd), .second, .val (.int xe), .unset, .unset, .unset, .unset, .unset, .unset, .unset, .unset] [(.long v1_t0)]))
  refine own_by (fun _ => XS.lstore X1.here hx rfl (hb hby at_15) rfl (l' := #[.val (.long xa), .second, .val (.long xb), .second, .val (.long xc), .second, .val (.long xd), .second, .val (.int xe), .val (.long v1_t0), .second, .unset, .unset, .unset, .unset, .unset, .unset]) rfl) ?_
  show own_Go p e below _ (T1.setTop (mkF m 17 #[.val (.long xa), .second, .val (.long xb), .second, .val (.long xc), .second, .val (.long xd), .second, .val (.int xe), .val (.long v1_t0), .second, .unset, .unset, .unset, .unset, .unset, .unset] []))
  refine own_by (fun _ => XS.iload X1.here hx rfl (hb hby at_17) rfl) ?_
  show own_Go p e below _ (T1.setTop (mkF m 19 #[.val (.long xa), .second, .val (.long xb), .second, .val (.long xc), .second, .val (.long xd), .second, .val (.int xe), .val (.long v1_t0), .second, .unset, .unset, .unset, .unset, .unset, .unset] [(.int xe)]))
  refine own_by (fun _ => XS.iconst X1.here hx rfl (hb hby at_19)) ?_
  show own_Go p e below _ (T1.setTop (mkF m 20 #[.val (.long xa), .second, .val (.long xb), .second, .val (.long xc), .second, .val (.long xd), .second, .val (.int xe), .val (.long v1_t0), .second, .unset, .unset, .unset, .unset, .unset, .unset] [(.int (2 : Int32)), (.int xe)]))
  refine own_by (fun _ => XS.iand X1.here hx rfl (hb hby at_20) rfl) ?_
  show own_Go p e below _ (T1.setTop (mkF m 21 #[.val (.long xa), .second, .val (.long xb), .second, .val (.long xc), .second, .val (.long xd), .second, .val (.int xe), .val (.long v1_t0), .second, .unset, .unset, .unset, .unset, .unset, .unset] [(.int (xe &&& (2 : Int32)))]))
  suffices J3 : ∀ (T' : State) (v3_t0 : Int64), v3_t0 = (if (xe &&& (2 : Int32)) = (0 : Int32) then xd else (9223372036854775807 : Int64)) → own_At p l e room_1 s m #[(.long xa), (.long xb), (.long xc), (.long xd), (.int xe)] below meth c n0 T' h0 0 0 → own_Go p e below (own_End s below (own_Q0 Z xa xb xc xd xe h0 n0) room_1.cells room_1.slots) (T'.setTop (mkF m 32 #[.val (.long xa), .second, .val (.long xb), .second, .val (.long xc), .second, .val (.long xd), .second, .val (.int xe), .val (.long v1_t0), .second, .unset, .unset, .unset, .unset, .unset, .unset] [(.long v3_t0)])) by
    by_cases hc21_4 : (xe &&& (2 : Int32)) = (0 : Int32)
    ·
      skip
      refine own_by (fun _ => XS.ifYes X1.here hx rfl (pc0 := 21) (pc' := 30) rfl (hb hby at_21) rfl ((if0 _ _).trans (teq hc21_4).1) (by decide) (by decide)) ?_
      show own_Go p e below _ (T1.setTop (mkF m 30 #[.val (.long xa), .second, .val (.long xb), .second, .val (.long xc), .second, .val (.long xd), .second, .val (.int xe), .val (.long v1_t0), .second, .unset, .unset, .unset, .unset, .unset, .unset] []))
      refine own_by (fun _ => XS.lload X1.here hx rfl (hb hby at_30) rfl) ?_
      show own_Go p e below _ (T1.setTop (mkF m 32 #[.val (.long xa), .second, .val (.long xb), .second, .val (.long xc), .second, .val (.long xd), .second, .val (.int xe), .val (.long v1_t0), .second, .unset, .unset, .unset, .unset, .unset, .unset] [(.long xd)]))
      exact J3 _ _ (by first | rfl | simp only [if_pos hc21_4]) ⟨_, X1, N1, e1⟩
    ·
      skip
      refine own_by (fun _ => XS.ifNo X1.here hx rfl (hb hby at_21) rfl ((if0 _ _).trans (feq hc21_4).1)) ?_
      show own_Go p e below _ (T1.setTop (mkF m 24 #[.val (.long xa), .second, .val (.long xb), .second, .val (.long xc), .second, .val (.long xd), .second, .val (.int xe), .val (.long v1_t0), .second, .unset, .unset, .unset, .unset, .unset, .unset] []))
      refine own_by (X1.ldc2Long hx hown (mvT hZ (hw _ (List.mem_of_getElem? (i := 0) rfl))) (g := (mkF m 24 #[.val (.long xa), .second, .val (.long xb), .second, .val (.long xc), .second, .val (.long xd), .second, .val (.int xe), .val (.long v1_t0), .second, .unset, .unset, .unset, .unset, .unset, .unset] [])) rfl (hb hby at_24)) ?_
      show own_Go p e below _ (T1.setTop (mkF m 27 #[.val (.long xa), .second, .val (.long xb), .second, .val (.long xc), .second, .val (.long xd), .second, .val (.int xe), .val (.long v1_t0), .second, .unset, .unset, .unset, .unset, .unset, .unset] [(.long (9223372036854775807 : Int64))]))
      refine own_by (fun _ => XS.goto X1.here hx rfl (pc0 := 27) (pc' := 32) rfl (hb hby at_27) (by decide) (by decide)) ?_
      show own_Go p e below _ (T1.setTop (mkF m 32 #[.val (.long xa), .second, .val (.long xb), .second, .val (.long xc), .second, .val (.long xd), .second, .val (.int xe), .val (.long v1_t0), .second, .unset, .unset, .unset, .unset, .unset, .unset] [(.long (9223372036854775807 : Int64))]))
      exact J3 _ _ (by first | rfl | simp only [if_neg hc21_4]) ⟨_, X1, N1, e1⟩
  intro T3 v3_t0 hv3_t0 ⟨locs3, X3, N3, e3⟩
  show own_Go p e below _ (T3.setTop (mkF m 32 #[.val (.long xa), .second, .val (.long xb), .second, .val (.long xc), .second, .val (.long xd), .second, .val (.int xe), .val (.long v1_t0), .second, .unset, .unset, .unset, .unset, .unset, .unset] [(.long v3_t0)]))
  refine own_by (fun _ => XS.lstore X3.here hx rfl (hb hby at_32) rfl (l' := #[.val (.long xa), .second, .val (.long xb), .second, .val (.long xc), .second, .val (.long xd), .second, .val (.int xe), .val (.long v1_t0), .second, .val (.long v3_t0), .second, .unset, .unset, .unset, .unset]) rfl) ?_
  show own_Go p e below _ (T3.setTop (mkF m 34 #[.val (.long xa), .second, .val (.long xb), .second, .val (.long xc), .second, .val (.long xd), .second, .val (.int xe), .val (.long v1_t0), .second, .val (.long v3_t0), .second, .unset, .unset, .unset, .unset] []))
  obtain ⟨T5, h5, X5, e5, E5, A5, D5, -, st5⟩ := newO X3 hx hZ hown (hw _ (List.mem_of_getElem? (i := 1) rfl)) (hw _ (List.mem_of_getElem? (i := 2) rfl)) (hw _ (List.mem_of_getElem? (i := 3) rfl)) e3 (g := (mkF m 34 #[.val (.long xa), .second, .val (.long xb), .second, .val (.long xc), .second, .val (.long xd), .second, .val (.int xe), .val (.long v1_t0), .second, .val (.long v3_t0), .second, .unset, .unset, .unset, .unset] [])) rfl (hb hby at_34) (by decide) (by decide)
  obtain ⟨b5, g5⟩ : ∃ z, z = h0.size := ⟨_, rfl⟩
  rw [← g5] at A5 D5 st5
  refine own_by st5 ?_
  have ge5 : n0 ≤ b5 := Nat.le_trans Z0 (Nat.le_of_eq g5.symm)
  have z5 : n0 ≤ h5.size := Nat.le_trans Z0 E5.1
  have fz5_mMaxSteps : Fld Z h5 b5 "com/example/bucketsplit/bucketsplit/core/Meter" "mMaxSteps" "J" (.long (0 : Int64)) := D5 (Or.inr (hw _ (List.mem_of_getElem? (i := 11) rfl))) (ty := .long) (by decide)
  have fz5_mMaxStepsPerOperation : Fld Z h5 b5 "com/example/bucketsplit/bucketsplit/core/Meter" "mMaxStepsPerOperation" "J" (.long (0 : Int64)) := D5 (Or.inr (hw _ (List.mem_of_getElem? (i := 13) rfl))) (ty := .long) (by decide)
  have fz5_mStepLimit : Fld Z h5 b5 "com/example/bucketsplit/bucketsplit/core/Meter" "mStepLimit" "D" (.double 0) := D5 (Or.inr (hw _ (List.mem_of_getElem? (i := 15) rfl))) (ty := .double) (by decide)
  have fz5_mOperationStepLimit : Fld Z h5 b5 "com/example/bucketsplit/bucketsplit/core/Meter" "mOperationStepLimit" "D" (.double 0) := D5 (Or.inr (hw _ (List.mem_of_getElem? (i := 17) rfl))) (ty := .double) (by decide)
  have fz5_mMaxOperations : Fld Z h5 b5 "com/example/bucketsplit/bucketsplit/core/Meter" "mMaxOperations" "J" (.long (0 : Int64)) := D5 (Or.inr (hw _ (List.mem_of_getElem? (i := 19) rfl))) (ty := .long) (by decide)
  have fz5_mMaxUnsafeValues : Fld Z h5 b5 "com/example/bucketsplit/bucketsplit/core/Meter" "mMaxUnsafeValues" "J" (.long (0 : Int64)) := D5 (Or.inr (hw _ (List.mem_of_getElem? (i := 21) rfl))) (ty := .long) (by decide)
  have fz5_mOperationLimit : Fld Z h5 b5 "com/example/bucketsplit/bucketsplit/core/Meter" "mOperationLimit" "D" (.double 0) := D5 (Or.inr (hw _ (List.mem_of_getElem? (i := 23) rfl))) (ty := .double) (by decide)
  have fz5_mUnsafeValueLimit : Fld Z h5 b5 "com/example/bucketsplit/bucketsplit/core/Meter" "mUnsafeValueLimit" "D" (.double 0) := D5 (Or.inr (hw _ (List.mem_of_getElem? (i := 25) rfl))) (ty := .double) (by decide)
  show own_Go p e below _ (T5.setTop (mkF m 37 #[.val (.long xa), .second, .val (.long xb), .second, .val (.long xc), .second, .val (.long xd), .second, .val (.int xe), .val (.long v1_t0), .second, .val (.long v3_t0), .second, .unset, .unset, .unset, .unset] [(.ref b5)]))
  refine own_by (fun _ => XS.dup X5.here hx rfl (hb hby at_37) rfl rfl) ?_
  show own_Go p e below _ (T5.setTop (mkF m 38 #[.val (.long xa), .second, .val (.long xb), .second, .val (.long xc), .second, .val (.long xd), .second, .val (.int xe), .val (.long v1_t0), .second, .val (.long v3_t0), .second, .unset, .unset, .unset, .unset] [(.ref b5), (.ref b5)]))
  refine own_by (fun _ => XS.lloadN X5.here hx rfl (hb hby at_38) rfl) ?_
  show own_Go p e below _ (T5.setTop (mkF m 39 #[.val (.long xa), .second, .val (.long xb), .second, .val (.long xc), .second, .val (.long xd), .second, .val (.int xe), .val (.long v1_t0), .second, .val (.long v3_t0), .second, .unset, .unset, .unset, .unset] [(.long xa), (.ref b5), (.ref b5)]))
  refine own_by (fun _ => XS.lloadN X5.here hx rfl (hb hby at_39) rfl) ?_
  show own_Go p e below _ (T5.setTop (mkF m 40 #[.val (.long xa), .second, .val (.long xb), .second, .val (.long xc), .second, .val (.long xd), .second, .val (.int xe), .val (.long v1_t0), .second, .val (.long v3_t0), .second, .unset, .unset, .unset, .unset] [(.long xb), (.long xa), (.ref b5), (.ref b5)]))
  refine own_by (fun _ => XS.lload X5.here hx rfl (hb hby at_40) rfl) ?_
  show own_Go p e below _ (T5.setTop (mkF m 42 #[.val (.long xa), .second, .val (.long xb), .second, .val (.long xc), .second, .val (.long xd), .second, .val (.int xe), .val (.long v1_t0), .second, .val (.long v3_t0), .second, .unset, .unset, .unset, .unset] [(.long v1_t0), (.long xb), (.long xa), (.ref b5), (.ref b5)]))
  refine own_by (fun _ => XS.lload X5.here hx rfl (hb hby at_42) rfl) ?_
  show own_Go p e below _ (T5.setTop (mkF m 44 #[.val (.long xa), .second, .val (.long xb), .second, .val (.long xc), .second, .val (.long xd), .second, .val (.int xe), .val (.long v1_t0), .second, .val (.long v3_t0), .second, .unset, .unset, .unset, .unset] [(.long v3_t0), (.long v1_t0), (.long xb), (.long xa), (.ref b5), (.ref b5)]))
  obtain ⟨_, _, ⟨T6, L6, k6, n6⟩, -, X6, ⟨Lc6, hQ6, l6, y6, z6'⟩, st6⟩ := X5.specialBack hx (y := (⟨"com/example/bucketsplit/bucketsplit/core/Meter", "<init>", "(JJJJ)V"⟩ : MethodName)) rfl hown (mvT hZ (hw _ (List.mem_of_getElem? (i := 4) rfl))) (mvT hZ (hw _ (List.mem_of_getElem? (i := 5) rfl))) (mvT hZ (hw _ (List.mem_of_getElem? (i := 6) rfl))) (by decide) (backOf (W := 1) (own_rm1 l Z a0 hw [] b5 xa xb v1_t0 v3_t0 (0 : Int64) (0 : Int64) 0 0 (0 : Int64) (0 : Int64) 0 0 h5 n0 z5 A5 fz5_mMaxSteps fz5_mMaxStepsPerOperation fz5_mStepLimit fz5_mOperationStepLimit fz5_mMaxOperations fz5_mMaxUnsafeValues fz5_mOperationLimit fz5_mUnsafeValueLimit ge5) hZ (hw _ (List.mem_of_getElem? (i := 6) rfl)) (hw _ (List.mem_of_getElem? (i := 3) rfl)) (by decide) (by decide)) (g := (mkF m 44 #[.val (.long xa), .second, .val (.long xb), .second, .val (.long xc), .second, .val (.long xd), .second, .val (.int xe), .val (.long v1_t0), .second, .val (.long v3_t0), .second, .unset, .unset, .unset, .unset] [(.long v3_t0), (.long v1_t0), (.long xb), (.long xa), (.ref b5), (.ref b5)])) rfl (by rw [hml]; rfl) (Steps.refl _) (a := b5) (argsL := [(.long xa), (.long xb), (.long v1_t0), (.long v3_t0)]) (rest := [(.ref b5)]) (lenOf own_pd0 rfl) rfl (by show 2 * 0 + _ ≤ _; exact Nat.le_of_eq rfl) (hb hby at_44) (fun _ _ => ⟨rfl, e5, (by decide : 1 + 0 ≤ _), (by decide : 13 + 0 ≤ _)⟩)
  dsimp only [Pt.U, Pt.locs, Pt.cells, Pt.slots] at X6 l6 y6 z6' st6 hQ6
  subst l6 y6 z6'
  obtain ⟨rfl, N6q, Kc6, fc6_0, fc6_1⟩ := hQ6
  have N6 := Fr.app N3 N6q
  refine own_tr st6 ?_
  have z6 : n0 ≤ T6.heap.size := Nat.le_trans z5 Kc6.1
  show own_Go p e below _ (T6.setTop (mkF m 47 #[.val (.long xa), .second, .val (.long xb), .second, .val (.long xc), .second, .val (.long xd), .second, .val (.int xe), .val (.long v1_t0), .second, .val (.long v3_t0), .second, .unset, .unset, .unset, .unset] [(.ref b5)]))
  refine own_by (fun _ => XS.astore X6.here hx rfl (hb hby at_47) rfl rfl (l' := #[.val (.long xa), .second, .val (.long xb), .second, .val (.long xc), .second, .val (.long xd), .second, .val (.int xe), .val (.long v1_t0), .second, .val (.long v3_t0), .second, .val (.ref b5), .unset, .unset, .unset]) rfl) ?_
  show own_Go p e below _ (T6.setTop (mkF m 49 #[.val (.long xa), .second, .val (.long xb), .second, .val (.long xc), .second, .val (.long xd), .second, .val (.int xe), .val (.long v1_t0), .second, .val (.long v3_t0), .second, .val (.ref b5), .unset, .unset, .unset] []))
  refine own_by (fun _ => XS.lload X6.here hx rfl (hb hby at_49) rfl) ?_
  show own_Go p e below _ (T6.setTop (mkF m 51 #[.val (.long xa), .second, .val (.long xb), .second, .val (.long xc), .second, .val (.long xd), .second, .val (.int xe), .val (.long v1_t0), .second, .val (.long v3_t0), .second, .val (.ref b5), .unset, .unset, .unset] [(.long v1_t0)]))
  refine own_by (X6.ldc2Long hx hown (mvT hZ (hw _ (List.mem_of_getElem? (i := 0) rfl))) (g := (mkF m 51 #[.val (.long xa), .second, .val (.long xb), .second, .val (.long xc), .second, .val (.long xd), .second, .val (.int xe), .val (.long v1_t0), .second, .val (.long v3_t0), .second, .val (.ref b5), .unset, .unset, .unset] [(.long v1_t0)])) rfl (hb hby at_51)) ?_
  show own_Go p e below _ (T6.setTop (mkF m 54 #[.val (.long xa), .second, .val (.long xb), .second, .val (.long xc), .second, .val (.long xd), .second, .val (.int xe), .val (.long v1_t0), .second, .val (.long v3_t0), .second, .val (.ref b5), .unset, .unset, .unset] [(.long (9223372036854775807 : Int64)), (.long v1_t0)]))
  refine own_by (fun _ => XS.lcmp X6.here hx rfl (hb hby at_54) rfl) ?_
  show own_Go p e below _ (T6.setTop (mkF m 55 #[.val (.long xa), .second, .val (.long xb), .second, .val (.long xc), .second, .val (.long xd), .second, .val (.int xe), .val (.long v1_t0), .second, .val (.long v3_t0), .second, .val (.ref b5), .unset, .unset, .unset] [(.int (lcmpW v1_t0 (9223372036854775807 : Int64)))]))
  suffices J7 : ∀ (T' : State) (v7_t0 : Int32), v7_t0 = (if v1_t0 = (9223372036854775807 : Int64) then (1 : Int32) else (0 : Int32)) → own_At p l e room_1 s m #[(.long xa), (.long xb), (.long xc), (.long xd), (.int xe)] below meth c n0 T' T6.heap 1 13 → own_Go p e below (own_End s below (own_Q0 Z xa xb xc xd xe h0 n0) room_1.cells room_1.slots) (T'.setTop (mkF m 63 #[.val (.long xa), .second, .val (.long xb), .second, .val (.long xc), .second, .val (.long xd), .second, .val (.int xe), .val (.long v1_t0), .second, .val (.long v3_t0), .second, .val (.ref b5), .unset, .unset, .unset] [(.int v7_t0)])) by
    by_cases hc55_8 : v1_t0 = (9223372036854775807 : Int64)
    ·
      skip
      refine own_by (fun _ => XS.ifNo X6.here hx rfl (hb hby at_55) rfl ((if0 _ _).trans (teq ((lw_eq _ _).mpr hc55_8)).2)) ?_
      show own_Go p e below _ (T6.setTop (mkF m 58 #[.val (.long xa), .second, .val (.long xb), .second, .val (.long xc), .second, .val (.long xd), .second, .val (.int xe), .val (.long v1_t0), .second, .val (.long v3_t0), .second, .val (.ref b5), .unset, .unset, .unset] []))
      refine own_by (fun _ => XS.iconst X6.here hx rfl (hb hby at_58)) ?_
      show own_Go p e below _ (T6.setTop (mkF m 59 #[.val (.long xa), .second, .val (.long xb), .second, .val (.long xc), .second, .val (.long xd), .second, .val (.int xe), .val (.long v1_t0), .second, .val (.long v3_t0), .second, .val (.ref b5), .unset, .unset, .unset] [(.int (1 : Int32))]))
      refine own_by (fun _ => XS.goto X6.here hx rfl (pc0 := 59) (pc' := 63) rfl (hb hby at_59) (by decide) (by decide)) ?_
      show own_Go p e below _ (T6.setTop (mkF m 63 #[.val (.long xa), .second, .val (.long xb), .second, .val (.long xc), .second, .val (.long xd), .second, .val (.int xe), .val (.long v1_t0), .second, .val (.long v3_t0), .second, .val (.ref b5), .unset, .unset, .unset] [(.int (1 : Int32))]))
      exact J7 _ _ (by first | rfl | simp only [if_pos hc55_8]) ⟨_, X6, N6, rfl⟩
    ·
      skip
      refine own_by (fun _ => XS.ifYes X6.here hx rfl (pc0 := 55) (pc' := 62) rfl (hb hby at_55) rfl ((if0 _ _).trans (feq (mt (lw_eq _ _).mp hc55_8)).2) (by decide) (by decide)) ?_
      show own_Go p e below _ (T6.setTop (mkF m 62 #[.val (.long xa), .second, .val (.long xb), .second, .val (.long xc), .second, .val (.long xd), .second, .val (.int xe), .val (.long v1_t0), .second, .val (.long v3_t0), .second, .val (.ref b5), .unset, .unset, .unset] []))
      refine own_by (fun _ => XS.iconst X6.here hx rfl (hb hby at_62)) ?_
      show own_Go p e below _ (T6.setTop (mkF m 63 #[.val (.long xa), .second, .val (.long xb), .second, .val (.long xc), .second, .val (.long xd), .second, .val (.int xe), .val (.long v1_t0), .second, .val (.long v3_t0), .second, .val (.ref b5), .unset, .unset, .unset] [(.int (0 : Int32))]))
      exact J7 _ _ (by first | rfl | simp only [if_neg hc55_8]) ⟨_, X6, N6, rfl⟩
  intro T7 v7_t0 hv7_t0 ⟨locs7, X7, N7, e7⟩
  show own_Go p e below _ (T7.setTop (mkF m 63 #[.val (.long xa), .second, .val (.long xb), .second, .val (.long xc), .second, .val (.long xd), .second, .val (.int xe), .val (.long v1_t0), .second, .val (.long v3_t0), .second, .val (.ref b5), .unset, .unset, .unset] [(.int v7_t0)]))
  refine own_by (fun _ => XS.istore X7.here hx rfl (hb hby at_63) rfl (l' := #[.val (.long xa), .second, .val (.long xb), .second, .val (.long xc), .second, .val (.long xd), .second, .val (.int xe), .val (.long v1_t0), .second, .val (.long v3_t0), .second, .val (.ref b5), .val (.int v7_t0), .unset, .unset]) rfl) ?_
  show own_Go p e below _ (T7.setTop (mkF m 65 #[.val (.long xa), .second, .val (.long xb), .second, .val (.long xc), .second, .val (.long xd), .second, .val (.int xe), .val (.long v1_t0), .second, .val (.long v3_t0), .second, .val (.ref b5), .val (.int v7_t0), .unset, .unset] []))
  refine own_by (fun _ => XS.lload X7.here hx rfl (hb hby at_65) rfl) ?_
  show own_Go p e below _ (T7.setTop (mkF m 67 #[.val (.long xa), .second, .val (.long xb), .second, .val (.long xc), .second, .val (.long xd), .second, .val (.int xe), .val (.long v1_t0), .second, .val (.long v3_t0), .second, .val (.ref b5), .val (.int v7_t0), .unset, .unset] [(.long v3_t0)]))
  refine own_by (X7.ldc2Long hx hown (mvT hZ (hw _ (List.mem_of_getElem? (i := 0) rfl))) (g := (mkF m 67 #[.val (.long xa), .second, .val (.long xb), .second, .val (.long xc), .second, .val (.long xd), .second, .val (.int xe), .val (.long v1_t0), .second, .val (.long v3_t0), .second, .val (.ref b5), .val (.int v7_t0), .unset, .unset] [(.long v3_t0)])) rfl (hb hby at_67)) ?_
  show own_Go p e below _ (T7.setTop (mkF m 70 #[.val (.long xa), .second, .val (.long xb), .second, .val (.long xc), .second, .val (.long xd), .second, .val (.int xe), .val (.long v1_t0), .second, .val (.long v3_t0), .second, .val (.ref b5), .val (.int v7_t0), .unset, .unset] [(.long (9223372036854775807 : Int64)), (.long v3_t0)]))
  refine own_by (fun _ => XS.lcmp X7.here hx rfl (hb hby at_70) rfl) ?_
  show own_Go p e below _ (T7.setTop (mkF m 71 #[.val (.long xa), .second, .val (.long xb), .second, .val (.long xc), .second, .val (.long xd), .second, .val (.int xe), .val (.long v1_t0), .second, .val (.long v3_t0), .second, .val (.ref b5), .val (.int v7_t0), .unset, .unset] [(.int (lcmpW v3_t0 (9223372036854775807 : Int64)))]))
  suffices J9 : ∀ (T' : State) (v9_t0 : Int32), v9_t0 = (if v3_t0 = (9223372036854775807 : Int64) then (1 : Int32) else (0 : Int32)) → own_At p l e room_1 s m #[(.long xa), (.long xb), (.long xc), (.long xd), (.int xe)] below meth c n0 T' T6.heap 1 13 → own_Go p e below (own_End s below (own_Q0 Z xa xb xc xd xe h0 n0) room_1.cells room_1.slots) (T'.setTop (mkF m 79 #[.val (.long xa), .second, .val (.long xb), .second, .val (.long xc), .second, .val (.long xd), .second, .val (.int xe), .val (.long v1_t0), .second, .val (.long v3_t0), .second, .val (.ref b5), .val (.int v7_t0), .unset, .unset] [(.int v9_t0)])) by
    by_cases hc71_10 : v3_t0 = (9223372036854775807 : Int64)
    ·
      skip
      refine own_by (fun _ => XS.ifNo X7.here hx rfl (hb hby at_71) rfl ((if0 _ _).trans (teq ((lw_eq _ _).mpr hc71_10)).2)) ?_
      show own_Go p e below _ (T7.setTop (mkF m 74 #[.val (.long xa), .second, .val (.long xb), .second, .val (.long xc), .second, .val (.long xd), .second, .val (.int xe), .val (.long v1_t0), .second, .val (.long v3_t0), .second, .val (.ref b5), .val (.int v7_t0), .unset, .unset] []))
      refine own_by (fun _ => XS.iconst X7.here hx rfl (hb hby at_74)) ?_
      show own_Go p e below _ (T7.setTop (mkF m 75 #[.val (.long xa), .second, .val (.long xb), .second, .val (.long xc), .second, .val (.long xd), .second, .val (.int xe), .val (.long v1_t0), .second, .val (.long v3_t0), .second, .val (.ref b5), .val (.int v7_t0), .unset, .unset] [(.int (1 : Int32))]))
      refine own_by (fun _ => XS.goto X7.here hx rfl (pc0 := 75) (pc' := 79) rfl (hb hby at_75) (by decide) (by decide)) ?_
      show own_Go p e below _ (T7.setTop (mkF m 79 #[.val (.long xa), .second, .val (.long xb), .second, .val (.long xc), .second, .val (.long xd), .second, .val (.int xe), .val (.long v1_t0), .second, .val (.long v3_t0), .second, .val (.ref b5), .val (.int v7_t0), .unset, .unset] [(.int (1 : Int32))]))
      exact J9 _ _ (by first | rfl | simp only [if_pos hc71_10]) ⟨_, X7, N7, e7⟩
    ·
      skip
      refine own_by (fun _ => XS.ifYes X7.here hx rfl (pc0 := 71) (pc' := 78) rfl (hb hby at_71) rfl ((if0 _ _).trans (feq (mt (lw_eq _ _).mp hc71_10)).2) (by decide) (by decide)) ?_
      show own_Go p e below _ (T7.setTop (mkF m 78 #[.val (.long xa), .second, .val (.long xb), .second, .val (.long xc), .second, .val (.long xd), .second, .val (.int xe), .val (.long v1_t0), .second, .val (.long v3_t0), .second, .val (.ref b5), .val (.int v7_t0), .unset, .unset] []))
      refine own_by (fun _ => XS.iconst X7.here hx rfl (hb hby at_78)) ?_
      show own_Go p e below _ (T7.setTop (mkF m 79 #[.val (.long xa), .second, .val (.long xb), .second, .val (.long xc), .second, .val (.long xd), .second, .val (.int xe), .val (.long v1_t0), .second, .val (.long v3_t0), .second, .val (.ref b5), .val (.int v7_t0), .unset, .unset] [(.int (0 : Int32))]))
      exact J9 _ _ (by first | rfl | simp only [if_neg hc71_10]) ⟨_, X7, N7, e7⟩
  intro T9 v9_t0 hv9_t0 ⟨locs9, X9, N9, e9⟩
  show own_Go p e below _ (T9.setTop (mkF m 79 #[.val (.long xa), .second, .val (.long xb), .second, .val (.long xc), .second, .val (.long xd), .second, .val (.int xe), .val (.long v1_t0), .second, .val (.long v3_t0), .second, .val (.ref b5), .val (.int v7_t0), .unset, .unset] [(.int v9_t0)]))
  refine own_by (fun _ => XS.istore X9.here hx rfl (hb hby at_79) rfl (l' := #[.val (.long xa), .second, .val (.long xb), .second, .val (.long xc), .second, .val (.long xd), .second, .val (.int xe), .val (.long v1_t0), .second, .val (.long v3_t0), .second, .val (.ref b5), .val (.int v7_t0), .val (.int v9_t0), .unset]) rfl) ?_
  show own_Go p e below _ (T9.setTop (mkF m 81 #[.val (.long xa), .second, .val (.long xb), .second, .val (.long xc), .second, .val (.long xd), .second, .val (.int xe), .val (.long v1_t0), .second, .val (.long v3_t0), .second, .val (.ref b5), .val (.int v7_t0), .val (.int v9_t0), .unset] []))
  refine own_by (fun _ => XS.iload X9.here hx rfl (hb hby at_81) rfl) ?_
  show own_Go p e below _ (T9.setTop (mkF m 83 #[.val (.long xa), .second, .val (.long xb), .second, .val (.long xc), .second, .val (.long xd), .second, .val (.int xe), .val (.long v1_t0), .second, .val (.long v3_t0), .second, .val (.ref b5), .val (.int v7_t0), .val (.int v9_t0), .unset] [(.int v7_t0)]))
  suffices J11 : ∀ (T' : State) (v11_16 : Int32), v11_16 = (if v7_t0 = (0 : Int32) then (1 : Int32) else (if v9_t0 = (0 : Int32) then (1 : Int32) else (0 : Int32))) → own_At p l e room_1 s m #[(.long xa), (.long xb), (.long xc), (.long xd), (.int xe)] below meth c n0 T' T6.heap 1 13 → own_Go p e below (own_End s below (own_Q0 Z xa xb xc xd xe h0 n0) room_1.cells room_1.slots) (T'.setTop (mkF m 106 #[.val (.long xa), .second, .val (.long xb), .second, .val (.long xc), .second, .val (.long xd), .second, .val (.int xe), .val (.long v1_t0), .second, .val (.long v3_t0), .second, .val (.ref b5), .val (.int v7_t0), .val (.int v9_t0), .val (.int v11_16)] [])) by
    by_cases hc83_12 : v7_t0 = (0 : Int32)
    ·
      skip
      refine own_by (fun _ => XS.ifYes X9.here hx rfl (pc0 := 83) (pc' := 103) rfl (hb hby at_83) rfl ((if0 _ _).trans (teq hc83_12).1) (by decide) (by decide)) ?_
      show own_Go p e below _ (T9.setTop (mkF m 103 #[.val (.long xa), .second, .val (.long xb), .second, .val (.long xc), .second, .val (.long xd), .second, .val (.int xe), .val (.long v1_t0), .second, .val (.long v3_t0), .second, .val (.ref b5), .val (.int v7_t0), .val (.int v9_t0), .unset] []))
      refine own_by (fun _ => XS.iconst X9.here hx rfl (hb hby at_103)) ?_
      show own_Go p e below _ (T9.setTop (mkF m 104 #[.val (.long xa), .second, .val (.long xb), .second, .val (.long xc), .second, .val (.long xd), .second, .val (.int xe), .val (.long v1_t0), .second, .val (.long v3_t0), .second, .val (.ref b5), .val (.int v7_t0), .val (.int v9_t0), .unset] [(.int (1 : Int32))]))
      refine own_by (fun _ => XS.istore X9.here hx rfl (hb hby at_104) rfl (l' := #[.val (.long xa), .second, .val (.long xb), .second, .val (.long xc), .second, .val (.long xd), .second, .val (.int xe), .val (.long v1_t0), .second, .val (.long v3_t0), .second, .val (.ref b5), .val (.int v7_t0), .val (.int v9_t0), .val (.int (1 : Int32))]) rfl) ?_
      show own_Go p e below _ (T9.setTop (mkF m 106 #[.val (.long xa), .second, .val (.long xb), .second, .val (.long xc), .second, .val (.long xd), .second, .val (.int xe), .val (.long v1_t0), .second, .val (.long v3_t0), .second, .val (.ref b5), .val (.int v7_t0), .val (.int v9_t0), .val (.int (1 : Int32))] []))
      exact J11 _ _ (by first | rfl | simp only [if_pos hc83_12]) ⟨_, X9, N9, e9⟩
    ·
      skip
      refine own_by (fun _ => XS.ifNo X9.here hx rfl (hb hby at_83) rfl ((if0 _ _).trans (feq hc83_12).1)) ?_
      show own_Go p e below _ (T9.setTop (mkF m 86 #[.val (.long xa), .second, .val (.long xb), .second, .val (.long xc), .second, .val (.long xd), .second, .val (.int xe), .val (.long v1_t0), .second, .val (.long v3_t0), .second, .val (.ref b5), .val (.int v7_t0), .val (.int v9_t0), .unset] []))
      refine own_by (fun _ => XS.iload X9.here hx rfl (hb hby at_86) rfl) ?_
      show own_Go p e below _ (T9.setTop (mkF m 88 #[.val (.long xa), .second, .val (.long xb), .second, .val (.long xc), .second, .val (.long xd), .second, .val (.int xe), .val (.long v1_t0), .second, .val (.long v3_t0), .second, .val (.ref b5), .val (.int v7_t0), .val (.int v9_t0), .unset] [(.int v9_t0)]))
      by_cases hc88_13 : v9_t0 = (0 : Int32)
      ·
        skip
        refine own_by (fun _ => XS.ifYes X9.here hx rfl (pc0 := 88) (pc' := 97) rfl (hb hby at_88) rfl ((if0 _ _).trans (teq hc88_13).1) (by decide) (by decide)) ?_
        show own_Go p e below _ (T9.setTop (mkF m 97 #[.val (.long xa), .second, .val (.long xb), .second, .val (.long xc), .second, .val (.long xd), .second, .val (.int xe), .val (.long v1_t0), .second, .val (.long v3_t0), .second, .val (.ref b5), .val (.int v7_t0), .val (.int v9_t0), .unset] []))
        refine own_by (fun _ => XS.iconst X9.here hx rfl (hb hby at_97)) ?_
        show own_Go p e below _ (T9.setTop (mkF m 98 #[.val (.long xa), .second, .val (.long xb), .second, .val (.long xc), .second, .val (.long xd), .second, .val (.int xe), .val (.long v1_t0), .second, .val (.long v3_t0), .second, .val (.ref b5), .val (.int v7_t0), .val (.int v9_t0), .unset] [(.int (1 : Int32))]))
        refine own_by (fun _ => XS.istore X9.here hx rfl (hb hby at_98) rfl (l' := #[.val (.long xa), .second, .val (.long xb), .second, .val (.long xc), .second, .val (.long xd), .second, .val (.int xe), .val (.long v1_t0), .second, .val (.long v3_t0), .second, .val (.ref b5), .val (.int v7_t0), .val (.int v9_t0), .val (.int (1 : Int32))]) rfl) ?_
        show own_Go p e below _ (T9.setTop (mkF m 100 #[.val (.long xa), .second, .val (.long xb), .second, .val (.long xc), .second, .val (.long xd), .second, .val (.int xe), .val (.long v1_t0), .second, .val (.long v3_t0), .second, .val (.ref b5), .val (.int v7_t0), .val (.int v9_t0), .val (.int (1 : Int32))] []))
        refine own_by (fun _ => XS.goto X9.here hx rfl (pc0 := 100) (pc' := 106) rfl (hb hby at_100) (by decide) (by decide)) ?_
        show own_Go p e below _ (T9.setTop (mkF m 106 #[.val (.long xa), .second, .val (.long xb), .second, .val (.long xc), .second, .val (.long xd), .second, .val (.int xe), .val (.long v1_t0), .second, .val (.long v3_t0), .second, .val (.ref b5), .val (.int v7_t0), .val (.int v9_t0), .val (.int (1 : Int32))] []))
        exact J11 _ _ (by first | rfl | simp only [if_neg hc83_12, if_pos hc88_13]) ⟨_, X9, N9, e9⟩
      ·
        skip
        refine own_by (fun _ => XS.ifNo X9.here hx rfl (hb hby at_88) rfl ((if0 _ _).trans (feq hc88_13).1)) ?_
        show own_Go p e below _ (T9.setTop (mkF m 91 #[.val (.long xa), .second, .val (.long xb), .second, .val (.long xc), .second, .val (.long xd), .second, .val (.int xe), .val (.long v1_t0), .second, .val (.long v3_t0), .second, .val (.ref b5), .val (.int v7_t0), .val (.int v9_t0), .unset] []))
        refine own_by (fun _ => XS.iconst X9.here hx rfl (hb hby at_91)) ?_
        show own_Go p e below _ (T9.setTop (mkF m 92 #[.val (.long xa), .second, .val (.long xb), .second, .val (.long xc), .second, .val (.long xd), .second, .val (.int xe), .val (.long v1_t0), .second, .val (.long v3_t0), .second, .val (.ref b5), .val (.int v7_t0), .val (.int v9_t0), .unset] [(.int (0 : Int32))]))
        refine own_by (fun _ => XS.istore X9.here hx rfl (hb hby at_92) rfl (l' := #[.val (.long xa), .second, .val (.long xb), .second, .val (.long xc), .second, .val (.long xd), .second, .val (.int xe), .val (.long v1_t0), .second, .val (.long v3_t0), .second, .val (.ref b5), .val (.int v7_t0), .val (.int v9_t0), .val (.int (0 : Int32))]) rfl) ?_
        show own_Go p e below _ (T9.setTop (mkF m 94 #[.val (.long xa), .second, .val (.long xb), .second, .val (.long xc), .second, .val (.long xd), .second, .val (.int xe), .val (.long v1_t0), .second, .val (.long v3_t0), .second, .val (.ref b5), .val (.int v7_t0), .val (.int v9_t0), .val (.int (0 : Int32))] []))
        refine own_by (fun _ => XS.goto X9.here hx rfl (pc0 := 94) (pc' := 106) rfl (hb hby at_94) (by decide) (by decide)) ?_
        show own_Go p e below _ (T9.setTop (mkF m 106 #[.val (.long xa), .second, .val (.long xb), .second, .val (.long xc), .second, .val (.long xd), .second, .val (.int xe), .val (.long v1_t0), .second, .val (.long v3_t0), .second, .val (.ref b5), .val (.int v7_t0), .val (.int v9_t0), .val (.int (0 : Int32))] []))
        exact J11 _ _ (by first | rfl | simp only [if_neg hc83_12, if_neg hc88_13]) ⟨_, X9, N9, e9⟩
  intro T11 v11_16 hv11_16 ⟨locs11, X11, N11, e11⟩
  show own_Go p e below _ (T11.setTop (mkF m 106 #[.val (.long xa), .second, .val (.long xb), .second, .val (.long xc), .second, .val (.long xd), .second, .val (.int xe), .val (.long v1_t0), .second, .val (.long v3_t0), .second, .val (.ref b5), .val (.int v7_t0), .val (.int v9_t0), .val (.int v11_16)] []))
  refine own_by (fun _ => XS.aload X11.here hx rfl (hb hby at_106) rfl rfl) ?_
  show own_Go p e below _ (T11.setTop (mkF m 108 #[.val (.long xa), .second, .val (.long xb), .second, .val (.long xc), .second, .val (.long xd), .second, .val (.int xe), .val (.long v1_t0), .second, .val (.long v3_t0), .second, .val (.ref b5), .val (.int v7_t0), .val (.int v9_t0), .val (.int v11_16)] [(.ref b5)]))
  have f15 : Exa Z T6.heap b5 "com/example/bucketsplit/bucketsplit/core/Meter" := (A5.keep Kc6)
  obtain ⟨cq14, kq14, q14a, q14b, q14c⟩ := isOf hZ e11 f15
  obtain ⟨_, _, ⟨T14, L14, k14, n14⟩, -, X14, ⟨Lc14, hQ14, l14, y14, z14'⟩, st14⟩ := X11.virtualBack hx (y := (⟨"com/example/bucketsplit/bucketsplit/core/Meter", "watchesValuations", "()Z"⟩ : MethodName)) (z := (⟨"com/example/bucketsplit/bucketsplit/core/Meter", "watchesValuations", "()Z"⟩ : MethodName)) hown (mvT hZ (hw _ (List.mem_of_getElem? (i := 26) rfl))) (mvT hZ (hw _ (List.mem_of_getElem? (i := 27) rfl))) (notFace_of_selects (args := #[]) (mvT hZ (hw _ (List.mem_of_getElem? (i := 29) rfl)))) (mvT hZ (hw _ (List.mem_of_getElem? (i := 29) rfl))) (mvT hZ (hw _ (List.mem_of_getElem? (i := 28) rfl))) (by decide) (backOf (W := 0) (own_rm3 l Z a0 hw [] b5 v1_t0 v3_t0 T6.heap n0 z6 fc6_0 fc6_1) hZ (hw _ (List.mem_of_getElem? (i := 30) rfl)) (hw _ (List.mem_of_getElem? (i := 3) rfl)) (by decide) (by decide)) q14a q14c (g := (mkF m 108 #[.val (.long xa), .second, .val (.long xb), .second, .val (.long xc), .second, .val (.long xd), .second, .val (.int xe), .val (.long v1_t0), .second, .val (.long v3_t0), .second, .val (.ref b5), .val (.int v7_t0), .val (.int v9_t0), .val (.int v11_16)] [(.ref b5)])) rfl (by rw [hml]; rfl) (Steps.refl _) (argsL := []) (rest := []) (lenOf own_pd1 rfl) rfl (by show 2 * 0 + _ ≤ _; exact Nat.le_of_eq rfl) (hb hby at_108) (fun _ _ => ⟨rfl, e11, (by decide : 1 + 0 ≤ _), (by decide : 13 + 0 ≤ _)⟩)
  dsimp only [Pt.U, Pt.locs, Pt.cells, Pt.slots] at X14 l14 y14 z14' st14 hQ14
  subst l14 y14 z14'
  obtain ⟨rfl, N14q, e14⟩ := hQ14
  have N14 := Fr.app N11 N14q
  refine own_tr st14 ?_
  show own_Go p e below _ (T14.setTop (mkF m 111 #[.val (.long xa), .second, .val (.long xb), .second, .val (.long xc), .second, .val (.long xd), .second, .val (.int xe), .val (.long v1_t0), .second, .val (.long v3_t0), .second, .val (.ref b5), .val (.int v7_t0), .val (.int v9_t0), .val (.int v11_16)] [(.int (own_watch v1_t0 v3_t0))]))
  refine own_by (fun _ => XS.iload X14.here hx rfl (hb hby at_111) rfl) ?_
  show own_Go p e below _ (T14.setTop (mkF m 113 #[.val (.long xa), .second, .val (.long xb), .second, .val (.long xc), .second, .val (.long xd), .second, .val (.int xe), .val (.long v1_t0), .second, .val (.long v3_t0), .second, .val (.ref b5), .val (.int v7_t0), .val (.int v9_t0), .val (.int v11_16)] [(.int v11_16), (.int (own_watch v1_t0 v3_t0))]))
  suffices J16 : ∀ (T' : State) (v16_t0 : Int32), v16_t0 = (if (own_watch v1_t0 v3_t0) = v11_16 then (1 : Int32) else (0 : Int32)) → own_At p l e room_1 s m #[(.long xa), (.long xb), (.long xc), (.long xd), (.int xe)] below meth c n0 T' T6.heap 1 13 → own_Go p e below (own_End s below (own_Q0 Z xa xb xc xd xe h0 n0) room_1.cells room_1.slots) (T'.setTop (mkF m 121 #[.val (.long xa), .second, .val (.long xb), .second, .val (.long xc), .second, .val (.long xd), .second, .val (.int xe), .val (.long v1_t0), .second, .val (.long v3_t0), .second, .val (.ref b5), .val (.int v7_t0), .val (.int v9_t0), .val (.int v11_16)] [(.int v16_t0)])) by
    by_cases hc113_17 : (own_watch v1_t0 v3_t0) = v11_16
    ·
      skip
      refine own_by (fun _ => XS.icmpNo X14.here hx rfl (hb hby at_113) rfl (teq hc113_17).2) ?_
      show own_Go p e below _ (T14.setTop (mkF m 116 #[.val (.long xa), .second, .val (.long xb), .second, .val (.long xc), .second, .val (.long xd), .second, .val (.int xe), .val (.long v1_t0), .second, .val (.long v3_t0), .second, .val (.ref b5), .val (.int v7_t0), .val (.int v9_t0), .val (.int v11_16)] []))
      refine own_by (fun _ => XS.iconst X14.here hx rfl (hb hby at_116)) ?_
      show own_Go p e below _ (T14.setTop (mkF m 117 #[.val (.long xa), .second, .val (.long xb), .second, .val (.long xc), .second, .val (.long xd), .second, .val (.int xe), .val (.long v1_t0), .second, .val (.long v3_t0), .second, .val (.ref b5), .val (.int v7_t0), .val (.int v9_t0), .val (.int v11_16)] [(.int (1 : Int32))]))
      refine own_by (fun _ => XS.goto X14.here hx rfl (pc0 := 117) (pc' := 121) rfl (hb hby at_117) (by decide) (by decide)) ?_
      show own_Go p e below _ (T14.setTop (mkF m 121 #[.val (.long xa), .second, .val (.long xb), .second, .val (.long xc), .second, .val (.long xd), .second, .val (.int xe), .val (.long v1_t0), .second, .val (.long v3_t0), .second, .val (.ref b5), .val (.int v7_t0), .val (.int v9_t0), .val (.int v11_16)] [(.int (1 : Int32))]))
      exact J16 _ _ (by first | rfl | simp only [if_pos hc113_17]) ⟨_, X14, N14, e14⟩
    ·
      skip
      refine own_by (fun _ => XS.icmpYes X14.here hx rfl (pc0 := 113) (pc' := 120) rfl (hb hby at_113) rfl (feq hc113_17).2 (by decide) (by decide)) ?_
      show own_Go p e below _ (T14.setTop (mkF m 120 #[.val (.long xa), .second, .val (.long xb), .second, .val (.long xc), .second, .val (.long xd), .second, .val (.int xe), .val (.long v1_t0), .second, .val (.long v3_t0), .second, .val (.ref b5), .val (.int v7_t0), .val (.int v9_t0), .val (.int v11_16)] []))
      refine own_by (fun _ => XS.iconst X14.here hx rfl (hb hby at_120)) ?_
      show own_Go p e below _ (T14.setTop (mkF m 121 #[.val (.long xa), .second, .val (.long xb), .second, .val (.long xc), .second, .val (.long xd), .second, .val (.int xe), .val (.long v1_t0), .second, .val (.long v3_t0), .second, .val (.ref b5), .val (.int v7_t0), .val (.int v9_t0), .val (.int v11_16)] [(.int (0 : Int32))]))
      exact J16 _ _ (by first | rfl | simp only [if_neg hc113_17]) ⟨_, X14, N14, e14⟩
  intro T16 v16_t0 hv16_t0 ⟨locs16, X16, N16, e16⟩
  show own_Go p e below _ (T16.setTop (mkF m 121 #[.val (.long xa), .second, .val (.long xb), .second, .val (.long xc), .second, .val (.long xd), .second, .val (.int xe), .val (.long v1_t0), .second, .val (.long v3_t0), .second, .val (.ref b5), .val (.int v7_t0), .val (.int v9_t0), .val (.int v11_16)] [(.int v16_t0)]))
  exact own_retZ X16 hx hlk e16 (by rw [hv16_t0]; (repeat' split) <;> first | exact Or.inl rfl | exact Or.inr rfl) hret (hb hby at_121) (by decide) (by decide) ⟨(congrArg some (congrArg Value.int (by subst hv16_t0; subst hv11_16; subst hv9_t0; subst hv7_t0; subst hv3_t0; subst hv1_t0; exact own_plain xa xb xc xd xe : v16_t0 = (1 : Int32)))), N16⟩

theorem own_comes {Post : Tables → Env → Array Value → State → Outcome → State → Prop} (hpost : ∀ tb e args s v u, (limb_1_1.after args s (.returned v) u = true ∧ limb_1_2.after args s (.returned v) u = true ∧ True) → FrameEnd s (.returned v) u (Jvm.fieldLocs frame_1_writes args s ++ Jvm.arrayLocs frame_1_arrays args s ++ Jvm.staticLocs frame_1_statics s) 16 128 → Post tb e args s (.returned v) u) :
    ArmFor flags0 classFile x code maxLocals ret World_1 tables_1 room_1 Calls_1 rest_1 Pre_1 Post := by
  intro l hfl _ _ p e ha hc hk s m args below hf hA hF happ hP
  obtain ⟨hcalls, hrest, hpre⟩ := hP
  obtain ⟨-, -, -, hnamed, -, -, -, hat⟩ := (Spec.applies_iff hf).mp happ
  obtain ⟨hg, hn⟩ := and_e (Cond.before_iff.mp (show (Jvm.Cond.and given_1 narrow_1).before args s = true from hpre))
  obtain ⟨hg1, hg2⟩ := and_e hg
  obtain ⟨hg3, hg4⟩ := and_e hg2
  obtain ⟨hg5, hg6⟩ := and_e hg4
  obtain ⟨hg7, hg8⟩ := and_e hg6
  obtain ⟨hg9, hg10⟩ := and_e hg8
  obtain ⟨w0, w1, w2, w3, w4, rfl⟩ : ∃ w0 w1 w2 w3 w4 : Value, args = #[w0, w1, w2, w3, w4] := by
    have hs : args.size = 5 := by simpa [Cond.value, given_1] using hg1
    obtain ⟨L⟩ := args
    match L, hs with
    | [w0, w1, w2, w3, w4], _ => exact ⟨w0, w1, w2, w3, w4, rfl⟩
  have hw := fun d (hd : d ∈ tables_1) => atoms_spec (ws := Jvm.Cond.code x code maxLocals ret :: tables_1) hat d (List.mem_cons_of_mem _ hd)
  have hfit : Fit s := fun {y c} hc i hi => by
    obtain ⟨ha, rfl⟩ := Array.getElem?_eq_some_iff.mp hc
    have q := List.all_eq_true.mp ((Array.all_eq_true_iff_forall_mem.mp hF) _ (Array.getElem_mem ha)) i (List.mem_range.mpr hi)
    simpa [Array.getElem?_eq_getElem hi] using q
  obtain ⟨i0, ei0⟩ := isL_v hg3
  obtain rfl : w0 = (.long i0) := Option.some.inj ei0
  obtain ⟨i1, ei1⟩ := isL_v hg5
  obtain rfl : w1 = (.long i1) := Option.some.inj ei1
  obtain ⟨i2, ei2⟩ := isL_v hg7
  obtain rfl : w2 = (.long i2) := Option.some.inj ei2
  obtain ⟨i3, ei3⟩ := isL_v hg9
  obtain rfl : w3 = (.long i3) := Option.some.inj ei3
  obtain ⟨i4, ei4⟩ := is_v hg10
  obtain rfl : w4 = (.int i4) := Option.some.inj ei4
  obtain ⟨n, o, h1, h2, h3, _, L, rfl, ⟨rfl, N⟩, hq⟩ := own_rm0 l s _ hw tables_1 i0 i1 i2 i3 i4 s.heap s.heap.size (Nat.le_refl _) p e ha hc hk s m _ below hf ((Spec.applies_iff_loose hf).mp happ).1 ⟨rfl, State.Warmed39.refl s, rfl⟩ trivial
  refine ⟨n, _, h1, h2, h3, hpost _ _ _ _ _ _ ⟨Cond.after_iff.mpr rfl, Cond.after_iff.mpr (eq_i res_at (Term.int_eval (1)) rfl), trivial⟩ ⟨hq.1, hq.2.1, (hq.2.2.sift fun y hy => Or.inr (N y hy)).mono (by decide) (by decide)⟩⟩
theorem main_1_1 : Claimed_1_1 := own_comes fun _ _ _ _ _ _ h hF => ⟨h.1, hF⟩
theorem main_1_2 : Claimed_1_2 := own_comes fun _ _ _ _ _ _ h hF => ⟨h.2.1, hF⟩
end Jvm.Pilot.@@N@@
namespace Jvm.Pilot.@@N@@
open Jvm Jvm.ClassFile Sem Op Lib Jvm.Free Jvm.Stand Jvm.Pilot.@@N@@.Jvm.D
/-! MADE BY PROGRAM (witnessworld.py) out of the Statement's table words and the real class files: 9 classes; the members and pool entries that the words name. The judged class is class 1, her method 1. -/
namespace start1
open Jvm.ClassFile
def u (s : String) : CpInfo := .utf8 (stringToUtf16 s)
/-- a pool by its gaps: so many unusable entries, then the entry; so many at the end -/
def gap : Nat → List CpInfo → List CpInfo
  | 0, r => r
  | n + 1, r => .unusable :: gap n r
def poolList (es : List (Nat × CpInfo)) (last : Nat) : List CpInfo := es.foldr (fun e r => gap e.1 (e.2 :: r)) (gap last [])
def pool (es : List (Nat × CpInfo)) (last : Nat) : Array CpInfo := ⟨poolList es last⟩
def fileOf (pool : Array CpInfo) (this : Nat) (attrs : Array Attribute := #[]) (ms : Array MethodInfo := #[]) (fl : Nat := 33) (sup : Nat := 0) (ifs : Array Nat := #[]) (fds : Array FieldInfo := #[]) : ClassFile where
  minorVersion := 0
  majorVersion := 65
  constantPool := pool
  accessFlags := fl
  thisClass := this
  superClass := sup
  interfaces := ifs
  fields := fds
  methods := ms
  attributes := attrs
def plain (name : String) (sup : Option ClassId) : Class where
  name := name
  kind := .ordinary
  loader := none
  accessFlags := 33
  super := sup
  interfaces := #[]
  cf := none
  fields := #[]
  methods := #[]
  instanceTypes := #[]
  staticTypes := #[]
  resolved := #[]
  callSites := []
  init := .initialized
  statics := none
  mirror := none

def pool0 : Array CpInfo := pool [(5, u "<init>"), (0, u "()V"), (1, .class_ 10), (1, u "java/lang/Object")] 113

def k0c0 : Code := { maxStack := 0, maxLocals := 1, code := object_method_1_code, exceptionTable := #[], attributes := #[] }
def k0m0 : Method := { name := "<init>", desc := "()V", sig := { parameters := [], returnType := none }, accessFlags := 1, code := some k0c0 }
/-- java/lang/Object -/
def k0 : Class := { plain "java/lang/Object" none with
  accessFlags := 33
  interfaces := #[]
  cf := some (fileOf pool0 8 #[] #[{ accessFlags := 1, nameIndex := 5, descriptorIndex := 6, attributes := #[] }] 33 0 #[] #[])
  fields := #[]
  methods := #[k0m0]
  instanceTypes := #[]
  staticTypes := #[]
  resolved := Array.replicate 124 none
  statics := none }

def pool1 : Array CpInfo := pool [(2, .class_ 4), (1, u "java/lang/Object"), (0, u "<init>"), (0, u "()V"), (2, .long 9223372036854775807), (1, .class_ 12), (0, u "com/example/bucketsplit/bucketsplit/core/Meter"), (0, .methodref 11 14), (0, .nameAndType 5 15), (0, u "(JJJJ)V"), (0, .methodref 11 17), (0, .nameAndType 18 19), (0, u "watchesValuations"), (0, u "()Z"), (0, .class_ 21), (0, u "com/example/bucketsplit/bucketsplit/core/MeterWatchesValuationsPinLaw"), (2, u "law"), (0, u "(JJJJI)Z")] 3

def k1m0 : Method := { name := "<init>", desc := "()V", sig := { parameters := [], returnType := none }, accessFlags := 1, code := none }
def k1c1 : Code := { maxStack := 10, maxLocals := 17, code := code, exceptionTable := #[], attributes := #[] }
def k1m1 : Method := { name := "law", desc := "(JJJJI)Z", sig := { parameters := [.long, .long, .long, .long, .int], returnType := some .boolean }, accessFlags := 9, code := some k1c1 }
/-- com/example/bucketsplit/bucketsplit/core/MeterWatchesValuationsPinLaw -/
def k1 : Class := { plain "com/example/bucketsplit/bucketsplit/core/MeterWatchesValuationsPinLaw" (some 0) with
  accessFlags := 49
  interfaces := #[]
  cf := some (fileOf pool1 20 #[] #[{ accessFlags := 1, nameIndex := 5, descriptorIndex := 6, attributes := #[] }, { accessFlags := 9, nameIndex := 24, descriptorIndex := 25, attributes := #[] }] 49 2 #[] #[])
  fields := #[]
  methods := #[k1m0, k1m1]
  instanceTypes := #[]
  staticTypes := #[]
  resolved := Array.replicate 29 none
  statics := none }

def pool2 : Array CpInfo := pool [(1, .methodref 2 3), (0, .class_ 4), (0, .nameAndType 5 6), (0, u "java/lang/Object"), (0, u "<init>"), (0, u "()V"), (0, .fieldref 8 9), (0, .class_ 10), (0, .nameAndType 11 12), (0, u "com/example/bucketsplit/bucketsplit/core/Meter"), (0, u "mMaxSteps"), (0, u "J"), (0, .fieldref 8 14), (0, .nameAndType 15 12), (0, u "mMaxStepsPerOperation"), (0, .fieldref 8 17), (0, .nameAndType 18 19), (0, u "mStepLimit"), (0, u "D"), (0, .fieldref 8 21), (0, .nameAndType 22 19), (0, u "mOperationStepLimit"), (0, .fieldref 8 24), (0, .nameAndType 25 12), (0, u "mMaxOperations"), (0, .fieldref 8 27), (0, .nameAndType 28 12), (0, u "mMaxUnsafeValues"), (0, .fieldref 8 30), (0, .nameAndType 31 19), (0, u "mOperationLimit"), (0, .fieldref 8 33), (0, .nameAndType 34 19), (0, u "mUnsafeValueLimit"), (2, .long 9223372036854775807), (3, u "mLine"), (0, u "I"), (2, u "mOperationSteps"), (2, u "mSteps"), (0, .class_ 50), (0, u "com/example/bucketsplit/bucketsplit/core/Meter$Exceeded"), (25, u "mOperations"), (5, u "mUnsafeValues"), (3, u "(JJJJ)V"), (2, u "watchesValuations"), (0, u "()Z")] 11

def k2c0 : Code := { maxStack := 3, maxLocals := 9, code := prog_40_method_1_code, exceptionTable := #[], attributes := #[] }
def k2m0 : Method := { name := "<init>", desc := "(JJJJ)V", sig := { parameters := [.long, .long, .long, .long], returnType := none }, accessFlags := 0, code := some k2c0 }
def k2c1 : Code := { maxStack := 4, maxLocals := 1, code := prog_40_method_2_code, exceptionTable := #[], attributes := #[] }
def k2m1 : Method := { name := "watchesValuations", desc := "()Z", sig := { parameters := [], returnType := some .boolean }, accessFlags := 0, code := some k2c1 }
/-- com/example/bucketsplit/bucketsplit/core/Meter -/
def k2 : Class := { plain "com/example/bucketsplit/bucketsplit/core/Meter" (some 0) with
  accessFlags := 48
  interfaces := #[]
  cf := some (fileOf pool2 8 #[.nestMembers #[49]] #[{ accessFlags := 0, nameIndex := 5, descriptorIndex := 86, attributes := #[] }, { accessFlags := 0, nameIndex := 89, descriptorIndex := 90, attributes := #[] }] 48 2 #[] #[{ accessFlags := 18, nameIndex := 11, descriptorIndex := 12, attributes := #[] }, { accessFlags := 18, nameIndex := 15, descriptorIndex := 12, attributes := #[] }, { accessFlags := 18, nameIndex := 25, descriptorIndex := 12, attributes := #[] }, { accessFlags := 18, nameIndex := 28, descriptorIndex := 12, attributes := #[] }, { accessFlags := 18, nameIndex := 18, descriptorIndex := 19, attributes := #[] }, { accessFlags := 18, nameIndex := 22, descriptorIndex := 19, attributes := #[] }, { accessFlags := 18, nameIndex := 31, descriptorIndex := 19, attributes := #[] }, { accessFlags := 18, nameIndex := 34, descriptorIndex := 19, attributes := #[] }, { accessFlags := 2, nameIndex := 48, descriptorIndex := 19, attributes := #[] }, { accessFlags := 2, nameIndex := 45, descriptorIndex := 19, attributes := #[] }, { accessFlags := 2, nameIndex := 76, descriptorIndex := 19, attributes := #[] }, { accessFlags := 2, nameIndex := 82, descriptorIndex := 19, attributes := #[] }, { accessFlags := 2, nameIndex := 41, descriptorIndex := 42, attributes := #[] }])
  fields := #[{ name := "mMaxSteps", type := .long, accessFlags := 18, slot := 0, constantValue := 0 }, { name := "mMaxStepsPerOperation", type := .long, accessFlags := 18, slot := 1, constantValue := 0 }, { name := "mMaxOperations", type := .long, accessFlags := 18, slot := 2, constantValue := 0 }, { name := "mMaxUnsafeValues", type := .long, accessFlags := 18, slot := 3, constantValue := 0 }, { name := "mStepLimit", type := .double, accessFlags := 18, slot := 4, constantValue := 0 }, { name := "mOperationStepLimit", type := .double, accessFlags := 18, slot := 5, constantValue := 0 }, { name := "mOperationLimit", type := .double, accessFlags := 18, slot := 6, constantValue := 0 }, { name := "mUnsafeValueLimit", type := .double, accessFlags := 18, slot := 7, constantValue := 0 }, { name := "mSteps", type := .double, accessFlags := 2, slot := 8, constantValue := 0 }, { name := "mOperationSteps", type := .double, accessFlags := 2, slot := 9, constantValue := 0 }, { name := "mOperations", type := .double, accessFlags := 2, slot := 10, constantValue := 0 }, { name := "mUnsafeValues", type := .double, accessFlags := 2, slot := 11, constantValue := 0 }, { name := "mLine", type := .int, accessFlags := 2, slot := 12, constantValue := 0 }]
  methods := #[k2m0, k2m1]
  instanceTypes := #[.long, .long, .long, .long, .double, .double, .double, .double, .double, .double, .double, .double, .int]
  staticTypes := #[]
  resolved := Array.replicate 102 none
  statics := none }

def pool3 : Array CpInfo := pool [(1, u "java/lang/Cloneable"), (0, .class_ 1), (0, u "java/lang/Object"), (0, .class_ 3)] 3

/-- java/lang/Cloneable -/
def k3 : Class := { plain "java/lang/Cloneable" (some 0) with
  accessFlags := 1537
  interfaces := #[]
  cf := some (fileOf pool3 2 #[] #[] 1537 4 #[] #[])
  fields := #[]
  methods := #[]
  instanceTypes := #[]
  staticTypes := #[]
  resolved := Array.replicate 8 none
  statics := none }

def pool4 : Array CpInfo := pool [(1, u "java/io/Serializable"), (0, .class_ 1), (0, u "java/lang/Object"), (0, .class_ 3)] 3

/-- java/io/Serializable -/
def k4 : Class := { plain "java/io/Serializable" (some 0) with
  accessFlags := 1537
  interfaces := #[]
  cf := some (fileOf pool4 2 #[] #[] 1537 4 #[] #[])
  fields := #[]
  methods := #[]
  instanceTypes := #[]
  staticTypes := #[]
  resolved := Array.replicate 8 none
  statics := none }

/-- the primitive byte -/
def k5 : Class := { plain "byte" none with kind := .primitive 'B', accessFlags := 0x411 }
/-- [B -/
def k6 : Class := { plain "[B" (some 0) with kind := .array 5 .byte, interfaces := #[3, 4], accessFlags := 1041 }

/-- the primitive int -/
def k7 : Class := { plain "int" none with kind := .primitive 'I', accessFlags := 0x411 }
/-- [I -/
def k8 : Class := { plain "[I" (some 0) with kind := .array 7 .int, interfaces := #[3, 4], accessFlags := 1041 }

def heap : Heap := #[]
def classes : Array Class := #[k0, k1, k2, k3, k4, k5, k6, k7, k8]
def interned : List (Array UInt16 × Addr) := []
def slotsUsed : Nat := 0
def theMethod : MethodId := ⟨1, 1⟩
def args0 : Array Value := #[.long 5, .long 1, .long 13, .long 2, .int 0]
def aboutOver (below : List Frame) : State where
  vm := { classes := classes, interned := interned.toArray }
  heap := heap
  slotsUsed := slotsUsed
  threads := #[{ frames := .invoking theMethod args0 :: below }]
def below0 : List Frame := [.native { method := ⟨0, 0⟩, args := #[] }]
def about1 : State := aboutOver below0
def p0 : Program := .bare "" "" ""
def e0 : Env := launch0.env 0 0 0
theorem w_frames : about1.frames = Frame.invoking theMethod args0 :: below0 := rfl
set_option maxRecDepth 65536 in
theorem w_args : argsFit about1.vm theMethod args0 = true := by decide +kernel
set_option maxRecDepth 65536 in
theorem w_heap : heapFits about1 = true := by decide +kernel
set_option maxRecDepth 65536 in
theorem w_runnable : about1.curStatus? = some .runnable := by decide +kernel
set_option maxRecDepth 65536 in
theorem w_alone : about1.alone = true := by decide +kernel
set_option maxRecDepth 65536 in
theorem w_named : about1.methodNamed? x = some theMethod := by decide +kernel
set_option maxRecDepth 65536 in
theorem w_hears : about1.hears theMethod below0 = true := by decide +kernel
set_option maxRecDepth 65536 in
theorem w_ripe : about1.ripe theMethod args0 below0 = true := by decide +kernel
theorem w_running : about1.status = .running := rfl
set_option maxRecDepth 65536 in
theorem w_room : about1.hasRoom e0.platform room_1 = true :=
  launch0.hasRoom_least _ room_1 (by decide +kernel) (by decide +kernel) (by decide +kernel) (by decide +kernel) (by decide +kernel) (by decide +kernel)
theorem allAtoms_all (ts : List Jvm.Cond) (a : Array Jvm.Value) (st : Jvm.State) : (allAtoms ts).before a st = ts.all (fun c => c.before a st) := by
  induction ts with
  | nil => rfl
  | cons c t ih =>
    show (Jvm.Cond.and c (allAtoms t)).before a st = _
    rw [Jvm.Cond.before_and, ih, List.all_cons]
def words1 : List Jvm.Cond := Jvm.Cond.code x code maxLocals ret :: tables_1
/-- a 'code' word, met by the world's own term for the bytes: nothing is compared byte by byte -/
theorem code_word {y : MethodName} {bytes : ByteArray} {mx : Nat} {rt : Option FieldType} {a : Array Value} {s : State} {m : MethodId} {meth : Method} {c : Code} (h1 : s.methodNamed? y = some m) (h2 : s.vm.method? m = some meth) (h3 : meth.code = some c) (h4 : c.code = bytes)
    (h5 : (c.maxLocals == mx && c.exceptionTable.isEmpty && decide (c.maxStack ≤ mostOperands) && decide (meth.sig.returnType = rt) && !meth.locks && decide (parseMethodDescriptor y.desc = some meth.sig)) = true) : (Jvm.Cond.code y bytes mx rt).before a s = true := by
  simp only [Bool.and_eq_true, beq_iff_eq, Bool.not_eq_true', decide_eq_true_eq] at h5
  obtain ⟨⟨⟨⟨⟨g1, g2⟩, g3⟩, g4⟩, g5⟩, g6⟩ := h5
  simp [Cond.before, Cond.holds, Cond.value, h1, h2, h3, h4, g1, g2, g3, g4, g5, g6]
def isCode : Jvm.Cond → Bool
  | .code _ _ _ _ => true
  | _ => false
theorem all_split {L : List Jvm.Cond} {P : Jvm.Cond → Bool} (h1 : L.all (fun c => isCode c || P c) = true) (h2 : ∀ c ∈ L.filter isCode, P c = true) : L.all P = true := by
  refine List.all_eq_true.mpr fun c hc => ?_
  have h := List.all_eq_true.mp h1 c hc
  rcases Bool.eq_false_or_eq_true (isCode c) with hi | hi
  · exact h2 c (List.mem_filter.mpr ⟨hc, hi⟩)
  · simpa [hi] using h
set_option maxRecDepth 65536 in
theorem w_c0 : (Jvm.Cond.code x code maxLocals ret).before args0 about1 = true := code_word (m := ⟨1, 1⟩) (meth := k1m1) (c := k1c1) (by decide +kernel) rfl rfl rfl (by decide +kernel)
set_option maxRecDepth 65536 in
theorem w_c1 : (Jvm.Cond.code ({ cls := "com/example/bucketsplit/bucketsplit/core/Meter", name := "<init>", desc := "(JJJJ)V" } : Jvm.MethodName) prog_40_method_1_code (9 : Nat) (Option.none : Option Jvm.ClassFile.FieldType)).before args0 about1 = true := code_word (m := ⟨2, 0⟩) (meth := k2m0) (c := k2c0) (by decide +kernel) rfl rfl rfl (by decide +kernel)
set_option maxRecDepth 65536 in
theorem w_c2 : (Jvm.Cond.code ({ cls := "java/lang/Object", name := "<init>", desc := "()V" } : Jvm.MethodName) object_method_1_code (1 : Nat) (Option.none : Option Jvm.ClassFile.FieldType)).before args0 about1 = true := code_word (m := ⟨0, 0⟩) (meth := k0m0) (c := k0c0) (by decide +kernel) rfl rfl rfl (by decide +kernel)
set_option maxRecDepth 65536 in
theorem w_c3 : (Jvm.Cond.code ({ cls := "com/example/bucketsplit/bucketsplit/core/Meter", name := "watchesValuations", desc := "()Z" } : Jvm.MethodName) prog_40_method_2_code (1 : Nat) (Option.some Jvm.ClassFile.FieldType.boolean)).before args0 about1 = true := code_word (m := ⟨2, 1⟩) (meth := k2m1) (c := k2c1) (by decide +kernel) rfl rfl rfl (by decide +kernel)
def codes1 : List Jvm.Cond := [Jvm.Cond.code x code maxLocals ret, Jvm.Cond.code ({ cls := "com/example/bucketsplit/bucketsplit/core/Meter", name := "<init>", desc := "(JJJJ)V" } : Jvm.MethodName) prog_40_method_1_code (9 : Nat) (Option.none : Option Jvm.ClassFile.FieldType), Jvm.Cond.code ({ cls := "java/lang/Object", name := "<init>", desc := "()V" } : Jvm.MethodName) object_method_1_code (1 : Nat) (Option.none : Option Jvm.ClassFile.FieldType), Jvm.Cond.code ({ cls := "com/example/bucketsplit/bucketsplit/core/Meter", name := "watchesValuations", desc := "()Z" } : Jvm.MethodName) prog_40_method_2_code (1 : Nat) (Option.some Jvm.ClassFile.FieldType.boolean)]
set_option maxRecDepth 65536 in
theorem codes_eq : words1.filter isCode = codes1 := rfl
theorem w_codes : ∀ c ∈ words1.filter isCode, c.before args0 about1 = true := by
  rw [codes_eq]
  intro c hc
  simp only [codes1, List.mem_cons, List.not_mem_nil, or_false] at hc
  rcases hc with rfl | rfl | rfl | rfl
  · exact w_c0
  · exact w_c1
  · exact w_c2
  · exact w_c3
set_option maxRecDepth 65536 in
theorem w_t1 : (words1.take 24).all (fun c => isCode c || c.before args0 about1) = true := by decide +kernel
set_option maxRecDepth 65536 in
theorem w_t2 : (words1.drop 24).all (fun c => isCode c || c.before args0 about1) = true := by decide +kernel
theorem w_tables : (allAtoms (Jvm.Cond.code x code maxLocals ret :: tables_1)).before args0 about1 = true := by
  rw [allAtoms_all]
  show words1.all (fun c => c.before args0 about1) = true
  refine all_split ?_ w_codes
  rw [← List.take_append_drop 24 words1, List.all_append, w_t1, w_t2]
  rfl
set_option maxRecDepth 65536 in
theorem w_case : (Jvm.Cond.and given_1 narrow_1).before args0 about1 = true := by decide +kernel
theorem w_applies : (headSpec (Jvm.Cond.code x code maxLocals ret :: tables_1) room_1).applies x e0.platform about1 = true :=
  (Spec.applies_iff w_frames).mpr ⟨w_running, w_runnable, w_alone, w_named, w_hears, w_ripe, w_room, w_tables⟩
theorem atStart : AtStart classFile x code maxLocals ret World_1 tables_1 room_1 Calls_1 rest_1 Pre_1 launch0 p0 e0 about1 theMethod args0 below0 :=
  ⟨lists_1, trivial, launch0.admits_env _ _ _, launch0.least_env, fairChoices_fair.cas, fairChoices_fair.clock, w_frames, w_args, w_heap, w_applies, trivial, trivial, w_case⟩
end start1
theorem witness_1 : WitnessClaimed_1 := ⟨start1.p0, start1.e0, start1.about1, start1.theMethod, start1.args0, start1.below0, start1.atStart⟩
end Jvm.Pilot.@@N@@
