import JvmDerived
import JvmDerived.Pilot.@@N@@Statement
import JvmDerived.Pilot.@@N@@Code
set_option linter.unusedVariables false
set_option linter.unusedSimpArgs false
set_option maxRecDepth 65536
set_option maxHeartbeats 40000000
namespace Jvm.Pilot.@@N@@
open Jvm Jvm.ClassFile Sem Op Lib Jvm.Free Jvm.Stand Jvm.LawKit Jvm.RoadKit Bundle Jvm.Pilot.@@N@@.Jvm.D
section OwnKit
variable {p : Program} {l : Launch} {e : Env} {R : Room} {s : State} {m : MethodId} {args : Array Value} {below : List Frame} {meth : Method} {c : Code} {T : State} {locs : List Loc} {cells slots : Nat}
/-- from here the run comes to an end that E allows -/
def own_Go (p : Program) (e : Env) (below : List Frame) (E : State → Prop) (S : State) : Prop := ∃ t, Steps p.tables e below S t ∧ E t
/-- the invocation has ended, with a value, a heap and a list of written places that Q allows -/
def own_End (s : State) (below : List Frame) (Q : Option Value → Heap → List Loc → Prop) (C N : Nat) (t : State) : Prop :=
  t.status = .running ∧ ∃ v L, Ended t below (.returned v) ∧ Q v t.heap L ∧ FrameEnd s (.returned v) t L C N
/-- the walk stands here, with this heap, having written only what is new -/
def own_At (p : Program) (l : Launch) (e : Env) (R : Room) (s : State) (m : MethodId) (args : Array Value) (below : List Frame) (meth : Method) (c : Code) (n0 : Nat) (T : State) (h : Heap) (cells slots : Nat) : Prop :=
  ∃ locs, Stand p l e R s m args below meth c T locs cells slots ∧ Fr n0 locs ∧ T.heap = h
theorem own_by {E : State → Prop} {S S' : State} (k : ∀ t, Steps p.tables e below S' t → Steps p.tables e below S t) (h : own_Go p e below E S') : own_Go p e below E S :=
  h.imp fun t q => ⟨k t q.1, q.2⟩
theorem own_tr {E : State → Prop} {S S' : State} (k : Steps p.tables e below S S') (h : own_Go p e below E S') : own_Go p e below E S :=
  h.imp fun t q => ⟨k.trans q.1, q.2⟩
theorem own_mono {E E' : State → Prop} {S : State} (k : ∀ t, E t → E' t) (h : own_Go p e below E S) : own_Go p e below E' S := h.imp fun t q => ⟨q.1, k t q.2⟩
theorem own_monoQ {Q Q' : Option Value → Heap → List Loc → Prop} {C N : Nat} {S : State} (k : ∀ v h L, Q v h L → Q' v h L) (h : own_Go p e below (own_End s below Q C N) S) : own_Go p e below (own_End s below Q' C N) S :=
  own_mono (fun t ⟨a, v, L, b, q, r⟩ => ⟨a, v, L, b, k _ _ _ q, r⟩) h
variable {Q : Option Value → Heap → List Loc → Prop} {C N : Nat} {h : Heap} {pc : Nat} {Ls : Array Slot} {rest : List Value}
theorem own_ret (X : Stand p l e R s m args below meth c T locs cells slots) (hx : p.tables.exec = Jvm.exec) (hlk : meth.locks = false) (eT : T.heap = h) {w : Value} {t : FieldType} {i : Instr} (hret : meth.sig.returnType = some t) (hn : narrow t w = w)
    (hi : (i = .ireturn ∧ (t = .int ∨ t = .boolean ∨ t = .byte ∨ t = .char ∨ t = .short) ∧ ∃ z, w = .int z) ∨ (i = .lreturn ∧ t = .long ∧ ∃ z, w = .long z) ∨ (i = .dreturn ∧ t = .double ∧ ∃ z, w = .double z) ∨ (i = .freturn ∧ t = .float ∧ ∃ z, w = .float z) ∨ (i = .areturn ∧ t.isReference = true ∧ w.isRef = true))
    (hd : decode c.code pc = .ok (i, 1)) (hc : cells ≤ C) (hs : slots ≤ N) (hQ : Q (some w) h locs) : own_Go p e below (own_End s below Q C N) (T.setTop (mkF m pc Ls (w :: rest))) := by
  obtain ⟨fs, hr, hrun, hended, hW, hsame⟩ := X.leave (v := some w) (fun q => by rw [hret] at q; cases q) hlk
  subst eT
  exact ⟨_, retOut X hx hret hn hi hd hr, hrun, _, _, hended, hQ, ⟨_, rfl⟩, hW, hsame.mono hc hs⟩
theorem own_retI (X : Stand p l e R s m args below meth c T locs cells slots) (hx : p.tables.exec = Jvm.exec) (hlk : meth.locks = false) (eT : T.heap = h) {z : Int32} (hret : meth.sig.returnType = some .int) (hd : decode c.code pc = .ok (.ireturn, 1)) (hc : cells ≤ C) (hs : slots ≤ N) (hQ : Q (some (.int z)) h locs) :
    own_Go p e below (own_End s below Q C N) (T.setTop (mkF m pc Ls (.int z :: rest))) := own_ret X hx hlk eT hret rfl (Or.inl ⟨rfl, Or.inl rfl, _, rfl⟩) hd hc hs hQ
theorem own_retZ (X : Stand p l e R s m args below meth c T locs cells slots) (hx : p.tables.exec = Jvm.exec) (hlk : meth.locks = false) (eT : T.heap = h) {z : Int32} (hz : z = 0 ∨ z = 1) (hret : meth.sig.returnType = some .boolean) (hd : decode c.code pc = .ok (.ireturn, 1)) (hc : cells ≤ C) (hs : slots ≤ N) (hQ : Q (some (.int z)) h locs) :
    own_Go p e below (own_End s below Q C N) (T.setTop (mkF m pc Ls (.int z :: rest))) := own_ret X hx hlk eT hret (by rcases hz with rfl | rfl <;> rfl) (Or.inl ⟨rfl, Or.inr (Or.inl rfl), _, rfl⟩) hd hc hs hQ
theorem own_retJ (X : Stand p l e R s m args below meth c T locs cells slots) (hx : p.tables.exec = Jvm.exec) (hlk : meth.locks = false) (eT : T.heap = h) {z : Int64} (hret : meth.sig.returnType = some .long) (hd : decode c.code pc = .ok (.lreturn, 1)) (hc : cells ≤ C) (hs : slots ≤ N) (hQ : Q (some (.long z)) h locs) :
    own_Go p e below (own_End s below Q C N) (T.setTop (mkF m pc Ls (.long z :: rest))) := own_ret X hx hlk eT hret rfl (Or.inr (Or.inl ⟨rfl, rfl, _, rfl⟩)) hd hc hs hQ
theorem own_retD (X : Stand p l e R s m args below meth c T locs cells slots) (hx : p.tables.exec = Jvm.exec) (hlk : meth.locks = false) (eT : T.heap = h) {z : UInt64} (hret : meth.sig.returnType = some .double) (hd : decode c.code pc = .ok (.dreturn, 1)) (hc : cells ≤ C) (hs : slots ≤ N) (hQ : Q (some (.double z)) h locs) :
    own_Go p e below (own_End s below Q C N) (T.setTop (mkF m pc Ls (.double z :: rest))) := own_ret X hx hlk eT hret rfl (Or.inr (Or.inr (Or.inl ⟨rfl, rfl, _, rfl⟩))) hd hc hs hQ
theorem own_retR (X : Stand p l e R s m args below meth c T locs cells slots) (hx : p.tables.exec = Jvm.exec) (hlk : meth.locks = false) (eT : T.heap = h) {w : Value} {t : FieldType} (hw : w.isRef = true) (ht : t.isReference = true) (hret : meth.sig.returnType = some t) (hd : decode c.code pc = .ok (.areturn, 1)) (hc : cells ≤ C) (hs : slots ≤ N) (hQ : Q (some w) h locs) :
    own_Go p e below (own_End s below Q C N) (T.setTop (mkF m pc Ls (w :: rest))) := own_ret X hx hlk eT hret (by cases t <;> first | (cases ht; done) | (cases w <;> first | rfl | cases hw)) (Or.inr (Or.inr (Or.inr (Or.inr ⟨rfl, ht, hw⟩)))) hd hc hs hQ
theorem own_retV (X : Stand p l e R s m args below meth c T locs cells slots) (hx : p.tables.exec = Jvm.exec) (hlk : meth.locks = false) (eT : T.heap = h) (hret : meth.sig.returnType = none) (hd : decode c.code pc = .ok (.return_, 1)) (hc : cells ≤ C) (hs : slots ≤ N) (hQ : Q none h locs) :
    own_Go p e below (own_End s below Q C N) (T.setTop (mkF m pc Ls [])) := by
  obtain ⟨fs, hr, hrun, hended, hW, hsame⟩ := X.leave (v := none) (fun _ => rfl) hlk
  subst eT
  exact ⟨_, X.returnOut hx hret hd hr, hrun, _, _, hended, hQ, ⟨_, rfl⟩, hW, hsame.mono hc hs⟩
end OwnKit

theorem own_pd0 : parseMethodDescriptor "()V" = some ⟨[], none⟩ := by decide +kernel
theorem own_pd1 : parseMethodDescriptor "()D" = some ⟨[], some .double⟩ := by decide +kernel
theorem own_pd2 : parseMethodDescriptor "(IIDD)D" = some ⟨[.int, .int, .double, .double], some .double⟩ := by decide +kernel
theorem own_pd3 : parseMethodDescriptor "(DD)V" = some ⟨[.double, .double], none⟩ := by decide +kernel
theorem own_pd4 : parseMethodDescriptor "()Z" = some ⟨[], some .boolean⟩ := by decide +kernel
theorem own_d5_0 : decode jdk_30_method_1_code 0 = .ok (.aload_n 0, 1) := by decide +kernel
theorem own_d5_1 : decode jdk_30_method_1_code 1 = .ok (.invokespecial 1, 3) := by decide +kernel
theorem own_d5_4 : decode jdk_30_method_1_code 4 = .ok (.return_, 1) := by decide +kernel
theorem own_pn5 : plainName "java/lang/Record" = true := by first | (simp [plainName, overriddenIn]; done) | decide +kernel
theorem own_ef5 (m : MethodId) (x0 : Addr) : entryFrame m #[(.ref x0)] 1 = mkF m 0 #[.val (.ref x0)] [] := by first | (simp [entryFrame, mkF, argsToLocals, Value.category]; done) | rfl
def own_Q5 (Z : State) (ax : Addr) (h0 : Heap) (n0 : Nat) (v : Option Value) (h : Heap) (L : List Loc) : Prop := v = none ∧ Fr n0 L ∧ h = h0
theorem own_rm5 (l : Launch) (Z : State) (a0 : Array Value) (hw : ∀ d ∈ tables_1, d.before a0 Z = true) (ws : List Jvm.Cond) (ax : Addr) (h0 : Heap) (n0 : Nat) (Z0 : n0 ≤ h0.size) :
    MetFree l (⟨"java/lang/Record", "<init>", "()V"⟩ : MethodName) (head1 (Jvm.Cond.code (⟨"java/lang/Record", "<init>", "()V"⟩ : MethodName) jdk_30_method_1_code 1 none :: ws) ({ frames := 1, cells := 0, slots := 0, locals := 12 } : Room)) (fun a U => a = #[(.ref ax)] ∧ Z.Warmed39 U.vm ∧ U.heap = h0) (fun _ _ _ _ _ => True) (fun _ U o U' => ∃ v L, o = .returned v ∧ own_Q5 Z ax h0 n0 v U'.heap L ∧ FrameEnd U o U' L ({ frames := 1, cells := 0, slots := 0, locals := 12 } : Room).cells ({ frames := 1, cells := 0, slots := 0, locals := 12 } : Room).slots) := by
  refine MetFree.of_bodySF (plainFor_of_name own_pn5) hisR ?_
  intro p e s m args below meth c s₁ Bd hml0 hP hK
  obtain ⟨rfl, hZ, hh⟩ := hP
  have hx := Bd.exec
  have hby := Bd.bytes
  have hlk := Bd.notSynchronized
  have hret := Bd.returns
  have hml : c.maxLocals = 1 := hml0
  have hown : s.vm.findClass "java/lang/Record" = some m.cls := findClass_of_methodNamed Bd.named
  have hnm := (name_of_methodNamed Bd.named Bd.method).1
  have X0 : Stand p l e ({ frames := 1, cells := 0, slots := 0, locals := 12 } : Room) s m #[(.ref ax)] below meth c s₁ [] 0 0 := Stand.of_body Bd
  have e0 : s₁.heap = h0 := by rw [← hh, Bd.state]; rfl
  have N0 := Fr.nil n0
  suffices key : own_Go p e below (own_End s below (own_Q5 Z ax h0 n0) ({ frames := 1, cells := 0, slots := 0, locals := 12 } : Room).cells ({ frames := 1, cells := 0, slots := 0, locals := 12 } : Room).slots) (s₁.setTop (mkF m 0 #[.val (.ref ax)] [])) by
    obtain ⟨t, k1, k2, v, L, k3, k4, k5⟩ := key
    exact ⟨t, _, castTop (own_ef5 m ax) k1, k2, k3, v, L, rfl, k4, k5⟩
  show own_Go p e below _ (s₁.setTop (mkF m 0 #[.val (.ref ax)] []))
  refine own_by (fun _ => XS.aloadN X0.here hx rfl (hb hby own_d5_0) rfl rfl) ?_
  show own_Go p e below _ (s₁.setTop (mkF m 1 #[.val (.ref ax)] [(.ref ax)]))
  obtain ⟨T1, X1, e1, st1⟩ := initO X0 hx hZ hown (hw _ (List.mem_of_getElem? (i := 31) rfl)) (hw _ (List.mem_of_getElem? (i := 32) rfl)) (hw _ (List.mem_of_getElem? (i := 33) rfl)) e0 (g := (mkF m 1 #[.val (.ref ax)] [(.ref ax)])) rfl (by rw [hml]; rfl) rfl (hb hby own_d5_1) (by decide) (W := 0) (by show 2 * 0 + _ ≤ _; exact Nat.le_of_eq rfl) (by decide)
  refine own_by st1 ?_
  show own_Go p e below _ (T1.setTop (mkF m 4 #[.val (.ref ax)] []))
  exact own_retV X1 hx hlk e1 hret (hb hby own_d5_4) (by decide) (by decide) ⟨rfl, N0, rfl⟩

theorem own_d1_0 : decode prog_4_method_9_code 0 = .ok (.aload_n 0, 1) := by decide +kernel
theorem own_d1_1 : decode prog_4_method_9_code 1 = .ok (.getfield 7, 3) := by decide +kernel
theorem own_d1_4 : decode prog_4_method_9_code 4 = .ok (.dreturn, 1) := by decide +kernel
theorem own_pn1 : plainName "com/example/composiq/composiq/Bound" = true := by first | (simp [plainName, overriddenIn]; done) | decide +kernel
theorem own_ef1 (m : MethodId) (x0 : Addr) : entryFrame m #[(.ref x0)] 1 = mkF m 0 #[.val (.ref x0)] [] := by first | (simp [entryFrame, mkF, argsToLocals, Value.category]; done) | rfl
def own_Q1 (Z : State) (ax : Addr) (ua : UInt64) (h0 : Heap) (n0 : Nat) (v : Option Value) (h : Heap) (L : List Loc) : Prop := v = some (.double ua) ∧ Fr n0 L ∧ h = h0
theorem own_rm1 (l : Launch) (Z : State) (a0 : Array Value) (hw : ∀ d ∈ tables_1, d.before a0 Z = true) (ws : List Jvm.Cond) (ax : Addr) (ua : UInt64) (h0 : Heap) (n0 : Nat) (Z0 : n0 ≤ h0.size) (pf0 : Fld Z h0 ax "com/example/composiq/composiq/Bound" "min" "D" (.double ua)) :
    MetFree l (⟨"com/example/composiq/composiq/Bound", "min", "()D"⟩ : MethodName) (head1 (Jvm.Cond.code (⟨"com/example/composiq/composiq/Bound", "min", "()D"⟩ : MethodName) prog_4_method_9_code 1 (some .double) :: ws) ({ frames := 0, cells := 0, slots := 0, locals := 0 } : Room)) (fun a U => a = #[(.ref ax)] ∧ Z.Warmed39 U.vm ∧ U.heap = h0) (fun _ _ _ _ _ => True) (fun _ U o U' => ∃ v L, o = .returned v ∧ own_Q1 Z ax ua h0 n0 v U'.heap L ∧ FrameEnd U o U' L ({ frames := 0, cells := 0, slots := 0, locals := 0 } : Room).cells ({ frames := 0, cells := 0, slots := 0, locals := 0 } : Room).slots) := by
  refine MetFree.of_bodySF (plainFor_of_name own_pn1) hisR ?_
  intro p e s m args below meth c s₁ Bd hml0 hP hK
  obtain ⟨rfl, hZ, hh⟩ := hP
  have hx := Bd.exec
  have hby := Bd.bytes
  have hlk := Bd.notSynchronized
  have hret := Bd.returns
  have hml : c.maxLocals = 1 := hml0
  have hown : s.vm.findClass "com/example/composiq/composiq/Bound" = some m.cls := findClass_of_methodNamed Bd.named
  have hnm := (name_of_methodNamed Bd.named Bd.method).1
  have X0 : Stand p l e ({ frames := 0, cells := 0, slots := 0, locals := 0 } : Room) s m #[(.ref ax)] below meth c s₁ [] 0 0 := Stand.of_body Bd
  have e0 : s₁.heap = h0 := by rw [← hh, Bd.state]; rfl
  have N0 := Fr.nil n0
  suffices key : own_Go p e below (own_End s below (own_Q1 Z ax ua h0 n0) ({ frames := 0, cells := 0, slots := 0, locals := 0 } : Room).cells ({ frames := 0, cells := 0, slots := 0, locals := 0 } : Room).slots) (s₁.setTop (mkF m 0 #[.val (.ref ax)] [])) by
    obtain ⟨t, k1, k2, v, L, k3, k4, k5⟩ := key
    exact ⟨t, _, castTop (own_ef1 m ax) k1, k2, k3, v, L, rfl, k4, k5⟩
  show own_Go p e below _ (s₁.setTop (mkF m 0 #[.val (.ref ax)] []))
  refine own_by (fun _ => XS.aloadN X0.here hx rfl (hb hby own_d1_0) rfl rfl) ?_
  show own_Go p e below _ (s₁.setTop (mkF m 1 #[.val (.ref ax)] [(.ref ax)]))
  obtain ⟨T1, X1, e1, st1⟩ := getF X0 hx hZ hown (host := "") (Or.inl (hw _ (List.mem_of_getElem? (i := 8) rfl))) Via.refl e0 pf0 (g := (mkF m 1 #[.val (.ref ax)] [(.ref ax)])) rfl rfl (hb hby own_d1_1)
  refine own_by st1 ?_
  show own_Go p e below _ (T1.setTop (mkF m 4 #[.val (.ref ax)] [(.double ua)]))
  exact own_retD X1 hx hlk e1 hret (hb hby own_d1_4) (by decide) (by decide) ⟨rfl, N0, rfl⟩

theorem own_d2_0 : decode prog_4_method_10_code 0 = .ok (.aload_n 0, 1) := by decide +kernel
theorem own_d2_1 : decode prog_4_method_10_code 1 = .ok (.getfield 13, 3) := by decide +kernel
theorem own_d2_4 : decode prog_4_method_10_code 4 = .ok (.dreturn, 1) := by decide +kernel
theorem own_pn2 : plainName "com/example/composiq/composiq/Bound" = true := by first | (simp [plainName, overriddenIn]; done) | decide +kernel
theorem own_ef2 (m : MethodId) (x0 : Addr) : entryFrame m #[(.ref x0)] 1 = mkF m 0 #[.val (.ref x0)] [] := by first | (simp [entryFrame, mkF, argsToLocals, Value.category]; done) | rfl
def own_Q2 (Z : State) (ax : Addr) (ua : UInt64) (h0 : Heap) (n0 : Nat) (v : Option Value) (h : Heap) (L : List Loc) : Prop := v = some (.double ua) ∧ Fr n0 L ∧ h = h0
theorem own_rm2 (l : Launch) (Z : State) (a0 : Array Value) (hw : ∀ d ∈ tables_1, d.before a0 Z = true) (ws : List Jvm.Cond) (ax : Addr) (ua : UInt64) (h0 : Heap) (n0 : Nat) (Z0 : n0 ≤ h0.size) (pf0 : Fld Z h0 ax "com/example/composiq/composiq/Bound" "max" "D" (.double ua)) :
    MetFree l (⟨"com/example/composiq/composiq/Bound", "max", "()D"⟩ : MethodName) (head1 (Jvm.Cond.code (⟨"com/example/composiq/composiq/Bound", "max", "()D"⟩ : MethodName) prog_4_method_10_code 1 (some .double) :: ws) ({ frames := 0, cells := 0, slots := 0, locals := 0 } : Room)) (fun a U => a = #[(.ref ax)] ∧ Z.Warmed39 U.vm ∧ U.heap = h0) (fun _ _ _ _ _ => True) (fun _ U o U' => ∃ v L, o = .returned v ∧ own_Q2 Z ax ua h0 n0 v U'.heap L ∧ FrameEnd U o U' L ({ frames := 0, cells := 0, slots := 0, locals := 0 } : Room).cells ({ frames := 0, cells := 0, slots := 0, locals := 0 } : Room).slots) := by
  refine MetFree.of_bodySF (plainFor_of_name own_pn2) hisR ?_
  intro p e s m args below meth c s₁ Bd hml0 hP hK
  obtain ⟨rfl, hZ, hh⟩ := hP
  have hx := Bd.exec
  have hby := Bd.bytes
  have hlk := Bd.notSynchronized
  have hret := Bd.returns
  have hml : c.maxLocals = 1 := hml0
  have hown : s.vm.findClass "com/example/composiq/composiq/Bound" = some m.cls := findClass_of_methodNamed Bd.named
  have hnm := (name_of_methodNamed Bd.named Bd.method).1
  have X0 : Stand p l e ({ frames := 0, cells := 0, slots := 0, locals := 0 } : Room) s m #[(.ref ax)] below meth c s₁ [] 0 0 := Stand.of_body Bd
  have e0 : s₁.heap = h0 := by rw [← hh, Bd.state]; rfl
  have N0 := Fr.nil n0
  suffices key : own_Go p e below (own_End s below (own_Q2 Z ax ua h0 n0) ({ frames := 0, cells := 0, slots := 0, locals := 0 } : Room).cells ({ frames := 0, cells := 0, slots := 0, locals := 0 } : Room).slots) (s₁.setTop (mkF m 0 #[.val (.ref ax)] [])) by
    obtain ⟨t, k1, k2, v, L, k3, k4, k5⟩ := key
    exact ⟨t, _, castTop (own_ef2 m ax) k1, k2, k3, v, L, rfl, k4, k5⟩
  show own_Go p e below _ (s₁.setTop (mkF m 0 #[.val (.ref ax)] []))
  refine own_by (fun _ => XS.aloadN X0.here hx rfl (hb hby own_d2_0) rfl rfl) ?_
  show own_Go p e below _ (s₁.setTop (mkF m 1 #[.val (.ref ax)] [(.ref ax)]))
  obtain ⟨T1, X1, e1, st1⟩ := getF X0 hx hZ hown (host := "") (Or.inl (hw _ (List.mem_of_getElem? (i := 15) rfl))) Via.refl e0 pf0 (g := (mkF m 1 #[.val (.ref ax)] [(.ref ax)])) rfl rfl (hb hby own_d2_1)
  refine own_by st1 ?_
  show own_Go p e below _ (T1.setTop (mkF m 4 #[.val (.ref ax)] [(.double ua)]))
  exact own_retD X1 hx hlk e1 hret (hb hby own_d2_4) (by decide) (by decide) ⟨rfl, N0, rfl⟩

theorem own_d3_0 : decode method_3_code 0 = .ok (.iload_n 0, 1) := by decide +kernel
theorem own_d3_1 : decode method_3_code 1 = .ok (.iconst 3, 1) := by decide +kernel
theorem own_d3_2 : decode method_3_code 2 = .ok (.iand, 1) := by decide +kernel
theorem own_d3_3 : decode method_3_code 3 = .ok (.istore 6, 2) := by decide +kernel
theorem own_d3_5 : decode method_3_code 5 = .ok (.iload 6, 2) := by decide +kernel
theorem own_d3_7 : decode method_3_code 7 = .ok (.ifCond .ne 5, 3) := by decide +kernel
theorem own_d3_10 : decode method_3_code 10 = .ok (.dload_n 2, 1) := by decide +kernel
theorem own_d3_11 : decode method_3_code 11 = .ok (.dreturn, 1) := by decide +kernel
theorem own_d3_12 : decode method_3_code 12 = .ok (.iload 6, 2) := by decide +kernel
theorem own_d3_14 : decode method_3_code 14 = .ok (.iconst 1, 1) := by decide +kernel
theorem own_d3_15 : decode method_3_code 15 = .ok (.if_icmp .ne 6, 3) := by decide +kernel
theorem own_d3_18 : decode method_3_code 18 = .ok (.dload 4, 2) := by decide +kernel
theorem own_d3_20 : decode method_3_code 20 = .ok (.dreturn, 1) := by decide +kernel
theorem own_d3_21 : decode method_3_code 21 = .ok (.iload_n 1, 1) := by decide +kernel
theorem own_d3_22 : decode method_3_code 22 = .ok (.i2d, 1) := by decide +kernel
theorem own_d3_23 : decode method_3_code 23 = .ok (.dreturn, 1) := by decide +kernel
def own_pick (xa : Int32) (xb : Int32) (da : UInt64) (db : UInt64) : UInt64 := (if (xa &&& (3 : Int32)) = (0 : Int32) then da else (if (xa &&& (3 : Int32)) = (1 : Int32) then db else (FP.i2d xb)))
theorem own_pn3 : plainName "com/example/composiq/composiq/BoundIsLimitedPinLaw" = true := by first | (simp [plainName, overriddenIn]; done) | decide +kernel
theorem own_ef3 (m : MethodId) (x0 : Int32) (x1 : Int32) (x2 : UInt64) (x3 : UInt64) : entryFrame m #[(.int x0), (.int x1), (.double x2), (.double x3)] 7 = mkF m 0 #[.val (.int x0), .val (.int x1), .val (.double x2), .second, .val (.double x3), .second, .unset] [] := by first | (simp [entryFrame, mkF, argsToLocals, Value.category]; done) | rfl
def own_Q3 (Z : State) (xa : Int32) (xb : Int32) (da : UInt64) (db : UInt64) (h0 : Heap) (n0 : Nat) (v : Option Value) (h : Heap) (L : List Loc) : Prop := v = some (.double (own_pick xa xb da db)) ∧ Fr n0 L ∧ h = h0
theorem own_rm3 (l : Launch) (Z : State) (a0 : Array Value) (hw : ∀ d ∈ tables_1, d.before a0 Z = true) (ws : List Jvm.Cond) (xa : Int32) (xb : Int32) (da : UInt64) (db : UInt64) (h0 : Heap) (n0 : Nat) (Z0 : n0 ≤ h0.size) :
    MetFree l (⟨"com/example/composiq/composiq/BoundIsLimitedPinLaw", "pick", "(IIDD)D"⟩ : MethodName) (head1 (Jvm.Cond.code (⟨"com/example/composiq/composiq/BoundIsLimitedPinLaw", "pick", "(IIDD)D"⟩ : MethodName) method_3_code 7 (some .double) :: ws) ({ frames := 0, cells := 0, slots := 0, locals := 0 } : Room)) (fun a U => a = #[(.int xa), (.int xb), (.double da), (.double db)] ∧ Z.Warmed39 U.vm ∧ U.heap = h0) (fun _ _ _ _ _ => True) (fun _ U o U' => ∃ v L, o = .returned v ∧ own_Q3 Z xa xb da db h0 n0 v U'.heap L ∧ FrameEnd U o U' L ({ frames := 0, cells := 0, slots := 0, locals := 0 } : Room).cells ({ frames := 0, cells := 0, slots := 0, locals := 0 } : Room).slots) := by
  refine MetFree.of_bodySF (plainFor_of_name own_pn3) hisR ?_
  intro p e s m args below meth c s₁ Bd hml0 hP hK
  obtain ⟨rfl, hZ, hh⟩ := hP
  have hx := Bd.exec
  have hby := Bd.bytes
  have hlk := Bd.notSynchronized
  have hret := Bd.returns
  have hml : c.maxLocals = 7 := hml0
  have hown : s.vm.findClass "com/example/composiq/composiq/BoundIsLimitedPinLaw" = some m.cls := findClass_of_methodNamed Bd.named
  have hnm := (name_of_methodNamed Bd.named Bd.method).1
  have X0 : Stand p l e ({ frames := 0, cells := 0, slots := 0, locals := 0 } : Room) s m #[(.int xa), (.int xb), (.double da), (.double db)] below meth c s₁ [] 0 0 := Stand.of_body Bd
  have e0 : s₁.heap = h0 := by rw [← hh, Bd.state]; rfl
  have N0 := Fr.nil n0
  suffices key : own_Go p e below (own_End s below (own_Q3 Z xa xb da db h0 n0) ({ frames := 0, cells := 0, slots := 0, locals := 0 } : Room).cells ({ frames := 0, cells := 0, slots := 0, locals := 0 } : Room).slots) (s₁.setTop (mkF m 0 #[.val (.int xa), .val (.int xb), .val (.double da), .second, .val (.double db), .second, .unset] [])) by
    obtain ⟨t, k1, k2, v, L, k3, k4, k5⟩ := key
    exact ⟨t, _, castTop (own_ef3 m xa xb da db) k1, k2, k3, v, L, rfl, k4, k5⟩
  show own_Go p e below _ (s₁.setTop (mkF m 0 #[.val (.int xa), .val (.int xb), .val (.double da), .second, .val (.double db), .second, .unset] []))
  refine own_by (fun _ => XS.iloadN X0.here hx rfl (hb hby own_d3_0) rfl) ?_
  show own_Go p e below _ (s₁.setTop (mkF m 1 #[.val (.int xa), .val (.int xb), .val (.double da), .second, .val (.double db), .second, .unset] [(.int xa)]))
  refine own_by (fun _ => XS.iconst X0.here hx rfl (hb hby own_d3_1)) ?_
  show own_Go p e below _ (s₁.setTop (mkF m 2 #[.val (.int xa), .val (.int xb), .val (.double da), .second, .val (.double db), .second, .unset] [(.int (3 : Int32)), (.int xa)]))
  refine own_by (fun _ => XS.iand X0.here hx rfl (hb hby own_d3_2) rfl) ?_
  show own_Go p e below _ (s₁.setTop (mkF m 3 #[.val (.int xa), .val (.int xb), .val (.double da), .second, .val (.double db), .second, .unset] [(.int (xa &&& (3 : Int32)))]))
  refine own_by (fun _ => XS.istore X0.here hx rfl (hb hby own_d3_3) rfl (l' := #[.val (.int xa), .val (.int xb), .val (.double da), .second, .val (.double db), .second, .val (.int (xa &&& (3 : Int32)))]) rfl) ?_
  show own_Go p e below _ (s₁.setTop (mkF m 5 #[.val (.int xa), .val (.int xb), .val (.double da), .second, .val (.double db), .second, .val (.int (xa &&& (3 : Int32)))] []))
  refine own_by (fun _ => XS.iload X0.here hx rfl (hb hby own_d3_5) rfl) ?_
  show own_Go p e below _ (s₁.setTop (mkF m 7 #[.val (.int xa), .val (.int xb), .val (.double da), .second, .val (.double db), .second, .val (.int (xa &&& (3 : Int32)))] [(.int (xa &&& (3 : Int32)))]))
  by_cases hc7_1 : (xa &&& (3 : Int32)) = (0 : Int32)
  ·
    skip
    refine own_by (fun _ => XS.ifNo X0.here hx rfl (hb hby own_d3_7) rfl ((if0 _ _).trans (teq hc7_1).2)) ?_
    show own_Go p e below _ (s₁.setTop (mkF m 10 #[.val (.int xa), .val (.int xb), .val (.double da), .second, .val (.double db), .second, .val (.int (xa &&& (3 : Int32)))] []))
    refine own_by (fun _ => XS.dloadN X0.here hx rfl (hb hby own_d3_10) rfl) ?_
    show own_Go p e below _ (s₁.setTop (mkF m 11 #[.val (.int xa), .val (.int xb), .val (.double da), .second, .val (.double db), .second, .val (.int (xa &&& (3 : Int32)))] [(.double da)]))
    exact own_retD X0 hx hlk e0 hret (hb hby own_d3_11) (by decide) (by decide) ⟨(by first | with_reducible rfl | simp only [own_pick, if_pos hc7_1] | rfl), N0, rfl⟩
  ·
    skip
    refine own_by (fun _ => XS.ifYes X0.here hx rfl (pc0 := 7) (pc' := 12) rfl (hb hby own_d3_7) rfl ((if0 _ _).trans (feq hc7_1).2) (by decide) (by decide)) ?_
    show own_Go p e below _ (s₁.setTop (mkF m 12 #[.val (.int xa), .val (.int xb), .val (.double da), .second, .val (.double db), .second, .val (.int (xa &&& (3 : Int32)))] []))
    refine own_by (fun _ => XS.iload X0.here hx rfl (hb hby own_d3_12) rfl) ?_
    show own_Go p e below _ (s₁.setTop (mkF m 14 #[.val (.int xa), .val (.int xb), .val (.double da), .second, .val (.double db), .second, .val (.int (xa &&& (3 : Int32)))] [(.int (xa &&& (3 : Int32)))]))
    refine own_by (fun _ => XS.iconst X0.here hx rfl (hb hby own_d3_14)) ?_
    show own_Go p e below _ (s₁.setTop (mkF m 15 #[.val (.int xa), .val (.int xb), .val (.double da), .second, .val (.double db), .second, .val (.int (xa &&& (3 : Int32)))] [(.int (1 : Int32)), (.int (xa &&& (3 : Int32)))]))
    by_cases hc15_2 : (xa &&& (3 : Int32)) = (1 : Int32)
    ·
      skip
      refine own_by (fun _ => XS.icmpNo X0.here hx rfl (hb hby own_d3_15) rfl (teq hc15_2).2) ?_
      show own_Go p e below _ (s₁.setTop (mkF m 18 #[.val (.int xa), .val (.int xb), .val (.double da), .second, .val (.double db), .second, .val (.int (xa &&& (3 : Int32)))] []))
      refine own_by (fun _ => XS.dload X0.here hx rfl (hb hby own_d3_18) rfl) ?_
      show own_Go p e below _ (s₁.setTop (mkF m 20 #[.val (.int xa), .val (.int xb), .val (.double da), .second, .val (.double db), .second, .val (.int (xa &&& (3 : Int32)))] [(.double db)]))
      exact own_retD X0 hx hlk e0 hret (hb hby own_d3_20) (by decide) (by decide) ⟨(by first | with_reducible rfl | simp only [own_pick, if_neg hc7_1, if_pos hc15_2] | rfl), N0, rfl⟩
    ·
      skip
      refine own_by (fun _ => XS.icmpYes X0.here hx rfl (pc0 := 15) (pc' := 21) rfl (hb hby own_d3_15) rfl (feq hc15_2).2 (by decide) (by decide)) ?_
      show own_Go p e below _ (s₁.setTop (mkF m 21 #[.val (.int xa), .val (.int xb), .val (.double da), .second, .val (.double db), .second, .val (.int (xa &&& (3 : Int32)))] []))
      refine own_by (fun _ => XS.iloadN X0.here hx rfl (hb hby own_d3_21) rfl) ?_
      show own_Go p e below _ (s₁.setTop (mkF m 22 #[.val (.int xa), .val (.int xb), .val (.double da), .second, .val (.double db), .second, .val (.int (xa &&& (3 : Int32)))] [(.int xb)]))
      refine own_by (fun _ => XS.i2dS X0.here hx rfl (hb hby own_d3_22) rfl rfl) ?_
      show own_Go p e below _ (s₁.setTop (mkF m 23 #[.val (.int xa), .val (.int xb), .val (.double da), .second, .val (.double db), .second, .val (.int (xa &&& (3 : Int32)))] [(.double (FP.i2d xb))]))
      exact own_retD X0 hx hlk e0 hret (hb hby own_d3_23) (by decide) (by decide) ⟨(by first | with_reducible rfl | simp only [own_pick, if_neg hc7_1, if_neg hc15_2] | rfl), N0, rfl⟩

theorem own_d4_0 : decode prog_4_method_1_code 0 = .ok (.aload_n 0, 1) := by decide +kernel
theorem own_d4_1 : decode prog_4_method_1_code 1 = .ok (.invokespecial 1, 3) := by decide +kernel
theorem own_d4_4 : decode prog_4_method_1_code 4 = .ok (.aload_n 0, 1) := by decide +kernel
theorem own_d4_5 : decode prog_4_method_1_code 5 = .ok (.dload_n 1, 1) := by decide +kernel
theorem own_d4_6 : decode prog_4_method_1_code 6 = .ok (.putfield 7, 3) := by decide +kernel
theorem own_d4_9 : decode prog_4_method_1_code 9 = .ok (.aload_n 0, 1) := by decide +kernel
theorem own_d4_10 : decode prog_4_method_1_code 10 = .ok (.dload_n 3, 1) := by decide +kernel
theorem own_d4_11 : decode prog_4_method_1_code 11 = .ok (.putfield 13, 3) := by decide +kernel
theorem own_d4_14 : decode prog_4_method_1_code 14 = .ok (.return_, 1) := by decide +kernel
theorem own_pn4 : plainName "com/example/composiq/composiq/Bound" = true := by first | (simp [plainName, overriddenIn]; done) | decide +kernel
theorem own_ef4 (m : MethodId) (x0 : Addr) (x1 : UInt64) (x2 : UInt64) : entryFrame m #[(.ref x0), (.double x1), (.double x2)] 5 = mkF m 0 #[.val (.ref x0), .val (.double x1), .second, .val (.double x2), .second] [] := by first | (simp [entryFrame, mkF, argsToLocals, Value.category]; done) | rfl
def own_Q4 (Z : State) (ax : Addr) (da : UInt64) (db : UInt64) (ua : UInt64) (ub : UInt64) (h0 : Heap) (n0 : Nat) (v : Option Value) (h : Heap) (L : List Loc) : Prop := v = none ∧ Fr n0 L ∧ Keep h0 h [ax] ∧ Fld Z h ax "com/example/composiq/composiq/Bound" "min" "D" (.double da) ∧ Fld Z h ax "com/example/composiq/composiq/Bound" "max" "D" (.double db)
theorem own_rm4 (l : Launch) (Z : State) (a0 : Array Value) (hw : ∀ d ∈ tables_1, d.before a0 Z = true) (ws : List Jvm.Cond) (ax : Addr) (da : UInt64) (db : UInt64) (ua : UInt64) (ub : UInt64) (h0 : Heap) (n0 : Nat) (Z0 : n0 ≤ h0.size) (pf0 : Exa Z h0 ax "com/example/composiq/composiq/Bound") (pf1 : Fld Z h0 ax "com/example/composiq/composiq/Bound" "min" "D" (.double ua)) (pf2 : Fld Z h0 ax "com/example/composiq/composiq/Bound" "max" "D" (.double ub)) (pg_ax : n0 ≤ ax) :
    MetFree l (⟨"com/example/composiq/composiq/Bound", "<init>", "(DD)V"⟩ : MethodName) (head1 (Jvm.Cond.code (⟨"com/example/composiq/composiq/Bound", "<init>", "(DD)V"⟩ : MethodName) prog_4_method_1_code 5 none :: ws) ({ frames := 2, cells := 0, slots := 0, locals := 24 } : Room)) (fun a U => a = #[(.ref ax), (.double da), (.double db)] ∧ Z.Warmed39 U.vm ∧ U.heap = h0) (fun _ _ _ _ _ => True) (fun _ U o U' => ∃ v L, o = .returned v ∧ own_Q4 Z ax da db ua ub h0 n0 v U'.heap L ∧ FrameEnd U o U' L ({ frames := 2, cells := 0, slots := 0, locals := 24 } : Room).cells ({ frames := 2, cells := 0, slots := 0, locals := 24 } : Room).slots) := by
  refine MetFree.of_bodySF (plainFor_of_name own_pn4) hisR ?_
  intro p e s m args below meth c s₁ Bd hml0 hP hK
  obtain ⟨rfl, hZ, hh⟩ := hP
  have hx := Bd.exec
  have hby := Bd.bytes
  have hlk := Bd.notSynchronized
  have hret := Bd.returns
  have hml : c.maxLocals = 5 := hml0
  have hown : s.vm.findClass "com/example/composiq/composiq/Bound" = some m.cls := findClass_of_methodNamed Bd.named
  have hnm := (name_of_methodNamed Bd.named Bd.method).1
  have X0 : Stand p l e ({ frames := 2, cells := 0, slots := 0, locals := 24 } : Room) s m #[(.ref ax), (.double da), (.double db)] below meth c s₁ [] 0 0 := Stand.of_body Bd
  have e0 : s₁.heap = h0 := by rw [← hh, Bd.state]; rfl
  have N0 := Fr.nil n0
  suffices key : own_Go p e below (own_End s below (own_Q4 Z ax da db ua ub h0 n0) ({ frames := 2, cells := 0, slots := 0, locals := 24 } : Room).cells ({ frames := 2, cells := 0, slots := 0, locals := 24 } : Room).slots) (s₁.setTop (mkF m 0 #[.val (.ref ax), .val (.double da), .second, .val (.double db), .second] [])) by
    obtain ⟨t, k1, k2, v, L, k3, k4, k5⟩ := key
    exact ⟨t, _, castTop (own_ef4 m ax da db) k1, k2, k3, v, L, rfl, k4, k5⟩
  show own_Go p e below _ (s₁.setTop (mkF m 0 #[.val (.ref ax), .val (.double da), .second, .val (.double db), .second] []))
  refine own_by (fun _ => XS.aloadN X0.here hx rfl (hb hby own_d4_0) rfl rfl) ?_
  show own_Go p e below _ (s₁.setTop (mkF m 1 #[.val (.ref ax), .val (.double da), .second, .val (.double db), .second] [(.ref ax)]))
  obtain ⟨_, _, ⟨T1, L1, k1, n1⟩, -, X1, ⟨Lc1, hQ1, l1, y1, z1'⟩, st1⟩ := X0.specialBack hx (y := (⟨"java/lang/Record", "<init>", "()V"⟩ : MethodName)) rfl hown (mvT hZ (hw _ (List.mem_of_getElem? (i := 26) rfl))) (mvT hZ (hw _ (List.mem_of_getElem? (i := 27) rfl))) (mvT hZ (hw _ (List.mem_of_getElem? (i := 30) rfl))) (by decide) (backOf (W := 0) (own_rm5 l Z a0 hw [] ax h0 n0 Z0 ) hZ (hw _ (List.mem_of_getElem? (i := 30) rfl)) (hw _ (List.mem_of_getElem? (i := 29) rfl)) (by decide) (by decide)) (g := (mkF m 1 #[.val (.ref ax), .val (.double da), .second, .val (.double db), .second] [(.ref ax)])) rfl (by rw [hml]; rfl) (Steps.refl _) (a := ax) (argsL := []) (rest := []) (lenOf own_pd0 rfl) rfl (by show 2 * 0 + _ ≤ _; exact Nat.le_of_eq rfl) (hb hby own_d4_1) (fun _ _ => ⟨rfl, e0, (by decide : 0 + 0 ≤ _), (by decide : 0 + 0 ≤ _)⟩)
  dsimp only [Pt.U, Pt.locs, Pt.cells, Pt.slots] at X1 l1 y1 z1' st1 hQ1
  subst l1 y1 z1'
  obtain ⟨rfl, N1q, e1⟩ := hQ1
  have N1 := Fr.app N0 N1q
  refine own_tr st1 ?_
  show own_Go p e below _ (T1.setTop (mkF m 4 #[.val (.ref ax), .val (.double da), .second, .val (.double db), .second] []))
  refine own_by (fun _ => XS.aloadN X1.here hx rfl (hb hby own_d4_4) rfl rfl) ?_
  show own_Go p e below _ (T1.setTop (mkF m 5 #[.val (.ref ax), .val (.double da), .second, .val (.double db), .second] [(.ref ax)]))
  refine own_by (fun _ => XS.dloadN X1.here hx rfl (hb hby own_d4_5) rfl) ?_
  show own_Go p e below _ (T1.setTop (mkF m 6 #[.val (.ref ax), .val (.double da), .second, .val (.double db), .second] [(.double da), (.ref ax)]))
  obtain ⟨T2, h2, X2, e2, W2, st2⟩ := putF X1 hx hZ hown (host := "") (Or.inl (hw _ (List.mem_of_getElem? (i := 8) rfl))) Via.refl e1 pf1 pf0 (Or.inr ⟨(hw _ (List.mem_of_getElem? (i := 9) rfl)), rfl, hnm⟩) (hw _ (List.mem_of_getElem? (i := 22) rfl)) (ty := .double) (by decide) rfl rfl (g := (mkF m 6 #[.val (.ref ax), .val (.double da), .second, .val (.double db), .second] [(.double da), (.ref ax)])) rfl rfl (hb hby own_d4_6)
  refine own_by st2 ?_
  have fw2 : Fld Z h2 ax "com/example/composiq/composiq/Bound" "min" "D" (.double da) := pf1.same W2
  have z2 : n0 ≤ h2.size := Nat.le_trans Z0 (Keep.of_wr W2).1
  have N2 := Fr.snoc X2 N1 pg_ax
  have K2 : Keep h0 h2 [ax] := (Keep.refl h0 [ax]).wr W2 (Or.inl (List.mem_of_getElem? (i := 0) rfl))
  show own_Go p e below _ (T2.setTop (mkF m 9 #[.val (.ref ax), .val (.double da), .second, .val (.double db), .second] []))
  refine own_by (fun _ => XS.aloadN X2.here hx rfl (hb hby own_d4_9) rfl rfl) ?_
  show own_Go p e below _ (T2.setTop (mkF m 10 #[.val (.ref ax), .val (.double da), .second, .val (.double db), .second] [(.ref ax)]))
  refine own_by (fun _ => XS.dloadN X2.here hx rfl (hb hby own_d4_10) rfl) ?_
  show own_Go p e below _ (T2.setTop (mkF m 11 #[.val (.ref ax), .val (.double da), .second, .val (.double db), .second] [(.double db), (.ref ax)]))
  have f3 : Exa Z h2 ax "com/example/composiq/composiq/Bound" := (pf0.wr W2)
  have f4 : Fld Z h2 ax "com/example/composiq/composiq/Bound" "max" "D" (.double ub) := (pf2.other W2 (Or.inr (slot_ne (Or.inr (hw _ (List.mem_of_getElem? (i := 16) rfl))) (Or.inr (hw _ (List.mem_of_getElem? (i := 9) rfl))) (by decide) (t := .double) (t' := .double) (by decide) (by decide))))
  obtain ⟨T5, h5, X5, e5, W5, st5⟩ := putF X2 hx hZ hown (host := "") (Or.inl (hw _ (List.mem_of_getElem? (i := 15) rfl))) Via.refl e2 f4 f3 (Or.inr ⟨(hw _ (List.mem_of_getElem? (i := 16) rfl)), rfl, hnm⟩) (hw _ (List.mem_of_getElem? (i := 22) rfl)) (ty := .double) (by decide) rfl rfl (g := (mkF m 11 #[.val (.ref ax), .val (.double da), .second, .val (.double db), .second] [(.double db), (.ref ax)])) rfl rfl (hb hby own_d4_11)
  refine own_by st5 ?_
  have fw5 : Fld Z h5 ax "com/example/composiq/composiq/Bound" "max" "D" (.double db) := f4.same W5
  have z5 : n0 ≤ h5.size := Nat.le_trans z2 (Keep.of_wr W5).1
  have N5 := Fr.snoc X5 N2 pg_ax
  have K5 : Keep h0 h5 [ax] := K2.wr W5 (Or.inl (List.mem_of_getElem? (i := 0) rfl))
  show own_Go p e below _ (T5.setTop (mkF m 14 #[.val (.ref ax), .val (.double da), .second, .val (.double db), .second] []))
  have f6 : Fld Z h5 ax "com/example/composiq/composiq/Bound" "min" "D" (.double da) := (fw2.other W5 (Or.inr (slot_ne (Or.inr (hw _ (List.mem_of_getElem? (i := 9) rfl))) (Or.inr (hw _ (List.mem_of_getElem? (i := 16) rfl))) (by decide) (t := .double) (t' := .double) (by decide) (by decide))))
  exact own_retV X5 hx hlk e5 hret (hb hby own_d4_14) (by decide) (by decide) ⟨rfl, N5, K5, f6, fw5⟩

theorem own_d7_0 : decode prog_4_method_5_code 0 = .ok (.aload_n 0, 1) := by decide +kernel
theorem own_d7_1 : decode prog_4_method_5_code 1 = .ok (.getfield 7, 3) := by decide +kernel
theorem own_d7_4 : decode prog_4_method_5_code 4 = .ok (.ldc2_w 27, 3) := by decide +kernel
theorem own_d7_7 : decode prog_4_method_5_code 7 = .ok (.dcmp .l, 1) := by decide +kernel
theorem own_d7_8 : decode prog_4_method_5_code 8 = .ok (.ifCond .ne 14, 3) := by decide +kernel
theorem own_d7_11 : decode prog_4_method_5_code 11 = .ok (.aload_n 0, 1) := by decide +kernel
theorem own_d7_12 : decode prog_4_method_5_code 12 = .ok (.getfield 13, 3) := by decide +kernel
theorem own_d7_15 : decode prog_4_method_5_code 15 = .ok (.ldc2_w 29, 3) := by decide +kernel
theorem own_d7_18 : decode prog_4_method_5_code 18 = .ok (.dcmp .l, 1) := by decide +kernel
theorem own_d7_19 : decode prog_4_method_5_code 19 = .ok (.ifCond .eq 7, 3) := by decide +kernel
theorem own_d7_22 : decode prog_4_method_5_code 22 = .ok (.iconst 1, 1) := by decide +kernel
theorem own_d7_23 : decode prog_4_method_5_code 23 = .ok (.goto 4, 3) := by decide +kernel
theorem own_d7_26 : decode prog_4_method_5_code 26 = .ok (.iconst 0, 1) := by decide +kernel
theorem own_d7_27 : decode prog_4_method_5_code 27 = .ok (.ireturn, 1) := by decide +kernel
def own_limited (ua : UInt64) (ub : UInt64) : Int32 := (if (cmpValue (FP.dcmp ua (18442240474082181120 : UInt64)) .l) = (0 : Int32) then (if (cmpValue (FP.dcmp ub (9218868437227405312 : UInt64)) .l) = (0 : Int32) then (0 : Int32) else (1 : Int32)) else (1 : Int32))
theorem own_pn7 : plainName "com/example/composiq/composiq/Bound" = true := by first | (simp [plainName, overriddenIn]; done) | decide +kernel
theorem own_ef7 (m : MethodId) (x0 : Addr) : entryFrame m #[(.ref x0)] 1 = mkF m 0 #[.val (.ref x0)] [] := by first | (simp [entryFrame, mkF, argsToLocals, Value.category]; done) | rfl
def own_Q7 (Z : State) (ax : Addr) (ua : UInt64) (ub : UInt64) (h0 : Heap) (n0 : Nat) (v : Option Value) (h : Heap) (L : List Loc) : Prop := v = some (.int (own_limited ua ub)) ∧ Fr n0 L ∧ h = h0
theorem own_rm7 (l : Launch) (Z : State) (a0 : Array Value) (hw : ∀ d ∈ tables_1, d.before a0 Z = true) (ws : List Jvm.Cond) (ax : Addr) (ua : UInt64) (ub : UInt64) (h0 : Heap) (n0 : Nat) (Z0 : n0 ≤ h0.size) (pf0 : Fld Z h0 ax "com/example/composiq/composiq/Bound" "min" "D" (.double ua)) (pf1 : Fld Z h0 ax "com/example/composiq/composiq/Bound" "max" "D" (.double ub)) :
    MetFree l (⟨"com/example/composiq/composiq/Bound", "isLimited", "()Z"⟩ : MethodName) (head1 (Jvm.Cond.code (⟨"com/example/composiq/composiq/Bound", "isLimited", "()Z"⟩ : MethodName) prog_4_method_5_code 1 (some .boolean) :: ws) ({ frames := 0, cells := 0, slots := 0, locals := 0 } : Room)) (fun a U => a = #[(.ref ax)] ∧ Z.Warmed39 U.vm ∧ U.heap = h0) (fun _ _ _ _ _ => True) (fun _ U o U' => ∃ v L, o = .returned v ∧ own_Q7 Z ax ua ub h0 n0 v U'.heap L ∧ FrameEnd U o U' L ({ frames := 0, cells := 0, slots := 0, locals := 0 } : Room).cells ({ frames := 0, cells := 0, slots := 0, locals := 0 } : Room).slots) := by
  refine MetFree.of_bodySF (plainFor_of_name own_pn7) hisR ?_
  intro p e s m args below meth c s₁ Bd hml0 hP hK
  obtain ⟨rfl, hZ, hh⟩ := hP
  have hx := Bd.exec
  have hby := Bd.bytes
  have hlk := Bd.notSynchronized
  have hret := Bd.returns
  have hml : c.maxLocals = 1 := hml0
  have hown : s.vm.findClass "com/example/composiq/composiq/Bound" = some m.cls := findClass_of_methodNamed Bd.named
  have hnm := (name_of_methodNamed Bd.named Bd.method).1
  have X0 : Stand p l e ({ frames := 0, cells := 0, slots := 0, locals := 0 } : Room) s m #[(.ref ax)] below meth c s₁ [] 0 0 := Stand.of_body Bd
  have e0 : s₁.heap = h0 := by rw [← hh, Bd.state]; rfl
  have N0 := Fr.nil n0
  suffices key : own_Go p e below (own_End s below (own_Q7 Z ax ua ub h0 n0) ({ frames := 0, cells := 0, slots := 0, locals := 0 } : Room).cells ({ frames := 0, cells := 0, slots := 0, locals := 0 } : Room).slots) (s₁.setTop (mkF m 0 #[.val (.ref ax)] [])) by
    obtain ⟨t, k1, k2, v, L, k3, k4, k5⟩ := key
    exact ⟨t, _, castTop (own_ef7 m ax) k1, k2, k3, v, L, rfl, k4, k5⟩
  show own_Go p e below _ (s₁.setTop (mkF m 0 #[.val (.ref ax)] []))
  refine own_by (fun _ => XS.aloadN X0.here hx rfl (hb hby own_d7_0) rfl rfl) ?_
  show own_Go p e below _ (s₁.setTop (mkF m 1 #[.val (.ref ax)] [(.ref ax)]))
  obtain ⟨T1, X1, e1, st1⟩ := getF X0 hx hZ hown (host := "") (Or.inl (hw _ (List.mem_of_getElem? (i := 8) rfl))) Via.refl e0 pf0 (g := (mkF m 1 #[.val (.ref ax)] [(.ref ax)])) rfl rfl (hb hby own_d7_1)
  refine own_by st1 ?_
  show own_Go p e below _ (T1.setTop (mkF m 4 #[.val (.ref ax)] [(.double ua)]))
  refine own_by (X1.ldc2DoubleC hx hown (mvT hZ (hw _ (List.mem_of_getElem? (i := 39) rfl))) (g := (mkF m 4 #[.val (.ref ax)] [(.double ua)])) rfl (hb hby own_d7_4)) ?_
  show own_Go p e below _ (T1.setTop (mkF m 7 #[.val (.ref ax)] [(.double (18442240474082181120 : UInt64)), (.double ua)]))
  refine own_by (fun _ => XS.dcmpS X1.here hx rfl (hb hby own_d7_7) rfl rfl) ?_
  show own_Go p e below _ (T1.setTop (mkF m 8 #[.val (.ref ax)] [(.int (cmpValue (FP.dcmp ua (18442240474082181120 : UInt64)) .l))]))
  suffices J2 : ∀ (T' : State) (v2_t0 : Int32), v2_t0 = (if (cmpValue (FP.dcmp ua (18442240474082181120 : UInt64)) .l) = (0 : Int32) then (if (cmpValue (FP.dcmp ub (9218868437227405312 : UInt64)) .l) = (0 : Int32) then (0 : Int32) else (1 : Int32)) else (1 : Int32)) → own_At p l e ({ frames := 0, cells := 0, slots := 0, locals := 0 } : Room) s m #[(.ref ax)] below meth c n0 T' h0 0 0 → own_Go p e below (own_End s below (own_Q7 Z ax ua ub h0 n0) ({ frames := 0, cells := 0, slots := 0, locals := 0 } : Room).cells ({ frames := 0, cells := 0, slots := 0, locals := 0 } : Room).slots) (T'.setTop (mkF m 27 #[.val (.ref ax)] [(.int v2_t0)])) by
    by_cases hc8_3 : (cmpValue (FP.dcmp ua (18442240474082181120 : UInt64)) .l) = (0 : Int32)
    ·
      skip
      refine own_by (fun _ => XS.ifNo X1.here hx rfl (hb hby own_d7_8) rfl ((if0 _ _).trans (teq hc8_3).2)) ?_
      show own_Go p e below _ (T1.setTop (mkF m 11 #[.val (.ref ax)] []))
      refine own_by (fun _ => XS.aloadN X1.here hx rfl (hb hby own_d7_11) rfl rfl) ?_
      show own_Go p e below _ (T1.setTop (mkF m 12 #[.val (.ref ax)] [(.ref ax)]))
      obtain ⟨T4, X4, e4, st4⟩ := getF X1 hx hZ hown (host := "") (Or.inl (hw _ (List.mem_of_getElem? (i := 15) rfl))) Via.refl e1 pf1 (g := (mkF m 12 #[.val (.ref ax)] [(.ref ax)])) rfl rfl (hb hby own_d7_12)
      refine own_by st4 ?_
      show own_Go p e below _ (T4.setTop (mkF m 15 #[.val (.ref ax)] [(.double ub)]))
      refine own_by (X4.ldc2DoubleC hx hown (mvT hZ (hw _ (List.mem_of_getElem? (i := 40) rfl))) (g := (mkF m 15 #[.val (.ref ax)] [(.double ub)])) rfl (hb hby own_d7_15)) ?_
      show own_Go p e below _ (T4.setTop (mkF m 18 #[.val (.ref ax)] [(.double (9218868437227405312 : UInt64)), (.double ub)]))
      refine own_by (fun _ => XS.dcmpS X4.here hx rfl (hb hby own_d7_18) rfl rfl) ?_
      show own_Go p e below _ (T4.setTop (mkF m 19 #[.val (.ref ax)] [(.int (cmpValue (FP.dcmp ub (9218868437227405312 : UInt64)) .l))]))
      by_cases hc19_5 : (cmpValue (FP.dcmp ub (9218868437227405312 : UInt64)) .l) = (0 : Int32)
      ·
        skip
        refine own_by (fun _ => XS.ifYes X4.here hx rfl (pc0 := 19) (pc' := 26) rfl (hb hby own_d7_19) rfl ((if0 _ _).trans (teq hc19_5).1) (by decide) (by decide)) ?_
        show own_Go p e below _ (T4.setTop (mkF m 26 #[.val (.ref ax)] []))
        refine own_by (fun _ => XS.iconst X4.here hx rfl (hb hby own_d7_26)) ?_
        show own_Go p e below _ (T4.setTop (mkF m 27 #[.val (.ref ax)] [(.int (0 : Int32))]))
        exact J2 _ _ (by first | with_reducible rfl | simp only [if_pos hc8_3, if_pos hc19_5] | rfl) ⟨_, X4, N0, e4⟩
      ·
        skip
        refine own_by (fun _ => XS.ifNo X4.here hx rfl (hb hby own_d7_19) rfl ((if0 _ _).trans (feq hc19_5).1)) ?_
        show own_Go p e below _ (T4.setTop (mkF m 22 #[.val (.ref ax)] []))
        refine own_by (fun _ => XS.iconst X4.here hx rfl (hb hby own_d7_22)) ?_
        show own_Go p e below _ (T4.setTop (mkF m 23 #[.val (.ref ax)] [(.int (1 : Int32))]))
        refine own_by (fun _ => XS.goto X4.here hx rfl (pc0 := 23) (pc' := 27) rfl (hb hby own_d7_23) (by decide) (by decide)) ?_
        show own_Go p e below _ (T4.setTop (mkF m 27 #[.val (.ref ax)] [(.int (1 : Int32))]))
        exact J2 _ _ (by first | with_reducible rfl | simp only [if_pos hc8_3, if_neg hc19_5] | rfl) ⟨_, X4, N0, e4⟩
    ·
      skip
      refine own_by (fun _ => XS.ifYes X1.here hx rfl (pc0 := 8) (pc' := 22) rfl (hb hby own_d7_8) rfl ((if0 _ _).trans (feq hc8_3).2) (by decide) (by decide)) ?_
      show own_Go p e below _ (T1.setTop (mkF m 22 #[.val (.ref ax)] []))
      refine own_by (fun _ => XS.iconst X1.here hx rfl (hb hby own_d7_22)) ?_
      show own_Go p e below _ (T1.setTop (mkF m 23 #[.val (.ref ax)] [(.int (1 : Int32))]))
      refine own_by (fun _ => XS.goto X1.here hx rfl (pc0 := 23) (pc' := 27) rfl (hb hby own_d7_23) (by decide) (by decide)) ?_
      show own_Go p e below _ (T1.setTop (mkF m 27 #[.val (.ref ax)] [(.int (1 : Int32))]))
      exact J2 _ _ (by first | with_reducible rfl | simp only [if_neg hc8_3] | rfl) ⟨_, X1, N0, e1⟩
  intro T2 v2_t0 hv2_t0 ⟨locs2, X2, N2, e2⟩
  show own_Go p e below _ (T2.setTop (mkF m 27 #[.val (.ref ax)] [(.int v2_t0)]))
  exact own_retZ X2 hx hlk e2 (by rw [hv2_t0]; (repeat' split) <;> first | exact Or.inl rfl | exact Or.inr rfl) hret (hb hby own_d7_27) (by decide) (by decide) ⟨(by subst hv2_t0; first | with_reducible rfl | simp only [own_limited] | rfl), N2, rfl⟩

def own_law (xa : Int32) (xb : Int32) (xc : Int32) (xd : Int32) : Int32 := (if (own_limited (own_pick xa xb (18442240474082181120 : UInt64) (9218868437227405312 : UInt64)) (own_pick xc xd (18442240474082181120 : UInt64) (9218868437227405312 : UInt64))) = (if (if (xa &&& (3 : Int32)) = (0 : Int32) then (1 : Int32) else (0 : Int32)) = (0 : Int32) then (1 : Int32) else (if (if (xc &&& (3 : Int32)) = (1 : Int32) then (1 : Int32) else (0 : Int32)) = (0 : Int32) then (1 : Int32) else (0 : Int32))) then (1 : Int32) else (0 : Int32))
theorem own_fin (v : Int32) : Jvm.Free.Fl.Fin64 (FP.i2d v) := by rw [i2d_w]; exact Jvm.Free.Fl.l2d_fin _
theorem own_low (v : Int32) (o : CmpOp) : ¬ (cmpValue (FP.dcmp (FP.i2d v) (18442240474082181120 : UInt64)) o = (0 : Int32)) := by rw [dcmp_ninf (own_fin v)]; decide
theorem own_high (v : Int32) (o : CmpOp) : ¬ (cmpValue (FP.dcmp (FP.i2d v) (9218868437227405312 : UInt64)) o = (0 : Int32)) := by rw [dcmp_pinf (own_fin v)]; decide
theorem own_nn : cmpValue (FP.dcmp (18442240474082181120 : UInt64) (18442240474082181120 : UInt64)) .l = (0 : Int32) := by decide +kernel
theorem own_pp : cmpValue (FP.dcmp (9218868437227405312 : UInt64) (9218868437227405312 : UInt64)) .l = (0 : Int32) := by decide +kernel
theorem own_np : ¬ (cmpValue (FP.dcmp (18442240474082181120 : UInt64) (9218868437227405312 : UInt64)) .l = (0 : Int32)) := by decide +kernel
theorem own_pn : ¬ (cmpValue (FP.dcmp (9218868437227405312 : UInt64) (18442240474082181120 : UInt64)) .l = (0 : Int32)) := by decide +kernel
theorem own_plain (xa xb xc xd : Int32) : own_law xa xb xc xd = 1 := by
  have d1 : ¬ ((1 : Int32) = 0) := by decide
  have d2 : ¬ ((0 : Int32) = 1) := by decide
  simp only [own_law, own_pick, own_limited]
  by_cases a0 : (xa &&& (3 : Int32)) = (0 : Int32) <;> by_cases a1 : (xa &&& (3 : Int32)) = (1 : Int32) <;> by_cases b0 : (xc &&& (3 : Int32)) = (0 : Int32) <;> by_cases b1 : (xc &&& (3 : Int32)) = (1 : Int32) <;>
    simp only [a0, a1, b0, b1, d1, d2, own_nn, own_pp, own_np, own_pn, own_low, own_high, if_true, if_false, if_pos] <;> first | rfl | (exfalso; simp_all; done)

theorem own_pn0 : plainName "com/example/composiq/composiq/BoundIsLimitedPinLaw" = true := by first | (simp [plainName, overriddenIn]; done) | decide +kernel
theorem own_ef0 (m : MethodId) (x0 : Int32) (x1 : Int32) (x2 : Int32) (x3 : Int32) : entryFrame m #[(.int x0), (.int x1), (.int x2), (.int x3)] maxLocals = mkF m 0 #[.val (.int x0), .val (.int x1), .val (.int x2), .val (.int x3), .unset, .unset, .unset, .unset, .unset, .unset, .unset, .unset, .unset, .unset, .unset] [] := by first | (simp [entryFrame, mkF, argsToLocals, Value.category, maxLocals]; done) | rfl
def own_Q0 (Z : State) (xa : Int32) (xb : Int32) (xc : Int32) (xd : Int32) (ux : Addr) (h0 : Heap) (n0 : Nat) (v : Option Value) (h : Heap) (L : List Loc) : Prop := v = some (.int (1 : Int32)) ∧ Fr n0 L
theorem own_rm0 (l : Launch) (Z : State) (a0 : Array Value) (hw : ∀ d ∈ tables_1, d.before a0 Z = true) (ws : List Jvm.Cond) (xa : Int32) (xb : Int32) (xc : Int32) (xd : Int32) (ux : Addr) (h0 : Heap) (n0 : Nat) (Z0 : n0 ≤ h0.size) (pf0 : Sta Z h0 "com/example/composiq/composiq/Bound" "UNBOUNDED" "Lcom/example/composiq/composiq/Bound;" (.ref ux)) (pf1 : Exa Z h0 ux "com/example/composiq/composiq/Bound") (pf2 : Fld Z h0 ux "com/example/composiq/composiq/Bound" "min" "D" (.double (18442240474082181120 : UInt64))) (pf3 : Fld Z h0 ux "com/example/composiq/composiq/Bound" "max" "D" (.double (9218868437227405312 : UInt64))) :
    MetFree l x (head1 (Jvm.Cond.code x code maxLocals ret :: ws) room_1) (fun a U => a = #[(.int xa), (.int xb), (.int xc), (.int xd)] ∧ Z.Warmed39 U.vm ∧ U.heap = h0) (fun _ _ _ _ _ => True) (fun _ U o U' => ∃ v L, o = .returned v ∧ own_Q0 Z xa xb xc xd ux h0 n0 v U'.heap L ∧ FrameEnd U o U' L room_1.cells room_1.slots) := by
  refine MetFree.of_bodySF (plainFor_of_name own_pn0) hisR ?_
  intro p e s m args below meth c s₁ Bd hml0 hP hK
  obtain ⟨rfl, hZ, hh⟩ := hP
  have hx := Bd.exec
  have hby := Bd.bytes
  have hlk := Bd.notSynchronized
  have hret := Bd.returns
  have hml : c.maxLocals = 15 := hml0
  have hown : s.vm.findClass "com/example/composiq/composiq/BoundIsLimitedPinLaw" = some m.cls := findClass_of_methodNamed Bd.named
  have hnm := (name_of_methodNamed Bd.named Bd.method).1
  have X0 : Stand p l e room_1 s m #[(.int xa), (.int xb), (.int xc), (.int xd)] below meth c s₁ [] 0 0 := Stand.of_body Bd
  have e0 : s₁.heap = h0 := by rw [← hh, Bd.state]; rfl
  have N0 := Fr.nil n0
  suffices key : own_Go p e below (own_End s below (own_Q0 Z xa xb xc xd ux h0 n0) room_1.cells room_1.slots) (s₁.setTop (mkF m 0 #[.val (.int xa), .val (.int xb), .val (.int xc), .val (.int xd), .unset, .unset, .unset, .unset, .unset, .unset, .unset, .unset, .unset, .unset, .unset] [])) by
    obtain ⟨t, k1, k2, v, L, k3, k4, k5⟩ := key
    exact ⟨t, _, castTop (own_ef0 m xa xb xc xd) k1, k2, k3, v, L, rfl, k4, k5⟩
  show own_Go p e below _ (s₁.setTop (mkF m 0 #[.val (.int xa), .val (.int xb), .val (.int xc), .val (.int xd), .unset, .unset, .unset, .unset, .unset, .unset, .unset, .unset, .unset, .unset, .unset] []))
  obtain ⟨T1, X1, e1, st1⟩ := getS2 X0 hx hZ hown (host := "") (Or.inl (hw _ (List.mem_of_getElem? (i := 0) rfl))) Via.refl e0 pf0 (g := (mkF m 0 #[.val (.int xa), .val (.int xb), .val (.int xc), .val (.int xd), .unset, .unset, .unset, .unset, .unset, .unset, .unset, .unset, .unset, .unset, .unset] [])) rfl (hb hby at_0)
  refine own_by st1 ?_
  show own_Go p e below _ (T1.setTop (mkF m 3 #[.val (.int xa), .val (.int xb), .val (.int xc), .val (.int xd), .unset, .unset, .unset, .unset, .unset, .unset, .unset, .unset, .unset, .unset, .unset] [(.ref ux)]))
  obtain ⟨cq2, kq2, q2a, q2b, q2c⟩ := isOf hZ e1 pf1
  obtain ⟨_, _, ⟨T2, L2, k2, n2⟩, -, X2, ⟨Lc2, hQ2, l2, y2, z2'⟩, st2⟩ := X1.virtualBack hx (y := (⟨"com/example/composiq/composiq/Bound", "min", "()D"⟩ : MethodName)) (z := (⟨"com/example/composiq/composiq/Bound", "min", "()D"⟩ : MethodName)) hown (mvT hZ (hw _ (List.mem_of_getElem? (i := 3) rfl))) (mvT hZ (hw _ (List.mem_of_getElem? (i := 4) rfl))) (notFace_of_selects (args := #[]) (mvT hZ (hw _ (List.mem_of_getElem? (i := 6) rfl)))) (mvT hZ (hw _ (List.mem_of_getElem? (i := 6) rfl))) (mvT hZ (hw _ (List.mem_of_getElem? (i := 5) rfl))) (by decide) (backOf (W := 0) (own_rm1 l Z a0 hw [] ux (18442240474082181120 : UInt64) h0 n0 Z0 pf2) hZ (hw _ (List.mem_of_getElem? (i := 7) rfl)) (hw _ (List.mem_of_getElem? (i := 1) rfl)) (by decide) (by decide)) q2a q2c (g := (mkF m 3 #[.val (.int xa), .val (.int xb), .val (.int xc), .val (.int xd), .unset, .unset, .unset, .unset, .unset, .unset, .unset, .unset, .unset, .unset, .unset] [(.ref ux)])) rfl (by rw [hml]; rfl) (Steps.refl _) (argsL := []) (rest := []) (lenOf own_pd1 rfl) rfl (by show 2 * 0 + _ ≤ _; exact Nat.le_of_eq rfl) (hb hby at_3) (fun _ _ => ⟨rfl, e1, (by decide : 0 + 0 ≤ _), (by decide : 0 + 0 ≤ _)⟩)
  dsimp only [Pt.U, Pt.locs, Pt.cells, Pt.slots] at X2 l2 y2 z2' st2 hQ2
  subst l2 y2 z2'
  obtain ⟨rfl, N2q, e2⟩ := hQ2
  have N2 := Fr.app N0 N2q
  refine own_tr st2 ?_
  show own_Go p e below _ (T2.setTop (mkF m 6 #[.val (.int xa), .val (.int xb), .val (.int xc), .val (.int xd), .unset, .unset, .unset, .unset, .unset, .unset, .unset, .unset, .unset, .unset, .unset] [(.double (18442240474082181120 : UInt64))]))
  refine own_by (fun _ => XS.dstore X2.here hx rfl (hb hby at_6) rfl (l' := #[.val (.int xa), .val (.int xb), .val (.int xc), .val (.int xd), .val (.double (18442240474082181120 : UInt64)), .second, .unset, .unset, .unset, .unset, .unset, .unset, .unset, .unset, .unset]) rfl) ?_
  show own_Go p e below _ (T2.setTop (mkF m 8 #[.val (.int xa), .val (.int xb), .val (.int xc), .val (.int xd), .val (.double (18442240474082181120 : UInt64)), .second, .unset, .unset, .unset, .unset, .unset, .unset, .unset, .unset, .unset] []))
  obtain ⟨T3, X3, e3, st3⟩ := getS2 X2 hx hZ hown (host := "") (Or.inl (hw _ (List.mem_of_getElem? (i := 0) rfl))) Via.refl e2 pf0 (g := (mkF m 8 #[.val (.int xa), .val (.int xb), .val (.int xc), .val (.int xd), .val (.double (18442240474082181120 : UInt64)), .second, .unset, .unset, .unset, .unset, .unset, .unset, .unset, .unset, .unset] [])) rfl (hb hby at_8)
  refine own_by st3 ?_
  show own_Go p e below _ (T3.setTop (mkF m 11 #[.val (.int xa), .val (.int xb), .val (.int xc), .val (.int xd), .val (.double (18442240474082181120 : UInt64)), .second, .unset, .unset, .unset, .unset, .unset, .unset, .unset, .unset, .unset] [(.ref ux)]))
  obtain ⟨cq4, kq4, q4a, q4b, q4c⟩ := isOf hZ e3 pf1
  obtain ⟨_, _, ⟨T4, L4, k4, n4⟩, -, X4, ⟨Lc4, hQ4, l4, y4, z4'⟩, st4⟩ := X3.virtualBack hx (y := (⟨"com/example/composiq/composiq/Bound", "max", "()D"⟩ : MethodName)) (z := (⟨"com/example/composiq/composiq/Bound", "max", "()D"⟩ : MethodName)) hown (mvT hZ (hw _ (List.mem_of_getElem? (i := 10) rfl))) (mvT hZ (hw _ (List.mem_of_getElem? (i := 11) rfl))) (notFace_of_selects (args := #[]) (mvT hZ (hw _ (List.mem_of_getElem? (i := 13) rfl)))) (mvT hZ (hw _ (List.mem_of_getElem? (i := 13) rfl))) (mvT hZ (hw _ (List.mem_of_getElem? (i := 12) rfl))) (by decide) (backOf (W := 0) (own_rm2 l Z a0 hw [] ux (9218868437227405312 : UInt64) h0 n0 Z0 pf3) hZ (hw _ (List.mem_of_getElem? (i := 14) rfl)) (hw _ (List.mem_of_getElem? (i := 1) rfl)) (by decide) (by decide)) q4a q4c (g := (mkF m 11 #[.val (.int xa), .val (.int xb), .val (.int xc), .val (.int xd), .val (.double (18442240474082181120 : UInt64)), .second, .unset, .unset, .unset, .unset, .unset, .unset, .unset, .unset, .unset] [(.ref ux)])) rfl (by rw [hml]; rfl) (Steps.refl _) (argsL := []) (rest := []) (lenOf own_pd1 rfl) rfl (by show 2 * 0 + _ ≤ _; exact Nat.le_of_eq rfl) (hb hby at_11) (fun _ _ => ⟨rfl, e3, (by decide : 0 + 0 ≤ _), (by decide : 0 + 0 ≤ _)⟩)
  dsimp only [Pt.U, Pt.locs, Pt.cells, Pt.slots] at X4 l4 y4 z4' st4 hQ4
  subst l4 y4 z4'
  obtain ⟨rfl, N4q, e4⟩ := hQ4
  have N4 := Fr.app N2 N4q
  refine own_tr st4 ?_
  show own_Go p e below _ (T4.setTop (mkF m 14 #[.val (.int xa), .val (.int xb), .val (.int xc), .val (.int xd), .val (.double (18442240474082181120 : UInt64)), .second, .unset, .unset, .unset, .unset, .unset, .unset, .unset, .unset, .unset] [(.double (9218868437227405312 : UInt64))]))
  refine own_by (fun _ => XS.dstore X4.here hx rfl (hb hby at_14) rfl (l' := #[.val (.int xa), .val (.int xb), .val (.int xc), .val (.int xd), .val (.double (18442240474082181120 : UInt64)), .second, .val (.double (9218868437227405312 : UInt64)), .second, .unset, .unset, .unset, .unset, .unset, .unset, .unset]) rfl) ?_
  show own_Go p e below _ (T4.setTop (mkF m 16 #[.val (.int xa), .val (.int xb), .val (.int xc), .val (.int xd), .val (.double (18442240474082181120 : UInt64)), .second, .val (.double (9218868437227405312 : UInt64)), .second, .unset, .unset, .unset, .unset, .unset, .unset, .unset] []))
  refine own_by (fun _ => XS.iloadN X4.here hx rfl (hb hby at_16) rfl) ?_
  show own_Go p e below _ (T4.setTop (mkF m 17 #[.val (.int xa), .val (.int xb), .val (.int xc), .val (.int xd), .val (.double (18442240474082181120 : UInt64)), .second, .val (.double (9218868437227405312 : UInt64)), .second, .unset, .unset, .unset, .unset, .unset, .unset, .unset] [(.int xa)]))
  refine own_by (fun _ => XS.iloadN X4.here hx rfl (hb hby at_17) rfl) ?_
  show own_Go p e below _ (T4.setTop (mkF m 18 #[.val (.int xa), .val (.int xb), .val (.int xc), .val (.int xd), .val (.double (18442240474082181120 : UInt64)), .second, .val (.double (9218868437227405312 : UInt64)), .second, .unset, .unset, .unset, .unset, .unset, .unset, .unset] [(.int xb), (.int xa)]))
  refine own_by (fun _ => XS.dload X4.here hx rfl (hb hby at_18) rfl) ?_
  show own_Go p e below _ (T4.setTop (mkF m 20 #[.val (.int xa), .val (.int xb), .val (.int xc), .val (.int xd), .val (.double (18442240474082181120 : UInt64)), .second, .val (.double (9218868437227405312 : UInt64)), .second, .unset, .unset, .unset, .unset, .unset, .unset, .unset] [(.double (18442240474082181120 : UInt64)), (.int xb), (.int xa)]))
  refine own_by (fun _ => XS.dload X4.here hx rfl (hb hby at_20) rfl) ?_
  show own_Go p e below _ (T4.setTop (mkF m 22 #[.val (.int xa), .val (.int xb), .val (.int xc), .val (.int xd), .val (.double (18442240474082181120 : UInt64)), .second, .val (.double (9218868437227405312 : UInt64)), .second, .unset, .unset, .unset, .unset, .unset, .unset, .unset] [(.double (9218868437227405312 : UInt64)), (.double (18442240474082181120 : UInt64)), (.int xb), (.int xa)]))
  obtain ⟨_, _, ⟨T5, L5, k5, n5⟩, -, X5, ⟨Lc5, hQ5, l5, y5, z5'⟩, st5⟩ := Jvm.LawKit.callS X4 hx (y := (⟨"com/example/composiq/composiq/BoundIsLimitedPinLaw", "pick", "(IIDD)D"⟩ : MethodName)) hown (mvT hZ (hw _ (List.mem_of_getElem? (i := 17) rfl))) (mvT hZ (hw _ (List.mem_of_getElem? (i := 18) rfl))) (mvT hZ (hw _ (List.mem_of_getElem? (i := 19) rfl))) (mvT hZ (hw _ (List.mem_of_getElem? (i := 20) rfl))) (by decide) (backOf (W := 0) (own_rm3 l Z a0 hw [] xa xb (18442240474082181120 : UInt64) (9218868437227405312 : UInt64) h0 n0 Z0 ) hZ (hw _ (List.mem_of_getElem? (i := 20) rfl)) (hw _ (List.mem_of_getElem? (i := 19) rfl)) (by decide) (by decide)) (g := (mkF m 22 #[.val (.int xa), .val (.int xb), .val (.int xc), .val (.int xd), .val (.double (18442240474082181120 : UInt64)), .second, .val (.double (9218868437227405312 : UInt64)), .second, .unset, .unset, .unset, .unset, .unset, .unset, .unset] [(.double (9218868437227405312 : UInt64)), (.double (18442240474082181120 : UInt64)), (.int xb), (.int xa)])) rfl (by rw [hml]; rfl) (argsL := [(.int xa), (.int xb), (.double (18442240474082181120 : UInt64)), (.double (9218868437227405312 : UInt64))]) (rest := []) (lenOf own_pd2 rfl) rfl (by show 2 * 0 + _ ≤ _; exact Nat.le_of_eq rfl) (hb hby at_22) (fun _ _ => ⟨rfl, e4, (by decide : 0 + 0 ≤ _), (by decide : 0 + 0 ≤ _)⟩)
  dsimp only [Pt.U, Pt.locs, Pt.cells, Pt.slots] at X5 l5 y5 z5' st5 hQ5
  subst l5 y5 z5'
  obtain ⟨rfl, N5q, e5⟩ := hQ5
  have N5 := Fr.app N4 N5q
  refine own_by st5 ?_
  show own_Go p e below _ (T5.setTop (mkF m 25 #[.val (.int xa), .val (.int xb), .val (.int xc), .val (.int xd), .val (.double (18442240474082181120 : UInt64)), .second, .val (.double (9218868437227405312 : UInt64)), .second, .unset, .unset, .unset, .unset, .unset, .unset, .unset] [(.double (own_pick xa xb (18442240474082181120 : UInt64) (9218868437227405312 : UInt64)))]))
  refine own_by (fun _ => XS.dstore X5.here hx rfl (hb hby at_25) rfl (l' := #[.val (.int xa), .val (.int xb), .val (.int xc), .val (.int xd), .val (.double (18442240474082181120 : UInt64)), .second, .val (.double (9218868437227405312 : UInt64)), .second, .val (.double (own_pick xa xb (18442240474082181120 : UInt64) (9218868437227405312 : UInt64))), .second, .unset, .unset, .unset, .unset, .unset]) rfl) ?_
  show own_Go p e below _ (T5.setTop (mkF m 27 #[.val (.int xa), .val (.int xb), .val (.int xc), .val (.int xd), .val (.double (18442240474082181120 : UInt64)), .second, .val (.double (9218868437227405312 : UInt64)), .second, .val (.double (own_pick xa xb (18442240474082181120 : UInt64) (9218868437227405312 : UInt64))), .second, .unset, .unset, .unset, .unset, .unset] []))
  refine own_by (fun _ => XS.iloadN X5.here hx rfl (hb hby at_27) rfl) ?_
  show own_Go p e below _ (T5.setTop (mkF m 28 #[.val (.int xa), .val (.int xb), .val (.int xc), .val (.int xd), .val (.double (18442240474082181120 : UInt64)), .second, .val (.double (9218868437227405312 : UInt64)), .second, .val (.double (own_pick xa xb (18442240474082181120 : UInt64) (9218868437227405312 : UInt64))), .second, .unset, .unset, .unset, .unset, .unset] [(.int xc)]))
  refine own_by (fun _ => XS.iloadN X5.here hx rfl (hb hby at_28) rfl) ?_
  show own_Go p e below _ (T5.setTop (mkF m 29 #[.val (.int xa), .val (.int xb), .val (.int xc), .val (.int xd), .val (.double (18442240474082181120 : UInt64)), .second, .val (.double (9218868437227405312 : UInt64)), .second, .val (.double (own_pick xa xb (18442240474082181120 : UInt64) (9218868437227405312 : UInt64))), .second, .unset, .unset, .unset, .unset, .unset] [(.int xd), (.int xc)]))
  refine own_by (fun _ => XS.dload X5.here hx rfl (hb hby at_29) rfl) ?_
  show own_Go p e below _ (T5.setTop (mkF m 31 #[.val (.int xa), .val (.int xb), .val (.int xc), .val (.int xd), .val (.double (18442240474082181120 : UInt64)), .second, .val (.double (9218868437227405312 : UInt64)), .second, .val (.double (own_pick xa xb (18442240474082181120 : UInt64) (9218868437227405312 : UInt64))), .second, .unset, .unset, .unset, .unset, .unset] [(.double (18442240474082181120 : UInt64)), (.int xd), (.int xc)]))
  refine own_by (fun _ => XS.dload X5.here hx rfl (hb hby at_31) rfl) ?_
  show own_Go p e below _ (T5.setTop (mkF m 33 #[.val (.int xa), .val (.int xb), .val (.int xc), .val (.int xd), .val (.double (18442240474082181120 : UInt64)), .second, .val (.double (9218868437227405312 : UInt64)), .second, .val (.double (own_pick xa xb (18442240474082181120 : UInt64) (9218868437227405312 : UInt64))), .second, .unset, .unset, .unset, .unset, .unset] [(.double (9218868437227405312 : UInt64)), (.double (18442240474082181120 : UInt64)), (.int xd), (.int xc)]))
  obtain ⟨_, _, ⟨T6, L6, k6, n6⟩, -, X6, ⟨Lc6, hQ6, l6, y6, z6'⟩, st6⟩ := Jvm.LawKit.callS X5 hx (y := (⟨"com/example/composiq/composiq/BoundIsLimitedPinLaw", "pick", "(IIDD)D"⟩ : MethodName)) hown (mvT hZ (hw _ (List.mem_of_getElem? (i := 17) rfl))) (mvT hZ (hw _ (List.mem_of_getElem? (i := 18) rfl))) (mvT hZ (hw _ (List.mem_of_getElem? (i := 19) rfl))) (mvT hZ (hw _ (List.mem_of_getElem? (i := 20) rfl))) (by decide) (backOf (W := 0) (own_rm3 l Z a0 hw [] xc xd (18442240474082181120 : UInt64) (9218868437227405312 : UInt64) h0 n0 Z0 ) hZ (hw _ (List.mem_of_getElem? (i := 20) rfl)) (hw _ (List.mem_of_getElem? (i := 19) rfl)) (by decide) (by decide)) (g := (mkF m 33 #[.val (.int xa), .val (.int xb), .val (.int xc), .val (.int xd), .val (.double (18442240474082181120 : UInt64)), .second, .val (.double (9218868437227405312 : UInt64)), .second, .val (.double (own_pick xa xb (18442240474082181120 : UInt64) (9218868437227405312 : UInt64))), .second, .unset, .unset, .unset, .unset, .unset] [(.double (9218868437227405312 : UInt64)), (.double (18442240474082181120 : UInt64)), (.int xd), (.int xc)])) rfl (by rw [hml]; rfl) (argsL := [(.int xc), (.int xd), (.double (18442240474082181120 : UInt64)), (.double (9218868437227405312 : UInt64))]) (rest := []) (lenOf own_pd2 rfl) rfl (by show 2 * 0 + _ ≤ _; exact Nat.le_of_eq rfl) (hb hby at_33) (fun _ _ => ⟨rfl, e5, (by decide : 0 + 0 ≤ _), (by decide : 0 + 0 ≤ _)⟩)
  dsimp only [Pt.U, Pt.locs, Pt.cells, Pt.slots] at X6 l6 y6 z6' st6 hQ6
  subst l6 y6 z6'
  obtain ⟨rfl, N6q, e6⟩ := hQ6
  have N6 := Fr.app N5 N6q
  refine own_by st6 ?_
  show own_Go p e below _ (T6.setTop (mkF m 36 #[.val (.int xa), .val (.int xb), .val (.int xc), .val (.int xd), .val (.double (18442240474082181120 : UInt64)), .second, .val (.double (9218868437227405312 : UInt64)), .second, .val (.double (own_pick xa xb (18442240474082181120 : UInt64) (9218868437227405312 : UInt64))), .second, .unset, .unset, .unset, .unset, .unset] [(.double (own_pick xc xd (18442240474082181120 : UInt64) (9218868437227405312 : UInt64)))]))
  refine own_by (fun _ => XS.dstore X6.here hx rfl (hb hby at_36) rfl (l' := #[.val (.int xa), .val (.int xb), .val (.int xc), .val (.int xd), .val (.double (18442240474082181120 : UInt64)), .second, .val (.double (9218868437227405312 : UInt64)), .second, .val (.double (own_pick xa xb (18442240474082181120 : UInt64) (9218868437227405312 : UInt64))), .second, .val (.double (own_pick xc xd (18442240474082181120 : UInt64) (9218868437227405312 : UInt64))), .second, .unset, .unset, .unset]) rfl) ?_
  show own_Go p e below _ (T6.setTop (mkF m 38 #[.val (.int xa), .val (.int xb), .val (.int xc), .val (.int xd), .val (.double (18442240474082181120 : UInt64)), .second, .val (.double (9218868437227405312 : UInt64)), .second, .val (.double (own_pick xa xb (18442240474082181120 : UInt64) (9218868437227405312 : UInt64))), .second, .val (.double (own_pick xc xd (18442240474082181120 : UInt64) (9218868437227405312 : UInt64))), .second, .unset, .unset, .unset] []))
  refine own_by (fun _ => XS.iloadN X6.here hx rfl (hb hby at_38) rfl) ?_
  show own_Go p e below _ (T6.setTop (mkF m 39 #[.val (.int xa), .val (.int xb), .val (.int xc), .val (.int xd), .val (.double (18442240474082181120 : UInt64)), .second, .val (.double (9218868437227405312 : UInt64)), .second, .val (.double (own_pick xa xb (18442240474082181120 : UInt64) (9218868437227405312 : UInt64))), .second, .val (.double (own_pick xc xd (18442240474082181120 : UInt64) (9218868437227405312 : UInt64))), .second, .unset, .unset, .unset] [(.int xa)]))
  refine own_by (fun _ => XS.iconst X6.here hx rfl (hb hby at_39)) ?_
  show own_Go p e below _ (T6.setTop (mkF m 40 #[.val (.int xa), .val (.int xb), .val (.int xc), .val (.int xd), .val (.double (18442240474082181120 : UInt64)), .second, .val (.double (9218868437227405312 : UInt64)), .second, .val (.double (own_pick xa xb (18442240474082181120 : UInt64) (9218868437227405312 : UInt64))), .second, .val (.double (own_pick xc xd (18442240474082181120 : UInt64) (9218868437227405312 : UInt64))), .second, .unset, .unset, .unset] [(.int (3 : Int32)), (.int xa)]))
  refine own_by (fun _ => XS.iand X6.here hx rfl (hb hby at_40) rfl) ?_
  show own_Go p e below _ (T6.setTop (mkF m 41 #[.val (.int xa), .val (.int xb), .val (.int xc), .val (.int xd), .val (.double (18442240474082181120 : UInt64)), .second, .val (.double (9218868437227405312 : UInt64)), .second, .val (.double (own_pick xa xb (18442240474082181120 : UInt64) (9218868437227405312 : UInt64))), .second, .val (.double (own_pick xc xd (18442240474082181120 : UInt64) (9218868437227405312 : UInt64))), .second, .unset, .unset, .unset] [(.int (xa &&& (3 : Int32)))]))
  suffices J7 : ∀ (T' : State) (v7_t0 : Int32), v7_t0 = (if (xa &&& (3 : Int32)) = (0 : Int32) then (1 : Int32) else (0 : Int32)) → own_At p l e room_1 s m #[(.int xa), (.int xb), (.int xc), (.int xd)] below meth c n0 T' h0 0 0 → own_Go p e below (own_End s below (own_Q0 Z xa xb xc xd ux h0 n0) room_1.cells room_1.slots) (T'.setTop (mkF m 49 #[.val (.int xa), .val (.int xb), .val (.int xc), .val (.int xd), .val (.double (18442240474082181120 : UInt64)), .second, .val (.double (9218868437227405312 : UInt64)), .second, .val (.double (own_pick xa xb (18442240474082181120 : UInt64) (9218868437227405312 : UInt64))), .second, .val (.double (own_pick xc xd (18442240474082181120 : UInt64) (9218868437227405312 : UInt64))), .second, .unset, .unset, .unset] [(.int v7_t0)])) by
    by_cases hc41_8 : (xa &&& (3 : Int32)) = (0 : Int32)
    ·
      skip
      refine own_by (fun _ => XS.ifNo X6.here hx rfl (hb hby at_41) rfl ((if0 _ _).trans (teq hc41_8).2)) ?_
      show own_Go p e below _ (T6.setTop (mkF m 44 #[.val (.int xa), .val (.int xb), .val (.int xc), .val (.int xd), .val (.double (18442240474082181120 : UInt64)), .second, .val (.double (9218868437227405312 : UInt64)), .second, .val (.double (own_pick xa xb (18442240474082181120 : UInt64) (9218868437227405312 : UInt64))), .second, .val (.double (own_pick xc xd (18442240474082181120 : UInt64) (9218868437227405312 : UInt64))), .second, .unset, .unset, .unset] []))
      refine own_by (fun _ => XS.iconst X6.here hx rfl (hb hby at_44)) ?_
      show own_Go p e below _ (T6.setTop (mkF m 45 #[.val (.int xa), .val (.int xb), .val (.int xc), .val (.int xd), .val (.double (18442240474082181120 : UInt64)), .second, .val (.double (9218868437227405312 : UInt64)), .second, .val (.double (own_pick xa xb (18442240474082181120 : UInt64) (9218868437227405312 : UInt64))), .second, .val (.double (own_pick xc xd (18442240474082181120 : UInt64) (9218868437227405312 : UInt64))), .second, .unset, .unset, .unset] [(.int (1 : Int32))]))
      refine own_by (fun _ => XS.goto X6.here hx rfl (pc0 := 45) (pc' := 49) rfl (hb hby at_45) (by decide) (by decide)) ?_
      show own_Go p e below _ (T6.setTop (mkF m 49 #[.val (.int xa), .val (.int xb), .val (.int xc), .val (.int xd), .val (.double (18442240474082181120 : UInt64)), .second, .val (.double (9218868437227405312 : UInt64)), .second, .val (.double (own_pick xa xb (18442240474082181120 : UInt64) (9218868437227405312 : UInt64))), .second, .val (.double (own_pick xc xd (18442240474082181120 : UInt64) (9218868437227405312 : UInt64))), .second, .unset, .unset, .unset] [(.int (1 : Int32))]))
      exact J7 _ _ (by first | with_reducible rfl | simp only [if_pos hc41_8] | rfl) ⟨_, X6, N6, e6⟩
    ·
      skip
      refine own_by (fun _ => XS.ifYes X6.here hx rfl (pc0 := 41) (pc' := 48) rfl (hb hby at_41) rfl ((if0 _ _).trans (feq hc41_8).2) (by decide) (by decide)) ?_
      show own_Go p e below _ (T6.setTop (mkF m 48 #[.val (.int xa), .val (.int xb), .val (.int xc), .val (.int xd), .val (.double (18442240474082181120 : UInt64)), .second, .val (.double (9218868437227405312 : UInt64)), .second, .val (.double (own_pick xa xb (18442240474082181120 : UInt64) (9218868437227405312 : UInt64))), .second, .val (.double (own_pick xc xd (18442240474082181120 : UInt64) (9218868437227405312 : UInt64))), .second, .unset, .unset, .unset] []))
      refine own_by (fun _ => XS.iconst X6.here hx rfl (hb hby at_48)) ?_
      show own_Go p e below _ (T6.setTop (mkF m 49 #[.val (.int xa), .val (.int xb), .val (.int xc), .val (.int xd), .val (.double (18442240474082181120 : UInt64)), .second, .val (.double (9218868437227405312 : UInt64)), .second, .val (.double (own_pick xa xb (18442240474082181120 : UInt64) (9218868437227405312 : UInt64))), .second, .val (.double (own_pick xc xd (18442240474082181120 : UInt64) (9218868437227405312 : UInt64))), .second, .unset, .unset, .unset] [(.int (0 : Int32))]))
      exact J7 _ _ (by first | with_reducible rfl | simp only [if_neg hc41_8] | rfl) ⟨_, X6, N6, e6⟩
  intro T7 v7_t0 hv7_t0 ⟨locs7, X7, N7, e7⟩
  show own_Go p e below _ (T7.setTop (mkF m 49 #[.val (.int xa), .val (.int xb), .val (.int xc), .val (.int xd), .val (.double (18442240474082181120 : UInt64)), .second, .val (.double (9218868437227405312 : UInt64)), .second, .val (.double (own_pick xa xb (18442240474082181120 : UInt64) (9218868437227405312 : UInt64))), .second, .val (.double (own_pick xc xd (18442240474082181120 : UInt64) (9218868437227405312 : UInt64))), .second, .unset, .unset, .unset] [(.int v7_t0)]))
  refine own_by (fun _ => XS.istore X7.here hx rfl (hb hby at_49) rfl (l' := #[.val (.int xa), .val (.int xb), .val (.int xc), .val (.int xd), .val (.double (18442240474082181120 : UInt64)), .second, .val (.double (9218868437227405312 : UInt64)), .second, .val (.double (own_pick xa xb (18442240474082181120 : UInt64) (9218868437227405312 : UInt64))), .second, .val (.double (own_pick xc xd (18442240474082181120 : UInt64) (9218868437227405312 : UInt64))), .second, .val (.int v7_t0), .unset, .unset]) rfl) ?_
  show own_Go p e below _ (T7.setTop (mkF m 51 #[.val (.int xa), .val (.int xb), .val (.int xc), .val (.int xd), .val (.double (18442240474082181120 : UInt64)), .second, .val (.double (9218868437227405312 : UInt64)), .second, .val (.double (own_pick xa xb (18442240474082181120 : UInt64) (9218868437227405312 : UInt64))), .second, .val (.double (own_pick xc xd (18442240474082181120 : UInt64) (9218868437227405312 : UInt64))), .second, .val (.int v7_t0), .unset, .unset] []))
  refine own_by (fun _ => XS.iloadN X7.here hx rfl (hb hby at_51) rfl) ?_
  show own_Go p e below _ (T7.setTop (mkF m 52 #[.val (.int xa), .val (.int xb), .val (.int xc), .val (.int xd), .val (.double (18442240474082181120 : UInt64)), .second, .val (.double (9218868437227405312 : UInt64)), .second, .val (.double (own_pick xa xb (18442240474082181120 : UInt64) (9218868437227405312 : UInt64))), .second, .val (.double (own_pick xc xd (18442240474082181120 : UInt64) (9218868437227405312 : UInt64))), .second, .val (.int v7_t0), .unset, .unset] [(.int xc)]))
  refine own_by (fun _ => XS.iconst X7.here hx rfl (hb hby at_52)) ?_
  show own_Go p e below _ (T7.setTop (mkF m 53 #[.val (.int xa), .val (.int xb), .val (.int xc), .val (.int xd), .val (.double (18442240474082181120 : UInt64)), .second, .val (.double (9218868437227405312 : UInt64)), .second, .val (.double (own_pick xa xb (18442240474082181120 : UInt64) (9218868437227405312 : UInt64))), .second, .val (.double (own_pick xc xd (18442240474082181120 : UInt64) (9218868437227405312 : UInt64))), .second, .val (.int v7_t0), .unset, .unset] [(.int (3 : Int32)), (.int xc)]))
  refine own_by (fun _ => XS.iand X7.here hx rfl (hb hby at_53) rfl) ?_
  show own_Go p e below _ (T7.setTop (mkF m 54 #[.val (.int xa), .val (.int xb), .val (.int xc), .val (.int xd), .val (.double (18442240474082181120 : UInt64)), .second, .val (.double (9218868437227405312 : UInt64)), .second, .val (.double (own_pick xa xb (18442240474082181120 : UInt64) (9218868437227405312 : UInt64))), .second, .val (.double (own_pick xc xd (18442240474082181120 : UInt64) (9218868437227405312 : UInt64))), .second, .val (.int v7_t0), .unset, .unset] [(.int (xc &&& (3 : Int32)))]))
  refine own_by (fun _ => XS.iconst X7.here hx rfl (hb hby at_54)) ?_
  show own_Go p e below _ (T7.setTop (mkF m 55 #[.val (.int xa), .val (.int xb), .val (.int xc), .val (.int xd), .val (.double (18442240474082181120 : UInt64)), .second, .val (.double (9218868437227405312 : UInt64)), .second, .val (.double (own_pick xa xb (18442240474082181120 : UInt64) (9218868437227405312 : UInt64))), .second, .val (.double (own_pick xc xd (18442240474082181120 : UInt64) (9218868437227405312 : UInt64))), .second, .val (.int v7_t0), .unset, .unset] [(.int (1 : Int32)), (.int (xc &&& (3 : Int32)))]))
  suffices J9 : ∀ (T' : State) (v9_t0 : Int32), v9_t0 = (if (xc &&& (3 : Int32)) = (1 : Int32) then (1 : Int32) else (0 : Int32)) → own_At p l e room_1 s m #[(.int xa), (.int xb), (.int xc), (.int xd)] below meth c n0 T' h0 0 0 → own_Go p e below (own_End s below (own_Q0 Z xa xb xc xd ux h0 n0) room_1.cells room_1.slots) (T'.setTop (mkF m 63 #[.val (.int xa), .val (.int xb), .val (.int xc), .val (.int xd), .val (.double (18442240474082181120 : UInt64)), .second, .val (.double (9218868437227405312 : UInt64)), .second, .val (.double (own_pick xa xb (18442240474082181120 : UInt64) (9218868437227405312 : UInt64))), .second, .val (.double (own_pick xc xd (18442240474082181120 : UInt64) (9218868437227405312 : UInt64))), .second, .val (.int v7_t0), .unset, .unset] [(.int v9_t0)])) by
    by_cases hc55_10 : (xc &&& (3 : Int32)) = (1 : Int32)
    ·
      skip
      refine own_by (fun _ => XS.icmpNo X7.here hx rfl (hb hby at_55) rfl (teq hc55_10).2) ?_
      show own_Go p e below _ (T7.setTop (mkF m 58 #[.val (.int xa), .val (.int xb), .val (.int xc), .val (.int xd), .val (.double (18442240474082181120 : UInt64)), .second, .val (.double (9218868437227405312 : UInt64)), .second, .val (.double (own_pick xa xb (18442240474082181120 : UInt64) (9218868437227405312 : UInt64))), .second, .val (.double (own_pick xc xd (18442240474082181120 : UInt64) (9218868437227405312 : UInt64))), .second, .val (.int v7_t0), .unset, .unset] []))
      refine own_by (fun _ => XS.iconst X7.here hx rfl (hb hby at_58)) ?_
      show own_Go p e below _ (T7.setTop (mkF m 59 #[.val (.int xa), .val (.int xb), .val (.int xc), .val (.int xd), .val (.double (18442240474082181120 : UInt64)), .second, .val (.double (9218868437227405312 : UInt64)), .second, .val (.double (own_pick xa xb (18442240474082181120 : UInt64) (9218868437227405312 : UInt64))), .second, .val (.double (own_pick xc xd (18442240474082181120 : UInt64) (9218868437227405312 : UInt64))), .second, .val (.int v7_t0), .unset, .unset] [(.int (1 : Int32))]))
      refine own_by (fun _ => XS.goto X7.here hx rfl (pc0 := 59) (pc' := 63) rfl (hb hby at_59) (by decide) (by decide)) ?_
      show own_Go p e below _ (T7.setTop (mkF m 63 #[.val (.int xa), .val (.int xb), .val (.int xc), .val (.int xd), .val (.double (18442240474082181120 : UInt64)), .second, .val (.double (9218868437227405312 : UInt64)), .second, .val (.double (own_pick xa xb (18442240474082181120 : UInt64) (9218868437227405312 : UInt64))), .second, .val (.double (own_pick xc xd (18442240474082181120 : UInt64) (9218868437227405312 : UInt64))), .second, .val (.int v7_t0), .unset, .unset] [(.int (1 : Int32))]))
      exact J9 _ _ (by first | with_reducible rfl | simp only [if_pos hc55_10] | rfl) ⟨_, X7, N7, e7⟩
    ·
      skip
      refine own_by (fun _ => XS.icmpYes X7.here hx rfl (pc0 := 55) (pc' := 62) rfl (hb hby at_55) rfl (feq hc55_10).2 (by decide) (by decide)) ?_
      show own_Go p e below _ (T7.setTop (mkF m 62 #[.val (.int xa), .val (.int xb), .val (.int xc), .val (.int xd), .val (.double (18442240474082181120 : UInt64)), .second, .val (.double (9218868437227405312 : UInt64)), .second, .val (.double (own_pick xa xb (18442240474082181120 : UInt64) (9218868437227405312 : UInt64))), .second, .val (.double (own_pick xc xd (18442240474082181120 : UInt64) (9218868437227405312 : UInt64))), .second, .val (.int v7_t0), .unset, .unset] []))
      refine own_by (fun _ => XS.iconst X7.here hx rfl (hb hby at_62)) ?_
      show own_Go p e below _ (T7.setTop (mkF m 63 #[.val (.int xa), .val (.int xb), .val (.int xc), .val (.int xd), .val (.double (18442240474082181120 : UInt64)), .second, .val (.double (9218868437227405312 : UInt64)), .second, .val (.double (own_pick xa xb (18442240474082181120 : UInt64) (9218868437227405312 : UInt64))), .second, .val (.double (own_pick xc xd (18442240474082181120 : UInt64) (9218868437227405312 : UInt64))), .second, .val (.int v7_t0), .unset, .unset] [(.int (0 : Int32))]))
      exact J9 _ _ (by first | with_reducible rfl | simp only [if_neg hc55_10] | rfl) ⟨_, X7, N7, e7⟩
  intro T9 v9_t0 hv9_t0 ⟨locs9, X9, N9, e9⟩
  show own_Go p e below _ (T9.setTop (mkF m 63 #[.val (.int xa), .val (.int xb), .val (.int xc), .val (.int xd), .val (.double (18442240474082181120 : UInt64)), .second, .val (.double (9218868437227405312 : UInt64)), .second, .val (.double (own_pick xa xb (18442240474082181120 : UInt64) (9218868437227405312 : UInt64))), .second, .val (.double (own_pick xc xd (18442240474082181120 : UInt64) (9218868437227405312 : UInt64))), .second, .val (.int v7_t0), .unset, .unset] [(.int v9_t0)]))
  refine own_by (fun _ => XS.istore X9.here hx rfl (hb hby at_63) rfl (l' := #[.val (.int xa), .val (.int xb), .val (.int xc), .val (.int xd), .val (.double (18442240474082181120 : UInt64)), .second, .val (.double (9218868437227405312 : UInt64)), .second, .val (.double (own_pick xa xb (18442240474082181120 : UInt64) (9218868437227405312 : UInt64))), .second, .val (.double (own_pick xc xd (18442240474082181120 : UInt64) (9218868437227405312 : UInt64))), .second, .val (.int v7_t0), .val (.int v9_t0), .unset]) rfl) ?_
  show own_Go p e below _ (T9.setTop (mkF m 65 #[.val (.int xa), .val (.int xb), .val (.int xc), .val (.int xd), .val (.double (18442240474082181120 : UInt64)), .second, .val (.double (9218868437227405312 : UInt64)), .second, .val (.double (own_pick xa xb (18442240474082181120 : UInt64) (9218868437227405312 : UInt64))), .second, .val (.double (own_pick xc xd (18442240474082181120 : UInt64) (9218868437227405312 : UInt64))), .second, .val (.int v7_t0), .val (.int v9_t0), .unset] []))
  refine own_by (fun _ => XS.iload X9.here hx rfl (hb hby at_65) rfl) ?_
  show own_Go p e below _ (T9.setTop (mkF m 67 #[.val (.int xa), .val (.int xb), .val (.int xc), .val (.int xd), .val (.double (18442240474082181120 : UInt64)), .second, .val (.double (9218868437227405312 : UInt64)), .second, .val (.double (own_pick xa xb (18442240474082181120 : UInt64) (9218868437227405312 : UInt64))), .second, .val (.double (own_pick xc xd (18442240474082181120 : UInt64) (9218868437227405312 : UInt64))), .second, .val (.int v7_t0), .val (.int v9_t0), .unset] [(.int v7_t0)]))
  suffices J11 : ∀ (T' : State) (v11_t0 : Int32), v11_t0 = (if v7_t0 = (0 : Int32) then (1 : Int32) else (if v9_t0 = (0 : Int32) then (1 : Int32) else (0 : Int32))) → own_At p l e room_1 s m #[(.int xa), (.int xb), (.int xc), (.int xd)] below meth c n0 T' h0 0 0 → own_Go p e below (own_End s below (own_Q0 Z xa xb xc xd ux h0 n0) room_1.cells room_1.slots) (T'.setTop (mkF m 80 #[.val (.int xa), .val (.int xb), .val (.int xc), .val (.int xd), .val (.double (18442240474082181120 : UInt64)), .second, .val (.double (9218868437227405312 : UInt64)), .second, .val (.double (own_pick xa xb (18442240474082181120 : UInt64) (9218868437227405312 : UInt64))), .second, .val (.double (own_pick xc xd (18442240474082181120 : UInt64) (9218868437227405312 : UInt64))), .second, .val (.int v7_t0), .val (.int v9_t0), .unset] [(.int v11_t0)])) by
    by_cases hc67_12 : v7_t0 = (0 : Int32)
    ·
      skip
      refine own_by (fun _ => XS.ifYes X9.here hx rfl (pc0 := 67) (pc' := 75) rfl (hb hby at_67) rfl ((if0 _ _).trans (teq hc67_12).1) (by decide) (by decide)) ?_
      show own_Go p e below _ (T9.setTop (mkF m 75 #[.val (.int xa), .val (.int xb), .val (.int xc), .val (.int xd), .val (.double (18442240474082181120 : UInt64)), .second, .val (.double (9218868437227405312 : UInt64)), .second, .val (.double (own_pick xa xb (18442240474082181120 : UInt64) (9218868437227405312 : UInt64))), .second, .val (.double (own_pick xc xd (18442240474082181120 : UInt64) (9218868437227405312 : UInt64))), .second, .val (.int v7_t0), .val (.int v9_t0), .unset] []))
      refine own_by (fun _ => XS.iconst X9.here hx rfl (hb hby at_75)) ?_
      show own_Go p e below _ (T9.setTop (mkF m 76 #[.val (.int xa), .val (.int xb), .val (.int xc), .val (.int xd), .val (.double (18442240474082181120 : UInt64)), .second, .val (.double (9218868437227405312 : UInt64)), .second, .val (.double (own_pick xa xb (18442240474082181120 : UInt64) (9218868437227405312 : UInt64))), .second, .val (.double (own_pick xc xd (18442240474082181120 : UInt64) (9218868437227405312 : UInt64))), .second, .val (.int v7_t0), .val (.int v9_t0), .unset] [(.int (1 : Int32))]))
      refine own_by (fun _ => XS.goto X9.here hx rfl (pc0 := 76) (pc' := 80) rfl (hb hby at_76) (by decide) (by decide)) ?_
      show own_Go p e below _ (T9.setTop (mkF m 80 #[.val (.int xa), .val (.int xb), .val (.int xc), .val (.int xd), .val (.double (18442240474082181120 : UInt64)), .second, .val (.double (9218868437227405312 : UInt64)), .second, .val (.double (own_pick xa xb (18442240474082181120 : UInt64) (9218868437227405312 : UInt64))), .second, .val (.double (own_pick xc xd (18442240474082181120 : UInt64) (9218868437227405312 : UInt64))), .second, .val (.int v7_t0), .val (.int v9_t0), .unset] [(.int (1 : Int32))]))
      exact J11 _ _ (by first | with_reducible rfl | simp only [if_pos hc67_12] | rfl) ⟨_, X9, N9, e9⟩
    ·
      skip
      refine own_by (fun _ => XS.ifNo X9.here hx rfl (hb hby at_67) rfl ((if0 _ _).trans (feq hc67_12).1)) ?_
      show own_Go p e below _ (T9.setTop (mkF m 70 #[.val (.int xa), .val (.int xb), .val (.int xc), .val (.int xd), .val (.double (18442240474082181120 : UInt64)), .second, .val (.double (9218868437227405312 : UInt64)), .second, .val (.double (own_pick xa xb (18442240474082181120 : UInt64) (9218868437227405312 : UInt64))), .second, .val (.double (own_pick xc xd (18442240474082181120 : UInt64) (9218868437227405312 : UInt64))), .second, .val (.int v7_t0), .val (.int v9_t0), .unset] []))
      refine own_by (fun _ => XS.iload X9.here hx rfl (hb hby at_70) rfl) ?_
      show own_Go p e below _ (T9.setTop (mkF m 72 #[.val (.int xa), .val (.int xb), .val (.int xc), .val (.int xd), .val (.double (18442240474082181120 : UInt64)), .second, .val (.double (9218868437227405312 : UInt64)), .second, .val (.double (own_pick xa xb (18442240474082181120 : UInt64) (9218868437227405312 : UInt64))), .second, .val (.double (own_pick xc xd (18442240474082181120 : UInt64) (9218868437227405312 : UInt64))), .second, .val (.int v7_t0), .val (.int v9_t0), .unset] [(.int v9_t0)]))
      by_cases hc72_13 : v9_t0 = (0 : Int32)
      ·
        skip
        refine own_by (fun _ => XS.ifNo X9.here hx rfl (hb hby at_72) rfl ((if0 _ _).trans (teq hc72_13).2)) ?_
        show own_Go p e below _ (T9.setTop (mkF m 75 #[.val (.int xa), .val (.int xb), .val (.int xc), .val (.int xd), .val (.double (18442240474082181120 : UInt64)), .second, .val (.double (9218868437227405312 : UInt64)), .second, .val (.double (own_pick xa xb (18442240474082181120 : UInt64) (9218868437227405312 : UInt64))), .second, .val (.double (own_pick xc xd (18442240474082181120 : UInt64) (9218868437227405312 : UInt64))), .second, .val (.int v7_t0), .val (.int v9_t0), .unset] []))
        refine own_by (fun _ => XS.iconst X9.here hx rfl (hb hby at_75)) ?_
        show own_Go p e below _ (T9.setTop (mkF m 76 #[.val (.int xa), .val (.int xb), .val (.int xc), .val (.int xd), .val (.double (18442240474082181120 : UInt64)), .second, .val (.double (9218868437227405312 : UInt64)), .second, .val (.double (own_pick xa xb (18442240474082181120 : UInt64) (9218868437227405312 : UInt64))), .second, .val (.double (own_pick xc xd (18442240474082181120 : UInt64) (9218868437227405312 : UInt64))), .second, .val (.int v7_t0), .val (.int v9_t0), .unset] [(.int (1 : Int32))]))
        refine own_by (fun _ => XS.goto X9.here hx rfl (pc0 := 76) (pc' := 80) rfl (hb hby at_76) (by decide) (by decide)) ?_
        show own_Go p e below _ (T9.setTop (mkF m 80 #[.val (.int xa), .val (.int xb), .val (.int xc), .val (.int xd), .val (.double (18442240474082181120 : UInt64)), .second, .val (.double (9218868437227405312 : UInt64)), .second, .val (.double (own_pick xa xb (18442240474082181120 : UInt64) (9218868437227405312 : UInt64))), .second, .val (.double (own_pick xc xd (18442240474082181120 : UInt64) (9218868437227405312 : UInt64))), .second, .val (.int v7_t0), .val (.int v9_t0), .unset] [(.int (1 : Int32))]))
        exact J11 _ _ (by first | with_reducible rfl | simp only [if_neg hc67_12, if_pos hc72_13] | rfl) ⟨_, X9, N9, e9⟩
      ·
        skip
        refine own_by (fun _ => XS.ifYes X9.here hx rfl (pc0 := 72) (pc' := 79) rfl (hb hby at_72) rfl ((if0 _ _).trans (feq hc72_13).2) (by decide) (by decide)) ?_
        show own_Go p e below _ (T9.setTop (mkF m 79 #[.val (.int xa), .val (.int xb), .val (.int xc), .val (.int xd), .val (.double (18442240474082181120 : UInt64)), .second, .val (.double (9218868437227405312 : UInt64)), .second, .val (.double (own_pick xa xb (18442240474082181120 : UInt64) (9218868437227405312 : UInt64))), .second, .val (.double (own_pick xc xd (18442240474082181120 : UInt64) (9218868437227405312 : UInt64))), .second, .val (.int v7_t0), .val (.int v9_t0), .unset] []))
        refine own_by (fun _ => XS.iconst X9.here hx rfl (hb hby at_79)) ?_
        show own_Go p e below _ (T9.setTop (mkF m 80 #[.val (.int xa), .val (.int xb), .val (.int xc), .val (.int xd), .val (.double (18442240474082181120 : UInt64)), .second, .val (.double (9218868437227405312 : UInt64)), .second, .val (.double (own_pick xa xb (18442240474082181120 : UInt64) (9218868437227405312 : UInt64))), .second, .val (.double (own_pick xc xd (18442240474082181120 : UInt64) (9218868437227405312 : UInt64))), .second, .val (.int v7_t0), .val (.int v9_t0), .unset] [(.int (0 : Int32))]))
        exact J11 _ _ (by first | with_reducible rfl | simp only [if_neg hc67_12, if_neg hc72_13] | rfl) ⟨_, X9, N9, e9⟩
  intro T11 v11_t0 hv11_t0 ⟨locs11, X11, N11, e11⟩
  show own_Go p e below _ (T11.setTop (mkF m 80 #[.val (.int xa), .val (.int xb), .val (.int xc), .val (.int xd), .val (.double (18442240474082181120 : UInt64)), .second, .val (.double (9218868437227405312 : UInt64)), .second, .val (.double (own_pick xa xb (18442240474082181120 : UInt64) (9218868437227405312 : UInt64))), .second, .val (.double (own_pick xc xd (18442240474082181120 : UInt64) (9218868437227405312 : UInt64))), .second, .val (.int v7_t0), .val (.int v9_t0), .unset] [(.int v11_t0)]))
  refine own_by (fun _ => XS.istore X11.here hx rfl (hb hby at_80) rfl (l' := #[.val (.int xa), .val (.int xb), .val (.int xc), .val (.int xd), .val (.double (18442240474082181120 : UInt64)), .second, .val (.double (9218868437227405312 : UInt64)), .second, .val (.double (own_pick xa xb (18442240474082181120 : UInt64) (9218868437227405312 : UInt64))), .second, .val (.double (own_pick xc xd (18442240474082181120 : UInt64) (9218868437227405312 : UInt64))), .second, .val (.int v7_t0), .val (.int v9_t0), .val (.int v11_t0)]) rfl) ?_
  show own_Go p e below _ (T11.setTop (mkF m 82 #[.val (.int xa), .val (.int xb), .val (.int xc), .val (.int xd), .val (.double (18442240474082181120 : UInt64)), .second, .val (.double (9218868437227405312 : UInt64)), .second, .val (.double (own_pick xa xb (18442240474082181120 : UInt64) (9218868437227405312 : UInt64))), .second, .val (.double (own_pick xc xd (18442240474082181120 : UInt64) (9218868437227405312 : UInt64))), .second, .val (.int v7_t0), .val (.int v9_t0), .val (.int v11_t0)] []))
  obtain ⟨T14, h14, X14, e14, E14, A14, D14, -, st14⟩ := newO X11 hx hZ hown (hw _ (List.mem_of_getElem? (i := 21) rfl)) (hw _ (List.mem_of_getElem? (i := 22) rfl)) (hw _ (List.mem_of_getElem? (i := 1) rfl)) e11 (g := (mkF m 82 #[.val (.int xa), .val (.int xb), .val (.int xc), .val (.int xd), .val (.double (18442240474082181120 : UInt64)), .second, .val (.double (9218868437227405312 : UInt64)), .second, .val (.double (own_pick xa xb (18442240474082181120 : UInt64) (9218868437227405312 : UInt64))), .second, .val (.double (own_pick xc xd (18442240474082181120 : UInt64) (9218868437227405312 : UInt64))), .second, .val (.int v7_t0), .val (.int v9_t0), .val (.int v11_t0)] [])) rfl (hb hby at_82) (by decide) (by decide)
  obtain ⟨b14, g14⟩ : ∃ z, z = h0.size := ⟨_, rfl⟩
  rw [← g14] at A14 D14 st14
  refine own_by st14 ?_
  have ge14 : n0 ≤ b14 := Nat.le_trans Z0 (Nat.le_of_eq g14.symm)
  have ne14_ux : ux ≠ b14 := Nat.ne_of_lt (Nat.lt_of_lt_of_le pf1.lt (Nat.le_of_eq g14.symm))
  have z14 : n0 ≤ h14.size := Nat.le_trans Z0 E14.1
  have fz14_min : Fld Z h14 b14 "com/example/composiq/composiq/Bound" "min" "D" (.double 0) := D14 (Or.inr (hw _ (List.mem_of_getElem? (i := 9) rfl))) (ty := .double) (by decide)
  have fz14_max : Fld Z h14 b14 "com/example/composiq/composiq/Bound" "max" "D" (.double 0) := D14 (Or.inr (hw _ (List.mem_of_getElem? (i := 16) rfl))) (ty := .double) (by decide)
  show own_Go p e below _ (T14.setTop (mkF m 85 #[.val (.int xa), .val (.int xb), .val (.int xc), .val (.int xd), .val (.double (18442240474082181120 : UInt64)), .second, .val (.double (9218868437227405312 : UInt64)), .second, .val (.double (own_pick xa xb (18442240474082181120 : UInt64) (9218868437227405312 : UInt64))), .second, .val (.double (own_pick xc xd (18442240474082181120 : UInt64) (9218868437227405312 : UInt64))), .second, .val (.int v7_t0), .val (.int v9_t0), .val (.int v11_t0)] [(.ref b14)]))
  refine own_by (fun _ => XS.dup X14.here hx rfl (hb hby at_85) rfl rfl) ?_
  show own_Go p e below _ (T14.setTop (mkF m 86 #[.val (.int xa), .val (.int xb), .val (.int xc), .val (.int xd), .val (.double (18442240474082181120 : UInt64)), .second, .val (.double (9218868437227405312 : UInt64)), .second, .val (.double (own_pick xa xb (18442240474082181120 : UInt64) (9218868437227405312 : UInt64))), .second, .val (.double (own_pick xc xd (18442240474082181120 : UInt64) (9218868437227405312 : UInt64))), .second, .val (.int v7_t0), .val (.int v9_t0), .val (.int v11_t0)] [(.ref b14), (.ref b14)]))
  refine own_by (fun _ => XS.dload X14.here hx rfl (hb hby at_86) rfl) ?_
  show own_Go p e below _ (T14.setTop (mkF m 88 #[.val (.int xa), .val (.int xb), .val (.int xc), .val (.int xd), .val (.double (18442240474082181120 : UInt64)), .second, .val (.double (9218868437227405312 : UInt64)), .second, .val (.double (own_pick xa xb (18442240474082181120 : UInt64) (9218868437227405312 : UInt64))), .second, .val (.double (own_pick xc xd (18442240474082181120 : UInt64) (9218868437227405312 : UInt64))), .second, .val (.int v7_t0), .val (.int v9_t0), .val (.int v11_t0)] [(.double (own_pick xa xb (18442240474082181120 : UInt64) (9218868437227405312 : UInt64))), (.ref b14), (.ref b14)]))
  refine own_by (fun _ => XS.dload X14.here hx rfl (hb hby at_88) rfl) ?_
  show own_Go p e below _ (T14.setTop (mkF m 90 #[.val (.int xa), .val (.int xb), .val (.int xc), .val (.int xd), .val (.double (18442240474082181120 : UInt64)), .second, .val (.double (9218868437227405312 : UInt64)), .second, .val (.double (own_pick xa xb (18442240474082181120 : UInt64) (9218868437227405312 : UInt64))), .second, .val (.double (own_pick xc xd (18442240474082181120 : UInt64) (9218868437227405312 : UInt64))), .second, .val (.int v7_t0), .val (.int v9_t0), .val (.int v11_t0)] [(.double (own_pick xc xd (18442240474082181120 : UInt64) (9218868437227405312 : UInt64))), (.double (own_pick xa xb (18442240474082181120 : UInt64) (9218868437227405312 : UInt64))), (.ref b14), (.ref b14)]))
  obtain ⟨_, _, ⟨T15, L15, k15, n15⟩, -, X15, ⟨Lc15, hQ15, l15, y15, z15'⟩, st15⟩ := X14.specialBack hx (y := (⟨"com/example/composiq/composiq/Bound", "<init>", "(DD)V"⟩ : MethodName)) rfl hown (mvT hZ (hw _ (List.mem_of_getElem? (i := 23) rfl))) (mvT hZ (hw _ (List.mem_of_getElem? (i := 24) rfl))) (mvT hZ (hw _ (List.mem_of_getElem? (i := 25) rfl))) (by decide) (backOf (W := 1) (own_rm4 l Z a0 hw [] b14 (own_pick xa xb (18442240474082181120 : UInt64) (9218868437227405312 : UInt64)) (own_pick xc xd (18442240474082181120 : UInt64) (9218868437227405312 : UInt64)) 0 0 h14 n0 z14 A14 fz14_min fz14_max ge14) hZ (hw _ (List.mem_of_getElem? (i := 25) rfl)) (hw _ (List.mem_of_getElem? (i := 1) rfl)) (by decide) (by decide)) (g := (mkF m 90 #[.val (.int xa), .val (.int xb), .val (.int xc), .val (.int xd), .val (.double (18442240474082181120 : UInt64)), .second, .val (.double (9218868437227405312 : UInt64)), .second, .val (.double (own_pick xa xb (18442240474082181120 : UInt64) (9218868437227405312 : UInt64))), .second, .val (.double (own_pick xc xd (18442240474082181120 : UInt64) (9218868437227405312 : UInt64))), .second, .val (.int v7_t0), .val (.int v9_t0), .val (.int v11_t0)] [(.double (own_pick xc xd (18442240474082181120 : UInt64) (9218868437227405312 : UInt64))), (.double (own_pick xa xb (18442240474082181120 : UInt64) (9218868437227405312 : UInt64))), (.ref b14), (.ref b14)])) rfl (by rw [hml]; rfl) (Steps.refl _) (a := b14) (argsL := [(.double (own_pick xa xb (18442240474082181120 : UInt64) (9218868437227405312 : UInt64))), (.double (own_pick xc xd (18442240474082181120 : UInt64) (9218868437227405312 : UInt64)))]) (rest := [(.ref b14)]) (lenOf own_pd3 rfl) rfl (by show 2 * 0 + _ ≤ _; exact Nat.le_of_eq rfl) (hb hby at_90) (fun _ _ => ⟨rfl, e14, (by decide : 1 + 0 ≤ _), (by decide : 2 + 0 ≤ _)⟩)
  dsimp only [Pt.U, Pt.locs, Pt.cells, Pt.slots] at X15 l15 y15 z15' st15 hQ15
  subst l15 y15 z15'
  obtain ⟨rfl, N15q, Kc15, fc15_0, fc15_1⟩ := hQ15
  have N15 := Fr.app N11 N15q
  refine own_tr st15 ?_
  have z15 : n0 ≤ T15.heap.size := Nat.le_trans z14 Kc15.1
  show own_Go p e below _ (T15.setTop (mkF m 93 #[.val (.int xa), .val (.int xb), .val (.int xc), .val (.int xd), .val (.double (18442240474082181120 : UInt64)), .second, .val (.double (9218868437227405312 : UInt64)), .second, .val (.double (own_pick xa xb (18442240474082181120 : UInt64) (9218868437227405312 : UInt64))), .second, .val (.double (own_pick xc xd (18442240474082181120 : UInt64) (9218868437227405312 : UInt64))), .second, .val (.int v7_t0), .val (.int v9_t0), .val (.int v11_t0)] [(.ref b14)]))
  have f17 : Exa Z T15.heap b14 "com/example/composiq/composiq/Bound" := (A14.keep Kc15)
  obtain ⟨cq16, kq16, q16a, q16b, q16c⟩ := isOf hZ rfl f17
  obtain ⟨_, _, ⟨T16, L16, k16, n16⟩, -, X16, ⟨Lc16, hQ16, l16, y16, z16'⟩, st16⟩ := X15.virtualBack hx (y := (⟨"com/example/composiq/composiq/Bound", "isLimited", "()Z"⟩ : MethodName)) (z := (⟨"com/example/composiq/composiq/Bound", "isLimited", "()Z"⟩ : MethodName)) hown (mvT hZ (hw _ (List.mem_of_getElem? (i := 34) rfl))) (mvT hZ (hw _ (List.mem_of_getElem? (i := 35) rfl))) (notFace_of_selects (args := #[]) (mvT hZ (hw _ (List.mem_of_getElem? (i := 37) rfl)))) (mvT hZ (hw _ (List.mem_of_getElem? (i := 37) rfl))) (mvT hZ (hw _ (List.mem_of_getElem? (i := 36) rfl))) (by decide) (backOf (W := 0) (own_rm7 l Z a0 hw [] b14 (own_pick xa xb (18442240474082181120 : UInt64) (9218868437227405312 : UInt64)) (own_pick xc xd (18442240474082181120 : UInt64) (9218868437227405312 : UInt64)) T15.heap n0 z15 fc15_0 fc15_1) hZ (hw _ (List.mem_of_getElem? (i := 38) rfl)) (hw _ (List.mem_of_getElem? (i := 1) rfl)) (by decide) (by decide)) q16a q16c (g := (mkF m 93 #[.val (.int xa), .val (.int xb), .val (.int xc), .val (.int xd), .val (.double (18442240474082181120 : UInt64)), .second, .val (.double (9218868437227405312 : UInt64)), .second, .val (.double (own_pick xa xb (18442240474082181120 : UInt64) (9218868437227405312 : UInt64))), .second, .val (.double (own_pick xc xd (18442240474082181120 : UInt64) (9218868437227405312 : UInt64))), .second, .val (.int v7_t0), .val (.int v9_t0), .val (.int v11_t0)] [(.ref b14)])) rfl (by rw [hml]; rfl) (Steps.refl _) (argsL := []) (rest := []) (lenOf own_pd4 rfl) rfl (by show 2 * 0 + _ ≤ _; exact Nat.le_of_eq rfl) (hb hby at_93) (fun _ _ => ⟨rfl, rfl, (by decide : 1 + 0 ≤ _), (by decide : 2 + 0 ≤ _)⟩)
  dsimp only [Pt.U, Pt.locs, Pt.cells, Pt.slots] at X16 l16 y16 z16' st16 hQ16
  subst l16 y16 z16'
  obtain ⟨rfl, N16q, e16⟩ := hQ16
  have N16 := Fr.app N15 N16q
  refine own_tr st16 ?_
  show own_Go p e below _ (T16.setTop (mkF m 96 #[.val (.int xa), .val (.int xb), .val (.int xc), .val (.int xd), .val (.double (18442240474082181120 : UInt64)), .second, .val (.double (9218868437227405312 : UInt64)), .second, .val (.double (own_pick xa xb (18442240474082181120 : UInt64) (9218868437227405312 : UInt64))), .second, .val (.double (own_pick xc xd (18442240474082181120 : UInt64) (9218868437227405312 : UInt64))), .second, .val (.int v7_t0), .val (.int v9_t0), .val (.int v11_t0)] [(.int (own_limited (own_pick xa xb (18442240474082181120 : UInt64) (9218868437227405312 : UInt64)) (own_pick xc xd (18442240474082181120 : UInt64) (9218868437227405312 : UInt64))))]))
  refine own_by (fun _ => XS.iload X16.here hx rfl (hb hby at_96) rfl) ?_
  show own_Go p e below _ (T16.setTop (mkF m 98 #[.val (.int xa), .val (.int xb), .val (.int xc), .val (.int xd), .val (.double (18442240474082181120 : UInt64)), .second, .val (.double (9218868437227405312 : UInt64)), .second, .val (.double (own_pick xa xb (18442240474082181120 : UInt64) (9218868437227405312 : UInt64))), .second, .val (.double (own_pick xc xd (18442240474082181120 : UInt64) (9218868437227405312 : UInt64))), .second, .val (.int v7_t0), .val (.int v9_t0), .val (.int v11_t0)] [(.int v11_t0), (.int (own_limited (own_pick xa xb (18442240474082181120 : UInt64) (9218868437227405312 : UInt64)) (own_pick xc xd (18442240474082181120 : UInt64) (9218868437227405312 : UInt64))))]))
  suffices J18 : ∀ (T' : State) (v18_t0 : Int32), v18_t0 = (if (own_limited (own_pick xa xb (18442240474082181120 : UInt64) (9218868437227405312 : UInt64)) (own_pick xc xd (18442240474082181120 : UInt64) (9218868437227405312 : UInt64))) = v11_t0 then (1 : Int32) else (0 : Int32)) → own_At p l e room_1 s m #[(.int xa), (.int xb), (.int xc), (.int xd)] below meth c n0 T' T15.heap 1 2 → own_Go p e below (own_End s below (own_Q0 Z xa xb xc xd ux h0 n0) room_1.cells room_1.slots) (T'.setTop (mkF m 106 #[.val (.int xa), .val (.int xb), .val (.int xc), .val (.int xd), .val (.double (18442240474082181120 : UInt64)), .second, .val (.double (9218868437227405312 : UInt64)), .second, .val (.double (own_pick xa xb (18442240474082181120 : UInt64) (9218868437227405312 : UInt64))), .second, .val (.double (own_pick xc xd (18442240474082181120 : UInt64) (9218868437227405312 : UInt64))), .second, .val (.int v7_t0), .val (.int v9_t0), .val (.int v11_t0)] [(.int v18_t0)])) by
    by_cases hc98_19 : (own_limited (own_pick xa xb (18442240474082181120 : UInt64) (9218868437227405312 : UInt64)) (own_pick xc xd (18442240474082181120 : UInt64) (9218868437227405312 : UInt64))) = v11_t0
    ·
      skip
      refine own_by (fun _ => XS.icmpNo X16.here hx rfl (hb hby at_98) rfl (teq hc98_19).2) ?_
      show own_Go p e below _ (T16.setTop (mkF m 101 #[.val (.int xa), .val (.int xb), .val (.int xc), .val (.int xd), .val (.double (18442240474082181120 : UInt64)), .second, .val (.double (9218868437227405312 : UInt64)), .second, .val (.double (own_pick xa xb (18442240474082181120 : UInt64) (9218868437227405312 : UInt64))), .second, .val (.double (own_pick xc xd (18442240474082181120 : UInt64) (9218868437227405312 : UInt64))), .second, .val (.int v7_t0), .val (.int v9_t0), .val (.int v11_t0)] []))
      refine own_by (fun _ => XS.iconst X16.here hx rfl (hb hby at_101)) ?_
      show own_Go p e below _ (T16.setTop (mkF m 102 #[.val (.int xa), .val (.int xb), .val (.int xc), .val (.int xd), .val (.double (18442240474082181120 : UInt64)), .second, .val (.double (9218868437227405312 : UInt64)), .second, .val (.double (own_pick xa xb (18442240474082181120 : UInt64) (9218868437227405312 : UInt64))), .second, .val (.double (own_pick xc xd (18442240474082181120 : UInt64) (9218868437227405312 : UInt64))), .second, .val (.int v7_t0), .val (.int v9_t0), .val (.int v11_t0)] [(.int (1 : Int32))]))
      refine own_by (fun _ => XS.goto X16.here hx rfl (pc0 := 102) (pc' := 106) rfl (hb hby at_102) (by decide) (by decide)) ?_
      show own_Go p e below _ (T16.setTop (mkF m 106 #[.val (.int xa), .val (.int xb), .val (.int xc), .val (.int xd), .val (.double (18442240474082181120 : UInt64)), .second, .val (.double (9218868437227405312 : UInt64)), .second, .val (.double (own_pick xa xb (18442240474082181120 : UInt64) (9218868437227405312 : UInt64))), .second, .val (.double (own_pick xc xd (18442240474082181120 : UInt64) (9218868437227405312 : UInt64))), .second, .val (.int v7_t0), .val (.int v9_t0), .val (.int v11_t0)] [(.int (1 : Int32))]))
      exact J18 _ _ (by first | with_reducible rfl | simp only [if_pos hc98_19] | rfl) ⟨_, X16, N16, e16⟩
    ·
      skip
      refine own_by (fun _ => XS.icmpYes X16.here hx rfl (pc0 := 98) (pc' := 105) rfl (hb hby at_98) rfl (feq hc98_19).2 (by decide) (by decide)) ?_
      show own_Go p e below _ (T16.setTop (mkF m 105 #[.val (.int xa), .val (.int xb), .val (.int xc), .val (.int xd), .val (.double (18442240474082181120 : UInt64)), .second, .val (.double (9218868437227405312 : UInt64)), .second, .val (.double (own_pick xa xb (18442240474082181120 : UInt64) (9218868437227405312 : UInt64))), .second, .val (.double (own_pick xc xd (18442240474082181120 : UInt64) (9218868437227405312 : UInt64))), .second, .val (.int v7_t0), .val (.int v9_t0), .val (.int v11_t0)] []))
      refine own_by (fun _ => XS.iconst X16.here hx rfl (hb hby at_105)) ?_
      show own_Go p e below _ (T16.setTop (mkF m 106 #[.val (.int xa), .val (.int xb), .val (.int xc), .val (.int xd), .val (.double (18442240474082181120 : UInt64)), .second, .val (.double (9218868437227405312 : UInt64)), .second, .val (.double (own_pick xa xb (18442240474082181120 : UInt64) (9218868437227405312 : UInt64))), .second, .val (.double (own_pick xc xd (18442240474082181120 : UInt64) (9218868437227405312 : UInt64))), .second, .val (.int v7_t0), .val (.int v9_t0), .val (.int v11_t0)] [(.int (0 : Int32))]))
      exact J18 _ _ (by first | with_reducible rfl | simp only [if_neg hc98_19] | rfl) ⟨_, X16, N16, e16⟩
  intro T18 v18_t0 hv18_t0 ⟨locs18, X18, N18, e18⟩
  show own_Go p e below _ (T18.setTop (mkF m 106 #[.val (.int xa), .val (.int xb), .val (.int xc), .val (.int xd), .val (.double (18442240474082181120 : UInt64)), .second, .val (.double (9218868437227405312 : UInt64)), .second, .val (.double (own_pick xa xb (18442240474082181120 : UInt64) (9218868437227405312 : UInt64))), .second, .val (.double (own_pick xc xd (18442240474082181120 : UInt64) (9218868437227405312 : UInt64))), .second, .val (.int v7_t0), .val (.int v9_t0), .val (.int v11_t0)] [(.int v18_t0)]))
  exact own_retZ X18 hx hlk e18 (by rw [hv18_t0]; (repeat' split) <;> first | exact Or.inl rfl | exact Or.inr rfl) hret (hb hby at_106) (by decide) (by decide) ⟨(congrArg some (congrArg Value.int (by subst hv18_t0; subst hv11_t0; subst hv9_t0; subst hv7_t0; exact own_plain xa xb xc xd : v18_t0 = (1 : Int32)))), N18⟩

theorem own_eqd {args : Array Value} {s : State} {A B : Jvm.Term} {k : UInt64} (e : B.eval args s none [] s = some (.double k)) (h : (Jvm.Cond.eq A B).value args s none s [] = some true) : A.eval args s none [] s = some (.double k) := by
  obtain ⟨v, y, ha, hb, kin, -⟩ := cmp_v (Or.inl h)
  cases e.symm.trans hb
  simp only [Cond.value, ha, e] at h
  cases v <;> simp_all [Kin, Value.isRef]
theorem own_start {args : Array Value} {s : State} (hw : ∀ d ∈ tables_1, d.before args s = true) (hn : narrow_1.value args s none s [] = some true) :
    ∃ ux : Addr, Sta s s.heap "com/example/composiq/composiq/Bound" "UNBOUNDED" "Lcom/example/composiq/composiq/Bound;" (.ref ux) ∧ Exa s s.heap ux "com/example/composiq/composiq/Bound" ∧ Fld s s.heap ux "com/example/composiq/composiq/Bound" "min" "D" (.double (18442240474082181120 : UInt64)) ∧ Fld s s.heap ux "com/example/composiq/composiq/Bound" "max" "D" (.double (9218868437227405312 : UInt64)) := by
  obtain ⟨e0, r1⟩ := and_e hn
  obtain ⟨o0, o1⟩ := and_e r1
  obtain ⟨u0, ev0⟩ := exa_v e0
  have f0 := Fld.start ((fld_at ev0).symm.trans (own_eqd (k := (18442240474082181120 : UInt64)) (by rfl) o0))
  have f1 := Fld.start ((fld_at ev0).symm.trans (own_eqd (k := (9218868437227405312 : UInt64)) (by rfl) o1))
  exact ⟨u0, Sta.start ev0 (Or.inr ⟨(hw _ (List.mem_of_getElem? (i := 1) rfl)), (hw _ (List.mem_of_getElem? (i := 2) rfl))⟩), Exa.start ev0 e0, f0, f1⟩

theorem own_comes {Post : Tables → Env → Array Value → State → Outcome → State → Prop} (hpost : ∀ tb e args s v u, (limb_1_1.after args s (.returned v) u = true ∧ limb_1_2.after args s (.returned v) u = true ∧ True) → FrameEnd s (.returned v) u (Jvm.fieldLocs frame_1_writes args s ++ Jvm.arrayLocs frame_1_arrays args s ++ Jvm.staticLocs frame_1_statics s) 16 128 → Post tb e args s (.returned v) u) :
    ArmFor flags0 classFile x code maxLocals ret World_1 tables_1 room_1 Calls_1 rest_1 Pre_1 Post := by
  intro l hfl _ _ p e ha hc hk s m args below hf hA hF happ hP
  obtain ⟨hcalls, hrest, hpre⟩ := hP
  obtain ⟨-, -, -, hnamed, -, -, -, hat⟩ := (Spec.applies_iff hf).mp happ
  obtain ⟨hg, hn⟩ := and_e (Cond.before_iff.mp (show (Jvm.Cond.and given_1 narrow_1).before args s = true from hpre))
  obtain ⟨hg1, hg2⟩ := and_e hg
  obtain ⟨hg3, hg4⟩ := and_e hg2
  obtain ⟨hg5, hg6⟩ := and_e hg4
  obtain ⟨hg7, hg8⟩ := and_e hg6
  obtain ⟨w0, w1, w2, w3, rfl⟩ : ∃ w0 w1 w2 w3 : Value, args = #[w0, w1, w2, w3] := by
    have hs : args.size = 4 := by simpa [Cond.value, given_1] using hg1
    obtain ⟨L⟩ := args
    match L, hs with
    | [w0, w1, w2, w3], _ => exact ⟨w0, w1, w2, w3, rfl⟩
  have hw := fun d (hd : d ∈ tables_1) => atoms_spec (ws := Jvm.Cond.code x code maxLocals ret :: tables_1) hat d (List.mem_cons_of_mem _ hd)
  have hfit : Fit s := fun {y c} hc i hi => by
    obtain ⟨ha, rfl⟩ := Array.getElem?_eq_some_iff.mp hc
    have q := List.all_eq_true.mp ((Array.all_eq_true_iff_forall_mem.mp hF) _ (Array.getElem_mem ha)) i (List.mem_range.mpr hi)
    simpa [Array.getElem?_eq_getElem hi] using q
  obtain ⟨i0, ei0⟩ := is_v hg3
  obtain rfl : w0 = (.int i0) := Option.some.inj ei0
  obtain ⟨i1, ei1⟩ := is_v hg5
  obtain rfl : w1 = (.int i1) := Option.some.inj ei1
  obtain ⟨i2, ei2⟩ := is_v hg7
  obtain rfl : w2 = (.int i2) := Option.some.inj ei2
  obtain ⟨i3, ei3⟩ := is_v hg8
  obtain rfl : w3 = (.int i3) := Option.some.inj ei3
  obtain ⟨ux, t0, t1, t2, t3⟩ := own_start hw hn
  obtain ⟨n, o, h1, h2, h3, _, L, rfl, ⟨rfl, N⟩, hq⟩ := own_rm0 l s _ hw tables_1 i0 i1 i2 i3 ux s.heap s.heap.size (Nat.le_refl _) t0 t1 t2 t3 p e ha hc hk s m _ below hf ((Spec.applies_iff_loose hf).mp happ).1 ⟨rfl, State.Warmed39.refl s, rfl⟩ trivial
  refine ⟨n, _, h1, h2, h3, hpost _ _ _ _ _ _ ⟨Cond.after_iff.mpr rfl, Cond.after_iff.mpr (eq_i res_at (Term.int_eval (1)) rfl), trivial⟩ ⟨hq.1, hq.2.1, (hq.2.2.sift fun y hy => Or.inr (N y hy)).mono (by decide) (by decide)⟩⟩
theorem main_1_1 : Claimed_1_1 := own_comes fun _ _ _ _ _ _ h hF => ⟨h.1, hF⟩
theorem main_1_2 : Claimed_1_2 := own_comes fun _ _ _ _ _ _ h hF => ⟨h.2.1, hF⟩
end Jvm.Pilot.@@N@@
namespace Jvm.Pilot.@@N@@
open Jvm Jvm.ClassFile Sem Op Lib Jvm.Free Jvm.Stand Jvm.Pilot.@@N@@.Jvm.D
/-! MADE BY PROGRAM (witnessworld.py) out of the Statement's table words and the real class files: 10 classes; the members and pool entries that the words name. The judged class is class 1, her method 1. -/
namespace start1
open Jvm.ClassFile
def u (s : String) : CpInfo := .utf8 (stringToUtf16 s)
/-- a pool by its gaps: so many unusable entries, then the entry; so many at the end -/
def gap : Nat → List CpInfo → List CpInfo
  | 0, r => r
  | n + 1, r => .unusable :: gap n r
def poolList (es : List (Nat × CpInfo)) (last : Nat) : List CpInfo := es.foldr (fun e r => gap e.1 (e.2 :: r)) (gap last [])
def pool (es : List (Nat × CpInfo)) (last : Nat) : Array CpInfo := ⟨poolList es last⟩
def fileOf (pool : Array CpInfo) (this : Nat) (attrs : Array Attribute := #[]) (ms : Array MethodInfo := #[]) (fl : Nat := 33) (sup : Nat := 0) (ifs : Array Nat := #[]) (fds : Array FieldInfo := #[]) : ClassFile where
  minorVersion := 0
  majorVersion := 65
  constantPool := pool
  accessFlags := fl
  thisClass := this
  superClass := sup
  interfaces := ifs
  fields := fds
  methods := ms
  attributes := attrs
def plain (name : String) (sup : Option ClassId) : Class where
  name := name
  kind := .ordinary
  loader := none
  accessFlags := 33
  super := sup
  interfaces := #[]
  cf := none
  fields := #[]
  methods := #[]
  instanceTypes := #[]
  staticTypes := #[]
  resolved := #[]
  callSites := []
  init := .initialized
  statics := none
  mirror := none

def pool0 : Array CpInfo := pool [(5, u "<init>"), (0, u "()V"), (1, .class_ 10), (1, u "java/lang/Object")] 113

def k0c0 : Code := { maxStack := 0, maxLocals := 1, code := object_method_1_code, exceptionTable := #[], attributes := #[] }
def k0m0 : Method := { name := "<init>", desc := "()V", sig := { parameters := [], returnType := none }, accessFlags := 1, code := some k0c0 }
/-- java/lang/Object -/
def k0 : Class := { plain "java/lang/Object" none with
  accessFlags := 33
  interfaces := #[]
  cf := some (fileOf pool0 8 #[] #[{ accessFlags := 1, nameIndex := 5, descriptorIndex := 6, attributes := #[] }] 33 0 #[] #[])
  fields := #[]
  methods := #[k0m0]
  instanceTypes := #[]
  staticTypes := #[]
  resolved := Array.replicate 124 none
  statics := none }

def pool1 : Array CpInfo := pool [(2, .class_ 4), (1, u "java/lang/Object"), (0, u "<init>"), (0, u "()V"), (0, .fieldref 8 9), (0, .class_ 10), (0, .nameAndType 11 12), (0, u "com/example/composiq/composiq/Bound"), (0, u "UNBOUNDED"), (0, u "Lcom/example/composiq/composiq/Bound;"), (0, .methodref 8 14), (0, .nameAndType 15 16), (0, u "min"), (0, u "()D"), (0, .methodref 8 18), (0, .nameAndType 19 16), (0, u "max"), (0, .methodref 21 22), (0, .class_ 23), (0, .nameAndType 24 25), (0, u "com/example/composiq/composiq/BoundIsLimitedPinLaw"), (0, u "pick"), (0, u "(IIDD)D"), (0, .methodref 8 27), (0, .nameAndType 5 28), (0, u "(DD)V"), (0, .methodref 8 30), (0, .nameAndType 31 32), (0, u "isLimited"), (0, u "()Z"), (2, u "law"), (0, u "(IIII)Z")] 3

def k1m0 : Method := { name := "<init>", desc := "()V", sig := { parameters := [], returnType := none }, accessFlags := 1, code := none }
def k1c1 : Code := { maxStack := 6, maxLocals := 15, code := code, exceptionTable := #[], attributes := #[] }
def k1m1 : Method := { name := "law", desc := "(IIII)Z", sig := { parameters := [.int, .int, .int, .int], returnType := some .boolean }, accessFlags := 9, code := some k1c1 }
def k1c2 : Code := { maxStack := 2, maxLocals := 7, code := method_3_code, exceptionTable := #[], attributes := #[] }
def k1m2 : Method := { name := "pick", desc := "(IIDD)D", sig := { parameters := [.int, .int, .double, .double], returnType := some .double }, accessFlags := 10, code := some k1c2 }
/-- com/example/composiq/composiq/BoundIsLimitedPinLaw -/
def k1 : Class := { plain "com/example/composiq/composiq/BoundIsLimitedPinLaw" (some 0) with
  accessFlags := 49
  interfaces := #[]
  cf := some (fileOf pool1 21 #[] #[{ accessFlags := 1, nameIndex := 5, descriptorIndex := 6, attributes := #[] }, { accessFlags := 9, nameIndex := 35, descriptorIndex := 36, attributes := #[] }, { accessFlags := 10, nameIndex := 24, descriptorIndex := 25, attributes := #[] }] 49 2 #[] #[])
  fields := #[]
  methods := #[k1m0, k1m1, k1m2]
  instanceTypes := #[]
  staticTypes := #[]
  resolved := Array.replicate 40 none
  statics := none }

def pool2 : Array CpInfo := pool [(1, .methodref 2 3), (0, .class_ 4), (0, .nameAndType 5 6), (0, u "java/lang/Object"), (0, u "<init>"), (0, u "()V"), (0, .class_ 8), (0, u "java/lang/Record")] 13

def k2c0 : Code := { maxStack := 1, maxLocals := 1, code := jdk_30_method_1_code, exceptionTable := #[], attributes := #[] }
def k2m0 : Method := { name := "<init>", desc := "()V", sig := { parameters := [], returnType := none }, accessFlags := 4, code := some k2c0 }
/-- java/lang/Record -/
def k2 : Class := { plain "java/lang/Record" (some 0) with
  accessFlags := 1057
  interfaces := #[]
  cf := some (fileOf pool2 7 #[] #[{ accessFlags := 4, nameIndex := 5, descriptorIndex := 6, attributes := #[] }] 1057 2 #[] #[])
  fields := #[]
  methods := #[k2m0]
  instanceTypes := #[]
  staticTypes := #[]
  resolved := Array.replicate 22 none
  statics := none }

def pool3 : Array CpInfo := pool [(1, .methodref 2 3), (0, .class_ 4), (0, .nameAndType 5 6), (0, u "java/lang/Record"), (0, u "<init>"), (0, u "()V"), (0, .fieldref 8 9), (0, .class_ 10), (0, .nameAndType 11 12), (0, u "com/example/composiq/composiq/Bound"), (0, u "min"), (0, u "D"), (0, .fieldref 8 14), (0, .nameAndType 15 12), (0, u "max"), (3, u "()D"), (7, .double 18442240474082181120), (1, .double 9218868437227405312), (15, u "(DD)V"), (2, u "UNBOUNDED"), (0, u "Lcom/example/composiq/composiq/Bound;"), (0, u "TOLERANCE"), (7, u "isLimited"), (0, u "()Z")] 25

def k3c0 : Code := { maxStack := 3, maxLocals := 5, code := prog_4_method_1_code, exceptionTable := #[], attributes := #[] }
def k3m0 : Method := { name := "<init>", desc := "(DD)V", sig := { parameters := [.double, .double], returnType := none }, accessFlags := 0, code := some k3c0 }
def k3c1 : Code := { maxStack := 4, maxLocals := 1, code := prog_4_method_5_code, exceptionTable := #[], attributes := #[] }
def k3m1 : Method := { name := "isLimited", desc := "()Z", sig := { parameters := [], returnType := some .boolean }, accessFlags := 0, code := some k3c1 }
def k3c2 : Code := { maxStack := 2, maxLocals := 1, code := prog_4_method_9_code, exceptionTable := #[], attributes := #[] }
def k3m2 : Method := { name := "min", desc := "()D", sig := { parameters := [], returnType := some .double }, accessFlags := 1, code := some k3c2 }
def k3c3 : Code := { maxStack := 2, maxLocals := 1, code := prog_4_method_10_code, exceptionTable := #[], attributes := #[] }
def k3m3 : Method := { name := "max", desc := "()D", sig := { parameters := [], returnType := some .double }, accessFlags := 1, code := some k3c3 }
/-- com/example/composiq/composiq/Bound -/
def k3 : Class := { plain "com/example/composiq/composiq/Bound" (some 2) with
  accessFlags := 48
  interfaces := #[]
  cf := some (fileOf pool3 8 #[] #[{ accessFlags := 0, nameIndex := 5, descriptorIndex := 45, attributes := #[] }, { accessFlags := 0, nameIndex := 58, descriptorIndex := 59, attributes := #[] }, { accessFlags := 1, nameIndex := 11, descriptorIndex := 19, attributes := #[] }, { accessFlags := 1, nameIndex := 15, descriptorIndex := 19, attributes := #[] }] 48 2 #[] #[{ accessFlags := 18, nameIndex := 11, descriptorIndex := 12, attributes := #[] }, { accessFlags := 18, nameIndex := 15, descriptorIndex := 12, attributes := #[] }, { accessFlags := 24, nameIndex := 50, descriptorIndex := 12, attributes := #[] }, { accessFlags := 24, nameIndex := 48, descriptorIndex := 49, attributes := #[] }])
  fields := #[{ name := "min", type := .double, accessFlags := 18, slot := 0, constantValue := 0 }, { name := "max", type := .double, accessFlags := 18, slot := 1, constantValue := 0 }, { name := "TOLERANCE", type := .double, accessFlags := 24, slot := 0, constantValue := 0 }, { name := "UNBOUNDED", type := (.object "com/example/composiq/composiq/Bound"), accessFlags := 24, slot := 1, constantValue := 0 }]
  methods := #[k3m0, k3m1, k3m2, k3m3]
  instanceTypes := #[.double, .double]
  staticTypes := #[.double, (.object "com/example/composiq/composiq/Bound")]
  resolved := Array.replicate 85 none
  statics := some 0 }

def pool4 : Array CpInfo := pool [(1, u "java/lang/Cloneable"), (0, .class_ 1), (0, u "java/lang/Object"), (0, .class_ 3)] 3

/-- java/lang/Cloneable -/
def k4 : Class := { plain "java/lang/Cloneable" (some 0) with
  accessFlags := 1537
  interfaces := #[]
  cf := some (fileOf pool4 2 #[] #[] 1537 4 #[] #[])
  fields := #[]
  methods := #[]
  instanceTypes := #[]
  staticTypes := #[]
  resolved := Array.replicate 8 none
  statics := none }

def pool5 : Array CpInfo := pool [(1, u "java/io/Serializable"), (0, .class_ 1), (0, u "java/lang/Object"), (0, .class_ 3)] 3

/-- java/io/Serializable -/
def k5 : Class := { plain "java/io/Serializable" (some 0) with
  accessFlags := 1537
  interfaces := #[]
  cf := some (fileOf pool5 2 #[] #[] 1537 4 #[] #[])
  fields := #[]
  methods := #[]
  instanceTypes := #[]
  staticTypes := #[]
  resolved := Array.replicate 8 none
  statics := none }

/-- the primitive byte -/
def k6 : Class := { plain "byte" none with kind := .primitive 'B', accessFlags := 0x411 }
/-- [B -/
def k7 : Class := { plain "[B" (some 0) with kind := .array 6 .byte, interfaces := #[4, 5], accessFlags := 1041 }

/-- the primitive int -/
def k8 : Class := { plain "int" none with kind := .primitive 'I', accessFlags := 0x411 }
/-- [I -/
def k9 : Class := { plain "[I" (some 0) with kind := .array 8 .int, interfaces := #[4, 5], accessFlags := 1041 }

def heap : Heap := #[{ cls := 3, slots := #[.double 0, .ref 1], vm := .statics 3 },
  { cls := 3, slots := #[.double 18442240474082181120, .double 9218868437227405312], vm := .none }]
def classes : Array Class := #[k0, k1, k2, k3, k4, k5, k6, k7, k8, k9]
def interned : List (Array UInt16 × Addr) := []
def slotsUsed : Nat := 4
def theMethod : MethodId := ⟨1, 1⟩
def args0 : Array Value := #[.int 1, .int 0, .int 1, .int 0]
def aboutOver (below : List Frame) : State where
  vm := { classes := classes, interned := interned.toArray }
  heap := heap
  slotsUsed := slotsUsed
  threads := #[{ frames := .invoking theMethod args0 :: below }]
def below0 : List Frame := [.native { method := ⟨0, 0⟩, args := #[] }]
def about1 : State := aboutOver below0
def p0 : Program := .bare "" "" ""
def e0 : Env := launch0.env 0 0 0
theorem w_frames : about1.frames = Frame.invoking theMethod args0 :: below0 := rfl
set_option maxRecDepth 65536 in
theorem w_args : argsFit about1.vm theMethod args0 = true := by decide +kernel
set_option maxRecDepth 65536 in
theorem w_heap : heapFits about1 = true := by decide +kernel
set_option maxRecDepth 65536 in
theorem w_runnable : about1.curStatus? = some .runnable := by decide +kernel
set_option maxRecDepth 65536 in
theorem w_alone : about1.alone = true := by decide +kernel
set_option maxRecDepth 65536 in
theorem w_named : about1.methodNamed? x = some theMethod := by decide +kernel
set_option maxRecDepth 65536 in
theorem w_hears : about1.hears theMethod below0 = true := by decide +kernel
set_option maxRecDepth 65536 in
theorem w_ripe : about1.ripe theMethod args0 below0 = true := by decide +kernel
theorem w_running : about1.status = .running := rfl
set_option maxRecDepth 65536 in
theorem w_room : about1.hasRoom e0.platform room_1 = true :=
  launch0.hasRoom_least _ room_1 (by decide +kernel) (by decide +kernel) (by decide +kernel) (by decide +kernel) (by decide +kernel) (by decide +kernel)
theorem allAtoms_all (ts : List Jvm.Cond) (a : Array Jvm.Value) (st : Jvm.State) : (allAtoms ts).before a st = ts.all (fun c => c.before a st) := by
  induction ts with
  | nil => rfl
  | cons c t ih =>
    show (Jvm.Cond.and c (allAtoms t)).before a st = _
    rw [Jvm.Cond.before_and, ih, List.all_cons]
def words1 : List Jvm.Cond := Jvm.Cond.code x code maxLocals ret :: tables_1
/-- a 'code' word, met by the world's own term for the bytes: nothing is compared byte by byte -/
theorem code_word {y : MethodName} {bytes : ByteArray} {mx : Nat} {rt : Option FieldType} {a : Array Value} {s : State} {m : MethodId} {meth : Method} {c : Code} (h1 : s.methodNamed? y = some m) (h2 : s.vm.method? m = some meth) (h3 : meth.code = some c) (h4 : c.code = bytes)
    (h5 : (c.maxLocals == mx && c.exceptionTable.isEmpty && decide (c.maxStack ≤ mostOperands) && decide (meth.sig.returnType = rt) && !meth.locks && decide (parseMethodDescriptor y.desc = some meth.sig)) = true) : (Jvm.Cond.code y bytes mx rt).before a s = true := by
  simp only [Bool.and_eq_true, beq_iff_eq, Bool.not_eq_true', decide_eq_true_eq] at h5
  obtain ⟨⟨⟨⟨⟨g1, g2⟩, g3⟩, g4⟩, g5⟩, g6⟩ := h5
  simp [Cond.before, Cond.holds, Cond.value, h1, h2, h3, h4, g1, g2, g3, g4, g5, g6]
def isCode : Jvm.Cond → Bool
  | .code _ _ _ _ => true
  | _ => false
theorem all_split {L : List Jvm.Cond} {P : Jvm.Cond → Bool} (h1 : L.all (fun c => isCode c || P c) = true) (h2 : ∀ c ∈ L.filter isCode, P c = true) : L.all P = true := by
  refine List.all_eq_true.mpr fun c hc => ?_
  have h := List.all_eq_true.mp h1 c hc
  rcases Bool.eq_false_or_eq_true (isCode c) with hi | hi
  · exact h2 c (List.mem_filter.mpr ⟨hc, hi⟩)
  · simpa [hi] using h
set_option maxRecDepth 65536 in
theorem w_c0 : (Jvm.Cond.code x code maxLocals ret).before args0 about1 = true := code_word (m := ⟨1, 1⟩) (meth := k1m1) (c := k1c1) (by decide +kernel) rfl rfl rfl (by decide +kernel)
set_option maxRecDepth 65536 in
theorem w_c1 : (Jvm.Cond.code ({ cls := "com/example/composiq/composiq/Bound", name := "min", desc := "()D" } : Jvm.MethodName) prog_4_method_9_code (1 : Nat) (Option.some Jvm.ClassFile.FieldType.double)).before args0 about1 = true := code_word (m := ⟨3, 2⟩) (meth := k3m2) (c := k3c2) (by decide +kernel) rfl rfl rfl (by decide +kernel)
set_option maxRecDepth 65536 in
theorem w_c2 : (Jvm.Cond.code ({ cls := "com/example/composiq/composiq/Bound", name := "max", desc := "()D" } : Jvm.MethodName) prog_4_method_10_code (1 : Nat) (Option.some Jvm.ClassFile.FieldType.double)).before args0 about1 = true := code_word (m := ⟨3, 3⟩) (meth := k3m3) (c := k3c3) (by decide +kernel) rfl rfl rfl (by decide +kernel)
set_option maxRecDepth 65536 in
theorem w_c3 : (Jvm.Cond.code ({ cls := "com/example/composiq/composiq/BoundIsLimitedPinLaw", name := "pick", desc := "(IIDD)D" } : Jvm.MethodName) method_3_code (7 : Nat) (Option.some Jvm.ClassFile.FieldType.double)).before args0 about1 = true := code_word (m := ⟨1, 2⟩) (meth := k1m2) (c := k1c2) (by decide +kernel) rfl rfl rfl (by decide +kernel)
set_option maxRecDepth 65536 in
theorem w_c4 : (Jvm.Cond.code ({ cls := "com/example/composiq/composiq/Bound", name := "<init>", desc := "(DD)V" } : Jvm.MethodName) prog_4_method_1_code (5 : Nat) (Option.none : Option Jvm.ClassFile.FieldType)).before args0 about1 = true := code_word (m := ⟨3, 0⟩) (meth := k3m0) (c := k3c0) (by decide +kernel) rfl rfl rfl (by decide +kernel)
set_option maxRecDepth 65536 in
theorem w_c5 : (Jvm.Cond.code ({ cls := "java/lang/Record", name := "<init>", desc := "()V" } : Jvm.MethodName) jdk_30_method_1_code (1 : Nat) (Option.none : Option Jvm.ClassFile.FieldType)).before args0 about1 = true := code_word (m := ⟨2, 0⟩) (meth := k2m0) (c := k2c0) (by decide +kernel) rfl rfl rfl (by decide +kernel)
set_option maxRecDepth 65536 in
theorem w_c6 : (Jvm.Cond.code ({ cls := "java/lang/Object", name := "<init>", desc := "()V" } : Jvm.MethodName) object_method_1_code (1 : Nat) (Option.none : Option Jvm.ClassFile.FieldType)).before args0 about1 = true := code_word (m := ⟨0, 0⟩) (meth := k0m0) (c := k0c0) (by decide +kernel) rfl rfl rfl (by decide +kernel)
set_option maxRecDepth 65536 in
theorem w_c7 : (Jvm.Cond.code ({ cls := "com/example/composiq/composiq/Bound", name := "isLimited", desc := "()Z" } : Jvm.MethodName) prog_4_method_5_code (1 : Nat) (Option.some Jvm.ClassFile.FieldType.boolean)).before args0 about1 = true := code_word (m := ⟨3, 1⟩) (meth := k3m1) (c := k3c1) (by decide +kernel) rfl rfl rfl (by decide +kernel)
def codes1 : List Jvm.Cond := [Jvm.Cond.code x code maxLocals ret, Jvm.Cond.code ({ cls := "com/example/composiq/composiq/Bound", name := "min", desc := "()D" } : Jvm.MethodName) prog_4_method_9_code (1 : Nat) (Option.some Jvm.ClassFile.FieldType.double), Jvm.Cond.code ({ cls := "com/example/composiq/composiq/Bound", name := "max", desc := "()D" } : Jvm.MethodName) prog_4_method_10_code (1 : Nat) (Option.some Jvm.ClassFile.FieldType.double), Jvm.Cond.code ({ cls := "com/example/composiq/composiq/BoundIsLimitedPinLaw", name := "pick", desc := "(IIDD)D" } : Jvm.MethodName) method_3_code (7 : Nat) (Option.some Jvm.ClassFile.FieldType.double), Jvm.Cond.code ({ cls := "com/example/composiq/composiq/Bound", name := "<init>", desc := "(DD)V" } : Jvm.MethodName) prog_4_method_1_code (5 : Nat) (Option.none : Option Jvm.ClassFile.FieldType), Jvm.Cond.code ({ cls := "java/lang/Record", name := "<init>", desc := "()V" } : Jvm.MethodName) jdk_30_method_1_code (1 : Nat) (Option.none : Option Jvm.ClassFile.FieldType), Jvm.Cond.code ({ cls := "java/lang/Object", name := "<init>", desc := "()V" } : Jvm.MethodName) object_method_1_code (1 : Nat) (Option.none : Option Jvm.ClassFile.FieldType), Jvm.Cond.code ({ cls := "com/example/composiq/composiq/Bound", name := "isLimited", desc := "()Z" } : Jvm.MethodName) prog_4_method_5_code (1 : Nat) (Option.some Jvm.ClassFile.FieldType.boolean)]
set_option maxRecDepth 65536 in
theorem codes_eq : words1.filter isCode = codes1 := rfl
theorem w_codes : ∀ c ∈ words1.filter isCode, c.before args0 about1 = true := by
  rw [codes_eq]
  intro c hc
  simp only [codes1, List.mem_cons, List.not_mem_nil, or_false] at hc
  rcases hc with rfl | rfl | rfl | rfl | rfl | rfl | rfl | rfl
  · exact w_c0
  · exact w_c1
  · exact w_c2
  · exact w_c3
  · exact w_c4
  · exact w_c5
  · exact w_c6
  · exact w_c7
set_option maxRecDepth 65536 in
theorem w_t1 : (words1.take 24).all (fun c => isCode c || c.before args0 about1) = true := by decide +kernel
set_option maxRecDepth 65536 in
theorem w_t2 : (words1.drop 24).all (fun c => isCode c || c.before args0 about1) = true := by decide +kernel
theorem w_tables : (allAtoms (Jvm.Cond.code x code maxLocals ret :: tables_1)).before args0 about1 = true := by
  rw [allAtoms_all]
  show words1.all (fun c => c.before args0 about1) = true
  refine all_split ?_ w_codes
  rw [← List.take_append_drop 24 words1, List.all_append, w_t1, w_t2]
  rfl
set_option maxRecDepth 65536 in
theorem w_case : (Jvm.Cond.and given_1 narrow_1).before args0 about1 = true := by decide +kernel
theorem w_applies : (headSpec (Jvm.Cond.code x code maxLocals ret :: tables_1) room_1).applies x e0.platform about1 = true :=
  (Spec.applies_iff w_frames).mpr ⟨w_running, w_runnable, w_alone, w_named, w_hears, w_ripe, w_room, w_tables⟩
theorem atStart : AtStart classFile x code maxLocals ret World_1 tables_1 room_1 Calls_1 rest_1 Pre_1 launch0 p0 e0 about1 theMethod args0 below0 :=
  ⟨lists_1, trivial, launch0.admits_env _ _ _, launch0.least_env, fairChoices_fair.cas, fairChoices_fair.clock, w_frames, w_args, w_heap, w_applies, trivial, trivial, w_case⟩
end start1
theorem witness_1 : WitnessClaimed_1 := ⟨start1.p0, start1.e0, start1.about1, start1.theMethod, start1.args0, start1.below0, start1.atStart⟩
end Jvm.Pilot.@@N@@
