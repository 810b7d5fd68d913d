import JvmDerived
import JvmDerived.Pilot.@@N@@Statement
import JvmDerived.Pilot.@@N@@Code
set_option linter.unusedVariables false
set_option linter.unusedSimpArgs false
set_option maxRecDepth 65536
set_option maxHeartbeats 40000000
namespace Jvm.Pilot.@@N@@
open Jvm Jvm.ClassFile Sem Op Lib Jvm.Free Jvm.Stand Jvm.LawKit Jvm.RoadKit Bundle Jvm.Pilot.@@N@@.Jvm.D
section OwnKit
variable {p : Program} {l : Launch} {e : Env} {R : Room} {s : State} {m : MethodId} {args : Array Value} {below : List Frame} {meth : Method} {c : Code} {T : State} {locs : List Loc} {cells slots : Nat}
/-- from here the run comes to an end that E allows -/
def own_Go (p : Program) (e : Env) (below : List Frame) (E : State → Prop) (S : State) : Prop := ∃ t, Steps p.tables e below S t ∧ E t
/-- the invocation has ended, with a value, a heap and a list of written places that Q allows -/
def own_End (s : State) (below : List Frame) (Q : Option Value → Heap → List Loc → Prop) (C N : Nat) (t : State) : Prop :=
  t.status = .running ∧ ∃ v L, Ended t below (.returned v) ∧ Q v t.heap L ∧ FrameEnd s (.returned v) t L C N
/-- the walk stands here, with this heap, having written only what is new -/
def own_At (p : Program) (l : Launch) (e : Env) (R : Room) (s : State) (m : MethodId) (args : Array Value) (below : List Frame) (meth : Method) (c : Code) (n0 : Nat) (T : State) (h : Heap) (cells slots : Nat) : Prop :=
  ∃ locs, Stand p l e R s m args below meth c T locs cells slots ∧ Fr n0 locs ∧ T.heap = h
theorem own_by {E : State → Prop} {S S' : State} (k : ∀ t, Steps p.tables e below S' t → Steps p.tables e below S t) (h : own_Go p e below E S') : own_Go p e below E S :=
  h.imp fun t q => ⟨k t q.1, q.2⟩
theorem own_tr {E : State → Prop} {S S' : State} (k : Steps p.tables e below S S') (h : own_Go p e below E S') : own_Go p e below E S :=
  h.imp fun t q => ⟨k.trans q.1, q.2⟩
theorem own_mono {E E' : State → Prop} {S : State} (k : ∀ t, E t → E' t) (h : own_Go p e below E S) : own_Go p e below E' S := h.imp fun t q => ⟨q.1, k t q.2⟩
theorem own_monoQ {Q Q' : Option Value → Heap → List Loc → Prop} {C N : Nat} {S : State} (k : ∀ v h L, Q v h L → Q' v h L) (h : own_Go p e below (own_End s below Q C N) S) : own_Go p e below (own_End s below Q' C N) S :=
  own_mono (fun t ⟨a, v, L, b, q, r⟩ => ⟨a, v, L, b, k _ _ _ q, r⟩) h
variable {Q : Option Value → Heap → List Loc → Prop} {C N : Nat} {h : Heap} {pc : Nat} {Ls : Array Slot} {rest : List Value}
theorem own_ret (X : Stand p l e R s m args below meth c T locs cells slots) (hx : p.tables.exec = Jvm.exec) (hlk : meth.locks = false) (eT : T.heap = h) {w : Value} {t : FieldType} {i : Instr} (hret : meth.sig.returnType = some t) (hn : narrow t w = w)
    (hi : (i = .ireturn ∧ (t = .int ∨ t = .boolean ∨ t = .byte ∨ t = .char ∨ t = .short) ∧ ∃ z, w = .int z) ∨ (i = .lreturn ∧ t = .long ∧ ∃ z, w = .long z) ∨ (i = .dreturn ∧ t = .double ∧ ∃ z, w = .double z) ∨ (i = .freturn ∧ t = .float ∧ ∃ z, w = .float z) ∨ (i = .areturn ∧ t.isReference = true ∧ w.isRef = true))
    (hd : decode c.code pc = .ok (i, 1)) (hc : cells ≤ C) (hs : slots ≤ N) (hQ : Q (some w) h locs) : own_Go p e below (own_End s below Q C N) (T.setTop (mkF m pc Ls (w :: rest))) := by
  obtain ⟨fs, hr, hrun, hended, hW, hsame⟩ := X.leave (v := some w) (fun q => by rw [hret] at q; cases q) hlk
  subst eT
  exact ⟨_, retOut X hx hret hn hi hd hr, hrun, _, _, hended, hQ, ⟨_, rfl⟩, hW, hsame.mono hc hs⟩
theorem own_retI (X : Stand p l e R s m args below meth c T locs cells slots) (hx : p.tables.exec = Jvm.exec) (hlk : meth.locks = false) (eT : T.heap = h) {z : Int32} (hret : meth.sig.returnType = some .int) (hd : decode c.code pc = .ok (.ireturn, 1)) (hc : cells ≤ C) (hs : slots ≤ N) (hQ : Q (some (.int z)) h locs) :
    own_Go p e below (own_End s below Q C N) (T.setTop (mkF m pc Ls (.int z :: rest))) := own_ret X hx hlk eT hret rfl (Or.inl ⟨rfl, Or.inl rfl, _, rfl⟩) hd hc hs hQ
theorem own_retZ (X : Stand p l e R s m args below meth c T locs cells slots) (hx : p.tables.exec = Jvm.exec) (hlk : meth.locks = false) (eT : T.heap = h) {z : Int32} (hz : z = 0 ∨ z = 1) (hret : meth.sig.returnType = some .boolean) (hd : decode c.code pc = .ok (.ireturn, 1)) (hc : cells ≤ C) (hs : slots ≤ N) (hQ : Q (some (.int z)) h locs) :
    own_Go p e below (own_End s below Q C N) (T.setTop (mkF m pc Ls (.int z :: rest))) := own_ret X hx hlk eT hret (by rcases hz with rfl | rfl <;> rfl) (Or.inl ⟨rfl, Or.inr (Or.inl rfl), _, rfl⟩) hd hc hs hQ
theorem own_retJ (X : Stand p l e R s m args below meth c T locs cells slots) (hx : p.tables.exec = Jvm.exec) (hlk : meth.locks = false) (eT : T.heap = h) {z : Int64} (hret : meth.sig.returnType = some .long) (hd : decode c.code pc = .ok (.lreturn, 1)) (hc : cells ≤ C) (hs : slots ≤ N) (hQ : Q (some (.long z)) h locs) :
    own_Go p e below (own_End s below Q C N) (T.setTop (mkF m pc Ls (.long z :: rest))) := own_ret X hx hlk eT hret rfl (Or.inr (Or.inl ⟨rfl, rfl, _, rfl⟩)) hd hc hs hQ
theorem own_retD (X : Stand p l e R s m args below meth c T locs cells slots) (hx : p.tables.exec = Jvm.exec) (hlk : meth.locks = false) (eT : T.heap = h) {z : UInt64} (hret : meth.sig.returnType = some .double) (hd : decode c.code pc = .ok (.dreturn, 1)) (hc : cells ≤ C) (hs : slots ≤ N) (hQ : Q (some (.double z)) h locs) :
    own_Go p e below (own_End s below Q C N) (T.setTop (mkF m pc Ls (.double z :: rest))) := own_ret X hx hlk eT hret rfl (Or.inr (Or.inr (Or.inl ⟨rfl, rfl, _, rfl⟩))) hd hc hs hQ
theorem own_retR (X : Stand p l e R s m args below meth c T locs cells slots) (hx : p.tables.exec = Jvm.exec) (hlk : meth.locks = false) (eT : T.heap = h) {w : Value} {t : FieldType} (hw : w.isRef = true) (ht : t.isReference = true) (hret : meth.sig.returnType = some t) (hd : decode c.code pc = .ok (.areturn, 1)) (hc : cells ≤ C) (hs : slots ≤ N) (hQ : Q (some w) h locs) :
    own_Go p e below (own_End s below Q C N) (T.setTop (mkF m pc Ls (w :: rest))) := own_ret X hx hlk eT hret (by cases t <;> first | (cases ht; done) | (cases w <;> first | rfl | cases hw)) (Or.inr (Or.inr (Or.inr (Or.inr ⟨rfl, ht, hw⟩)))) hd hc hs hQ
theorem own_retV (X : Stand p l e R s m args below meth c T locs cells slots) (hx : p.tables.exec = Jvm.exec) (hlk : meth.locks = false) (eT : T.heap = h) (hret : meth.sig.returnType = none) (hd : decode c.code pc = .ok (.return_, 1)) (hc : cells ≤ C) (hs : slots ≤ N) (hQ : Q none h locs) :
    own_Go p e below (own_End s below Q C N) (T.setTop (mkF m pc Ls [])) := by
  obtain ⟨fs, hr, hrun, hended, hW, hsame⟩ := X.leave (v := none) (fun _ => rfl) hlk
  subst eT
  exact ⟨_, X.returnOut hx hret hd hr, hrun, _, _, hended, hQ, ⟨_, rfl⟩, hW, hsame.mono hc hs⟩
end OwnKit

theorem own_pd0 : parseMethodDescriptor "()V" = some ⟨[], none⟩ := by decide +kernel
theorem own_pd1 : parseMethodDescriptor "(JZJI)V" = some ⟨[.long, .boolean, .long, .int], none⟩ := by decide +kernel
theorem own_pd2 : parseMethodDescriptor "()Z" = some ⟨[], some .boolean⟩ := by decide +kernel
theorem own_d2_0 : decode jdk_30_method_1_code 0 = .ok (.aload_n 0, 1) := by decide +kernel
theorem own_d2_1 : decode jdk_30_method_1_code 1 = .ok (.invokespecial 1, 3) := by decide +kernel
theorem own_d2_4 : decode jdk_30_method_1_code 4 = .ok (.return_, 1) := by decide +kernel
theorem own_pn2 : plainName "java/lang/Record" = true := by first | (simp [plainName, overriddenIn]; done) | decide +kernel
theorem own_ef2 (m : MethodId) (x0 : Addr) : entryFrame m #[(.ref x0)] 1 = mkF m 0 #[.val (.ref x0)] [] := by first | (simp [entryFrame, mkF, argsToLocals, Value.category]; done) | rfl
def own_Q2 (Z : State) (ax : Addr) (h0 : Heap) (n0 : Nat) (v : Option Value) (h : Heap) (L : List Loc) : Prop := v = none ∧ Fr n0 L ∧ h = h0
theorem own_rm2 (l : Launch) (Z : State) (a0 : Array Value) (hw : ∀ d ∈ tables_1, d.before a0 Z = true) (ws : List Jvm.Cond) (ax : Addr) (h0 : Heap) (n0 : Nat) (Z0 : n0 ≤ h0.size) :
    MetFree l (⟨"java/lang/Record", "<init>", "()V"⟩ : MethodName) (head1 (Jvm.Cond.code (⟨"java/lang/Record", "<init>", "()V"⟩ : MethodName) jdk_30_method_1_code 1 none :: ws) ({ frames := 1, cells := 0, slots := 0, locals := 12 } : Room)) (fun a U => a = #[(.ref ax)] ∧ Z.Warmed39 U.vm ∧ U.heap = h0) (fun _ _ _ _ _ => True) (fun _ U o U' => ∃ v L, o = .returned v ∧ own_Q2 Z ax h0 n0 v U'.heap L ∧ FrameEnd U o U' L ({ frames := 1, cells := 0, slots := 0, locals := 12 } : Room).cells ({ frames := 1, cells := 0, slots := 0, locals := 12 } : Room).slots) := by
  refine MetFree.of_bodySF (plainFor_of_name own_pn2) hisR ?_
  intro p e s m args below meth c s₁ Bd hml0 hP hK
  obtain ⟨rfl, hZ, hh⟩ := hP
  have hx := Bd.exec
  have hby := Bd.bytes
  have hlk := Bd.notSynchronized
  have hret := Bd.returns
  have hml : c.maxLocals = 1 := hml0
  have hown : s.vm.findClass "java/lang/Record" = some m.cls := findClass_of_methodNamed Bd.named
  have hnm := (name_of_methodNamed Bd.named Bd.method).1
  have X0 : Stand p l e ({ frames := 1, cells := 0, slots := 0, locals := 12 } : Room) s m #[(.ref ax)] below meth c s₁ [] 0 0 := Stand.of_body Bd
  have e0 : s₁.heap = h0 := by rw [← hh, Bd.state]; rfl
  have N0 := Fr.nil n0
  suffices key : own_Go p e below (own_End s below (own_Q2 Z ax h0 n0) ({ frames := 1, cells := 0, slots := 0, locals := 12 } : Room).cells ({ frames := 1, cells := 0, slots := 0, locals := 12 } : Room).slots) (s₁.setTop (mkF m 0 #[.val (.ref ax)] [])) by
    obtain ⟨t, k1, k2, v, L, k3, k4, k5⟩ := key
    exact ⟨t, _, castTop (own_ef2 m ax) k1, k2, k3, v, L, rfl, k4, k5⟩
  show own_Go p e below _ (s₁.setTop (mkF m 0 #[.val (.ref ax)] []))
  refine own_by (fun _ => XS.aloadN X0.here hx rfl (hb hby own_d2_0) rfl rfl) ?_
  show own_Go p e below _ (s₁.setTop (mkF m 1 #[.val (.ref ax)] [(.ref ax)]))
  obtain ⟨T1, X1, e1, st1⟩ := initO X0 hx hZ hown (hw _ (List.mem_of_getElem? (i := 11) rfl)) (hw _ (List.mem_of_getElem? (i := 12) rfl)) (hw _ (List.mem_of_getElem? (i := 13) rfl)) e0 (g := (mkF m 1 #[.val (.ref ax)] [(.ref ax)])) rfl (by rw [hml]; rfl) rfl (hb hby own_d2_1) (by decide) (W := 0) (by show 2 * 0 + _ ≤ _; exact Nat.le_of_eq rfl) (by decide)
  refine own_by st1 ?_
  show own_Go p e below _ (T1.setTop (mkF m 4 #[.val (.ref ax)] []))
  exact own_retV X1 hx hlk e1 hret (hb hby own_d2_4) (by decide) (by decide) ⟨rfl, N0, rfl⟩

theorem own_d1_0 : decode prog_123_method_1_code 0 = .ok (.aload_n 0, 1) := by decide +kernel
theorem own_d1_1 : decode prog_123_method_1_code 1 = .ok (.invokespecial 3, 3) := by decide +kernel
theorem own_d1_4 : decode prog_123_method_1_code 4 = .ok (.aload_n 0, 1) := by decide +kernel
theorem own_d1_5 : decode prog_123_method_1_code 5 = .ok (.lload_n 1, 1) := by decide +kernel
theorem own_d1_6 : decode prog_123_method_1_code 6 = .ok (.putfield 9, 3) := by decide +kernel
theorem own_d1_9 : decode prog_123_method_1_code 9 = .ok (.aload_n 0, 1) := by decide +kernel
theorem own_d1_10 : decode prog_123_method_1_code 10 = .ok (.iload_n 3, 1) := by decide +kernel
theorem own_d1_11 : decode prog_123_method_1_code 11 = .ok (.putfield 15, 3) := by decide +kernel
theorem own_d1_14 : decode prog_123_method_1_code 14 = .ok (.aload_n 0, 1) := by decide +kernel
theorem own_d1_15 : decode prog_123_method_1_code 15 = .ok (.lload 4, 2) := by decide +kernel
theorem own_d1_17 : decode prog_123_method_1_code 17 = .ok (.putfield 19, 3) := by decide +kernel
theorem own_d1_20 : decode prog_123_method_1_code 20 = .ok (.aload_n 0, 1) := by decide +kernel
theorem own_d1_21 : decode prog_123_method_1_code 21 = .ok (.iload 6, 2) := by decide +kernel
theorem own_d1_23 : decode prog_123_method_1_code 23 = .ok (.putfield 22, 3) := by decide +kernel
theorem own_d1_26 : decode prog_123_method_1_code 26 = .ok (.return_, 1) := by decide +kernel
theorem own_pn1 : plainName "com/example/delivery_queue/deliveryqueue/store/LogFile$Scan" = true := by first | (simp [plainName, overriddenIn]; done) | decide +kernel
theorem own_ef1 (m : MethodId) (x0 : Addr) (x1 : Int64) (x2 : Int32) (x3 : Int64) (x4 : Int32) : entryFrame m #[(.ref x0), (.long x1), (.int x2), (.long x3), (.int x4)] 7 = mkF m 0 #[.val (.ref x0), .val (.long x1), .second, .val (.int x2), .val (.long x3), .second, .val (.int x4)] [] := by first | (simp [entryFrame, mkF, argsToLocals, Value.category]; done) | rfl
def own_Q1 (Z : State) (ax : Addr) (xa : Int64) (xb : Int32) (xc : Int64) (xd : Int32) (ua : Int64) (ub : Int32) (uc : Int64) (ud : Int32) (h0 : Heap) (n0 : Nat) (v : Option Value) (h : Heap) (L : List Loc) : Prop := v = none ∧ Fr n0 L ∧ Keep h0 h [ax] ∧ Fld Z h ax "com/example/delivery_queue/deliveryqueue/store/LogFile$Scan" "end" "J" (.long xa) ∧ Fld Z h ax "com/example/delivery_queue/deliveryqueue/store/LogFile$Scan" "terminated" "Z" (.int (nar .boolean xb)) ∧ Fld Z h ax "com/example/delivery_queue/deliveryqueue/store/LogFile$Scan" "size" "J" (.long xc)
theorem own_rm1 (l : Launch) (Z : State) (a0 : Array Value) (hw : ∀ d ∈ tables_1, d.before a0 Z = true) (ws : List Jvm.Cond) (ax : Addr) (xa : Int64) (xb : Int32) (xc : Int64) (xd : Int32) (ua : Int64) (ub : Int32) (uc : Int64) (ud : Int32) (h0 : Heap) (n0 : Nat) (Z0 : n0 ≤ h0.size) (pf0 : Exa Z h0 ax "com/example/delivery_queue/deliveryqueue/store/LogFile$Scan") (pf1 : Fld Z h0 ax "com/example/delivery_queue/deliveryqueue/store/LogFile$Scan" "end" "J" (.long ua)) (pf2 : Fld Z h0 ax "com/example/delivery_queue/deliveryqueue/store/LogFile$Scan" "terminated" "Z" (.int ub)) (pf3 : Fld Z h0 ax "com/example/delivery_queue/deliveryqueue/store/LogFile$Scan" "size" "J" (.long uc)) (pf4 : Fld Z h0 ax "com/example/delivery_queue/deliveryqueue/store/LogFile$Scan" "version" "I" (.int ud)) (pg_ax : n0 ≤ ax) :
    MetFree l (⟨"com/example/delivery_queue/deliveryqueue/store/LogFile$Scan", "<init>", "(JZJI)V"⟩ : MethodName) (head1 (Jvm.Cond.code (⟨"com/example/delivery_queue/deliveryqueue/store/LogFile$Scan", "<init>", "(JZJI)V"⟩ : MethodName) prog_123_method_1_code 7 none :: ws) ({ frames := 2, cells := 0, slots := 0, locals := 24 } : Room)) (fun a U => a = #[(.ref ax), (.long xa), (.int xb), (.long xc), (.int xd)] ∧ Z.Warmed39 U.vm ∧ U.heap = h0) (fun _ _ _ _ _ => True) (fun _ U o U' => ∃ v L, o = .returned v ∧ own_Q1 Z ax xa xb xc xd ua ub uc ud h0 n0 v U'.heap L ∧ FrameEnd U o U' L ({ frames := 2, cells := 0, slots := 0, locals := 24 } : Room).cells ({ frames := 2, cells := 0, slots := 0, locals := 24 } : Room).slots) := by
  refine MetFree.of_bodySF (plainFor_of_name own_pn1) hisR ?_
  intro p e s m args below meth c s₁ Bd hml0 hP hK
  obtain ⟨rfl, hZ, hh⟩ := hP
  have hx := Bd.exec
  have hby := Bd.bytes
  have hlk := Bd.notSynchronized
  have hret := Bd.returns
  have hml : c.maxLocals = 7 := hml0
  have hown : s.vm.findClass "com/example/delivery_queue/deliveryqueue/store/LogFile$Scan" = some m.cls := findClass_of_methodNamed Bd.named
  have hnm := (name_of_methodNamed Bd.named Bd.method).1
  have X0 : Stand p l e ({ frames := 2, cells := 0, slots := 0, locals := 24 } : Room) s m #[(.ref ax), (.long xa), (.int xb), (.long xc), (.int xd)] below meth c s₁ [] 0 0 := Stand.of_body Bd
  have e0 : s₁.heap = h0 := by rw [← hh, Bd.state]; rfl
  have N0 := Fr.nil n0
  suffices key : own_Go p e below (own_End s below (own_Q1 Z ax xa xb xc xd ua ub uc ud h0 n0) ({ frames := 2, cells := 0, slots := 0, locals := 24 } : Room).cells ({ frames := 2, cells := 0, slots := 0, locals := 24 } : Room).slots) (s₁.setTop (mkF m 0 #[.val (.ref ax), .val (.long xa), .second, .val (.int xb), .val (.long xc), .second, .val (.int xd)] [])) by
    obtain ⟨t, k1, k2, v, L, k3, k4, k5⟩ := key
    exact ⟨t, _, castTop (own_ef1 m ax xa xb xc xd) k1, k2, k3, v, L, rfl, k4, k5⟩
  show own_Go p e below _ (s₁.setTop (mkF m 0 #[.val (.ref ax), .val (.long xa), .second, .val (.int xb), .val (.long xc), .second, .val (.int xd)] []))
  refine own_by (fun _ => XS.aloadN X0.here hx rfl (hb hby own_d1_0) rfl rfl) ?_
  show own_Go p e below _ (s₁.setTop (mkF m 1 #[.val (.ref ax), .val (.long xa), .second, .val (.int xb), .val (.long xc), .second, .val (.int xd)] [(.ref ax)]))
  obtain ⟨_, _, ⟨T1, L1, k1, n1⟩, -, X1, ⟨Lc1, hQ1, l1, y1, z1'⟩, st1⟩ := X0.specialBack hx (y := (⟨"java/lang/Record", "<init>", "()V"⟩ : MethodName)) rfl hown (mvT hZ (hw _ (List.mem_of_getElem? (i := 6) rfl))) (mvT hZ (hw _ (List.mem_of_getElem? (i := 7) rfl))) (mvT hZ (hw _ (List.mem_of_getElem? (i := 10) rfl))) (by decide) (backOf (W := 0) (own_rm2 l Z a0 hw [] ax h0 n0 Z0 ) hZ (hw _ (List.mem_of_getElem? (i := 10) rfl)) (hw _ (List.mem_of_getElem? (i := 9) rfl)) (by decide) (by decide)) (g := (mkF m 1 #[.val (.ref ax), .val (.long xa), .second, .val (.int xb), .val (.long xc), .second, .val (.int xd)] [(.ref ax)])) rfl (by rw [hml]; rfl) (Steps.refl _) (a := ax) (argsL := []) (rest := []) (lenOf own_pd0 rfl) rfl (by show 2 * 0 + _ ≤ _; exact Nat.le_of_eq rfl) (hb hby own_d1_1) (fun _ _ => ⟨rfl, e0, (by decide : 0 + 0 ≤ _), (by decide : 0 + 0 ≤ _)⟩)
  dsimp only [Pt.U, Pt.locs, Pt.cells, Pt.slots] at X1 l1 y1 z1' st1 hQ1
  subst l1 y1 z1'
  obtain ⟨rfl, N1q, e1⟩ := hQ1
  have N1 := Fr.app N0 N1q
  refine own_tr st1 ?_
  show own_Go p e below _ (T1.setTop (mkF m 4 #[.val (.ref ax), .val (.long xa), .second, .val (.int xb), .val (.long xc), .second, .val (.int xd)] []))
  refine own_by (fun _ => XS.aloadN X1.here hx rfl (hb hby own_d1_4) rfl rfl) ?_
  show own_Go p e below _ (T1.setTop (mkF m 5 #[.val (.ref ax), .val (.long xa), .second, .val (.int xb), .val (.long xc), .second, .val (.int xd)] [(.ref ax)]))
  refine own_by (fun _ => XS.lloadN X1.here hx rfl (hb hby own_d1_5) rfl) ?_
  show own_Go p e below _ (T1.setTop (mkF m 6 #[.val (.ref ax), .val (.long xa), .second, .val (.int xb), .val (.long xc), .second, .val (.int xd)] [(.long xa), (.ref ax)]))
  obtain ⟨T2, h2, X2, e2, W2, st2⟩ := putF X1 hx hZ hown (host := "") (Or.inl (hw _ (List.mem_of_getElem? (i := 14) rfl))) Via.refl e1 pf1 pf0 (Or.inr ⟨(hw _ (List.mem_of_getElem? (i := 15) rfl)), rfl, hnm⟩) (hw _ (List.mem_of_getElem? (i := 1) rfl)) (ty := .long) (by decide) rfl rfl (g := (mkF m 6 #[.val (.ref ax), .val (.long xa), .second, .val (.int xb), .val (.long xc), .second, .val (.int xd)] [(.long xa), (.ref ax)])) rfl rfl (hb hby own_d1_6)
  refine own_by st2 ?_
  have fw2 : Fld Z h2 ax "com/example/delivery_queue/deliveryqueue/store/LogFile$Scan" "end" "J" (.long xa) := pf1.same W2
  have z2 : n0 ≤ h2.size := Nat.le_trans Z0 (Keep.of_wr W2).1
  have N2 := Fr.snoc X2 N1 pg_ax
  have K2 : Keep h0 h2 [ax] := (Keep.refl h0 [ax]).wr W2 (Or.inl (List.mem_of_getElem? (i := 0) rfl))
  show own_Go p e below _ (T2.setTop (mkF m 9 #[.val (.ref ax), .val (.long xa), .second, .val (.int xb), .val (.long xc), .second, .val (.int xd)] []))
  refine own_by (fun _ => XS.aloadN X2.here hx rfl (hb hby own_d1_9) rfl rfl) ?_
  show own_Go p e below _ (T2.setTop (mkF m 10 #[.val (.ref ax), .val (.long xa), .second, .val (.int xb), .val (.long xc), .second, .val (.int xd)] [(.ref ax)]))
  refine own_by (fun _ => XS.iloadN X2.here hx rfl (hb hby own_d1_10) rfl) ?_
  show own_Go p e below _ (T2.setTop (mkF m 11 #[.val (.ref ax), .val (.long xa), .second, .val (.int xb), .val (.long xc), .second, .val (.int xd)] [(.int xb), (.ref ax)]))
  have f3 : Exa Z h2 ax "com/example/delivery_queue/deliveryqueue/store/LogFile$Scan" := (pf0.wr W2)
  have f4 : Fld Z h2 ax "com/example/delivery_queue/deliveryqueue/store/LogFile$Scan" "terminated" "Z" (.int ub) := (pf2.other W2 (Or.inr (slot_ne (Or.inr (hw _ (List.mem_of_getElem? (i := 17) rfl))) (Or.inr (hw _ (List.mem_of_getElem? (i := 15) rfl))) (by decide) (t := .boolean) (t' := .long) (by decide) (by decide))))
  obtain ⟨T5, h5, X5, e5, W5, st5⟩ := putFN X2 hx hZ hown (hw _ (List.mem_of_getElem? (i := 16) rfl)) Via.refl e2 f4 f3 (Or.inr ⟨(hw _ (List.mem_of_getElem? (i := 17) rfl)), rfl, hnm⟩) (hw _ (List.mem_of_getElem? (i := 1) rfl)) (ty := .boolean) (v' := (.int (nar .boolean xb))) (by decide) rfl (fits_nar_bool _) (g := (mkF m 11 #[.val (.ref ax), .val (.long xa), .second, .val (.int xb), .val (.long xc), .second, .val (.int xd)] [(.int xb), (.ref ax)])) rfl rfl (hb hby own_d1_11)
  refine own_by st5 ?_
  have fw5 : Fld Z h5 ax "com/example/delivery_queue/deliveryqueue/store/LogFile$Scan" "terminated" "Z" (.int (nar .boolean xb)) := f4.same W5
  have z5 : n0 ≤ h5.size := Nat.le_trans z2 (Keep.of_wr W5).1
  have N5 := Fr.snoc X5 N2 pg_ax
  have K5 : Keep h0 h5 [ax] := K2.wr W5 (Or.inl (List.mem_of_getElem? (i := 0) rfl))
  show own_Go p e below _ (T5.setTop (mkF m 14 #[.val (.ref ax), .val (.long xa), .second, .val (.int xb), .val (.long xc), .second, .val (.int xd)] []))
  refine own_by (fun _ => XS.aloadN X5.here hx rfl (hb hby own_d1_14) rfl rfl) ?_
  show own_Go p e below _ (T5.setTop (mkF m 15 #[.val (.ref ax), .val (.long xa), .second, .val (.int xb), .val (.long xc), .second, .val (.int xd)] [(.ref ax)]))
  refine own_by (fun _ => XS.lload X5.here hx rfl (hb hby own_d1_15) rfl) ?_
  show own_Go p e below _ (T5.setTop (mkF m 17 #[.val (.ref ax), .val (.long xa), .second, .val (.int xb), .val (.long xc), .second, .val (.int xd)] [(.long xc), (.ref ax)]))
  have f6 : Exa Z h5 ax "com/example/delivery_queue/deliveryqueue/store/LogFile$Scan" := (f3.wr W5)
  have f7 : Fld Z h5 ax "com/example/delivery_queue/deliveryqueue/store/LogFile$Scan" "size" "J" (.long uc) := ((pf3.other W2 (Or.inr (slot_ne (Or.inr (hw _ (List.mem_of_getElem? (i := 19) rfl))) (Or.inr (hw _ (List.mem_of_getElem? (i := 15) rfl))) (by decide) (t := .long) (t' := .long) (by decide) (by decide)))).other W5 (Or.inr (slot_ne (Or.inr (hw _ (List.mem_of_getElem? (i := 19) rfl))) (Or.inr (hw _ (List.mem_of_getElem? (i := 17) rfl))) (by decide) (t := .long) (t' := .boolean) (by decide) (by decide))))
  obtain ⟨T8, h8, X8, e8, W8, st8⟩ := putF X5 hx hZ hown (host := "") (Or.inl (hw _ (List.mem_of_getElem? (i := 18) rfl))) Via.refl e5 f7 f6 (Or.inr ⟨(hw _ (List.mem_of_getElem? (i := 19) rfl)), rfl, hnm⟩) (hw _ (List.mem_of_getElem? (i := 1) rfl)) (ty := .long) (by decide) rfl rfl (g := (mkF m 17 #[.val (.ref ax), .val (.long xa), .second, .val (.int xb), .val (.long xc), .second, .val (.int xd)] [(.long xc), (.ref ax)])) rfl rfl (hb hby own_d1_17)
  refine own_by st8 ?_
  have fw8 : Fld Z h8 ax "com/example/delivery_queue/deliveryqueue/store/LogFile$Scan" "size" "J" (.long xc) := f7.same W8
  have z8 : n0 ≤ h8.size := Nat.le_trans z5 (Keep.of_wr W8).1
  have N8 := Fr.snoc X8 N5 pg_ax
  have K8 : Keep h0 h8 [ax] := K5.wr W8 (Or.inl (List.mem_of_getElem? (i := 0) rfl))
  show own_Go p e below _ (T8.setTop (mkF m 20 #[.val (.ref ax), .val (.long xa), .second, .val (.int xb), .val (.long xc), .second, .val (.int xd)] []))
  refine own_by (fun _ => XS.aloadN X8.here hx rfl (hb hby own_d1_20) rfl rfl) ?_
  show own_Go p e below _ (T8.setTop (mkF m 21 #[.val (.ref ax), .val (.long xa), .second, .val (.int xb), .val (.long xc), .second, .val (.int xd)] [(.ref ax)]))
  refine own_by (fun _ => XS.iload X8.here hx rfl (hb hby own_d1_21) rfl) ?_
  show own_Go p e below _ (T8.setTop (mkF m 23 #[.val (.ref ax), .val (.long xa), .second, .val (.int xb), .val (.long xc), .second, .val (.int xd)] [(.int xd), (.ref ax)]))
  have f9 : Exa Z h8 ax "com/example/delivery_queue/deliveryqueue/store/LogFile$Scan" := (f6.wr W8)
  have f10 : Fld Z h8 ax "com/example/delivery_queue/deliveryqueue/store/LogFile$Scan" "version" "I" (.int ud) := (((pf4.other W2 (Or.inr (slot_ne (Or.inr (hw _ (List.mem_of_getElem? (i := 21) rfl))) (Or.inr (hw _ (List.mem_of_getElem? (i := 15) rfl))) (by decide) (t := .int) (t' := .long) (by decide) (by decide)))).other W5 (Or.inr (slot_ne (Or.inr (hw _ (List.mem_of_getElem? (i := 21) rfl))) (Or.inr (hw _ (List.mem_of_getElem? (i := 17) rfl))) (by decide) (t := .int) (t' := .boolean) (by decide) (by decide)))).other W8 (Or.inr (slot_ne (Or.inr (hw _ (List.mem_of_getElem? (i := 21) rfl))) (Or.inr (hw _ (List.mem_of_getElem? (i := 19) rfl))) (by decide) (t := .int) (t' := .long) (by decide) (by decide))))
  obtain ⟨T11, h11, X11, e11, W11, st11⟩ := putF X8 hx hZ hown (host := "") (Or.inl (hw _ (List.mem_of_getElem? (i := 20) rfl))) Via.refl e8 f10 f9 (Or.inr ⟨(hw _ (List.mem_of_getElem? (i := 21) rfl)), rfl, hnm⟩) (hw _ (List.mem_of_getElem? (i := 1) rfl)) (ty := .int) (by decide) rfl rfl (g := (mkF m 23 #[.val (.ref ax), .val (.long xa), .second, .val (.int xb), .val (.long xc), .second, .val (.int xd)] [(.int xd), (.ref ax)])) rfl rfl (hb hby own_d1_23)
  refine own_by st11 ?_
  have fw11 : Fld Z h11 ax "com/example/delivery_queue/deliveryqueue/store/LogFile$Scan" "version" "I" (.int xd) := f10.same W11
  have z11 : n0 ≤ h11.size := Nat.le_trans z8 (Keep.of_wr W11).1
  have N11 := Fr.snoc X11 N8 pg_ax
  have K11 : Keep h0 h11 [ax] := K8.wr W11 (Or.inl (List.mem_of_getElem? (i := 0) rfl))
  show own_Go p e below _ (T11.setTop (mkF m 26 #[.val (.ref ax), .val (.long xa), .second, .val (.int xb), .val (.long xc), .second, .val (.int xd)] []))
  have f12 : Fld Z h11 ax "com/example/delivery_queue/deliveryqueue/store/LogFile$Scan" "end" "J" (.long xa) := (((fw2.other W5 (Or.inr (slot_ne (Or.inr (hw _ (List.mem_of_getElem? (i := 15) rfl))) (Or.inr (hw _ (List.mem_of_getElem? (i := 17) rfl))) (by decide) (t := .long) (t' := .boolean) (by decide) (by decide)))).other W8 (Or.inr (slot_ne (Or.inr (hw _ (List.mem_of_getElem? (i := 15) rfl))) (Or.inr (hw _ (List.mem_of_getElem? (i := 19) rfl))) (by decide) (t := .long) (t' := .long) (by decide) (by decide)))).other W11 (Or.inr (slot_ne (Or.inr (hw _ (List.mem_of_getElem? (i := 15) rfl))) (Or.inr (hw _ (List.mem_of_getElem? (i := 21) rfl))) (by decide) (t := .long) (t' := .int) (by decide) (by decide))))
  have f13 : Fld Z h11 ax "com/example/delivery_queue/deliveryqueue/store/LogFile$Scan" "terminated" "Z" (.int (nar .boolean xb)) := ((fw5.other W8 (Or.inr (slot_ne (Or.inr (hw _ (List.mem_of_getElem? (i := 17) rfl))) (Or.inr (hw _ (List.mem_of_getElem? (i := 19) rfl))) (by decide) (t := .boolean) (t' := .long) (by decide) (by decide)))).other W11 (Or.inr (slot_ne (Or.inr (hw _ (List.mem_of_getElem? (i := 17) rfl))) (Or.inr (hw _ (List.mem_of_getElem? (i := 21) rfl))) (by decide) (t := .boolean) (t' := .int) (by decide) (by decide))))
  have f14 : Fld Z h11 ax "com/example/delivery_queue/deliveryqueue/store/LogFile$Scan" "size" "J" (.long xc) := (fw8.other W11 (Or.inr (slot_ne (Or.inr (hw _ (List.mem_of_getElem? (i := 19) rfl))) (Or.inr (hw _ (List.mem_of_getElem? (i := 21) rfl))) (by decide) (t := .long) (t' := .int) (by decide) (by decide))))
  exact own_retV X11 hx hlk e11 hret (hb hby own_d1_26) (by decide) (by decide) ⟨rfl, N11, K11, f12, f13, f14⟩

theorem own_d4_0 : decode prog_123_method_3_code 0 = .ok (.aload_n 0, 1) := by decide +kernel
theorem own_d4_1 : decode prog_123_method_3_code 1 = .ok (.getfield 15, 3) := by decide +kernel
theorem own_d4_4 : decode prog_123_method_3_code 4 = .ok (.ifCond .eq 23, 3) := by decide +kernel
theorem own_d4_7 : decode prog_123_method_3_code 7 = .ok (.aload_n 0, 1) := by decide +kernel
theorem own_d4_8 : decode prog_123_method_3_code 8 = .ok (.getfield 9, 3) := by decide +kernel
theorem own_d4_11 : decode prog_123_method_3_code 11 = .ok (.ldc2_w 26, 3) := by decide +kernel
theorem own_d4_14 : decode prog_123_method_3_code 14 = .ok (.ladd, 1) := by decide +kernel
theorem own_d4_15 : decode prog_123_method_3_code 15 = .ok (.aload_n 0, 1) := by decide +kernel
theorem own_d4_16 : decode prog_123_method_3_code 16 = .ok (.getfield 19, 3) := by decide +kernel
theorem own_d4_19 : decode prog_123_method_3_code 19 = .ok (.lcmp, 1) := by decide +kernel
theorem own_d4_20 : decode prog_123_method_3_code 20 = .ok (.ifCond .ne 7, 3) := by decide +kernel
theorem own_d4_23 : decode prog_123_method_3_code 23 = .ok (.iconst 1, 1) := by decide +kernel
theorem own_d4_24 : decode prog_123_method_3_code 24 = .ok (.goto 4, 3) := by decide +kernel
theorem own_d4_27 : decode prog_123_method_3_code 27 = .ok (.iconst 0, 1) := by decide +kernel
theorem own_d4_28 : decode prog_123_method_3_code 28 = .ok (.ireturn, 1) := by decide +kernel
def own_snap (ua : Int64) (ub : Int32) (uc : Int64) : Int32 := (if ub = (0 : Int32) then (0 : Int32) else (if (ua + (8 : Int64)) = uc then (1 : Int32) else (0 : Int32)))
theorem own_pn4 : plainName "com/example/delivery_queue/deliveryqueue/store/LogFile$Scan" = true := by first | (simp [plainName, overriddenIn]; done) | decide +kernel
theorem own_ef4 (m : MethodId) (x0 : Addr) : entryFrame m #[(.ref x0)] 1 = mkF m 0 #[.val (.ref x0)] [] := by first | (simp [entryFrame, mkF, argsToLocals, Value.category]; done) | rfl
def own_Q4 (Z : State) (ax : Addr) (ua : Int64) (ub : Int32) (uc : Int64) (h0 : Heap) (n0 : Nat) (v : Option Value) (h : Heap) (L : List Loc) : Prop := v = some (.int (own_snap ua ub uc)) ∧ Fr n0 L ∧ h = h0
theorem own_rm4 (l : Launch) (Z : State) (a0 : Array Value) (hw : ∀ d ∈ tables_1, d.before a0 Z = true) (ws : List Jvm.Cond) (ax : Addr) (ua : Int64) (ub : Int32) (uc : Int64) (h0 : Heap) (n0 : Nat) (Z0 : n0 ≤ h0.size) (pf0 : Fld Z h0 ax "com/example/delivery_queue/deliveryqueue/store/LogFile$Scan" "end" "J" (.long ua)) (pf1 : Fld Z h0 ax "com/example/delivery_queue/deliveryqueue/store/LogFile$Scan" "terminated" "Z" (.int ub)) (pf2 : Fld Z h0 ax "com/example/delivery_queue/deliveryqueue/store/LogFile$Scan" "size" "J" (.long uc)) :
    MetFree l (⟨"com/example/delivery_queue/deliveryqueue/store/LogFile$Scan", "isWholeSnapshot", "()Z"⟩ : MethodName) (head1 (Jvm.Cond.code (⟨"com/example/delivery_queue/deliveryqueue/store/LogFile$Scan", "isWholeSnapshot", "()Z"⟩ : MethodName) prog_123_method_3_code 1 (some .boolean) :: ws) ({ frames := 0, cells := 0, slots := 0, locals := 0 } : Room)) (fun a U => a = #[(.ref ax)] ∧ Z.Warmed39 U.vm ∧ U.heap = h0) (fun _ _ _ _ _ => True) (fun _ U o U' => ∃ v L, o = .returned v ∧ own_Q4 Z ax ua ub uc h0 n0 v U'.heap L ∧ FrameEnd U o U' L ({ frames := 0, cells := 0, slots := 0, locals := 0 } : Room).cells ({ frames := 0, cells := 0, slots := 0, locals := 0 } : Room).slots) := by
  refine MetFree.of_bodySF (plainFor_of_name own_pn4) hisR ?_
  intro p e s m args below meth c s₁ Bd hml0 hP hK
  obtain ⟨rfl, hZ, hh⟩ := hP
  have hx := Bd.exec
  have hby := Bd.bytes
  have hlk := Bd.notSynchronized
  have hret := Bd.returns
  have hml : c.maxLocals = 1 := hml0
  have hown : s.vm.findClass "com/example/delivery_queue/deliveryqueue/store/LogFile$Scan" = some m.cls := findClass_of_methodNamed Bd.named
  have hnm := (name_of_methodNamed Bd.named Bd.method).1
  have X0 : Stand p l e ({ frames := 0, cells := 0, slots := 0, locals := 0 } : Room) s m #[(.ref ax)] below meth c s₁ [] 0 0 := Stand.of_body Bd
  have e0 : s₁.heap = h0 := by rw [← hh, Bd.state]; rfl
  have N0 := Fr.nil n0
  suffices key : own_Go p e below (own_End s below (own_Q4 Z ax ua ub uc h0 n0) ({ frames := 0, cells := 0, slots := 0, locals := 0 } : Room).cells ({ frames := 0, cells := 0, slots := 0, locals := 0 } : Room).slots) (s₁.setTop (mkF m 0 #[.val (.ref ax)] [])) by
    obtain ⟨t, k1, k2, v, L, k3, k4, k5⟩ := key
    exact ⟨t, _, castTop (own_ef4 m ax) k1, k2, k3, v, L, rfl, k4, k5⟩
  show own_Go p e below _ (s₁.setTop (mkF m 0 #[.val (.ref ax)] []))
  refine own_by (fun _ => XS.aloadN X0.here hx rfl (hb hby own_d4_0) rfl rfl) ?_
  show own_Go p e below _ (s₁.setTop (mkF m 1 #[.val (.ref ax)] [(.ref ax)]))
  obtain ⟨T1, X1, e1, st1⟩ := getF X0 hx hZ hown (host := "") (Or.inl (hw _ (List.mem_of_getElem? (i := 16) rfl))) Via.refl e0 pf1 (g := (mkF m 1 #[.val (.ref ax)] [(.ref ax)])) rfl rfl (hb hby own_d4_1)
  refine own_by st1 ?_
  show own_Go p e below _ (T1.setTop (mkF m 4 #[.val (.ref ax)] [(.int ub)]))
  suffices J2 : ∀ (T' : State) (v2_t0 : Int32), v2_t0 = (if ub = (0 : Int32) then (0 : Int32) else (if (ua + (8 : Int64)) = uc then (1 : Int32) else (0 : Int32))) → own_At p l e ({ frames := 0, cells := 0, slots := 0, locals := 0 } : Room) s m #[(.ref ax)] below meth c n0 T' h0 0 0 → own_Go p e below (own_End s below (own_Q4 Z ax ua ub uc h0 n0) ({ frames := 0, cells := 0, slots := 0, locals := 0 } : Room).cells ({ frames := 0, cells := 0, slots := 0, locals := 0 } : Room).slots) (T'.setTop (mkF m 28 #[.val (.ref ax)] [(.int v2_t0)])) by
    by_cases hc4_3 : ub = (0 : Int32)
    ·
      skip
      refine own_by (fun _ => XS.ifYes X1.here hx rfl (pc0 := 4) (pc' := 27) rfl (hb hby own_d4_4) rfl ((if0 _ _).trans (teq hc4_3).1) (by decide) (by decide)) ?_
      show own_Go p e below _ (T1.setTop (mkF m 27 #[.val (.ref ax)] []))
      refine own_by (fun _ => XS.iconst X1.here hx rfl (hb hby own_d4_27)) ?_
      show own_Go p e below _ (T1.setTop (mkF m 28 #[.val (.ref ax)] [(.int (0 : Int32))]))
      exact J2 _ _ (by first | rfl | simp only [if_pos hc4_3]) ⟨_, X1, N0, e1⟩
    ·
      skip
      refine own_by (fun _ => XS.ifNo X1.here hx rfl (hb hby own_d4_4) rfl ((if0 _ _).trans (feq hc4_3).1)) ?_
      show own_Go p e below _ (T1.setTop (mkF m 7 #[.val (.ref ax)] []))
      refine own_by (fun _ => XS.aloadN X1.here hx rfl (hb hby own_d4_7) rfl rfl) ?_
      show own_Go p e below _ (T1.setTop (mkF m 8 #[.val (.ref ax)] [(.ref ax)]))
      obtain ⟨T4, X4, e4, st4⟩ := getF X1 hx hZ hown (host := "") (Or.inl (hw _ (List.mem_of_getElem? (i := 14) rfl))) Via.refl e1 pf0 (g := (mkF m 8 #[.val (.ref ax)] [(.ref ax)])) rfl rfl (hb hby own_d4_8)
      refine own_by st4 ?_
      show own_Go p e below _ (T4.setTop (mkF m 11 #[.val (.ref ax)] [(.long ua)]))
      refine own_by (X4.ldc2Long hx hown (mvT hZ (hw _ (List.mem_of_getElem? (i := 28) rfl))) (g := (mkF m 11 #[.val (.ref ax)] [(.long ua)])) rfl (hb hby own_d4_11)) ?_
      show own_Go p e below _ (T4.setTop (mkF m 14 #[.val (.ref ax)] [(.long (8 : Int64)), (.long ua)]))
      refine own_by (fun _ => XS.ladd X4.here hx rfl (hb hby own_d4_14) rfl) ?_
      show own_Go p e below _ (T4.setTop (mkF m 15 #[.val (.ref ax)] [(.long (ua + (8 : Int64)))]))
      refine own_by (fun _ => XS.aloadN X4.here hx rfl (hb hby own_d4_15) rfl rfl) ?_
      show own_Go p e below _ (T4.setTop (mkF m 16 #[.val (.ref ax)] [(.ref ax), (.long (ua + (8 : Int64)))]))
      obtain ⟨T5, X5, e5, st5⟩ := getF X4 hx hZ hown (host := "") (Or.inl (hw _ (List.mem_of_getElem? (i := 18) rfl))) Via.refl e4 pf2 (g := (mkF m 16 #[.val (.ref ax)] [(.ref ax), (.long (ua + (8 : Int64)))])) rfl rfl (hb hby own_d4_16)
      refine own_by st5 ?_
      show own_Go p e below _ (T5.setTop (mkF m 19 #[.val (.ref ax)] [(.long uc), (.long (ua + (8 : Int64)))]))
      refine own_by (fun _ => XS.lcmp X5.here hx rfl (hb hby own_d4_19) rfl) ?_
      show own_Go p e below _ (T5.setTop (mkF m 20 #[.val (.ref ax)] [(.int (lcmpW (ua + (8 : Int64)) uc))]))
      by_cases hc20_6 : (ua + (8 : Int64)) = uc
      ·
        skip
        refine own_by (fun _ => XS.ifNo X5.here hx rfl (hb hby own_d4_20) rfl ((if0 _ _).trans (teq ((lw_eq _ _).mpr hc20_6)).2)) ?_
        show own_Go p e below _ (T5.setTop (mkF m 23 #[.val (.ref ax)] []))
        refine own_by (fun _ => XS.iconst X5.here hx rfl (hb hby own_d4_23)) ?_
        show own_Go p e below _ (T5.setTop (mkF m 24 #[.val (.ref ax)] [(.int (1 : Int32))]))
        refine own_by (fun _ => XS.goto X5.here hx rfl (pc0 := 24) (pc' := 28) rfl (hb hby own_d4_24) (by decide) (by decide)) ?_
        show own_Go p e below _ (T5.setTop (mkF m 28 #[.val (.ref ax)] [(.int (1 : Int32))]))
        exact J2 _ _ (by first | rfl | simp only [if_neg hc4_3, if_pos hc20_6]) ⟨_, X5, N0, e5⟩
      ·
        skip
        refine own_by (fun _ => XS.ifYes X5.here hx rfl (pc0 := 20) (pc' := 27) rfl (hb hby own_d4_20) rfl ((if0 _ _).trans (feq (mt (lw_eq _ _).mp hc20_6)).2) (by decide) (by decide)) ?_
        show own_Go p e below _ (T5.setTop (mkF m 27 #[.val (.ref ax)] []))
        refine own_by (fun _ => XS.iconst X5.here hx rfl (hb hby own_d4_27)) ?_
        show own_Go p e below _ (T5.setTop (mkF m 28 #[.val (.ref ax)] [(.int (0 : Int32))]))
        exact J2 _ _ (by first | rfl | simp only [if_neg hc4_3, if_neg hc20_6]) ⟨_, X5, N0, e5⟩
  intro T2 v2_t0 hv2_t0 ⟨locs2, X2, N2, e2⟩
  show own_Go p e below _ (T2.setTop (mkF m 28 #[.val (.ref ax)] [(.int v2_t0)]))
  exact own_retZ X2 hx hlk e2 (by rw [hv2_t0]; (repeat' split) <;> first | exact Or.inl rfl | exact Or.inr rfl) hret (hb hby own_d4_28) (by decide) (by decide) ⟨(by subst hv2_t0; first | rfl | simp only [own_snap]), N2, rfl⟩

theorem own_d5_0 : decode prog_123_method_2_code 0 = .ok (.aload_n 0, 1) := by decide +kernel
theorem own_d5_1 : decode prog_123_method_2_code 1 = .ok (.getfield 9, 3) := by decide +kernel
theorem own_d5_4 : decode prog_123_method_2_code 4 = .ok (.aload_n 0, 1) := by decide +kernel
theorem own_d5_5 : decode prog_123_method_2_code 5 = .ok (.getfield 19, 3) := by decide +kernel
theorem own_d5_8 : decode prog_123_method_2_code 8 = .ok (.lcmp, 1) := by decide +kernel
theorem own_d5_9 : decode prog_123_method_2_code 9 = .ok (.ifCond .ne 7, 3) := by decide +kernel
theorem own_d5_12 : decode prog_123_method_2_code 12 = .ok (.iconst 1, 1) := by decide +kernel
theorem own_d5_13 : decode prog_123_method_2_code 13 = .ok (.goto 4, 3) := by decide +kernel
theorem own_d5_16 : decode prog_123_method_2_code 16 = .ok (.iconst 0, 1) := by decide +kernel
theorem own_d5_17 : decode prog_123_method_2_code 17 = .ok (.ireturn, 1) := by decide +kernel
def own_seg (ua : Int64) (uc : Int64) : Int32 := (if ua = uc then (1 : Int32) else (0 : Int32))
theorem own_pn5 : plainName "com/example/delivery_queue/deliveryqueue/store/LogFile$Scan" = true := by first | (simp [plainName, overriddenIn]; done) | decide +kernel
theorem own_ef5 (m : MethodId) (x0 : Addr) : entryFrame m #[(.ref x0)] 1 = mkF m 0 #[.val (.ref x0)] [] := by first | (simp [entryFrame, mkF, argsToLocals, Value.category]; done) | rfl
def own_Q5 (Z : State) (ax : Addr) (ua : Int64) (uc : Int64) (h0 : Heap) (n0 : Nat) (v : Option Value) (h : Heap) (L : List Loc) : Prop := v = some (.int (own_seg ua uc)) ∧ Fr n0 L ∧ h = h0
theorem own_rm5 (l : Launch) (Z : State) (a0 : Array Value) (hw : ∀ d ∈ tables_1, d.before a0 Z = true) (ws : List Jvm.Cond) (ax : Addr) (ua : Int64) (uc : Int64) (h0 : Heap) (n0 : Nat) (Z0 : n0 ≤ h0.size) (pf0 : Fld Z h0 ax "com/example/delivery_queue/deliveryqueue/store/LogFile$Scan" "end" "J" (.long ua)) (pf1 : Fld Z h0 ax "com/example/delivery_queue/deliveryqueue/store/LogFile$Scan" "size" "J" (.long uc)) :
    MetFree l (⟨"com/example/delivery_queue/deliveryqueue/store/LogFile$Scan", "isWholeSegment", "()Z"⟩ : MethodName) (head1 (Jvm.Cond.code (⟨"com/example/delivery_queue/deliveryqueue/store/LogFile$Scan", "isWholeSegment", "()Z"⟩ : MethodName) prog_123_method_2_code 1 (some .boolean) :: ws) ({ frames := 0, cells := 0, slots := 0, locals := 0 } : Room)) (fun a U => a = #[(.ref ax)] ∧ Z.Warmed39 U.vm ∧ U.heap = h0) (fun _ _ _ _ _ => True) (fun _ U o U' => ∃ v L, o = .returned v ∧ own_Q5 Z ax ua uc h0 n0 v U'.heap L ∧ FrameEnd U o U' L ({ frames := 0, cells := 0, slots := 0, locals := 0 } : Room).cells ({ frames := 0, cells := 0, slots := 0, locals := 0 } : Room).slots) := by
  refine MetFree.of_bodySF (plainFor_of_name own_pn5) hisR ?_
  intro p e s m args below meth c s₁ Bd hml0 hP hK
  obtain ⟨rfl, hZ, hh⟩ := hP
  have hx := Bd.exec
  have hby := Bd.bytes
  have hlk := Bd.notSynchronized
  have hret := Bd.returns
  have hml : c.maxLocals = 1 := hml0
  have hown : s.vm.findClass "com/example/delivery_queue/deliveryqueue/store/LogFile$Scan" = some m.cls := findClass_of_methodNamed Bd.named
  have hnm := (name_of_methodNamed Bd.named Bd.method).1
  have X0 : Stand p l e ({ frames := 0, cells := 0, slots := 0, locals := 0 } : Room) s m #[(.ref ax)] below meth c s₁ [] 0 0 := Stand.of_body Bd
  have e0 : s₁.heap = h0 := by rw [← hh, Bd.state]; rfl
  have N0 := Fr.nil n0
  suffices key : own_Go p e below (own_End s below (own_Q5 Z ax ua uc h0 n0) ({ frames := 0, cells := 0, slots := 0, locals := 0 } : Room).cells ({ frames := 0, cells := 0, slots := 0, locals := 0 } : Room).slots) (s₁.setTop (mkF m 0 #[.val (.ref ax)] [])) by
    obtain ⟨t, k1, k2, v, L, k3, k4, k5⟩ := key
    exact ⟨t, _, castTop (own_ef5 m ax) k1, k2, k3, v, L, rfl, k4, k5⟩
  show own_Go p e below _ (s₁.setTop (mkF m 0 #[.val (.ref ax)] []))
  refine own_by (fun _ => XS.aloadN X0.here hx rfl (hb hby own_d5_0) rfl rfl) ?_
  show own_Go p e below _ (s₁.setTop (mkF m 1 #[.val (.ref ax)] [(.ref ax)]))
  obtain ⟨T1, X1, e1, st1⟩ := getF X0 hx hZ hown (host := "") (Or.inl (hw _ (List.mem_of_getElem? (i := 14) rfl))) Via.refl e0 pf0 (g := (mkF m 1 #[.val (.ref ax)] [(.ref ax)])) rfl rfl (hb hby own_d5_1)
  refine own_by st1 ?_
  show own_Go p e below _ (T1.setTop (mkF m 4 #[.val (.ref ax)] [(.long ua)]))
  refine own_by (fun _ => XS.aloadN X1.here hx rfl (hb hby own_d5_4) rfl rfl) ?_
  show own_Go p e below _ (T1.setTop (mkF m 5 #[.val (.ref ax)] [(.ref ax), (.long ua)]))
  obtain ⟨T2, X2, e2, st2⟩ := getF X1 hx hZ hown (host := "") (Or.inl (hw _ (List.mem_of_getElem? (i := 18) rfl))) Via.refl e1 pf1 (g := (mkF m 5 #[.val (.ref ax)] [(.ref ax), (.long ua)])) rfl rfl (hb hby own_d5_5)
  refine own_by st2 ?_
  show own_Go p e below _ (T2.setTop (mkF m 8 #[.val (.ref ax)] [(.long uc), (.long ua)]))
  refine own_by (fun _ => XS.lcmp X2.here hx rfl (hb hby own_d5_8) rfl) ?_
  show own_Go p e below _ (T2.setTop (mkF m 9 #[.val (.ref ax)] [(.int (lcmpW ua uc))]))
  suffices J3 : ∀ (T' : State) (v3_t0 : Int32), v3_t0 = (if ua = uc then (1 : Int32) else (0 : Int32)) → own_At p l e ({ frames := 0, cells := 0, slots := 0, locals := 0 } : Room) s m #[(.ref ax)] below meth c n0 T' h0 0 0 → own_Go p e below (own_End s below (own_Q5 Z ax ua uc h0 n0) ({ frames := 0, cells := 0, slots := 0, locals := 0 } : Room).cells ({ frames := 0, cells := 0, slots := 0, locals := 0 } : Room).slots) (T'.setTop (mkF m 17 #[.val (.ref ax)] [(.int v3_t0)])) by
    by_cases hc9_4 : ua = uc
    ·
      skip
      refine own_by (fun _ => XS.ifNo X2.here hx rfl (hb hby own_d5_9) rfl ((if0 _ _).trans (teq ((lw_eq _ _).mpr hc9_4)).2)) ?_
      show own_Go p e below _ (T2.setTop (mkF m 12 #[.val (.ref ax)] []))
      refine own_by (fun _ => XS.iconst X2.here hx rfl (hb hby own_d5_12)) ?_
      show own_Go p e below _ (T2.setTop (mkF m 13 #[.val (.ref ax)] [(.int (1 : Int32))]))
      refine own_by (fun _ => XS.goto X2.here hx rfl (pc0 := 13) (pc' := 17) rfl (hb hby own_d5_13) (by decide) (by decide)) ?_
      show own_Go p e below _ (T2.setTop (mkF m 17 #[.val (.ref ax)] [(.int (1 : Int32))]))
      exact J3 _ _ (by first | rfl | simp only [if_pos hc9_4]) ⟨_, X2, N0, e2⟩
    ·
      skip
      refine own_by (fun _ => XS.ifYes X2.here hx rfl (pc0 := 9) (pc' := 16) rfl (hb hby own_d5_9) rfl ((if0 _ _).trans (feq (mt (lw_eq _ _).mp hc9_4)).2) (by decide) (by decide)) ?_
      show own_Go p e below _ (T2.setTop (mkF m 16 #[.val (.ref ax)] []))
      refine own_by (fun _ => XS.iconst X2.here hx rfl (hb hby own_d5_16)) ?_
      show own_Go p e below _ (T2.setTop (mkF m 17 #[.val (.ref ax)] [(.int (0 : Int32))]))
      exact J3 _ _ (by first | rfl | simp only [if_neg hc9_4]) ⟨_, X2, N0, e2⟩
  intro T3 v3_t0 hv3_t0 ⟨locs3, X3, N3, e3⟩
  show own_Go p e below _ (T3.setTop (mkF m 17 #[.val (.ref ax)] [(.int v3_t0)]))
  exact own_retZ X3 hx hlk e3 (by rw [hv3_t0]; (repeat' split) <;> first | exact Or.inl rfl | exact Or.inr rfl) hret (hb hby own_d5_17) (by decide) (by decide) ⟨(by subst hv3_t0; first | rfl | simp only [own_seg]), N3, rfl⟩

def own_law (xa : Int64) (xb : Int32) (xc : Int64) (xd : Int32) (xe : Int32) : Int32 := (if (own_snap xa (nar .boolean (if (xb &&& (1 : Int32)) = (0 : Int32) then (0 : Int32) else (1 : Int32))) (if (xe &&& (1 : Int32)) = (0 : Int32) then xc else ((xa + (6 : Int64)) + ((((xe.toUInt32 >>> ((1 : Int32) &&& 31).toUInt32).toInt32) &&& (3 : Int32)).toInt64)))) = (if (if (xb &&& (1 : Int32)) = (0 : Int32) then (0 : Int32) else (1 : Int32)) = (0 : Int32) then (0 : Int32) else (if ((if (xe &&& (1 : Int32)) = (0 : Int32) then xc else ((xa + (6 : Int64)) + ((((xe.toUInt32 >>> ((1 : Int32) &&& 31).toUInt32).toInt32) &&& (3 : Int32)).toInt64))) - xa) = (8 : Int64) then (1 : Int32) else (0 : Int32))) then (if (own_snap xa (nar .boolean (if (xb &&& (1 : Int32)) = (0 : Int32) then (0 : Int32) else (1 : Int32))) (if (xe &&& (1 : Int32)) = (0 : Int32) then xc else ((xa + (6 : Int64)) + ((((xe.toUInt32 >>> ((1 : Int32) &&& 31).toUInt32).toInt32) &&& (3 : Int32)).toInt64)))) = (0 : Int32) then (1 : Int32) else (if (own_seg xa (if (xe &&& (1 : Int32)) = (0 : Int32) then xc else ((xa + (6 : Int64)) + ((((xe.toUInt32 >>> ((1 : Int32) &&& 31).toUInt32).toInt32) &&& (3 : Int32)).toInt64)))) = (0 : Int32) then (1 : Int32) else (0 : Int32))) else (0 : Int32))
theorem own_iff (x z : Int64) : (x + (8 : Int64) = z) ↔ (z - x = (8 : Int64)) := by
  have e1 := c_ladd x 8
  have e2 := c_lsub z x
  have r1 := rng64 (x + 8)
  have r2 := rng64 (z - x)
  have r3 := rng64 x
  have r4 := rng64 z
  have k8 : (8 : Int64).toInt = 8 := by decide
  rw [k8] at e1
  rw [← Int64.toInt_inj, ← Int64.toInt_inj, k8]
  omega
theorem own_add8 (x : Int64) : ¬ (x + (8 : Int64) = x) := by
  have e1 := c_ladd x 8
  have k8 : (8 : Int64).toInt = 8 := by decide
  rw [k8] at e1
  rw [← Int64.toInt_inj]
  omega
theorem own_core (x z : Int64) (t : Int32) (ht : t = 0 ∨ t = 1) :
    (if own_snap x (nar .boolean t) z = (if t = (0 : Int32) then (0 : Int32) else (if (z - x) = (8 : Int64) then (1 : Int32) else (0 : Int32))) then (if own_snap x (nar .boolean t) z = (0 : Int32) then (1 : Int32) else (if own_seg x z = (0 : Int32) then (1 : Int32) else (0 : Int32))) else (0 : Int32)) = 1 := by
  have n1 : nar .boolean (1 : Int32) = 1 := by decide
  have n0 : nar .boolean (0 : Int32) = 0 := by decide
  have d10 : ¬ ((1 : Int32) = 0) := by decide
  rcases ht with rfl | rfl
  · simp only [own_snap, n0, if_true, if_pos]
  · simp only [own_snap, n1, if_neg d10, own_seg]
    by_cases q : x + (8 : Int64) = z
    · have q2 := (own_iff x z).mp q
      have q3 : ¬ (x = z) := fun r => own_add8 x (q.trans r.symm)
      simp only [if_pos q, if_pos q2, if_neg d10, if_neg q3, if_true, if_pos]
    · have q2 := mt (own_iff x z).mpr q
      simp only [if_neg q, if_neg q2, if_true, if_pos]
theorem own_plain (xa : Int64) (xb : Int32) (xc : Int64) (xd xe : Int32) : own_law xa xb xc xd xe = 1 := by
  simp only [own_law]
  exact own_core _ _ _ (by split <;> simp)

theorem own_pn0 : plainName "com/example/delivery_queue/deliveryqueue/store/ScanIsWholeSnapshotPinLaw" = true := by first | (simp [plainName, overriddenIn]; done) | decide +kernel
theorem own_ef0 (m : MethodId) (x0 : Int64) (x1 : Int32) (x2 : Int64) (x3 : Int32) (x4 : Int32) : entryFrame m #[(.long x0), (.int x1), (.long x2), (.int x3), (.int x4)] maxLocals = mkF m 0 #[.val (.long x0), .second, .val (.int x1), .val (.long x2), .second, .val (.int x3), .val (.int x4), .unset, .unset, .unset, .unset, .unset, .unset] [] := by first | (simp [entryFrame, mkF, argsToLocals, Value.category, maxLocals]; done) | rfl
def own_Q0 (Z : State) (xa : Int64) (xb : Int32) (xc : Int64) (xd : Int32) (xe : Int32) (h0 : Heap) (n0 : Nat) (v : Option Value) (h : Heap) (L : List Loc) : Prop := v = some (.int (1 : Int32)) ∧ Fr n0 L
theorem own_rm0 (l : Launch) (Z : State) (a0 : Array Value) (hw : ∀ d ∈ tables_1, d.before a0 Z = true) (ws : List Jvm.Cond) (xa : Int64) (xb : Int32) (xc : Int64) (xd : Int32) (xe : Int32) (h0 : Heap) (n0 : Nat) (Z0 : n0 ≤ h0.size) :
    MetFree l x (head1 (Jvm.Cond.code x code maxLocals ret :: ws) room_1) (fun a U => a = #[(.long xa), (.int xb), (.long xc), (.int xd), (.int xe)] ∧ Z.Warmed39 U.vm ∧ U.heap = h0) (fun _ _ _ _ _ => True) (fun _ U o U' => ∃ v L, o = .returned v ∧ own_Q0 Z xa xb xc xd xe h0 n0 v U'.heap L ∧ FrameEnd U o U' L room_1.cells room_1.slots) := by
  refine MetFree.of_bodySF (plainFor_of_name own_pn0) hisR ?_
  intro p e s m args below meth c s₁ Bd hml0 hP hK
  obtain ⟨rfl, hZ, hh⟩ := hP
  have hx := Bd.exec
  have hby := Bd.bytes
  have hlk := Bd.notSynchronized
  have hret := Bd.returns
  have hml : c.maxLocals = 13 := hml0
  have hown : s.vm.findClass "com/example/delivery_queue/deliveryqueue/store/ScanIsWholeSnapshotPinLaw" = some m.cls := findClass_of_methodNamed Bd.named
  have hnm := (name_of_methodNamed Bd.named Bd.method).1
  have X0 : Stand p l e room_1 s m #[(.long xa), (.int xb), (.long xc), (.int xd), (.int xe)] below meth c s₁ [] 0 0 := Stand.of_body Bd
  have e0 : s₁.heap = h0 := by rw [← hh, Bd.state]; rfl
  have N0 := Fr.nil n0
  suffices key : own_Go p e below (own_End s below (own_Q0 Z xa xb xc xd xe h0 n0) room_1.cells room_1.slots) (s₁.setTop (mkF m 0 #[.val (.long xa), .second, .val (.int xb), .val (.long xc), .second, .val (.int xd), .val (.int xe), .unset, .unset, .unset, .unset, .unset, .unset] [])) by
    obtain ⟨t, k1, k2, v, L, k3, k4, k5⟩ := key
    exact ⟨t, _, castTop (own_ef0 m xa xb xc xd xe) k1, k2, k3, v, L, rfl, k4, k5⟩
  show own_Go p e below _ (s₁.setTop (mkF m 0 #[.val (.long xa), .second, .val (.int xb), .val (.long xc), .second, .val (.int xd), .val (.int xe), .unset, .unset, .unset, .unset, .unset, .unset] []))
  refine own_by (fun _ => XS.iloadN X0.here hx rfl (hb hby at_0) rfl) ?_
  show own_Go p e below _ (s₁.setTop (mkF m 1 #[.val (.long xa), .second, .val (.int xb), .val (.long xc), .second, .val (.int xd), .val (.int xe), .unset, .unset, .unset, .unset, .unset, .unset] [(.int xb)]))
  refine own_by (fun _ => XS.iconst X0.here hx rfl (hb hby at_1)) ?_
  show own_Go p e below _ (s₁.setTop (mkF m 2 #[.val (.long xa), .second, .val (.int xb), .val (.long xc), .second, .val (.int xd), .val (.int xe), .unset, .unset, .unset, .unset, .unset, .unset] [(.int (1 : Int32)), (.int xb)]))
  refine own_by (fun _ => XS.iand X0.here hx rfl (hb hby at_2) rfl) ?_
  show own_Go p e below _ (s₁.setTop (mkF m 3 #[.val (.long xa), .second, .val (.int xb), .val (.long xc), .second, .val (.int xd), .val (.int xe), .unset, .unset, .unset, .unset, .unset, .unset] [(.int (xb &&& (1 : Int32)))]))
  suffices J1 : ∀ (T' : State) (v1_t0 : Int32), v1_t0 = (if (xb &&& (1 : Int32)) = (0 : Int32) then (0 : Int32) else (1 : Int32)) → own_At p l e room_1 s m #[(.long xa), (.int xb), (.long xc), (.int xd), (.int xe)] below meth c n0 T' h0 0 0 → own_Go p e below (own_End s below (own_Q0 Z xa xb xc xd xe h0 n0) room_1.cells room_1.slots) (T'.setTop (mkF m 11 #[.val (.long xa), .second, .val (.int xb), .val (.long xc), .second, .val (.int xd), .val (.int xe), .unset, .unset, .unset, .unset, .unset, .unset] [(.int v1_t0)])) by
    by_cases hc3_2 : (xb &&& (1 : Int32)) = (0 : Int32)
    ·
      skip
      refine own_by (fun _ => XS.ifYes X0.here hx rfl (pc0 := 3) (pc' := 10) rfl (hb hby at_3) rfl ((if0 _ _).trans (teq hc3_2).1) (by decide) (by decide)) ?_
      show own_Go p e below _ (s₁.setTop (mkF m 10 #[.val (.long xa), .second, .val (.int xb), .val (.long xc), .second, .val (.int xd), .val (.int xe), .unset, .unset, .unset, .unset, .unset, .unset] []))
      refine own_by (fun _ => XS.iconst X0.here hx rfl (hb hby at_10)) ?_
      show own_Go p e below _ (s₁.setTop (mkF m 11 #[.val (.long xa), .second, .val (.int xb), .val (.long xc), .second, .val (.int xd), .val (.int xe), .unset, .unset, .unset, .unset, .unset, .unset] [(.int (0 : Int32))]))
      exact J1 _ _ (by first | rfl | simp only [if_pos hc3_2]) ⟨_, X0, N0, e0⟩
    ·
      skip
      refine own_by (fun _ => XS.ifNo X0.here hx rfl (hb hby at_3) rfl ((if0 _ _).trans (feq hc3_2).1)) ?_
      show own_Go p e below _ (s₁.setTop (mkF m 6 #[.val (.long xa), .second, .val (.int xb), .val (.long xc), .second, .val (.int xd), .val (.int xe), .unset, .unset, .unset, .unset, .unset, .unset] []))
      refine own_by (fun _ => XS.iconst X0.here hx rfl (hb hby at_6)) ?_
      show own_Go p e below _ (s₁.setTop (mkF m 7 #[.val (.long xa), .second, .val (.int xb), .val (.long xc), .second, .val (.int xd), .val (.int xe), .unset, .unset, .unset, .unset, .unset, .unset] [(.int (1 : Int32))]))
      refine own_by (fun _ => XS.goto X0.here hx rfl (pc0 := 7) (pc' := 11) rfl (hb hby at_7) (by decide) (by decide)) ?_
      show own_Go p e below _ (s₁.setTop (mkF m 11 #[.val (.long xa), .second, .val (.int xb), .val (.long xc), .second, .val (.int xd), .val (.int xe), .unset, .unset, .unset, .unset, .unset, .unset] [(.int (1 : Int32))]))
      exact J1 _ _ (by first | rfl | simp only [if_neg hc3_2]) ⟨_, X0, N0, e0⟩
  intro T1 v1_t0 hv1_t0 ⟨locs1, X1, N1, e1⟩
  show own_Go p e below _ (T1.setTop (mkF m 11 #[.val (.long xa), .second, .val (.int xb), .val (.long xc), .second, .val (.int xd), .val (.int xe), .unset, .unset, .unset, .unset, .unset, .unset] [(.int v1_t0)]))
  refine own_by (fun _ => XS.istore X1.here hx rfl (hb hby at_11) rfl (l' := #[.val (.long xa), .second, .val (.int xb), .val (.long xc), .second, .val (.int xd), .val (.int xe), .val (.int v1_t0), .unset, .unset, .unset, .unset, .unset]) rfl) ?_
  show own_Go p e below _ (T1.setTop (mkF m 13 #[.val (.long xa), .second, .val (.int xb), .val (.long xc), .second, .val (.int xd), .val (.int xe), .val (.int v1_t0), .unset, .unset, .unset, .unset, .unset] []))
  refine own_by (fun _ => XS.iload X1.here hx rfl (hb hby at_13) rfl) ?_
  show own_Go p e below _ (T1.setTop (mkF m 15 #[.val (.long xa), .second, .val (.int xb), .val (.long xc), .second, .val (.int xd), .val (.int xe), .val (.int v1_t0), .unset, .unset, .unset, .unset, .unset] [(.int xe)]))
  refine own_by (fun _ => XS.iconst X1.here hx rfl (hb hby at_15)) ?_
  show own_Go p e below _ (T1.setTop (mkF m 16 #[.val (.long xa), .second, .val (.int xb), .val (.long xc), .second, .val (.int xd), .val (.int xe), .val (.int v1_t0), .unset, .unset, .unset, .unset, .unset] [(.int (1 : Int32)), (.int xe)]))
  refine own_by (fun _ => XS.iand X1.here hx rfl (hb hby at_16) rfl) ?_
  show own_Go p e below _ (T1.setTop (mkF m 17 #[.val (.long xa), .second, .val (.int xb), .val (.long xc), .second, .val (.int xd), .val (.int xe), .val (.int v1_t0), .unset, .unset, .unset, .unset, .unset] [(.int (xe &&& (1 : Int32)))]))
  suffices J3 : ∀ (T' : State) (v3_t0 : Int64), v3_t0 = (if (xe &&& (1 : Int32)) = (0 : Int32) then xc else ((xa + (6 : Int64)) + ((((xe.toUInt32 >>> ((1 : Int32) &&& 31).toUInt32).toInt32) &&& (3 : Int32)).toInt64))) → own_At p l e room_1 s m #[(.long xa), (.int xb), (.long xc), (.int xd), (.int xe)] below meth c n0 T' h0 0 0 → own_Go p e below (own_End s below (own_Q0 Z xa xb xc xd xe h0 n0) room_1.cells room_1.slots) (T'.setTop (mkF m 37 #[.val (.long xa), .second, .val (.int xb), .val (.long xc), .second, .val (.int xd), .val (.int xe), .val (.int v1_t0), .unset, .unset, .unset, .unset, .unset] [(.long v3_t0)])) by
    by_cases hc17_4 : (xe &&& (1 : Int32)) = (0 : Int32)
    ·
      skip
      refine own_by (fun _ => XS.ifYes X1.here hx rfl (pc0 := 17) (pc' := 36) rfl (hb hby at_17) rfl ((if0 _ _).trans (teq hc17_4).1) (by decide) (by decide)) ?_
      show own_Go p e below _ (T1.setTop (mkF m 36 #[.val (.long xa), .second, .val (.int xb), .val (.long xc), .second, .val (.int xd), .val (.int xe), .val (.int v1_t0), .unset, .unset, .unset, .unset, .unset] []))
      refine own_by (fun _ => XS.lloadN X1.here hx rfl (hb hby at_36) rfl) ?_
      show own_Go p e below _ (T1.setTop (mkF m 37 #[.val (.long xa), .second, .val (.int xb), .val (.long xc), .second, .val (.int xd), .val (.int xe), .val (.int v1_t0), .unset, .unset, .unset, .unset, .unset] [(.long xc)]))
      exact J3 _ _ (by first | rfl | simp only [if_pos hc17_4]) ⟨_, X1, N1, e1⟩
    ·
      skip
      refine own_by (fun _ => XS.ifNo X1.here hx rfl (hb hby at_17) rfl ((if0 _ _).trans (feq hc17_4).1)) ?_
      show own_Go p e below _ (T1.setTop (mkF m 20 #[.val (.long xa), .second, .val (.int xb), .val (.long xc), .second, .val (.int xd), .val (.int xe), .val (.int v1_t0), .unset, .unset, .unset, .unset, .unset] []))
      refine own_by (fun _ => XS.lloadN X1.here hx rfl (hb hby at_20) rfl) ?_
      show own_Go p e below _ (T1.setTop (mkF m 21 #[.val (.long xa), .second, .val (.int xb), .val (.long xc), .second, .val (.int xd), .val (.int xe), .val (.int v1_t0), .unset, .unset, .unset, .unset, .unset] [(.long xa)]))
      refine own_by (X1.ldc2Long hx hown (mvT hZ (hw _ (List.mem_of_getElem? (i := 27) rfl))) (g := (mkF m 21 #[.val (.long xa), .second, .val (.int xb), .val (.long xc), .second, .val (.int xd), .val (.int xe), .val (.int v1_t0), .unset, .unset, .unset, .unset, .unset] [(.long xa)])) rfl (hb hby at_21)) ?_
      show own_Go p e below _ (T1.setTop (mkF m 24 #[.val (.long xa), .second, .val (.int xb), .val (.long xc), .second, .val (.int xd), .val (.int xe), .val (.int v1_t0), .unset, .unset, .unset, .unset, .unset] [(.long (6 : Int64)), (.long xa)]))
      refine own_by (fun _ => XS.ladd X1.here hx rfl (hb hby at_24) rfl) ?_
      show own_Go p e below _ (T1.setTop (mkF m 25 #[.val (.long xa), .second, .val (.int xb), .val (.long xc), .second, .val (.int xd), .val (.int xe), .val (.int v1_t0), .unset, .unset, .unset, .unset, .unset] [(.long (xa + (6 : Int64)))]))
      refine own_by (fun _ => XS.iload X1.here hx rfl (hb hby at_25) rfl) ?_
      show own_Go p e below _ (T1.setTop (mkF m 27 #[.val (.long xa), .second, .val (.int xb), .val (.long xc), .second, .val (.int xd), .val (.int xe), .val (.int v1_t0), .unset, .unset, .unset, .unset, .unset] [(.int xe), (.long (xa + (6 : Int64)))]))
      refine own_by (fun _ => XS.iconst X1.here hx rfl (hb hby at_27)) ?_
      show own_Go p e below _ (T1.setTop (mkF m 28 #[.val (.long xa), .second, .val (.int xb), .val (.long xc), .second, .val (.int xd), .val (.int xe), .val (.int v1_t0), .unset, .unset, .unset, .unset, .unset] [(.int (1 : Int32)), (.int xe), (.long (xa + (6 : Int64)))]))
      refine own_by (fun _ => XS.iushr X1.here hx rfl (hb hby at_28) rfl) ?_
      show own_Go p e below _ (T1.setTop (mkF m 29 #[.val (.long xa), .second, .val (.int xb), .val (.long xc), .second, .val (.int xd), .val (.int xe), .val (.int v1_t0), .unset, .unset, .unset, .unset, .unset] [(.int ((xe.toUInt32 >>> ((1 : Int32) &&& 31).toUInt32).toInt32)), (.long (xa + (6 : Int64)))]))
      refine own_by (fun _ => XS.iconst X1.here hx rfl (hb hby at_29)) ?_
      show own_Go p e below _ (T1.setTop (mkF m 30 #[.val (.long xa), .second, .val (.int xb), .val (.long xc), .second, .val (.int xd), .val (.int xe), .val (.int v1_t0), .unset, .unset, .unset, .unset, .unset] [(.int (3 : Int32)), (.int ((xe.toUInt32 >>> ((1 : Int32) &&& 31).toUInt32).toInt32)), (.long (xa + (6 : Int64)))]))
      refine own_by (fun _ => XS.iand X1.here hx rfl (hb hby at_30) rfl) ?_
      show own_Go p e below _ (T1.setTop (mkF m 31 #[.val (.long xa), .second, .val (.int xb), .val (.long xc), .second, .val (.int xd), .val (.int xe), .val (.int v1_t0), .unset, .unset, .unset, .unset, .unset] [(.int (((xe.toUInt32 >>> ((1 : Int32) &&& 31).toUInt32).toInt32) &&& (3 : Int32))), (.long (xa + (6 : Int64)))]))
      refine own_by (fun _ => XS.i2l X1.here hx rfl (hb hby at_31) rfl) ?_
      show own_Go p e below _ (T1.setTop (mkF m 32 #[.val (.long xa), .second, .val (.int xb), .val (.long xc), .second, .val (.int xd), .val (.int xe), .val (.int v1_t0), .unset, .unset, .unset, .unset, .unset] [(.long ((((xe.toUInt32 >>> ((1 : Int32) &&& 31).toUInt32).toInt32) &&& (3 : Int32)).toInt64)), (.long (xa + (6 : Int64)))]))
      refine own_by (fun _ => XS.ladd X1.here hx rfl (hb hby at_32) rfl) ?_
      show own_Go p e below _ (T1.setTop (mkF m 33 #[.val (.long xa), .second, .val (.int xb), .val (.long xc), .second, .val (.int xd), .val (.int xe), .val (.int v1_t0), .unset, .unset, .unset, .unset, .unset] [(.long ((xa + (6 : Int64)) + ((((xe.toUInt32 >>> ((1 : Int32) &&& 31).toUInt32).toInt32) &&& (3 : Int32)).toInt64)))]))
      refine own_by (fun _ => XS.goto X1.here hx rfl (pc0 := 33) (pc' := 37) rfl (hb hby at_33) (by decide) (by decide)) ?_
      show own_Go p e below _ (T1.setTop (mkF m 37 #[.val (.long xa), .second, .val (.int xb), .val (.long xc), .second, .val (.int xd), .val (.int xe), .val (.int v1_t0), .unset, .unset, .unset, .unset, .unset] [(.long ((xa + (6 : Int64)) + ((((xe.toUInt32 >>> ((1 : Int32) &&& 31).toUInt32).toInt32) &&& (3 : Int32)).toInt64)))]))
      exact J3 _ _ (by first | rfl | simp only [if_neg hc17_4]) ⟨_, X1, N1, e1⟩
  intro T3 v3_t0 hv3_t0 ⟨locs3, X3, N3, e3⟩
  show own_Go p e below _ (T3.setTop (mkF m 37 #[.val (.long xa), .second, .val (.int xb), .val (.long xc), .second, .val (.int xd), .val (.int xe), .val (.int v1_t0), .unset, .unset, .unset, .unset, .unset] [(.long v3_t0)]))
  refine own_by (fun _ => XS.lstore X3.here hx rfl (hb hby at_37) rfl (l' := #[.val (.long xa), .second, .val (.int xb), .val (.long xc), .second, .val (.int xd), .val (.int xe), .val (.int v1_t0), .val (.long v3_t0), .second, .unset, .unset, .unset]) rfl) ?_
  show own_Go p e below _ (T3.setTop (mkF m 39 #[.val (.long xa), .second, .val (.int xb), .val (.long xc), .second, .val (.int xd), .val (.int xe), .val (.int v1_t0), .val (.long v3_t0), .second, .unset, .unset, .unset] []))
  obtain ⟨T5, h5, X5, e5, E5, A5, D5, -, st5⟩ := newO X3 hx hZ hown (hw _ (List.mem_of_getElem? (i := 0) rfl)) (hw _ (List.mem_of_getElem? (i := 1) rfl)) (hw _ (List.mem_of_getElem? (i := 2) rfl)) e3 (g := (mkF m 39 #[.val (.long xa), .second, .val (.int xb), .val (.long xc), .second, .val (.int xd), .val (.int xe), .val (.int v1_t0), .val (.long v3_t0), .second, .unset, .unset, .unset] [])) rfl (hb hby at_39) (by decide) (by decide)
  obtain ⟨b5, g5⟩ : ∃ z, z = h0.size := ⟨_, rfl⟩
  rw [← g5] at A5 D5 st5
  refine own_by st5 ?_
  have ge5 : n0 ≤ b5 := Nat.le_trans Z0 (Nat.le_of_eq g5.symm)
  have z5 : n0 ≤ h5.size := Nat.le_trans Z0 E5.1
  have fz5_end : Fld Z h5 b5 "com/example/delivery_queue/deliveryqueue/store/LogFile$Scan" "end" "J" (.long (0 : Int64)) := D5 (Or.inr (hw _ (List.mem_of_getElem? (i := 15) rfl))) (ty := .long) (by decide)
  have fz5_terminated : Fld Z h5 b5 "com/example/delivery_queue/deliveryqueue/store/LogFile$Scan" "terminated" "Z" (.int (0 : Int32)) := D5 (Or.inr (hw _ (List.mem_of_getElem? (i := 17) rfl))) (ty := .boolean) (by decide)
  have fz5_size : Fld Z h5 b5 "com/example/delivery_queue/deliveryqueue/store/LogFile$Scan" "size" "J" (.long (0 : Int64)) := D5 (Or.inr (hw _ (List.mem_of_getElem? (i := 19) rfl))) (ty := .long) (by decide)
  have fz5_version : Fld Z h5 b5 "com/example/delivery_queue/deliveryqueue/store/LogFile$Scan" "version" "I" (.int (0 : Int32)) := D5 (Or.inr (hw _ (List.mem_of_getElem? (i := 21) rfl))) (ty := .int) (by decide)
  show own_Go p e below _ (T5.setTop (mkF m 42 #[.val (.long xa), .second, .val (.int xb), .val (.long xc), .second, .val (.int xd), .val (.int xe), .val (.int v1_t0), .val (.long v3_t0), .second, .unset, .unset, .unset] [(.ref b5)]))
  refine own_by (fun _ => XS.dup X5.here hx rfl (hb hby at_42) rfl rfl) ?_
  show own_Go p e below _ (T5.setTop (mkF m 43 #[.val (.long xa), .second, .val (.int xb), .val (.long xc), .second, .val (.int xd), .val (.int xe), .val (.int v1_t0), .val (.long v3_t0), .second, .unset, .unset, .unset] [(.ref b5), (.ref b5)]))
  refine own_by (fun _ => XS.lloadN X5.here hx rfl (hb hby at_43) rfl) ?_
  show own_Go p e below _ (T5.setTop (mkF m 44 #[.val (.long xa), .second, .val (.int xb), .val (.long xc), .second, .val (.int xd), .val (.int xe), .val (.int v1_t0), .val (.long v3_t0), .second, .unset, .unset, .unset] [(.long xa), (.ref b5), (.ref b5)]))
  refine own_by (fun _ => XS.iload X5.here hx rfl (hb hby at_44) rfl) ?_
  show own_Go p e below _ (T5.setTop (mkF m 46 #[.val (.long xa), .second, .val (.int xb), .val (.long xc), .second, .val (.int xd), .val (.int xe), .val (.int v1_t0), .val (.long v3_t0), .second, .unset, .unset, .unset] [(.int v1_t0), (.long xa), (.ref b5), (.ref b5)]))
  refine own_by (fun _ => XS.lload X5.here hx rfl (hb hby at_46) rfl) ?_
  show own_Go p e below _ (T5.setTop (mkF m 48 #[.val (.long xa), .second, .val (.int xb), .val (.long xc), .second, .val (.int xd), .val (.int xe), .val (.int v1_t0), .val (.long v3_t0), .second, .unset, .unset, .unset] [(.long v3_t0), (.int v1_t0), (.long xa), (.ref b5), (.ref b5)]))
  refine own_by (fun _ => XS.iload X5.here hx rfl (hb hby at_48) rfl) ?_
  show own_Go p e below _ (T5.setTop (mkF m 50 #[.val (.long xa), .second, .val (.int xb), .val (.long xc), .second, .val (.int xd), .val (.int xe), .val (.int v1_t0), .val (.long v3_t0), .second, .unset, .unset, .unset] [(.int xd), (.long v3_t0), (.int v1_t0), (.long xa), (.ref b5), (.ref b5)]))
  obtain ⟨_, _, ⟨T6, L6, k6, n6⟩, -, X6, ⟨Lc6, hQ6, l6, y6, z6'⟩, st6⟩ := X5.specialBack hx (y := (⟨"com/example/delivery_queue/deliveryqueue/store/LogFile$Scan", "<init>", "(JZJI)V"⟩ : MethodName)) rfl hown (mvT hZ (hw _ (List.mem_of_getElem? (i := 3) rfl))) (mvT hZ (hw _ (List.mem_of_getElem? (i := 4) rfl))) (mvT hZ (hw _ (List.mem_of_getElem? (i := 5) rfl))) (by decide) (backOf (W := 1) (own_rm1 l Z a0 hw [] b5 xa v1_t0 v3_t0 xd (0 : Int64) (0 : Int32) (0 : Int64) (0 : Int32) h5 n0 z5 A5 fz5_end fz5_terminated fz5_size fz5_version ge5) hZ (hw _ (List.mem_of_getElem? (i := 5) rfl)) (hw _ (List.mem_of_getElem? (i := 2) rfl)) (by decide) (by decide)) (g := (mkF m 50 #[.val (.long xa), .second, .val (.int xb), .val (.long xc), .second, .val (.int xd), .val (.int xe), .val (.int v1_t0), .val (.long v3_t0), .second, .unset, .unset, .unset] [(.int xd), (.long v3_t0), (.int v1_t0), (.long xa), (.ref b5), (.ref b5)])) rfl (by rw [hml]; rfl) (Steps.refl _) (a := b5) (argsL := [(.long xa), (.int v1_t0), (.long v3_t0), (.int xd)]) (rest := [(.ref b5)]) (lenOf own_pd1 rfl) rfl (by show 2 * 0 + _ ≤ _; exact Nat.le_of_eq rfl) (hb hby at_50) (fun _ _ => ⟨rfl, e5, (by decide : 1 + 0 ≤ _), (by decide : 4 + 0 ≤ _)⟩)
  dsimp only [Pt.U, Pt.locs, Pt.cells, Pt.slots] at X6 l6 y6 z6' st6 hQ6
  subst l6 y6 z6'
  obtain ⟨rfl, N6q, Kc6, fc6_0, fc6_1, fc6_2⟩ := hQ6
  have N6 := Fr.app N3 N6q
  refine own_tr st6 ?_
  have z6 : n0 ≤ T6.heap.size := Nat.le_trans z5 Kc6.1
  show own_Go p e below _ (T6.setTop (mkF m 53 #[.val (.long xa), .second, .val (.int xb), .val (.long xc), .second, .val (.int xd), .val (.int xe), .val (.int v1_t0), .val (.long v3_t0), .second, .unset, .unset, .unset] [(.ref b5)]))
  refine own_by (fun _ => XS.astore X6.here hx rfl (hb hby at_53) rfl rfl (l' := #[.val (.long xa), .second, .val (.int xb), .val (.long xc), .second, .val (.int xd), .val (.int xe), .val (.int v1_t0), .val (.long v3_t0), .second, .val (.ref b5), .unset, .unset]) rfl) ?_
  show own_Go p e below _ (T6.setTop (mkF m 55 #[.val (.long xa), .second, .val (.int xb), .val (.long xc), .second, .val (.int xd), .val (.int xe), .val (.int v1_t0), .val (.long v3_t0), .second, .val (.ref b5), .unset, .unset] []))
  refine own_by (fun _ => XS.aload X6.here hx rfl (hb hby at_55) rfl rfl) ?_
  show own_Go p e below _ (T6.setTop (mkF m 57 #[.val (.long xa), .second, .val (.int xb), .val (.long xc), .second, .val (.int xd), .val (.int xe), .val (.int v1_t0), .val (.long v3_t0), .second, .val (.ref b5), .unset, .unset] [(.ref b5)]))
  have f8 : Exa Z T6.heap b5 "com/example/delivery_queue/deliveryqueue/store/LogFile$Scan" := (A5.keep Kc6)
  obtain ⟨cq7, kq7, q7a, q7b, q7c⟩ := isOf hZ rfl f8
  obtain ⟨_, _, ⟨T7, L7, k7, n7⟩, -, X7, ⟨Lc7, hQ7, l7, y7, z7'⟩, st7⟩ := X6.virtualBack hx (y := (⟨"com/example/delivery_queue/deliveryqueue/store/LogFile$Scan", "isWholeSnapshot", "()Z"⟩ : MethodName)) (z := (⟨"com/example/delivery_queue/deliveryqueue/store/LogFile$Scan", "isWholeSnapshot", "()Z"⟩ : MethodName)) hown (mvT hZ (hw _ (List.mem_of_getElem? (i := 22) rfl))) (mvT hZ (hw _ (List.mem_of_getElem? (i := 23) rfl))) (notFace_of_selects (args := #[]) (mvT hZ (hw _ (List.mem_of_getElem? (i := 25) rfl)))) (mvT hZ (hw _ (List.mem_of_getElem? (i := 25) rfl))) (mvT hZ (hw _ (List.mem_of_getElem? (i := 24) rfl))) (by decide) (backOf (W := 0) (own_rm4 l Z a0 hw [] b5 xa (nar .boolean v1_t0) v3_t0 T6.heap n0 z6 fc6_0 fc6_1 fc6_2) hZ (hw _ (List.mem_of_getElem? (i := 26) rfl)) (hw _ (List.mem_of_getElem? (i := 2) rfl)) (by decide) (by decide)) q7a q7c (g := (mkF m 57 #[.val (.long xa), .second, .val (.int xb), .val (.long xc), .second, .val (.int xd), .val (.int xe), .val (.int v1_t0), .val (.long v3_t0), .second, .val (.ref b5), .unset, .unset] [(.ref b5)])) rfl (by rw [hml]; rfl) (Steps.refl _) (argsL := []) (rest := []) (lenOf own_pd2 rfl) rfl (by show 2 * 0 + _ ≤ _; exact Nat.le_of_eq rfl) (hb hby at_57) (fun _ _ => ⟨rfl, rfl, (by decide : 1 + 0 ≤ _), (by decide : 4 + 0 ≤ _)⟩)
  dsimp only [Pt.U, Pt.locs, Pt.cells, Pt.slots] at X7 l7 y7 z7' st7 hQ7
  subst l7 y7 z7'
  obtain ⟨rfl, N7q, e7⟩ := hQ7
  have N7 := Fr.app N6 N7q
  refine own_tr st7 ?_
  show own_Go p e below _ (T7.setTop (mkF m 60 #[.val (.long xa), .second, .val (.int xb), .val (.long xc), .second, .val (.int xd), .val (.int xe), .val (.int v1_t0), .val (.long v3_t0), .second, .val (.ref b5), .unset, .unset] [(.int (own_snap xa (nar .boolean v1_t0) v3_t0))]))
  refine own_by (fun _ => XS.istore X7.here hx rfl (hb hby at_60) rfl (l' := #[.val (.long xa), .second, .val (.int xb), .val (.long xc), .second, .val (.int xd), .val (.int xe), .val (.int v1_t0), .val (.long v3_t0), .second, .val (.ref b5), .val (.int (own_snap xa (nar .boolean v1_t0) v3_t0)), .unset]) rfl) ?_
  show own_Go p e below _ (T7.setTop (mkF m 62 #[.val (.long xa), .second, .val (.int xb), .val (.long xc), .second, .val (.int xd), .val (.int xe), .val (.int v1_t0), .val (.long v3_t0), .second, .val (.ref b5), .val (.int (own_snap xa (nar .boolean v1_t0) v3_t0)), .unset] []))
  refine own_by (fun _ => XS.iload X7.here hx rfl (hb hby at_62) rfl) ?_
  show own_Go p e below _ (T7.setTop (mkF m 64 #[.val (.long xa), .second, .val (.int xb), .val (.long xc), .second, .val (.int xd), .val (.int xe), .val (.int v1_t0), .val (.long v3_t0), .second, .val (.ref b5), .val (.int (own_snap xa (nar .boolean v1_t0) v3_t0)), .unset] [(.int v1_t0)]))
  suffices J9 : ∀ (T' : State) (v9_t0 : Int32), v9_t0 = (if v1_t0 = (0 : Int32) then (0 : Int32) else (if (v3_t0 - xa) = (8 : Int64) then (1 : Int32) else (0 : Int32))) → own_At p l e room_1 s m #[(.long xa), (.int xb), (.long xc), (.int xd), (.int xe)] below meth c n0 T' T6.heap 1 4 → own_Go p e below (own_End s below (own_Q0 Z xa xb xc xd xe h0 n0) room_1.cells room_1.slots) (T'.setTop (mkF m 83 #[.val (.long xa), .second, .val (.int xb), .val (.long xc), .second, .val (.int xd), .val (.int xe), .val (.int v1_t0), .val (.long v3_t0), .second, .val (.ref b5), .val (.int (own_snap xa (nar .boolean v1_t0) v3_t0)), .unset] [(.int v9_t0)])) by
    by_cases hc64_10 : v1_t0 = (0 : Int32)
    ·
      skip
      refine own_by (fun _ => XS.ifYes X7.here hx rfl (pc0 := 64) (pc' := 82) rfl (hb hby at_64) rfl ((if0 _ _).trans (teq hc64_10).1) (by decide) (by decide)) ?_
      show own_Go p e below _ (T7.setTop (mkF m 82 #[.val (.long xa), .second, .val (.int xb), .val (.long xc), .second, .val (.int xd), .val (.int xe), .val (.int v1_t0), .val (.long v3_t0), .second, .val (.ref b5), .val (.int (own_snap xa (nar .boolean v1_t0) v3_t0)), .unset] []))
      refine own_by (fun _ => XS.iconst X7.here hx rfl (hb hby at_82)) ?_
      show own_Go p e below _ (T7.setTop (mkF m 83 #[.val (.long xa), .second, .val (.int xb), .val (.long xc), .second, .val (.int xd), .val (.int xe), .val (.int v1_t0), .val (.long v3_t0), .second, .val (.ref b5), .val (.int (own_snap xa (nar .boolean v1_t0) v3_t0)), .unset] [(.int (0 : Int32))]))
      exact J9 _ _ (by first | rfl | simp only [if_pos hc64_10]) ⟨_, X7, N7, e7⟩
    ·
      skip
      refine own_by (fun _ => XS.ifNo X7.here hx rfl (hb hby at_64) rfl ((if0 _ _).trans (feq hc64_10).1)) ?_
      show own_Go p e below _ (T7.setTop (mkF m 67 #[.val (.long xa), .second, .val (.int xb), .val (.long xc), .second, .val (.int xd), .val (.int xe), .val (.int v1_t0), .val (.long v3_t0), .second, .val (.ref b5), .val (.int (own_snap xa (nar .boolean v1_t0) v3_t0)), .unset] []))
      refine own_by (fun _ => XS.lload X7.here hx rfl (hb hby at_67) rfl) ?_
      show own_Go p e below _ (T7.setTop (mkF m 69 #[.val (.long xa), .second, .val (.int xb), .val (.long xc), .second, .val (.int xd), .val (.int xe), .val (.int v1_t0), .val (.long v3_t0), .second, .val (.ref b5), .val (.int (own_snap xa (nar .boolean v1_t0) v3_t0)), .unset] [(.long v3_t0)]))
      refine own_by (fun _ => XS.lloadN X7.here hx rfl (hb hby at_69) rfl) ?_
      show own_Go p e below _ (T7.setTop (mkF m 70 #[.val (.long xa), .second, .val (.int xb), .val (.long xc), .second, .val (.int xd), .val (.int xe), .val (.int v1_t0), .val (.long v3_t0), .second, .val (.ref b5), .val (.int (own_snap xa (nar .boolean v1_t0) v3_t0)), .unset] [(.long xa), (.long v3_t0)]))
      refine own_by (fun _ => XS.lsub X7.here hx rfl (hb hby at_70) rfl) ?_
      show own_Go p e below _ (T7.setTop (mkF m 71 #[.val (.long xa), .second, .val (.int xb), .val (.long xc), .second, .val (.int xd), .val (.int xe), .val (.int v1_t0), .val (.long v3_t0), .second, .val (.ref b5), .val (.int (own_snap xa (nar .boolean v1_t0) v3_t0)), .unset] [(.long (v3_t0 - xa))]))
      refine own_by (X7.ldc2Long hx hown (mvT hZ (hw _ (List.mem_of_getElem? (i := 29) rfl))) (g := (mkF m 71 #[.val (.long xa), .second, .val (.int xb), .val (.long xc), .second, .val (.int xd), .val (.int xe), .val (.int v1_t0), .val (.long v3_t0), .second, .val (.ref b5), .val (.int (own_snap xa (nar .boolean v1_t0) v3_t0)), .unset] [(.long (v3_t0 - xa))])) rfl (hb hby at_71)) ?_
      show own_Go p e below _ (T7.setTop (mkF m 74 #[.val (.long xa), .second, .val (.int xb), .val (.long xc), .second, .val (.int xd), .val (.int xe), .val (.int v1_t0), .val (.long v3_t0), .second, .val (.ref b5), .val (.int (own_snap xa (nar .boolean v1_t0) v3_t0)), .unset] [(.long (8 : Int64)), (.long (v3_t0 - xa))]))
      refine own_by (fun _ => XS.lcmp X7.here hx rfl (hb hby at_74) rfl) ?_
      show own_Go p e below _ (T7.setTop (mkF m 75 #[.val (.long xa), .second, .val (.int xb), .val (.long xc), .second, .val (.int xd), .val (.int xe), .val (.int v1_t0), .val (.long v3_t0), .second, .val (.ref b5), .val (.int (own_snap xa (nar .boolean v1_t0) v3_t0)), .unset] [(.int (lcmpW (v3_t0 - xa) (8 : Int64)))]))
      by_cases hc75_11 : (v3_t0 - xa) = (8 : Int64)
      ·
        skip
        refine own_by (fun _ => XS.ifNo X7.here hx rfl (hb hby at_75) rfl ((if0 _ _).trans (teq ((lw_eq _ _).mpr hc75_11)).2)) ?_
        show own_Go p e below _ (T7.setTop (mkF m 78 #[.val (.long xa), .second, .val (.int xb), .val (.long xc), .second, .val (.int xd), .val (.int xe), .val (.int v1_t0), .val (.long v3_t0), .second, .val (.ref b5), .val (.int (own_snap xa (nar .boolean v1_t0) v3_t0)), .unset] []))
        refine own_by (fun _ => XS.iconst X7.here hx rfl (hb hby at_78)) ?_
        show own_Go p e below _ (T7.setTop (mkF m 79 #[.val (.long xa), .second, .val (.int xb), .val (.long xc), .second, .val (.int xd), .val (.int xe), .val (.int v1_t0), .val (.long v3_t0), .second, .val (.ref b5), .val (.int (own_snap xa (nar .boolean v1_t0) v3_t0)), .unset] [(.int (1 : Int32))]))
        refine own_by (fun _ => XS.goto X7.here hx rfl (pc0 := 79) (pc' := 83) rfl (hb hby at_79) (by decide) (by decide)) ?_
        show own_Go p e below _ (T7.setTop (mkF m 83 #[.val (.long xa), .second, .val (.int xb), .val (.long xc), .second, .val (.int xd), .val (.int xe), .val (.int v1_t0), .val (.long v3_t0), .second, .val (.ref b5), .val (.int (own_snap xa (nar .boolean v1_t0) v3_t0)), .unset] [(.int (1 : Int32))]))
        exact J9 _ _ (by first | rfl | simp only [if_neg hc64_10, if_pos hc75_11]) ⟨_, X7, N7, e7⟩
      ·
        skip
        refine own_by (fun _ => XS.ifYes X7.here hx rfl (pc0 := 75) (pc' := 82) rfl (hb hby at_75) rfl ((if0 _ _).trans (feq (mt (lw_eq _ _).mp hc75_11)).2) (by decide) (by decide)) ?_
        show own_Go p e below _ (T7.setTop (mkF m 82 #[.val (.long xa), .second, .val (.int xb), .val (.long xc), .second, .val (.int xd), .val (.int xe), .val (.int v1_t0), .val (.long v3_t0), .second, .val (.ref b5), .val (.int (own_snap xa (nar .boolean v1_t0) v3_t0)), .unset] []))
        refine own_by (fun _ => XS.iconst X7.here hx rfl (hb hby at_82)) ?_
        show own_Go p e below _ (T7.setTop (mkF m 83 #[.val (.long xa), .second, .val (.int xb), .val (.long xc), .second, .val (.int xd), .val (.int xe), .val (.int v1_t0), .val (.long v3_t0), .second, .val (.ref b5), .val (.int (own_snap xa (nar .boolean v1_t0) v3_t0)), .unset] [(.int (0 : Int32))]))
        exact J9 _ _ (by first | rfl | simp only [if_neg hc64_10, if_neg hc75_11]) ⟨_, X7, N7, e7⟩
  intro T9 v9_t0 hv9_t0 ⟨locs9, X9, N9, e9⟩
  show own_Go p e below _ (T9.setTop (mkF m 83 #[.val (.long xa), .second, .val (.int xb), .val (.long xc), .second, .val (.int xd), .val (.int xe), .val (.int v1_t0), .val (.long v3_t0), .second, .val (.ref b5), .val (.int (own_snap xa (nar .boolean v1_t0) v3_t0)), .unset] [(.int v9_t0)]))
  refine own_by (fun _ => XS.istore X9.here hx rfl (hb hby at_83) rfl (l' := #[.val (.long xa), .second, .val (.int xb), .val (.long xc), .second, .val (.int xd), .val (.int xe), .val (.int v1_t0), .val (.long v3_t0), .second, .val (.ref b5), .val (.int (own_snap xa (nar .boolean v1_t0) v3_t0)), .val (.int v9_t0)]) rfl) ?_
  show own_Go p e below _ (T9.setTop (mkF m 85 #[.val (.long xa), .second, .val (.int xb), .val (.long xc), .second, .val (.int xd), .val (.int xe), .val (.int v1_t0), .val (.long v3_t0), .second, .val (.ref b5), .val (.int (own_snap xa (nar .boolean v1_t0) v3_t0)), .val (.int v9_t0)] []))
  refine own_by (fun _ => XS.iload X9.here hx rfl (hb hby at_85) rfl) ?_
  show own_Go p e below _ (T9.setTop (mkF m 87 #[.val (.long xa), .second, .val (.int xb), .val (.long xc), .second, .val (.int xd), .val (.int xe), .val (.int v1_t0), .val (.long v3_t0), .second, .val (.ref b5), .val (.int (own_snap xa (nar .boolean v1_t0) v3_t0)), .val (.int v9_t0)] [(.int (own_snap xa (nar .boolean v1_t0) v3_t0))]))
  refine own_by (fun _ => XS.iload X9.here hx rfl (hb hby at_87) rfl) ?_
  show own_Go p e below _ (T9.setTop (mkF m 89 #[.val (.long xa), .second, .val (.int xb), .val (.long xc), .second, .val (.int xd), .val (.int xe), .val (.int v1_t0), .val (.long v3_t0), .second, .val (.ref b5), .val (.int (own_snap xa (nar .boolean v1_t0) v3_t0)), .val (.int v9_t0)] [(.int v9_t0), (.int (own_snap xa (nar .boolean v1_t0) v3_t0))]))
  by_cases hc89_12 : (own_snap xa (nar .boolean v1_t0) v3_t0) = v9_t0
  ·
    skip
    refine own_by (fun _ => XS.icmpYes X9.here hx rfl (pc0 := 89) (pc' := 94) rfl (hb hby at_89) rfl (teq hc89_12).1 (by decide) (by decide)) ?_
    show own_Go p e below _ (T9.setTop (mkF m 94 #[.val (.long xa), .second, .val (.int xb), .val (.long xc), .second, .val (.int xd), .val (.int xe), .val (.int v1_t0), .val (.long v3_t0), .second, .val (.ref b5), .val (.int (own_snap xa (nar .boolean v1_t0) v3_t0)), .val (.int v9_t0)] []))
    refine own_by (fun _ => XS.iload X9.here hx rfl (hb hby at_94) rfl) ?_
    show own_Go p e below _ (T9.setTop (mkF m 96 #[.val (.long xa), .second, .val (.int xb), .val (.long xc), .second, .val (.int xd), .val (.int xe), .val (.int v1_t0), .val (.long v3_t0), .second, .val (.ref b5), .val (.int (own_snap xa (nar .boolean v1_t0) v3_t0)), .val (.int v9_t0)] [(.int (own_snap xa (nar .boolean v1_t0) v3_t0))]))
    by_cases hc96_13 : (own_snap xa (nar .boolean v1_t0) v3_t0) = (0 : Int32)
    ·
      skip
      refine own_by (fun _ => XS.ifYes X9.here hx rfl (pc0 := 96) (pc' := 109) rfl (hb hby at_96) rfl ((if0 _ _).trans (teq hc96_13).1) (by decide) (by decide)) ?_
      show own_Go p e below _ (T9.setTop (mkF m 109 #[.val (.long xa), .second, .val (.int xb), .val (.long xc), .second, .val (.int xd), .val (.int xe), .val (.int v1_t0), .val (.long v3_t0), .second, .val (.ref b5), .val (.int (own_snap xa (nar .boolean v1_t0) v3_t0)), .val (.int v9_t0)] []))
      refine own_by (fun _ => XS.iconst X9.here hx rfl (hb hby at_109)) ?_
      show own_Go p e below _ (T9.setTop (mkF m 110 #[.val (.long xa), .second, .val (.int xb), .val (.long xc), .second, .val (.int xd), .val (.int xe), .val (.int v1_t0), .val (.long v3_t0), .second, .val (.ref b5), .val (.int (own_snap xa (nar .boolean v1_t0) v3_t0)), .val (.int v9_t0)] [(.int (1 : Int32))]))
      exact own_retZ X9 hx hlk e9 (by decide) hret (hb hby at_110) (by decide) (by decide) ⟨rfl, N9⟩
    ·
      skip
      refine own_by (fun _ => XS.ifNo X9.here hx rfl (hb hby at_96) rfl ((if0 _ _).trans (feq hc96_13).1)) ?_
      show own_Go p e below _ (T9.setTop (mkF m 99 #[.val (.long xa), .second, .val (.int xb), .val (.long xc), .second, .val (.int xd), .val (.int xe), .val (.int v1_t0), .val (.long v3_t0), .second, .val (.ref b5), .val (.int (own_snap xa (nar .boolean v1_t0) v3_t0)), .val (.int v9_t0)] []))
      refine own_by (fun _ => XS.aload X9.here hx rfl (hb hby at_99) rfl rfl) ?_
      show own_Go p e below _ (T9.setTop (mkF m 101 #[.val (.long xa), .second, .val (.int xb), .val (.long xc), .second, .val (.int xd), .val (.int xe), .val (.int v1_t0), .val (.long v3_t0), .second, .val (.ref b5), .val (.int (own_snap xa (nar .boolean v1_t0) v3_t0)), .val (.int v9_t0)] [(.ref b5)]))
      obtain ⟨cq14, kq14, q14a, q14b, q14c⟩ := isOf hZ e9 f8
      obtain ⟨_, _, ⟨T14, L14, k14, n14⟩, -, X14, ⟨Lc14, hQ14, l14, y14, z14'⟩, st14⟩ := X9.virtualBack hx (y := (⟨"com/example/delivery_queue/deliveryqueue/store/LogFile$Scan", "isWholeSegment", "()Z"⟩ : MethodName)) (z := (⟨"com/example/delivery_queue/deliveryqueue/store/LogFile$Scan", "isWholeSegment", "()Z"⟩ : MethodName)) hown (mvT hZ (hw _ (List.mem_of_getElem? (i := 30) rfl))) (mvT hZ (hw _ (List.mem_of_getElem? (i := 31) rfl))) (notFace_of_selects (args := #[]) (mvT hZ (hw _ (List.mem_of_getElem? (i := 33) rfl)))) (mvT hZ (hw _ (List.mem_of_getElem? (i := 33) rfl))) (mvT hZ (hw _ (List.mem_of_getElem? (i := 32) rfl))) (by decide) (backOf (W := 0) (own_rm5 l Z a0 hw [] b5 xa v3_t0 T6.heap n0 z6 fc6_0 fc6_2) hZ (hw _ (List.mem_of_getElem? (i := 34) rfl)) (hw _ (List.mem_of_getElem? (i := 2) rfl)) (by decide) (by decide)) q14a q14c (g := (mkF m 101 #[.val (.long xa), .second, .val (.int xb), .val (.long xc), .second, .val (.int xd), .val (.int xe), .val (.int v1_t0), .val (.long v3_t0), .second, .val (.ref b5), .val (.int (own_snap xa (nar .boolean v1_t0) v3_t0)), .val (.int v9_t0)] [(.ref b5)])) rfl (by rw [hml]; rfl) (Steps.refl _) (argsL := []) (rest := []) (lenOf own_pd2 rfl) rfl (by show 2 * 0 + _ ≤ _; exact Nat.le_of_eq rfl) (hb hby at_101) (fun _ _ => ⟨rfl, e9, (by decide : 1 + 0 ≤ _), (by decide : 4 + 0 ≤ _)⟩)
      dsimp only [Pt.U, Pt.locs, Pt.cells, Pt.slots] at X14 l14 y14 z14' st14 hQ14
      subst l14 y14 z14'
      obtain ⟨rfl, N14q, e14⟩ := hQ14
      have N14 := Fr.app N9 N14q
      refine own_tr st14 ?_
      show own_Go p e below _ (T14.setTop (mkF m 104 #[.val (.long xa), .second, .val (.int xb), .val (.long xc), .second, .val (.int xd), .val (.int xe), .val (.int v1_t0), .val (.long v3_t0), .second, .val (.ref b5), .val (.int (own_snap xa (nar .boolean v1_t0) v3_t0)), .val (.int v9_t0)] [(.int (own_seg xa v3_t0))]))
      by_cases hc104_15 : (own_seg xa v3_t0) = (0 : Int32)
      ·
        skip
        refine own_by (fun _ => XS.ifYes X14.here hx rfl (pc0 := 104) (pc' := 109) rfl (hb hby at_104) rfl ((if0 _ _).trans (teq hc104_15).1) (by decide) (by decide)) ?_
        show own_Go p e below _ (T14.setTop (mkF m 109 #[.val (.long xa), .second, .val (.int xb), .val (.long xc), .second, .val (.int xd), .val (.int xe), .val (.int v1_t0), .val (.long v3_t0), .second, .val (.ref b5), .val (.int (own_snap xa (nar .boolean v1_t0) v3_t0)), .val (.int v9_t0)] []))
        refine own_by (fun _ => XS.iconst X14.here hx rfl (hb hby at_109)) ?_
        show own_Go p e below _ (T14.setTop (mkF m 110 #[.val (.long xa), .second, .val (.int xb), .val (.long xc), .second, .val (.int xd), .val (.int xe), .val (.int v1_t0), .val (.long v3_t0), .second, .val (.ref b5), .val (.int (own_snap xa (nar .boolean v1_t0) v3_t0)), .val (.int v9_t0)] [(.int (1 : Int32))]))
        exact own_retZ X14 hx hlk e14 (by decide) hret (hb hby at_110) (by decide) (by decide) ⟨rfl, N14⟩
      ·
        skip
        refine own_by (fun _ => XS.ifNo X14.here hx rfl (hb hby at_104) rfl ((if0 _ _).trans (feq hc104_15).1)) ?_
        show own_Go p e below _ (T14.setTop (mkF m 107 #[.val (.long xa), .second, .val (.int xb), .val (.long xc), .second, .val (.int xd), .val (.int xe), .val (.int v1_t0), .val (.long v3_t0), .second, .val (.ref b5), .val (.int (own_snap xa (nar .boolean v1_t0) v3_t0)), .val (.int v9_t0)] []))
        refine own_by (fun _ => XS.iconst X14.here hx rfl (hb hby at_107)) ?_
        show own_Go p e below _ (T14.setTop (mkF m 108 #[.val (.long xa), .second, .val (.int xb), .val (.long xc), .second, .val (.int xd), .val (.int xe), .val (.int v1_t0), .val (.long v3_t0), .second, .val (.ref b5), .val (.int (own_snap xa (nar .boolean v1_t0) v3_t0)), .val (.int v9_t0)] [(.int (0 : Int32))]))
        exact own_retZ X14 hx hlk e14 (by decide) hret (hb hby at_108) (by decide) (by decide) ⟨(congrArg some (congrArg Value.int (by subst hv9_t0; subst hv3_t0; subst hv1_t0; have own_p := own_plain xa xb xc xd xe; simp only [own_law, if_pos hc89_12, if_neg hc96_13, if_neg hc104_15] at own_p; exact own_p : (0 : Int32) = (1 : Int32)))), N14⟩
  ·
    skip
    refine own_by (fun _ => XS.icmpNo X9.here hx rfl (hb hby at_89) rfl (feq hc89_12).1) ?_
    show own_Go p e below _ (T9.setTop (mkF m 92 #[.val (.long xa), .second, .val (.int xb), .val (.long xc), .second, .val (.int xd), .val (.int xe), .val (.int v1_t0), .val (.long v3_t0), .second, .val (.ref b5), .val (.int (own_snap xa (nar .boolean v1_t0) v3_t0)), .val (.int v9_t0)] []))
    refine own_by (fun _ => XS.iconst X9.here hx rfl (hb hby at_92)) ?_
    show own_Go p e below _ (T9.setTop (mkF m 93 #[.val (.long xa), .second, .val (.int xb), .val (.long xc), .second, .val (.int xd), .val (.int xe), .val (.int v1_t0), .val (.long v3_t0), .second, .val (.ref b5), .val (.int (own_snap xa (nar .boolean v1_t0) v3_t0)), .val (.int v9_t0)] [(.int (0 : Int32))]))
    exact own_retZ X9 hx hlk e9 (by decide) hret (hb hby at_93) (by decide) (by decide) ⟨(congrArg some (congrArg Value.int (by subst hv9_t0; subst hv3_t0; subst hv1_t0; have own_p := own_plain xa xb xc xd xe; simp only [own_law, if_neg hc89_12] at own_p; exact own_p : (0 : Int32) = (1 : Int32)))), N9⟩

theorem own_comes {Post : Tables → Env → Array Value → State → Outcome → State → Prop} (hpost : ∀ tb e args s v u, (limb_1_1.after args s (.returned v) u = true ∧ limb_1_2.after args s (.returned v) u = true ∧ True) → FrameEnd s (.returned v) u (Jvm.fieldLocs frame_1_writes args s ++ Jvm.arrayLocs frame_1_arrays args s ++ Jvm.staticLocs frame_1_statics s) 16 128 → Post tb e args s (.returned v) u) :
    ArmFor flags0 classFile x code maxLocals ret World_1 tables_1 room_1 Calls_1 rest_1 Pre_1 Post := by
  intro l hfl _ _ p e ha hc hk s m args below hf hA hF happ hP
  obtain ⟨hcalls, hrest, hpre⟩ := hP
  obtain ⟨-, -, -, hnamed, -, -, -, hat⟩ := (Spec.applies_iff hf).mp happ
  obtain ⟨hg, hn⟩ := and_e (Cond.before_iff.mp (show (Jvm.Cond.and given_1 narrow_1).before args s = true from hpre))
  obtain ⟨hg1, hg2⟩ := and_e hg
  obtain ⟨hg3, hg4⟩ := and_e hg2
  obtain ⟨hg5, hg6⟩ := and_e hg4
  obtain ⟨hg7, hg8⟩ := and_e hg6
  obtain ⟨hg9, hg10⟩ := and_e hg8
  obtain ⟨w0, w1, w2, w3, w4, rfl⟩ : ∃ w0 w1 w2 w3 w4 : Value, args = #[w0, w1, w2, w3, w4] := by
    have hs : args.size = 5 := by simpa [Cond.value, given_1] using hg1
    obtain ⟨L⟩ := args
    match L, hs with
    | [w0, w1, w2, w3, w4], _ => exact ⟨w0, w1, w2, w3, w4, rfl⟩
  have hw := fun d (hd : d ∈ tables_1) => atoms_spec (ws := Jvm.Cond.code x code maxLocals ret :: tables_1) hat d (List.mem_cons_of_mem _ hd)
  have hfit : Fit s := fun {y c} hc i hi => by
    obtain ⟨ha, rfl⟩ := Array.getElem?_eq_some_iff.mp hc
    have q := List.all_eq_true.mp ((Array.all_eq_true_iff_forall_mem.mp hF) _ (Array.getElem_mem ha)) i (List.mem_range.mpr hi)
    simpa [Array.getElem?_eq_getElem hi] using q
  obtain ⟨i0, ei0⟩ := isL_v hg3
  obtain rfl : w0 = (.long i0) := Option.some.inj ei0
  obtain ⟨i1, ei1⟩ := is_v hg5
  obtain rfl : w1 = (.int i1) := Option.some.inj ei1
  obtain ⟨i2, ei2⟩ := isL_v hg7
  obtain rfl : w2 = (.long i2) := Option.some.inj ei2
  obtain ⟨i3, ei3⟩ := is_v hg9
  obtain rfl : w3 = (.int i3) := Option.some.inj ei3
  obtain ⟨i4, ei4⟩ := is_v hg10
  obtain rfl : w4 = (.int i4) := Option.some.inj ei4
  obtain ⟨n, o, h1, h2, h3, _, L, rfl, ⟨rfl, N⟩, hq⟩ := own_rm0 l s _ hw tables_1 i0 i1 i2 i3 i4 s.heap s.heap.size (Nat.le_refl _) p e ha hc hk s m _ below hf ((Spec.applies_iff_loose hf).mp happ).1 ⟨rfl, State.Warmed39.refl s, rfl⟩ trivial
  refine ⟨n, _, h1, h2, h3, hpost _ _ _ _ _ _ ⟨Cond.after_iff.mpr rfl, Cond.after_iff.mpr (eq_i res_at (Term.int_eval (1)) rfl), trivial⟩ ⟨hq.1, hq.2.1, (hq.2.2.sift fun y hy => Or.inr (N y hy)).mono (by decide) (by decide)⟩⟩
theorem main_1_1 : Claimed_1_1 := own_comes fun _ _ _ _ _ _ h hF => ⟨h.1, hF⟩
theorem main_1_2 : Claimed_1_2 := own_comes fun _ _ _ _ _ _ h hF => ⟨h.2.1, hF⟩
end Jvm.Pilot.@@N@@
namespace Jvm.Pilot.@@N@@
open Jvm Jvm.ClassFile Sem Op Lib Jvm.Free Jvm.Stand Jvm.Pilot.@@N@@.Jvm.D
/-! MADE BY PROGRAM (witnessworld.py) out of the Statement's table words and the real class files: 10 classes; the members and pool entries that the words name. The judged class is class 1, her method 1. -/
namespace start1
open Jvm.ClassFile
def u (s : String) : CpInfo := .utf8 (stringToUtf16 s)
/-- a pool by its gaps: so many unusable entries, then the entry; so many at the end -/
def gap : Nat → List CpInfo → List CpInfo
  | 0, r => r
  | n + 1, r => .unusable :: gap n r
def poolList (es : List (Nat × CpInfo)) (last : Nat) : List CpInfo := es.foldr (fun e r => gap e.1 (e.2 :: r)) (gap last [])
def pool (es : List (Nat × CpInfo)) (last : Nat) : Array CpInfo := ⟨poolList es last⟩
def fileOf (pool : Array CpInfo) (this : Nat) (attrs : Array Attribute := #[]) (ms : Array MethodInfo := #[]) (fl : Nat := 33) (sup : Nat := 0) (ifs : Array Nat := #[]) (fds : Array FieldInfo := #[]) : ClassFile where
  minorVersion := 0
  majorVersion := 65
  constantPool := pool
  accessFlags := fl
  thisClass := this
  superClass := sup
  interfaces := ifs
  fields := fds
  methods := ms
  attributes := attrs
def plain (name : String) (sup : Option ClassId) : Class where
  name := name
  kind := .ordinary
  loader := none
  accessFlags := 33
  super := sup
  interfaces := #[]
  cf := none
  fields := #[]
  methods := #[]
  instanceTypes := #[]
  staticTypes := #[]
  resolved := #[]
  callSites := []
  init := .initialized
  statics := none
  mirror := none

def pool0 : Array CpInfo := pool [(5, u "<init>"), (0, u "()V"), (1, .class_ 10), (1, u "java/lang/Object")] 113

def k0c0 : Code := { maxStack := 0, maxLocals := 1, code := object_method_1_code, exceptionTable := #[], attributes := #[] }
def k0m0 : Method := { name := "<init>", desc := "()V", sig := { parameters := [], returnType := none }, accessFlags := 1, code := some k0c0 }
/-- java/lang/Object -/
def k0 : Class := { plain "java/lang/Object" none with
  accessFlags := 33
  interfaces := #[]
  cf := some (fileOf pool0 8 #[] #[{ accessFlags := 1, nameIndex := 5, descriptorIndex := 6, attributes := #[] }] 33 0 #[] #[])
  fields := #[]
  methods := #[k0m0]
  instanceTypes := #[]
  staticTypes := #[]
  resolved := Array.replicate 124 none
  statics := none }

def pool1 : Array CpInfo := pool [(2, .class_ 4), (1, u "java/lang/Object"), (0, u "<init>"), (0, u "()V"), (0, .long 6), (1, .class_ 10), (0, u "com/example/delivery_queue/deliveryqueue/store/LogFile$Scan"), (0, .methodref 9 12), (0, .nameAndType 5 13), (0, u "(JZJI)V"), (0, .methodref 9 15), (0, .nameAndType 16 17), (0, u "isWholeSnapshot"), (0, u "()Z"), (0, .long 8), (1, .methodref 9 21), (0, .nameAndType 22 17), (0, u "isWholeSegment"), (0, .class_ 24), (0, u "com/example/delivery_queue/deliveryqueue/store/ScanIsWholeSnapshotPinLaw"), (2, u "law"), (0, u "(JIJII)Z")] 7

def k1m0 : Method := { name := "<init>", desc := "()V", sig := { parameters := [], returnType := none }, accessFlags := 1, code := none }
def k1c1 : Code := { maxStack := 8, maxLocals := 13, code := code, exceptionTable := #[], attributes := #[] }
def k1m1 : Method := { name := "law", desc := "(JIJII)Z", sig := { parameters := [.long, .int, .long, .int, .int], returnType := some .boolean }, accessFlags := 9, code := some k1c1 }
/-- com/example/delivery_queue/deliveryqueue/store/ScanIsWholeSnapshotPinLaw -/
def k1 : Class := { plain "com/example/delivery_queue/deliveryqueue/store/ScanIsWholeSnapshotPinLaw" (some 0) with
  accessFlags := 49
  interfaces := #[]
  cf := some (fileOf pool1 23 #[] #[{ accessFlags := 1, nameIndex := 5, descriptorIndex := 6, attributes := #[] }, { accessFlags := 9, nameIndex := 27, descriptorIndex := 28, attributes := #[] }] 49 2 #[] #[])
  fields := #[]
  methods := #[k1m0, k1m1]
  instanceTypes := #[]
  staticTypes := #[]
  resolved := Array.replicate 36 none
  statics := none }

def pool2 : Array CpInfo := pool [(1, .methodref 2 3), (0, .class_ 4), (0, .nameAndType 5 6), (0, u "java/lang/Object"), (0, u "<init>"), (0, u "()V"), (0, .class_ 8), (0, u "java/lang/Record")] 13

def k2c0 : Code := { maxStack := 1, maxLocals := 1, code := jdk_30_method_1_code, exceptionTable := #[], attributes := #[] }
def k2m0 : Method := { name := "<init>", desc := "()V", sig := { parameters := [], returnType := none }, accessFlags := 4, code := some k2c0 }
/-- java/lang/Record -/
def k2 : Class := { plain "java/lang/Record" (some 0) with
  accessFlags := 1057
  interfaces := #[]
  cf := some (fileOf pool2 7 #[] #[{ accessFlags := 4, nameIndex := 5, descriptorIndex := 6, attributes := #[] }] 1057 2 #[] #[])
  fields := #[]
  methods := #[k2m0]
  instanceTypes := #[]
  staticTypes := #[]
  resolved := Array.replicate 22 none
  statics := none }

def pool3 : Array CpInfo := pool [(1, .class_ 2), (0, u "com/example/delivery_queue/deliveryqueue/store/LogFile"), (0, .methodref 4 5), (0, .class_ 6), (0, .nameAndType 7 8), (0, u "java/lang/Record"), (0, u "<init>"), (0, u "()V"), (0, .fieldref 10 11), (0, .class_ 12), (0, .nameAndType 13 14), (0, u "com/example/delivery_queue/deliveryqueue/store/LogFile$Scan"), (0, u "end"), (0, u "J"), (0, .fieldref 10 16), (0, .nameAndType 17 18), (0, u "terminated"), (0, u "Z"), (0, .fieldref 10 20), (0, .nameAndType 21 14), (0, u "size"), (0, .fieldref 10 23), (0, .nameAndType 24 25), (0, u "version"), (0, u "I"), (0, .long 8), (13, u "(JZJI)V"), (3, u "isWholeSegment"), (0, u "()Z"), (1, u "isWholeSnapshot")] 29

def k3c0 : Code := { maxStack := 3, maxLocals := 7, code := prog_123_method_1_code, exceptionTable := #[], attributes := #[] }
def k3m0 : Method := { name := "<init>", desc := "(JZJI)V", sig := { parameters := [.long, .boolean, .long, .int], returnType := none }, accessFlags := 0, code := some k3c0 }
def k3c1 : Code := { maxStack := 4, maxLocals := 1, code := prog_123_method_2_code, exceptionTable := #[], attributes := #[] }
def k3m1 : Method := { name := "isWholeSegment", desc := "()Z", sig := { parameters := [], returnType := some .boolean }, accessFlags := 0, code := some k3c1 }
def k3c2 : Code := { maxStack := 4, maxLocals := 1, code := prog_123_method_3_code, exceptionTable := #[], attributes := #[] }
def k3m2 : Method := { name := "isWholeSnapshot", desc := "()Z", sig := { parameters := [], returnType := some .boolean }, accessFlags := 0, code := some k3c2 }
/-- com/example/delivery_queue/deliveryqueue/store/LogFile$Scan -/
def k3 : Class := { plain "com/example/delivery_queue/deliveryqueue/store/LogFile$Scan" (some 2) with
  accessFlags := 48
  interfaces := #[]
  cf := some (fileOf pool3 10 #[.nestHost 1] #[{ accessFlags := 0, nameIndex := 7, descriptorIndex := 40, attributes := #[] }, { accessFlags := 0, nameIndex := 44, descriptorIndex := 45, attributes := #[] }, { accessFlags := 0, nameIndex := 47, descriptorIndex := 45, attributes := #[] }] 48 4 #[] #[{ accessFlags := 18, nameIndex := 13, descriptorIndex := 14, attributes := #[] }, { accessFlags := 18, nameIndex := 17, descriptorIndex := 18, attributes := #[] }, { accessFlags := 18, nameIndex := 21, descriptorIndex := 14, attributes := #[] }, { accessFlags := 18, nameIndex := 24, descriptorIndex := 25, attributes := #[] }])
  fields := #[{ name := "end", type := .long, accessFlags := 18, slot := 0, constantValue := 0 }, { name := "terminated", type := .boolean, accessFlags := 18, slot := 1, constantValue := 0 }, { name := "size", type := .long, accessFlags := 18, slot := 2, constantValue := 0 }, { name := "version", type := .int, accessFlags := 18, slot := 3, constantValue := 0 }]
  methods := #[k3m0, k3m1, k3m2]
  instanceTypes := #[.long, .boolean, .long, .int]
  staticTypes := #[]
  resolved := Array.replicate 77 none
  statics := none }

def pool4 : Array CpInfo := pool [(1, u "java/lang/Cloneable"), (0, .class_ 1), (0, u "java/lang/Object"), (0, .class_ 3)] 3

/-- java/lang/Cloneable -/
def k4 : Class := { plain "java/lang/Cloneable" (some 0) with
  accessFlags := 1537
  interfaces := #[]
  cf := some (fileOf pool4 2 #[] #[] 1537 4 #[] #[])
  fields := #[]
  methods := #[]
  instanceTypes := #[]
  staticTypes := #[]
  resolved := Array.replicate 8 none
  statics := none }

def pool5 : Array CpInfo := pool [(1, u "java/io/Serializable"), (0, .class_ 1), (0, u "java/lang/Object"), (0, .class_ 3)] 3

/-- java/io/Serializable -/
def k5 : Class := { plain "java/io/Serializable" (some 0) with
  accessFlags := 1537
  interfaces := #[]
  cf := some (fileOf pool5 2 #[] #[] 1537 4 #[] #[])
  fields := #[]
  methods := #[]
  instanceTypes := #[]
  staticTypes := #[]
  resolved := Array.replicate 8 none
  statics := none }

/-- the primitive byte -/
def k6 : Class := { plain "byte" none with kind := .primitive 'B', accessFlags := 0x411 }
/-- [B -/
def k7 : Class := { plain "[B" (some 0) with kind := .array 6 .byte, interfaces := #[4, 5], accessFlags := 1041 }

/-- the primitive int -/
def k8 : Class := { plain "int" none with kind := .primitive 'I', accessFlags := 0x411 }
/-- [I -/
def k9 : Class := { plain "[I" (some 0) with kind := .array 8 .int, interfaces := #[4, 5], accessFlags := 1041 }

def heap : Heap := #[]
def classes : Array Class := #[k0, k1, k2, k3, k4, k5, k6, k7, k8, k9]
def interned : List (Array UInt16 × Addr) := []
def slotsUsed : Nat := 0
def theMethod : MethodId := ⟨1, 1⟩
def args0 : Array Value := #[.long 5, .int 1, .long 13, .int 2, .int 0]
def aboutOver (below : List Frame) : State where
  vm := { classes := classes, interned := interned.toArray }
  heap := heap
  slotsUsed := slotsUsed
  threads := #[{ frames := .invoking theMethod args0 :: below }]
def below0 : List Frame := [.native { method := ⟨0, 0⟩, args := #[] }]
def about1 : State := aboutOver below0
def p0 : Program := .bare "" "" ""
def e0 : Env := launch0.env 0 0 0
theorem w_frames : about1.frames = Frame.invoking theMethod args0 :: below0 := rfl
set_option maxRecDepth 65536 in
theorem w_args : argsFit about1.vm theMethod args0 = true := by decide +kernel
set_option maxRecDepth 65536 in
theorem w_heap : heapFits about1 = true := by decide +kernel
set_option maxRecDepth 65536 in
theorem w_runnable : about1.curStatus? = some .runnable := by decide +kernel
set_option maxRecDepth 65536 in
theorem w_alone : about1.alone = true := by decide +kernel
set_option maxRecDepth 65536 in
theorem w_named : about1.methodNamed? x = some theMethod := by decide +kernel
set_option maxRecDepth 65536 in
theorem w_hears : about1.hears theMethod below0 = true := by decide +kernel
set_option maxRecDepth 65536 in
theorem w_ripe : about1.ripe theMethod args0 below0 = true := by decide +kernel
theorem w_running : about1.status = .running := rfl
set_option maxRecDepth 65536 in
theorem w_room : about1.hasRoom e0.platform room_1 = true :=
  launch0.hasRoom_least _ room_1 (by decide +kernel) (by decide +kernel) (by decide +kernel) (by decide +kernel) (by decide +kernel) (by decide +kernel)
theorem allAtoms_all (ts : List Jvm.Cond) (a : Array Jvm.Value) (st : Jvm.State) : (allAtoms ts).before a st = ts.all (fun c => c.before a st) := by
  induction ts with
  | nil => rfl
  | cons c t ih =>
    show (Jvm.Cond.and c (allAtoms t)).before a st = _
    rw [Jvm.Cond.before_and, ih, List.all_cons]
def words1 : List Jvm.Cond := Jvm.Cond.code x code maxLocals ret :: tables_1
/-- a 'code' word, met by the world's own term for the bytes: nothing is compared byte by byte -/
theorem code_word {y : MethodName} {bytes : ByteArray} {mx : Nat} {rt : Option FieldType} {a : Array Value} {s : State} {m : MethodId} {meth : Method} {c : Code} (h1 : s.methodNamed? y = some m) (h2 : s.vm.method? m = some meth) (h3 : meth.code = some c) (h4 : c.code = bytes)
    (h5 : (c.maxLocals == mx && c.exceptionTable.isEmpty && decide (c.maxStack ≤ mostOperands) && decide (meth.sig.returnType = rt) && !meth.locks && decide (parseMethodDescriptor y.desc = some meth.sig)) = true) : (Jvm.Cond.code y bytes mx rt).before a s = true := by
  simp only [Bool.and_eq_true, beq_iff_eq, Bool.not_eq_true', decide_eq_true_eq] at h5
  obtain ⟨⟨⟨⟨⟨g1, g2⟩, g3⟩, g4⟩, g5⟩, g6⟩ := h5
  simp [Cond.before, Cond.holds, Cond.value, h1, h2, h3, h4, g1, g2, g3, g4, g5, g6]
def isCode : Jvm.Cond → Bool
  | .code _ _ _ _ => true
  | _ => false
theorem all_split {L : List Jvm.Cond} {P : Jvm.Cond → Bool} (h1 : L.all (fun c => isCode c || P c) = true) (h2 : ∀ c ∈ L.filter isCode, P c = true) : L.all P = true := by
  refine List.all_eq_true.mpr fun c hc => ?_
  have h := List.all_eq_true.mp h1 c hc
  rcases Bool.eq_false_or_eq_true (isCode c) with hi | hi
  · exact h2 c (List.mem_filter.mpr ⟨hc, hi⟩)
  · simpa [hi] using h
set_option maxRecDepth 65536 in
theorem w_c0 : (Jvm.Cond.code x code maxLocals ret).before args0 about1 = true := code_word (m := ⟨1, 1⟩) (meth := k1m1) (c := k1c1) (by decide +kernel) rfl rfl rfl (by decide +kernel)
set_option maxRecDepth 65536 in
theorem w_c1 : (Jvm.Cond.code ({ cls := "com/example/delivery_queue/deliveryqueue/store/LogFile$Scan", name := "<init>", desc := "(JZJI)V" } : Jvm.MethodName) prog_123_method_1_code (7 : Nat) (Option.none : Option Jvm.ClassFile.FieldType)).before args0 about1 = true := code_word (m := ⟨3, 0⟩) (meth := k3m0) (c := k3c0) (by decide +kernel) rfl rfl rfl (by decide +kernel)
set_option maxRecDepth 65536 in
theorem w_c2 : (Jvm.Cond.code ({ cls := "java/lang/Record", name := "<init>", desc := "()V" } : Jvm.MethodName) jdk_30_method_1_code (1 : Nat) (Option.none : Option Jvm.ClassFile.FieldType)).before args0 about1 = true := code_word (m := ⟨2, 0⟩) (meth := k2m0) (c := k2c0) (by decide +kernel) rfl rfl rfl (by decide +kernel)
set_option maxRecDepth 65536 in
theorem w_c3 : (Jvm.Cond.code ({ cls := "java/lang/Object", name := "<init>", desc := "()V" } : Jvm.MethodName) object_method_1_code (1 : Nat) (Option.none : Option Jvm.ClassFile.FieldType)).before args0 about1 = true := code_word (m := ⟨0, 0⟩) (meth := k0m0) (c := k0c0) (by decide +kernel) rfl rfl rfl (by decide +kernel)
set_option maxRecDepth 65536 in
theorem w_c4 : (Jvm.Cond.code ({ cls := "com/example/delivery_queue/deliveryqueue/store/LogFile$Scan", name := "isWholeSnapshot", desc := "()Z" } : Jvm.MethodName) prog_123_method_3_code (1 : Nat) (Option.some Jvm.ClassFile.FieldType.boolean)).before args0 about1 = true := code_word (m := ⟨3, 2⟩) (meth := k3m2) (c := k3c2) (by decide +kernel) rfl rfl rfl (by decide +kernel)
set_option maxRecDepth 65536 in
theorem w_c5 : (Jvm.Cond.code ({ cls := "com/example/delivery_queue/deliveryqueue/store/LogFile$Scan", name := "isWholeSegment", desc := "()Z" } : Jvm.MethodName) prog_123_method_2_code (1 : Nat) (Option.some Jvm.ClassFile.FieldType.boolean)).before args0 about1 = true := code_word (m := ⟨3, 1⟩) (meth := k3m1) (c := k3c1) (by decide +kernel) rfl rfl rfl (by decide +kernel)
def codes1 : List Jvm.Cond := [Jvm.Cond.code x code maxLocals ret, Jvm.Cond.code ({ cls := "com/example/delivery_queue/deliveryqueue/store/LogFile$Scan", name := "<init>", desc := "(JZJI)V" } : Jvm.MethodName) prog_123_method_1_code (7 : Nat) (Option.none : Option Jvm.ClassFile.FieldType), Jvm.Cond.code ({ cls := "java/lang/Record", name := "<init>", desc := "()V" } : Jvm.MethodName) jdk_30_method_1_code (1 : Nat) (Option.none : Option Jvm.ClassFile.FieldType), Jvm.Cond.code ({ cls := "java/lang/Object", name := "<init>", desc := "()V" } : Jvm.MethodName) object_method_1_code (1 : Nat) (Option.none : Option Jvm.ClassFile.FieldType), Jvm.Cond.code ({ cls := "com/example/delivery_queue/deliveryqueue/store/LogFile$Scan", name := "isWholeSnapshot", desc := "()Z" } : Jvm.MethodName) prog_123_method_3_code (1 : Nat) (Option.some Jvm.ClassFile.FieldType.boolean), Jvm.Cond.code ({ cls := "com/example/delivery_queue/deliveryqueue/store/LogFile$Scan", name := "isWholeSegment", desc := "()Z" } : Jvm.MethodName) prog_123_method_2_code (1 : Nat) (Option.some Jvm.ClassFile.FieldType.boolean)]
set_option maxRecDepth 65536 in
theorem codes_eq : words1.filter isCode = codes1 := rfl
theorem w_codes : ∀ c ∈ words1.filter isCode, c.before args0 about1 = true := by
  rw [codes_eq]
  intro c hc
  simp only [codes1, List.mem_cons, List.not_mem_nil, or_false] at hc
  rcases hc with rfl | rfl | rfl | rfl | rfl | rfl
  · exact w_c0
  · exact w_c1
  · exact w_c2
  · exact w_c3
  · exact w_c4
  · exact w_c5
set_option maxRecDepth 65536 in
theorem w_t1 : (words1.take 24).all (fun c => isCode c || c.before args0 about1) = true := by decide +kernel
set_option maxRecDepth 65536 in
theorem w_t2 : (words1.drop 24).all (fun c => isCode c || c.before args0 about1) = true := by decide +kernel
theorem w_tables : (allAtoms (Jvm.Cond.code x code maxLocals ret :: tables_1)).before args0 about1 = true := by
  rw [allAtoms_all]
  show words1.all (fun c => c.before args0 about1) = true
  refine all_split ?_ w_codes
  rw [← List.take_append_drop 24 words1, List.all_append, w_t1, w_t2]
  rfl
set_option maxRecDepth 65536 in
theorem w_case : (Jvm.Cond.and given_1 narrow_1).before args0 about1 = true := by decide +kernel
theorem w_applies : (headSpec (Jvm.Cond.code x code maxLocals ret :: tables_1) room_1).applies x e0.platform about1 = true :=
  (Spec.applies_iff w_frames).mpr ⟨w_running, w_runnable, w_alone, w_named, w_hears, w_ripe, w_room, w_tables⟩
theorem atStart : AtStart classFile x code maxLocals ret World_1 tables_1 room_1 Calls_1 rest_1 Pre_1 launch0 p0 e0 about1 theMethod args0 below0 :=
  ⟨lists_1, trivial, launch0.admits_env _ _ _, launch0.least_env, fairChoices_fair.cas, fairChoices_fair.clock, w_frames, w_args, w_heap, w_applies, trivial, trivial, w_case⟩
end start1
theorem witness_1 : WitnessClaimed_1 := ⟨start1.p0, start1.e0, start1.about1, start1.theMethod, start1.args0, start1.below0, start1.atStart⟩
end Jvm.Pilot.@@N@@
