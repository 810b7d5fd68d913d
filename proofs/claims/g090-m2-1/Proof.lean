import JvmDerived
import JvmDerived.Pilot.@@N@@Statement
import JvmDerived.Pilot.@@N@@Code
set_option linter.unusedVariables false
set_option linter.unusedSimpArgs false
set_option maxRecDepth 65536
set_option maxHeartbeats 40000000
namespace Jvm.Pilot.@@N@@
open Jvm Jvm.ClassFile Sem Op Lib Jvm.Free Jvm.Stand Jvm.LawKit Jvm.RoadKit Bundle Jvm.Pilot.@@N@@.Jvm.D
section OwnKit
variable {p : Program} {l : Launch} {e : Env} {R : Room} {s : State} {m : MethodId} {args : Array Value} {below : List Frame} {meth : Method} {c : Code} {T : State} {locs : List Loc} {cells slots : Nat}
/-- from here the run comes to an end that E allows -/
def own_Go (p : Program) (e : Env) (below : List Frame) (E : State → Prop) (S : State) : Prop := ∃ t, Steps p.tables e below S t ∧ E t
/-- the invocation has ended, with a value, a heap and a list of written places that Q allows -/
def own_End (s : State) (below : List Frame) (Q : Option Value → Heap → List Loc → Prop) (C N : Nat) (t : State) : Prop :=
  t.status = .running ∧ ∃ v L, Ended t below (.returned v) ∧ Q v t.heap L ∧ FrameEnd s (.returned v) t L C N
/-- the walk stands here, with this heap, having written only what is new -/
def own_At (p : Program) (l : Launch) (e : Env) (R : Room) (s : State) (m : MethodId) (args : Array Value) (below : List Frame) (meth : Method) (c : Code) (n0 : Nat) (T : State) (h : Heap) (cells slots : Nat) : Prop :=
  ∃ locs, Stand p l e R s m args below meth c T locs cells slots ∧ Fr n0 locs ∧ T.heap = h
theorem own_by {E : State → Prop} {S S' : State} (k : ∀ t, Steps p.tables e below S' t → Steps p.tables e below S t) (h : own_Go p e below E S') : own_Go p e below E S :=
  h.imp fun t q => ⟨k t q.1, q.2⟩
theorem own_tr {E : State → Prop} {S S' : State} (k : Steps p.tables e below S S') (h : own_Go p e below E S') : own_Go p e below E S :=
  h.imp fun t q => ⟨k.trans q.1, q.2⟩
theorem own_mono {E E' : State → Prop} {S : State} (k : ∀ t, E t → E' t) (h : own_Go p e below E S) : own_Go p e below E' S := h.imp fun t q => ⟨q.1, k t q.2⟩
theorem own_monoQ {Q Q' : Option Value → Heap → List Loc → Prop} {C N : Nat} {S : State} (k : ∀ v h L, Q v h L → Q' v h L) (h : own_Go p e below (own_End s below Q C N) S) : own_Go p e below (own_End s below Q' C N) S :=
  own_mono (fun t ⟨a, v, L, b, q, r⟩ => ⟨a, v, L, b, k _ _ _ q, r⟩) h
variable {Q : Option Value → Heap → List Loc → Prop} {C N : Nat} {h : Heap} {pc : Nat} {Ls : Array Slot} {rest : List Value}
theorem own_ret (X : Stand p l e R s m args below meth c T locs cells slots) (hx : p.tables.exec = Jvm.exec) (hlk : meth.locks = false) (eT : T.heap = h) {w : Value} {t : FieldType} {i : Instr} (hret : meth.sig.returnType = some t) (hn : narrow t w = w)
    (hi : (i = .ireturn ∧ (t = .int ∨ t = .boolean ∨ t = .byte ∨ t = .char ∨ t = .short) ∧ ∃ z, w = .int z) ∨ (i = .lreturn ∧ t = .long ∧ ∃ z, w = .long z) ∨ (i = .dreturn ∧ t = .double ∧ ∃ z, w = .double z) ∨ (i = .freturn ∧ t = .float ∧ ∃ z, w = .float z) ∨ (i = .areturn ∧ t.isReference = true ∧ w.isRef = true))
    (hd : decode c.code pc = .ok (i, 1)) (hc : cells ≤ C) (hs : slots ≤ N) (hQ : Q (some w) h locs) : own_Go p e below (own_End s below Q C N) (T.setTop (mkF m pc Ls (w :: rest))) := by
  obtain ⟨fs, hr, hrun, hended, hW, hsame⟩ := X.leave (v := some w) (fun q => by rw [hret] at q; cases q) hlk
  subst eT
  exact ⟨_, retOut X hx hret hn hi hd hr, hrun, _, _, hended, hQ, ⟨_, rfl⟩, hW, hsame.mono hc hs⟩
theorem own_retI (X : Stand p l e R s m args below meth c T locs cells slots) (hx : p.tables.exec = Jvm.exec) (hlk : meth.locks = false) (eT : T.heap = h) {z : Int32} (hret : meth.sig.returnType = some .int) (hd : decode c.code pc = .ok (.ireturn, 1)) (hc : cells ≤ C) (hs : slots ≤ N) (hQ : Q (some (.int z)) h locs) :
    own_Go p e below (own_End s below Q C N) (T.setTop (mkF m pc Ls (.int z :: rest))) := own_ret X hx hlk eT hret rfl (Or.inl ⟨rfl, Or.inl rfl, _, rfl⟩) hd hc hs hQ
theorem own_retZ (X : Stand p l e R s m args below meth c T locs cells slots) (hx : p.tables.exec = Jvm.exec) (hlk : meth.locks = false) (eT : T.heap = h) {z : Int32} (hz : z = 0 ∨ z = 1) (hret : meth.sig.returnType = some .boolean) (hd : decode c.code pc = .ok (.ireturn, 1)) (hc : cells ≤ C) (hs : slots ≤ N) (hQ : Q (some (.int z)) h locs) :
    own_Go p e below (own_End s below Q C N) (T.setTop (mkF m pc Ls (.int z :: rest))) := own_ret X hx hlk eT hret (by rcases hz with rfl | rfl <;> rfl) (Or.inl ⟨rfl, Or.inr (Or.inl rfl), _, rfl⟩) hd hc hs hQ
theorem own_retJ (X : Stand p l e R s m args below meth c T locs cells slots) (hx : p.tables.exec = Jvm.exec) (hlk : meth.locks = false) (eT : T.heap = h) {z : Int64} (hret : meth.sig.returnType = some .long) (hd : decode c.code pc = .ok (.lreturn, 1)) (hc : cells ≤ C) (hs : slots ≤ N) (hQ : Q (some (.long z)) h locs) :
    own_Go p e below (own_End s below Q C N) (T.setTop (mkF m pc Ls (.long z :: rest))) := own_ret X hx hlk eT hret rfl (Or.inr (Or.inl ⟨rfl, rfl, _, rfl⟩)) hd hc hs hQ
theorem own_retD (X : Stand p l e R s m args below meth c T locs cells slots) (hx : p.tables.exec = Jvm.exec) (hlk : meth.locks = false) (eT : T.heap = h) {z : UInt64} (hret : meth.sig.returnType = some .double) (hd : decode c.code pc = .ok (.dreturn, 1)) (hc : cells ≤ C) (hs : slots ≤ N) (hQ : Q (some (.double z)) h locs) :
    own_Go p e below (own_End s below Q C N) (T.setTop (mkF m pc Ls (.double z :: rest))) := own_ret X hx hlk eT hret rfl (Or.inr (Or.inr (Or.inl ⟨rfl, rfl, _, rfl⟩))) hd hc hs hQ
theorem own_retR (X : Stand p l e R s m args below meth c T locs cells slots) (hx : p.tables.exec = Jvm.exec) (hlk : meth.locks = false) (eT : T.heap = h) {w : Value} {t : FieldType} (hw : w.isRef = true) (ht : t.isReference = true) (hret : meth.sig.returnType = some t) (hd : decode c.code pc = .ok (.areturn, 1)) (hc : cells ≤ C) (hs : slots ≤ N) (hQ : Q (some w) h locs) :
    own_Go p e below (own_End s below Q C N) (T.setTop (mkF m pc Ls (w :: rest))) := own_ret X hx hlk eT hret (by cases t <;> first | (cases ht; done) | (cases w <;> first | rfl | cases hw)) (Or.inr (Or.inr (Or.inr (Or.inr ⟨rfl, ht, hw⟩)))) hd hc hs hQ
theorem own_retV (X : Stand p l e R s m args below meth c T locs cells slots) (hx : p.tables.exec = Jvm.exec) (hlk : meth.locks = false) (eT : T.heap = h) (hret : meth.sig.returnType = none) (hd : decode c.code pc = .ok (.return_, 1)) (hc : cells ≤ C) (hs : slots ≤ N) (hQ : Q none h locs) :
    own_Go p e below (own_End s below Q C N) (T.setTop (mkF m pc Ls [])) := by
  obtain ⟨fs, hr, hrun, hended, hW, hsame⟩ := X.leave (v := none) (fun _ => rfl) hlk
  subst eT
  exact ⟨_, X.returnOut hx hret hd hr, hrun, _, _, hended, hQ, ⟨_, rfl⟩, hW, hsame.mono hc hs⟩
end OwnKit
section OwnWide
variable {p : Program} {l : Launch} {e : Env} {R : Room} {s : State} {m : MethodId} {args : Array Value} {below : List Frame} {meth : Method} {c : Code} {T : State} {locs : List Loc} {cells slots : Nat}
def own_EndW (s : State) (below : List Frame) (Q : Option Value → Heap → List Loc → Prop) (C N : Nat) (t : State) : Prop :=
  t.status = .running ∧ ∃ v L, Ended t below (.returned v) ∧ Q v t.heap L ∧ ReturnedEndW s (.returned v) t L C N
theorem own_retZW {vm1 : Vm} {k : Nat} {Q : Option Value → Heap → List Loc → Prop} {C N : Nat} {h : Heap} {pc : Nat} {Ls : Array Slot} {rest : List Value} (X : Stand p l e R (s.setVm vm1) m args below meth c T locs cells slots) (hx : p.tables.exec = Jvm.exec) (hlk : meth.locks = false) (hS : s.Since vm1 k) (hk : k ≤ h.size) (eT : T.heap = h) {z : Int32} (hz : z = 0 ∨ z = 1) (hret : meth.sig.returnType = some .boolean) (hd : decode c.code pc = .ok (.ireturn, 1)) (hc : cells ≤ C) (hs : slots ≤ N) (hQ : Q (some (.int z)) h locs) :
    own_Go p e below (own_EndW s below Q C N) (T.setTop (mkF m pc Ls (.int z :: rest))) := by
  subst eT
  obtain ⟨fs, hr, hrun, hended, h1, h2, h3, h4⟩ := X.leaveW hS hk (v := some (.int z)) (fun q => by rw [hret] at q; cases q) hlk
  exact ⟨_, retOut X hx hret (by rcases hz with rfl | rfl <;> rfl) (Or.inl ⟨rfl, Or.inr (Or.inl rfl), _, rfl⟩) hd hr, hrun, _, _, hended, hQ, h1, h2, h3, h4.mono hc hs⟩
end OwnWide
def own_g (bs : List Int32) (j : Int32) : Int32 := bs.getD j.toNatClampNeg 0
theorem own_g_eq (bs : List Int32) (j : Int32) : (bs.map Value.int).getD j.toNatClampNeg (.int (0 : Int32)) = .int (own_g bs j) := by
  simp only [own_g, List.getD_eq_getElem?_getD, List.getElem?_map]
  cases bs[j.toNatClampNeg]? <;> rfl
theorem own_map_set (ws : List Int32) (i : Nat) (v : Int32) : (ws.set i v).map Value.int = (ws.map Value.int).set i (.int v) := List.map_set
theorem own_tt (x : Int32) : ¬ ((x &&& (3 : Int32)) < (0 : Int32)) ∧ (x &&& (3 : Int32)) < (4 : Int32) := by
  have e := c_mask x 3 2 (by decide) (by decide)
  have k0 : (0 : Int32).toInt = 0 := by decide
  have k4 : (4 : Int32).toInt = 4 := by decide
  simp only [Int32.lt_iff_toInt_lt, k0, k4]
  omega
theorem own_len4 {j : Int32} {n : Nat} (h : ¬ (j < 0) ∧ j < (4 : Int32)) (hn : n = 4) : j.toNatClampNeg < n := by
  have q := nat_of h.1
  obtain ⟨h1, h2⟩ := h
  have k4 : (4 : Int32).toInt = 4 := by decide
  rw [Int32.lt_iff_toInt_lt, k4] at h2
  omega
abbrev own_dc1 : UInt64 := FP.dconst1
theorem own_strAtoms {Z : State} {a0 : Array Value} (hw : ∀ d ∈ tables_1, d.before a0 Z = true) : ∀ a ∈ Bundle.stringAtoms, a.before a0 Z = true := by
  intro a ha
  simp only [Bundle.stringAtoms, List.mem_cons, List.not_mem_nil, or_false] at ha
  rcases ha with rfl | rfl | rfl | rfl | rfl | rfl | rfl
  · exact hw _ (List.mem_of_getElem? (i := 5) rfl)
  · exact hw _ (List.mem_of_getElem? (i := 6) rfl)
  · exact hw _ (List.mem_of_getElem? (i := 7) rfl)
  · exact hw _ (List.mem_of_getElem? (i := 8) rfl)
  · exact hw _ (List.mem_of_getElem? (i := 9) rfl)
  · exact hw _ (List.mem_of_getElem? (i := 10) rfl)
  · exact hw _ (List.mem_of_getElem? (i := 11) rfl)

theorem own_pd0 : parseMethodDescriptor "()V" = some ⟨[], none⟩ := by decide +kernel
theorem own_pd1 : parseMethodDescriptor "(Ljava/lang/String;II[D)V" = some ⟨[(.object "java/lang/String"), .int, .int, (.array .double)], none⟩ := by decide +kernel
theorem own_pd2 : parseMethodDescriptor "([I)Z" = some ⟨[(.array .int)], some .boolean⟩ := by decide +kernel
theorem own_pd3 : parseMethodDescriptor "(IIIII)I" = some ⟨[.int, .int, .int, .int, .int], some .int⟩ := by decide +kernel
theorem own_d2_0 : decode jdk_30_method_1_code 0 = .ok (.aload_n 0, 1) := by decide +kernel
theorem own_d2_1 : decode jdk_30_method_1_code 1 = .ok (.invokespecial 1, 3) := by decide +kernel
theorem own_d2_4 : decode jdk_30_method_1_code 4 = .ok (.return_, 1) := by decide +kernel
theorem own_pn2 : plainName "java/lang/Record" = true := by first | (simp [plainName, overriddenIn]; done) | decide +kernel
theorem own_ef2 (m : MethodId) (x0 : Addr) : entryFrame m #[(.ref x0)] 1 = mkF m 0 #[.val (.ref x0)] [] := by first | (simp [entryFrame, mkF, argsToLocals, Value.category]; done) | rfl
def own_Q2 (Z : State) (ax : Addr) (h0 : Heap) (n0 : Nat) (v : Option Value) (h : Heap) (L : List Loc) : Prop := v = none ∧ Fr n0 L ∧ h = h0
theorem own_rm2 (l : Launch) (Z : State) (a0 : Array Value) (hw : ∀ d ∈ tables_1, d.before a0 Z = true) (ws : List Jvm.Cond) (ax : Addr) (h0 : Heap) (n0 : Nat) (Z0 : n0 ≤ h0.size) :
    MetFree l (⟨"java/lang/Record", "<init>", "()V"⟩ : MethodName) (head1 (Jvm.Cond.code (⟨"java/lang/Record", "<init>", "()V"⟩ : MethodName) jdk_30_method_1_code 1 none :: ws) ({ frames := 1, cells := 0, slots := 0, locals := 12 } : Room)) (fun a U => a = #[(.ref ax)] ∧ Z.Warmed39 U.vm ∧ U.heap = h0) (fun _ _ _ _ _ => True) (fun _ U o U' => ∃ v L, o = .returned v ∧ own_Q2 Z ax h0 n0 v U'.heap L ∧ FrameEnd U o U' L ({ frames := 1, cells := 0, slots := 0, locals := 12 } : Room).cells ({ frames := 1, cells := 0, slots := 0, locals := 12 } : Room).slots) := by
  refine MetFree.of_bodySF (plainFor_of_name own_pn2) hisR ?_
  intro p e s m args below meth c s₁ Bd hml0 hP hK
  obtain ⟨rfl, hZ, hh⟩ := hP
  have hx := Bd.exec
  have hby := Bd.bytes
  have hlk := Bd.notSynchronized
  have hret := Bd.returns
  have hml : c.maxLocals = 1 := hml0
  have hown : s.vm.findClass "java/lang/Record" = some m.cls := findClass_of_methodNamed Bd.named
  have hnm := (name_of_methodNamed Bd.named Bd.method).1
  have X0 : Stand p l e ({ frames := 1, cells := 0, slots := 0, locals := 12 } : Room) s m #[(.ref ax)] below meth c s₁ [] 0 0 := Stand.of_body Bd
  have e0 : s₁.heap = h0 := by rw [← hh, Bd.state]; rfl
  have N0 := Fr.nil n0
  suffices key : own_Go p e below (own_End s below (own_Q2 Z ax h0 n0) ({ frames := 1, cells := 0, slots := 0, locals := 12 } : Room).cells ({ frames := 1, cells := 0, slots := 0, locals := 12 } : Room).slots) (s₁.setTop (mkF m 0 #[.val (.ref ax)] [])) by
    obtain ⟨t, k1, k2, v, L, k3, k4, k5⟩ := key
    exact ⟨t, _, castTop (own_ef2 m ax) k1, k2, k3, v, L, rfl, k4, k5⟩
  show own_Go p e below _ (s₁.setTop (mkF m 0 #[.val (.ref ax)] []))
  refine own_by (fun _ => XS.aloadN X0.here hx rfl (hb hby own_d2_0) rfl rfl) ?_
  show own_Go p e below _ (s₁.setTop (mkF m 1 #[.val (.ref ax)] [(.ref ax)]))
  obtain ⟨T1, X1, e1, st1⟩ := initO X0 hx hZ hown (hw _ (List.mem_of_getElem? (i := 21) rfl)) (hw _ (List.mem_of_getElem? (i := 22) rfl)) (hw _ (List.mem_of_getElem? (i := 23) rfl)) e0 (g := (mkF m 1 #[.val (.ref ax)] [(.ref ax)])) rfl (by rw [hml]; rfl) rfl (hb hby own_d2_1) (by decide) (W := 0) (by show 2 * 0 + _ ≤ _; exact Nat.le_of_eq rfl) (by decide)
  refine own_by st1 ?_
  show own_Go p e below _ (T1.setTop (mkF m 4 #[.val (.ref ax)] []))
  exact own_retV X1 hx hlk e1 hret (hb hby own_d2_4) (by decide) (by decide) ⟨rfl, N0, rfl⟩

theorem own_d1_0 : decode prog_13_method_1_code 0 = .ok (.aload_n 0, 1) := by decide +kernel
theorem own_d1_1 : decode prog_13_method_1_code 1 = .ok (.invokespecial 1, 3) := by decide +kernel
theorem own_d1_4 : decode prog_13_method_1_code 4 = .ok (.aload_n 0, 1) := by decide +kernel
theorem own_d1_5 : decode prog_13_method_1_code 5 = .ok (.aload_n 1, 1) := by decide +kernel
theorem own_d1_6 : decode prog_13_method_1_code 6 = .ok (.putfield 7, 3) := by decide +kernel
theorem own_d1_9 : decode prog_13_method_1_code 9 = .ok (.aload_n 0, 1) := by decide +kernel
theorem own_d1_10 : decode prog_13_method_1_code 10 = .ok (.iload_n 2, 1) := by decide +kernel
theorem own_d1_11 : decode prog_13_method_1_code 11 = .ok (.putfield 13, 3) := by decide +kernel
theorem own_d1_14 : decode prog_13_method_1_code 14 = .ok (.aload_n 0, 1) := by decide +kernel
theorem own_d1_15 : decode prog_13_method_1_code 15 = .ok (.iload_n 3, 1) := by decide +kernel
theorem own_d1_16 : decode prog_13_method_1_code 16 = .ok (.putfield 17, 3) := by decide +kernel
theorem own_d1_19 : decode prog_13_method_1_code 19 = .ok (.aload_n 0, 1) := by decide +kernel
theorem own_d1_20 : decode prog_13_method_1_code 20 = .ok (.aload 4, 2) := by decide +kernel
theorem own_d1_22 : decode prog_13_method_1_code 22 = .ok (.putfield 20, 3) := by decide +kernel
theorem own_d1_25 : decode prog_13_method_1_code 25 = .ok (.return_, 1) := by decide +kernel
theorem own_pn1 : plainName "com/example/composiq/composiq/Problem$Candidate" = true := by first | (simp [plainName, overriddenIn]; done) | decide +kernel
theorem own_ef1 (m : MethodId) (x0 : Addr) (x1 : Addr) (x2 : Int32) (x3 : Int32) (x4 : Addr) : entryFrame m #[(.ref x0), (.ref x1), (.int x2), (.int x3), (.ref x4)] 5 = mkF m 0 #[.val (.ref x0), .val (.ref x1), .val (.int x2), .val (.int x3), .val (.ref x4)] [] := by first | (simp [entryFrame, mkF, argsToLocals, Value.category]; done) | rfl
def own_Q1 (Z : State) (ax : Addr) (sx : Addr) (xa : Int32) (xb : Int32) (dx : Addr) (uv : Value) (ua : Int32) (ub : Int32) (uw : Value) (h0 : Heap) (n0 : Nat) (v : Option Value) (h : Heap) (L : List Loc) : Prop := v = none ∧ Fr n0 L ∧ Keep h0 h [ax] ∧ Fld Z h ax "com/example/composiq/composiq/Problem$Candidate" "task" "I" (.int xa) ∧ Fld Z h ax "com/example/composiq/composiq/Problem$Candidate" "index" "I" (.int xb)
theorem own_rm1 (l : Launch) (Z : State) (a0 : Array Value) (hw : ∀ d ∈ tables_1, d.before a0 Z = true) (ws : List Jvm.Cond) (ax : Addr) (sx : Addr) (xa : Int32) (xb : Int32) (dx : Addr) (uv : Value) (ua : Int32) (ub : Int32) (uw : Value) (h0 : Heap) (n0 : Nat) (Z0 : n0 ≤ h0.size) (pf0 : Exa Z h0 ax "com/example/composiq/composiq/Problem$Candidate") (pf1 : Fld Z h0 ax "com/example/composiq/composiq/Problem$Candidate" "id" "Ljava/lang/String;" uv) (pf2 : Fld Z h0 ax "com/example/composiq/composiq/Problem$Candidate" "task" "I" (.int ua)) (pf3 : Fld Z h0 ax "com/example/composiq/composiq/Problem$Candidate" "index" "I" (.int ub)) (pf4 : Fld Z h0 ax "com/example/composiq/composiq/Problem$Candidate" "qos" "[D" uw) (pg_ax : n0 ≤ ax) :
    MetFree l (⟨"com/example/composiq/composiq/Problem$Candidate", "<init>", "(Ljava/lang/String;II[D)V"⟩ : MethodName) (head1 (Jvm.Cond.code (⟨"com/example/composiq/composiq/Problem$Candidate", "<init>", "(Ljava/lang/String;II[D)V"⟩ : MethodName) prog_13_method_1_code 5 none :: ws) ({ frames := 2, cells := 0, slots := 0, locals := 24 } : Room)) (fun a U => a = #[(.ref ax), (.ref sx), (.int xa), (.int xb), (.ref dx)] ∧ Z.Warmed39 U.vm ∧ U.heap = h0) (fun _ _ _ _ _ => True) (fun _ U o U' => ∃ v L, o = .returned v ∧ own_Q1 Z ax sx xa xb dx uv ua ub uw h0 n0 v U'.heap L ∧ FrameEnd U o U' L ({ frames := 2, cells := 0, slots := 0, locals := 24 } : Room).cells ({ frames := 2, cells := 0, slots := 0, locals := 24 } : Room).slots) := by
  refine MetFree.of_bodySF (plainFor_of_name own_pn1) hisR ?_
  intro p e s m args below meth c s₁ Bd hml0 hP hK
  obtain ⟨rfl, hZ, hh⟩ := hP
  have hx := Bd.exec
  have hby := Bd.bytes
  have hlk := Bd.notSynchronized
  have hret := Bd.returns
  have hml : c.maxLocals = 5 := hml0
  have hown : s.vm.findClass "com/example/composiq/composiq/Problem$Candidate" = some m.cls := findClass_of_methodNamed Bd.named
  have hnm := (name_of_methodNamed Bd.named Bd.method).1
  have X0 : Stand p l e ({ frames := 2, cells := 0, slots := 0, locals := 24 } : Room) s m #[(.ref ax), (.ref sx), (.int xa), (.int xb), (.ref dx)] below meth c s₁ [] 0 0 := Stand.of_body Bd
  have e0 : s₁.heap = h0 := by rw [← hh, Bd.state]; rfl
  have N0 := Fr.nil n0
  suffices key : own_Go p e below (own_End s below (own_Q1 Z ax sx xa xb dx uv ua ub uw h0 n0) ({ frames := 2, cells := 0, slots := 0, locals := 24 } : Room).cells ({ frames := 2, cells := 0, slots := 0, locals := 24 } : Room).slots) (s₁.setTop (mkF m 0 #[.val (.ref ax), .val (.ref sx), .val (.int xa), .val (.int xb), .val (.ref dx)] [])) by
    obtain ⟨t, k1, k2, v, L, k3, k4, k5⟩ := key
    exact ⟨t, _, castTop (own_ef1 m ax sx xa xb dx) k1, k2, k3, v, L, rfl, k4, k5⟩
  show own_Go p e below _ (s₁.setTop (mkF m 0 #[.val (.ref ax), .val (.ref sx), .val (.int xa), .val (.int xb), .val (.ref dx)] []))
  refine own_by (fun _ => XS.aloadN X0.here hx rfl (hb hby own_d1_0) rfl rfl) ?_
  show own_Go p e below _ (s₁.setTop (mkF m 1 #[.val (.ref ax), .val (.ref sx), .val (.int xa), .val (.int xb), .val (.ref dx)] [(.ref ax)]))
  obtain ⟨_, _, ⟨T1, L1, k1, n1⟩, -, X1, ⟨Lc1, hQ1, l1, y1, z1'⟩, st1⟩ := X0.specialBack hx (y := (⟨"java/lang/Record", "<init>", "()V"⟩ : MethodName)) rfl hown (mvT hZ (hw _ (List.mem_of_getElem? (i := 16) rfl))) (mvT hZ (hw _ (List.mem_of_getElem? (i := 17) rfl))) (mvT hZ (hw _ (List.mem_of_getElem? (i := 20) rfl))) (by decide) (backOf (W := 0) (own_rm2 l Z a0 hw [] ax h0 n0 Z0 ) hZ (hw _ (List.mem_of_getElem? (i := 20) rfl)) (hw _ (List.mem_of_getElem? (i := 19) rfl)) (by decide) (by decide)) (g := (mkF m 1 #[.val (.ref ax), .val (.ref sx), .val (.int xa), .val (.int xb), .val (.ref dx)] [(.ref ax)])) rfl (by rw [hml]; rfl) (Steps.refl _) (a := ax) (argsL := []) (rest := []) (lenOf own_pd0 rfl) rfl (by show 2 * 0 + _ ≤ _; exact Nat.le_of_eq rfl) (hb hby own_d1_1) (fun _ _ => ⟨rfl, e0, (by decide : 0 + 0 ≤ _), (by decide : 0 + 0 ≤ _)⟩)
  dsimp only [Pt.U, Pt.locs, Pt.cells, Pt.slots] at X1 l1 y1 z1' st1 hQ1
  subst l1 y1 z1'
  obtain ⟨rfl, N1q, e1⟩ := hQ1
  have N1 := Fr.app N0 N1q
  refine own_tr st1 ?_
  show own_Go p e below _ (T1.setTop (mkF m 4 #[.val (.ref ax), .val (.ref sx), .val (.int xa), .val (.int xb), .val (.ref dx)] []))
  refine own_by (fun _ => XS.aloadN X1.here hx rfl (hb hby own_d1_4) rfl rfl) ?_
  show own_Go p e below _ (T1.setTop (mkF m 5 #[.val (.ref ax), .val (.ref sx), .val (.int xa), .val (.int xb), .val (.ref dx)] [(.ref ax)]))
  refine own_by (fun _ => XS.aloadN X1.here hx rfl (hb hby own_d1_5) rfl rfl) ?_
  show own_Go p e below _ (T1.setTop (mkF m 6 #[.val (.ref ax), .val (.ref sx), .val (.int xa), .val (.int xb), .val (.ref dx)] [(.ref sx), (.ref ax)]))
  obtain ⟨T2, h2, X2, e2, W2, st2⟩ := putF X1 hx hZ hown (host := "") (Or.inl (hw _ (List.mem_of_getElem? (i := 24) rfl))) Via.refl e1 pf1 pf0 (Or.inr ⟨(hw _ (List.mem_of_getElem? (i := 25) rfl)), rfl, hnm⟩) (hw _ (List.mem_of_getElem? (i := 2) rfl)) (ty := (.object "java/lang/String")) (by decide) rfl rfl (g := (mkF m 6 #[.val (.ref ax), .val (.ref sx), .val (.int xa), .val (.int xb), .val (.ref dx)] [(.ref sx), (.ref ax)])) rfl rfl (hb hby own_d1_6)
  refine own_by st2 ?_
  have fw2 : Fld Z h2 ax "com/example/composiq/composiq/Problem$Candidate" "id" "Ljava/lang/String;" (.ref sx) := pf1.same W2
  have z2 : n0 ≤ h2.size := Nat.le_trans Z0 (Keep.of_wr W2).1
  have N2 := Fr.snoc X2 N1 pg_ax
  have K2 : Keep h0 h2 [ax] := (Keep.refl h0 [ax]).wr W2 (Or.inl (List.mem_of_getElem? (i := 0) rfl))
  show own_Go p e below _ (T2.setTop (mkF m 9 #[.val (.ref ax), .val (.ref sx), .val (.int xa), .val (.int xb), .val (.ref dx)] []))
  refine own_by (fun _ => XS.aloadN X2.here hx rfl (hb hby own_d1_9) rfl rfl) ?_
  show own_Go p e below _ (T2.setTop (mkF m 10 #[.val (.ref ax), .val (.ref sx), .val (.int xa), .val (.int xb), .val (.ref dx)] [(.ref ax)]))
  refine own_by (fun _ => XS.iloadN X2.here hx rfl (hb hby own_d1_10) rfl) ?_
  show own_Go p e below _ (T2.setTop (mkF m 11 #[.val (.ref ax), .val (.ref sx), .val (.int xa), .val (.int xb), .val (.ref dx)] [(.int xa), (.ref ax)]))
  have f3 : Exa Z h2 ax "com/example/composiq/composiq/Problem$Candidate" := (pf0.wr W2)
  have f4 : Fld Z h2 ax "com/example/composiq/composiq/Problem$Candidate" "task" "I" (.int ua) := (pf2.other W2 (Or.inr (slot_ne (Or.inr (hw _ (List.mem_of_getElem? (i := 27) rfl))) (Or.inr (hw _ (List.mem_of_getElem? (i := 25) rfl))) (by decide) (t := .int) (t' := (.object "java/lang/String")) (by decide) (by decide))))
  obtain ⟨T5, h5, X5, e5, W5, st5⟩ := putF X2 hx hZ hown (host := "") (Or.inl (hw _ (List.mem_of_getElem? (i := 26) rfl))) Via.refl e2 f4 f3 (Or.inr ⟨(hw _ (List.mem_of_getElem? (i := 27) rfl)), rfl, hnm⟩) (hw _ (List.mem_of_getElem? (i := 2) rfl)) (ty := .int) (by decide) rfl rfl (g := (mkF m 11 #[.val (.ref ax), .val (.ref sx), .val (.int xa), .val (.int xb), .val (.ref dx)] [(.int xa), (.ref ax)])) rfl rfl (hb hby own_d1_11)
  refine own_by st5 ?_
  have fw5 : Fld Z h5 ax "com/example/composiq/composiq/Problem$Candidate" "task" "I" (.int xa) := f4.same W5
  have z5 : n0 ≤ h5.size := Nat.le_trans z2 (Keep.of_wr W5).1
  have N5 := Fr.snoc X5 N2 pg_ax
  have K5 : Keep h0 h5 [ax] := K2.wr W5 (Or.inl (List.mem_of_getElem? (i := 0) rfl))
  show own_Go p e below _ (T5.setTop (mkF m 14 #[.val (.ref ax), .val (.ref sx), .val (.int xa), .val (.int xb), .val (.ref dx)] []))
  refine own_by (fun _ => XS.aloadN X5.here hx rfl (hb hby own_d1_14) rfl rfl) ?_
  show own_Go p e below _ (T5.setTop (mkF m 15 #[.val (.ref ax), .val (.ref sx), .val (.int xa), .val (.int xb), .val (.ref dx)] [(.ref ax)]))
  refine own_by (fun _ => XS.iloadN X5.here hx rfl (hb hby own_d1_15) rfl) ?_
  show own_Go p e below _ (T5.setTop (mkF m 16 #[.val (.ref ax), .val (.ref sx), .val (.int xa), .val (.int xb), .val (.ref dx)] [(.int xb), (.ref ax)]))
  have f6 : Exa Z h5 ax "com/example/composiq/composiq/Problem$Candidate" := (f3.wr W5)
  have f7 : Fld Z h5 ax "com/example/composiq/composiq/Problem$Candidate" "index" "I" (.int ub) := ((pf3.other W2 (Or.inr (slot_ne (Or.inr (hw _ (List.mem_of_getElem? (i := 29) rfl))) (Or.inr (hw _ (List.mem_of_getElem? (i := 25) rfl))) (by decide) (t := .int) (t' := (.object "java/lang/String")) (by decide) (by decide)))).other W5 (Or.inr (slot_ne (Or.inr (hw _ (List.mem_of_getElem? (i := 29) rfl))) (Or.inr (hw _ (List.mem_of_getElem? (i := 27) rfl))) (by decide) (t := .int) (t' := .int) (by decide) (by decide))))
  obtain ⟨T8, h8, X8, e8, W8, st8⟩ := putF X5 hx hZ hown (host := "") (Or.inl (hw _ (List.mem_of_getElem? (i := 28) rfl))) Via.refl e5 f7 f6 (Or.inr ⟨(hw _ (List.mem_of_getElem? (i := 29) rfl)), rfl, hnm⟩) (hw _ (List.mem_of_getElem? (i := 2) rfl)) (ty := .int) (by decide) rfl rfl (g := (mkF m 16 #[.val (.ref ax), .val (.ref sx), .val (.int xa), .val (.int xb), .val (.ref dx)] [(.int xb), (.ref ax)])) rfl rfl (hb hby own_d1_16)
  refine own_by st8 ?_
  have fw8 : Fld Z h8 ax "com/example/composiq/composiq/Problem$Candidate" "index" "I" (.int xb) := f7.same W8
  have z8 : n0 ≤ h8.size := Nat.le_trans z5 (Keep.of_wr W8).1
  have N8 := Fr.snoc X8 N5 pg_ax
  have K8 : Keep h0 h8 [ax] := K5.wr W8 (Or.inl (List.mem_of_getElem? (i := 0) rfl))
  show own_Go p e below _ (T8.setTop (mkF m 19 #[.val (.ref ax), .val (.ref sx), .val (.int xa), .val (.int xb), .val (.ref dx)] []))
  refine own_by (fun _ => XS.aloadN X8.here hx rfl (hb hby own_d1_19) rfl rfl) ?_
  show own_Go p e below _ (T8.setTop (mkF m 20 #[.val (.ref ax), .val (.ref sx), .val (.int xa), .val (.int xb), .val (.ref dx)] [(.ref ax)]))
  refine own_by (fun _ => XS.aload X8.here hx rfl (hb hby own_d1_20) rfl rfl) ?_
  show own_Go p e below _ (T8.setTop (mkF m 22 #[.val (.ref ax), .val (.ref sx), .val (.int xa), .val (.int xb), .val (.ref dx)] [(.ref dx), (.ref ax)]))
  have f9 : Exa Z h8 ax "com/example/composiq/composiq/Problem$Candidate" := (f6.wr W8)
  have f10 : Fld Z h8 ax "com/example/composiq/composiq/Problem$Candidate" "qos" "[D" uw := (((pf4.other W2 (Or.inr (slot_ne (Or.inr (hw _ (List.mem_of_getElem? (i := 31) rfl))) (Or.inr (hw _ (List.mem_of_getElem? (i := 25) rfl))) (by decide) (t := (.array .double)) (t' := (.object "java/lang/String")) (by decide) (by decide)))).other W5 (Or.inr (slot_ne (Or.inr (hw _ (List.mem_of_getElem? (i := 31) rfl))) (Or.inr (hw _ (List.mem_of_getElem? (i := 27) rfl))) (by decide) (t := (.array .double)) (t' := .int) (by decide) (by decide)))).other W8 (Or.inr (slot_ne (Or.inr (hw _ (List.mem_of_getElem? (i := 31) rfl))) (Or.inr (hw _ (List.mem_of_getElem? (i := 29) rfl))) (by decide) (t := (.array .double)) (t' := .int) (by decide) (by decide))))
  obtain ⟨T11, h11, X11, e11, W11, st11⟩ := putF X8 hx hZ hown (host := "") (Or.inl (hw _ (List.mem_of_getElem? (i := 30) rfl))) Via.refl e8 f10 f9 (Or.inr ⟨(hw _ (List.mem_of_getElem? (i := 31) rfl)), rfl, hnm⟩) (hw _ (List.mem_of_getElem? (i := 2) rfl)) (ty := (.array .double)) (by decide) rfl rfl (g := (mkF m 22 #[.val (.ref ax), .val (.ref sx), .val (.int xa), .val (.int xb), .val (.ref dx)] [(.ref dx), (.ref ax)])) rfl rfl (hb hby own_d1_22)
  refine own_by st11 ?_
  have fw11 : Fld Z h11 ax "com/example/composiq/composiq/Problem$Candidate" "qos" "[D" (.ref dx) := f10.same W11
  have z11 : n0 ≤ h11.size := Nat.le_trans z8 (Keep.of_wr W11).1
  have N11 := Fr.snoc X11 N8 pg_ax
  have K11 : Keep h0 h11 [ax] := K8.wr W11 (Or.inl (List.mem_of_getElem? (i := 0) rfl))
  show own_Go p e below _ (T11.setTop (mkF m 25 #[.val (.ref ax), .val (.ref sx), .val (.int xa), .val (.int xb), .val (.ref dx)] []))
  have f12 : Fld Z h11 ax "com/example/composiq/composiq/Problem$Candidate" "task" "I" (.int xa) := ((fw5.other W8 (Or.inr (slot_ne (Or.inr (hw _ (List.mem_of_getElem? (i := 27) rfl))) (Or.inr (hw _ (List.mem_of_getElem? (i := 29) rfl))) (by decide) (t := .int) (t' := .int) (by decide) (by decide)))).other W11 (Or.inr (slot_ne (Or.inr (hw _ (List.mem_of_getElem? (i := 27) rfl))) (Or.inr (hw _ (List.mem_of_getElem? (i := 31) rfl))) (by decide) (t := .int) (t' := (.array .double)) (by decide) (by decide))))
  have f13 : Fld Z h11 ax "com/example/composiq/composiq/Problem$Candidate" "index" "I" (.int xb) := (fw8.other W11 (Or.inr (slot_ne (Or.inr (hw _ (List.mem_of_getElem? (i := 29) rfl))) (Or.inr (hw _ (List.mem_of_getElem? (i := 31) rfl))) (by decide) (t := .int) (t' := (.array .double)) (by decide) (by decide))))
  exact own_retV X11 hx hlk e11 hret (hb hby own_d1_25) (by decide) (by decide) ⟨rfl, N11, K11, f12, f13⟩

theorem own_d4_0 : decode prog_13_method_3_code 0 = .ok (.aload_n 1, 1) := by decide +kernel
theorem own_d4_1 : decode prog_13_method_3_code 1 = .ok (.aload_n 0, 1) := by decide +kernel
theorem own_d4_2 : decode prog_13_method_3_code 2 = .ok (.getfield 13, 3) := by decide +kernel
theorem own_d4_5 : decode prog_13_method_3_code 5 = .ok (.iaload, 1) := by decide +kernel
theorem own_d4_6 : decode prog_13_method_3_code 6 = .ok (.aload_n 0, 1) := by decide +kernel
theorem own_d4_7 : decode prog_13_method_3_code 7 = .ok (.getfield 17, 3) := by decide +kernel
theorem own_d4_10 : decode prog_13_method_3_code 10 = .ok (.if_icmp .ne 7, 3) := by decide +kernel
theorem own_d4_13 : decode prog_13_method_3_code 13 = .ok (.iconst 1, 1) := by decide +kernel
theorem own_d4_14 : decode prog_13_method_3_code 14 = .ok (.goto 4, 3) := by decide +kernel
theorem own_d4_17 : decode prog_13_method_3_code 17 = .ok (.iconst 0, 1) := by decide +kernel
theorem own_d4_18 : decode prog_13_method_3_code 18 = .ok (.ireturn, 1) := by decide +kernel
def own_bound (ua : Int32) (ub : Int32) (bs : List Int32) : Int32 := (if (own_g bs ua) = ub then (1 : Int32) else (0 : Int32))
theorem own_pn4 : plainName "com/example/composiq/composiq/Problem$Candidate" = true := by first | (simp [plainName, overriddenIn]; done) | decide +kernel
theorem own_ef4 (m : MethodId) (x0 : Addr) (x1 : Addr) : entryFrame m #[(.ref x0), (.ref x1)] 2 = mkF m 0 #[.val (.ref x0), .val (.ref x1)] [] := by first | (simp [entryFrame, mkF, argsToLocals, Value.category]; done) | rfl
def own_Q4 (Z : State) (ax : Addr) (bx : Addr) (ua : Int32) (ub : Int32) (bk : ClassId) (bs : List Int32) (h0 : Heap) (n0 : Nat) (v : Option Value) (h : Heap) (L : List Loc) : Prop := v = some (.int (own_bound ua ub bs)) ∧ Fr n0 L ∧ h = h0
theorem own_rm4 (l : Launch) (Z : State) (a0 : Array Value) (hw : ∀ d ∈ tables_1, d.before a0 Z = true) (ws : List Jvm.Cond) (ax : Addr) (bx : Addr) (ua : Int32) (ub : Int32) (bk : ClassId) (bs : List Int32) (h0 : Heap) (n0 : Nat) (Z0 : n0 ≤ h0.size) (pf0 : Fld Z h0 ax "com/example/composiq/composiq/Problem$Candidate" "task" "I" (.int ua)) (pf1 : Fld Z h0 ax "com/example/composiq/composiq/Problem$Candidate" "index" "I" (.int ub)) (pf2 : Arv Z h0 bx bk .int (4 : Int32) (bs.map Value.int) (.int (0 : Int32))) (hlo : ¬ (ua < (0 : Int32))) (hhi : ua < (4 : Int32)) :
    MetFree l (⟨"com/example/composiq/composiq/Problem$Candidate", "isBoundIn", "([I)Z"⟩ : MethodName) (head1 (Jvm.Cond.code (⟨"com/example/composiq/composiq/Problem$Candidate", "isBoundIn", "([I)Z"⟩ : MethodName) prog_13_method_3_code 2 (some .boolean) :: ws) ({ frames := 0, cells := 0, slots := 0, locals := 0 } : Room)) (fun a U => a = #[(.ref ax), (.ref bx)] ∧ Z.Warmed39 U.vm ∧ U.heap = h0) (fun _ _ _ _ _ => True) (fun _ U o U' => ∃ v L, o = .returned v ∧ own_Q4 Z ax bx ua ub bk bs h0 n0 v U'.heap L ∧ FrameEnd U o U' L ({ frames := 0, cells := 0, slots := 0, locals := 0 } : Room).cells ({ frames := 0, cells := 0, slots := 0, locals := 0 } : Room).slots) := by
  refine MetFree.of_bodySF (plainFor_of_name own_pn4) hisR ?_
  intro p e s m args below meth c s₁ Bd hml0 hP hK
  obtain ⟨rfl, hZ, hh⟩ := hP
  have hx := Bd.exec
  have hby := Bd.bytes
  have hlk := Bd.notSynchronized
  have hret := Bd.returns
  have hml : c.maxLocals = 2 := hml0
  have hown : s.vm.findClass "com/example/composiq/composiq/Problem$Candidate" = some m.cls := findClass_of_methodNamed Bd.named
  have hnm := (name_of_methodNamed Bd.named Bd.method).1
  have X0 : Stand p l e ({ frames := 0, cells := 0, slots := 0, locals := 0 } : Room) s m #[(.ref ax), (.ref bx)] below meth c s₁ [] 0 0 := Stand.of_body Bd
  have e0 : s₁.heap = h0 := by rw [← hh, Bd.state]; rfl
  have N0 := Fr.nil n0
  suffices key : own_Go p e below (own_End s below (own_Q4 Z ax bx ua ub bk bs h0 n0) ({ frames := 0, cells := 0, slots := 0, locals := 0 } : Room).cells ({ frames := 0, cells := 0, slots := 0, locals := 0 } : Room).slots) (s₁.setTop (mkF m 0 #[.val (.ref ax), .val (.ref bx)] [])) by
    obtain ⟨t, k1, k2, v, L, k3, k4, k5⟩ := key
    exact ⟨t, _, castTop (own_ef4 m ax bx) k1, k2, k3, v, L, rfl, k4, k5⟩
  show own_Go p e below _ (s₁.setTop (mkF m 0 #[.val (.ref ax), .val (.ref bx)] []))
  refine own_by (fun _ => XS.aloadN X0.here hx rfl (hb hby own_d4_0) rfl rfl) ?_
  show own_Go p e below _ (s₁.setTop (mkF m 1 #[.val (.ref ax), .val (.ref bx)] [(.ref bx)]))
  refine own_by (fun _ => XS.aloadN X0.here hx rfl (hb hby own_d4_1) rfl rfl) ?_
  show own_Go p e below _ (s₁.setTop (mkF m 2 #[.val (.ref ax), .val (.ref bx)] [(.ref ax), (.ref bx)]))
  obtain ⟨T1, X1, e1, st1⟩ := getF X0 hx hZ hown (host := "") (Or.inl (hw _ (List.mem_of_getElem? (i := 26) rfl))) Via.refl e0 pf0 (g := (mkF m 2 #[.val (.ref ax), .val (.ref bx)] [(.ref ax), (.ref bx)])) rfl rfl (hb hby own_d4_2)
  refine own_by st1 ?_
  show own_Go p e below _ (T1.setTop (mkF m 5 #[.val (.ref ax), .val (.ref bx)] [(.int ua), (.ref bx)]))
  obtain ⟨cl2, ar2, q2, sz2, nn2, hs2, gs2⟩ := id pf2
  have hin2 : ¬ (ua < 0 ∨ cl2.slots.size ≤ (ua).toNatClampNeg) := inb_of sz2 ⟨hlo, hhi⟩
  refine own_by (X1.iaload hx (j := ua) (v := (.int (own_g bs ua))) (by rw [e1]; exact ar2.1) (State.isArrayOf_alike hZ.alike ar2.2.1) ar2.2.2 hin2 (hs2.at hin2 (own_g_eq bs ua)) (g := (mkF m 5 #[.val (.ref ax), .val (.ref bx)] [(.int ua), (.ref bx)])) rfl rfl (hb hby own_d4_5)) ?_
  show own_Go p e below _ (T1.setTop (mkF m 6 #[.val (.ref ax), .val (.ref bx)] [(.int (own_g bs ua))]))
  refine own_by (fun _ => XS.aloadN X1.here hx rfl (hb hby own_d4_6) rfl rfl) ?_
  show own_Go p e below _ (T1.setTop (mkF m 7 #[.val (.ref ax), .val (.ref bx)] [(.ref ax), (.int (own_g bs ua))]))
  obtain ⟨T3, X3, e3, st3⟩ := getF X1 hx hZ hown (host := "") (Or.inl (hw _ (List.mem_of_getElem? (i := 28) rfl))) Via.refl e1 pf1 (g := (mkF m 7 #[.val (.ref ax), .val (.ref bx)] [(.ref ax), (.int (own_g bs ua))])) rfl rfl (hb hby own_d4_7)
  refine own_by st3 ?_
  show own_Go p e below _ (T3.setTop (mkF m 10 #[.val (.ref ax), .val (.ref bx)] [(.int ub), (.int (own_g bs ua))]))
  suffices J4 : ∀ (T' : State) (v4_t0 : Int32), v4_t0 = (if (own_g bs ua) = ub then (1 : Int32) else (0 : Int32)) → own_At p l e ({ frames := 0, cells := 0, slots := 0, locals := 0 } : Room) s m #[(.ref ax), (.ref bx)] below meth c n0 T' h0 0 0 → own_Go p e below (own_End s below (own_Q4 Z ax bx ua ub bk bs h0 n0) ({ frames := 0, cells := 0, slots := 0, locals := 0 } : Room).cells ({ frames := 0, cells := 0, slots := 0, locals := 0 } : Room).slots) (T'.setTop (mkF m 18 #[.val (.ref ax), .val (.ref bx)] [(.int v4_t0)])) by
    by_cases hc10_5 : (own_g bs ua) = ub
    ·
      skip
      refine own_by (fun _ => XS.icmpNo X3.here hx rfl (hb hby own_d4_10) rfl (teq hc10_5).2) ?_
      show own_Go p e below _ (T3.setTop (mkF m 13 #[.val (.ref ax), .val (.ref bx)] []))
      refine own_by (fun _ => XS.iconst X3.here hx rfl (hb hby own_d4_13)) ?_
      show own_Go p e below _ (T3.setTop (mkF m 14 #[.val (.ref ax), .val (.ref bx)] [(.int (1 : Int32))]))
      refine own_by (fun _ => XS.goto X3.here hx rfl (pc0 := 14) (pc' := 18) rfl (hb hby own_d4_14) (by decide) (by decide)) ?_
      show own_Go p e below _ (T3.setTop (mkF m 18 #[.val (.ref ax), .val (.ref bx)] [(.int (1 : Int32))]))
      exact J4 _ _ (by first | rfl | simp only [if_pos hc10_5]) ⟨_, X3, N0, e3⟩
    ·
      skip
      refine own_by (fun _ => XS.icmpYes X3.here hx rfl (pc0 := 10) (pc' := 17) rfl (hb hby own_d4_10) rfl (feq hc10_5).2 (by decide) (by decide)) ?_
      show own_Go p e below _ (T3.setTop (mkF m 17 #[.val (.ref ax), .val (.ref bx)] []))
      refine own_by (fun _ => XS.iconst X3.here hx rfl (hb hby own_d4_17)) ?_
      show own_Go p e below _ (T3.setTop (mkF m 18 #[.val (.ref ax), .val (.ref bx)] [(.int (0 : Int32))]))
      exact J4 _ _ (by first | rfl | simp only [if_neg hc10_5]) ⟨_, X3, N0, e3⟩
  intro T4 v4_t0 hv4_t0 ⟨locs4, X4, N4, e4⟩
  show own_Go p e below _ (T4.setTop (mkF m 18 #[.val (.ref ax), .val (.ref bx)] [(.int v4_t0)]))
  exact own_retZ X4 hx hlk e4 (by rw [hv4_t0]; (repeat' split) <;> first | exact Or.inl rfl | exact Or.inr rfl) hret (hb hby own_d4_18) (by decide) (by decide) ⟨(by subst hv4_t0; first | rfl | simp only [own_bound, if_neg hlo, if_pos hhi]), N4, rfl⟩

theorem own_d5_0 : decode method_3_code 0 = .ok (.iload_n 0, 1) := by decide +kernel
theorem own_d5_1 : decode method_3_code 1 = .ok (.ifCond .ne 5, 3) := by decide +kernel
theorem own_d5_4 : decode method_3_code 4 = .ok (.iload_n 1, 1) := by decide +kernel
theorem own_d5_5 : decode method_3_code 5 = .ok (.ireturn, 1) := by decide +kernel
theorem own_d5_6 : decode method_3_code 6 = .ok (.iload_n 0, 1) := by decide +kernel
theorem own_d5_7 : decode method_3_code 7 = .ok (.iconst 1, 1) := by decide +kernel
theorem own_d5_8 : decode method_3_code 8 = .ok (.if_icmp .ne 5, 3) := by decide +kernel
theorem own_d5_11 : decode method_3_code 11 = .ok (.iload_n 2, 1) := by decide +kernel
theorem own_d5_12 : decode method_3_code 12 = .ok (.ireturn, 1) := by decide +kernel
theorem own_d5_13 : decode method_3_code 13 = .ok (.iload_n 0, 1) := by decide +kernel
theorem own_d5_14 : decode method_3_code 14 = .ok (.iconst 2, 1) := by decide +kernel
theorem own_d5_15 : decode method_3_code 15 = .ok (.if_icmp .ne 5, 3) := by decide +kernel
theorem own_d5_18 : decode method_3_code 18 = .ok (.iload_n 3, 1) := by decide +kernel
theorem own_d5_19 : decode method_3_code 19 = .ok (.ireturn, 1) := by decide +kernel
theorem own_d5_20 : decode method_3_code 20 = .ok (.iload 4, 2) := by decide +kernel
theorem own_d5_22 : decode method_3_code 22 = .ok (.ireturn, 1) := by decide +kernel
def own_pick (y0 : Int32) (y1 : Int32) (y2 : Int32) (y3 : Int32) (y4 : Int32) : Int32 := (if y0 = (0 : Int32) then y1 else (if y0 = (1 : Int32) then y2 else (if y0 = (2 : Int32) then y3 else y4)))
theorem own_pn5 : plainName "com/example/composiq/composiq/CandidateIsBoundInPinLaw" = true := by first | (simp [plainName, overriddenIn]; done) | decide +kernel
theorem own_ef5 (m : MethodId) (x0 : Int32) (x1 : Int32) (x2 : Int32) (x3 : Int32) (x4 : Int32) : entryFrame m #[(.int x0), (.int x1), (.int x2), (.int x3), (.int x4)] 5 = mkF m 0 #[.val (.int x0), .val (.int x1), .val (.int x2), .val (.int x3), .val (.int x4)] [] := by first | (simp [entryFrame, mkF, argsToLocals, Value.category]; done) | rfl
def own_Q5 (Z : State) (y0 : Int32) (y1 : Int32) (y2 : Int32) (y3 : Int32) (y4 : Int32) (h0 : Heap) (n0 : Nat) (v : Option Value) (h : Heap) (L : List Loc) : Prop := v = some (.int (own_pick y0 y1 y2 y3 y4)) ∧ Fr n0 L ∧ h = h0
theorem own_rm5 (l : Launch) (Z : State) (a0 : Array Value) (hw : ∀ d ∈ tables_1, d.before a0 Z = true) (ws : List Jvm.Cond) (y0 : Int32) (y1 : Int32) (y2 : Int32) (y3 : Int32) (y4 : Int32) (h0 : Heap) (n0 : Nat) (Z0 : n0 ≤ h0.size) :
    MetFree l (⟨"com/example/composiq/composiq/CandidateIsBoundInPinLaw", "pick", "(IIIII)I"⟩ : MethodName) (head1 (Jvm.Cond.code (⟨"com/example/composiq/composiq/CandidateIsBoundInPinLaw", "pick", "(IIIII)I"⟩ : MethodName) method_3_code 5 (some .int) :: ws) ({ frames := 0, cells := 0, slots := 0, locals := 0 } : Room)) (fun a U => a = #[(.int y0), (.int y1), (.int y2), (.int y3), (.int y4)] ∧ Z.Warmed39 U.vm ∧ U.heap = h0) (fun _ _ _ _ _ => True) (fun _ U o U' => ∃ v L, o = .returned v ∧ own_Q5 Z y0 y1 y2 y3 y4 h0 n0 v U'.heap L ∧ FrameEnd U o U' L ({ frames := 0, cells := 0, slots := 0, locals := 0 } : Room).cells ({ frames := 0, cells := 0, slots := 0, locals := 0 } : Room).slots) := by
  refine MetFree.of_bodySF (plainFor_of_name own_pn5) hisR ?_
  intro p e s m args below meth c s₁ Bd hml0 hP hK
  obtain ⟨rfl, hZ, hh⟩ := hP
  have hx := Bd.exec
  have hby := Bd.bytes
  have hlk := Bd.notSynchronized
  have hret := Bd.returns
  have hml : c.maxLocals = 5 := hml0
  have hown : s.vm.findClass "com/example/composiq/composiq/CandidateIsBoundInPinLaw" = some m.cls := findClass_of_methodNamed Bd.named
  have hnm := (name_of_methodNamed Bd.named Bd.method).1
  have X0 : Stand p l e ({ frames := 0, cells := 0, slots := 0, locals := 0 } : Room) s m #[(.int y0), (.int y1), (.int y2), (.int y3), (.int y4)] below meth c s₁ [] 0 0 := Stand.of_body Bd
  have e0 : s₁.heap = h0 := by rw [← hh, Bd.state]; rfl
  have N0 := Fr.nil n0
  suffices key : own_Go p e below (own_End s below (own_Q5 Z y0 y1 y2 y3 y4 h0 n0) ({ frames := 0, cells := 0, slots := 0, locals := 0 } : Room).cells ({ frames := 0, cells := 0, slots := 0, locals := 0 } : Room).slots) (s₁.setTop (mkF m 0 #[.val (.int y0), .val (.int y1), .val (.int y2), .val (.int y3), .val (.int y4)] [])) by
    obtain ⟨t, k1, k2, v, L, k3, k4, k5⟩ := key
    exact ⟨t, _, castTop (own_ef5 m y0 y1 y2 y3 y4) k1, k2, k3, v, L, rfl, k4, k5⟩
  show own_Go p e below _ (s₁.setTop (mkF m 0 #[.val (.int y0), .val (.int y1), .val (.int y2), .val (.int y3), .val (.int y4)] []))
  refine own_by (fun _ => XS.iloadN X0.here hx rfl (hb hby own_d5_0) rfl) ?_
  show own_Go p e below _ (s₁.setTop (mkF m 1 #[.val (.int y0), .val (.int y1), .val (.int y2), .val (.int y3), .val (.int y4)] [(.int y0)]))
  by_cases hc1_1 : y0 = (0 : Int32)
  ·
    skip
    refine own_by (fun _ => XS.ifNo X0.here hx rfl (hb hby own_d5_1) rfl ((if0 _ _).trans (teq hc1_1).2)) ?_
    show own_Go p e below _ (s₁.setTop (mkF m 4 #[.val (.int y0), .val (.int y1), .val (.int y2), .val (.int y3), .val (.int y4)] []))
    refine own_by (fun _ => XS.iloadN X0.here hx rfl (hb hby own_d5_4) rfl) ?_
    show own_Go p e below _ (s₁.setTop (mkF m 5 #[.val (.int y0), .val (.int y1), .val (.int y2), .val (.int y3), .val (.int y4)] [(.int y1)]))
    exact own_retI X0 hx hlk e0 hret (hb hby own_d5_5) (by decide) (by decide) ⟨(by first | rfl | simp only [own_pick, if_pos hc1_1]), N0, rfl⟩
  ·
    skip
    refine own_by (fun _ => XS.ifYes X0.here hx rfl (pc0 := 1) (pc' := 6) rfl (hb hby own_d5_1) rfl ((if0 _ _).trans (feq hc1_1).2) (by decide) (by decide)) ?_
    show own_Go p e below _ (s₁.setTop (mkF m 6 #[.val (.int y0), .val (.int y1), .val (.int y2), .val (.int y3), .val (.int y4)] []))
    refine own_by (fun _ => XS.iloadN X0.here hx rfl (hb hby own_d5_6) rfl) ?_
    show own_Go p e below _ (s₁.setTop (mkF m 7 #[.val (.int y0), .val (.int y1), .val (.int y2), .val (.int y3), .val (.int y4)] [(.int y0)]))
    refine own_by (fun _ => XS.iconst X0.here hx rfl (hb hby own_d5_7)) ?_
    show own_Go p e below _ (s₁.setTop (mkF m 8 #[.val (.int y0), .val (.int y1), .val (.int y2), .val (.int y3), .val (.int y4)] [(.int (1 : Int32)), (.int y0)]))
    by_cases hc8_2 : y0 = (1 : Int32)
    ·
      skip
      refine own_by (fun _ => XS.icmpNo X0.here hx rfl (hb hby own_d5_8) rfl (teq hc8_2).2) ?_
      show own_Go p e below _ (s₁.setTop (mkF m 11 #[.val (.int y0), .val (.int y1), .val (.int y2), .val (.int y3), .val (.int y4)] []))
      refine own_by (fun _ => XS.iloadN X0.here hx rfl (hb hby own_d5_11) rfl) ?_
      show own_Go p e below _ (s₁.setTop (mkF m 12 #[.val (.int y0), .val (.int y1), .val (.int y2), .val (.int y3), .val (.int y4)] [(.int y2)]))
      exact own_retI X0 hx hlk e0 hret (hb hby own_d5_12) (by decide) (by decide) ⟨(by first | rfl | simp only [own_pick, if_neg hc1_1, if_pos hc8_2]), N0, rfl⟩
    ·
      skip
      refine own_by (fun _ => XS.icmpYes X0.here hx rfl (pc0 := 8) (pc' := 13) rfl (hb hby own_d5_8) rfl (feq hc8_2).2 (by decide) (by decide)) ?_
      show own_Go p e below _ (s₁.setTop (mkF m 13 #[.val (.int y0), .val (.int y1), .val (.int y2), .val (.int y3), .val (.int y4)] []))
      refine own_by (fun _ => XS.iloadN X0.here hx rfl (hb hby own_d5_13) rfl) ?_
      show own_Go p e below _ (s₁.setTop (mkF m 14 #[.val (.int y0), .val (.int y1), .val (.int y2), .val (.int y3), .val (.int y4)] [(.int y0)]))
      refine own_by (fun _ => XS.iconst X0.here hx rfl (hb hby own_d5_14)) ?_
      show own_Go p e below _ (s₁.setTop (mkF m 15 #[.val (.int y0), .val (.int y1), .val (.int y2), .val (.int y3), .val (.int y4)] [(.int (2 : Int32)), (.int y0)]))
      by_cases hc15_3 : y0 = (2 : Int32)
      ·
        skip
        refine own_by (fun _ => XS.icmpNo X0.here hx rfl (hb hby own_d5_15) rfl (teq hc15_3).2) ?_
        show own_Go p e below _ (s₁.setTop (mkF m 18 #[.val (.int y0), .val (.int y1), .val (.int y2), .val (.int y3), .val (.int y4)] []))
        refine own_by (fun _ => XS.iloadN X0.here hx rfl (hb hby own_d5_18) rfl) ?_
        show own_Go p e below _ (s₁.setTop (mkF m 19 #[.val (.int y0), .val (.int y1), .val (.int y2), .val (.int y3), .val (.int y4)] [(.int y3)]))
        exact own_retI X0 hx hlk e0 hret (hb hby own_d5_19) (by decide) (by decide) ⟨(by first | rfl | simp only [own_pick, if_neg hc1_1, if_neg hc8_2, if_pos hc15_3]), N0, rfl⟩
      ·
        skip
        refine own_by (fun _ => XS.icmpYes X0.here hx rfl (pc0 := 15) (pc' := 20) rfl (hb hby own_d5_15) rfl (feq hc15_3).2 (by decide) (by decide)) ?_
        show own_Go p e below _ (s₁.setTop (mkF m 20 #[.val (.int y0), .val (.int y1), .val (.int y2), .val (.int y3), .val (.int y4)] []))
        refine own_by (fun _ => XS.iload X0.here hx rfl (hb hby own_d5_20) rfl) ?_
        show own_Go p e below _ (s₁.setTop (mkF m 22 #[.val (.int y0), .val (.int y1), .val (.int y2), .val (.int y3), .val (.int y4)] [(.int y4)]))
        exact own_retI X0 hx hlk e0 hret (hb hby own_d5_22) (by decide) (by decide) ⟨(by first | rfl | simp only [own_pick, if_neg hc1_1, if_neg hc8_2, if_neg hc15_3]), N0, rfl⟩

def own_law (xa : Int32) (xb : Int32) (xc : Int32) (xd : Int32) (xe : Int32) (xf : Int32) : Int32 := (if (((xa.toUInt32 >>> ((2 : Int32) &&& 31).toUInt32).toInt32) &&& (3 : Int32)) = (1 : Int32) then (if (own_bound (xa &&& (3 : Int32)) xb ([xc, xd, xe, xf].set ((xa &&& (3 : Int32))).toNatClampNeg xb)) = (1 : Int32) then (1 : Int32) else (0 : Int32)) else (if (((xa.toUInt32 >>> ((2 : Int32) &&& 31).toUInt32).toInt32) &&& (3 : Int32)) = (2 : Int32) then (if (own_bound (xa &&& (3 : Int32)) xb ((((([xc, xd, xe, xf].set ((0 : Int32)).toNatClampNeg xb).set ((1 : Int32)).toNatClampNeg xb).set ((2 : Int32)).toNatClampNeg xb).set ((3 : Int32)).toNatClampNeg xb).set ((xa &&& (3 : Int32))).toNatClampNeg (xb + (1 : Int32)))) = (0 : Int32) then (1 : Int32) else (0 : Int32)) else (if (own_bound (xa &&& (3 : Int32)) xb [xc, xd, xe, xf]) = (if (own_pick (xa &&& (3 : Int32)) xc xd xe xf) = xb then (1 : Int32) else (0 : Int32)) then (1 : Int32) else (0 : Int32))))
theorem own_plain (xa xb xc xd xe xf : Int32) : own_law xa xb xc xd xe xf = 1 := by
  have h3 : (xa &&& (3 : Int32)) = (0 : Int32) ∨ (xa &&& (3 : Int32)) = (1 : Int32) ∨ (xa &&& (3 : Int32)) = (2 : Int32) ∨ (xa &&& (3 : Int32)) = (3 : Int32) := by
    have e := c_mask xa 3 2 (by decide) (by decide)
    have k : (0 : Int32).toInt = 0 ∧ (1 : Int32).toInt = 1 ∧ (2 : Int32).toInt = 2 ∧ (3 : Int32).toInt = 3 := by decide
    obtain ⟨k0, k1, k2, k3⟩ := k
    simp only [← Int32.toInt_inj, k0, k1, k2, k3]
    omega
  have hb : ¬ (xb + (1 : Int32) = xb) := by
    have e := c_iadd xb 1
    have k1 : (1 : Int32).toInt = 1 := by decide
    rw [k1] at e
    rw [← Int32.toInt_inj]
    omega
  have d1 : ¬ ((1 : Int32) = 0) := by decide
  have d2 : ¬ ((2 : Int32) = 0) ∧ ¬ ((2 : Int32) = 1) := by decide
  have d3 : ¬ ((3 : Int32) = 0) ∧ ¬ ((3 : Int32) = 1) ∧ ¬ ((3 : Int32) = 2) := by decide
  have g : ∀ (a b c d : Int32), own_g [a, b, c, d] 0 = a ∧ own_g [a, b, c, d] 1 = b ∧ own_g [a, b, c, d] 2 = c ∧ own_g [a, b, c, d] 3 = d := fun a b c d => ⟨rfl, rfl, rfl, rfl⟩
  simp only [own_law]
  rcases h3 with q | q | q | q <;> rw [q] <;> (repeat' split) <;> first | rfl | (exfalso; simp_all [own_bound, own_pick, own_g]; done)

theorem own_pn0 : plainName "com/example/composiq/composiq/CandidateIsBoundInPinLaw" = true := by first | (simp [plainName, overriddenIn]; done) | decide +kernel
theorem own_ef0 (m : MethodId) (x0 : Int32) (x1 : Int32) (x2 : Int32) (x3 : Int32) (x4 : Int32) (x5 : Int32) : entryFrame m #[(.int x0), (.int x1), (.int x2), (.int x3), (.int x4), (.int x5)] maxLocals = mkF m 0 #[.val (.int x0), .val (.int x1), .val (.int x2), .val (.int x3), .val (.int x4), .val (.int x5), .unset, .unset, .unset, .unset, .unset, .unset, .unset, .unset, .unset, .unset] [] := by first | (simp [entryFrame, mkF, argsToLocals, Value.category, maxLocals]; done) | rfl
def own_Q0 (Z : State) (xa : Int32) (xb : Int32) (xc : Int32) (xd : Int32) (xe : Int32) (xf : Int32) (h0 : Heap) (n0 : Nat) (v : Option Value) (h : Heap) (L : List Loc) : Prop := v = some (.int (1 : Int32)) ∧ Fr n0 L
theorem own_rm0 (l : Launch) (Z : State) (a0 : Array Value) (hw : ∀ d ∈ tables_1, d.before a0 Z = true) (ws : List Jvm.Cond) (xa : Int32) (xb : Int32) (xc : Int32) (xd : Int32) (xe : Int32) (xf : Int32) (h0 : Heap) (n0 : Nat) (Z0 : n0 ≤ h0.size) :
    MetFree l x (head1 (Jvm.Cond.code x code maxLocals ret :: ws) room_1) (fun a U => a = #[(.int xa), (.int xb), (.int xc), (.int xd), (.int xe), (.int xf)] ∧ Z.Warmed39 U.vm ∧ U.heap = h0) (fun _ _ _ _ _ => True) (fun _ U o U' => ∃ v L, o = .returned v ∧ own_Q0 Z xa xb xc xd xe xf h0 n0 v U'.heap L ∧ ReturnedEndW U o U' L room_1.cells room_1.slots) := by
  refine MetFree.of_bodySF (plainFor_of_name own_pn0) hisR ?_
  intro p e s m args below meth c s₁ Bd hml0 hP hK
  obtain ⟨rfl, hZ, hh⟩ := hP
  have hx := Bd.exec
  have hby := Bd.bytes
  have hlk := Bd.notSynchronized
  have hret := Bd.returns
  have hml : c.maxLocals = 16 := hml0
  have hown : s.vm.findClass "com/example/composiq/composiq/CandidateIsBoundInPinLaw" = some m.cls := findClass_of_methodNamed Bd.named
  have hnm := (name_of_methodNamed Bd.named Bd.method).1
  have X0 : Stand p l e room_1 s m #[(.int xa), (.int xb), (.int xc), (.int xd), (.int xe), (.int xf)] below meth c s₁ [] 0 0 := Stand.of_body Bd
  have e0 : s₁.heap = h0 := by rw [← hh, Bd.state]; rfl
  have N0 := Fr.nil n0
  suffices key : own_Go p e below (own_EndW s below (own_Q0 Z xa xb xc xd xe xf h0 n0) room_1.cells room_1.slots) (s₁.setTop (mkF m 0 #[.val (.int xa), .val (.int xb), .val (.int xc), .val (.int xd), .val (.int xe), .val (.int xf), .unset, .unset, .unset, .unset, .unset, .unset, .unset, .unset, .unset, .unset] [])) by
    obtain ⟨t, k1, k2, v, L, k3, k4, k5⟩ := key
    exact ⟨t, _, castTop (own_ef0 m xa xb xc xd xe xf) k1, k2, k3, v, L, rfl, k4, k5⟩
  show own_Go p e below _ (s₁.setTop (mkF m 0 #[.val (.int xa), .val (.int xb), .val (.int xc), .val (.int xd), .val (.int xe), .val (.int xf), .unset, .unset, .unset, .unset, .unset, .unset, .unset, .unset, .unset, .unset] []))
  refine own_by (fun _ => XS.iloadN X0.here hx rfl (hb hby at_0) rfl) ?_
  show own_Go p e below _ (s₁.setTop (mkF m 1 #[.val (.int xa), .val (.int xb), .val (.int xc), .val (.int xd), .val (.int xe), .val (.int xf), .unset, .unset, .unset, .unset, .unset, .unset, .unset, .unset, .unset, .unset] [(.int xa)]))
  refine own_by (fun _ => XS.iconst X0.here hx rfl (hb hby at_1)) ?_
  show own_Go p e below _ (s₁.setTop (mkF m 2 #[.val (.int xa), .val (.int xb), .val (.int xc), .val (.int xd), .val (.int xe), .val (.int xf), .unset, .unset, .unset, .unset, .unset, .unset, .unset, .unset, .unset, .unset] [(.int (3 : Int32)), (.int xa)]))
  refine own_by (fun _ => XS.iand X0.here hx rfl (hb hby at_2) rfl) ?_
  show own_Go p e below _ (s₁.setTop (mkF m 3 #[.val (.int xa), .val (.int xb), .val (.int xc), .val (.int xd), .val (.int xe), .val (.int xf), .unset, .unset, .unset, .unset, .unset, .unset, .unset, .unset, .unset, .unset] [(.int (xa &&& (3 : Int32)))]))
  refine own_by (fun _ => XS.istore X0.here hx rfl (hb hby at_3) rfl (l' := #[.val (.int xa), .val (.int xb), .val (.int xc), .val (.int xd), .val (.int xe), .val (.int xf), .val (.int (xa &&& (3 : Int32))), .unset, .unset, .unset, .unset, .unset, .unset, .unset, .unset, .unset]) rfl) ?_
  show own_Go p e below _ (s₁.setTop (mkF m 5 #[.val (.int xa), .val (.int xb), .val (.int xc), .val (.int xd), .val (.int xe), .val (.int xf), .val (.int (xa &&& (3 : Int32))), .unset, .unset, .unset, .unset, .unset, .unset, .unset, .unset, .unset] []))
  refine own_by (fun _ => XS.iloadN X0.here hx rfl (hb hby at_5) rfl) ?_
  show own_Go p e below _ (s₁.setTop (mkF m 6 #[.val (.int xa), .val (.int xb), .val (.int xc), .val (.int xd), .val (.int xe), .val (.int xf), .val (.int (xa &&& (3 : Int32))), .unset, .unset, .unset, .unset, .unset, .unset, .unset, .unset, .unset] [(.int xa)]))
  refine own_by (fun _ => XS.iconst X0.here hx rfl (hb hby at_6)) ?_
  show own_Go p e below _ (s₁.setTop (mkF m 7 #[.val (.int xa), .val (.int xb), .val (.int xc), .val (.int xd), .val (.int xe), .val (.int xf), .val (.int (xa &&& (3 : Int32))), .unset, .unset, .unset, .unset, .unset, .unset, .unset, .unset, .unset] [(.int (2 : Int32)), (.int xa)]))
  refine own_by (fun _ => XS.iushr X0.here hx rfl (hb hby at_7) rfl) ?_
  show own_Go p e below _ (s₁.setTop (mkF m 8 #[.val (.int xa), .val (.int xb), .val (.int xc), .val (.int xd), .val (.int xe), .val (.int xf), .val (.int (xa &&& (3 : Int32))), .unset, .unset, .unset, .unset, .unset, .unset, .unset, .unset, .unset] [(.int ((xa.toUInt32 >>> ((2 : Int32) &&& 31).toUInt32).toInt32))]))
  refine own_by (fun _ => XS.iconst X0.here hx rfl (hb hby at_8)) ?_
  show own_Go p e below _ (s₁.setTop (mkF m 9 #[.val (.int xa), .val (.int xb), .val (.int xc), .val (.int xd), .val (.int xe), .val (.int xf), .val (.int (xa &&& (3 : Int32))), .unset, .unset, .unset, .unset, .unset, .unset, .unset, .unset, .unset] [(.int (3 : Int32)), (.int ((xa.toUInt32 >>> ((2 : Int32) &&& 31).toUInt32).toInt32))]))
  refine own_by (fun _ => XS.iand X0.here hx rfl (hb hby at_9) rfl) ?_
  show own_Go p e below _ (s₁.setTop (mkF m 10 #[.val (.int xa), .val (.int xb), .val (.int xc), .val (.int xd), .val (.int xe), .val (.int xf), .val (.int (xa &&& (3 : Int32))), .unset, .unset, .unset, .unset, .unset, .unset, .unset, .unset, .unset] [(.int (((xa.toUInt32 >>> ((2 : Int32) &&& 31).toUInt32).toInt32) &&& (3 : Int32)))]))
  refine own_by (fun _ => XS.istore X0.here hx rfl (hb hby at_10) rfl (l' := #[.val (.int xa), .val (.int xb), .val (.int xc), .val (.int xd), .val (.int xe), .val (.int xf), .val (.int (xa &&& (3 : Int32))), .val (.int (((xa.toUInt32 >>> ((2 : Int32) &&& 31).toUInt32).toInt32) &&& (3 : Int32))), .unset, .unset, .unset, .unset, .unset, .unset, .unset, .unset]) rfl) ?_
  show own_Go p e below _ (s₁.setTop (mkF m 12 #[.val (.int xa), .val (.int xb), .val (.int xc), .val (.int xd), .val (.int xe), .val (.int xf), .val (.int (xa &&& (3 : Int32))), .val (.int (((xa.toUInt32 >>> ((2 : Int32) &&& 31).toUInt32).toInt32) &&& (3 : Int32))), .unset, .unset, .unset, .unset, .unset, .unset, .unset, .unset] []))
  refine own_by (fun _ => XS.iconst X0.here hx rfl (hb hby at_12)) ?_
  show own_Go p e below _ (s₁.setTop (mkF m 13 #[.val (.int xa), .val (.int xb), .val (.int xc), .val (.int xd), .val (.int xe), .val (.int xf), .val (.int (xa &&& (3 : Int32))), .val (.int (((xa.toUInt32 >>> ((2 : Int32) &&& 31).toUInt32).toInt32) &&& (3 : Int32))), .unset, .unset, .unset, .unset, .unset, .unset, .unset, .unset] [(.int (4 : Int32))]))
  obtain ⟨T1, h1, k1, X1, e1, E1, A1, st1⟩ := newP X0 hx hZ (hw _ (List.mem_of_getElem? (i := 0) rfl)) e0 (g := (mkF m 13 #[.val (.int xa), .val (.int xb), .val (.int xc), .val (.int xd), .val (.int xe), .val (.int xf), .val (.int (xa &&& (3 : Int32))), .val (.int (((xa.toUInt32 >>> ((2 : Int32) &&& 31).toUInt32).toInt32) &&& (3 : Int32))), .unset, .unset, .unset, .unset, .unset, .unset, .unset, .unset] [(.int (4 : Int32))])) rfl (hb hby at_13) rfl (by decide) (cap := 4) (by decide) (by decide) (by decide) (by decide)
  obtain ⟨b1, g1⟩ : ∃ z, z = h0.size := ⟨_, rfl⟩
  rw [← g1] at A1 st1
  refine own_by st1 ?_
  have ge1 : n0 ≤ b1 := Nat.le_trans Z0 (Nat.le_of_eq g1.symm)
  have z1 : n0 ≤ h1.size := Nat.le_trans Z0 E1.1
  have va1 : Arv Z h1 b1 k1 .int (4 : Int32) [(.int (0 : Int32)), (.int (0 : Int32)), (.int (0 : Int32)), (.int (0 : Int32))] (.int (0 : Int32)) := (Arv.new A1 (by decide)).pad (pad_rep [] (.int (0 : Int32)) 4)
  show own_Go p e below _ (T1.setTop (mkF m 15 #[.val (.int xa), .val (.int xb), .val (.int xc), .val (.int xd), .val (.int xe), .val (.int xf), .val (.int (xa &&& (3 : Int32))), .val (.int (((xa.toUInt32 >>> ((2 : Int32) &&& 31).toUInt32).toInt32) &&& (3 : Int32))), .unset, .unset, .unset, .unset, .unset, .unset, .unset, .unset] [(.ref b1)]))
  refine own_by (fun _ => XS.dup X1.here hx rfl (hb hby at_15) rfl rfl) ?_
  show own_Go p e below _ (T1.setTop (mkF m 16 #[.val (.int xa), .val (.int xb), .val (.int xc), .val (.int xd), .val (.int xe), .val (.int xf), .val (.int (xa &&& (3 : Int32))), .val (.int (((xa.toUInt32 >>> ((2 : Int32) &&& 31).toUInt32).toInt32) &&& (3 : Int32))), .unset, .unset, .unset, .unset, .unset, .unset, .unset, .unset] [(.ref b1), (.ref b1)]))
  refine own_by (fun _ => XS.iconst X1.here hx rfl (hb hby at_16)) ?_
  show own_Go p e below _ (T1.setTop (mkF m 17 #[.val (.int xa), .val (.int xb), .val (.int xc), .val (.int xd), .val (.int xe), .val (.int xf), .val (.int (xa &&& (3 : Int32))), .val (.int (((xa.toUInt32 >>> ((2 : Int32) &&& 31).toUInt32).toInt32) &&& (3 : Int32))), .unset, .unset, .unset, .unset, .unset, .unset, .unset, .unset] [(.int (0 : Int32)), (.ref b1), (.ref b1)]))
  refine own_by (fun _ => XS.iloadN X1.here hx rfl (hb hby at_17) rfl) ?_
  show own_Go p e below _ (T1.setTop (mkF m 18 #[.val (.int xa), .val (.int xb), .val (.int xc), .val (.int xd), .val (.int xe), .val (.int xf), .val (.int (xa &&& (3 : Int32))), .val (.int (((xa.toUInt32 >>> ((2 : Int32) &&& 31).toUInt32).toInt32) &&& (3 : Int32))), .unset, .unset, .unset, .unset, .unset, .unset, .unset, .unset] [(.int xc), (.int (0 : Int32)), (.ref b1), (.ref b1)]))
  obtain ⟨cl2, ar2, q2, sz2, nn2, hs2, gs2⟩ := id va1
  have hin2 : ¬ ((0 : Int32) < 0 ∨ cl2.slots.size ≤ ((0 : Int32)).toNatClampNeg) := inb_of sz2 ⟨by decide, by decide⟩
  obtain ⟨T3, h3, X3, e3, W3, st3⟩ := stI X1 hx hZ e1 ar2 (j := (0 : Int32)) hin2 (g := (mkF m 18 #[.val (.int xa), .val (.int xb), .val (.int xc), .val (.int xd), .val (.int xe), .val (.int xf), .val (.int (xa &&& (3 : Int32))), .val (.int (((xa.toUInt32 >>> ((2 : Int32) &&& 31).toUInt32).toInt32) &&& (3 : Int32))), .unset, .unset, .unset, .unset, .unset, .unset, .unset, .unset] [(.int xc), (.int (0 : Int32)), (.ref b1), (.ref b1)])) rfl rfl (hb hby at_18)
  refine own_by st3 ?_
  have va3 : Arv Z h3 b1 k1 .int (4 : Int32) [(.int xc), (.int (0 : Int32)), (.int (0 : Int32)), (.int (0 : Int32))] (.int (0 : Int32)) := Arv.set ar2 q2 sz2 nn2 hs2 gs2 rfl W3 0 rfl (Nat.le_of_ble_eq_true rfl)
  have z3 : n0 ≤ h3.size := Nat.le_trans z1 (Keep.of_wr W3).1
  have N3 := Fr.snoc X3 N0 ge1
  show own_Go p e below _ (T3.setTop (mkF m 19 #[.val (.int xa), .val (.int xb), .val (.int xc), .val (.int xd), .val (.int xe), .val (.int xf), .val (.int (xa &&& (3 : Int32))), .val (.int (((xa.toUInt32 >>> ((2 : Int32) &&& 31).toUInt32).toInt32) &&& (3 : Int32))), .unset, .unset, .unset, .unset, .unset, .unset, .unset, .unset] [(.ref b1)]))
  refine own_by (fun _ => XS.dup X3.here hx rfl (hb hby at_19) rfl rfl) ?_
  show own_Go p e below _ (T3.setTop (mkF m 20 #[.val (.int xa), .val (.int xb), .val (.int xc), .val (.int xd), .val (.int xe), .val (.int xf), .val (.int (xa &&& (3 : Int32))), .val (.int (((xa.toUInt32 >>> ((2 : Int32) &&& 31).toUInt32).toInt32) &&& (3 : Int32))), .unset, .unset, .unset, .unset, .unset, .unset, .unset, .unset] [(.ref b1), (.ref b1)]))
  refine own_by (fun _ => XS.iconst X3.here hx rfl (hb hby at_20)) ?_
  show own_Go p e below _ (T3.setTop (mkF m 21 #[.val (.int xa), .val (.int xb), .val (.int xc), .val (.int xd), .val (.int xe), .val (.int xf), .val (.int (xa &&& (3 : Int32))), .val (.int (((xa.toUInt32 >>> ((2 : Int32) &&& 31).toUInt32).toInt32) &&& (3 : Int32))), .unset, .unset, .unset, .unset, .unset, .unset, .unset, .unset] [(.int (1 : Int32)), (.ref b1), (.ref b1)]))
  refine own_by (fun _ => XS.iloadN X3.here hx rfl (hb hby at_21) rfl) ?_
  show own_Go p e below _ (T3.setTop (mkF m 22 #[.val (.int xa), .val (.int xb), .val (.int xc), .val (.int xd), .val (.int xe), .val (.int xf), .val (.int (xa &&& (3 : Int32))), .val (.int (((xa.toUInt32 >>> ((2 : Int32) &&& 31).toUInt32).toInt32) &&& (3 : Int32))), .unset, .unset, .unset, .unset, .unset, .unset, .unset, .unset] [(.int xd), (.int (1 : Int32)), (.ref b1), (.ref b1)]))
  obtain ⟨cl4, ar4, q4, sz4, nn4, hs4, gs4⟩ := id va3
  have hin4 : ¬ ((1 : Int32) < 0 ∨ cl4.slots.size ≤ ((1 : Int32)).toNatClampNeg) := inb_of sz4 ⟨by decide, by decide⟩
  obtain ⟨T5, h5, X5, e5, W5, st5⟩ := stI X3 hx hZ e3 ar4 (j := (1 : Int32)) hin4 (g := (mkF m 22 #[.val (.int xa), .val (.int xb), .val (.int xc), .val (.int xd), .val (.int xe), .val (.int xf), .val (.int (xa &&& (3 : Int32))), .val (.int (((xa.toUInt32 >>> ((2 : Int32) &&& 31).toUInt32).toInt32) &&& (3 : Int32))), .unset, .unset, .unset, .unset, .unset, .unset, .unset, .unset] [(.int xd), (.int (1 : Int32)), (.ref b1), (.ref b1)])) rfl rfl (hb hby at_22)
  refine own_by st5 ?_
  have va5 : Arv Z h5 b1 k1 .int (4 : Int32) [(.int xc), (.int xd), (.int (0 : Int32)), (.int (0 : Int32))] (.int (0 : Int32)) := Arv.set ar4 q4 sz4 nn4 hs4 gs4 rfl W5 1 rfl (Nat.le_of_ble_eq_true rfl)
  have z5 : n0 ≤ h5.size := Nat.le_trans z3 (Keep.of_wr W5).1
  have N5 := Fr.snoc X5 N3 ge1
  show own_Go p e below _ (T5.setTop (mkF m 23 #[.val (.int xa), .val (.int xb), .val (.int xc), .val (.int xd), .val (.int xe), .val (.int xf), .val (.int (xa &&& (3 : Int32))), .val (.int (((xa.toUInt32 >>> ((2 : Int32) &&& 31).toUInt32).toInt32) &&& (3 : Int32))), .unset, .unset, .unset, .unset, .unset, .unset, .unset, .unset] [(.ref b1)]))
  refine own_by (fun _ => XS.dup X5.here hx rfl (hb hby at_23) rfl rfl) ?_
  show own_Go p e below _ (T5.setTop (mkF m 24 #[.val (.int xa), .val (.int xb), .val (.int xc), .val (.int xd), .val (.int xe), .val (.int xf), .val (.int (xa &&& (3 : Int32))), .val (.int (((xa.toUInt32 >>> ((2 : Int32) &&& 31).toUInt32).toInt32) &&& (3 : Int32))), .unset, .unset, .unset, .unset, .unset, .unset, .unset, .unset] [(.ref b1), (.ref b1)]))
  refine own_by (fun _ => XS.iconst X5.here hx rfl (hb hby at_24)) ?_
  show own_Go p e below _ (T5.setTop (mkF m 25 #[.val (.int xa), .val (.int xb), .val (.int xc), .val (.int xd), .val (.int xe), .val (.int xf), .val (.int (xa &&& (3 : Int32))), .val (.int (((xa.toUInt32 >>> ((2 : Int32) &&& 31).toUInt32).toInt32) &&& (3 : Int32))), .unset, .unset, .unset, .unset, .unset, .unset, .unset, .unset] [(.int (2 : Int32)), (.ref b1), (.ref b1)]))
  refine own_by (fun _ => XS.iload X5.here hx rfl (hb hby at_25) rfl) ?_
  show own_Go p e below _ (T5.setTop (mkF m 27 #[.val (.int xa), .val (.int xb), .val (.int xc), .val (.int xd), .val (.int xe), .val (.int xf), .val (.int (xa &&& (3 : Int32))), .val (.int (((xa.toUInt32 >>> ((2 : Int32) &&& 31).toUInt32).toInt32) &&& (3 : Int32))), .unset, .unset, .unset, .unset, .unset, .unset, .unset, .unset] [(.int xe), (.int (2 : Int32)), (.ref b1), (.ref b1)]))
  obtain ⟨cl6, ar6, q6, sz6, nn6, hs6, gs6⟩ := id va5
  have hin6 : ¬ ((2 : Int32) < 0 ∨ cl6.slots.size ≤ ((2 : Int32)).toNatClampNeg) := inb_of sz6 ⟨by decide, by decide⟩
  obtain ⟨T7, h7, X7, e7, W7, st7⟩ := stI X5 hx hZ e5 ar6 (j := (2 : Int32)) hin6 (g := (mkF m 27 #[.val (.int xa), .val (.int xb), .val (.int xc), .val (.int xd), .val (.int xe), .val (.int xf), .val (.int (xa &&& (3 : Int32))), .val (.int (((xa.toUInt32 >>> ((2 : Int32) &&& 31).toUInt32).toInt32) &&& (3 : Int32))), .unset, .unset, .unset, .unset, .unset, .unset, .unset, .unset] [(.int xe), (.int (2 : Int32)), (.ref b1), (.ref b1)])) rfl rfl (hb hby at_27)
  refine own_by st7 ?_
  have va7 : Arv Z h7 b1 k1 .int (4 : Int32) [(.int xc), (.int xd), (.int xe), (.int (0 : Int32))] (.int (0 : Int32)) := Arv.set ar6 q6 sz6 nn6 hs6 gs6 rfl W7 2 rfl (Nat.le_of_ble_eq_true rfl)
  have z7 : n0 ≤ h7.size := Nat.le_trans z5 (Keep.of_wr W7).1
  have N7 := Fr.snoc X7 N5 ge1
  show own_Go p e below _ (T7.setTop (mkF m 28 #[.val (.int xa), .val (.int xb), .val (.int xc), .val (.int xd), .val (.int xe), .val (.int xf), .val (.int (xa &&& (3 : Int32))), .val (.int (((xa.toUInt32 >>> ((2 : Int32) &&& 31).toUInt32).toInt32) &&& (3 : Int32))), .unset, .unset, .unset, .unset, .unset, .unset, .unset, .unset] [(.ref b1)]))
  refine own_by (fun _ => XS.dup X7.here hx rfl (hb hby at_28) rfl rfl) ?_
  show own_Go p e below _ (T7.setTop (mkF m 29 #[.val (.int xa), .val (.int xb), .val (.int xc), .val (.int xd), .val (.int xe), .val (.int xf), .val (.int (xa &&& (3 : Int32))), .val (.int (((xa.toUInt32 >>> ((2 : Int32) &&& 31).toUInt32).toInt32) &&& (3 : Int32))), .unset, .unset, .unset, .unset, .unset, .unset, .unset, .unset] [(.ref b1), (.ref b1)]))
  refine own_by (fun _ => XS.iconst X7.here hx rfl (hb hby at_29)) ?_
  show own_Go p e below _ (T7.setTop (mkF m 30 #[.val (.int xa), .val (.int xb), .val (.int xc), .val (.int xd), .val (.int xe), .val (.int xf), .val (.int (xa &&& (3 : Int32))), .val (.int (((xa.toUInt32 >>> ((2 : Int32) &&& 31).toUInt32).toInt32) &&& (3 : Int32))), .unset, .unset, .unset, .unset, .unset, .unset, .unset, .unset] [(.int (3 : Int32)), (.ref b1), (.ref b1)]))
  refine own_by (fun _ => XS.iload X7.here hx rfl (hb hby at_30) rfl) ?_
  show own_Go p e below _ (T7.setTop (mkF m 32 #[.val (.int xa), .val (.int xb), .val (.int xc), .val (.int xd), .val (.int xe), .val (.int xf), .val (.int (xa &&& (3 : Int32))), .val (.int (((xa.toUInt32 >>> ((2 : Int32) &&& 31).toUInt32).toInt32) &&& (3 : Int32))), .unset, .unset, .unset, .unset, .unset, .unset, .unset, .unset] [(.int xf), (.int (3 : Int32)), (.ref b1), (.ref b1)]))
  obtain ⟨cl8, ar8, q8, sz8, nn8, hs8, gs8⟩ := id va7
  have hin8 : ¬ ((3 : Int32) < 0 ∨ cl8.slots.size ≤ ((3 : Int32)).toNatClampNeg) := inb_of sz8 ⟨by decide, by decide⟩
  obtain ⟨T9, h9, X9, e9, W9, st9⟩ := stI X7 hx hZ e7 ar8 (j := (3 : Int32)) hin8 (g := (mkF m 32 #[.val (.int xa), .val (.int xb), .val (.int xc), .val (.int xd), .val (.int xe), .val (.int xf), .val (.int (xa &&& (3 : Int32))), .val (.int (((xa.toUInt32 >>> ((2 : Int32) &&& 31).toUInt32).toInt32) &&& (3 : Int32))), .unset, .unset, .unset, .unset, .unset, .unset, .unset, .unset] [(.int xf), (.int (3 : Int32)), (.ref b1), (.ref b1)])) rfl rfl (hb hby at_32)
  refine own_by st9 ?_
  have va9 : Arv Z h9 b1 k1 .int (4 : Int32) [(.int xc), (.int xd), (.int xe), (.int xf)] (.int (0 : Int32)) := Arv.set ar8 q8 sz8 nn8 hs8 gs8 rfl W9 3 rfl (Nat.le_of_ble_eq_true rfl)
  have z9 : n0 ≤ h9.size := Nat.le_trans z7 (Keep.of_wr W9).1
  have N9 := Fr.snoc X9 N7 ge1
  show own_Go p e below _ (T9.setTop (mkF m 33 #[.val (.int xa), .val (.int xb), .val (.int xc), .val (.int xd), .val (.int xe), .val (.int xf), .val (.int (xa &&& (3 : Int32))), .val (.int (((xa.toUInt32 >>> ((2 : Int32) &&& 31).toUInt32).toInt32) &&& (3 : Int32))), .unset, .unset, .unset, .unset, .unset, .unset, .unset, .unset] [(.ref b1)]))
  refine own_by (fun _ => XS.astore X9.here hx rfl (hb hby at_33) rfl rfl (l' := #[.val (.int xa), .val (.int xb), .val (.int xc), .val (.int xd), .val (.int xe), .val (.int xf), .val (.int (xa &&& (3 : Int32))), .val (.int (((xa.toUInt32 >>> ((2 : Int32) &&& 31).toUInt32).toInt32) &&& (3 : Int32))), .val (.ref b1), .unset, .unset, .unset, .unset, .unset, .unset, .unset]) rfl) ?_
  obtain ⟨bl10, hbl10⟩ : ∃ z : List Int32, z = [xc, xd, xe, xf] := ⟨_, rfl⟩
  have fbl10 : Arv Z h9 b1 k1 .int (4 : Int32) (bl10.map Value.int) (.int (0 : Int32)) := by rw [hbl10]; exact va9
  have lbl10 : bl10.length = 4 := by rw [hbl10]; simp
  show own_Go p e below _ (T9.setTop (mkF m 35 #[.val (.int xa), .val (.int xb), .val (.int xc), .val (.int xd), .val (.int xe), .val (.int xf), .val (.int (xa &&& (3 : Int32))), .val (.int (((xa.toUInt32 >>> ((2 : Int32) &&& 31).toUInt32).toInt32) &&& (3 : Int32))), .val (.ref b1), .unset, .unset, .unset, .unset, .unset, .unset, .unset] []))
  refine own_by (fun _ => XS.iload X9.here hx rfl (hb hby at_35) rfl) ?_
  show own_Go p e below _ (T9.setTop (mkF m 37 #[.val (.int xa), .val (.int xb), .val (.int xc), .val (.int xd), .val (.int xe), .val (.int xf), .val (.int (xa &&& (3 : Int32))), .val (.int (((xa.toUInt32 >>> ((2 : Int32) &&& 31).toUInt32).toInt32) &&& (3 : Int32))), .val (.ref b1), .unset, .unset, .unset, .unset, .unset, .unset, .unset] [(.int (((xa.toUInt32 >>> ((2 : Int32) &&& 31).toUInt32).toInt32) &&& (3 : Int32)))]))
  refine own_by (fun _ => XS.iconst X9.here hx rfl (hb hby at_37)) ?_
  show own_Go p e below _ (T9.setTop (mkF m 38 #[.val (.int xa), .val (.int xb), .val (.int xc), .val (.int xd), .val (.int xe), .val (.int xf), .val (.int (xa &&& (3 : Int32))), .val (.int (((xa.toUInt32 >>> ((2 : Int32) &&& 31).toUInt32).toInt32) &&& (3 : Int32))), .val (.ref b1), .unset, .unset, .unset, .unset, .unset, .unset, .unset] [(.int (1 : Int32)), (.int (((xa.toUInt32 >>> ((2 : Int32) &&& 31).toUInt32).toInt32) &&& (3 : Int32)))]))
  by_cases hc38_11 : (((xa.toUInt32 >>> ((2 : Int32) &&& 31).toUInt32).toInt32) &&& (3 : Int32)) = (1 : Int32)
  ·
    skip
    refine own_by (fun _ => XS.icmpNo X9.here hx rfl (hb hby at_38) rfl (teq hc38_11).2) ?_
    show own_Go p e below _ (T9.setTop (mkF m 41 #[.val (.int xa), .val (.int xb), .val (.int xc), .val (.int xd), .val (.int xe), .val (.int xf), .val (.int (xa &&& (3 : Int32))), .val (.int (((xa.toUInt32 >>> ((2 : Int32) &&& 31).toUInt32).toInt32) &&& (3 : Int32))), .val (.ref b1), .unset, .unset, .unset, .unset, .unset, .unset, .unset] []))
    refine own_by (fun _ => XS.aload X9.here hx rfl (hb hby at_41) rfl rfl) ?_
    show own_Go p e below _ (T9.setTop (mkF m 43 #[.val (.int xa), .val (.int xb), .val (.int xc), .val (.int xd), .val (.int xe), .val (.int xf), .val (.int (xa &&& (3 : Int32))), .val (.int (((xa.toUInt32 >>> ((2 : Int32) &&& 31).toUInt32).toInt32) &&& (3 : Int32))), .val (.ref b1), .unset, .unset, .unset, .unset, .unset, .unset, .unset] [(.ref b1)]))
    refine own_by (fun _ => XS.iload X9.here hx rfl (hb hby at_43) rfl) ?_
    show own_Go p e below _ (T9.setTop (mkF m 45 #[.val (.int xa), .val (.int xb), .val (.int xc), .val (.int xd), .val (.int xe), .val (.int xf), .val (.int (xa &&& (3 : Int32))), .val (.int (((xa.toUInt32 >>> ((2 : Int32) &&& 31).toUInt32).toInt32) &&& (3 : Int32))), .val (.ref b1), .unset, .unset, .unset, .unset, .unset, .unset, .unset] [(.int (xa &&& (3 : Int32))), (.ref b1)]))
    refine own_by (fun _ => XS.iloadN X9.here hx rfl (hb hby at_45) rfl) ?_
    show own_Go p e below _ (T9.setTop (mkF m 46 #[.val (.int xa), .val (.int xb), .val (.int xc), .val (.int xd), .val (.int xe), .val (.int xf), .val (.int (xa &&& (3 : Int32))), .val (.int (((xa.toUInt32 >>> ((2 : Int32) &&& 31).toUInt32).toInt32) &&& (3 : Int32))), .val (.ref b1), .unset, .unset, .unset, .unset, .unset, .unset, .unset] [(.int xb), (.int (xa &&& (3 : Int32))), (.ref b1)]))
    obtain ⟨cl12, ar12, q12, sz12, nn12, hs12, gs12⟩ := id fbl10
    have hin12 : ¬ ((xa &&& (3 : Int32)) < 0 ∨ cl12.slots.size ≤ ((xa &&& (3 : Int32))).toNatClampNeg) := inb_of sz12 (own_tt xa)
    obtain ⟨T13, h13, X13, e13, W13, st13⟩ := stI X9 hx hZ e9 ar12 (j := (xa &&& (3 : Int32))) hin12 (g := (mkF m 46 #[.val (.int xa), .val (.int xb), .val (.int xc), .val (.int xd), .val (.int xe), .val (.int xf), .val (.int (xa &&& (3 : Int32))), .val (.int (((xa.toUInt32 >>> ((2 : Int32) &&& 31).toUInt32).toInt32) &&& (3 : Int32))), .val (.ref b1), .unset, .unset, .unset, .unset, .unset, .unset, .unset] [(.int xb), (.int (xa &&& (3 : Int32))), (.ref b1)])) rfl rfl (hb hby at_46)
    refine own_by st13 ?_
    have va13 : Arv Z h13 b1 k1 .int (4 : Int32) ((bl10.set ((xa &&& (3 : Int32))).toNatClampNeg xb).map Value.int) (.int (0 : Int32)) := by rw [own_map_set]; exact Arv.set ar12 q12 sz12 nn12 hs12 gs12 rfl W13 _ rfl (own_len4 (own_tt xa) (by simp [lbl10]))
    have z13 : n0 ≤ h13.size := Nat.le_trans z9 (Keep.of_wr W13).1
    have N13 := Fr.snoc X13 N9 ge1
    show own_Go p e below _ (T13.setTop (mkF m 47 #[.val (.int xa), .val (.int xb), .val (.int xc), .val (.int xd), .val (.int xe), .val (.int xf), .val (.int (xa &&& (3 : Int32))), .val (.int (((xa.toUInt32 >>> ((2 : Int32) &&& 31).toUInt32).toInt32) &&& (3 : Int32))), .val (.ref b1), .unset, .unset, .unset, .unset, .unset, .unset, .unset] []))
    refine own_by (fun _ => XS.goto X13.here hx rfl (pc0 := 47) (pc' := 84) rfl (hb hby at_47) (by decide) (by decide)) ?_
    obtain ⟨bm14, hbm14⟩ : ∃ z : List Int32, z = (bl10.set ((xa &&& (3 : Int32))).toNatClampNeg xb) := ⟨_, rfl⟩
    have fbm14 : Arv Z h13 b1 k1 .int (4 : Int32) (bm14.map Value.int) (.int (0 : Int32)) := by rw [hbm14]; exact va13
    have lbm14 : bm14.length = 4 := by rw [hbm14]; simp [lbl10]
    show own_Go p e below _ (T13.setTop (mkF m 84 #[.val (.int xa), .val (.int xb), .val (.int xc), .val (.int xd), .val (.int xe), .val (.int xf), .val (.int (xa &&& (3 : Int32))), .val (.int (((xa.toUInt32 >>> ((2 : Int32) &&& 31).toUInt32).toInt32) &&& (3 : Int32))), .val (.ref b1), .unset, .unset, .unset, .unset, .unset, .unset, .unset] []))
    refine own_by (fun _ => XS.aload X13.here hx rfl (hb hby at_84) rfl rfl) ?_
    show own_Go p e below _ (T13.setTop (mkF m 86 #[.val (.int xa), .val (.int xb), .val (.int xc), .val (.int xd), .val (.int xe), .val (.int xf), .val (.int (xa &&& (3 : Int32))), .val (.int (((xa.toUInt32 >>> ((2 : Int32) &&& 31).toUInt32).toInt32) &&& (3 : Int32))), .val (.ref b1), .unset, .unset, .unset, .unset, .unset, .unset, .unset] [(.ref b1)]))
    refine own_by (fun _ => XS.iconst X13.here hx rfl (hb hby at_86)) ?_
    show own_Go p e below _ (T13.setTop (mkF m 87 #[.val (.int xa), .val (.int xb), .val (.int xc), .val (.int xd), .val (.int xe), .val (.int xf), .val (.int (xa &&& (3 : Int32))), .val (.int (((xa.toUInt32 >>> ((2 : Int32) &&& 31).toUInt32).toInt32) &&& (3 : Int32))), .val (.ref b1), .unset, .unset, .unset, .unset, .unset, .unset, .unset] [(.int (0 : Int32)), (.ref b1)]))
    obtain ⟨cl15, ar15, q15, sz15, nn15, hs15, gs15⟩ := id fbm14
    have hin15 : ¬ ((0 : Int32) < 0 ∨ cl15.slots.size ≤ ((0 : Int32)).toNatClampNeg) := inb_of sz15 ⟨by decide, by decide⟩
    refine own_by (X13.iaload hx (j := (0 : Int32)) (v := (.int (own_g bm14 (0 : Int32)))) (by rw [e13]; exact ar15.1) (State.isArrayOf_alike hZ.alike ar15.2.1) ar15.2.2 hin15 (hs15.at hin15 (own_g_eq bm14 (0 : Int32))) (g := (mkF m 87 #[.val (.int xa), .val (.int xb), .val (.int xc), .val (.int xd), .val (.int xe), .val (.int xf), .val (.int (xa &&& (3 : Int32))), .val (.int (((xa.toUInt32 >>> ((2 : Int32) &&& 31).toUInt32).toInt32) &&& (3 : Int32))), .val (.ref b1), .unset, .unset, .unset, .unset, .unset, .unset, .unset] [(.int (0 : Int32)), (.ref b1)])) rfl rfl (hb hby at_87)) ?_
    show own_Go p e below _ (T13.setTop (mkF m 88 #[.val (.int xa), .val (.int xb), .val (.int xc), .val (.int xd), .val (.int xe), .val (.int xf), .val (.int (xa &&& (3 : Int32))), .val (.int (((xa.toUInt32 >>> ((2 : Int32) &&& 31).toUInt32).toInt32) &&& (3 : Int32))), .val (.ref b1), .unset, .unset, .unset, .unset, .unset, .unset, .unset] [(.int (own_g bm14 (0 : Int32)))]))
    refine own_by (fun _ => XS.istore X13.here hx rfl (hb hby at_88) rfl (l' := #[.val (.int xa), .val (.int xb), .val (.int xc), .val (.int xd), .val (.int xe), .val (.int xf), .val (.int (xa &&& (3 : Int32))), .val (.int (((xa.toUInt32 >>> ((2 : Int32) &&& 31).toUInt32).toInt32) &&& (3 : Int32))), .val (.ref b1), .val (.int (own_g bm14 (0 : Int32))), .unset, .unset, .unset, .unset, .unset, .unset]) rfl) ?_
    show own_Go p e below _ (T13.setTop (mkF m 90 #[.val (.int xa), .val (.int xb), .val (.int xc), .val (.int xd), .val (.int xe), .val (.int xf), .val (.int (xa &&& (3 : Int32))), .val (.int (((xa.toUInt32 >>> ((2 : Int32) &&& 31).toUInt32).toInt32) &&& (3 : Int32))), .val (.ref b1), .val (.int (own_g bm14 (0 : Int32))), .unset, .unset, .unset, .unset, .unset, .unset] []))
    refine own_by (fun _ => XS.aload X13.here hx rfl (hb hby at_90) rfl rfl) ?_
    show own_Go p e below _ (T13.setTop (mkF m 92 #[.val (.int xa), .val (.int xb), .val (.int xc), .val (.int xd), .val (.int xe), .val (.int xf), .val (.int (xa &&& (3 : Int32))), .val (.int (((xa.toUInt32 >>> ((2 : Int32) &&& 31).toUInt32).toInt32) &&& (3 : Int32))), .val (.ref b1), .val (.int (own_g bm14 (0 : Int32))), .unset, .unset, .unset, .unset, .unset, .unset] [(.ref b1)]))
    refine own_by (fun _ => XS.iconst X13.here hx rfl (hb hby at_92)) ?_
    show own_Go p e below _ (T13.setTop (mkF m 93 #[.val (.int xa), .val (.int xb), .val (.int xc), .val (.int xd), .val (.int xe), .val (.int xf), .val (.int (xa &&& (3 : Int32))), .val (.int (((xa.toUInt32 >>> ((2 : Int32) &&& 31).toUInt32).toInt32) &&& (3 : Int32))), .val (.ref b1), .val (.int (own_g bm14 (0 : Int32))), .unset, .unset, .unset, .unset, .unset, .unset] [(.int (1 : Int32)), (.ref b1)]))
    obtain ⟨cl16, ar16, q16, sz16, nn16, hs16, gs16⟩ := id fbm14
    have hin16 : ¬ ((1 : Int32) < 0 ∨ cl16.slots.size ≤ ((1 : Int32)).toNatClampNeg) := inb_of sz16 ⟨by decide, by decide⟩
    refine own_by (X13.iaload hx (j := (1 : Int32)) (v := (.int (own_g bm14 (1 : Int32)))) (by rw [e13]; exact ar16.1) (State.isArrayOf_alike hZ.alike ar16.2.1) ar16.2.2 hin16 (hs16.at hin16 (own_g_eq bm14 (1 : Int32))) (g := (mkF m 93 #[.val (.int xa), .val (.int xb), .val (.int xc), .val (.int xd), .val (.int xe), .val (.int xf), .val (.int (xa &&& (3 : Int32))), .val (.int (((xa.toUInt32 >>> ((2 : Int32) &&& 31).toUInt32).toInt32) &&& (3 : Int32))), .val (.ref b1), .val (.int (own_g bm14 (0 : Int32))), .unset, .unset, .unset, .unset, .unset, .unset] [(.int (1 : Int32)), (.ref b1)])) rfl rfl (hb hby at_93)) ?_
    show own_Go p e below _ (T13.setTop (mkF m 94 #[.val (.int xa), .val (.int xb), .val (.int xc), .val (.int xd), .val (.int xe), .val (.int xf), .val (.int (xa &&& (3 : Int32))), .val (.int (((xa.toUInt32 >>> ((2 : Int32) &&& 31).toUInt32).toInt32) &&& (3 : Int32))), .val (.ref b1), .val (.int (own_g bm14 (0 : Int32))), .unset, .unset, .unset, .unset, .unset, .unset] [(.int (own_g bm14 (1 : Int32)))]))
    refine own_by (fun _ => XS.istore X13.here hx rfl (hb hby at_94) rfl (l' := #[.val (.int xa), .val (.int xb), .val (.int xc), .val (.int xd), .val (.int xe), .val (.int xf), .val (.int (xa &&& (3 : Int32))), .val (.int (((xa.toUInt32 >>> ((2 : Int32) &&& 31).toUInt32).toInt32) &&& (3 : Int32))), .val (.ref b1), .val (.int (own_g bm14 (0 : Int32))), .val (.int (own_g bm14 (1 : Int32))), .unset, .unset, .unset, .unset, .unset]) rfl) ?_
    show own_Go p e below _ (T13.setTop (mkF m 96 #[.val (.int xa), .val (.int xb), .val (.int xc), .val (.int xd), .val (.int xe), .val (.int xf), .val (.int (xa &&& (3 : Int32))), .val (.int (((xa.toUInt32 >>> ((2 : Int32) &&& 31).toUInt32).toInt32) &&& (3 : Int32))), .val (.ref b1), .val (.int (own_g bm14 (0 : Int32))), .val (.int (own_g bm14 (1 : Int32))), .unset, .unset, .unset, .unset, .unset] []))
    refine own_by (fun _ => XS.aload X13.here hx rfl (hb hby at_96) rfl rfl) ?_
    show own_Go p e below _ (T13.setTop (mkF m 98 #[.val (.int xa), .val (.int xb), .val (.int xc), .val (.int xd), .val (.int xe), .val (.int xf), .val (.int (xa &&& (3 : Int32))), .val (.int (((xa.toUInt32 >>> ((2 : Int32) &&& 31).toUInt32).toInt32) &&& (3 : Int32))), .val (.ref b1), .val (.int (own_g bm14 (0 : Int32))), .val (.int (own_g bm14 (1 : Int32))), .unset, .unset, .unset, .unset, .unset] [(.ref b1)]))
    refine own_by (fun _ => XS.iconst X13.here hx rfl (hb hby at_98)) ?_
    show own_Go p e below _ (T13.setTop (mkF m 99 #[.val (.int xa), .val (.int xb), .val (.int xc), .val (.int xd), .val (.int xe), .val (.int xf), .val (.int (xa &&& (3 : Int32))), .val (.int (((xa.toUInt32 >>> ((2 : Int32) &&& 31).toUInt32).toInt32) &&& (3 : Int32))), .val (.ref b1), .val (.int (own_g bm14 (0 : Int32))), .val (.int (own_g bm14 (1 : Int32))), .unset, .unset, .unset, .unset, .unset] [(.int (2 : Int32)), (.ref b1)]))
    obtain ⟨cl17, ar17, q17, sz17, nn17, hs17, gs17⟩ := id fbm14
    have hin17 : ¬ ((2 : Int32) < 0 ∨ cl17.slots.size ≤ ((2 : Int32)).toNatClampNeg) := inb_of sz17 ⟨by decide, by decide⟩
    refine own_by (X13.iaload hx (j := (2 : Int32)) (v := (.int (own_g bm14 (2 : Int32)))) (by rw [e13]; exact ar17.1) (State.isArrayOf_alike hZ.alike ar17.2.1) ar17.2.2 hin17 (hs17.at hin17 (own_g_eq bm14 (2 : Int32))) (g := (mkF m 99 #[.val (.int xa), .val (.int xb), .val (.int xc), .val (.int xd), .val (.int xe), .val (.int xf), .val (.int (xa &&& (3 : Int32))), .val (.int (((xa.toUInt32 >>> ((2 : Int32) &&& 31).toUInt32).toInt32) &&& (3 : Int32))), .val (.ref b1), .val (.int (own_g bm14 (0 : Int32))), .val (.int (own_g bm14 (1 : Int32))), .unset, .unset, .unset, .unset, .unset] [(.int (2 : Int32)), (.ref b1)])) rfl rfl (hb hby at_99)) ?_
    show own_Go p e below _ (T13.setTop (mkF m 100 #[.val (.int xa), .val (.int xb), .val (.int xc), .val (.int xd), .val (.int xe), .val (.int xf), .val (.int (xa &&& (3 : Int32))), .val (.int (((xa.toUInt32 >>> ((2 : Int32) &&& 31).toUInt32).toInt32) &&& (3 : Int32))), .val (.ref b1), .val (.int (own_g bm14 (0 : Int32))), .val (.int (own_g bm14 (1 : Int32))), .unset, .unset, .unset, .unset, .unset] [(.int (own_g bm14 (2 : Int32)))]))
    refine own_by (fun _ => XS.istore X13.here hx rfl (hb hby at_100) rfl (l' := #[.val (.int xa), .val (.int xb), .val (.int xc), .val (.int xd), .val (.int xe), .val (.int xf), .val (.int (xa &&& (3 : Int32))), .val (.int (((xa.toUInt32 >>> ((2 : Int32) &&& 31).toUInt32).toInt32) &&& (3 : Int32))), .val (.ref b1), .val (.int (own_g bm14 (0 : Int32))), .val (.int (own_g bm14 (1 : Int32))), .val (.int (own_g bm14 (2 : Int32))), .unset, .unset, .unset, .unset]) rfl) ?_
    show own_Go p e below _ (T13.setTop (mkF m 102 #[.val (.int xa), .val (.int xb), .val (.int xc), .val (.int xd), .val (.int xe), .val (.int xf), .val (.int (xa &&& (3 : Int32))), .val (.int (((xa.toUInt32 >>> ((2 : Int32) &&& 31).toUInt32).toInt32) &&& (3 : Int32))), .val (.ref b1), .val (.int (own_g bm14 (0 : Int32))), .val (.int (own_g bm14 (1 : Int32))), .val (.int (own_g bm14 (2 : Int32))), .unset, .unset, .unset, .unset] []))
    refine own_by (fun _ => XS.aload X13.here hx rfl (hb hby at_102) rfl rfl) ?_
    show own_Go p e below _ (T13.setTop (mkF m 104 #[.val (.int xa), .val (.int xb), .val (.int xc), .val (.int xd), .val (.int xe), .val (.int xf), .val (.int (xa &&& (3 : Int32))), .val (.int (((xa.toUInt32 >>> ((2 : Int32) &&& 31).toUInt32).toInt32) &&& (3 : Int32))), .val (.ref b1), .val (.int (own_g bm14 (0 : Int32))), .val (.int (own_g bm14 (1 : Int32))), .val (.int (own_g bm14 (2 : Int32))), .unset, .unset, .unset, .unset] [(.ref b1)]))
    refine own_by (fun _ => XS.iconst X13.here hx rfl (hb hby at_104)) ?_
    show own_Go p e below _ (T13.setTop (mkF m 105 #[.val (.int xa), .val (.int xb), .val (.int xc), .val (.int xd), .val (.int xe), .val (.int xf), .val (.int (xa &&& (3 : Int32))), .val (.int (((xa.toUInt32 >>> ((2 : Int32) &&& 31).toUInt32).toInt32) &&& (3 : Int32))), .val (.ref b1), .val (.int (own_g bm14 (0 : Int32))), .val (.int (own_g bm14 (1 : Int32))), .val (.int (own_g bm14 (2 : Int32))), .unset, .unset, .unset, .unset] [(.int (3 : Int32)), (.ref b1)]))
    obtain ⟨cl18, ar18, q18, sz18, nn18, hs18, gs18⟩ := id fbm14
    have hin18 : ¬ ((3 : Int32) < 0 ∨ cl18.slots.size ≤ ((3 : Int32)).toNatClampNeg) := inb_of sz18 ⟨by decide, by decide⟩
    refine own_by (X13.iaload hx (j := (3 : Int32)) (v := (.int (own_g bm14 (3 : Int32)))) (by rw [e13]; exact ar18.1) (State.isArrayOf_alike hZ.alike ar18.2.1) ar18.2.2 hin18 (hs18.at hin18 (own_g_eq bm14 (3 : Int32))) (g := (mkF m 105 #[.val (.int xa), .val (.int xb), .val (.int xc), .val (.int xd), .val (.int xe), .val (.int xf), .val (.int (xa &&& (3 : Int32))), .val (.int (((xa.toUInt32 >>> ((2 : Int32) &&& 31).toUInt32).toInt32) &&& (3 : Int32))), .val (.ref b1), .val (.int (own_g bm14 (0 : Int32))), .val (.int (own_g bm14 (1 : Int32))), .val (.int (own_g bm14 (2 : Int32))), .unset, .unset, .unset, .unset] [(.int (3 : Int32)), (.ref b1)])) rfl rfl (hb hby at_105)) ?_
    show own_Go p e below _ (T13.setTop (mkF m 106 #[.val (.int xa), .val (.int xb), .val (.int xc), .val (.int xd), .val (.int xe), .val (.int xf), .val (.int (xa &&& (3 : Int32))), .val (.int (((xa.toUInt32 >>> ((2 : Int32) &&& 31).toUInt32).toInt32) &&& (3 : Int32))), .val (.ref b1), .val (.int (own_g bm14 (0 : Int32))), .val (.int (own_g bm14 (1 : Int32))), .val (.int (own_g bm14 (2 : Int32))), .unset, .unset, .unset, .unset] [(.int (own_g bm14 (3 : Int32)))]))
    refine own_by (fun _ => XS.istore X13.here hx rfl (hb hby at_106) rfl (l' := #[.val (.int xa), .val (.int xb), .val (.int xc), .val (.int xd), .val (.int xe), .val (.int xf), .val (.int (xa &&& (3 : Int32))), .val (.int (((xa.toUInt32 >>> ((2 : Int32) &&& 31).toUInt32).toInt32) &&& (3 : Int32))), .val (.ref b1), .val (.int (own_g bm14 (0 : Int32))), .val (.int (own_g bm14 (1 : Int32))), .val (.int (own_g bm14 (2 : Int32))), .val (.int (own_g bm14 (3 : Int32))), .unset, .unset, .unset]) rfl) ?_
    show own_Go p e below _ (T13.setTop (mkF m 108 #[.val (.int xa), .val (.int xb), .val (.int xc), .val (.int xd), .val (.int xe), .val (.int xf), .val (.int (xa &&& (3 : Int32))), .val (.int (((xa.toUInt32 >>> ((2 : Int32) &&& 31).toUInt32).toInt32) &&& (3 : Int32))), .val (.ref b1), .val (.int (own_g bm14 (0 : Int32))), .val (.int (own_g bm14 (1 : Int32))), .val (.int (own_g bm14 (2 : Int32))), .val (.int (own_g bm14 (3 : Int32))), .unset, .unset, .unset] []))
    obtain ⟨T19, h19, X19, e19, E19, A19, D19, -, st19⟩ := newO X13 hx hZ hown (hw _ (List.mem_of_getElem? (i := 1) rfl)) (hw _ (List.mem_of_getElem? (i := 2) rfl)) (hw _ (List.mem_of_getElem? (i := 3) rfl)) e13 (g := (mkF m 108 #[.val (.int xa), .val (.int xb), .val (.int xc), .val (.int xd), .val (.int xe), .val (.int xf), .val (.int (xa &&& (3 : Int32))), .val (.int (((xa.toUInt32 >>> ((2 : Int32) &&& 31).toUInt32).toInt32) &&& (3 : Int32))), .val (.ref b1), .val (.int (own_g bm14 (0 : Int32))), .val (.int (own_g bm14 (1 : Int32))), .val (.int (own_g bm14 (2 : Int32))), .val (.int (own_g bm14 (3 : Int32))), .unset, .unset, .unset] [])) rfl (hb hby at_108) (by decide) (by decide)
    obtain ⟨b19, g19⟩ : ∃ z, z = h13.size := ⟨_, rfl⟩
    rw [← g19] at A19 D19 st19
    refine own_by st19 ?_
    have ge19 : n0 ≤ b19 := Nat.le_trans z13 (Nat.le_of_eq g19.symm)
    have ne19_b1 : b1 ≠ b19 := Nat.ne_of_lt (Nat.lt_of_lt_of_le fbm14.lt (Nat.le_of_eq g19.symm))
    have z19 : n0 ≤ h19.size := Nat.le_trans z13 E19.1
    have fz19_id : Fld Z h19 b19 "com/example/composiq/composiq/Problem$Candidate" "id" "Ljava/lang/String;" .null := D19 (Or.inr (hw _ (List.mem_of_getElem? (i := 25) rfl))) (ty := (.object "java/lang/String")) (by decide)
    have fz19_task : Fld Z h19 b19 "com/example/composiq/composiq/Problem$Candidate" "task" "I" (.int (0 : Int32)) := D19 (Or.inr (hw _ (List.mem_of_getElem? (i := 27) rfl))) (ty := .int) (by decide)
    have fz19_index : Fld Z h19 b19 "com/example/composiq/composiq/Problem$Candidate" "index" "I" (.int (0 : Int32)) := D19 (Or.inr (hw _ (List.mem_of_getElem? (i := 29) rfl))) (ty := .int) (by decide)
    have fz19_qos : Fld Z h19 b19 "com/example/composiq/composiq/Problem$Candidate" "qos" "[D" .null := D19 (Or.inr (hw _ (List.mem_of_getElem? (i := 31) rfl))) (ty := (.array .double)) (by decide)
    show own_Go p e below _ (T19.setTop (mkF m 111 #[.val (.int xa), .val (.int xb), .val (.int xc), .val (.int xd), .val (.int xe), .val (.int xf), .val (.int (xa &&& (3 : Int32))), .val (.int (((xa.toUInt32 >>> ((2 : Int32) &&& 31).toUInt32).toInt32) &&& (3 : Int32))), .val (.ref b1), .val (.int (own_g bm14 (0 : Int32))), .val (.int (own_g bm14 (1 : Int32))), .val (.int (own_g bm14 (2 : Int32))), .val (.int (own_g bm14 (3 : Int32))), .unset, .unset, .unset] [(.ref b19)]))
    refine own_by (fun _ => XS.dup X19.here hx rfl (hb hby at_111) rfl rfl) ?_
    show own_Go p e below _ (T19.setTop (mkF m 112 #[.val (.int xa), .val (.int xb), .val (.int xc), .val (.int xd), .val (.int xe), .val (.int xf), .val (.int (xa &&& (3 : Int32))), .val (.int (((xa.toUInt32 >>> ((2 : Int32) &&& 31).toUInt32).toInt32) &&& (3 : Int32))), .val (.ref b1), .val (.int (own_g bm14 (0 : Int32))), .val (.int (own_g bm14 (1 : Int32))), .val (.int (own_g bm14 (2 : Int32))), .val (.int (own_g bm14 (3 : Int32))), .unset, .unset, .unset] [(.ref b19), (.ref b19)]))
    obtain ⟨sa20, T20, h20, k20, X20, e20, E20, hS20, hk20, hZ20, hown20, st20⟩ := ldcS (s := s) (vm0 := s.vm) X19 hx hZ hown (hw _ (List.mem_of_getElem? (i := 4) rfl)) (own_strAtoms hw) e19 ((State.WarmedH.refl s).since h19.size) (Nat.le_refl _) (g := (mkF m 112 #[.val (.int xa), .val (.int xb), .val (.int xc), .val (.int xd), .val (.int xe), .val (.int xf), .val (.int (xa &&& (3 : Int32))), .val (.int (((xa.toUInt32 >>> ((2 : Int32) &&& 31).toUInt32).toInt32) &&& (3 : Int32))), .val (.ref b1), .val (.int (own_g bm14 (0 : Int32))), .val (.int (own_g bm14 (1 : Int32))), .val (.int (own_g bm14 (2 : Int32))), .val (.int (own_g bm14 (3 : Int32))), .unset, .unset, .unset] [(.ref b19), (.ref b19)])) rfl (hb hby at_112) (n := 4) (by decide) (by decide) (by decide) (by decide)
    have hZ := hZ20
    have hown := hown20
    refine own_by st20 ?_
    have z20 : n0 ≤ h20.size := Nat.le_trans z19 E20.1
    show own_Go p e below _ (T20.setTop (mkF m 114 #[.val (.int xa), .val (.int xb), .val (.int xc), .val (.int xd), .val (.int xe), .val (.int xf), .val (.int (xa &&& (3 : Int32))), .val (.int (((xa.toUInt32 >>> ((2 : Int32) &&& 31).toUInt32).toInt32) &&& (3 : Int32))), .val (.ref b1), .val (.int (own_g bm14 (0 : Int32))), .val (.int (own_g bm14 (1 : Int32))), .val (.int (own_g bm14 (2 : Int32))), .val (.int (own_g bm14 (3 : Int32))), .unset, .unset, .unset] [(.ref sa20), (.ref b19), (.ref b19)]))
    refine own_by (fun _ => XS.iload X20.here hx rfl (hb hby at_114) rfl) ?_
    show own_Go p e below _ (T20.setTop (mkF m 116 #[.val (.int xa), .val (.int xb), .val (.int xc), .val (.int xd), .val (.int xe), .val (.int xf), .val (.int (xa &&& (3 : Int32))), .val (.int (((xa.toUInt32 >>> ((2 : Int32) &&& 31).toUInt32).toInt32) &&& (3 : Int32))), .val (.ref b1), .val (.int (own_g bm14 (0 : Int32))), .val (.int (own_g bm14 (1 : Int32))), .val (.int (own_g bm14 (2 : Int32))), .val (.int (own_g bm14 (3 : Int32))), .unset, .unset, .unset] [(.int (xa &&& (3 : Int32))), (.ref sa20), (.ref b19), (.ref b19)]))
    refine own_by (fun _ => XS.iloadN X20.here hx rfl (hb hby at_116) rfl) ?_
    show own_Go p e below _ (T20.setTop (mkF m 117 #[.val (.int xa), .val (.int xb), .val (.int xc), .val (.int xd), .val (.int xe), .val (.int xf), .val (.int (xa &&& (3 : Int32))), .val (.int (((xa.toUInt32 >>> ((2 : Int32) &&& 31).toUInt32).toInt32) &&& (3 : Int32))), .val (.ref b1), .val (.int (own_g bm14 (0 : Int32))), .val (.int (own_g bm14 (1 : Int32))), .val (.int (own_g bm14 (2 : Int32))), .val (.int (own_g bm14 (3 : Int32))), .unset, .unset, .unset] [(.int xb), (.int (xa &&& (3 : Int32))), (.ref sa20), (.ref b19), (.ref b19)]))
    refine own_by (fun _ => XS.iconst X20.here hx rfl (hb hby at_117)) ?_
    show own_Go p e below _ (T20.setTop (mkF m 118 #[.val (.int xa), .val (.int xb), .val (.int xc), .val (.int xd), .val (.int xe), .val (.int xf), .val (.int (xa &&& (3 : Int32))), .val (.int (((xa.toUInt32 >>> ((2 : Int32) &&& 31).toUInt32).toInt32) &&& (3 : Int32))), .val (.ref b1), .val (.int (own_g bm14 (0 : Int32))), .val (.int (own_g bm14 (1 : Int32))), .val (.int (own_g bm14 (2 : Int32))), .val (.int (own_g bm14 (3 : Int32))), .unset, .unset, .unset] [(.int (1 : Int32)), (.int xb), (.int (xa &&& (3 : Int32))), (.ref sa20), (.ref b19), (.ref b19)]))
    obtain ⟨T21, h21, k21, X21, e21, E21, A21, st21⟩ := newP X20 hx hZ (hw _ (List.mem_of_getElem? (i := 12) rfl)) e20 (g := (mkF m 118 #[.val (.int xa), .val (.int xb), .val (.int xc), .val (.int xd), .val (.int xe), .val (.int xf), .val (.int (xa &&& (3 : Int32))), .val (.int (((xa.toUInt32 >>> ((2 : Int32) &&& 31).toUInt32).toInt32) &&& (3 : Int32))), .val (.ref b1), .val (.int (own_g bm14 (0 : Int32))), .val (.int (own_g bm14 (1 : Int32))), .val (.int (own_g bm14 (2 : Int32))), .val (.int (own_g bm14 (3 : Int32))), .unset, .unset, .unset] [(.int (1 : Int32)), (.int xb), (.int (xa &&& (3 : Int32))), (.ref sa20), (.ref b19), (.ref b19)])) rfl (hb hby at_118) rfl (by decide) (cap := 1) (by decide) (by decide) (by decide) (by decide)
    obtain ⟨b21, g21⟩ : ∃ z, z = h20.size := ⟨_, rfl⟩
    rw [← g21] at A21 st21
    refine own_by st21 ?_
    have ge21 : n0 ≤ b21 := Nat.le_trans z20 (Nat.le_of_eq g21.symm)
    have f22 : Arv Z h20 b1 k1 .int (4 : Int32) (bm14.map Value.int) (.int (0 : Int32)) := ((fbm14.ext E19).ext E20)
    have ne21_b1 : b1 ≠ b21 := Nat.ne_of_lt (Nat.lt_of_lt_of_le f22.lt (Nat.le_of_eq g21.symm))
    have f23 : Exa Z h20 b19 "com/example/composiq/composiq/Problem$Candidate" := (A19.ext E20)
    have ne21_b19 : b19 ≠ b21 := Nat.ne_of_lt (Nat.lt_of_lt_of_le f23.lt (Nat.le_of_eq g21.symm))
    have z21 : n0 ≤ h21.size := Nat.le_trans z20 E21.1
    have hkk21 : k20 ≤ h21.size := Nat.le_trans hk20 E21.1
    have va21 : Arv Z h21 b21 k21 .double (1 : Int32) [(.double 0)] (.double 0) := (Arv.new A21 (by decide)).pad (pad_rep [] (.double 0) 1)
    show own_Go p e below _ (T21.setTop (mkF m 120 #[.val (.int xa), .val (.int xb), .val (.int xc), .val (.int xd), .val (.int xe), .val (.int xf), .val (.int (xa &&& (3 : Int32))), .val (.int (((xa.toUInt32 >>> ((2 : Int32) &&& 31).toUInt32).toInt32) &&& (3 : Int32))), .val (.ref b1), .val (.int (own_g bm14 (0 : Int32))), .val (.int (own_g bm14 (1 : Int32))), .val (.int (own_g bm14 (2 : Int32))), .val (.int (own_g bm14 (3 : Int32))), .unset, .unset, .unset] [(.ref b21), (.int xb), (.int (xa &&& (3 : Int32))), (.ref sa20), (.ref b19), (.ref b19)]))
    refine own_by (fun _ => XS.dup X21.here hx rfl (hb hby at_120) rfl rfl) ?_
    show own_Go p e below _ (T21.setTop (mkF m 121 #[.val (.int xa), .val (.int xb), .val (.int xc), .val (.int xd), .val (.int xe), .val (.int xf), .val (.int (xa &&& (3 : Int32))), .val (.int (((xa.toUInt32 >>> ((2 : Int32) &&& 31).toUInt32).toInt32) &&& (3 : Int32))), .val (.ref b1), .val (.int (own_g bm14 (0 : Int32))), .val (.int (own_g bm14 (1 : Int32))), .val (.int (own_g bm14 (2 : Int32))), .val (.int (own_g bm14 (3 : Int32))), .unset, .unset, .unset] [(.ref b21), (.ref b21), (.int xb), (.int (xa &&& (3 : Int32))), (.ref sa20), (.ref b19), (.ref b19)]))
    refine own_by (fun _ => XS.iconst X21.here hx rfl (hb hby at_121)) ?_
    show own_Go p e below _ (T21.setTop (mkF m 122 #[.val (.int xa), .val (.int xb), .val (.int xc), .val (.int xd), .val (.int xe), .val (.int xf), .val (.int (xa &&& (3 : Int32))), .val (.int (((xa.toUInt32 >>> ((2 : Int32) &&& 31).toUInt32).toInt32) &&& (3 : Int32))), .val (.ref b1), .val (.int (own_g bm14 (0 : Int32))), .val (.int (own_g bm14 (1 : Int32))), .val (.int (own_g bm14 (2 : Int32))), .val (.int (own_g bm14 (3 : Int32))), .unset, .unset, .unset] [(.int (0 : Int32)), (.ref b21), (.ref b21), (.int xb), (.int (xa &&& (3 : Int32))), (.ref sa20), (.ref b19), (.ref b19)]))
    refine own_by (fun _ => XS.dconst1 X21.here hx rfl (hb hby at_122) rfl) ?_
    show own_Go p e below _ (T21.setTop (mkF m 123 #[.val (.int xa), .val (.int xb), .val (.int xc), .val (.int xd), .val (.int xe), .val (.int xf), .val (.int (xa &&& (3 : Int32))), .val (.int (((xa.toUInt32 >>> ((2 : Int32) &&& 31).toUInt32).toInt32) &&& (3 : Int32))), .val (.ref b1), .val (.int (own_g bm14 (0 : Int32))), .val (.int (own_g bm14 (1 : Int32))), .val (.int (own_g bm14 (2 : Int32))), .val (.int (own_g bm14 (3 : Int32))), .unset, .unset, .unset] [(.double own_dc1), (.int (0 : Int32)), (.ref b21), (.ref b21), (.int xb), (.int (xa &&& (3 : Int32))), (.ref sa20), (.ref b19), (.ref b19)]))
    obtain ⟨cl24, ar24, q24, sz24, nn24, hs24, gs24⟩ := id va21
    have hin24 : ¬ ((0 : Int32) < 0 ∨ cl24.slots.size ≤ ((0 : Int32)).toNatClampNeg) := inb_of sz24 ⟨by decide, by decide⟩
    obtain ⟨T25, h25, X25, e25, W25, st25⟩ := stD X21 hx hZ e21 ar24 (j := (0 : Int32)) hin24 (g := (mkF m 123 #[.val (.int xa), .val (.int xb), .val (.int xc), .val (.int xd), .val (.int xe), .val (.int xf), .val (.int (xa &&& (3 : Int32))), .val (.int (((xa.toUInt32 >>> ((2 : Int32) &&& 31).toUInt32).toInt32) &&& (3 : Int32))), .val (.ref b1), .val (.int (own_g bm14 (0 : Int32))), .val (.int (own_g bm14 (1 : Int32))), .val (.int (own_g bm14 (2 : Int32))), .val (.int (own_g bm14 (3 : Int32))), .unset, .unset, .unset] [(.double own_dc1), (.int (0 : Int32)), (.ref b21), (.ref b21), (.int xb), (.int (xa &&& (3 : Int32))), (.ref sa20), (.ref b19), (.ref b19)])) rfl rfl (hb hby at_123)
    refine own_by st25 ?_
    have va25 : Arv Z h25 b21 k21 .double (1 : Int32) [(.double own_dc1)] (.double 0) := Arv.set ar24 q24 sz24 nn24 hs24 gs24 rfl W25 0 rfl (Nat.le_of_ble_eq_true rfl)
    have z25 : n0 ≤ h25.size := Nat.le_trans z21 (Keep.of_wr W25).1
    have hkk25 : k20 ≤ h25.size := Nat.le_trans hkk21 (Keep.of_wr W25).1
    have N25 := Fr.snoc X25 N13 ge21
    show own_Go p e below _ (T25.setTop (mkF m 124 #[.val (.int xa), .val (.int xb), .val (.int xc), .val (.int xd), .val (.int xe), .val (.int xf), .val (.int (xa &&& (3 : Int32))), .val (.int (((xa.toUInt32 >>> ((2 : Int32) &&& 31).toUInt32).toInt32) &&& (3 : Int32))), .val (.ref b1), .val (.int (own_g bm14 (0 : Int32))), .val (.int (own_g bm14 (1 : Int32))), .val (.int (own_g bm14 (2 : Int32))), .val (.int (own_g bm14 (3 : Int32))), .unset, .unset, .unset] [(.ref b21), (.int xb), (.int (xa &&& (3 : Int32))), (.ref sa20), (.ref b19), (.ref b19)]))
    have f26 : Exa Z h25 b19 "com/example/composiq/composiq/Problem$Candidate" := ((f23.ext E21).wr W25)
    have f27 : Fld Z h25 b19 "com/example/composiq/composiq/Problem$Candidate" "id" "Ljava/lang/String;" .null := (((fz19_id.ext E20).ext E21).other W25 (Or.inl ne21_b19))
    have f28 : Fld Z h25 b19 "com/example/composiq/composiq/Problem$Candidate" "task" "I" (.int (0 : Int32)) := (((fz19_task.ext E20).ext E21).other W25 (Or.inl ne21_b19))
    have f29 : Fld Z h25 b19 "com/example/composiq/composiq/Problem$Candidate" "index" "I" (.int (0 : Int32)) := (((fz19_index.ext E20).ext E21).other W25 (Or.inl ne21_b19))
    have f30 : Fld Z h25 b19 "com/example/composiq/composiq/Problem$Candidate" "qos" "[D" .null := (((fz19_qos.ext E20).ext E21).other W25 (Or.inl ne21_b19))
    obtain ⟨_, _, ⟨T31, L31, k31, n31⟩, -, X31, ⟨Lc31, hQ31, l31, y31, z31'⟩, st31⟩ := X25.specialBack hx (y := (⟨"com/example/composiq/composiq/Problem$Candidate", "<init>", "(Ljava/lang/String;II[D)V"⟩ : MethodName)) rfl hown (mvT hZ (hw _ (List.mem_of_getElem? (i := 13) rfl))) (mvT hZ (hw _ (List.mem_of_getElem? (i := 14) rfl))) (mvT hZ (hw _ (List.mem_of_getElem? (i := 15) rfl))) (by decide) (backOf (W := 1) (own_rm1 l Z a0 hw [] b19 sa20 (xa &&& (3 : Int32)) xb b21 .null (0 : Int32) (0 : Int32) .null h25 n0 z25 f26 f27 f28 f29 f30 ge19) hZ (hw _ (List.mem_of_getElem? (i := 15) rfl)) (hw _ (List.mem_of_getElem? (i := 3) rfl)) (by decide) (by decide)) (g := (mkF m 124 #[.val (.int xa), .val (.int xb), .val (.int xc), .val (.int xd), .val (.int xe), .val (.int xf), .val (.int (xa &&& (3 : Int32))), .val (.int (((xa.toUInt32 >>> ((2 : Int32) &&& 31).toUInt32).toInt32) &&& (3 : Int32))), .val (.ref b1), .val (.int (own_g bm14 (0 : Int32))), .val (.int (own_g bm14 (1 : Int32))), .val (.int (own_g bm14 (2 : Int32))), .val (.int (own_g bm14 (3 : Int32))), .unset, .unset, .unset] [(.ref b21), (.int xb), (.int (xa &&& (3 : Int32))), (.ref sa20), (.ref b19), (.ref b19)])) rfl (by rw [hml]; rfl) (Steps.refl _) (a := b19) (argsL := [(.ref sa20), (.int (xa &&& (3 : Int32))), (.int xb), (.ref b21)]) (rest := [(.ref b19)]) (lenOf own_pd1 rfl) rfl (by show 2 * 0 + _ ≤ _; exact Nat.le_of_eq rfl) (hb hby at_124) (fun _ _ => ⟨rfl, e25, (by decide : 5 + 0 ≤ _), (by decide : 17 + 0 ≤ _)⟩)
    dsimp only [Pt.U, Pt.locs, Pt.cells, Pt.slots] at X31 l31 y31 z31' st31 hQ31
    subst l31 y31 z31'
    obtain ⟨rfl, N31q, Kc31, fc31_0, fc31_1⟩ := hQ31
    have N31 := Fr.app N25 N31q
    refine own_tr st31 ?_
    have z31 : n0 ≤ T31.heap.size := Nat.le_trans z25 Kc31.1
    have hkk31 : k20 ≤ T31.heap.size := Nat.le_trans hkk25 Kc31.1
    show own_Go p e below _ (T31.setTop (mkF m 127 #[.val (.int xa), .val (.int xb), .val (.int xc), .val (.int xd), .val (.int xe), .val (.int xf), .val (.int (xa &&& (3 : Int32))), .val (.int (((xa.toUInt32 >>> ((2 : Int32) &&& 31).toUInt32).toInt32) &&& (3 : Int32))), .val (.ref b1), .val (.int (own_g bm14 (0 : Int32))), .val (.int (own_g bm14 (1 : Int32))), .val (.int (own_g bm14 (2 : Int32))), .val (.int (own_g bm14 (3 : Int32))), .unset, .unset, .unset] [(.ref b19)]))
    refine own_by (fun _ => XS.astore X31.here hx rfl (hb hby at_127) rfl rfl (l' := #[.val (.int xa), .val (.int xb), .val (.int xc), .val (.int xd), .val (.int xe), .val (.int xf), .val (.int (xa &&& (3 : Int32))), .val (.int (((xa.toUInt32 >>> ((2 : Int32) &&& 31).toUInt32).toInt32) &&& (3 : Int32))), .val (.ref b1), .val (.int (own_g bm14 (0 : Int32))), .val (.int (own_g bm14 (1 : Int32))), .val (.int (own_g bm14 (2 : Int32))), .val (.int (own_g bm14 (3 : Int32))), .val (.ref b19), .unset, .unset]) rfl) ?_
    show own_Go p e below _ (T31.setTop (mkF m 129 #[.val (.int xa), .val (.int xb), .val (.int xc), .val (.int xd), .val (.int xe), .val (.int xf), .val (.int (xa &&& (3 : Int32))), .val (.int (((xa.toUInt32 >>> ((2 : Int32) &&& 31).toUInt32).toInt32) &&& (3 : Int32))), .val (.ref b1), .val (.int (own_g bm14 (0 : Int32))), .val (.int (own_g bm14 (1 : Int32))), .val (.int (own_g bm14 (2 : Int32))), .val (.int (own_g bm14 (3 : Int32))), .val (.ref b19), .unset, .unset] []))
    refine own_by (fun _ => XS.aload X31.here hx rfl (hb hby at_129) rfl rfl) ?_
    show own_Go p e below _ (T31.setTop (mkF m 131 #[.val (.int xa), .val (.int xb), .val (.int xc), .val (.int xd), .val (.int xe), .val (.int xf), .val (.int (xa &&& (3 : Int32))), .val (.int (((xa.toUInt32 >>> ((2 : Int32) &&& 31).toUInt32).toInt32) &&& (3 : Int32))), .val (.ref b1), .val (.int (own_g bm14 (0 : Int32))), .val (.int (own_g bm14 (1 : Int32))), .val (.int (own_g bm14 (2 : Int32))), .val (.int (own_g bm14 (3 : Int32))), .val (.ref b19), .unset, .unset] [(.ref b19)]))
    refine own_by (fun _ => XS.aload X31.here hx rfl (hb hby at_131) rfl rfl) ?_
    show own_Go p e below _ (T31.setTop (mkF m 133 #[.val (.int xa), .val (.int xb), .val (.int xc), .val (.int xd), .val (.int xe), .val (.int xf), .val (.int (xa &&& (3 : Int32))), .val (.int (((xa.toUInt32 >>> ((2 : Int32) &&& 31).toUInt32).toInt32) &&& (3 : Int32))), .val (.ref b1), .val (.int (own_g bm14 (0 : Int32))), .val (.int (own_g bm14 (1 : Int32))), .val (.int (own_g bm14 (2 : Int32))), .val (.int (own_g bm14 (3 : Int32))), .val (.ref b19), .unset, .unset] [(.ref b1), (.ref b19)]))
    have f32 : Arv Z T31.heap b1 k1 .int (4 : Int32) (bm14.map Value.int) (.int (0 : Int32)) := (((f22.ext E21).other W25 ne21_b1).keep Kc31 (ninS ne19_b1 nin0))
    have f34 : Exa Z T31.heap b19 "com/example/composiq/composiq/Problem$Candidate" := (f26.keep Kc31)
    obtain ⟨cq33, kq33, q33a, q33b, q33c⟩ := isOf hZ rfl f34
    obtain ⟨_, _, ⟨T33, L33, k33, n33⟩, -, X33, ⟨Lc33, hQ33, l33, y33, z33'⟩, st33⟩ := X31.virtualBack hx (y := (⟨"com/example/composiq/composiq/Problem$Candidate", "isBoundIn", "([I)Z"⟩ : MethodName)) (z := (⟨"com/example/composiq/composiq/Problem$Candidate", "isBoundIn", "([I)Z"⟩ : MethodName)) hown (mvT hZ (hw _ (List.mem_of_getElem? (i := 32) rfl))) (mvT hZ (hw _ (List.mem_of_getElem? (i := 33) rfl))) (notFace_of_selects (args := #[]) (mvT hZ (hw _ (List.mem_of_getElem? (i := 35) rfl)))) (mvT hZ (hw _ (List.mem_of_getElem? (i := 35) rfl))) (mvT hZ (hw _ (List.mem_of_getElem? (i := 34) rfl))) (by decide) (backOf (W := 0) (own_rm4 l Z a0 hw [] b19 b1 (xa &&& (3 : Int32)) xb k1 bm14 T31.heap n0 z31 fc31_0 fc31_1 f32 ((own_tt xa).1 : ¬ ((xa &&& (3 : Int32)) < (0 : Int32))) ((own_tt xa).2 : (xa &&& (3 : Int32)) < (4 : Int32))) hZ (hw _ (List.mem_of_getElem? (i := 36) rfl)) (hw _ (List.mem_of_getElem? (i := 3) rfl)) (by decide) (by decide)) q33a q33c (g := (mkF m 133 #[.val (.int xa), .val (.int xb), .val (.int xc), .val (.int xd), .val (.int xe), .val (.int xf), .val (.int (xa &&& (3 : Int32))), .val (.int (((xa.toUInt32 >>> ((2 : Int32) &&& 31).toUInt32).toInt32) &&& (3 : Int32))), .val (.ref b1), .val (.int (own_g bm14 (0 : Int32))), .val (.int (own_g bm14 (1 : Int32))), .val (.int (own_g bm14 (2 : Int32))), .val (.int (own_g bm14 (3 : Int32))), .val (.ref b19), .unset, .unset] [(.ref b1), (.ref b19)])) rfl (by rw [hml]; rfl) (Steps.refl _) (argsL := [(.ref b1)]) (rest := []) (lenOf own_pd2 rfl) rfl (by show 2 * 0 + _ ≤ _; exact Nat.le_of_eq rfl) (hb hby at_133) (fun _ _ => ⟨rfl, rfl, (by decide : 5 + 0 ≤ _), (by decide : 17 + 0 ≤ _)⟩)
    dsimp only [Pt.U, Pt.locs, Pt.cells, Pt.slots] at X33 l33 y33 z33' st33 hQ33
    subst l33 y33 z33'
    obtain ⟨rfl, N33q, e33⟩ := hQ33
    have N33 := Fr.app N31 N33q
    refine own_tr st33 ?_
    show own_Go p e below _ (T33.setTop (mkF m 136 #[.val (.int xa), .val (.int xb), .val (.int xc), .val (.int xd), .val (.int xe), .val (.int xf), .val (.int (xa &&& (3 : Int32))), .val (.int (((xa.toUInt32 >>> ((2 : Int32) &&& 31).toUInt32).toInt32) &&& (3 : Int32))), .val (.ref b1), .val (.int (own_g bm14 (0 : Int32))), .val (.int (own_g bm14 (1 : Int32))), .val (.int (own_g bm14 (2 : Int32))), .val (.int (own_g bm14 (3 : Int32))), .val (.ref b19), .unset, .unset] [(.int (own_bound (xa &&& (3 : Int32)) xb bm14))]))
    refine own_by (fun _ => XS.istore X33.here hx rfl (hb hby at_136) rfl (l' := #[.val (.int xa), .val (.int xb), .val (.int xc), .val (.int xd), .val (.int xe), .val (.int xf), .val (.int (xa &&& (3 : Int32))), .val (.int (((xa.toUInt32 >>> ((2 : Int32) &&& 31).toUInt32).toInt32) &&& (3 : Int32))), .val (.ref b1), .val (.int (own_g bm14 (0 : Int32))), .val (.int (own_g bm14 (1 : Int32))), .val (.int (own_g bm14 (2 : Int32))), .val (.int (own_g bm14 (3 : Int32))), .val (.ref b19), .val (.int (own_bound (xa &&& (3 : Int32)) xb bm14)), .unset]) rfl) ?_
    show own_Go p e below _ (T33.setTop (mkF m 138 #[.val (.int xa), .val (.int xb), .val (.int xc), .val (.int xd), .val (.int xe), .val (.int xf), .val (.int (xa &&& (3 : Int32))), .val (.int (((xa.toUInt32 >>> ((2 : Int32) &&& 31).toUInt32).toInt32) &&& (3 : Int32))), .val (.ref b1), .val (.int (own_g bm14 (0 : Int32))), .val (.int (own_g bm14 (1 : Int32))), .val (.int (own_g bm14 (2 : Int32))), .val (.int (own_g bm14 (3 : Int32))), .val (.ref b19), .val (.int (own_bound (xa &&& (3 : Int32)) xb bm14)), .unset] []))
    refine own_by (fun _ => XS.iload X33.here hx rfl (hb hby at_138) rfl) ?_
    show own_Go p e below _ (T33.setTop (mkF m 140 #[.val (.int xa), .val (.int xb), .val (.int xc), .val (.int xd), .val (.int xe), .val (.int xf), .val (.int (xa &&& (3 : Int32))), .val (.int (((xa.toUInt32 >>> ((2 : Int32) &&& 31).toUInt32).toInt32) &&& (3 : Int32))), .val (.ref b1), .val (.int (own_g bm14 (0 : Int32))), .val (.int (own_g bm14 (1 : Int32))), .val (.int (own_g bm14 (2 : Int32))), .val (.int (own_g bm14 (3 : Int32))), .val (.ref b19), .val (.int (own_bound (xa &&& (3 : Int32)) xb bm14)), .unset] [(.int (((xa.toUInt32 >>> ((2 : Int32) &&& 31).toUInt32).toInt32) &&& (3 : Int32)))]))
    refine own_by (fun _ => XS.iconst X33.here hx rfl (hb hby at_140)) ?_
    show own_Go p e below _ (T33.setTop (mkF m 141 #[.val (.int xa), .val (.int xb), .val (.int xc), .val (.int xd), .val (.int xe), .val (.int xf), .val (.int (xa &&& (3 : Int32))), .val (.int (((xa.toUInt32 >>> ((2 : Int32) &&& 31).toUInt32).toInt32) &&& (3 : Int32))), .val (.ref b1), .val (.int (own_g bm14 (0 : Int32))), .val (.int (own_g bm14 (1 : Int32))), .val (.int (own_g bm14 (2 : Int32))), .val (.int (own_g bm14 (3 : Int32))), .val (.ref b19), .val (.int (own_bound (xa &&& (3 : Int32)) xb bm14)), .unset] [(.int (1 : Int32)), (.int (((xa.toUInt32 >>> ((2 : Int32) &&& 31).toUInt32).toInt32) &&& (3 : Int32)))]))
    refine own_by (fun _ => XS.icmpNo X33.here hx rfl (hb hby at_141) rfl (teq hc38_11).2) ?_
    show own_Go p e below _ (T33.setTop (mkF m 144 #[.val (.int xa), .val (.int xb), .val (.int xc), .val (.int xd), .val (.int xe), .val (.int xf), .val (.int (xa &&& (3 : Int32))), .val (.int (((xa.toUInt32 >>> ((2 : Int32) &&& 31).toUInt32).toInt32) &&& (3 : Int32))), .val (.ref b1), .val (.int (own_g bm14 (0 : Int32))), .val (.int (own_g bm14 (1 : Int32))), .val (.int (own_g bm14 (2 : Int32))), .val (.int (own_g bm14 (3 : Int32))), .val (.ref b19), .val (.int (own_bound (xa &&& (3 : Int32)) xb bm14)), .unset] []))
    refine own_by (fun _ => XS.iconst X33.here hx rfl (hb hby at_144)) ?_
    show own_Go p e below _ (T33.setTop (mkF m 145 #[.val (.int xa), .val (.int xb), .val (.int xc), .val (.int xd), .val (.int xe), .val (.int xf), .val (.int (xa &&& (3 : Int32))), .val (.int (((xa.toUInt32 >>> ((2 : Int32) &&& 31).toUInt32).toInt32) &&& (3 : Int32))), .val (.ref b1), .val (.int (own_g bm14 (0 : Int32))), .val (.int (own_g bm14 (1 : Int32))), .val (.int (own_g bm14 (2 : Int32))), .val (.int (own_g bm14 (3 : Int32))), .val (.ref b19), .val (.int (own_bound (xa &&& (3 : Int32)) xb bm14)), .unset] [(.int (1 : Int32))]))
    refine own_by (fun _ => XS.istore X33.here hx rfl (hb hby at_145) rfl (l' := #[.val (.int xa), .val (.int xb), .val (.int xc), .val (.int xd), .val (.int xe), .val (.int xf), .val (.int (xa &&& (3 : Int32))), .val (.int (((xa.toUInt32 >>> ((2 : Int32) &&& 31).toUInt32).toInt32) &&& (3 : Int32))), .val (.ref b1), .val (.int (own_g bm14 (0 : Int32))), .val (.int (own_g bm14 (1 : Int32))), .val (.int (own_g bm14 (2 : Int32))), .val (.int (own_g bm14 (3 : Int32))), .val (.ref b19), .val (.int (own_bound (xa &&& (3 : Int32)) xb bm14)), .val (.int (1 : Int32))]) rfl) ?_
    show own_Go p e below _ (T33.setTop (mkF m 147 #[.val (.int xa), .val (.int xb), .val (.int xc), .val (.int xd), .val (.int xe), .val (.int xf), .val (.int (xa &&& (3 : Int32))), .val (.int (((xa.toUInt32 >>> ((2 : Int32) &&& 31).toUInt32).toInt32) &&& (3 : Int32))), .val (.ref b1), .val (.int (own_g bm14 (0 : Int32))), .val (.int (own_g bm14 (1 : Int32))), .val (.int (own_g bm14 (2 : Int32))), .val (.int (own_g bm14 (3 : Int32))), .val (.ref b19), .val (.int (own_bound (xa &&& (3 : Int32)) xb bm14)), .val (.int (1 : Int32))] []))
    refine own_by (fun _ => XS.goto X33.here hx rfl (pc0 := 147) (pc' := 184) rfl (hb hby at_147) (by decide) (by decide)) ?_
    show own_Go p e below _ (T33.setTop (mkF m 184 #[.val (.int xa), .val (.int xb), .val (.int xc), .val (.int xd), .val (.int xe), .val (.int xf), .val (.int (xa &&& (3 : Int32))), .val (.int (((xa.toUInt32 >>> ((2 : Int32) &&& 31).toUInt32).toInt32) &&& (3 : Int32))), .val (.ref b1), .val (.int (own_g bm14 (0 : Int32))), .val (.int (own_g bm14 (1 : Int32))), .val (.int (own_g bm14 (2 : Int32))), .val (.int (own_g bm14 (3 : Int32))), .val (.ref b19), .val (.int (own_bound (xa &&& (3 : Int32)) xb bm14)), .val (.int (1 : Int32))] []))
    refine own_by (fun _ => XS.iload X33.here hx rfl (hb hby at_184) rfl) ?_
    show own_Go p e below _ (T33.setTop (mkF m 186 #[.val (.int xa), .val (.int xb), .val (.int xc), .val (.int xd), .val (.int xe), .val (.int xf), .val (.int (xa &&& (3 : Int32))), .val (.int (((xa.toUInt32 >>> ((2 : Int32) &&& 31).toUInt32).toInt32) &&& (3 : Int32))), .val (.ref b1), .val (.int (own_g bm14 (0 : Int32))), .val (.int (own_g bm14 (1 : Int32))), .val (.int (own_g bm14 (2 : Int32))), .val (.int (own_g bm14 (3 : Int32))), .val (.ref b19), .val (.int (own_bound (xa &&& (3 : Int32)) xb bm14)), .val (.int (1 : Int32))] [(.int (own_bound (xa &&& (3 : Int32)) xb bm14))]))
    refine own_by (fun _ => XS.iload X33.here hx rfl (hb hby at_186) rfl) ?_
    show own_Go p e below _ (T33.setTop (mkF m 188 #[.val (.int xa), .val (.int xb), .val (.int xc), .val (.int xd), .val (.int xe), .val (.int xf), .val (.int (xa &&& (3 : Int32))), .val (.int (((xa.toUInt32 >>> ((2 : Int32) &&& 31).toUInt32).toInt32) &&& (3 : Int32))), .val (.ref b1), .val (.int (own_g bm14 (0 : Int32))), .val (.int (own_g bm14 (1 : Int32))), .val (.int (own_g bm14 (2 : Int32))), .val (.int (own_g bm14 (3 : Int32))), .val (.ref b19), .val (.int (own_bound (xa &&& (3 : Int32)) xb bm14)), .val (.int (1 : Int32))] [(.int (1 : Int32)), (.int (own_bound (xa &&& (3 : Int32)) xb bm14))]))
    suffices J35 : ∀ (T' : State) (v35_t0 : Int32), v35_t0 = (if (own_bound (xa &&& (3 : Int32)) xb bm14) = (1 : Int32) then (1 : Int32) else (0 : Int32)) → own_At p l e room_1 (s.setVm T20.vm) m #[(.int xa), (.int xb), (.int xc), (.int xd), (.int xe), (.int xf)] below meth c n0 T' T31.heap 5 17 → own_Go p e below (own_EndW s below (own_Q0 Z xa xb xc xd xe xf h0 n0) room_1.cells room_1.slots) (T'.setTop (mkF m 232 #[.val (.int xa), .val (.int xb), .val (.int xc), .val (.int xd), .val (.int xe), .val (.int xf), .val (.int (xa &&& (3 : Int32))), .val (.int (((xa.toUInt32 >>> ((2 : Int32) &&& 31).toUInt32).toInt32) &&& (3 : Int32))), .val (.ref b1), .val (.int (own_g bm14 (0 : Int32))), .val (.int (own_g bm14 (1 : Int32))), .val (.int (own_g bm14 (2 : Int32))), .val (.int (own_g bm14 (3 : Int32))), .val (.ref b19), .val (.int (own_bound (xa &&& (3 : Int32)) xb bm14)), .val (.int (1 : Int32))] [(.int v35_t0)])) by
      by_cases hc188_36 : (own_bound (xa &&& (3 : Int32)) xb bm14) = (1 : Int32)
      ·
        skip
        refine own_by (fun _ => XS.icmpNo X33.here hx rfl (hb hby at_188) rfl (teq hc188_36).2) ?_
        show own_Go p e below _ (T33.setTop (mkF m 191 #[.val (.int xa), .val (.int xb), .val (.int xc), .val (.int xd), .val (.int xe), .val (.int xf), .val (.int (xa &&& (3 : Int32))), .val (.int (((xa.toUInt32 >>> ((2 : Int32) &&& 31).toUInt32).toInt32) &&& (3 : Int32))), .val (.ref b1), .val (.int (own_g bm14 (0 : Int32))), .val (.int (own_g bm14 (1 : Int32))), .val (.int (own_g bm14 (2 : Int32))), .val (.int (own_g bm14 (3 : Int32))), .val (.ref b19), .val (.int (own_bound (xa &&& (3 : Int32)) xb bm14)), .val (.int (1 : Int32))] []))
        refine own_by (fun _ => XS.aload X33.here hx rfl (hb hby at_191) rfl rfl) ?_
        show own_Go p e below _ (T33.setTop (mkF m 193 #[.val (.int xa), .val (.int xb), .val (.int xc), .val (.int xd), .val (.int xe), .val (.int xf), .val (.int (xa &&& (3 : Int32))), .val (.int (((xa.toUInt32 >>> ((2 : Int32) &&& 31).toUInt32).toInt32) &&& (3 : Int32))), .val (.ref b1), .val (.int (own_g bm14 (0 : Int32))), .val (.int (own_g bm14 (1 : Int32))), .val (.int (own_g bm14 (2 : Int32))), .val (.int (own_g bm14 (3 : Int32))), .val (.ref b19), .val (.int (own_bound (xa &&& (3 : Int32)) xb bm14)), .val (.int (1 : Int32))] [(.ref b1)]))
        refine own_by (fun _ => XS.iconst X33.here hx rfl (hb hby at_193)) ?_
        show own_Go p e below _ (T33.setTop (mkF m 194 #[.val (.int xa), .val (.int xb), .val (.int xc), .val (.int xd), .val (.int xe), .val (.int xf), .val (.int (xa &&& (3 : Int32))), .val (.int (((xa.toUInt32 >>> ((2 : Int32) &&& 31).toUInt32).toInt32) &&& (3 : Int32))), .val (.ref b1), .val (.int (own_g bm14 (0 : Int32))), .val (.int (own_g bm14 (1 : Int32))), .val (.int (own_g bm14 (2 : Int32))), .val (.int (own_g bm14 (3 : Int32))), .val (.ref b19), .val (.int (own_bound (xa &&& (3 : Int32)) xb bm14)), .val (.int (1 : Int32))] [(.int (0 : Int32)), (.ref b1)]))
        obtain ⟨cl37, ar37, q37, sz37, nn37, hs37, gs37⟩ := id f32
        have hin37 : ¬ ((0 : Int32) < 0 ∨ cl37.slots.size ≤ ((0 : Int32)).toNatClampNeg) := inb_of sz37 ⟨by decide, by decide⟩
        refine own_by (X33.iaload hx (j := (0 : Int32)) (v := (.int (own_g bm14 (0 : Int32)))) (by rw [e33]; exact ar37.1) (State.isArrayOf_alike hZ.alike ar37.2.1) ar37.2.2 hin37 (hs37.at hin37 (own_g_eq bm14 (0 : Int32))) (g := (mkF m 194 #[.val (.int xa), .val (.int xb), .val (.int xc), .val (.int xd), .val (.int xe), .val (.int xf), .val (.int (xa &&& (3 : Int32))), .val (.int (((xa.toUInt32 >>> ((2 : Int32) &&& 31).toUInt32).toInt32) &&& (3 : Int32))), .val (.ref b1), .val (.int (own_g bm14 (0 : Int32))), .val (.int (own_g bm14 (1 : Int32))), .val (.int (own_g bm14 (2 : Int32))), .val (.int (own_g bm14 (3 : Int32))), .val (.ref b19), .val (.int (own_bound (xa &&& (3 : Int32)) xb bm14)), .val (.int (1 : Int32))] [(.int (0 : Int32)), (.ref b1)])) rfl rfl (hb hby at_194)) ?_
        show own_Go p e below _ (T33.setTop (mkF m 195 #[.val (.int xa), .val (.int xb), .val (.int xc), .val (.int xd), .val (.int xe), .val (.int xf), .val (.int (xa &&& (3 : Int32))), .val (.int (((xa.toUInt32 >>> ((2 : Int32) &&& 31).toUInt32).toInt32) &&& (3 : Int32))), .val (.ref b1), .val (.int (own_g bm14 (0 : Int32))), .val (.int (own_g bm14 (1 : Int32))), .val (.int (own_g bm14 (2 : Int32))), .val (.int (own_g bm14 (3 : Int32))), .val (.ref b19), .val (.int (own_bound (xa &&& (3 : Int32)) xb bm14)), .val (.int (1 : Int32))] [(.int (own_g bm14 (0 : Int32)))]))
        refine own_by (fun _ => XS.iload X33.here hx rfl (hb hby at_195) rfl) ?_
        show own_Go p e below _ (T33.setTop (mkF m 197 #[.val (.int xa), .val (.int xb), .val (.int xc), .val (.int xd), .val (.int xe), .val (.int xf), .val (.int (xa &&& (3 : Int32))), .val (.int (((xa.toUInt32 >>> ((2 : Int32) &&& 31).toUInt32).toInt32) &&& (3 : Int32))), .val (.ref b1), .val (.int (own_g bm14 (0 : Int32))), .val (.int (own_g bm14 (1 : Int32))), .val (.int (own_g bm14 (2 : Int32))), .val (.int (own_g bm14 (3 : Int32))), .val (.ref b19), .val (.int (own_bound (xa &&& (3 : Int32)) xb bm14)), .val (.int (1 : Int32))] [(.int (own_g bm14 (0 : Int32))), (.int (own_g bm14 (0 : Int32)))]))
        refine own_by (fun _ => XS.icmpNo X33.here hx rfl (hb hby at_197) rfl (teq (rfl : (own_g bm14 (0 : Int32)) = (own_g bm14 (0 : Int32)))).2) ?_
        show own_Go p e below _ (T33.setTop (mkF m 200 #[.val (.int xa), .val (.int xb), .val (.int xc), .val (.int xd), .val (.int xe), .val (.int xf), .val (.int (xa &&& (3 : Int32))), .val (.int (((xa.toUInt32 >>> ((2 : Int32) &&& 31).toUInt32).toInt32) &&& (3 : Int32))), .val (.ref b1), .val (.int (own_g bm14 (0 : Int32))), .val (.int (own_g bm14 (1 : Int32))), .val (.int (own_g bm14 (2 : Int32))), .val (.int (own_g bm14 (3 : Int32))), .val (.ref b19), .val (.int (own_bound (xa &&& (3 : Int32)) xb bm14)), .val (.int (1 : Int32))] []))
        refine own_by (fun _ => XS.aload X33.here hx rfl (hb hby at_200) rfl rfl) ?_
        show own_Go p e below _ (T33.setTop (mkF m 202 #[.val (.int xa), .val (.int xb), .val (.int xc), .val (.int xd), .val (.int xe), .val (.int xf), .val (.int (xa &&& (3 : Int32))), .val (.int (((xa.toUInt32 >>> ((2 : Int32) &&& 31).toUInt32).toInt32) &&& (3 : Int32))), .val (.ref b1), .val (.int (own_g bm14 (0 : Int32))), .val (.int (own_g bm14 (1 : Int32))), .val (.int (own_g bm14 (2 : Int32))), .val (.int (own_g bm14 (3 : Int32))), .val (.ref b19), .val (.int (own_bound (xa &&& (3 : Int32)) xb bm14)), .val (.int (1 : Int32))] [(.ref b1)]))
        refine own_by (fun _ => XS.iconst X33.here hx rfl (hb hby at_202)) ?_
        show own_Go p e below _ (T33.setTop (mkF m 203 #[.val (.int xa), .val (.int xb), .val (.int xc), .val (.int xd), .val (.int xe), .val (.int xf), .val (.int (xa &&& (3 : Int32))), .val (.int (((xa.toUInt32 >>> ((2 : Int32) &&& 31).toUInt32).toInt32) &&& (3 : Int32))), .val (.ref b1), .val (.int (own_g bm14 (0 : Int32))), .val (.int (own_g bm14 (1 : Int32))), .val (.int (own_g bm14 (2 : Int32))), .val (.int (own_g bm14 (3 : Int32))), .val (.ref b19), .val (.int (own_bound (xa &&& (3 : Int32)) xb bm14)), .val (.int (1 : Int32))] [(.int (1 : Int32)), (.ref b1)]))
        obtain ⟨cl38, ar38, q38, sz38, nn38, hs38, gs38⟩ := id f32
        have hin38 : ¬ ((1 : Int32) < 0 ∨ cl38.slots.size ≤ ((1 : Int32)).toNatClampNeg) := inb_of sz38 ⟨by decide, by decide⟩
        refine own_by (X33.iaload hx (j := (1 : Int32)) (v := (.int (own_g bm14 (1 : Int32)))) (by rw [e33]; exact ar38.1) (State.isArrayOf_alike hZ.alike ar38.2.1) ar38.2.2 hin38 (hs38.at hin38 (own_g_eq bm14 (1 : Int32))) (g := (mkF m 203 #[.val (.int xa), .val (.int xb), .val (.int xc), .val (.int xd), .val (.int xe), .val (.int xf), .val (.int (xa &&& (3 : Int32))), .val (.int (((xa.toUInt32 >>> ((2 : Int32) &&& 31).toUInt32).toInt32) &&& (3 : Int32))), .val (.ref b1), .val (.int (own_g bm14 (0 : Int32))), .val (.int (own_g bm14 (1 : Int32))), .val (.int (own_g bm14 (2 : Int32))), .val (.int (own_g bm14 (3 : Int32))), .val (.ref b19), .val (.int (own_bound (xa &&& (3 : Int32)) xb bm14)), .val (.int (1 : Int32))] [(.int (1 : Int32)), (.ref b1)])) rfl rfl (hb hby at_203)) ?_
        show own_Go p e below _ (T33.setTop (mkF m 204 #[.val (.int xa), .val (.int xb), .val (.int xc), .val (.int xd), .val (.int xe), .val (.int xf), .val (.int (xa &&& (3 : Int32))), .val (.int (((xa.toUInt32 >>> ((2 : Int32) &&& 31).toUInt32).toInt32) &&& (3 : Int32))), .val (.ref b1), .val (.int (own_g bm14 (0 : Int32))), .val (.int (own_g bm14 (1 : Int32))), .val (.int (own_g bm14 (2 : Int32))), .val (.int (own_g bm14 (3 : Int32))), .val (.ref b19), .val (.int (own_bound (xa &&& (3 : Int32)) xb bm14)), .val (.int (1 : Int32))] [(.int (own_g bm14 (1 : Int32)))]))
        refine own_by (fun _ => XS.iload X33.here hx rfl (hb hby at_204) rfl) ?_
        show own_Go p e below _ (T33.setTop (mkF m 206 #[.val (.int xa), .val (.int xb), .val (.int xc), .val (.int xd), .val (.int xe), .val (.int xf), .val (.int (xa &&& (3 : Int32))), .val (.int (((xa.toUInt32 >>> ((2 : Int32) &&& 31).toUInt32).toInt32) &&& (3 : Int32))), .val (.ref b1), .val (.int (own_g bm14 (0 : Int32))), .val (.int (own_g bm14 (1 : Int32))), .val (.int (own_g bm14 (2 : Int32))), .val (.int (own_g bm14 (3 : Int32))), .val (.ref b19), .val (.int (own_bound (xa &&& (3 : Int32)) xb bm14)), .val (.int (1 : Int32))] [(.int (own_g bm14 (1 : Int32))), (.int (own_g bm14 (1 : Int32)))]))
        refine own_by (fun _ => XS.icmpNo X33.here hx rfl (hb hby at_206) rfl (teq (rfl : (own_g bm14 (1 : Int32)) = (own_g bm14 (1 : Int32)))).2) ?_
        show own_Go p e below _ (T33.setTop (mkF m 209 #[.val (.int xa), .val (.int xb), .val (.int xc), .val (.int xd), .val (.int xe), .val (.int xf), .val (.int (xa &&& (3 : Int32))), .val (.int (((xa.toUInt32 >>> ((2 : Int32) &&& 31).toUInt32).toInt32) &&& (3 : Int32))), .val (.ref b1), .val (.int (own_g bm14 (0 : Int32))), .val (.int (own_g bm14 (1 : Int32))), .val (.int (own_g bm14 (2 : Int32))), .val (.int (own_g bm14 (3 : Int32))), .val (.ref b19), .val (.int (own_bound (xa &&& (3 : Int32)) xb bm14)), .val (.int (1 : Int32))] []))
        refine own_by (fun _ => XS.aload X33.here hx rfl (hb hby at_209) rfl rfl) ?_
        show own_Go p e below _ (T33.setTop (mkF m 211 #[.val (.int xa), .val (.int xb), .val (.int xc), .val (.int xd), .val (.int xe), .val (.int xf), .val (.int (xa &&& (3 : Int32))), .val (.int (((xa.toUInt32 >>> ((2 : Int32) &&& 31).toUInt32).toInt32) &&& (3 : Int32))), .val (.ref b1), .val (.int (own_g bm14 (0 : Int32))), .val (.int (own_g bm14 (1 : Int32))), .val (.int (own_g bm14 (2 : Int32))), .val (.int (own_g bm14 (3 : Int32))), .val (.ref b19), .val (.int (own_bound (xa &&& (3 : Int32)) xb bm14)), .val (.int (1 : Int32))] [(.ref b1)]))
        refine own_by (fun _ => XS.iconst X33.here hx rfl (hb hby at_211)) ?_
        show own_Go p e below _ (T33.setTop (mkF m 212 #[.val (.int xa), .val (.int xb), .val (.int xc), .val (.int xd), .val (.int xe), .val (.int xf), .val (.int (xa &&& (3 : Int32))), .val (.int (((xa.toUInt32 >>> ((2 : Int32) &&& 31).toUInt32).toInt32) &&& (3 : Int32))), .val (.ref b1), .val (.int (own_g bm14 (0 : Int32))), .val (.int (own_g bm14 (1 : Int32))), .val (.int (own_g bm14 (2 : Int32))), .val (.int (own_g bm14 (3 : Int32))), .val (.ref b19), .val (.int (own_bound (xa &&& (3 : Int32)) xb bm14)), .val (.int (1 : Int32))] [(.int (2 : Int32)), (.ref b1)]))
        obtain ⟨cl39, ar39, q39, sz39, nn39, hs39, gs39⟩ := id f32
        have hin39 : ¬ ((2 : Int32) < 0 ∨ cl39.slots.size ≤ ((2 : Int32)).toNatClampNeg) := inb_of sz39 ⟨by decide, by decide⟩
        refine own_by (X33.iaload hx (j := (2 : Int32)) (v := (.int (own_g bm14 (2 : Int32)))) (by rw [e33]; exact ar39.1) (State.isArrayOf_alike hZ.alike ar39.2.1) ar39.2.2 hin39 (hs39.at hin39 (own_g_eq bm14 (2 : Int32))) (g := (mkF m 212 #[.val (.int xa), .val (.int xb), .val (.int xc), .val (.int xd), .val (.int xe), .val (.int xf), .val (.int (xa &&& (3 : Int32))), .val (.int (((xa.toUInt32 >>> ((2 : Int32) &&& 31).toUInt32).toInt32) &&& (3 : Int32))), .val (.ref b1), .val (.int (own_g bm14 (0 : Int32))), .val (.int (own_g bm14 (1 : Int32))), .val (.int (own_g bm14 (2 : Int32))), .val (.int (own_g bm14 (3 : Int32))), .val (.ref b19), .val (.int (own_bound (xa &&& (3 : Int32)) xb bm14)), .val (.int (1 : Int32))] [(.int (2 : Int32)), (.ref b1)])) rfl rfl (hb hby at_212)) ?_
        show own_Go p e below _ (T33.setTop (mkF m 213 #[.val (.int xa), .val (.int xb), .val (.int xc), .val (.int xd), .val (.int xe), .val (.int xf), .val (.int (xa &&& (3 : Int32))), .val (.int (((xa.toUInt32 >>> ((2 : Int32) &&& 31).toUInt32).toInt32) &&& (3 : Int32))), .val (.ref b1), .val (.int (own_g bm14 (0 : Int32))), .val (.int (own_g bm14 (1 : Int32))), .val (.int (own_g bm14 (2 : Int32))), .val (.int (own_g bm14 (3 : Int32))), .val (.ref b19), .val (.int (own_bound (xa &&& (3 : Int32)) xb bm14)), .val (.int (1 : Int32))] [(.int (own_g bm14 (2 : Int32)))]))
        refine own_by (fun _ => XS.iload X33.here hx rfl (hb hby at_213) rfl) ?_
        show own_Go p e below _ (T33.setTop (mkF m 215 #[.val (.int xa), .val (.int xb), .val (.int xc), .val (.int xd), .val (.int xe), .val (.int xf), .val (.int (xa &&& (3 : Int32))), .val (.int (((xa.toUInt32 >>> ((2 : Int32) &&& 31).toUInt32).toInt32) &&& (3 : Int32))), .val (.ref b1), .val (.int (own_g bm14 (0 : Int32))), .val (.int (own_g bm14 (1 : Int32))), .val (.int (own_g bm14 (2 : Int32))), .val (.int (own_g bm14 (3 : Int32))), .val (.ref b19), .val (.int (own_bound (xa &&& (3 : Int32)) xb bm14)), .val (.int (1 : Int32))] [(.int (own_g bm14 (2 : Int32))), (.int (own_g bm14 (2 : Int32)))]))
        refine own_by (fun _ => XS.icmpNo X33.here hx rfl (hb hby at_215) rfl (teq (rfl : (own_g bm14 (2 : Int32)) = (own_g bm14 (2 : Int32)))).2) ?_
        show own_Go p e below _ (T33.setTop (mkF m 218 #[.val (.int xa), .val (.int xb), .val (.int xc), .val (.int xd), .val (.int xe), .val (.int xf), .val (.int (xa &&& (3 : Int32))), .val (.int (((xa.toUInt32 >>> ((2 : Int32) &&& 31).toUInt32).toInt32) &&& (3 : Int32))), .val (.ref b1), .val (.int (own_g bm14 (0 : Int32))), .val (.int (own_g bm14 (1 : Int32))), .val (.int (own_g bm14 (2 : Int32))), .val (.int (own_g bm14 (3 : Int32))), .val (.ref b19), .val (.int (own_bound (xa &&& (3 : Int32)) xb bm14)), .val (.int (1 : Int32))] []))
        refine own_by (fun _ => XS.aload X33.here hx rfl (hb hby at_218) rfl rfl) ?_
        show own_Go p e below _ (T33.setTop (mkF m 220 #[.val (.int xa), .val (.int xb), .val (.int xc), .val (.int xd), .val (.int xe), .val (.int xf), .val (.int (xa &&& (3 : Int32))), .val (.int (((xa.toUInt32 >>> ((2 : Int32) &&& 31).toUInt32).toInt32) &&& (3 : Int32))), .val (.ref b1), .val (.int (own_g bm14 (0 : Int32))), .val (.int (own_g bm14 (1 : Int32))), .val (.int (own_g bm14 (2 : Int32))), .val (.int (own_g bm14 (3 : Int32))), .val (.ref b19), .val (.int (own_bound (xa &&& (3 : Int32)) xb bm14)), .val (.int (1 : Int32))] [(.ref b1)]))
        refine own_by (fun _ => XS.iconst X33.here hx rfl (hb hby at_220)) ?_
        show own_Go p e below _ (T33.setTop (mkF m 221 #[.val (.int xa), .val (.int xb), .val (.int xc), .val (.int xd), .val (.int xe), .val (.int xf), .val (.int (xa &&& (3 : Int32))), .val (.int (((xa.toUInt32 >>> ((2 : Int32) &&& 31).toUInt32).toInt32) &&& (3 : Int32))), .val (.ref b1), .val (.int (own_g bm14 (0 : Int32))), .val (.int (own_g bm14 (1 : Int32))), .val (.int (own_g bm14 (2 : Int32))), .val (.int (own_g bm14 (3 : Int32))), .val (.ref b19), .val (.int (own_bound (xa &&& (3 : Int32)) xb bm14)), .val (.int (1 : Int32))] [(.int (3 : Int32)), (.ref b1)]))
        obtain ⟨cl40, ar40, q40, sz40, nn40, hs40, gs40⟩ := id f32
        have hin40 : ¬ ((3 : Int32) < 0 ∨ cl40.slots.size ≤ ((3 : Int32)).toNatClampNeg) := inb_of sz40 ⟨by decide, by decide⟩
        refine own_by (X33.iaload hx (j := (3 : Int32)) (v := (.int (own_g bm14 (3 : Int32)))) (by rw [e33]; exact ar40.1) (State.isArrayOf_alike hZ.alike ar40.2.1) ar40.2.2 hin40 (hs40.at hin40 (own_g_eq bm14 (3 : Int32))) (g := (mkF m 221 #[.val (.int xa), .val (.int xb), .val (.int xc), .val (.int xd), .val (.int xe), .val (.int xf), .val (.int (xa &&& (3 : Int32))), .val (.int (((xa.toUInt32 >>> ((2 : Int32) &&& 31).toUInt32).toInt32) &&& (3 : Int32))), .val (.ref b1), .val (.int (own_g bm14 (0 : Int32))), .val (.int (own_g bm14 (1 : Int32))), .val (.int (own_g bm14 (2 : Int32))), .val (.int (own_g bm14 (3 : Int32))), .val (.ref b19), .val (.int (own_bound (xa &&& (3 : Int32)) xb bm14)), .val (.int (1 : Int32))] [(.int (3 : Int32)), (.ref b1)])) rfl rfl (hb hby at_221)) ?_
        show own_Go p e below _ (T33.setTop (mkF m 222 #[.val (.int xa), .val (.int xb), .val (.int xc), .val (.int xd), .val (.int xe), .val (.int xf), .val (.int (xa &&& (3 : Int32))), .val (.int (((xa.toUInt32 >>> ((2 : Int32) &&& 31).toUInt32).toInt32) &&& (3 : Int32))), .val (.ref b1), .val (.int (own_g bm14 (0 : Int32))), .val (.int (own_g bm14 (1 : Int32))), .val (.int (own_g bm14 (2 : Int32))), .val (.int (own_g bm14 (3 : Int32))), .val (.ref b19), .val (.int (own_bound (xa &&& (3 : Int32)) xb bm14)), .val (.int (1 : Int32))] [(.int (own_g bm14 (3 : Int32)))]))
        refine own_by (fun _ => XS.iload X33.here hx rfl (hb hby at_222) rfl) ?_
        show own_Go p e below _ (T33.setTop (mkF m 224 #[.val (.int xa), .val (.int xb), .val (.int xc), .val (.int xd), .val (.int xe), .val (.int xf), .val (.int (xa &&& (3 : Int32))), .val (.int (((xa.toUInt32 >>> ((2 : Int32) &&& 31).toUInt32).toInt32) &&& (3 : Int32))), .val (.ref b1), .val (.int (own_g bm14 (0 : Int32))), .val (.int (own_g bm14 (1 : Int32))), .val (.int (own_g bm14 (2 : Int32))), .val (.int (own_g bm14 (3 : Int32))), .val (.ref b19), .val (.int (own_bound (xa &&& (3 : Int32)) xb bm14)), .val (.int (1 : Int32))] [(.int (own_g bm14 (3 : Int32))), (.int (own_g bm14 (3 : Int32)))]))
        refine own_by (fun _ => XS.icmpNo X33.here hx rfl (hb hby at_224) rfl (teq (rfl : (own_g bm14 (3 : Int32)) = (own_g bm14 (3 : Int32)))).2) ?_
        show own_Go p e below _ (T33.setTop (mkF m 227 #[.val (.int xa), .val (.int xb), .val (.int xc), .val (.int xd), .val (.int xe), .val (.int xf), .val (.int (xa &&& (3 : Int32))), .val (.int (((xa.toUInt32 >>> ((2 : Int32) &&& 31).toUInt32).toInt32) &&& (3 : Int32))), .val (.ref b1), .val (.int (own_g bm14 (0 : Int32))), .val (.int (own_g bm14 (1 : Int32))), .val (.int (own_g bm14 (2 : Int32))), .val (.int (own_g bm14 (3 : Int32))), .val (.ref b19), .val (.int (own_bound (xa &&& (3 : Int32)) xb bm14)), .val (.int (1 : Int32))] []))
        refine own_by (fun _ => XS.iconst X33.here hx rfl (hb hby at_227)) ?_
        show own_Go p e below _ (T33.setTop (mkF m 228 #[.val (.int xa), .val (.int xb), .val (.int xc), .val (.int xd), .val (.int xe), .val (.int xf), .val (.int (xa &&& (3 : Int32))), .val (.int (((xa.toUInt32 >>> ((2 : Int32) &&& 31).toUInt32).toInt32) &&& (3 : Int32))), .val (.ref b1), .val (.int (own_g bm14 (0 : Int32))), .val (.int (own_g bm14 (1 : Int32))), .val (.int (own_g bm14 (2 : Int32))), .val (.int (own_g bm14 (3 : Int32))), .val (.ref b19), .val (.int (own_bound (xa &&& (3 : Int32)) xb bm14)), .val (.int (1 : Int32))] [(.int (1 : Int32))]))
        refine own_by (fun _ => XS.goto X33.here hx rfl (pc0 := 228) (pc' := 232) rfl (hb hby at_228) (by decide) (by decide)) ?_
        show own_Go p e below _ (T33.setTop (mkF m 232 #[.val (.int xa), .val (.int xb), .val (.int xc), .val (.int xd), .val (.int xe), .val (.int xf), .val (.int (xa &&& (3 : Int32))), .val (.int (((xa.toUInt32 >>> ((2 : Int32) &&& 31).toUInt32).toInt32) &&& (3 : Int32))), .val (.ref b1), .val (.int (own_g bm14 (0 : Int32))), .val (.int (own_g bm14 (1 : Int32))), .val (.int (own_g bm14 (2 : Int32))), .val (.int (own_g bm14 (3 : Int32))), .val (.ref b19), .val (.int (own_bound (xa &&& (3 : Int32)) xb bm14)), .val (.int (1 : Int32))] [(.int (1 : Int32))]))
        exact J35 _ _ (by first | rfl | simp only [if_pos hc188_36]) ⟨_, X33, N33, e33⟩
      ·
        skip
        refine own_by (fun _ => XS.icmpYes X33.here hx rfl (pc0 := 188) (pc' := 231) rfl (hb hby at_188) rfl (feq hc188_36).2 (by decide) (by decide)) ?_
        show own_Go p e below _ (T33.setTop (mkF m 231 #[.val (.int xa), .val (.int xb), .val (.int xc), .val (.int xd), .val (.int xe), .val (.int xf), .val (.int (xa &&& (3 : Int32))), .val (.int (((xa.toUInt32 >>> ((2 : Int32) &&& 31).toUInt32).toInt32) &&& (3 : Int32))), .val (.ref b1), .val (.int (own_g bm14 (0 : Int32))), .val (.int (own_g bm14 (1 : Int32))), .val (.int (own_g bm14 (2 : Int32))), .val (.int (own_g bm14 (3 : Int32))), .val (.ref b19), .val (.int (own_bound (xa &&& (3 : Int32)) xb bm14)), .val (.int (1 : Int32))] []))
        refine own_by (fun _ => XS.iconst X33.here hx rfl (hb hby at_231)) ?_
        show own_Go p e below _ (T33.setTop (mkF m 232 #[.val (.int xa), .val (.int xb), .val (.int xc), .val (.int xd), .val (.int xe), .val (.int xf), .val (.int (xa &&& (3 : Int32))), .val (.int (((xa.toUInt32 >>> ((2 : Int32) &&& 31).toUInt32).toInt32) &&& (3 : Int32))), .val (.ref b1), .val (.int (own_g bm14 (0 : Int32))), .val (.int (own_g bm14 (1 : Int32))), .val (.int (own_g bm14 (2 : Int32))), .val (.int (own_g bm14 (3 : Int32))), .val (.ref b19), .val (.int (own_bound (xa &&& (3 : Int32)) xb bm14)), .val (.int (1 : Int32))] [(.int (0 : Int32))]))
        exact J35 _ _ (by first | rfl | simp only [if_neg hc188_36]) ⟨_, X33, N33, e33⟩
    intro T35 v35_t0 hv35_t0 ⟨locs35, X35, N35, e35⟩
    show own_Go p e below _ (T35.setTop (mkF m 232 #[.val (.int xa), .val (.int xb), .val (.int xc), .val (.int xd), .val (.int xe), .val (.int xf), .val (.int (xa &&& (3 : Int32))), .val (.int (((xa.toUInt32 >>> ((2 : Int32) &&& 31).toUInt32).toInt32) &&& (3 : Int32))), .val (.ref b1), .val (.int (own_g bm14 (0 : Int32))), .val (.int (own_g bm14 (1 : Int32))), .val (.int (own_g bm14 (2 : Int32))), .val (.int (own_g bm14 (3 : Int32))), .val (.ref b19), .val (.int (own_bound (xa &&& (3 : Int32)) xb bm14)), .val (.int (1 : Int32))] [(.int v35_t0)]))
    exact own_retZW X35 hx hlk hS20 hkk31 e35 (by rw [hv35_t0]; (repeat' split) <;> first | exact Or.inl rfl | exact Or.inr rfl) hret (hb hby at_232) (by decide) (by decide) ⟨(congrArg some (congrArg Value.int (by subst hv35_t0; subst hbm14; subst hbl10; have own_p := own_plain xa xb xc xd xe xf; simp only [own_law, if_pos hc38_11] at own_p; exact own_p : v35_t0 = (1 : Int32)))), N35⟩
  ·
    skip
    refine own_by (fun _ => XS.icmpYes X9.here hx rfl (pc0 := 38) (pc' := 50) rfl (hb hby at_38) rfl (feq hc38_11).2 (by decide) (by decide)) ?_
    show own_Go p e below _ (T9.setTop (mkF m 50 #[.val (.int xa), .val (.int xb), .val (.int xc), .val (.int xd), .val (.int xe), .val (.int xf), .val (.int (xa &&& (3 : Int32))), .val (.int (((xa.toUInt32 >>> ((2 : Int32) &&& 31).toUInt32).toInt32) &&& (3 : Int32))), .val (.ref b1), .unset, .unset, .unset, .unset, .unset, .unset, .unset] []))
    refine own_by (fun _ => XS.iload X9.here hx rfl (hb hby at_50) rfl) ?_
    show own_Go p e below _ (T9.setTop (mkF m 52 #[.val (.int xa), .val (.int xb), .val (.int xc), .val (.int xd), .val (.int xe), .val (.int xf), .val (.int (xa &&& (3 : Int32))), .val (.int (((xa.toUInt32 >>> ((2 : Int32) &&& 31).toUInt32).toInt32) &&& (3 : Int32))), .val (.ref b1), .unset, .unset, .unset, .unset, .unset, .unset, .unset] [(.int (((xa.toUInt32 >>> ((2 : Int32) &&& 31).toUInt32).toInt32) &&& (3 : Int32)))]))
    refine own_by (fun _ => XS.iconst X9.here hx rfl (hb hby at_52)) ?_
    show own_Go p e below _ (T9.setTop (mkF m 53 #[.val (.int xa), .val (.int xb), .val (.int xc), .val (.int xd), .val (.int xe), .val (.int xf), .val (.int (xa &&& (3 : Int32))), .val (.int (((xa.toUInt32 >>> ((2 : Int32) &&& 31).toUInt32).toInt32) &&& (3 : Int32))), .val (.ref b1), .unset, .unset, .unset, .unset, .unset, .unset, .unset] [(.int (2 : Int32)), (.int (((xa.toUInt32 >>> ((2 : Int32) &&& 31).toUInt32).toInt32) &&& (3 : Int32)))]))
    by_cases hc53_41 : (((xa.toUInt32 >>> ((2 : Int32) &&& 31).toUInt32).toInt32) &&& (3 : Int32)) = (2 : Int32)
    ·
      skip
      refine own_by (fun _ => XS.icmpNo X9.here hx rfl (hb hby at_53) rfl (teq hc53_41).2) ?_
      show own_Go p e below _ (T9.setTop (mkF m 56 #[.val (.int xa), .val (.int xb), .val (.int xc), .val (.int xd), .val (.int xe), .val (.int xf), .val (.int (xa &&& (3 : Int32))), .val (.int (((xa.toUInt32 >>> ((2 : Int32) &&& 31).toUInt32).toInt32) &&& (3 : Int32))), .val (.ref b1), .unset, .unset, .unset, .unset, .unset, .unset, .unset] []))
      refine own_by (fun _ => XS.aload X9.here hx rfl (hb hby at_56) rfl rfl) ?_
      show own_Go p e below _ (T9.setTop (mkF m 58 #[.val (.int xa), .val (.int xb), .val (.int xc), .val (.int xd), .val (.int xe), .val (.int xf), .val (.int (xa &&& (3 : Int32))), .val (.int (((xa.toUInt32 >>> ((2 : Int32) &&& 31).toUInt32).toInt32) &&& (3 : Int32))), .val (.ref b1), .unset, .unset, .unset, .unset, .unset, .unset, .unset] [(.ref b1)]))
      refine own_by (fun _ => XS.iconst X9.here hx rfl (hb hby at_58)) ?_
      show own_Go p e below _ (T9.setTop (mkF m 59 #[.val (.int xa), .val (.int xb), .val (.int xc), .val (.int xd), .val (.int xe), .val (.int xf), .val (.int (xa &&& (3 : Int32))), .val (.int (((xa.toUInt32 >>> ((2 : Int32) &&& 31).toUInt32).toInt32) &&& (3 : Int32))), .val (.ref b1), .unset, .unset, .unset, .unset, .unset, .unset, .unset] [(.int (0 : Int32)), (.ref b1)]))
      refine own_by (fun _ => XS.iloadN X9.here hx rfl (hb hby at_59) rfl) ?_
      show own_Go p e below _ (T9.setTop (mkF m 60 #[.val (.int xa), .val (.int xb), .val (.int xc), .val (.int xd), .val (.int xe), .val (.int xf), .val (.int (xa &&& (3 : Int32))), .val (.int (((xa.toUInt32 >>> ((2 : Int32) &&& 31).toUInt32).toInt32) &&& (3 : Int32))), .val (.ref b1), .unset, .unset, .unset, .unset, .unset, .unset, .unset] [(.int xb), (.int (0 : Int32)), (.ref b1)]))
      obtain ⟨cl42, ar42, q42, sz42, nn42, hs42, gs42⟩ := id fbl10
      have hin42 : ¬ ((0 : Int32) < 0 ∨ cl42.slots.size ≤ ((0 : Int32)).toNatClampNeg) := inb_of sz42 ⟨by decide, by decide⟩
      obtain ⟨T43, h43, X43, e43, W43, st43⟩ := stI X9 hx hZ e9 ar42 (j := (0 : Int32)) hin42 (g := (mkF m 60 #[.val (.int xa), .val (.int xb), .val (.int xc), .val (.int xd), .val (.int xe), .val (.int xf), .val (.int (xa &&& (3 : Int32))), .val (.int (((xa.toUInt32 >>> ((2 : Int32) &&& 31).toUInt32).toInt32) &&& (3 : Int32))), .val (.ref b1), .unset, .unset, .unset, .unset, .unset, .unset, .unset] [(.int xb), (.int (0 : Int32)), (.ref b1)])) rfl rfl (hb hby at_60)
      refine own_by st43 ?_
      have va43 : Arv Z h43 b1 k1 .int (4 : Int32) ((bl10.set ((0 : Int32)).toNatClampNeg xb).map Value.int) (.int (0 : Int32)) := by rw [own_map_set]; exact Arv.set ar42 q42 sz42 nn42 hs42 gs42 rfl W43 _ rfl (own_len4 ⟨by decide, by decide⟩ (by simp [lbl10]))
      have z43 : n0 ≤ h43.size := Nat.le_trans z9 (Keep.of_wr W43).1
      have N43 := Fr.snoc X43 N9 ge1
      show own_Go p e below _ (T43.setTop (mkF m 61 #[.val (.int xa), .val (.int xb), .val (.int xc), .val (.int xd), .val (.int xe), .val (.int xf), .val (.int (xa &&& (3 : Int32))), .val (.int (((xa.toUInt32 >>> ((2 : Int32) &&& 31).toUInt32).toInt32) &&& (3 : Int32))), .val (.ref b1), .unset, .unset, .unset, .unset, .unset, .unset, .unset] []))
      refine own_by (fun _ => XS.aload X43.here hx rfl (hb hby at_61) rfl rfl) ?_
      show own_Go p e below _ (T43.setTop (mkF m 63 #[.val (.int xa), .val (.int xb), .val (.int xc), .val (.int xd), .val (.int xe), .val (.int xf), .val (.int (xa &&& (3 : Int32))), .val (.int (((xa.toUInt32 >>> ((2 : Int32) &&& 31).toUInt32).toInt32) &&& (3 : Int32))), .val (.ref b1), .unset, .unset, .unset, .unset, .unset, .unset, .unset] [(.ref b1)]))
      refine own_by (fun _ => XS.iconst X43.here hx rfl (hb hby at_63)) ?_
      show own_Go p e below _ (T43.setTop (mkF m 64 #[.val (.int xa), .val (.int xb), .val (.int xc), .val (.int xd), .val (.int xe), .val (.int xf), .val (.int (xa &&& (3 : Int32))), .val (.int (((xa.toUInt32 >>> ((2 : Int32) &&& 31).toUInt32).toInt32) &&& (3 : Int32))), .val (.ref b1), .unset, .unset, .unset, .unset, .unset, .unset, .unset] [(.int (1 : Int32)), (.ref b1)]))
      refine own_by (fun _ => XS.iloadN X43.here hx rfl (hb hby at_64) rfl) ?_
      show own_Go p e below _ (T43.setTop (mkF m 65 #[.val (.int xa), .val (.int xb), .val (.int xc), .val (.int xd), .val (.int xe), .val (.int xf), .val (.int (xa &&& (3 : Int32))), .val (.int (((xa.toUInt32 >>> ((2 : Int32) &&& 31).toUInt32).toInt32) &&& (3 : Int32))), .val (.ref b1), .unset, .unset, .unset, .unset, .unset, .unset, .unset] [(.int xb), (.int (1 : Int32)), (.ref b1)]))
      obtain ⟨cl44, ar44, q44, sz44, nn44, hs44, gs44⟩ := id va43
      have hin44 : ¬ ((1 : Int32) < 0 ∨ cl44.slots.size ≤ ((1 : Int32)).toNatClampNeg) := inb_of sz44 ⟨by decide, by decide⟩
      obtain ⟨T45, h45, X45, e45, W45, st45⟩ := stI X43 hx hZ e43 ar44 (j := (1 : Int32)) hin44 (g := (mkF m 65 #[.val (.int xa), .val (.int xb), .val (.int xc), .val (.int xd), .val (.int xe), .val (.int xf), .val (.int (xa &&& (3 : Int32))), .val (.int (((xa.toUInt32 >>> ((2 : Int32) &&& 31).toUInt32).toInt32) &&& (3 : Int32))), .val (.ref b1), .unset, .unset, .unset, .unset, .unset, .unset, .unset] [(.int xb), (.int (1 : Int32)), (.ref b1)])) rfl rfl (hb hby at_65)
      refine own_by st45 ?_
      have va45 : Arv Z h45 b1 k1 .int (4 : Int32) (((bl10.set ((0 : Int32)).toNatClampNeg xb).set ((1 : Int32)).toNatClampNeg xb).map Value.int) (.int (0 : Int32)) := by rw [own_map_set]; exact Arv.set ar44 q44 sz44 nn44 hs44 gs44 rfl W45 _ rfl (own_len4 ⟨by decide, by decide⟩ (by simp [lbl10]))
      have z45 : n0 ≤ h45.size := Nat.le_trans z43 (Keep.of_wr W45).1
      have N45 := Fr.snoc X45 N43 ge1
      show own_Go p e below _ (T45.setTop (mkF m 66 #[.val (.int xa), .val (.int xb), .val (.int xc), .val (.int xd), .val (.int xe), .val (.int xf), .val (.int (xa &&& (3 : Int32))), .val (.int (((xa.toUInt32 >>> ((2 : Int32) &&& 31).toUInt32).toInt32) &&& (3 : Int32))), .val (.ref b1), .unset, .unset, .unset, .unset, .unset, .unset, .unset] []))
      refine own_by (fun _ => XS.aload X45.here hx rfl (hb hby at_66) rfl rfl) ?_
      show own_Go p e below _ (T45.setTop (mkF m 68 #[.val (.int xa), .val (.int xb), .val (.int xc), .val (.int xd), .val (.int xe), .val (.int xf), .val (.int (xa &&& (3 : Int32))), .val (.int (((xa.toUInt32 >>> ((2 : Int32) &&& 31).toUInt32).toInt32) &&& (3 : Int32))), .val (.ref b1), .unset, .unset, .unset, .unset, .unset, .unset, .unset] [(.ref b1)]))
      refine own_by (fun _ => XS.iconst X45.here hx rfl (hb hby at_68)) ?_
      show own_Go p e below _ (T45.setTop (mkF m 69 #[.val (.int xa), .val (.int xb), .val (.int xc), .val (.int xd), .val (.int xe), .val (.int xf), .val (.int (xa &&& (3 : Int32))), .val (.int (((xa.toUInt32 >>> ((2 : Int32) &&& 31).toUInt32).toInt32) &&& (3 : Int32))), .val (.ref b1), .unset, .unset, .unset, .unset, .unset, .unset, .unset] [(.int (2 : Int32)), (.ref b1)]))
      refine own_by (fun _ => XS.iloadN X45.here hx rfl (hb hby at_69) rfl) ?_
      show own_Go p e below _ (T45.setTop (mkF m 70 #[.val (.int xa), .val (.int xb), .val (.int xc), .val (.int xd), .val (.int xe), .val (.int xf), .val (.int (xa &&& (3 : Int32))), .val (.int (((xa.toUInt32 >>> ((2 : Int32) &&& 31).toUInt32).toInt32) &&& (3 : Int32))), .val (.ref b1), .unset, .unset, .unset, .unset, .unset, .unset, .unset] [(.int xb), (.int (2 : Int32)), (.ref b1)]))
      obtain ⟨cl46, ar46, q46, sz46, nn46, hs46, gs46⟩ := id va45
      have hin46 : ¬ ((2 : Int32) < 0 ∨ cl46.slots.size ≤ ((2 : Int32)).toNatClampNeg) := inb_of sz46 ⟨by decide, by decide⟩
      obtain ⟨T47, h47, X47, e47, W47, st47⟩ := stI X45 hx hZ e45 ar46 (j := (2 : Int32)) hin46 (g := (mkF m 70 #[.val (.int xa), .val (.int xb), .val (.int xc), .val (.int xd), .val (.int xe), .val (.int xf), .val (.int (xa &&& (3 : Int32))), .val (.int (((xa.toUInt32 >>> ((2 : Int32) &&& 31).toUInt32).toInt32) &&& (3 : Int32))), .val (.ref b1), .unset, .unset, .unset, .unset, .unset, .unset, .unset] [(.int xb), (.int (2 : Int32)), (.ref b1)])) rfl rfl (hb hby at_70)
      refine own_by st47 ?_
      have va47 : Arv Z h47 b1 k1 .int (4 : Int32) ((((bl10.set ((0 : Int32)).toNatClampNeg xb).set ((1 : Int32)).toNatClampNeg xb).set ((2 : Int32)).toNatClampNeg xb).map Value.int) (.int (0 : Int32)) := by rw [own_map_set]; exact Arv.set ar46 q46 sz46 nn46 hs46 gs46 rfl W47 _ rfl (own_len4 ⟨by decide, by decide⟩ (by simp [lbl10]))
      have z47 : n0 ≤ h47.size := Nat.le_trans z45 (Keep.of_wr W47).1
      have N47 := Fr.snoc X47 N45 ge1
      show own_Go p e below _ (T47.setTop (mkF m 71 #[.val (.int xa), .val (.int xb), .val (.int xc), .val (.int xd), .val (.int xe), .val (.int xf), .val (.int (xa &&& (3 : Int32))), .val (.int (((xa.toUInt32 >>> ((2 : Int32) &&& 31).toUInt32).toInt32) &&& (3 : Int32))), .val (.ref b1), .unset, .unset, .unset, .unset, .unset, .unset, .unset] []))
      refine own_by (fun _ => XS.aload X47.here hx rfl (hb hby at_71) rfl rfl) ?_
      show own_Go p e below _ (T47.setTop (mkF m 73 #[.val (.int xa), .val (.int xb), .val (.int xc), .val (.int xd), .val (.int xe), .val (.int xf), .val (.int (xa &&& (3 : Int32))), .val (.int (((xa.toUInt32 >>> ((2 : Int32) &&& 31).toUInt32).toInt32) &&& (3 : Int32))), .val (.ref b1), .unset, .unset, .unset, .unset, .unset, .unset, .unset] [(.ref b1)]))
      refine own_by (fun _ => XS.iconst X47.here hx rfl (hb hby at_73)) ?_
      show own_Go p e below _ (T47.setTop (mkF m 74 #[.val (.int xa), .val (.int xb), .val (.int xc), .val (.int xd), .val (.int xe), .val (.int xf), .val (.int (xa &&& (3 : Int32))), .val (.int (((xa.toUInt32 >>> ((2 : Int32) &&& 31).toUInt32).toInt32) &&& (3 : Int32))), .val (.ref b1), .unset, .unset, .unset, .unset, .unset, .unset, .unset] [(.int (3 : Int32)), (.ref b1)]))
      refine own_by (fun _ => XS.iloadN X47.here hx rfl (hb hby at_74) rfl) ?_
      show own_Go p e below _ (T47.setTop (mkF m 75 #[.val (.int xa), .val (.int xb), .val (.int xc), .val (.int xd), .val (.int xe), .val (.int xf), .val (.int (xa &&& (3 : Int32))), .val (.int (((xa.toUInt32 >>> ((2 : Int32) &&& 31).toUInt32).toInt32) &&& (3 : Int32))), .val (.ref b1), .unset, .unset, .unset, .unset, .unset, .unset, .unset] [(.int xb), (.int (3 : Int32)), (.ref b1)]))
      obtain ⟨cl48, ar48, q48, sz48, nn48, hs48, gs48⟩ := id va47
      have hin48 : ¬ ((3 : Int32) < 0 ∨ cl48.slots.size ≤ ((3 : Int32)).toNatClampNeg) := inb_of sz48 ⟨by decide, by decide⟩
      obtain ⟨T49, h49, X49, e49, W49, st49⟩ := stI X47 hx hZ e47 ar48 (j := (3 : Int32)) hin48 (g := (mkF m 75 #[.val (.int xa), .val (.int xb), .val (.int xc), .val (.int xd), .val (.int xe), .val (.int xf), .val (.int (xa &&& (3 : Int32))), .val (.int (((xa.toUInt32 >>> ((2 : Int32) &&& 31).toUInt32).toInt32) &&& (3 : Int32))), .val (.ref b1), .unset, .unset, .unset, .unset, .unset, .unset, .unset] [(.int xb), (.int (3 : Int32)), (.ref b1)])) rfl rfl (hb hby at_75)
      refine own_by st49 ?_
      have va49 : Arv Z h49 b1 k1 .int (4 : Int32) (((((bl10.set ((0 : Int32)).toNatClampNeg xb).set ((1 : Int32)).toNatClampNeg xb).set ((2 : Int32)).toNatClampNeg xb).set ((3 : Int32)).toNatClampNeg xb).map Value.int) (.int (0 : Int32)) := by rw [own_map_set]; exact Arv.set ar48 q48 sz48 nn48 hs48 gs48 rfl W49 _ rfl (own_len4 ⟨by decide, by decide⟩ (by simp [lbl10]))
      have z49 : n0 ≤ h49.size := Nat.le_trans z47 (Keep.of_wr W49).1
      have N49 := Fr.snoc X49 N47 ge1
      show own_Go p e below _ (T49.setTop (mkF m 76 #[.val (.int xa), .val (.int xb), .val (.int xc), .val (.int xd), .val (.int xe), .val (.int xf), .val (.int (xa &&& (3 : Int32))), .val (.int (((xa.toUInt32 >>> ((2 : Int32) &&& 31).toUInt32).toInt32) &&& (3 : Int32))), .val (.ref b1), .unset, .unset, .unset, .unset, .unset, .unset, .unset] []))
      refine own_by (fun _ => XS.aload X49.here hx rfl (hb hby at_76) rfl rfl) ?_
      show own_Go p e below _ (T49.setTop (mkF m 78 #[.val (.int xa), .val (.int xb), .val (.int xc), .val (.int xd), .val (.int xe), .val (.int xf), .val (.int (xa &&& (3 : Int32))), .val (.int (((xa.toUInt32 >>> ((2 : Int32) &&& 31).toUInt32).toInt32) &&& (3 : Int32))), .val (.ref b1), .unset, .unset, .unset, .unset, .unset, .unset, .unset] [(.ref b1)]))
      refine own_by (fun _ => XS.iload X49.here hx rfl (hb hby at_78) rfl) ?_
      show own_Go p e below _ (T49.setTop (mkF m 80 #[.val (.int xa), .val (.int xb), .val (.int xc), .val (.int xd), .val (.int xe), .val (.int xf), .val (.int (xa &&& (3 : Int32))), .val (.int (((xa.toUInt32 >>> ((2 : Int32) &&& 31).toUInt32).toInt32) &&& (3 : Int32))), .val (.ref b1), .unset, .unset, .unset, .unset, .unset, .unset, .unset] [(.int (xa &&& (3 : Int32))), (.ref b1)]))
      refine own_by (fun _ => XS.iloadN X49.here hx rfl (hb hby at_80) rfl) ?_
      show own_Go p e below _ (T49.setTop (mkF m 81 #[.val (.int xa), .val (.int xb), .val (.int xc), .val (.int xd), .val (.int xe), .val (.int xf), .val (.int (xa &&& (3 : Int32))), .val (.int (((xa.toUInt32 >>> ((2 : Int32) &&& 31).toUInt32).toInt32) &&& (3 : Int32))), .val (.ref b1), .unset, .unset, .unset, .unset, .unset, .unset, .unset] [(.int xb), (.int (xa &&& (3 : Int32))), (.ref b1)]))
      refine own_by (fun _ => XS.iconst X49.here hx rfl (hb hby at_81)) ?_
      show own_Go p e below _ (T49.setTop (mkF m 82 #[.val (.int xa), .val (.int xb), .val (.int xc), .val (.int xd), .val (.int xe), .val (.int xf), .val (.int (xa &&& (3 : Int32))), .val (.int (((xa.toUInt32 >>> ((2 : Int32) &&& 31).toUInt32).toInt32) &&& (3 : Int32))), .val (.ref b1), .unset, .unset, .unset, .unset, .unset, .unset, .unset] [(.int (1 : Int32)), (.int xb), (.int (xa &&& (3 : Int32))), (.ref b1)]))
      refine own_by (fun _ => XS.iadd X49.here hx rfl (hb hby at_82) rfl) ?_
      show own_Go p e below _ (T49.setTop (mkF m 83 #[.val (.int xa), .val (.int xb), .val (.int xc), .val (.int xd), .val (.int xe), .val (.int xf), .val (.int (xa &&& (3 : Int32))), .val (.int (((xa.toUInt32 >>> ((2 : Int32) &&& 31).toUInt32).toInt32) &&& (3 : Int32))), .val (.ref b1), .unset, .unset, .unset, .unset, .unset, .unset, .unset] [(.int (xb + (1 : Int32))), (.int (xa &&& (3 : Int32))), (.ref b1)]))
      obtain ⟨cl50, ar50, q50, sz50, nn50, hs50, gs50⟩ := id va49
      have hin50 : ¬ ((xa &&& (3 : Int32)) < 0 ∨ cl50.slots.size ≤ ((xa &&& (3 : Int32))).toNatClampNeg) := inb_of sz50 (own_tt xa)
      obtain ⟨T51, h51, X51, e51, W51, st51⟩ := stI X49 hx hZ e49 ar50 (j := (xa &&& (3 : Int32))) hin50 (g := (mkF m 83 #[.val (.int xa), .val (.int xb), .val (.int xc), .val (.int xd), .val (.int xe), .val (.int xf), .val (.int (xa &&& (3 : Int32))), .val (.int (((xa.toUInt32 >>> ((2 : Int32) &&& 31).toUInt32).toInt32) &&& (3 : Int32))), .val (.ref b1), .unset, .unset, .unset, .unset, .unset, .unset, .unset] [(.int (xb + (1 : Int32))), (.int (xa &&& (3 : Int32))), (.ref b1)])) rfl rfl (hb hby at_83)
      refine own_by st51 ?_
      have va51 : Arv Z h51 b1 k1 .int (4 : Int32) ((((((bl10.set ((0 : Int32)).toNatClampNeg xb).set ((1 : Int32)).toNatClampNeg xb).set ((2 : Int32)).toNatClampNeg xb).set ((3 : Int32)).toNatClampNeg xb).set ((xa &&& (3 : Int32))).toNatClampNeg (xb + (1 : Int32))).map Value.int) (.int (0 : Int32)) := by rw [own_map_set]; exact Arv.set ar50 q50 sz50 nn50 hs50 gs50 rfl W51 _ rfl (own_len4 (own_tt xa) (by simp [lbl10]))
      have z51 : n0 ≤ h51.size := Nat.le_trans z49 (Keep.of_wr W51).1
      have N51 := Fr.snoc X51 N49 ge1
      obtain ⟨bm52, hbm52⟩ : ∃ z : List Int32, z = (((((bl10.set ((0 : Int32)).toNatClampNeg xb).set ((1 : Int32)).toNatClampNeg xb).set ((2 : Int32)).toNatClampNeg xb).set ((3 : Int32)).toNatClampNeg xb).set ((xa &&& (3 : Int32))).toNatClampNeg (xb + (1 : Int32))) := ⟨_, rfl⟩
      have fbm52 : Arv Z h51 b1 k1 .int (4 : Int32) (bm52.map Value.int) (.int (0 : Int32)) := by rw [hbm52]; exact va51
      have lbm52 : bm52.length = 4 := by rw [hbm52]; simp [lbl10]
      show own_Go p e below _ (T51.setTop (mkF m 84 #[.val (.int xa), .val (.int xb), .val (.int xc), .val (.int xd), .val (.int xe), .val (.int xf), .val (.int (xa &&& (3 : Int32))), .val (.int (((xa.toUInt32 >>> ((2 : Int32) &&& 31).toUInt32).toInt32) &&& (3 : Int32))), .val (.ref b1), .unset, .unset, .unset, .unset, .unset, .unset, .unset] []))
      refine own_by (fun _ => XS.aload X51.here hx rfl (hb hby at_84) rfl rfl) ?_
      show own_Go p e below _ (T51.setTop (mkF m 86 #[.val (.int xa), .val (.int xb), .val (.int xc), .val (.int xd), .val (.int xe), .val (.int xf), .val (.int (xa &&& (3 : Int32))), .val (.int (((xa.toUInt32 >>> ((2 : Int32) &&& 31).toUInt32).toInt32) &&& (3 : Int32))), .val (.ref b1), .unset, .unset, .unset, .unset, .unset, .unset, .unset] [(.ref b1)]))
      refine own_by (fun _ => XS.iconst X51.here hx rfl (hb hby at_86)) ?_
      show own_Go p e below _ (T51.setTop (mkF m 87 #[.val (.int xa), .val (.int xb), .val (.int xc), .val (.int xd), .val (.int xe), .val (.int xf), .val (.int (xa &&& (3 : Int32))), .val (.int (((xa.toUInt32 >>> ((2 : Int32) &&& 31).toUInt32).toInt32) &&& (3 : Int32))), .val (.ref b1), .unset, .unset, .unset, .unset, .unset, .unset, .unset] [(.int (0 : Int32)), (.ref b1)]))
      obtain ⟨cl53, ar53, q53, sz53, nn53, hs53, gs53⟩ := id fbm52
      have hin53 : ¬ ((0 : Int32) < 0 ∨ cl53.slots.size ≤ ((0 : Int32)).toNatClampNeg) := inb_of sz53 ⟨by decide, by decide⟩
      refine own_by (X51.iaload hx (j := (0 : Int32)) (v := (.int (own_g bm52 (0 : Int32)))) (by rw [e51]; exact ar53.1) (State.isArrayOf_alike hZ.alike ar53.2.1) ar53.2.2 hin53 (hs53.at hin53 (own_g_eq bm52 (0 : Int32))) (g := (mkF m 87 #[.val (.int xa), .val (.int xb), .val (.int xc), .val (.int xd), .val (.int xe), .val (.int xf), .val (.int (xa &&& (3 : Int32))), .val (.int (((xa.toUInt32 >>> ((2 : Int32) &&& 31).toUInt32).toInt32) &&& (3 : Int32))), .val (.ref b1), .unset, .unset, .unset, .unset, .unset, .unset, .unset] [(.int (0 : Int32)), (.ref b1)])) rfl rfl (hb hby at_87)) ?_
      show own_Go p e below _ (T51.setTop (mkF m 88 #[.val (.int xa), .val (.int xb), .val (.int xc), .val (.int xd), .val (.int xe), .val (.int xf), .val (.int (xa &&& (3 : Int32))), .val (.int (((xa.toUInt32 >>> ((2 : Int32) &&& 31).toUInt32).toInt32) &&& (3 : Int32))), .val (.ref b1), .unset, .unset, .unset, .unset, .unset, .unset, .unset] [(.int (own_g bm52 (0 : Int32)))]))
      refine own_by (fun _ => XS.istore X51.here hx rfl (hb hby at_88) rfl (l' := #[.val (.int xa), .val (.int xb), .val (.int xc), .val (.int xd), .val (.int xe), .val (.int xf), .val (.int (xa &&& (3 : Int32))), .val (.int (((xa.toUInt32 >>> ((2 : Int32) &&& 31).toUInt32).toInt32) &&& (3 : Int32))), .val (.ref b1), .val (.int (own_g bm52 (0 : Int32))), .unset, .unset, .unset, .unset, .unset, .unset]) rfl) ?_
      show own_Go p e below _ (T51.setTop (mkF m 90 #[.val (.int xa), .val (.int xb), .val (.int xc), .val (.int xd), .val (.int xe), .val (.int xf), .val (.int (xa &&& (3 : Int32))), .val (.int (((xa.toUInt32 >>> ((2 : Int32) &&& 31).toUInt32).toInt32) &&& (3 : Int32))), .val (.ref b1), .val (.int (own_g bm52 (0 : Int32))), .unset, .unset, .unset, .unset, .unset, .unset] []))
      refine own_by (fun _ => XS.aload X51.here hx rfl (hb hby at_90) rfl rfl) ?_
      show own_Go p e below _ (T51.setTop (mkF m 92 #[.val (.int xa), .val (.int xb), .val (.int xc), .val (.int xd), .val (.int xe), .val (.int xf), .val (.int (xa &&& (3 : Int32))), .val (.int (((xa.toUInt32 >>> ((2 : Int32) &&& 31).toUInt32).toInt32) &&& (3 : Int32))), .val (.ref b1), .val (.int (own_g bm52 (0 : Int32))), .unset, .unset, .unset, .unset, .unset, .unset] [(.ref b1)]))
      refine own_by (fun _ => XS.iconst X51.here hx rfl (hb hby at_92)) ?_
      show own_Go p e below _ (T51.setTop (mkF m 93 #[.val (.int xa), .val (.int xb), .val (.int xc), .val (.int xd), .val (.int xe), .val (.int xf), .val (.int (xa &&& (3 : Int32))), .val (.int (((xa.toUInt32 >>> ((2 : Int32) &&& 31).toUInt32).toInt32) &&& (3 : Int32))), .val (.ref b1), .val (.int (own_g bm52 (0 : Int32))), .unset, .unset, .unset, .unset, .unset, .unset] [(.int (1 : Int32)), (.ref b1)]))
      obtain ⟨cl54, ar54, q54, sz54, nn54, hs54, gs54⟩ := id fbm52
      have hin54 : ¬ ((1 : Int32) < 0 ∨ cl54.slots.size ≤ ((1 : Int32)).toNatClampNeg) := inb_of sz54 ⟨by decide, by decide⟩
      refine own_by (X51.iaload hx (j := (1 : Int32)) (v := (.int (own_g bm52 (1 : Int32)))) (by rw [e51]; exact ar54.1) (State.isArrayOf_alike hZ.alike ar54.2.1) ar54.2.2 hin54 (hs54.at hin54 (own_g_eq bm52 (1 : Int32))) (g := (mkF m 93 #[.val (.int xa), .val (.int xb), .val (.int xc), .val (.int xd), .val (.int xe), .val (.int xf), .val (.int (xa &&& (3 : Int32))), .val (.int (((xa.toUInt32 >>> ((2 : Int32) &&& 31).toUInt32).toInt32) &&& (3 : Int32))), .val (.ref b1), .val (.int (own_g bm52 (0 : Int32))), .unset, .unset, .unset, .unset, .unset, .unset] [(.int (1 : Int32)), (.ref b1)])) rfl rfl (hb hby at_93)) ?_
      show own_Go p e below _ (T51.setTop (mkF m 94 #[.val (.int xa), .val (.int xb), .val (.int xc), .val (.int xd), .val (.int xe), .val (.int xf), .val (.int (xa &&& (3 : Int32))), .val (.int (((xa.toUInt32 >>> ((2 : Int32) &&& 31).toUInt32).toInt32) &&& (3 : Int32))), .val (.ref b1), .val (.int (own_g bm52 (0 : Int32))), .unset, .unset, .unset, .unset, .unset, .unset] [(.int (own_g bm52 (1 : Int32)))]))
      refine own_by (fun _ => XS.istore X51.here hx rfl (hb hby at_94) rfl (l' := #[.val (.int xa), .val (.int xb), .val (.int xc), .val (.int xd), .val (.int xe), .val (.int xf), .val (.int (xa &&& (3 : Int32))), .val (.int (((xa.toUInt32 >>> ((2 : Int32) &&& 31).toUInt32).toInt32) &&& (3 : Int32))), .val (.ref b1), .val (.int (own_g bm52 (0 : Int32))), .val (.int (own_g bm52 (1 : Int32))), .unset, .unset, .unset, .unset, .unset]) rfl) ?_
      show own_Go p e below _ (T51.setTop (mkF m 96 #[.val (.int xa), .val (.int xb), .val (.int xc), .val (.int xd), .val (.int xe), .val (.int xf), .val (.int (xa &&& (3 : Int32))), .val (.int (((xa.toUInt32 >>> ((2 : Int32) &&& 31).toUInt32).toInt32) &&& (3 : Int32))), .val (.ref b1), .val (.int (own_g bm52 (0 : Int32))), .val (.int (own_g bm52 (1 : Int32))), .unset, .unset, .unset, .unset, .unset] []))
      refine own_by (fun _ => XS.aload X51.here hx rfl (hb hby at_96) rfl rfl) ?_
      show own_Go p e below _ (T51.setTop (mkF m 98 #[.val (.int xa), .val (.int xb), .val (.int xc), .val (.int xd), .val (.int xe), .val (.int xf), .val (.int (xa &&& (3 : Int32))), .val (.int (((xa.toUInt32 >>> ((2 : Int32) &&& 31).toUInt32).toInt32) &&& (3 : Int32))), .val (.ref b1), .val (.int (own_g bm52 (0 : Int32))), .val (.int (own_g bm52 (1 : Int32))), .unset, .unset, .unset, .unset, .unset] [(.ref b1)]))
      refine own_by (fun _ => XS.iconst X51.here hx rfl (hb hby at_98)) ?_
      show own_Go p e below _ (T51.setTop (mkF m 99 #[.val (.int xa), .val (.int xb), .val (.int xc), .val (.int xd), .val (.int xe), .val (.int xf), .val (.int (xa &&& (3 : Int32))), .val (.int (((xa.toUInt32 >>> ((2 : Int32) &&& 31).toUInt32).toInt32) &&& (3 : Int32))), .val (.ref b1), .val (.int (own_g bm52 (0 : Int32))), .val (.int (own_g bm52 (1 : Int32))), .unset, .unset, .unset, .unset, .unset] [(.int (2 : Int32)), (.ref b1)]))
      obtain ⟨cl55, ar55, q55, sz55, nn55, hs55, gs55⟩ := id fbm52
      have hin55 : ¬ ((2 : Int32) < 0 ∨ cl55.slots.size ≤ ((2 : Int32)).toNatClampNeg) := inb_of sz55 ⟨by decide, by decide⟩
      refine own_by (X51.iaload hx (j := (2 : Int32)) (v := (.int (own_g bm52 (2 : Int32)))) (by rw [e51]; exact ar55.1) (State.isArrayOf_alike hZ.alike ar55.2.1) ar55.2.2 hin55 (hs55.at hin55 (own_g_eq bm52 (2 : Int32))) (g := (mkF m 99 #[.val (.int xa), .val (.int xb), .val (.int xc), .val (.int xd), .val (.int xe), .val (.int xf), .val (.int (xa &&& (3 : Int32))), .val (.int (((xa.toUInt32 >>> ((2 : Int32) &&& 31).toUInt32).toInt32) &&& (3 : Int32))), .val (.ref b1), .val (.int (own_g bm52 (0 : Int32))), .val (.int (own_g bm52 (1 : Int32))), .unset, .unset, .unset, .unset, .unset] [(.int (2 : Int32)), (.ref b1)])) rfl rfl (hb hby at_99)) ?_
      show own_Go p e below _ (T51.setTop (mkF m 100 #[.val (.int xa), .val (.int xb), .val (.int xc), .val (.int xd), .val (.int xe), .val (.int xf), .val (.int (xa &&& (3 : Int32))), .val (.int (((xa.toUInt32 >>> ((2 : Int32) &&& 31).toUInt32).toInt32) &&& (3 : Int32))), .val (.ref b1), .val (.int (own_g bm52 (0 : Int32))), .val (.int (own_g bm52 (1 : Int32))), .unset, .unset, .unset, .unset, .unset] [(.int (own_g bm52 (2 : Int32)))]))
      refine own_by (fun _ => XS.istore X51.here hx rfl (hb hby at_100) rfl (l' := #[.val (.int xa), .val (.int xb), .val (.int xc), .val (.int xd), .val (.int xe), .val (.int xf), .val (.int (xa &&& (3 : Int32))), .val (.int (((xa.toUInt32 >>> ((2 : Int32) &&& 31).toUInt32).toInt32) &&& (3 : Int32))), .val (.ref b1), .val (.int (own_g bm52 (0 : Int32))), .val (.int (own_g bm52 (1 : Int32))), .val (.int (own_g bm52 (2 : Int32))), .unset, .unset, .unset, .unset]) rfl) ?_
      show own_Go p e below _ (T51.setTop (mkF m 102 #[.val (.int xa), .val (.int xb), .val (.int xc), .val (.int xd), .val (.int xe), .val (.int xf), .val (.int (xa &&& (3 : Int32))), .val (.int (((xa.toUInt32 >>> ((2 : Int32) &&& 31).toUInt32).toInt32) &&& (3 : Int32))), .val (.ref b1), .val (.int (own_g bm52 (0 : Int32))), .val (.int (own_g bm52 (1 : Int32))), .val (.int (own_g bm52 (2 : Int32))), .unset, .unset, .unset, .unset] []))
      refine own_by (fun _ => XS.aload X51.here hx rfl (hb hby at_102) rfl rfl) ?_
      show own_Go p e below _ (T51.setTop (mkF m 104 #[.val (.int xa), .val (.int xb), .val (.int xc), .val (.int xd), .val (.int xe), .val (.int xf), .val (.int (xa &&& (3 : Int32))), .val (.int (((xa.toUInt32 >>> ((2 : Int32) &&& 31).toUInt32).toInt32) &&& (3 : Int32))), .val (.ref b1), .val (.int (own_g bm52 (0 : Int32))), .val (.int (own_g bm52 (1 : Int32))), .val (.int (own_g bm52 (2 : Int32))), .unset, .unset, .unset, .unset] [(.ref b1)]))
      refine own_by (fun _ => XS.iconst X51.here hx rfl (hb hby at_104)) ?_
      show own_Go p e below _ (T51.setTop (mkF m 105 #[.val (.int xa), .val (.int xb), .val (.int xc), .val (.int xd), .val (.int xe), .val (.int xf), .val (.int (xa &&& (3 : Int32))), .val (.int (((xa.toUInt32 >>> ((2 : Int32) &&& 31).toUInt32).toInt32) &&& (3 : Int32))), .val (.ref b1), .val (.int (own_g bm52 (0 : Int32))), .val (.int (own_g bm52 (1 : Int32))), .val (.int (own_g bm52 (2 : Int32))), .unset, .unset, .unset, .unset] [(.int (3 : Int32)), (.ref b1)]))
      obtain ⟨cl56, ar56, q56, sz56, nn56, hs56, gs56⟩ := id fbm52
      have hin56 : ¬ ((3 : Int32) < 0 ∨ cl56.slots.size ≤ ((3 : Int32)).toNatClampNeg) := inb_of sz56 ⟨by decide, by decide⟩
      refine own_by (X51.iaload hx (j := (3 : Int32)) (v := (.int (own_g bm52 (3 : Int32)))) (by rw [e51]; exact ar56.1) (State.isArrayOf_alike hZ.alike ar56.2.1) ar56.2.2 hin56 (hs56.at hin56 (own_g_eq bm52 (3 : Int32))) (g := (mkF m 105 #[.val (.int xa), .val (.int xb), .val (.int xc), .val (.int xd), .val (.int xe), .val (.int xf), .val (.int (xa &&& (3 : Int32))), .val (.int (((xa.toUInt32 >>> ((2 : Int32) &&& 31).toUInt32).toInt32) &&& (3 : Int32))), .val (.ref b1), .val (.int (own_g bm52 (0 : Int32))), .val (.int (own_g bm52 (1 : Int32))), .val (.int (own_g bm52 (2 : Int32))), .unset, .unset, .unset, .unset] [(.int (3 : Int32)), (.ref b1)])) rfl rfl (hb hby at_105)) ?_
      show own_Go p e below _ (T51.setTop (mkF m 106 #[.val (.int xa), .val (.int xb), .val (.int xc), .val (.int xd), .val (.int xe), .val (.int xf), .val (.int (xa &&& (3 : Int32))), .val (.int (((xa.toUInt32 >>> ((2 : Int32) &&& 31).toUInt32).toInt32) &&& (3 : Int32))), .val (.ref b1), .val (.int (own_g bm52 (0 : Int32))), .val (.int (own_g bm52 (1 : Int32))), .val (.int (own_g bm52 (2 : Int32))), .unset, .unset, .unset, .unset] [(.int (own_g bm52 (3 : Int32)))]))
      refine own_by (fun _ => XS.istore X51.here hx rfl (hb hby at_106) rfl (l' := #[.val (.int xa), .val (.int xb), .val (.int xc), .val (.int xd), .val (.int xe), .val (.int xf), .val (.int (xa &&& (3 : Int32))), .val (.int (((xa.toUInt32 >>> ((2 : Int32) &&& 31).toUInt32).toInt32) &&& (3 : Int32))), .val (.ref b1), .val (.int (own_g bm52 (0 : Int32))), .val (.int (own_g bm52 (1 : Int32))), .val (.int (own_g bm52 (2 : Int32))), .val (.int (own_g bm52 (3 : Int32))), .unset, .unset, .unset]) rfl) ?_
      show own_Go p e below _ (T51.setTop (mkF m 108 #[.val (.int xa), .val (.int xb), .val (.int xc), .val (.int xd), .val (.int xe), .val (.int xf), .val (.int (xa &&& (3 : Int32))), .val (.int (((xa.toUInt32 >>> ((2 : Int32) &&& 31).toUInt32).toInt32) &&& (3 : Int32))), .val (.ref b1), .val (.int (own_g bm52 (0 : Int32))), .val (.int (own_g bm52 (1 : Int32))), .val (.int (own_g bm52 (2 : Int32))), .val (.int (own_g bm52 (3 : Int32))), .unset, .unset, .unset] []))
      obtain ⟨T57, h57, X57, e57, E57, A57, D57, -, st57⟩ := newO X51 hx hZ hown (hw _ (List.mem_of_getElem? (i := 1) rfl)) (hw _ (List.mem_of_getElem? (i := 2) rfl)) (hw _ (List.mem_of_getElem? (i := 3) rfl)) e51 (g := (mkF m 108 #[.val (.int xa), .val (.int xb), .val (.int xc), .val (.int xd), .val (.int xe), .val (.int xf), .val (.int (xa &&& (3 : Int32))), .val (.int (((xa.toUInt32 >>> ((2 : Int32) &&& 31).toUInt32).toInt32) &&& (3 : Int32))), .val (.ref b1), .val (.int (own_g bm52 (0 : Int32))), .val (.int (own_g bm52 (1 : Int32))), .val (.int (own_g bm52 (2 : Int32))), .val (.int (own_g bm52 (3 : Int32))), .unset, .unset, .unset] [])) rfl (hb hby at_108) (by decide) (by decide)
      obtain ⟨b57, g57⟩ : ∃ z, z = h51.size := ⟨_, rfl⟩
      rw [← g57] at A57 D57 st57
      refine own_by st57 ?_
      have ge57 : n0 ≤ b57 := Nat.le_trans z51 (Nat.le_of_eq g57.symm)
      have ne57_b1 : b1 ≠ b57 := Nat.ne_of_lt (Nat.lt_of_lt_of_le fbm52.lt (Nat.le_of_eq g57.symm))
      have z57 : n0 ≤ h57.size := Nat.le_trans z51 E57.1
      have fz57_id : Fld Z h57 b57 "com/example/composiq/composiq/Problem$Candidate" "id" "Ljava/lang/String;" .null := D57 (Or.inr (hw _ (List.mem_of_getElem? (i := 25) rfl))) (ty := (.object "java/lang/String")) (by decide)
      have fz57_task : Fld Z h57 b57 "com/example/composiq/composiq/Problem$Candidate" "task" "I" (.int (0 : Int32)) := D57 (Or.inr (hw _ (List.mem_of_getElem? (i := 27) rfl))) (ty := .int) (by decide)
      have fz57_index : Fld Z h57 b57 "com/example/composiq/composiq/Problem$Candidate" "index" "I" (.int (0 : Int32)) := D57 (Or.inr (hw _ (List.mem_of_getElem? (i := 29) rfl))) (ty := .int) (by decide)
      have fz57_qos : Fld Z h57 b57 "com/example/composiq/composiq/Problem$Candidate" "qos" "[D" .null := D57 (Or.inr (hw _ (List.mem_of_getElem? (i := 31) rfl))) (ty := (.array .double)) (by decide)
      show own_Go p e below _ (T57.setTop (mkF m 111 #[.val (.int xa), .val (.int xb), .val (.int xc), .val (.int xd), .val (.int xe), .val (.int xf), .val (.int (xa &&& (3 : Int32))), .val (.int (((xa.toUInt32 >>> ((2 : Int32) &&& 31).toUInt32).toInt32) &&& (3 : Int32))), .val (.ref b1), .val (.int (own_g bm52 (0 : Int32))), .val (.int (own_g bm52 (1 : Int32))), .val (.int (own_g bm52 (2 : Int32))), .val (.int (own_g bm52 (3 : Int32))), .unset, .unset, .unset] [(.ref b57)]))
      refine own_by (fun _ => XS.dup X57.here hx rfl (hb hby at_111) rfl rfl) ?_
      show own_Go p e below _ (T57.setTop (mkF m 112 #[.val (.int xa), .val (.int xb), .val (.int xc), .val (.int xd), .val (.int xe), .val (.int xf), .val (.int (xa &&& (3 : Int32))), .val (.int (((xa.toUInt32 >>> ((2 : Int32) &&& 31).toUInt32).toInt32) &&& (3 : Int32))), .val (.ref b1), .val (.int (own_g bm52 (0 : Int32))), .val (.int (own_g bm52 (1 : Int32))), .val (.int (own_g bm52 (2 : Int32))), .val (.int (own_g bm52 (3 : Int32))), .unset, .unset, .unset] [(.ref b57), (.ref b57)]))
      obtain ⟨sa58, T58, h58, k58, X58, e58, E58, hS58, hk58, hZ58, hown58, st58⟩ := ldcS (s := s) (vm0 := s.vm) X57 hx hZ hown (hw _ (List.mem_of_getElem? (i := 4) rfl)) (own_strAtoms hw) e57 ((State.WarmedH.refl s).since h57.size) (Nat.le_refl _) (g := (mkF m 112 #[.val (.int xa), .val (.int xb), .val (.int xc), .val (.int xd), .val (.int xe), .val (.int xf), .val (.int (xa &&& (3 : Int32))), .val (.int (((xa.toUInt32 >>> ((2 : Int32) &&& 31).toUInt32).toInt32) &&& (3 : Int32))), .val (.ref b1), .val (.int (own_g bm52 (0 : Int32))), .val (.int (own_g bm52 (1 : Int32))), .val (.int (own_g bm52 (2 : Int32))), .val (.int (own_g bm52 (3 : Int32))), .unset, .unset, .unset] [(.ref b57), (.ref b57)])) rfl (hb hby at_112) (n := 4) (by decide) (by decide) (by decide) (by decide)
      have hZ := hZ58
      have hown := hown58
      refine own_by st58 ?_
      have z58 : n0 ≤ h58.size := Nat.le_trans z57 E58.1
      show own_Go p e below _ (T58.setTop (mkF m 114 #[.val (.int xa), .val (.int xb), .val (.int xc), .val (.int xd), .val (.int xe), .val (.int xf), .val (.int (xa &&& (3 : Int32))), .val (.int (((xa.toUInt32 >>> ((2 : Int32) &&& 31).toUInt32).toInt32) &&& (3 : Int32))), .val (.ref b1), .val (.int (own_g bm52 (0 : Int32))), .val (.int (own_g bm52 (1 : Int32))), .val (.int (own_g bm52 (2 : Int32))), .val (.int (own_g bm52 (3 : Int32))), .unset, .unset, .unset] [(.ref sa58), (.ref b57), (.ref b57)]))
      refine own_by (fun _ => XS.iload X58.here hx rfl (hb hby at_114) rfl) ?_
      show own_Go p e below _ (T58.setTop (mkF m 116 #[.val (.int xa), .val (.int xb), .val (.int xc), .val (.int xd), .val (.int xe), .val (.int xf), .val (.int (xa &&& (3 : Int32))), .val (.int (((xa.toUInt32 >>> ((2 : Int32) &&& 31).toUInt32).toInt32) &&& (3 : Int32))), .val (.ref b1), .val (.int (own_g bm52 (0 : Int32))), .val (.int (own_g bm52 (1 : Int32))), .val (.int (own_g bm52 (2 : Int32))), .val (.int (own_g bm52 (3 : Int32))), .unset, .unset, .unset] [(.int (xa &&& (3 : Int32))), (.ref sa58), (.ref b57), (.ref b57)]))
      refine own_by (fun _ => XS.iloadN X58.here hx rfl (hb hby at_116) rfl) ?_
      show own_Go p e below _ (T58.setTop (mkF m 117 #[.val (.int xa), .val (.int xb), .val (.int xc), .val (.int xd), .val (.int xe), .val (.int xf), .val (.int (xa &&& (3 : Int32))), .val (.int (((xa.toUInt32 >>> ((2 : Int32) &&& 31).toUInt32).toInt32) &&& (3 : Int32))), .val (.ref b1), .val (.int (own_g bm52 (0 : Int32))), .val (.int (own_g bm52 (1 : Int32))), .val (.int (own_g bm52 (2 : Int32))), .val (.int (own_g bm52 (3 : Int32))), .unset, .unset, .unset] [(.int xb), (.int (xa &&& (3 : Int32))), (.ref sa58), (.ref b57), (.ref b57)]))
      refine own_by (fun _ => XS.iconst X58.here hx rfl (hb hby at_117)) ?_
      show own_Go p e below _ (T58.setTop (mkF m 118 #[.val (.int xa), .val (.int xb), .val (.int xc), .val (.int xd), .val (.int xe), .val (.int xf), .val (.int (xa &&& (3 : Int32))), .val (.int (((xa.toUInt32 >>> ((2 : Int32) &&& 31).toUInt32).toInt32) &&& (3 : Int32))), .val (.ref b1), .val (.int (own_g bm52 (0 : Int32))), .val (.int (own_g bm52 (1 : Int32))), .val (.int (own_g bm52 (2 : Int32))), .val (.int (own_g bm52 (3 : Int32))), .unset, .unset, .unset] [(.int (1 : Int32)), (.int xb), (.int (xa &&& (3 : Int32))), (.ref sa58), (.ref b57), (.ref b57)]))
      obtain ⟨T59, h59, k59, X59, e59, E59, A59, st59⟩ := newP X58 hx hZ (hw _ (List.mem_of_getElem? (i := 12) rfl)) e58 (g := (mkF m 118 #[.val (.int xa), .val (.int xb), .val (.int xc), .val (.int xd), .val (.int xe), .val (.int xf), .val (.int (xa &&& (3 : Int32))), .val (.int (((xa.toUInt32 >>> ((2 : Int32) &&& 31).toUInt32).toInt32) &&& (3 : Int32))), .val (.ref b1), .val (.int (own_g bm52 (0 : Int32))), .val (.int (own_g bm52 (1 : Int32))), .val (.int (own_g bm52 (2 : Int32))), .val (.int (own_g bm52 (3 : Int32))), .unset, .unset, .unset] [(.int (1 : Int32)), (.int xb), (.int (xa &&& (3 : Int32))), (.ref sa58), (.ref b57), (.ref b57)])) rfl (hb hby at_118) rfl (by decide) (cap := 1) (by decide) (by decide) (by decide) (by decide)
      obtain ⟨b59, g59⟩ : ∃ z, z = h58.size := ⟨_, rfl⟩
      rw [← g59] at A59 st59
      refine own_by st59 ?_
      have ge59 : n0 ≤ b59 := Nat.le_trans z58 (Nat.le_of_eq g59.symm)
      have f60 : Arv Z h58 b1 k1 .int (4 : Int32) (bm52.map Value.int) (.int (0 : Int32)) := ((fbm52.ext E57).ext E58)
      have ne59_b1 : b1 ≠ b59 := Nat.ne_of_lt (Nat.lt_of_lt_of_le f60.lt (Nat.le_of_eq g59.symm))
      have f61 : Exa Z h58 b57 "com/example/composiq/composiq/Problem$Candidate" := (A57.ext E58)
      have ne59_b57 : b57 ≠ b59 := Nat.ne_of_lt (Nat.lt_of_lt_of_le f61.lt (Nat.le_of_eq g59.symm))
      have z59 : n0 ≤ h59.size := Nat.le_trans z58 E59.1
      have hkk59 : k58 ≤ h59.size := Nat.le_trans hk58 E59.1
      have va59 : Arv Z h59 b59 k59 .double (1 : Int32) [(.double 0)] (.double 0) := (Arv.new A59 (by decide)).pad (pad_rep [] (.double 0) 1)
      show own_Go p e below _ (T59.setTop (mkF m 120 #[.val (.int xa), .val (.int xb), .val (.int xc), .val (.int xd), .val (.int xe), .val (.int xf), .val (.int (xa &&& (3 : Int32))), .val (.int (((xa.toUInt32 >>> ((2 : Int32) &&& 31).toUInt32).toInt32) &&& (3 : Int32))), .val (.ref b1), .val (.int (own_g bm52 (0 : Int32))), .val (.int (own_g bm52 (1 : Int32))), .val (.int (own_g bm52 (2 : Int32))), .val (.int (own_g bm52 (3 : Int32))), .unset, .unset, .unset] [(.ref b59), (.int xb), (.int (xa &&& (3 : Int32))), (.ref sa58), (.ref b57), (.ref b57)]))
      refine own_by (fun _ => XS.dup X59.here hx rfl (hb hby at_120) rfl rfl) ?_
      show own_Go p e below _ (T59.setTop (mkF m 121 #[.val (.int xa), .val (.int xb), .val (.int xc), .val (.int xd), .val (.int xe), .val (.int xf), .val (.int (xa &&& (3 : Int32))), .val (.int (((xa.toUInt32 >>> ((2 : Int32) &&& 31).toUInt32).toInt32) &&& (3 : Int32))), .val (.ref b1), .val (.int (own_g bm52 (0 : Int32))), .val (.int (own_g bm52 (1 : Int32))), .val (.int (own_g bm52 (2 : Int32))), .val (.int (own_g bm52 (3 : Int32))), .unset, .unset, .unset] [(.ref b59), (.ref b59), (.int xb), (.int (xa &&& (3 : Int32))), (.ref sa58), (.ref b57), (.ref b57)]))
      refine own_by (fun _ => XS.iconst X59.here hx rfl (hb hby at_121)) ?_
      show own_Go p e below _ (T59.setTop (mkF m 122 #[.val (.int xa), .val (.int xb), .val (.int xc), .val (.int xd), .val (.int xe), .val (.int xf), .val (.int (xa &&& (3 : Int32))), .val (.int (((xa.toUInt32 >>> ((2 : Int32) &&& 31).toUInt32).toInt32) &&& (3 : Int32))), .val (.ref b1), .val (.int (own_g bm52 (0 : Int32))), .val (.int (own_g bm52 (1 : Int32))), .val (.int (own_g bm52 (2 : Int32))), .val (.int (own_g bm52 (3 : Int32))), .unset, .unset, .unset] [(.int (0 : Int32)), (.ref b59), (.ref b59), (.int xb), (.int (xa &&& (3 : Int32))), (.ref sa58), (.ref b57), (.ref b57)]))
      refine own_by (fun _ => XS.dconst1 X59.here hx rfl (hb hby at_122) rfl) ?_
      show own_Go p e below _ (T59.setTop (mkF m 123 #[.val (.int xa), .val (.int xb), .val (.int xc), .val (.int xd), .val (.int xe), .val (.int xf), .val (.int (xa &&& (3 : Int32))), .val (.int (((xa.toUInt32 >>> ((2 : Int32) &&& 31).toUInt32).toInt32) &&& (3 : Int32))), .val (.ref b1), .val (.int (own_g bm52 (0 : Int32))), .val (.int (own_g bm52 (1 : Int32))), .val (.int (own_g bm52 (2 : Int32))), .val (.int (own_g bm52 (3 : Int32))), .unset, .unset, .unset] [(.double own_dc1), (.int (0 : Int32)), (.ref b59), (.ref b59), (.int xb), (.int (xa &&& (3 : Int32))), (.ref sa58), (.ref b57), (.ref b57)]))
      obtain ⟨cl62, ar62, q62, sz62, nn62, hs62, gs62⟩ := id va59
      have hin62 : ¬ ((0 : Int32) < 0 ∨ cl62.slots.size ≤ ((0 : Int32)).toNatClampNeg) := inb_of sz62 ⟨by decide, by decide⟩
      obtain ⟨T63, h63, X63, e63, W63, st63⟩ := stD X59 hx hZ e59 ar62 (j := (0 : Int32)) hin62 (g := (mkF m 123 #[.val (.int xa), .val (.int xb), .val (.int xc), .val (.int xd), .val (.int xe), .val (.int xf), .val (.int (xa &&& (3 : Int32))), .val (.int (((xa.toUInt32 >>> ((2 : Int32) &&& 31).toUInt32).toInt32) &&& (3 : Int32))), .val (.ref b1), .val (.int (own_g bm52 (0 : Int32))), .val (.int (own_g bm52 (1 : Int32))), .val (.int (own_g bm52 (2 : Int32))), .val (.int (own_g bm52 (3 : Int32))), .unset, .unset, .unset] [(.double own_dc1), (.int (0 : Int32)), (.ref b59), (.ref b59), (.int xb), (.int (xa &&& (3 : Int32))), (.ref sa58), (.ref b57), (.ref b57)])) rfl rfl (hb hby at_123)
      refine own_by st63 ?_
      have va63 : Arv Z h63 b59 k59 .double (1 : Int32) [(.double own_dc1)] (.double 0) := Arv.set ar62 q62 sz62 nn62 hs62 gs62 rfl W63 0 rfl (Nat.le_of_ble_eq_true rfl)
      have z63 : n0 ≤ h63.size := Nat.le_trans z59 (Keep.of_wr W63).1
      have hkk63 : k58 ≤ h63.size := Nat.le_trans hkk59 (Keep.of_wr W63).1
      have N63 := Fr.snoc X63 N51 ge59
      show own_Go p e below _ (T63.setTop (mkF m 124 #[.val (.int xa), .val (.int xb), .val (.int xc), .val (.int xd), .val (.int xe), .val (.int xf), .val (.int (xa &&& (3 : Int32))), .val (.int (((xa.toUInt32 >>> ((2 : Int32) &&& 31).toUInt32).toInt32) &&& (3 : Int32))), .val (.ref b1), .val (.int (own_g bm52 (0 : Int32))), .val (.int (own_g bm52 (1 : Int32))), .val (.int (own_g bm52 (2 : Int32))), .val (.int (own_g bm52 (3 : Int32))), .unset, .unset, .unset] [(.ref b59), (.int xb), (.int (xa &&& (3 : Int32))), (.ref sa58), (.ref b57), (.ref b57)]))
      have f64 : Exa Z h63 b57 "com/example/composiq/composiq/Problem$Candidate" := ((f61.ext E59).wr W63)
      have f65 : Fld Z h63 b57 "com/example/composiq/composiq/Problem$Candidate" "id" "Ljava/lang/String;" .null := (((fz57_id.ext E58).ext E59).other W63 (Or.inl ne59_b57))
      have f66 : Fld Z h63 b57 "com/example/composiq/composiq/Problem$Candidate" "task" "I" (.int (0 : Int32)) := (((fz57_task.ext E58).ext E59).other W63 (Or.inl ne59_b57))
      have f67 : Fld Z h63 b57 "com/example/composiq/composiq/Problem$Candidate" "index" "I" (.int (0 : Int32)) := (((fz57_index.ext E58).ext E59).other W63 (Or.inl ne59_b57))
      have f68 : Fld Z h63 b57 "com/example/composiq/composiq/Problem$Candidate" "qos" "[D" .null := (((fz57_qos.ext E58).ext E59).other W63 (Or.inl ne59_b57))
      obtain ⟨_, _, ⟨T69, L69, k69, n69⟩, -, X69, ⟨Lc69, hQ69, l69, y69, z69'⟩, st69⟩ := X63.specialBack hx (y := (⟨"com/example/composiq/composiq/Problem$Candidate", "<init>", "(Ljava/lang/String;II[D)V"⟩ : MethodName)) rfl hown (mvT hZ (hw _ (List.mem_of_getElem? (i := 13) rfl))) (mvT hZ (hw _ (List.mem_of_getElem? (i := 14) rfl))) (mvT hZ (hw _ (List.mem_of_getElem? (i := 15) rfl))) (by decide) (backOf (W := 1) (own_rm1 l Z a0 hw [] b57 sa58 (xa &&& (3 : Int32)) xb b59 .null (0 : Int32) (0 : Int32) .null h63 n0 z63 f64 f65 f66 f67 f68 ge57) hZ (hw _ (List.mem_of_getElem? (i := 15) rfl)) (hw _ (List.mem_of_getElem? (i := 3) rfl)) (by decide) (by decide)) (g := (mkF m 124 #[.val (.int xa), .val (.int xb), .val (.int xc), .val (.int xd), .val (.int xe), .val (.int xf), .val (.int (xa &&& (3 : Int32))), .val (.int (((xa.toUInt32 >>> ((2 : Int32) &&& 31).toUInt32).toInt32) &&& (3 : Int32))), .val (.ref b1), .val (.int (own_g bm52 (0 : Int32))), .val (.int (own_g bm52 (1 : Int32))), .val (.int (own_g bm52 (2 : Int32))), .val (.int (own_g bm52 (3 : Int32))), .unset, .unset, .unset] [(.ref b59), (.int xb), (.int (xa &&& (3 : Int32))), (.ref sa58), (.ref b57), (.ref b57)])) rfl (by rw [hml]; rfl) (Steps.refl _) (a := b57) (argsL := [(.ref sa58), (.int (xa &&& (3 : Int32))), (.int xb), (.ref b59)]) (rest := [(.ref b57)]) (lenOf own_pd1 rfl) rfl (by show 2 * 0 + _ ≤ _; exact Nat.le_of_eq rfl) (hb hby at_124) (fun _ _ => ⟨rfl, e63, (by decide : 5 + 0 ≤ _), (by decide : 17 + 0 ≤ _)⟩)
      dsimp only [Pt.U, Pt.locs, Pt.cells, Pt.slots] at X69 l69 y69 z69' st69 hQ69
      subst l69 y69 z69'
      obtain ⟨rfl, N69q, Kc69, fc69_0, fc69_1⟩ := hQ69
      have N69 := Fr.app N63 N69q
      refine own_tr st69 ?_
      have z69 : n0 ≤ T69.heap.size := Nat.le_trans z63 Kc69.1
      have hkk69 : k58 ≤ T69.heap.size := Nat.le_trans hkk63 Kc69.1
      show own_Go p e below _ (T69.setTop (mkF m 127 #[.val (.int xa), .val (.int xb), .val (.int xc), .val (.int xd), .val (.int xe), .val (.int xf), .val (.int (xa &&& (3 : Int32))), .val (.int (((xa.toUInt32 >>> ((2 : Int32) &&& 31).toUInt32).toInt32) &&& (3 : Int32))), .val (.ref b1), .val (.int (own_g bm52 (0 : Int32))), .val (.int (own_g bm52 (1 : Int32))), .val (.int (own_g bm52 (2 : Int32))), .val (.int (own_g bm52 (3 : Int32))), .unset, .unset, .unset] [(.ref b57)]))
      refine own_by (fun _ => XS.astore X69.here hx rfl (hb hby at_127) rfl rfl (l' := #[.val (.int xa), .val (.int xb), .val (.int xc), .val (.int xd), .val (.int xe), .val (.int xf), .val (.int (xa &&& (3 : Int32))), .val (.int (((xa.toUInt32 >>> ((2 : Int32) &&& 31).toUInt32).toInt32) &&& (3 : Int32))), .val (.ref b1), .val (.int (own_g bm52 (0 : Int32))), .val (.int (own_g bm52 (1 : Int32))), .val (.int (own_g bm52 (2 : Int32))), .val (.int (own_g bm52 (3 : Int32))), .val (.ref b57), .unset, .unset]) rfl) ?_
      show own_Go p e below _ (T69.setTop (mkF m 129 #[.val (.int xa), .val (.int xb), .val (.int xc), .val (.int xd), .val (.int xe), .val (.int xf), .val (.int (xa &&& (3 : Int32))), .val (.int (((xa.toUInt32 >>> ((2 : Int32) &&& 31).toUInt32).toInt32) &&& (3 : Int32))), .val (.ref b1), .val (.int (own_g bm52 (0 : Int32))), .val (.int (own_g bm52 (1 : Int32))), .val (.int (own_g bm52 (2 : Int32))), .val (.int (own_g bm52 (3 : Int32))), .val (.ref b57), .unset, .unset] []))
      refine own_by (fun _ => XS.aload X69.here hx rfl (hb hby at_129) rfl rfl) ?_
      show own_Go p e below _ (T69.setTop (mkF m 131 #[.val (.int xa), .val (.int xb), .val (.int xc), .val (.int xd), .val (.int xe), .val (.int xf), .val (.int (xa &&& (3 : Int32))), .val (.int (((xa.toUInt32 >>> ((2 : Int32) &&& 31).toUInt32).toInt32) &&& (3 : Int32))), .val (.ref b1), .val (.int (own_g bm52 (0 : Int32))), .val (.int (own_g bm52 (1 : Int32))), .val (.int (own_g bm52 (2 : Int32))), .val (.int (own_g bm52 (3 : Int32))), .val (.ref b57), .unset, .unset] [(.ref b57)]))
      refine own_by (fun _ => XS.aload X69.here hx rfl (hb hby at_131) rfl rfl) ?_
      show own_Go p e below _ (T69.setTop (mkF m 133 #[.val (.int xa), .val (.int xb), .val (.int xc), .val (.int xd), .val (.int xe), .val (.int xf), .val (.int (xa &&& (3 : Int32))), .val (.int (((xa.toUInt32 >>> ((2 : Int32) &&& 31).toUInt32).toInt32) &&& (3 : Int32))), .val (.ref b1), .val (.int (own_g bm52 (0 : Int32))), .val (.int (own_g bm52 (1 : Int32))), .val (.int (own_g bm52 (2 : Int32))), .val (.int (own_g bm52 (3 : Int32))), .val (.ref b57), .unset, .unset] [(.ref b1), (.ref b57)]))
      have f70 : Arv Z T69.heap b1 k1 .int (4 : Int32) (bm52.map Value.int) (.int (0 : Int32)) := (((f60.ext E59).other W63 ne59_b1).keep Kc69 (ninS ne57_b1 nin0))
      have f72 : Exa Z T69.heap b57 "com/example/composiq/composiq/Problem$Candidate" := (f64.keep Kc69)
      obtain ⟨cq71, kq71, q71a, q71b, q71c⟩ := isOf hZ rfl f72
      obtain ⟨_, _, ⟨T71, L71, k71, n71⟩, -, X71, ⟨Lc71, hQ71, l71, y71, z71'⟩, st71⟩ := X69.virtualBack hx (y := (⟨"com/example/composiq/composiq/Problem$Candidate", "isBoundIn", "([I)Z"⟩ : MethodName)) (z := (⟨"com/example/composiq/composiq/Problem$Candidate", "isBoundIn", "([I)Z"⟩ : MethodName)) hown (mvT hZ (hw _ (List.mem_of_getElem? (i := 32) rfl))) (mvT hZ (hw _ (List.mem_of_getElem? (i := 33) rfl))) (notFace_of_selects (args := #[]) (mvT hZ (hw _ (List.mem_of_getElem? (i := 35) rfl)))) (mvT hZ (hw _ (List.mem_of_getElem? (i := 35) rfl))) (mvT hZ (hw _ (List.mem_of_getElem? (i := 34) rfl))) (by decide) (backOf (W := 0) (own_rm4 l Z a0 hw [] b57 b1 (xa &&& (3 : Int32)) xb k1 bm52 T69.heap n0 z69 fc69_0 fc69_1 f70 ((own_tt xa).1 : ¬ ((xa &&& (3 : Int32)) < (0 : Int32))) ((own_tt xa).2 : (xa &&& (3 : Int32)) < (4 : Int32))) hZ (hw _ (List.mem_of_getElem? (i := 36) rfl)) (hw _ (List.mem_of_getElem? (i := 3) rfl)) (by decide) (by decide)) q71a q71c (g := (mkF m 133 #[.val (.int xa), .val (.int xb), .val (.int xc), .val (.int xd), .val (.int xe), .val (.int xf), .val (.int (xa &&& (3 : Int32))), .val (.int (((xa.toUInt32 >>> ((2 : Int32) &&& 31).toUInt32).toInt32) &&& (3 : Int32))), .val (.ref b1), .val (.int (own_g bm52 (0 : Int32))), .val (.int (own_g bm52 (1 : Int32))), .val (.int (own_g bm52 (2 : Int32))), .val (.int (own_g bm52 (3 : Int32))), .val (.ref b57), .unset, .unset] [(.ref b1), (.ref b57)])) rfl (by rw [hml]; rfl) (Steps.refl _) (argsL := [(.ref b1)]) (rest := []) (lenOf own_pd2 rfl) rfl (by show 2 * 0 + _ ≤ _; exact Nat.le_of_eq rfl) (hb hby at_133) (fun _ _ => ⟨rfl, rfl, (by decide : 5 + 0 ≤ _), (by decide : 17 + 0 ≤ _)⟩)
      dsimp only [Pt.U, Pt.locs, Pt.cells, Pt.slots] at X71 l71 y71 z71' st71 hQ71
      subst l71 y71 z71'
      obtain ⟨rfl, N71q, e71⟩ := hQ71
      have N71 := Fr.app N69 N71q
      refine own_tr st71 ?_
      show own_Go p e below _ (T71.setTop (mkF m 136 #[.val (.int xa), .val (.int xb), .val (.int xc), .val (.int xd), .val (.int xe), .val (.int xf), .val (.int (xa &&& (3 : Int32))), .val (.int (((xa.toUInt32 >>> ((2 : Int32) &&& 31).toUInt32).toInt32) &&& (3 : Int32))), .val (.ref b1), .val (.int (own_g bm52 (0 : Int32))), .val (.int (own_g bm52 (1 : Int32))), .val (.int (own_g bm52 (2 : Int32))), .val (.int (own_g bm52 (3 : Int32))), .val (.ref b57), .unset, .unset] [(.int (own_bound (xa &&& (3 : Int32)) xb bm52))]))
      refine own_by (fun _ => XS.istore X71.here hx rfl (hb hby at_136) rfl (l' := #[.val (.int xa), .val (.int xb), .val (.int xc), .val (.int xd), .val (.int xe), .val (.int xf), .val (.int (xa &&& (3 : Int32))), .val (.int (((xa.toUInt32 >>> ((2 : Int32) &&& 31).toUInt32).toInt32) &&& (3 : Int32))), .val (.ref b1), .val (.int (own_g bm52 (0 : Int32))), .val (.int (own_g bm52 (1 : Int32))), .val (.int (own_g bm52 (2 : Int32))), .val (.int (own_g bm52 (3 : Int32))), .val (.ref b57), .val (.int (own_bound (xa &&& (3 : Int32)) xb bm52)), .unset]) rfl) ?_
      show own_Go p e below _ (T71.setTop (mkF m 138 #[.val (.int xa), .val (.int xb), .val (.int xc), .val (.int xd), .val (.int xe), .val (.int xf), .val (.int (xa &&& (3 : Int32))), .val (.int (((xa.toUInt32 >>> ((2 : Int32) &&& 31).toUInt32).toInt32) &&& (3 : Int32))), .val (.ref b1), .val (.int (own_g bm52 (0 : Int32))), .val (.int (own_g bm52 (1 : Int32))), .val (.int (own_g bm52 (2 : Int32))), .val (.int (own_g bm52 (3 : Int32))), .val (.ref b57), .val (.int (own_bound (xa &&& (3 : Int32)) xb bm52)), .unset] []))
      refine own_by (fun _ => XS.iload X71.here hx rfl (hb hby at_138) rfl) ?_
      show own_Go p e below _ (T71.setTop (mkF m 140 #[.val (.int xa), .val (.int xb), .val (.int xc), .val (.int xd), .val (.int xe), .val (.int xf), .val (.int (xa &&& (3 : Int32))), .val (.int (((xa.toUInt32 >>> ((2 : Int32) &&& 31).toUInt32).toInt32) &&& (3 : Int32))), .val (.ref b1), .val (.int (own_g bm52 (0 : Int32))), .val (.int (own_g bm52 (1 : Int32))), .val (.int (own_g bm52 (2 : Int32))), .val (.int (own_g bm52 (3 : Int32))), .val (.ref b57), .val (.int (own_bound (xa &&& (3 : Int32)) xb bm52)), .unset] [(.int (((xa.toUInt32 >>> ((2 : Int32) &&& 31).toUInt32).toInt32) &&& (3 : Int32)))]))
      refine own_by (fun _ => XS.iconst X71.here hx rfl (hb hby at_140)) ?_
      show own_Go p e below _ (T71.setTop (mkF m 141 #[.val (.int xa), .val (.int xb), .val (.int xc), .val (.int xd), .val (.int xe), .val (.int xf), .val (.int (xa &&& (3 : Int32))), .val (.int (((xa.toUInt32 >>> ((2 : Int32) &&& 31).toUInt32).toInt32) &&& (3 : Int32))), .val (.ref b1), .val (.int (own_g bm52 (0 : Int32))), .val (.int (own_g bm52 (1 : Int32))), .val (.int (own_g bm52 (2 : Int32))), .val (.int (own_g bm52 (3 : Int32))), .val (.ref b57), .val (.int (own_bound (xa &&& (3 : Int32)) xb bm52)), .unset] [(.int (1 : Int32)), (.int (((xa.toUInt32 >>> ((2 : Int32) &&& 31).toUInt32).toInt32) &&& (3 : Int32)))]))
      refine own_by (fun _ => XS.icmpYes X71.here hx rfl (pc0 := 141) (pc' := 150) rfl (hb hby at_141) rfl (feq hc38_11).2 (by decide) (by decide)) ?_
      show own_Go p e below _ (T71.setTop (mkF m 150 #[.val (.int xa), .val (.int xb), .val (.int xc), .val (.int xd), .val (.int xe), .val (.int xf), .val (.int (xa &&& (3 : Int32))), .val (.int (((xa.toUInt32 >>> ((2 : Int32) &&& 31).toUInt32).toInt32) &&& (3 : Int32))), .val (.ref b1), .val (.int (own_g bm52 (0 : Int32))), .val (.int (own_g bm52 (1 : Int32))), .val (.int (own_g bm52 (2 : Int32))), .val (.int (own_g bm52 (3 : Int32))), .val (.ref b57), .val (.int (own_bound (xa &&& (3 : Int32)) xb bm52)), .unset] []))
      refine own_by (fun _ => XS.iload X71.here hx rfl (hb hby at_150) rfl) ?_
      show own_Go p e below _ (T71.setTop (mkF m 152 #[.val (.int xa), .val (.int xb), .val (.int xc), .val (.int xd), .val (.int xe), .val (.int xf), .val (.int (xa &&& (3 : Int32))), .val (.int (((xa.toUInt32 >>> ((2 : Int32) &&& 31).toUInt32).toInt32) &&& (3 : Int32))), .val (.ref b1), .val (.int (own_g bm52 (0 : Int32))), .val (.int (own_g bm52 (1 : Int32))), .val (.int (own_g bm52 (2 : Int32))), .val (.int (own_g bm52 (3 : Int32))), .val (.ref b57), .val (.int (own_bound (xa &&& (3 : Int32)) xb bm52)), .unset] [(.int (((xa.toUInt32 >>> ((2 : Int32) &&& 31).toUInt32).toInt32) &&& (3 : Int32)))]))
      refine own_by (fun _ => XS.iconst X71.here hx rfl (hb hby at_152)) ?_
      show own_Go p e below _ (T71.setTop (mkF m 153 #[.val (.int xa), .val (.int xb), .val (.int xc), .val (.int xd), .val (.int xe), .val (.int xf), .val (.int (xa &&& (3 : Int32))), .val (.int (((xa.toUInt32 >>> ((2 : Int32) &&& 31).toUInt32).toInt32) &&& (3 : Int32))), .val (.ref b1), .val (.int (own_g bm52 (0 : Int32))), .val (.int (own_g bm52 (1 : Int32))), .val (.int (own_g bm52 (2 : Int32))), .val (.int (own_g bm52 (3 : Int32))), .val (.ref b57), .val (.int (own_bound (xa &&& (3 : Int32)) xb bm52)), .unset] [(.int (2 : Int32)), (.int (((xa.toUInt32 >>> ((2 : Int32) &&& 31).toUInt32).toInt32) &&& (3 : Int32)))]))
      refine own_by (fun _ => XS.icmpNo X71.here hx rfl (hb hby at_153) rfl (teq hc53_41).2) ?_
      show own_Go p e below _ (T71.setTop (mkF m 156 #[.val (.int xa), .val (.int xb), .val (.int xc), .val (.int xd), .val (.int xe), .val (.int xf), .val (.int (xa &&& (3 : Int32))), .val (.int (((xa.toUInt32 >>> ((2 : Int32) &&& 31).toUInt32).toInt32) &&& (3 : Int32))), .val (.ref b1), .val (.int (own_g bm52 (0 : Int32))), .val (.int (own_g bm52 (1 : Int32))), .val (.int (own_g bm52 (2 : Int32))), .val (.int (own_g bm52 (3 : Int32))), .val (.ref b57), .val (.int (own_bound (xa &&& (3 : Int32)) xb bm52)), .unset] []))
      refine own_by (fun _ => XS.iconst X71.here hx rfl (hb hby at_156)) ?_
      show own_Go p e below _ (T71.setTop (mkF m 157 #[.val (.int xa), .val (.int xb), .val (.int xc), .val (.int xd), .val (.int xe), .val (.int xf), .val (.int (xa &&& (3 : Int32))), .val (.int (((xa.toUInt32 >>> ((2 : Int32) &&& 31).toUInt32).toInt32) &&& (3 : Int32))), .val (.ref b1), .val (.int (own_g bm52 (0 : Int32))), .val (.int (own_g bm52 (1 : Int32))), .val (.int (own_g bm52 (2 : Int32))), .val (.int (own_g bm52 (3 : Int32))), .val (.ref b57), .val (.int (own_bound (xa &&& (3 : Int32)) xb bm52)), .unset] [(.int (0 : Int32))]))
      refine own_by (fun _ => XS.istore X71.here hx rfl (hb hby at_157) rfl (l' := #[.val (.int xa), .val (.int xb), .val (.int xc), .val (.int xd), .val (.int xe), .val (.int xf), .val (.int (xa &&& (3 : Int32))), .val (.int (((xa.toUInt32 >>> ((2 : Int32) &&& 31).toUInt32).toInt32) &&& (3 : Int32))), .val (.ref b1), .val (.int (own_g bm52 (0 : Int32))), .val (.int (own_g bm52 (1 : Int32))), .val (.int (own_g bm52 (2 : Int32))), .val (.int (own_g bm52 (3 : Int32))), .val (.ref b57), .val (.int (own_bound (xa &&& (3 : Int32)) xb bm52)), .val (.int (0 : Int32))]) rfl) ?_
      show own_Go p e below _ (T71.setTop (mkF m 159 #[.val (.int xa), .val (.int xb), .val (.int xc), .val (.int xd), .val (.int xe), .val (.int xf), .val (.int (xa &&& (3 : Int32))), .val (.int (((xa.toUInt32 >>> ((2 : Int32) &&& 31).toUInt32).toInt32) &&& (3 : Int32))), .val (.ref b1), .val (.int (own_g bm52 (0 : Int32))), .val (.int (own_g bm52 (1 : Int32))), .val (.int (own_g bm52 (2 : Int32))), .val (.int (own_g bm52 (3 : Int32))), .val (.ref b57), .val (.int (own_bound (xa &&& (3 : Int32)) xb bm52)), .val (.int (0 : Int32))] []))
      refine own_by (fun _ => XS.goto X71.here hx rfl (pc0 := 159) (pc' := 184) rfl (hb hby at_159) (by decide) (by decide)) ?_
      show own_Go p e below _ (T71.setTop (mkF m 184 #[.val (.int xa), .val (.int xb), .val (.int xc), .val (.int xd), .val (.int xe), .val (.int xf), .val (.int (xa &&& (3 : Int32))), .val (.int (((xa.toUInt32 >>> ((2 : Int32) &&& 31).toUInt32).toInt32) &&& (3 : Int32))), .val (.ref b1), .val (.int (own_g bm52 (0 : Int32))), .val (.int (own_g bm52 (1 : Int32))), .val (.int (own_g bm52 (2 : Int32))), .val (.int (own_g bm52 (3 : Int32))), .val (.ref b57), .val (.int (own_bound (xa &&& (3 : Int32)) xb bm52)), .val (.int (0 : Int32))] []))
      refine own_by (fun _ => XS.iload X71.here hx rfl (hb hby at_184) rfl) ?_
      show own_Go p e below _ (T71.setTop (mkF m 186 #[.val (.int xa), .val (.int xb), .val (.int xc), .val (.int xd), .val (.int xe), .val (.int xf), .val (.int (xa &&& (3 : Int32))), .val (.int (((xa.toUInt32 >>> ((2 : Int32) &&& 31).toUInt32).toInt32) &&& (3 : Int32))), .val (.ref b1), .val (.int (own_g bm52 (0 : Int32))), .val (.int (own_g bm52 (1 : Int32))), .val (.int (own_g bm52 (2 : Int32))), .val (.int (own_g bm52 (3 : Int32))), .val (.ref b57), .val (.int (own_bound (xa &&& (3 : Int32)) xb bm52)), .val (.int (0 : Int32))] [(.int (own_bound (xa &&& (3 : Int32)) xb bm52))]))
      refine own_by (fun _ => XS.iload X71.here hx rfl (hb hby at_186) rfl) ?_
      show own_Go p e below _ (T71.setTop (mkF m 188 #[.val (.int xa), .val (.int xb), .val (.int xc), .val (.int xd), .val (.int xe), .val (.int xf), .val (.int (xa &&& (3 : Int32))), .val (.int (((xa.toUInt32 >>> ((2 : Int32) &&& 31).toUInt32).toInt32) &&& (3 : Int32))), .val (.ref b1), .val (.int (own_g bm52 (0 : Int32))), .val (.int (own_g bm52 (1 : Int32))), .val (.int (own_g bm52 (2 : Int32))), .val (.int (own_g bm52 (3 : Int32))), .val (.ref b57), .val (.int (own_bound (xa &&& (3 : Int32)) xb bm52)), .val (.int (0 : Int32))] [(.int (0 : Int32)), (.int (own_bound (xa &&& (3 : Int32)) xb bm52))]))
      suffices J73 : ∀ (T' : State) (v73_t0 : Int32), v73_t0 = (if (own_bound (xa &&& (3 : Int32)) xb bm52) = (0 : Int32) then (1 : Int32) else (0 : Int32)) → own_At p l e room_1 (s.setVm T58.vm) m #[(.int xa), (.int xb), (.int xc), (.int xd), (.int xe), (.int xf)] below meth c n0 T' T69.heap 5 17 → own_Go p e below (own_EndW s below (own_Q0 Z xa xb xc xd xe xf h0 n0) room_1.cells room_1.slots) (T'.setTop (mkF m 232 #[.val (.int xa), .val (.int xb), .val (.int xc), .val (.int xd), .val (.int xe), .val (.int xf), .val (.int (xa &&& (3 : Int32))), .val (.int (((xa.toUInt32 >>> ((2 : Int32) &&& 31).toUInt32).toInt32) &&& (3 : Int32))), .val (.ref b1), .val (.int (own_g bm52 (0 : Int32))), .val (.int (own_g bm52 (1 : Int32))), .val (.int (own_g bm52 (2 : Int32))), .val (.int (own_g bm52 (3 : Int32))), .val (.ref b57), .val (.int (own_bound (xa &&& (3 : Int32)) xb bm52)), .val (.int (0 : Int32))] [(.int v73_t0)])) by
        by_cases hc188_74 : (own_bound (xa &&& (3 : Int32)) xb bm52) = (0 : Int32)
        ·
          skip
          refine own_by (fun _ => XS.icmpNo X71.here hx rfl (hb hby at_188) rfl (teq hc188_74).2) ?_
          show own_Go p e below _ (T71.setTop (mkF m 191 #[.val (.int xa), .val (.int xb), .val (.int xc), .val (.int xd), .val (.int xe), .val (.int xf), .val (.int (xa &&& (3 : Int32))), .val (.int (((xa.toUInt32 >>> ((2 : Int32) &&& 31).toUInt32).toInt32) &&& (3 : Int32))), .val (.ref b1), .val (.int (own_g bm52 (0 : Int32))), .val (.int (own_g bm52 (1 : Int32))), .val (.int (own_g bm52 (2 : Int32))), .val (.int (own_g bm52 (3 : Int32))), .val (.ref b57), .val (.int (own_bound (xa &&& (3 : Int32)) xb bm52)), .val (.int (0 : Int32))] []))
          refine own_by (fun _ => XS.aload X71.here hx rfl (hb hby at_191) rfl rfl) ?_
          show own_Go p e below _ (T71.setTop (mkF m 193 #[.val (.int xa), .val (.int xb), .val (.int xc), .val (.int xd), .val (.int xe), .val (.int xf), .val (.int (xa &&& (3 : Int32))), .val (.int (((xa.toUInt32 >>> ((2 : Int32) &&& 31).toUInt32).toInt32) &&& (3 : Int32))), .val (.ref b1), .val (.int (own_g bm52 (0 : Int32))), .val (.int (own_g bm52 (1 : Int32))), .val (.int (own_g bm52 (2 : Int32))), .val (.int (own_g bm52 (3 : Int32))), .val (.ref b57), .val (.int (own_bound (xa &&& (3 : Int32)) xb bm52)), .val (.int (0 : Int32))] [(.ref b1)]))
          refine own_by (fun _ => XS.iconst X71.here hx rfl (hb hby at_193)) ?_
          show own_Go p e below _ (T71.setTop (mkF m 194 #[.val (.int xa), .val (.int xb), .val (.int xc), .val (.int xd), .val (.int xe), .val (.int xf), .val (.int (xa &&& (3 : Int32))), .val (.int (((xa.toUInt32 >>> ((2 : Int32) &&& 31).toUInt32).toInt32) &&& (3 : Int32))), .val (.ref b1), .val (.int (own_g bm52 (0 : Int32))), .val (.int (own_g bm52 (1 : Int32))), .val (.int (own_g bm52 (2 : Int32))), .val (.int (own_g bm52 (3 : Int32))), .val (.ref b57), .val (.int (own_bound (xa &&& (3 : Int32)) xb bm52)), .val (.int (0 : Int32))] [(.int (0 : Int32)), (.ref b1)]))
          obtain ⟨cl75, ar75, q75, sz75, nn75, hs75, gs75⟩ := id f70
          have hin75 : ¬ ((0 : Int32) < 0 ∨ cl75.slots.size ≤ ((0 : Int32)).toNatClampNeg) := inb_of sz75 ⟨by decide, by decide⟩
          refine own_by (X71.iaload hx (j := (0 : Int32)) (v := (.int (own_g bm52 (0 : Int32)))) (by rw [e71]; exact ar75.1) (State.isArrayOf_alike hZ.alike ar75.2.1) ar75.2.2 hin75 (hs75.at hin75 (own_g_eq bm52 (0 : Int32))) (g := (mkF m 194 #[.val (.int xa), .val (.int xb), .val (.int xc), .val (.int xd), .val (.int xe), .val (.int xf), .val (.int (xa &&& (3 : Int32))), .val (.int (((xa.toUInt32 >>> ((2 : Int32) &&& 31).toUInt32).toInt32) &&& (3 : Int32))), .val (.ref b1), .val (.int (own_g bm52 (0 : Int32))), .val (.int (own_g bm52 (1 : Int32))), .val (.int (own_g bm52 (2 : Int32))), .val (.int (own_g bm52 (3 : Int32))), .val (.ref b57), .val (.int (own_bound (xa &&& (3 : Int32)) xb bm52)), .val (.int (0 : Int32))] [(.int (0 : Int32)), (.ref b1)])) rfl rfl (hb hby at_194)) ?_
          show own_Go p e below _ (T71.setTop (mkF m 195 #[.val (.int xa), .val (.int xb), .val (.int xc), .val (.int xd), .val (.int xe), .val (.int xf), .val (.int (xa &&& (3 : Int32))), .val (.int (((xa.toUInt32 >>> ((2 : Int32) &&& 31).toUInt32).toInt32) &&& (3 : Int32))), .val (.ref b1), .val (.int (own_g bm52 (0 : Int32))), .val (.int (own_g bm52 (1 : Int32))), .val (.int (own_g bm52 (2 : Int32))), .val (.int (own_g bm52 (3 : Int32))), .val (.ref b57), .val (.int (own_bound (xa &&& (3 : Int32)) xb bm52)), .val (.int (0 : Int32))] [(.int (own_g bm52 (0 : Int32)))]))
          refine own_by (fun _ => XS.iload X71.here hx rfl (hb hby at_195) rfl) ?_
          show own_Go p e below _ (T71.setTop (mkF m 197 #[.val (.int xa), .val (.int xb), .val (.int xc), .val (.int xd), .val (.int xe), .val (.int xf), .val (.int (xa &&& (3 : Int32))), .val (.int (((xa.toUInt32 >>> ((2 : Int32) &&& 31).toUInt32).toInt32) &&& (3 : Int32))), .val (.ref b1), .val (.int (own_g bm52 (0 : Int32))), .val (.int (own_g bm52 (1 : Int32))), .val (.int (own_g bm52 (2 : Int32))), .val (.int (own_g bm52 (3 : Int32))), .val (.ref b57), .val (.int (own_bound (xa &&& (3 : Int32)) xb bm52)), .val (.int (0 : Int32))] [(.int (own_g bm52 (0 : Int32))), (.int (own_g bm52 (0 : Int32)))]))
          refine own_by (fun _ => XS.icmpNo X71.here hx rfl (hb hby at_197) rfl (teq (rfl : (own_g bm52 (0 : Int32)) = (own_g bm52 (0 : Int32)))).2) ?_
          show own_Go p e below _ (T71.setTop (mkF m 200 #[.val (.int xa), .val (.int xb), .val (.int xc), .val (.int xd), .val (.int xe), .val (.int xf), .val (.int (xa &&& (3 : Int32))), .val (.int (((xa.toUInt32 >>> ((2 : Int32) &&& 31).toUInt32).toInt32) &&& (3 : Int32))), .val (.ref b1), .val (.int (own_g bm52 (0 : Int32))), .val (.int (own_g bm52 (1 : Int32))), .val (.int (own_g bm52 (2 : Int32))), .val (.int (own_g bm52 (3 : Int32))), .val (.ref b57), .val (.int (own_bound (xa &&& (3 : Int32)) xb bm52)), .val (.int (0 : Int32))] []))
          refine own_by (fun _ => XS.aload X71.here hx rfl (hb hby at_200) rfl rfl) ?_
          show own_Go p e below _ (T71.setTop (mkF m 202 #[.val (.int xa), .val (.int xb), .val (.int xc), .val (.int xd), .val (.int xe), .val (.int xf), .val (.int (xa &&& (3 : Int32))), .val (.int (((xa.toUInt32 >>> ((2 : Int32) &&& 31).toUInt32).toInt32) &&& (3 : Int32))), .val (.ref b1), .val (.int (own_g bm52 (0 : Int32))), .val (.int (own_g bm52 (1 : Int32))), .val (.int (own_g bm52 (2 : Int32))), .val (.int (own_g bm52 (3 : Int32))), .val (.ref b57), .val (.int (own_bound (xa &&& (3 : Int32)) xb bm52)), .val (.int (0 : Int32))] [(.ref b1)]))
          refine own_by (fun _ => XS.iconst X71.here hx rfl (hb hby at_202)) ?_
          show own_Go p e below _ (T71.setTop (mkF m 203 #[.val (.int xa), .val (.int xb), .val (.int xc), .val (.int xd), .val (.int xe), .val (.int xf), .val (.int (xa &&& (3 : Int32))), .val (.int (((xa.toUInt32 >>> ((2 : Int32) &&& 31).toUInt32).toInt32) &&& (3 : Int32))), .val (.ref b1), .val (.int (own_g bm52 (0 : Int32))), .val (.int (own_g bm52 (1 : Int32))), .val (.int (own_g bm52 (2 : Int32))), .val (.int (own_g bm52 (3 : Int32))), .val (.ref b57), .val (.int (own_bound (xa &&& (3 : Int32)) xb bm52)), .val (.int (0 : Int32))] [(.int (1 : Int32)), (.ref b1)]))
          obtain ⟨cl76, ar76, q76, sz76, nn76, hs76, gs76⟩ := id f70
          have hin76 : ¬ ((1 : Int32) < 0 ∨ cl76.slots.size ≤ ((1 : Int32)).toNatClampNeg) := inb_of sz76 ⟨by decide, by decide⟩
          refine own_by (X71.iaload hx (j := (1 : Int32)) (v := (.int (own_g bm52 (1 : Int32)))) (by rw [e71]; exact ar76.1) (State.isArrayOf_alike hZ.alike ar76.2.1) ar76.2.2 hin76 (hs76.at hin76 (own_g_eq bm52 (1 : Int32))) (g := (mkF m 203 #[.val (.int xa), .val (.int xb), .val (.int xc), .val (.int xd), .val (.int xe), .val (.int xf), .val (.int (xa &&& (3 : Int32))), .val (.int (((xa.toUInt32 >>> ((2 : Int32) &&& 31).toUInt32).toInt32) &&& (3 : Int32))), .val (.ref b1), .val (.int (own_g bm52 (0 : Int32))), .val (.int (own_g bm52 (1 : Int32))), .val (.int (own_g bm52 (2 : Int32))), .val (.int (own_g bm52 (3 : Int32))), .val (.ref b57), .val (.int (own_bound (xa &&& (3 : Int32)) xb bm52)), .val (.int (0 : Int32))] [(.int (1 : Int32)), (.ref b1)])) rfl rfl (hb hby at_203)) ?_
          show own_Go p e below _ (T71.setTop (mkF m 204 #[.val (.int xa), .val (.int xb), .val (.int xc), .val (.int xd), .val (.int xe), .val (.int xf), .val (.int (xa &&& (3 : Int32))), .val (.int (((xa.toUInt32 >>> ((2 : Int32) &&& 31).toUInt32).toInt32) &&& (3 : Int32))), .val (.ref b1), .val (.int (own_g bm52 (0 : Int32))), .val (.int (own_g bm52 (1 : Int32))), .val (.int (own_g bm52 (2 : Int32))), .val (.int (own_g bm52 (3 : Int32))), .val (.ref b57), .val (.int (own_bound (xa &&& (3 : Int32)) xb bm52)), .val (.int (0 : Int32))] [(.int (own_g bm52 (1 : Int32)))]))
          refine own_by (fun _ => XS.iload X71.here hx rfl (hb hby at_204) rfl) ?_
          show own_Go p e below _ (T71.setTop (mkF m 206 #[.val (.int xa), .val (.int xb), .val (.int xc), .val (.int xd), .val (.int xe), .val (.int xf), .val (.int (xa &&& (3 : Int32))), .val (.int (((xa.toUInt32 >>> ((2 : Int32) &&& 31).toUInt32).toInt32) &&& (3 : Int32))), .val (.ref b1), .val (.int (own_g bm52 (0 : Int32))), .val (.int (own_g bm52 (1 : Int32))), .val (.int (own_g bm52 (2 : Int32))), .val (.int (own_g bm52 (3 : Int32))), .val (.ref b57), .val (.int (own_bound (xa &&& (3 : Int32)) xb bm52)), .val (.int (0 : Int32))] [(.int (own_g bm52 (1 : Int32))), (.int (own_g bm52 (1 : Int32)))]))
          refine own_by (fun _ => XS.icmpNo X71.here hx rfl (hb hby at_206) rfl (teq (rfl : (own_g bm52 (1 : Int32)) = (own_g bm52 (1 : Int32)))).2) ?_
          show own_Go p e below _ (T71.setTop (mkF m 209 #[.val (.int xa), .val (.int xb), .val (.int xc), .val (.int xd), .val (.int xe), .val (.int xf), .val (.int (xa &&& (3 : Int32))), .val (.int (((xa.toUInt32 >>> ((2 : Int32) &&& 31).toUInt32).toInt32) &&& (3 : Int32))), .val (.ref b1), .val (.int (own_g bm52 (0 : Int32))), .val (.int (own_g bm52 (1 : Int32))), .val (.int (own_g bm52 (2 : Int32))), .val (.int (own_g bm52 (3 : Int32))), .val (.ref b57), .val (.int (own_bound (xa &&& (3 : Int32)) xb bm52)), .val (.int (0 : Int32))] []))
          refine own_by (fun _ => XS.aload X71.here hx rfl (hb hby at_209) rfl rfl) ?_
          show own_Go p e below _ (T71.setTop (mkF m 211 #[.val (.int xa), .val (.int xb), .val (.int xc), .val (.int xd), .val (.int xe), .val (.int xf), .val (.int (xa &&& (3 : Int32))), .val (.int (((xa.toUInt32 >>> ((2 : Int32) &&& 31).toUInt32).toInt32) &&& (3 : Int32))), .val (.ref b1), .val (.int (own_g bm52 (0 : Int32))), .val (.int (own_g bm52 (1 : Int32))), .val (.int (own_g bm52 (2 : Int32))), .val (.int (own_g bm52 (3 : Int32))), .val (.ref b57), .val (.int (own_bound (xa &&& (3 : Int32)) xb bm52)), .val (.int (0 : Int32))] [(.ref b1)]))
          refine own_by (fun _ => XS.iconst X71.here hx rfl (hb hby at_211)) ?_
          show own_Go p e below _ (T71.setTop (mkF m 212 #[.val (.int xa), .val (.int xb), .val (.int xc), .val (.int xd), .val (.int xe), .val (.int xf), .val (.int (xa &&& (3 : Int32))), .val (.int (((xa.toUInt32 >>> ((2 : Int32) &&& 31).toUInt32).toInt32) &&& (3 : Int32))), .val (.ref b1), .val (.int (own_g bm52 (0 : Int32))), .val (.int (own_g bm52 (1 : Int32))), .val (.int (own_g bm52 (2 : Int32))), .val (.int (own_g bm52 (3 : Int32))), .val (.ref b57), .val (.int (own_bound (xa &&& (3 : Int32)) xb bm52)), .val (.int (0 : Int32))] [(.int (2 : Int32)), (.ref b1)]))
          obtain ⟨cl77, ar77, q77, sz77, nn77, hs77, gs77⟩ := id f70
          have hin77 : ¬ ((2 : Int32) < 0 ∨ cl77.slots.size ≤ ((2 : Int32)).toNatClampNeg) := inb_of sz77 ⟨by decide, by decide⟩
          refine own_by (X71.iaload hx (j := (2 : Int32)) (v := (.int (own_g bm52 (2 : Int32)))) (by rw [e71]; exact ar77.1) (State.isArrayOf_alike hZ.alike ar77.2.1) ar77.2.2 hin77 (hs77.at hin77 (own_g_eq bm52 (2 : Int32))) (g := (mkF m 212 #[.val (.int xa), .val (.int xb), .val (.int xc), .val (.int xd), .val (.int xe), .val (.int xf), .val (.int (xa &&& (3 : Int32))), .val (.int (((xa.toUInt32 >>> ((2 : Int32) &&& 31).toUInt32).toInt32) &&& (3 : Int32))), .val (.ref b1), .val (.int (own_g bm52 (0 : Int32))), .val (.int (own_g bm52 (1 : Int32))), .val (.int (own_g bm52 (2 : Int32))), .val (.int (own_g bm52 (3 : Int32))), .val (.ref b57), .val (.int (own_bound (xa &&& (3 : Int32)) xb bm52)), .val (.int (0 : Int32))] [(.int (2 : Int32)), (.ref b1)])) rfl rfl (hb hby at_212)) ?_
          show own_Go p e below _ (T71.setTop (mkF m 213 #[.val (.int xa), .val (.int xb), .val (.int xc), .val (.int xd), .val (.int xe), .val (.int xf), .val (.int (xa &&& (3 : Int32))), .val (.int (((xa.toUInt32 >>> ((2 : Int32) &&& 31).toUInt32).toInt32) &&& (3 : Int32))), .val (.ref b1), .val (.int (own_g bm52 (0 : Int32))), .val (.int (own_g bm52 (1 : Int32))), .val (.int (own_g bm52 (2 : Int32))), .val (.int (own_g bm52 (3 : Int32))), .val (.ref b57), .val (.int (own_bound (xa &&& (3 : Int32)) xb bm52)), .val (.int (0 : Int32))] [(.int (own_g bm52 (2 : Int32)))]))
          refine own_by (fun _ => XS.iload X71.here hx rfl (hb hby at_213) rfl) ?_
          show own_Go p e below _ (T71.setTop (mkF m 215 #[.val (.int xa), .val (.int xb), .val (.int xc), .val (.int xd), .val (.int xe), .val (.int xf), .val (.int (xa &&& (3 : Int32))), .val (.int (((xa.toUInt32 >>> ((2 : Int32) &&& 31).toUInt32).toInt32) &&& (3 : Int32))), .val (.ref b1), .val (.int (own_g bm52 (0 : Int32))), .val (.int (own_g bm52 (1 : Int32))), .val (.int (own_g bm52 (2 : Int32))), .val (.int (own_g bm52 (3 : Int32))), .val (.ref b57), .val (.int (own_bound (xa &&& (3 : Int32)) xb bm52)), .val (.int (0 : Int32))] [(.int (own_g bm52 (2 : Int32))), (.int (own_g bm52 (2 : Int32)))]))
          refine own_by (fun _ => XS.icmpNo X71.here hx rfl (hb hby at_215) rfl (teq (rfl : (own_g bm52 (2 : Int32)) = (own_g bm52 (2 : Int32)))).2) ?_
          show own_Go p e below _ (T71.setTop (mkF m 218 #[.val (.int xa), .val (.int xb), .val (.int xc), .val (.int xd), .val (.int xe), .val (.int xf), .val (.int (xa &&& (3 : Int32))), .val (.int (((xa.toUInt32 >>> ((2 : Int32) &&& 31).toUInt32).toInt32) &&& (3 : Int32))), .val (.ref b1), .val (.int (own_g bm52 (0 : Int32))), .val (.int (own_g bm52 (1 : Int32))), .val (.int (own_g bm52 (2 : Int32))), .val (.int (own_g bm52 (3 : Int32))), .val (.ref b57), .val (.int (own_bound (xa &&& (3 : Int32)) xb bm52)), .val (.int (0 : Int32))] []))
          refine own_by (fun _ => XS.aload X71.here hx rfl (hb hby at_218) rfl rfl) ?_
          show own_Go p e below _ (T71.setTop (mkF m 220 #[.val (.int xa), .val (.int xb), .val (.int xc), .val (.int xd), .val (.int xe), .val (.int xf), .val (.int (xa &&& (3 : Int32))), .val (.int (((xa.toUInt32 >>> ((2 : Int32) &&& 31).toUInt32).toInt32) &&& (3 : Int32))), .val (.ref b1), .val (.int (own_g bm52 (0 : Int32))), .val (.int (own_g bm52 (1 : Int32))), .val (.int (own_g bm52 (2 : Int32))), .val (.int (own_g bm52 (3 : Int32))), .val (.ref b57), .val (.int (own_bound (xa &&& (3 : Int32)) xb bm52)), .val (.int (0 : Int32))] [(.ref b1)]))
          refine own_by (fun _ => XS.iconst X71.here hx rfl (hb hby at_220)) ?_
          show own_Go p e below _ (T71.setTop (mkF m 221 #[.val (.int xa), .val (.int xb), .val (.int xc), .val (.int xd), .val (.int xe), .val (.int xf), .val (.int (xa &&& (3 : Int32))), .val (.int (((xa.toUInt32 >>> ((2 : Int32) &&& 31).toUInt32).toInt32) &&& (3 : Int32))), .val (.ref b1), .val (.int (own_g bm52 (0 : Int32))), .val (.int (own_g bm52 (1 : Int32))), .val (.int (own_g bm52 (2 : Int32))), .val (.int (own_g bm52 (3 : Int32))), .val (.ref b57), .val (.int (own_bound (xa &&& (3 : Int32)) xb bm52)), .val (.int (0 : Int32))] [(.int (3 : Int32)), (.ref b1)]))
          obtain ⟨cl78, ar78, q78, sz78, nn78, hs78, gs78⟩ := id f70
          have hin78 : ¬ ((3 : Int32) < 0 ∨ cl78.slots.size ≤ ((3 : Int32)).toNatClampNeg) := inb_of sz78 ⟨by decide, by decide⟩
          refine own_by (X71.iaload hx (j := (3 : Int32)) (v := (.int (own_g bm52 (3 : Int32)))) (by rw [e71]; exact ar78.1) (State.isArrayOf_alike hZ.alike ar78.2.1) ar78.2.2 hin78 (hs78.at hin78 (own_g_eq bm52 (3 : Int32))) (g := (mkF m 221 #[.val (.int xa), .val (.int xb), .val (.int xc), .val (.int xd), .val (.int xe), .val (.int xf), .val (.int (xa &&& (3 : Int32))), .val (.int (((xa.toUInt32 >>> ((2 : Int32) &&& 31).toUInt32).toInt32) &&& (3 : Int32))), .val (.ref b1), .val (.int (own_g bm52 (0 : Int32))), .val (.int (own_g bm52 (1 : Int32))), .val (.int (own_g bm52 (2 : Int32))), .val (.int (own_g bm52 (3 : Int32))), .val (.ref b57), .val (.int (own_bound (xa &&& (3 : Int32)) xb bm52)), .val (.int (0 : Int32))] [(.int (3 : Int32)), (.ref b1)])) rfl rfl (hb hby at_221)) ?_
          show own_Go p e below _ (T71.setTop (mkF m 222 #[.val (.int xa), .val (.int xb), .val (.int xc), .val (.int xd), .val (.int xe), .val (.int xf), .val (.int (xa &&& (3 : Int32))), .val (.int (((xa.toUInt32 >>> ((2 : Int32) &&& 31).toUInt32).toInt32) &&& (3 : Int32))), .val (.ref b1), .val (.int (own_g bm52 (0 : Int32))), .val (.int (own_g bm52 (1 : Int32))), .val (.int (own_g bm52 (2 : Int32))), .val (.int (own_g bm52 (3 : Int32))), .val (.ref b57), .val (.int (own_bound (xa &&& (3 : Int32)) xb bm52)), .val (.int (0 : Int32))] [(.int (own_g bm52 (3 : Int32)))]))
          refine own_by (fun _ => XS.iload X71.here hx rfl (hb hby at_222) rfl) ?_
          show own_Go p e below _ (T71.setTop (mkF m 224 #[.val (.int xa), .val (.int xb), .val (.int xc), .val (.int xd), .val (.int xe), .val (.int xf), .val (.int (xa &&& (3 : Int32))), .val (.int (((xa.toUInt32 >>> ((2 : Int32) &&& 31).toUInt32).toInt32) &&& (3 : Int32))), .val (.ref b1), .val (.int (own_g bm52 (0 : Int32))), .val (.int (own_g bm52 (1 : Int32))), .val (.int (own_g bm52 (2 : Int32))), .val (.int (own_g bm52 (3 : Int32))), .val (.ref b57), .val (.int (own_bound (xa &&& (3 : Int32)) xb bm52)), .val (.int (0 : Int32))] [(.int (own_g bm52 (3 : Int32))), (.int (own_g bm52 (3 : Int32)))]))
          refine own_by (fun _ => XS.icmpNo X71.here hx rfl (hb hby at_224) rfl (teq (rfl : (own_g bm52 (3 : Int32)) = (own_g bm52 (3 : Int32)))).2) ?_
          show own_Go p e below _ (T71.setTop (mkF m 227 #[.val (.int xa), .val (.int xb), .val (.int xc), .val (.int xd), .val (.int xe), .val (.int xf), .val (.int (xa &&& (3 : Int32))), .val (.int (((xa.toUInt32 >>> ((2 : Int32) &&& 31).toUInt32).toInt32) &&& (3 : Int32))), .val (.ref b1), .val (.int (own_g bm52 (0 : Int32))), .val (.int (own_g bm52 (1 : Int32))), .val (.int (own_g bm52 (2 : Int32))), .val (.int (own_g bm52 (3 : Int32))), .val (.ref b57), .val (.int (own_bound (xa &&& (3 : Int32)) xb bm52)), .val (.int (0 : Int32))] []))
          refine own_by (fun _ => XS.iconst X71.here hx rfl (hb hby at_227)) ?_
          show own_Go p e below _ (T71.setTop (mkF m 228 #[.val (.int xa), .val (.int xb), .val (.int xc), .val (.int xd), .val (.int xe), .val (.int xf), .val (.int (xa &&& (3 : Int32))), .val (.int (((xa.toUInt32 >>> ((2 : Int32) &&& 31).toUInt32).toInt32) &&& (3 : Int32))), .val (.ref b1), .val (.int (own_g bm52 (0 : Int32))), .val (.int (own_g bm52 (1 : Int32))), .val (.int (own_g bm52 (2 : Int32))), .val (.int (own_g bm52 (3 : Int32))), .val (.ref b57), .val (.int (own_bound (xa &&& (3 : Int32)) xb bm52)), .val (.int (0 : Int32))] [(.int (1 : Int32))]))
          refine own_by (fun _ => XS.goto X71.here hx rfl (pc0 := 228) (pc' := 232) rfl (hb hby at_228) (by decide) (by decide)) ?_
          show own_Go p e below _ (T71.setTop (mkF m 232 #[.val (.int xa), .val (.int xb), .val (.int xc), .val (.int xd), .val (.int xe), .val (.int xf), .val (.int (xa &&& (3 : Int32))), .val (.int (((xa.toUInt32 >>> ((2 : Int32) &&& 31).toUInt32).toInt32) &&& (3 : Int32))), .val (.ref b1), .val (.int (own_g bm52 (0 : Int32))), .val (.int (own_g bm52 (1 : Int32))), .val (.int (own_g bm52 (2 : Int32))), .val (.int (own_g bm52 (3 : Int32))), .val (.ref b57), .val (.int (own_bound (xa &&& (3 : Int32)) xb bm52)), .val (.int (0 : Int32))] [(.int (1 : Int32))]))
          exact J73 _ _ (by first | rfl | simp only [if_pos hc188_74]) ⟨_, X71, N71, e71⟩
        ·
          skip
          refine own_by (fun _ => XS.icmpYes X71.here hx rfl (pc0 := 188) (pc' := 231) rfl (hb hby at_188) rfl (feq hc188_74).2 (by decide) (by decide)) ?_
          show own_Go p e below _ (T71.setTop (mkF m 231 #[.val (.int xa), .val (.int xb), .val (.int xc), .val (.int xd), .val (.int xe), .val (.int xf), .val (.int (xa &&& (3 : Int32))), .val (.int (((xa.toUInt32 >>> ((2 : Int32) &&& 31).toUInt32).toInt32) &&& (3 : Int32))), .val (.ref b1), .val (.int (own_g bm52 (0 : Int32))), .val (.int (own_g bm52 (1 : Int32))), .val (.int (own_g bm52 (2 : Int32))), .val (.int (own_g bm52 (3 : Int32))), .val (.ref b57), .val (.int (own_bound (xa &&& (3 : Int32)) xb bm52)), .val (.int (0 : Int32))] []))
          refine own_by (fun _ => XS.iconst X71.here hx rfl (hb hby at_231)) ?_
          show own_Go p e below _ (T71.setTop (mkF m 232 #[.val (.int xa), .val (.int xb), .val (.int xc), .val (.int xd), .val (.int xe), .val (.int xf), .val (.int (xa &&& (3 : Int32))), .val (.int (((xa.toUInt32 >>> ((2 : Int32) &&& 31).toUInt32).toInt32) &&& (3 : Int32))), .val (.ref b1), .val (.int (own_g bm52 (0 : Int32))), .val (.int (own_g bm52 (1 : Int32))), .val (.int (own_g bm52 (2 : Int32))), .val (.int (own_g bm52 (3 : Int32))), .val (.ref b57), .val (.int (own_bound (xa &&& (3 : Int32)) xb bm52)), .val (.int (0 : Int32))] [(.int (0 : Int32))]))
          exact J73 _ _ (by first | rfl | simp only [if_neg hc188_74]) ⟨_, X71, N71, e71⟩
      intro T73 v73_t0 hv73_t0 ⟨locs73, X73, N73, e73⟩
      show own_Go p e below _ (T73.setTop (mkF m 232 #[.val (.int xa), .val (.int xb), .val (.int xc), .val (.int xd), .val (.int xe), .val (.int xf), .val (.int (xa &&& (3 : Int32))), .val (.int (((xa.toUInt32 >>> ((2 : Int32) &&& 31).toUInt32).toInt32) &&& (3 : Int32))), .val (.ref b1), .val (.int (own_g bm52 (0 : Int32))), .val (.int (own_g bm52 (1 : Int32))), .val (.int (own_g bm52 (2 : Int32))), .val (.int (own_g bm52 (3 : Int32))), .val (.ref b57), .val (.int (own_bound (xa &&& (3 : Int32)) xb bm52)), .val (.int (0 : Int32))] [(.int v73_t0)]))
      exact own_retZW X73 hx hlk hS58 hkk69 e73 (by rw [hv73_t0]; (repeat' split) <;> first | exact Or.inl rfl | exact Or.inr rfl) hret (hb hby at_232) (by decide) (by decide) ⟨(congrArg some (congrArg Value.int (by subst hv73_t0; subst hbm52; subst hbl10; have own_p := own_plain xa xb xc xd xe xf; simp only [own_law, if_neg hc38_11, if_pos hc53_41] at own_p; exact own_p : v73_t0 = (1 : Int32)))), N73⟩
    ·
      skip
      refine own_by (fun _ => XS.icmpYes X9.here hx rfl (pc0 := 53) (pc' := 84) rfl (hb hby at_53) rfl (feq hc53_41).2 (by decide) (by decide)) ?_
      show own_Go p e below _ (T9.setTop (mkF m 84 #[.val (.int xa), .val (.int xb), .val (.int xc), .val (.int xd), .val (.int xe), .val (.int xf), .val (.int (xa &&& (3 : Int32))), .val (.int (((xa.toUInt32 >>> ((2 : Int32) &&& 31).toUInt32).toInt32) &&& (3 : Int32))), .val (.ref b1), .unset, .unset, .unset, .unset, .unset, .unset, .unset] []))
      refine own_by (fun _ => XS.aload X9.here hx rfl (hb hby at_84) rfl rfl) ?_
      show own_Go p e below _ (T9.setTop (mkF m 86 #[.val (.int xa), .val (.int xb), .val (.int xc), .val (.int xd), .val (.int xe), .val (.int xf), .val (.int (xa &&& (3 : Int32))), .val (.int (((xa.toUInt32 >>> ((2 : Int32) &&& 31).toUInt32).toInt32) &&& (3 : Int32))), .val (.ref b1), .unset, .unset, .unset, .unset, .unset, .unset, .unset] [(.ref b1)]))
      refine own_by (fun _ => XS.iconst X9.here hx rfl (hb hby at_86)) ?_
      show own_Go p e below _ (T9.setTop (mkF m 87 #[.val (.int xa), .val (.int xb), .val (.int xc), .val (.int xd), .val (.int xe), .val (.int xf), .val (.int (xa &&& (3 : Int32))), .val (.int (((xa.toUInt32 >>> ((2 : Int32) &&& 31).toUInt32).toInt32) &&& (3 : Int32))), .val (.ref b1), .unset, .unset, .unset, .unset, .unset, .unset, .unset] [(.int (0 : Int32)), (.ref b1)]))
      obtain ⟨cl80, ar80, q80, sz80, nn80, hs80, gs80⟩ := id fbl10
      have hin80 : ¬ ((0 : Int32) < 0 ∨ cl80.slots.size ≤ ((0 : Int32)).toNatClampNeg) := inb_of sz80 ⟨by decide, by decide⟩
      refine own_by (X9.iaload hx (j := (0 : Int32)) (v := (.int (own_g bl10 (0 : Int32)))) (by rw [e9]; exact ar80.1) (State.isArrayOf_alike hZ.alike ar80.2.1) ar80.2.2 hin80 (hs80.at hin80 (own_g_eq bl10 (0 : Int32))) (g := (mkF m 87 #[.val (.int xa), .val (.int xb), .val (.int xc), .val (.int xd), .val (.int xe), .val (.int xf), .val (.int (xa &&& (3 : Int32))), .val (.int (((xa.toUInt32 >>> ((2 : Int32) &&& 31).toUInt32).toInt32) &&& (3 : Int32))), .val (.ref b1), .unset, .unset, .unset, .unset, .unset, .unset, .unset] [(.int (0 : Int32)), (.ref b1)])) rfl rfl (hb hby at_87)) ?_
      show own_Go p e below _ (T9.setTop (mkF m 88 #[.val (.int xa), .val (.int xb), .val (.int xc), .val (.int xd), .val (.int xe), .val (.int xf), .val (.int (xa &&& (3 : Int32))), .val (.int (((xa.toUInt32 >>> ((2 : Int32) &&& 31).toUInt32).toInt32) &&& (3 : Int32))), .val (.ref b1), .unset, .unset, .unset, .unset, .unset, .unset, .unset] [(.int (own_g bl10 (0 : Int32)))]))
      refine own_by (fun _ => XS.istore X9.here hx rfl (hb hby at_88) rfl (l' := #[.val (.int xa), .val (.int xb), .val (.int xc), .val (.int xd), .val (.int xe), .val (.int xf), .val (.int (xa &&& (3 : Int32))), .val (.int (((xa.toUInt32 >>> ((2 : Int32) &&& 31).toUInt32).toInt32) &&& (3 : Int32))), .val (.ref b1), .val (.int (own_g bl10 (0 : Int32))), .unset, .unset, .unset, .unset, .unset, .unset]) rfl) ?_
      show own_Go p e below _ (T9.setTop (mkF m 90 #[.val (.int xa), .val (.int xb), .val (.int xc), .val (.int xd), .val (.int xe), .val (.int xf), .val (.int (xa &&& (3 : Int32))), .val (.int (((xa.toUInt32 >>> ((2 : Int32) &&& 31).toUInt32).toInt32) &&& (3 : Int32))), .val (.ref b1), .val (.int (own_g bl10 (0 : Int32))), .unset, .unset, .unset, .unset, .unset, .unset] []))
      refine own_by (fun _ => XS.aload X9.here hx rfl (hb hby at_90) rfl rfl) ?_
      show own_Go p e below _ (T9.setTop (mkF m 92 #[.val (.int xa), .val (.int xb), .val (.int xc), .val (.int xd), .val (.int xe), .val (.int xf), .val (.int (xa &&& (3 : Int32))), .val (.int (((xa.toUInt32 >>> ((2 : Int32) &&& 31).toUInt32).toInt32) &&& (3 : Int32))), .val (.ref b1), .val (.int (own_g bl10 (0 : Int32))), .unset, .unset, .unset, .unset, .unset, .unset] [(.ref b1)]))
      refine own_by (fun _ => XS.iconst X9.here hx rfl (hb hby at_92)) ?_
      show own_Go p e below _ (T9.setTop (mkF m 93 #[.val (.int xa), .val (.int xb), .val (.int xc), .val (.int xd), .val (.int xe), .val (.int xf), .val (.int (xa &&& (3 : Int32))), .val (.int (((xa.toUInt32 >>> ((2 : Int32) &&& 31).toUInt32).toInt32) &&& (3 : Int32))), .val (.ref b1), .val (.int (own_g bl10 (0 : Int32))), .unset, .unset, .unset, .unset, .unset, .unset] [(.int (1 : Int32)), (.ref b1)]))
      obtain ⟨cl81, ar81, q81, sz81, nn81, hs81, gs81⟩ := id fbl10
      have hin81 : ¬ ((1 : Int32) < 0 ∨ cl81.slots.size ≤ ((1 : Int32)).toNatClampNeg) := inb_of sz81 ⟨by decide, by decide⟩
      refine own_by (X9.iaload hx (j := (1 : Int32)) (v := (.int (own_g bl10 (1 : Int32)))) (by rw [e9]; exact ar81.1) (State.isArrayOf_alike hZ.alike ar81.2.1) ar81.2.2 hin81 (hs81.at hin81 (own_g_eq bl10 (1 : Int32))) (g := (mkF m 93 #[.val (.int xa), .val (.int xb), .val (.int xc), .val (.int xd), .val (.int xe), .val (.int xf), .val (.int (xa &&& (3 : Int32))), .val (.int (((xa.toUInt32 >>> ((2 : Int32) &&& 31).toUInt32).toInt32) &&& (3 : Int32))), .val (.ref b1), .val (.int (own_g bl10 (0 : Int32))), .unset, .unset, .unset, .unset, .unset, .unset] [(.int (1 : Int32)), (.ref b1)])) rfl rfl (hb hby at_93)) ?_
      show own_Go p e below _ (T9.setTop (mkF m 94 #[.val (.int xa), .val (.int xb), .val (.int xc), .val (.int xd), .val (.int xe), .val (.int xf), .val (.int (xa &&& (3 : Int32))), .val (.int (((xa.toUInt32 >>> ((2 : Int32) &&& 31).toUInt32).toInt32) &&& (3 : Int32))), .val (.ref b1), .val (.int (own_g bl10 (0 : Int32))), .unset, .unset, .unset, .unset, .unset, .unset] [(.int (own_g bl10 (1 : Int32)))]))
      refine own_by (fun _ => XS.istore X9.here hx rfl (hb hby at_94) rfl (l' := #[.val (.int xa), .val (.int xb), .val (.int xc), .val (.int xd), .val (.int xe), .val (.int xf), .val (.int (xa &&& (3 : Int32))), .val (.int (((xa.toUInt32 >>> ((2 : Int32) &&& 31).toUInt32).toInt32) &&& (3 : Int32))), .val (.ref b1), .val (.int (own_g bl10 (0 : Int32))), .val (.int (own_g bl10 (1 : Int32))), .unset, .unset, .unset, .unset, .unset]) rfl) ?_
      show own_Go p e below _ (T9.setTop (mkF m 96 #[.val (.int xa), .val (.int xb), .val (.int xc), .val (.int xd), .val (.int xe), .val (.int xf), .val (.int (xa &&& (3 : Int32))), .val (.int (((xa.toUInt32 >>> ((2 : Int32) &&& 31).toUInt32).toInt32) &&& (3 : Int32))), .val (.ref b1), .val (.int (own_g bl10 (0 : Int32))), .val (.int (own_g bl10 (1 : Int32))), .unset, .unset, .unset, .unset, .unset] []))
      refine own_by (fun _ => XS.aload X9.here hx rfl (hb hby at_96) rfl rfl) ?_
      show own_Go p e below _ (T9.setTop (mkF m 98 #[.val (.int xa), .val (.int xb), .val (.int xc), .val (.int xd), .val (.int xe), .val (.int xf), .val (.int (xa &&& (3 : Int32))), .val (.int (((xa.toUInt32 >>> ((2 : Int32) &&& 31).toUInt32).toInt32) &&& (3 : Int32))), .val (.ref b1), .val (.int (own_g bl10 (0 : Int32))), .val (.int (own_g bl10 (1 : Int32))), .unset, .unset, .unset, .unset, .unset] [(.ref b1)]))
      refine own_by (fun _ => XS.iconst X9.here hx rfl (hb hby at_98)) ?_
      show own_Go p e below _ (T9.setTop (mkF m 99 #[.val (.int xa), .val (.int xb), .val (.int xc), .val (.int xd), .val (.int xe), .val (.int xf), .val (.int (xa &&& (3 : Int32))), .val (.int (((xa.toUInt32 >>> ((2 : Int32) &&& 31).toUInt32).toInt32) &&& (3 : Int32))), .val (.ref b1), .val (.int (own_g bl10 (0 : Int32))), .val (.int (own_g bl10 (1 : Int32))), .unset, .unset, .unset, .unset, .unset] [(.int (2 : Int32)), (.ref b1)]))
      obtain ⟨cl82, ar82, q82, sz82, nn82, hs82, gs82⟩ := id fbl10
      have hin82 : ¬ ((2 : Int32) < 0 ∨ cl82.slots.size ≤ ((2 : Int32)).toNatClampNeg) := inb_of sz82 ⟨by decide, by decide⟩
      refine own_by (X9.iaload hx (j := (2 : Int32)) (v := (.int (own_g bl10 (2 : Int32)))) (by rw [e9]; exact ar82.1) (State.isArrayOf_alike hZ.alike ar82.2.1) ar82.2.2 hin82 (hs82.at hin82 (own_g_eq bl10 (2 : Int32))) (g := (mkF m 99 #[.val (.int xa), .val (.int xb), .val (.int xc), .val (.int xd), .val (.int xe), .val (.int xf), .val (.int (xa &&& (3 : Int32))), .val (.int (((xa.toUInt32 >>> ((2 : Int32) &&& 31).toUInt32).toInt32) &&& (3 : Int32))), .val (.ref b1), .val (.int (own_g bl10 (0 : Int32))), .val (.int (own_g bl10 (1 : Int32))), .unset, .unset, .unset, .unset, .unset] [(.int (2 : Int32)), (.ref b1)])) rfl rfl (hb hby at_99)) ?_
      show own_Go p e below _ (T9.setTop (mkF m 100 #[.val (.int xa), .val (.int xb), .val (.int xc), .val (.int xd), .val (.int xe), .val (.int xf), .val (.int (xa &&& (3 : Int32))), .val (.int (((xa.toUInt32 >>> ((2 : Int32) &&& 31).toUInt32).toInt32) &&& (3 : Int32))), .val (.ref b1), .val (.int (own_g bl10 (0 : Int32))), .val (.int (own_g bl10 (1 : Int32))), .unset, .unset, .unset, .unset, .unset] [(.int (own_g bl10 (2 : Int32)))]))
      refine own_by (fun _ => XS.istore X9.here hx rfl (hb hby at_100) rfl (l' := #[.val (.int xa), .val (.int xb), .val (.int xc), .val (.int xd), .val (.int xe), .val (.int xf), .val (.int (xa &&& (3 : Int32))), .val (.int (((xa.toUInt32 >>> ((2 : Int32) &&& 31).toUInt32).toInt32) &&& (3 : Int32))), .val (.ref b1), .val (.int (own_g bl10 (0 : Int32))), .val (.int (own_g bl10 (1 : Int32))), .val (.int (own_g bl10 (2 : Int32))), .unset, .unset, .unset, .unset]) rfl) ?_
      show own_Go p e below _ (T9.setTop (mkF m 102 #[.val (.int xa), .val (.int xb), .val (.int xc), .val (.int xd), .val (.int xe), .val (.int xf), .val (.int (xa &&& (3 : Int32))), .val (.int (((xa.toUInt32 >>> ((2 : Int32) &&& 31).toUInt32).toInt32) &&& (3 : Int32))), .val (.ref b1), .val (.int (own_g bl10 (0 : Int32))), .val (.int (own_g bl10 (1 : Int32))), .val (.int (own_g bl10 (2 : Int32))), .unset, .unset, .unset, .unset] []))
      refine own_by (fun _ => XS.aload X9.here hx rfl (hb hby at_102) rfl rfl) ?_
      show own_Go p e below _ (T9.setTop (mkF m 104 #[.val (.int xa), .val (.int xb), .val (.int xc), .val (.int xd), .val (.int xe), .val (.int xf), .val (.int (xa &&& (3 : Int32))), .val (.int (((xa.toUInt32 >>> ((2 : Int32) &&& 31).toUInt32).toInt32) &&& (3 : Int32))), .val (.ref b1), .val (.int (own_g bl10 (0 : Int32))), .val (.int (own_g bl10 (1 : Int32))), .val (.int (own_g bl10 (2 : Int32))), .unset, .unset, .unset, .unset] [(.ref b1)]))
      refine own_by (fun _ => XS.iconst X9.here hx rfl (hb hby at_104)) ?_
      show own_Go p e below _ (T9.setTop (mkF m 105 #[.val (.int xa), .val (.int xb), .val (.int xc), .val (.int xd), .val (.int xe), .val (.int xf), .val (.int (xa &&& (3 : Int32))), .val (.int (((xa.toUInt32 >>> ((2 : Int32) &&& 31).toUInt32).toInt32) &&& (3 : Int32))), .val (.ref b1), .val (.int (own_g bl10 (0 : Int32))), .val (.int (own_g bl10 (1 : Int32))), .val (.int (own_g bl10 (2 : Int32))), .unset, .unset, .unset, .unset] [(.int (3 : Int32)), (.ref b1)]))
      obtain ⟨cl83, ar83, q83, sz83, nn83, hs83, gs83⟩ := id fbl10
      have hin83 : ¬ ((3 : Int32) < 0 ∨ cl83.slots.size ≤ ((3 : Int32)).toNatClampNeg) := inb_of sz83 ⟨by decide, by decide⟩
      refine own_by (X9.iaload hx (j := (3 : Int32)) (v := (.int (own_g bl10 (3 : Int32)))) (by rw [e9]; exact ar83.1) (State.isArrayOf_alike hZ.alike ar83.2.1) ar83.2.2 hin83 (hs83.at hin83 (own_g_eq bl10 (3 : Int32))) (g := (mkF m 105 #[.val (.int xa), .val (.int xb), .val (.int xc), .val (.int xd), .val (.int xe), .val (.int xf), .val (.int (xa &&& (3 : Int32))), .val (.int (((xa.toUInt32 >>> ((2 : Int32) &&& 31).toUInt32).toInt32) &&& (3 : Int32))), .val (.ref b1), .val (.int (own_g bl10 (0 : Int32))), .val (.int (own_g bl10 (1 : Int32))), .val (.int (own_g bl10 (2 : Int32))), .unset, .unset, .unset, .unset] [(.int (3 : Int32)), (.ref b1)])) rfl rfl (hb hby at_105)) ?_
      show own_Go p e below _ (T9.setTop (mkF m 106 #[.val (.int xa), .val (.int xb), .val (.int xc), .val (.int xd), .val (.int xe), .val (.int xf), .val (.int (xa &&& (3 : Int32))), .val (.int (((xa.toUInt32 >>> ((2 : Int32) &&& 31).toUInt32).toInt32) &&& (3 : Int32))), .val (.ref b1), .val (.int (own_g bl10 (0 : Int32))), .val (.int (own_g bl10 (1 : Int32))), .val (.int (own_g bl10 (2 : Int32))), .unset, .unset, .unset, .unset] [(.int (own_g bl10 (3 : Int32)))]))
      refine own_by (fun _ => XS.istore X9.here hx rfl (hb hby at_106) rfl (l' := #[.val (.int xa), .val (.int xb), .val (.int xc), .val (.int xd), .val (.int xe), .val (.int xf), .val (.int (xa &&& (3 : Int32))), .val (.int (((xa.toUInt32 >>> ((2 : Int32) &&& 31).toUInt32).toInt32) &&& (3 : Int32))), .val (.ref b1), .val (.int (own_g bl10 (0 : Int32))), .val (.int (own_g bl10 (1 : Int32))), .val (.int (own_g bl10 (2 : Int32))), .val (.int (own_g bl10 (3 : Int32))), .unset, .unset, .unset]) rfl) ?_
      show own_Go p e below _ (T9.setTop (mkF m 108 #[.val (.int xa), .val (.int xb), .val (.int xc), .val (.int xd), .val (.int xe), .val (.int xf), .val (.int (xa &&& (3 : Int32))), .val (.int (((xa.toUInt32 >>> ((2 : Int32) &&& 31).toUInt32).toInt32) &&& (3 : Int32))), .val (.ref b1), .val (.int (own_g bl10 (0 : Int32))), .val (.int (own_g bl10 (1 : Int32))), .val (.int (own_g bl10 (2 : Int32))), .val (.int (own_g bl10 (3 : Int32))), .unset, .unset, .unset] []))
      obtain ⟨T84, h84, X84, e84, E84, A84, D84, -, st84⟩ := newO X9 hx hZ hown (hw _ (List.mem_of_getElem? (i := 1) rfl)) (hw _ (List.mem_of_getElem? (i := 2) rfl)) (hw _ (List.mem_of_getElem? (i := 3) rfl)) e9 (g := (mkF m 108 #[.val (.int xa), .val (.int xb), .val (.int xc), .val (.int xd), .val (.int xe), .val (.int xf), .val (.int (xa &&& (3 : Int32))), .val (.int (((xa.toUInt32 >>> ((2 : Int32) &&& 31).toUInt32).toInt32) &&& (3 : Int32))), .val (.ref b1), .val (.int (own_g bl10 (0 : Int32))), .val (.int (own_g bl10 (1 : Int32))), .val (.int (own_g bl10 (2 : Int32))), .val (.int (own_g bl10 (3 : Int32))), .unset, .unset, .unset] [])) rfl (hb hby at_108) (by decide) (by decide)
      obtain ⟨b84, g84⟩ : ∃ z, z = h9.size := ⟨_, rfl⟩
      rw [← g84] at A84 D84 st84
      refine own_by st84 ?_
      have ge84 : n0 ≤ b84 := Nat.le_trans z9 (Nat.le_of_eq g84.symm)
      have ne84_b1 : b1 ≠ b84 := Nat.ne_of_lt (Nat.lt_of_lt_of_le fbl10.lt (Nat.le_of_eq g84.symm))
      have z84 : n0 ≤ h84.size := Nat.le_trans z9 E84.1
      have fz84_id : Fld Z h84 b84 "com/example/composiq/composiq/Problem$Candidate" "id" "Ljava/lang/String;" .null := D84 (Or.inr (hw _ (List.mem_of_getElem? (i := 25) rfl))) (ty := (.object "java/lang/String")) (by decide)
      have fz84_task : Fld Z h84 b84 "com/example/composiq/composiq/Problem$Candidate" "task" "I" (.int (0 : Int32)) := D84 (Or.inr (hw _ (List.mem_of_getElem? (i := 27) rfl))) (ty := .int) (by decide)
      have fz84_index : Fld Z h84 b84 "com/example/composiq/composiq/Problem$Candidate" "index" "I" (.int (0 : Int32)) := D84 (Or.inr (hw _ (List.mem_of_getElem? (i := 29) rfl))) (ty := .int) (by decide)
      have fz84_qos : Fld Z h84 b84 "com/example/composiq/composiq/Problem$Candidate" "qos" "[D" .null := D84 (Or.inr (hw _ (List.mem_of_getElem? (i := 31) rfl))) (ty := (.array .double)) (by decide)
      show own_Go p e below _ (T84.setTop (mkF m 111 #[.val (.int xa), .val (.int xb), .val (.int xc), .val (.int xd), .val (.int xe), .val (.int xf), .val (.int (xa &&& (3 : Int32))), .val (.int (((xa.toUInt32 >>> ((2 : Int32) &&& 31).toUInt32).toInt32) &&& (3 : Int32))), .val (.ref b1), .val (.int (own_g bl10 (0 : Int32))), .val (.int (own_g bl10 (1 : Int32))), .val (.int (own_g bl10 (2 : Int32))), .val (.int (own_g bl10 (3 : Int32))), .unset, .unset, .unset] [(.ref b84)]))
      refine own_by (fun _ => XS.dup X84.here hx rfl (hb hby at_111) rfl rfl) ?_
      show own_Go p e below _ (T84.setTop (mkF m 112 #[.val (.int xa), .val (.int xb), .val (.int xc), .val (.int xd), .val (.int xe), .val (.int xf), .val (.int (xa &&& (3 : Int32))), .val (.int (((xa.toUInt32 >>> ((2 : Int32) &&& 31).toUInt32).toInt32) &&& (3 : Int32))), .val (.ref b1), .val (.int (own_g bl10 (0 : Int32))), .val (.int (own_g bl10 (1 : Int32))), .val (.int (own_g bl10 (2 : Int32))), .val (.int (own_g bl10 (3 : Int32))), .unset, .unset, .unset] [(.ref b84), (.ref b84)]))
      obtain ⟨sa85, T85, h85, k85, X85, e85, E85, hS85, hk85, hZ85, hown85, st85⟩ := ldcS (s := s) (vm0 := s.vm) X84 hx hZ hown (hw _ (List.mem_of_getElem? (i := 4) rfl)) (own_strAtoms hw) e84 ((State.WarmedH.refl s).since h84.size) (Nat.le_refl _) (g := (mkF m 112 #[.val (.int xa), .val (.int xb), .val (.int xc), .val (.int xd), .val (.int xe), .val (.int xf), .val (.int (xa &&& (3 : Int32))), .val (.int (((xa.toUInt32 >>> ((2 : Int32) &&& 31).toUInt32).toInt32) &&& (3 : Int32))), .val (.ref b1), .val (.int (own_g bl10 (0 : Int32))), .val (.int (own_g bl10 (1 : Int32))), .val (.int (own_g bl10 (2 : Int32))), .val (.int (own_g bl10 (3 : Int32))), .unset, .unset, .unset] [(.ref b84), (.ref b84)])) rfl (hb hby at_112) (n := 4) (by decide) (by decide) (by decide) (by decide)
      have hZ := hZ85
      have hown := hown85
      refine own_by st85 ?_
      have z85 : n0 ≤ h85.size := Nat.le_trans z84 E85.1
      show own_Go p e below _ (T85.setTop (mkF m 114 #[.val (.int xa), .val (.int xb), .val (.int xc), .val (.int xd), .val (.int xe), .val (.int xf), .val (.int (xa &&& (3 : Int32))), .val (.int (((xa.toUInt32 >>> ((2 : Int32) &&& 31).toUInt32).toInt32) &&& (3 : Int32))), .val (.ref b1), .val (.int (own_g bl10 (0 : Int32))), .val (.int (own_g bl10 (1 : Int32))), .val (.int (own_g bl10 (2 : Int32))), .val (.int (own_g bl10 (3 : Int32))), .unset, .unset, .unset] [(.ref sa85), (.ref b84), (.ref b84)]))
      refine own_by (fun _ => XS.iload X85.here hx rfl (hb hby at_114) rfl) ?_
      show own_Go p e below _ (T85.setTop (mkF m 116 #[.val (.int xa), .val (.int xb), .val (.int xc), .val (.int xd), .val (.int xe), .val (.int xf), .val (.int (xa &&& (3 : Int32))), .val (.int (((xa.toUInt32 >>> ((2 : Int32) &&& 31).toUInt32).toInt32) &&& (3 : Int32))), .val (.ref b1), .val (.int (own_g bl10 (0 : Int32))), .val (.int (own_g bl10 (1 : Int32))), .val (.int (own_g bl10 (2 : Int32))), .val (.int (own_g bl10 (3 : Int32))), .unset, .unset, .unset] [(.int (xa &&& (3 : Int32))), (.ref sa85), (.ref b84), (.ref b84)]))
      refine own_by (fun _ => XS.iloadN X85.here hx rfl (hb hby at_116) rfl) ?_
      show own_Go p e below _ (T85.setTop (mkF m 117 #[.val (.int xa), .val (.int xb), .val (.int xc), .val (.int xd), .val (.int xe), .val (.int xf), .val (.int (xa &&& (3 : Int32))), .val (.int (((xa.toUInt32 >>> ((2 : Int32) &&& 31).toUInt32).toInt32) &&& (3 : Int32))), .val (.ref b1), .val (.int (own_g bl10 (0 : Int32))), .val (.int (own_g bl10 (1 : Int32))), .val (.int (own_g bl10 (2 : Int32))), .val (.int (own_g bl10 (3 : Int32))), .unset, .unset, .unset] [(.int xb), (.int (xa &&& (3 : Int32))), (.ref sa85), (.ref b84), (.ref b84)]))
      refine own_by (fun _ => XS.iconst X85.here hx rfl (hb hby at_117)) ?_
      show own_Go p e below _ (T85.setTop (mkF m 118 #[.val (.int xa), .val (.int xb), .val (.int xc), .val (.int xd), .val (.int xe), .val (.int xf), .val (.int (xa &&& (3 : Int32))), .val (.int (((xa.toUInt32 >>> ((2 : Int32) &&& 31).toUInt32).toInt32) &&& (3 : Int32))), .val (.ref b1), .val (.int (own_g bl10 (0 : Int32))), .val (.int (own_g bl10 (1 : Int32))), .val (.int (own_g bl10 (2 : Int32))), .val (.int (own_g bl10 (3 : Int32))), .unset, .unset, .unset] [(.int (1 : Int32)), (.int xb), (.int (xa &&& (3 : Int32))), (.ref sa85), (.ref b84), (.ref b84)]))
      obtain ⟨T86, h86, k86, X86, e86, E86, A86, st86⟩ := newP X85 hx hZ (hw _ (List.mem_of_getElem? (i := 12) rfl)) e85 (g := (mkF m 118 #[.val (.int xa), .val (.int xb), .val (.int xc), .val (.int xd), .val (.int xe), .val (.int xf), .val (.int (xa &&& (3 : Int32))), .val (.int (((xa.toUInt32 >>> ((2 : Int32) &&& 31).toUInt32).toInt32) &&& (3 : Int32))), .val (.ref b1), .val (.int (own_g bl10 (0 : Int32))), .val (.int (own_g bl10 (1 : Int32))), .val (.int (own_g bl10 (2 : Int32))), .val (.int (own_g bl10 (3 : Int32))), .unset, .unset, .unset] [(.int (1 : Int32)), (.int xb), (.int (xa &&& (3 : Int32))), (.ref sa85), (.ref b84), (.ref b84)])) rfl (hb hby at_118) rfl (by decide) (cap := 1) (by decide) (by decide) (by decide) (by decide)
      obtain ⟨b86, g86⟩ : ∃ z, z = h85.size := ⟨_, rfl⟩
      rw [← g86] at A86 st86
      refine own_by st86 ?_
      have ge86 : n0 ≤ b86 := Nat.le_trans z85 (Nat.le_of_eq g86.symm)
      have f87 : Arv Z h85 b1 k1 .int (4 : Int32) (bl10.map Value.int) (.int (0 : Int32)) := ((fbl10.ext E84).ext E85)
      have ne86_b1 : b1 ≠ b86 := Nat.ne_of_lt (Nat.lt_of_lt_of_le f87.lt (Nat.le_of_eq g86.symm))
      have f88 : Exa Z h85 b84 "com/example/composiq/composiq/Problem$Candidate" := (A84.ext E85)
      have ne86_b84 : b84 ≠ b86 := Nat.ne_of_lt (Nat.lt_of_lt_of_le f88.lt (Nat.le_of_eq g86.symm))
      have z86 : n0 ≤ h86.size := Nat.le_trans z85 E86.1
      have hkk86 : k85 ≤ h86.size := Nat.le_trans hk85 E86.1
      have va86 : Arv Z h86 b86 k86 .double (1 : Int32) [(.double 0)] (.double 0) := (Arv.new A86 (by decide)).pad (pad_rep [] (.double 0) 1)
      show own_Go p e below _ (T86.setTop (mkF m 120 #[.val (.int xa), .val (.int xb), .val (.int xc), .val (.int xd), .val (.int xe), .val (.int xf), .val (.int (xa &&& (3 : Int32))), .val (.int (((xa.toUInt32 >>> ((2 : Int32) &&& 31).toUInt32).toInt32) &&& (3 : Int32))), .val (.ref b1), .val (.int (own_g bl10 (0 : Int32))), .val (.int (own_g bl10 (1 : Int32))), .val (.int (own_g bl10 (2 : Int32))), .val (.int (own_g bl10 (3 : Int32))), .unset, .unset, .unset] [(.ref b86), (.int xb), (.int (xa &&& (3 : Int32))), (.ref sa85), (.ref b84), (.ref b84)]))
      refine own_by (fun _ => XS.dup X86.here hx rfl (hb hby at_120) rfl rfl) ?_
      show own_Go p e below _ (T86.setTop (mkF m 121 #[.val (.int xa), .val (.int xb), .val (.int xc), .val (.int xd), .val (.int xe), .val (.int xf), .val (.int (xa &&& (3 : Int32))), .val (.int (((xa.toUInt32 >>> ((2 : Int32) &&& 31).toUInt32).toInt32) &&& (3 : Int32))), .val (.ref b1), .val (.int (own_g bl10 (0 : Int32))), .val (.int (own_g bl10 (1 : Int32))), .val (.int (own_g bl10 (2 : Int32))), .val (.int (own_g bl10 (3 : Int32))), .unset, .unset, .unset] [(.ref b86), (.ref b86), (.int xb), (.int (xa &&& (3 : Int32))), (.ref sa85), (.ref b84), (.ref b84)]))
      refine own_by (fun _ => XS.iconst X86.here hx rfl (hb hby at_121)) ?_
      show own_Go p e below _ (T86.setTop (mkF m 122 #[.val (.int xa), .val (.int xb), .val (.int xc), .val (.int xd), .val (.int xe), .val (.int xf), .val (.int (xa &&& (3 : Int32))), .val (.int (((xa.toUInt32 >>> ((2 : Int32) &&& 31).toUInt32).toInt32) &&& (3 : Int32))), .val (.ref b1), .val (.int (own_g bl10 (0 : Int32))), .val (.int (own_g bl10 (1 : Int32))), .val (.int (own_g bl10 (2 : Int32))), .val (.int (own_g bl10 (3 : Int32))), .unset, .unset, .unset] [(.int (0 : Int32)), (.ref b86), (.ref b86), (.int xb), (.int (xa &&& (3 : Int32))), (.ref sa85), (.ref b84), (.ref b84)]))
      refine own_by (fun _ => XS.dconst1 X86.here hx rfl (hb hby at_122) rfl) ?_
      show own_Go p e below _ (T86.setTop (mkF m 123 #[.val (.int xa), .val (.int xb), .val (.int xc), .val (.int xd), .val (.int xe), .val (.int xf), .val (.int (xa &&& (3 : Int32))), .val (.int (((xa.toUInt32 >>> ((2 : Int32) &&& 31).toUInt32).toInt32) &&& (3 : Int32))), .val (.ref b1), .val (.int (own_g bl10 (0 : Int32))), .val (.int (own_g bl10 (1 : Int32))), .val (.int (own_g bl10 (2 : Int32))), .val (.int (own_g bl10 (3 : Int32))), .unset, .unset, .unset] [(.double own_dc1), (.int (0 : Int32)), (.ref b86), (.ref b86), (.int xb), (.int (xa &&& (3 : Int32))), (.ref sa85), (.ref b84), (.ref b84)]))
      obtain ⟨cl89, ar89, q89, sz89, nn89, hs89, gs89⟩ := id va86
      have hin89 : ¬ ((0 : Int32) < 0 ∨ cl89.slots.size ≤ ((0 : Int32)).toNatClampNeg) := inb_of sz89 ⟨by decide, by decide⟩
      obtain ⟨T90, h90, X90, e90, W90, st90⟩ := stD X86 hx hZ e86 ar89 (j := (0 : Int32)) hin89 (g := (mkF m 123 #[.val (.int xa), .val (.int xb), .val (.int xc), .val (.int xd), .val (.int xe), .val (.int xf), .val (.int (xa &&& (3 : Int32))), .val (.int (((xa.toUInt32 >>> ((2 : Int32) &&& 31).toUInt32).toInt32) &&& (3 : Int32))), .val (.ref b1), .val (.int (own_g bl10 (0 : Int32))), .val (.int (own_g bl10 (1 : Int32))), .val (.int (own_g bl10 (2 : Int32))), .val (.int (own_g bl10 (3 : Int32))), .unset, .unset, .unset] [(.double own_dc1), (.int (0 : Int32)), (.ref b86), (.ref b86), (.int xb), (.int (xa &&& (3 : Int32))), (.ref sa85), (.ref b84), (.ref b84)])) rfl rfl (hb hby at_123)
      refine own_by st90 ?_
      have va90 : Arv Z h90 b86 k86 .double (1 : Int32) [(.double own_dc1)] (.double 0) := Arv.set ar89 q89 sz89 nn89 hs89 gs89 rfl W90 0 rfl (Nat.le_of_ble_eq_true rfl)
      have z90 : n0 ≤ h90.size := Nat.le_trans z86 (Keep.of_wr W90).1
      have hkk90 : k85 ≤ h90.size := Nat.le_trans hkk86 (Keep.of_wr W90).1
      have N90 := Fr.snoc X90 N9 ge86
      show own_Go p e below _ (T90.setTop (mkF m 124 #[.val (.int xa), .val (.int xb), .val (.int xc), .val (.int xd), .val (.int xe), .val (.int xf), .val (.int (xa &&& (3 : Int32))), .val (.int (((xa.toUInt32 >>> ((2 : Int32) &&& 31).toUInt32).toInt32) &&& (3 : Int32))), .val (.ref b1), .val (.int (own_g bl10 (0 : Int32))), .val (.int (own_g bl10 (1 : Int32))), .val (.int (own_g bl10 (2 : Int32))), .val (.int (own_g bl10 (3 : Int32))), .unset, .unset, .unset] [(.ref b86), (.int xb), (.int (xa &&& (3 : Int32))), (.ref sa85), (.ref b84), (.ref b84)]))
      have f91 : Exa Z h90 b84 "com/example/composiq/composiq/Problem$Candidate" := ((f88.ext E86).wr W90)
      have f92 : Fld Z h90 b84 "com/example/composiq/composiq/Problem$Candidate" "id" "Ljava/lang/String;" .null := (((fz84_id.ext E85).ext E86).other W90 (Or.inl ne86_b84))
      have f93 : Fld Z h90 b84 "com/example/composiq/composiq/Problem$Candidate" "task" "I" (.int (0 : Int32)) := (((fz84_task.ext E85).ext E86).other W90 (Or.inl ne86_b84))
      have f94 : Fld Z h90 b84 "com/example/composiq/composiq/Problem$Candidate" "index" "I" (.int (0 : Int32)) := (((fz84_index.ext E85).ext E86).other W90 (Or.inl ne86_b84))
      have f95 : Fld Z h90 b84 "com/example/composiq/composiq/Problem$Candidate" "qos" "[D" .null := (((fz84_qos.ext E85).ext E86).other W90 (Or.inl ne86_b84))
      obtain ⟨_, _, ⟨T96, L96, k96, n96⟩, -, X96, ⟨Lc96, hQ96, l96, y96, z96'⟩, st96⟩ := X90.specialBack hx (y := (⟨"com/example/composiq/composiq/Problem$Candidate", "<init>", "(Ljava/lang/String;II[D)V"⟩ : MethodName)) rfl hown (mvT hZ (hw _ (List.mem_of_getElem? (i := 13) rfl))) (mvT hZ (hw _ (List.mem_of_getElem? (i := 14) rfl))) (mvT hZ (hw _ (List.mem_of_getElem? (i := 15) rfl))) (by decide) (backOf (W := 1) (own_rm1 l Z a0 hw [] b84 sa85 (xa &&& (3 : Int32)) xb b86 .null (0 : Int32) (0 : Int32) .null h90 n0 z90 f91 f92 f93 f94 f95 ge84) hZ (hw _ (List.mem_of_getElem? (i := 15) rfl)) (hw _ (List.mem_of_getElem? (i := 3) rfl)) (by decide) (by decide)) (g := (mkF m 124 #[.val (.int xa), .val (.int xb), .val (.int xc), .val (.int xd), .val (.int xe), .val (.int xf), .val (.int (xa &&& (3 : Int32))), .val (.int (((xa.toUInt32 >>> ((2 : Int32) &&& 31).toUInt32).toInt32) &&& (3 : Int32))), .val (.ref b1), .val (.int (own_g bl10 (0 : Int32))), .val (.int (own_g bl10 (1 : Int32))), .val (.int (own_g bl10 (2 : Int32))), .val (.int (own_g bl10 (3 : Int32))), .unset, .unset, .unset] [(.ref b86), (.int xb), (.int (xa &&& (3 : Int32))), (.ref sa85), (.ref b84), (.ref b84)])) rfl (by rw [hml]; rfl) (Steps.refl _) (a := b84) (argsL := [(.ref sa85), (.int (xa &&& (3 : Int32))), (.int xb), (.ref b86)]) (rest := [(.ref b84)]) (lenOf own_pd1 rfl) rfl (by show 2 * 0 + _ ≤ _; exact Nat.le_of_eq rfl) (hb hby at_124) (fun _ _ => ⟨rfl, e90, (by decide : 5 + 0 ≤ _), (by decide : 17 + 0 ≤ _)⟩)
      dsimp only [Pt.U, Pt.locs, Pt.cells, Pt.slots] at X96 l96 y96 z96' st96 hQ96
      subst l96 y96 z96'
      obtain ⟨rfl, N96q, Kc96, fc96_0, fc96_1⟩ := hQ96
      have N96 := Fr.app N90 N96q
      refine own_tr st96 ?_
      have z96 : n0 ≤ T96.heap.size := Nat.le_trans z90 Kc96.1
      have hkk96 : k85 ≤ T96.heap.size := Nat.le_trans hkk90 Kc96.1
      show own_Go p e below _ (T96.setTop (mkF m 127 #[.val (.int xa), .val (.int xb), .val (.int xc), .val (.int xd), .val (.int xe), .val (.int xf), .val (.int (xa &&& (3 : Int32))), .val (.int (((xa.toUInt32 >>> ((2 : Int32) &&& 31).toUInt32).toInt32) &&& (3 : Int32))), .val (.ref b1), .val (.int (own_g bl10 (0 : Int32))), .val (.int (own_g bl10 (1 : Int32))), .val (.int (own_g bl10 (2 : Int32))), .val (.int (own_g bl10 (3 : Int32))), .unset, .unset, .unset] [(.ref b84)]))
      refine own_by (fun _ => XS.astore X96.here hx rfl (hb hby at_127) rfl rfl (l' := #[.val (.int xa), .val (.int xb), .val (.int xc), .val (.int xd), .val (.int xe), .val (.int xf), .val (.int (xa &&& (3 : Int32))), .val (.int (((xa.toUInt32 >>> ((2 : Int32) &&& 31).toUInt32).toInt32) &&& (3 : Int32))), .val (.ref b1), .val (.int (own_g bl10 (0 : Int32))), .val (.int (own_g bl10 (1 : Int32))), .val (.int (own_g bl10 (2 : Int32))), .val (.int (own_g bl10 (3 : Int32))), .val (.ref b84), .unset, .unset]) rfl) ?_
      show own_Go p e below _ (T96.setTop (mkF m 129 #[.val (.int xa), .val (.int xb), .val (.int xc), .val (.int xd), .val (.int xe), .val (.int xf), .val (.int (xa &&& (3 : Int32))), .val (.int (((xa.toUInt32 >>> ((2 : Int32) &&& 31).toUInt32).toInt32) &&& (3 : Int32))), .val (.ref b1), .val (.int (own_g bl10 (0 : Int32))), .val (.int (own_g bl10 (1 : Int32))), .val (.int (own_g bl10 (2 : Int32))), .val (.int (own_g bl10 (3 : Int32))), .val (.ref b84), .unset, .unset] []))
      refine own_by (fun _ => XS.aload X96.here hx rfl (hb hby at_129) rfl rfl) ?_
      show own_Go p e below _ (T96.setTop (mkF m 131 #[.val (.int xa), .val (.int xb), .val (.int xc), .val (.int xd), .val (.int xe), .val (.int xf), .val (.int (xa &&& (3 : Int32))), .val (.int (((xa.toUInt32 >>> ((2 : Int32) &&& 31).toUInt32).toInt32) &&& (3 : Int32))), .val (.ref b1), .val (.int (own_g bl10 (0 : Int32))), .val (.int (own_g bl10 (1 : Int32))), .val (.int (own_g bl10 (2 : Int32))), .val (.int (own_g bl10 (3 : Int32))), .val (.ref b84), .unset, .unset] [(.ref b84)]))
      refine own_by (fun _ => XS.aload X96.here hx rfl (hb hby at_131) rfl rfl) ?_
      show own_Go p e below _ (T96.setTop (mkF m 133 #[.val (.int xa), .val (.int xb), .val (.int xc), .val (.int xd), .val (.int xe), .val (.int xf), .val (.int (xa &&& (3 : Int32))), .val (.int (((xa.toUInt32 >>> ((2 : Int32) &&& 31).toUInt32).toInt32) &&& (3 : Int32))), .val (.ref b1), .val (.int (own_g bl10 (0 : Int32))), .val (.int (own_g bl10 (1 : Int32))), .val (.int (own_g bl10 (2 : Int32))), .val (.int (own_g bl10 (3 : Int32))), .val (.ref b84), .unset, .unset] [(.ref b1), (.ref b84)]))
      have f97 : Arv Z T96.heap b1 k1 .int (4 : Int32) (bl10.map Value.int) (.int (0 : Int32)) := (((f87.ext E86).other W90 ne86_b1).keep Kc96 (ninS ne84_b1 nin0))
      have f99 : Exa Z T96.heap b84 "com/example/composiq/composiq/Problem$Candidate" := (f91.keep Kc96)
      obtain ⟨cq98, kq98, q98a, q98b, q98c⟩ := isOf hZ rfl f99
      obtain ⟨_, _, ⟨T98, L98, k98, n98⟩, -, X98, ⟨Lc98, hQ98, l98, y98, z98'⟩, st98⟩ := X96.virtualBack hx (y := (⟨"com/example/composiq/composiq/Problem$Candidate", "isBoundIn", "([I)Z"⟩ : MethodName)) (z := (⟨"com/example/composiq/composiq/Problem$Candidate", "isBoundIn", "([I)Z"⟩ : MethodName)) hown (mvT hZ (hw _ (List.mem_of_getElem? (i := 32) rfl))) (mvT hZ (hw _ (List.mem_of_getElem? (i := 33) rfl))) (notFace_of_selects (args := #[]) (mvT hZ (hw _ (List.mem_of_getElem? (i := 35) rfl)))) (mvT hZ (hw _ (List.mem_of_getElem? (i := 35) rfl))) (mvT hZ (hw _ (List.mem_of_getElem? (i := 34) rfl))) (by decide) (backOf (W := 0) (own_rm4 l Z a0 hw [] b84 b1 (xa &&& (3 : Int32)) xb k1 bl10 T96.heap n0 z96 fc96_0 fc96_1 f97 ((own_tt xa).1 : ¬ ((xa &&& (3 : Int32)) < (0 : Int32))) ((own_tt xa).2 : (xa &&& (3 : Int32)) < (4 : Int32))) hZ (hw _ (List.mem_of_getElem? (i := 36) rfl)) (hw _ (List.mem_of_getElem? (i := 3) rfl)) (by decide) (by decide)) q98a q98c (g := (mkF m 133 #[.val (.int xa), .val (.int xb), .val (.int xc), .val (.int xd), .val (.int xe), .val (.int xf), .val (.int (xa &&& (3 : Int32))), .val (.int (((xa.toUInt32 >>> ((2 : Int32) &&& 31).toUInt32).toInt32) &&& (3 : Int32))), .val (.ref b1), .val (.int (own_g bl10 (0 : Int32))), .val (.int (own_g bl10 (1 : Int32))), .val (.int (own_g bl10 (2 : Int32))), .val (.int (own_g bl10 (3 : Int32))), .val (.ref b84), .unset, .unset] [(.ref b1), (.ref b84)])) rfl (by rw [hml]; rfl) (Steps.refl _) (argsL := [(.ref b1)]) (rest := []) (lenOf own_pd2 rfl) rfl (by show 2 * 0 + _ ≤ _; exact Nat.le_of_eq rfl) (hb hby at_133) (fun _ _ => ⟨rfl, rfl, (by decide : 5 + 0 ≤ _), (by decide : 17 + 0 ≤ _)⟩)
      dsimp only [Pt.U, Pt.locs, Pt.cells, Pt.slots] at X98 l98 y98 z98' st98 hQ98
      subst l98 y98 z98'
      obtain ⟨rfl, N98q, e98⟩ := hQ98
      have N98 := Fr.app N96 N98q
      refine own_tr st98 ?_
      show own_Go p e below _ (T98.setTop (mkF m 136 #[.val (.int xa), .val (.int xb), .val (.int xc), .val (.int xd), .val (.int xe), .val (.int xf), .val (.int (xa &&& (3 : Int32))), .val (.int (((xa.toUInt32 >>> ((2 : Int32) &&& 31).toUInt32).toInt32) &&& (3 : Int32))), .val (.ref b1), .val (.int (own_g bl10 (0 : Int32))), .val (.int (own_g bl10 (1 : Int32))), .val (.int (own_g bl10 (2 : Int32))), .val (.int (own_g bl10 (3 : Int32))), .val (.ref b84), .unset, .unset] [(.int (own_bound (xa &&& (3 : Int32)) xb bl10))]))
      refine own_by (fun _ => XS.istore X98.here hx rfl (hb hby at_136) rfl (l' := #[.val (.int xa), .val (.int xb), .val (.int xc), .val (.int xd), .val (.int xe), .val (.int xf), .val (.int (xa &&& (3 : Int32))), .val (.int (((xa.toUInt32 >>> ((2 : Int32) &&& 31).toUInt32).toInt32) &&& (3 : Int32))), .val (.ref b1), .val (.int (own_g bl10 (0 : Int32))), .val (.int (own_g bl10 (1 : Int32))), .val (.int (own_g bl10 (2 : Int32))), .val (.int (own_g bl10 (3 : Int32))), .val (.ref b84), .val (.int (own_bound (xa &&& (3 : Int32)) xb bl10)), .unset]) rfl) ?_
      show own_Go p e below _ (T98.setTop (mkF m 138 #[.val (.int xa), .val (.int xb), .val (.int xc), .val (.int xd), .val (.int xe), .val (.int xf), .val (.int (xa &&& (3 : Int32))), .val (.int (((xa.toUInt32 >>> ((2 : Int32) &&& 31).toUInt32).toInt32) &&& (3 : Int32))), .val (.ref b1), .val (.int (own_g bl10 (0 : Int32))), .val (.int (own_g bl10 (1 : Int32))), .val (.int (own_g bl10 (2 : Int32))), .val (.int (own_g bl10 (3 : Int32))), .val (.ref b84), .val (.int (own_bound (xa &&& (3 : Int32)) xb bl10)), .unset] []))
      refine own_by (fun _ => XS.iload X98.here hx rfl (hb hby at_138) rfl) ?_
      show own_Go p e below _ (T98.setTop (mkF m 140 #[.val (.int xa), .val (.int xb), .val (.int xc), .val (.int xd), .val (.int xe), .val (.int xf), .val (.int (xa &&& (3 : Int32))), .val (.int (((xa.toUInt32 >>> ((2 : Int32) &&& 31).toUInt32).toInt32) &&& (3 : Int32))), .val (.ref b1), .val (.int (own_g bl10 (0 : Int32))), .val (.int (own_g bl10 (1 : Int32))), .val (.int (own_g bl10 (2 : Int32))), .val (.int (own_g bl10 (3 : Int32))), .val (.ref b84), .val (.int (own_bound (xa &&& (3 : Int32)) xb bl10)), .unset] [(.int (((xa.toUInt32 >>> ((2 : Int32) &&& 31).toUInt32).toInt32) &&& (3 : Int32)))]))
      refine own_by (fun _ => XS.iconst X98.here hx rfl (hb hby at_140)) ?_
      show own_Go p e below _ (T98.setTop (mkF m 141 #[.val (.int xa), .val (.int xb), .val (.int xc), .val (.int xd), .val (.int xe), .val (.int xf), .val (.int (xa &&& (3 : Int32))), .val (.int (((xa.toUInt32 >>> ((2 : Int32) &&& 31).toUInt32).toInt32) &&& (3 : Int32))), .val (.ref b1), .val (.int (own_g bl10 (0 : Int32))), .val (.int (own_g bl10 (1 : Int32))), .val (.int (own_g bl10 (2 : Int32))), .val (.int (own_g bl10 (3 : Int32))), .val (.ref b84), .val (.int (own_bound (xa &&& (3 : Int32)) xb bl10)), .unset] [(.int (1 : Int32)), (.int (((xa.toUInt32 >>> ((2 : Int32) &&& 31).toUInt32).toInt32) &&& (3 : Int32)))]))
      refine own_by (fun _ => XS.icmpYes X98.here hx rfl (pc0 := 141) (pc' := 150) rfl (hb hby at_141) rfl (feq hc38_11).2 (by decide) (by decide)) ?_
      show own_Go p e below _ (T98.setTop (mkF m 150 #[.val (.int xa), .val (.int xb), .val (.int xc), .val (.int xd), .val (.int xe), .val (.int xf), .val (.int (xa &&& (3 : Int32))), .val (.int (((xa.toUInt32 >>> ((2 : Int32) &&& 31).toUInt32).toInt32) &&& (3 : Int32))), .val (.ref b1), .val (.int (own_g bl10 (0 : Int32))), .val (.int (own_g bl10 (1 : Int32))), .val (.int (own_g bl10 (2 : Int32))), .val (.int (own_g bl10 (3 : Int32))), .val (.ref b84), .val (.int (own_bound (xa &&& (3 : Int32)) xb bl10)), .unset] []))
      refine own_by (fun _ => XS.iload X98.here hx rfl (hb hby at_150) rfl) ?_
      show own_Go p e below _ (T98.setTop (mkF m 152 #[.val (.int xa), .val (.int xb), .val (.int xc), .val (.int xd), .val (.int xe), .val (.int xf), .val (.int (xa &&& (3 : Int32))), .val (.int (((xa.toUInt32 >>> ((2 : Int32) &&& 31).toUInt32).toInt32) &&& (3 : Int32))), .val (.ref b1), .val (.int (own_g bl10 (0 : Int32))), .val (.int (own_g bl10 (1 : Int32))), .val (.int (own_g bl10 (2 : Int32))), .val (.int (own_g bl10 (3 : Int32))), .val (.ref b84), .val (.int (own_bound (xa &&& (3 : Int32)) xb bl10)), .unset] [(.int (((xa.toUInt32 >>> ((2 : Int32) &&& 31).toUInt32).toInt32) &&& (3 : Int32)))]))
      refine own_by (fun _ => XS.iconst X98.here hx rfl (hb hby at_152)) ?_
      show own_Go p e below _ (T98.setTop (mkF m 153 #[.val (.int xa), .val (.int xb), .val (.int xc), .val (.int xd), .val (.int xe), .val (.int xf), .val (.int (xa &&& (3 : Int32))), .val (.int (((xa.toUInt32 >>> ((2 : Int32) &&& 31).toUInt32).toInt32) &&& (3 : Int32))), .val (.ref b1), .val (.int (own_g bl10 (0 : Int32))), .val (.int (own_g bl10 (1 : Int32))), .val (.int (own_g bl10 (2 : Int32))), .val (.int (own_g bl10 (3 : Int32))), .val (.ref b84), .val (.int (own_bound (xa &&& (3 : Int32)) xb bl10)), .unset] [(.int (2 : Int32)), (.int (((xa.toUInt32 >>> ((2 : Int32) &&& 31).toUInt32).toInt32) &&& (3 : Int32)))]))
      refine own_by (fun _ => XS.icmpYes X98.here hx rfl (pc0 := 153) (pc' := 162) rfl (hb hby at_153) rfl (feq hc53_41).2 (by decide) (by decide)) ?_
      show own_Go p e below _ (T98.setTop (mkF m 162 #[.val (.int xa), .val (.int xb), .val (.int xc), .val (.int xd), .val (.int xe), .val (.int xf), .val (.int (xa &&& (3 : Int32))), .val (.int (((xa.toUInt32 >>> ((2 : Int32) &&& 31).toUInt32).toInt32) &&& (3 : Int32))), .val (.ref b1), .val (.int (own_g bl10 (0 : Int32))), .val (.int (own_g bl10 (1 : Int32))), .val (.int (own_g bl10 (2 : Int32))), .val (.int (own_g bl10 (3 : Int32))), .val (.ref b84), .val (.int (own_bound (xa &&& (3 : Int32)) xb bl10)), .unset] []))
      refine own_by (fun _ => XS.iload X98.here hx rfl (hb hby at_162) rfl) ?_
      show own_Go p e below _ (T98.setTop (mkF m 164 #[.val (.int xa), .val (.int xb), .val (.int xc), .val (.int xd), .val (.int xe), .val (.int xf), .val (.int (xa &&& (3 : Int32))), .val (.int (((xa.toUInt32 >>> ((2 : Int32) &&& 31).toUInt32).toInt32) &&& (3 : Int32))), .val (.ref b1), .val (.int (own_g bl10 (0 : Int32))), .val (.int (own_g bl10 (1 : Int32))), .val (.int (own_g bl10 (2 : Int32))), .val (.int (own_g bl10 (3 : Int32))), .val (.ref b84), .val (.int (own_bound (xa &&& (3 : Int32)) xb bl10)), .unset] [(.int (xa &&& (3 : Int32)))]))
      refine own_by (fun _ => XS.iloadN X98.here hx rfl (hb hby at_164) rfl) ?_
      show own_Go p e below _ (T98.setTop (mkF m 165 #[.val (.int xa), .val (.int xb), .val (.int xc), .val (.int xd), .val (.int xe), .val (.int xf), .val (.int (xa &&& (3 : Int32))), .val (.int (((xa.toUInt32 >>> ((2 : Int32) &&& 31).toUInt32).toInt32) &&& (3 : Int32))), .val (.ref b1), .val (.int (own_g bl10 (0 : Int32))), .val (.int (own_g bl10 (1 : Int32))), .val (.int (own_g bl10 (2 : Int32))), .val (.int (own_g bl10 (3 : Int32))), .val (.ref b84), .val (.int (own_bound (xa &&& (3 : Int32)) xb bl10)), .unset] [(.int xc), (.int (xa &&& (3 : Int32)))]))
      refine own_by (fun _ => XS.iloadN X98.here hx rfl (hb hby at_165) rfl) ?_
      show own_Go p e below _ (T98.setTop (mkF m 166 #[.val (.int xa), .val (.int xb), .val (.int xc), .val (.int xd), .val (.int xe), .val (.int xf), .val (.int (xa &&& (3 : Int32))), .val (.int (((xa.toUInt32 >>> ((2 : Int32) &&& 31).toUInt32).toInt32) &&& (3 : Int32))), .val (.ref b1), .val (.int (own_g bl10 (0 : Int32))), .val (.int (own_g bl10 (1 : Int32))), .val (.int (own_g bl10 (2 : Int32))), .val (.int (own_g bl10 (3 : Int32))), .val (.ref b84), .val (.int (own_bound (xa &&& (3 : Int32)) xb bl10)), .unset] [(.int xd), (.int xc), (.int (xa &&& (3 : Int32)))]))
      refine own_by (fun _ => XS.iload X98.here hx rfl (hb hby at_166) rfl) ?_
      show own_Go p e below _ (T98.setTop (mkF m 168 #[.val (.int xa), .val (.int xb), .val (.int xc), .val (.int xd), .val (.int xe), .val (.int xf), .val (.int (xa &&& (3 : Int32))), .val (.int (((xa.toUInt32 >>> ((2 : Int32) &&& 31).toUInt32).toInt32) &&& (3 : Int32))), .val (.ref b1), .val (.int (own_g bl10 (0 : Int32))), .val (.int (own_g bl10 (1 : Int32))), .val (.int (own_g bl10 (2 : Int32))), .val (.int (own_g bl10 (3 : Int32))), .val (.ref b84), .val (.int (own_bound (xa &&& (3 : Int32)) xb bl10)), .unset] [(.int xe), (.int xd), (.int xc), (.int (xa &&& (3 : Int32)))]))
      refine own_by (fun _ => XS.iload X98.here hx rfl (hb hby at_168) rfl) ?_
      show own_Go p e below _ (T98.setTop (mkF m 170 #[.val (.int xa), .val (.int xb), .val (.int xc), .val (.int xd), .val (.int xe), .val (.int xf), .val (.int (xa &&& (3 : Int32))), .val (.int (((xa.toUInt32 >>> ((2 : Int32) &&& 31).toUInt32).toInt32) &&& (3 : Int32))), .val (.ref b1), .val (.int (own_g bl10 (0 : Int32))), .val (.int (own_g bl10 (1 : Int32))), .val (.int (own_g bl10 (2 : Int32))), .val (.int (own_g bl10 (3 : Int32))), .val (.ref b84), .val (.int (own_bound (xa &&& (3 : Int32)) xb bl10)), .unset] [(.int xf), (.int xe), (.int xd), (.int xc), (.int (xa &&& (3 : Int32)))]))
      obtain ⟨_, _, ⟨T100, L100, k100, n100⟩, -, X100, ⟨Lc100, hQ100, l100, y100, z100'⟩, st100⟩ := Jvm.LawKit.callS X98 hx (y := (⟨"com/example/composiq/composiq/CandidateIsBoundInPinLaw", "pick", "(IIIII)I"⟩ : MethodName)) hown (mvT hZ (hw _ (List.mem_of_getElem? (i := 37) rfl))) (mvT hZ (hw _ (List.mem_of_getElem? (i := 38) rfl))) (mvT hZ (hw _ (List.mem_of_getElem? (i := 39) rfl))) (mvT hZ (hw _ (List.mem_of_getElem? (i := 40) rfl))) (by decide) (backOf (W := 0) (own_rm5 l Z a0 hw [] (xa &&& (3 : Int32)) xc xd xe xf T96.heap n0 z96 ) hZ (hw _ (List.mem_of_getElem? (i := 40) rfl)) (hw _ (List.mem_of_getElem? (i := 39) rfl)) (by decide) (by decide)) (g := (mkF m 170 #[.val (.int xa), .val (.int xb), .val (.int xc), .val (.int xd), .val (.int xe), .val (.int xf), .val (.int (xa &&& (3 : Int32))), .val (.int (((xa.toUInt32 >>> ((2 : Int32) &&& 31).toUInt32).toInt32) &&& (3 : Int32))), .val (.ref b1), .val (.int (own_g bl10 (0 : Int32))), .val (.int (own_g bl10 (1 : Int32))), .val (.int (own_g bl10 (2 : Int32))), .val (.int (own_g bl10 (3 : Int32))), .val (.ref b84), .val (.int (own_bound (xa &&& (3 : Int32)) xb bl10)), .unset] [(.int xf), (.int xe), (.int xd), (.int xc), (.int (xa &&& (3 : Int32)))])) rfl (by rw [hml]; rfl) (argsL := [(.int (xa &&& (3 : Int32))), (.int xc), (.int xd), (.int xe), (.int xf)]) (rest := []) (lenOf own_pd3 rfl) rfl (by show 2 * 0 + _ ≤ _; exact Nat.le_of_eq rfl) (hb hby at_170) (fun _ _ => ⟨rfl, e98, (by decide : 5 + 0 ≤ _), (by decide : 17 + 0 ≤ _)⟩)
      dsimp only [Pt.U, Pt.locs, Pt.cells, Pt.slots] at X100 l100 y100 z100' st100 hQ100
      subst l100 y100 z100'
      obtain ⟨rfl, N100q, e100⟩ := hQ100
      have N100 := Fr.app N98 N100q
      refine own_by st100 ?_
      show own_Go p e below _ (T100.setTop (mkF m 173 #[.val (.int xa), .val (.int xb), .val (.int xc), .val (.int xd), .val (.int xe), .val (.int xf), .val (.int (xa &&& (3 : Int32))), .val (.int (((xa.toUInt32 >>> ((2 : Int32) &&& 31).toUInt32).toInt32) &&& (3 : Int32))), .val (.ref b1), .val (.int (own_g bl10 (0 : Int32))), .val (.int (own_g bl10 (1 : Int32))), .val (.int (own_g bl10 (2 : Int32))), .val (.int (own_g bl10 (3 : Int32))), .val (.ref b84), .val (.int (own_bound (xa &&& (3 : Int32)) xb bl10)), .unset] [(.int (own_pick (xa &&& (3 : Int32)) xc xd xe xf))]))
      refine own_by (fun _ => XS.iloadN X100.here hx rfl (hb hby at_173) rfl) ?_
      show own_Go p e below _ (T100.setTop (mkF m 174 #[.val (.int xa), .val (.int xb), .val (.int xc), .val (.int xd), .val (.int xe), .val (.int xf), .val (.int (xa &&& (3 : Int32))), .val (.int (((xa.toUInt32 >>> ((2 : Int32) &&& 31).toUInt32).toInt32) &&& (3 : Int32))), .val (.ref b1), .val (.int (own_g bl10 (0 : Int32))), .val (.int (own_g bl10 (1 : Int32))), .val (.int (own_g bl10 (2 : Int32))), .val (.int (own_g bl10 (3 : Int32))), .val (.ref b84), .val (.int (own_bound (xa &&& (3 : Int32)) xb bl10)), .unset] [(.int xb), (.int (own_pick (xa &&& (3 : Int32)) xc xd xe xf))]))
      suffices J101 : ∀ (T' : State) (v101_t0 : Int32), v101_t0 = (if (own_pick (xa &&& (3 : Int32)) xc xd xe xf) = xb then (1 : Int32) else (0 : Int32)) → own_At p l e room_1 (s.setVm T85.vm) m #[(.int xa), (.int xb), (.int xc), (.int xd), (.int xe), (.int xf)] below meth c n0 T' T96.heap 5 17 → own_Go p e below (own_EndW s below (own_Q0 Z xa xb xc xd xe xf h0 n0) room_1.cells room_1.slots) (T'.setTop (mkF m 182 #[.val (.int xa), .val (.int xb), .val (.int xc), .val (.int xd), .val (.int xe), .val (.int xf), .val (.int (xa &&& (3 : Int32))), .val (.int (((xa.toUInt32 >>> ((2 : Int32) &&& 31).toUInt32).toInt32) &&& (3 : Int32))), .val (.ref b1), .val (.int (own_g bl10 (0 : Int32))), .val (.int (own_g bl10 (1 : Int32))), .val (.int (own_g bl10 (2 : Int32))), .val (.int (own_g bl10 (3 : Int32))), .val (.ref b84), .val (.int (own_bound (xa &&& (3 : Int32)) xb bl10)), .unset] [(.int v101_t0)])) by
        by_cases hc174_102 : (own_pick (xa &&& (3 : Int32)) xc xd xe xf) = xb
        ·
          skip
          refine own_by (fun _ => XS.icmpNo X100.here hx rfl (hb hby at_174) rfl (teq hc174_102).2) ?_
          show own_Go p e below _ (T100.setTop (mkF m 177 #[.val (.int xa), .val (.int xb), .val (.int xc), .val (.int xd), .val (.int xe), .val (.int xf), .val (.int (xa &&& (3 : Int32))), .val (.int (((xa.toUInt32 >>> ((2 : Int32) &&& 31).toUInt32).toInt32) &&& (3 : Int32))), .val (.ref b1), .val (.int (own_g bl10 (0 : Int32))), .val (.int (own_g bl10 (1 : Int32))), .val (.int (own_g bl10 (2 : Int32))), .val (.int (own_g bl10 (3 : Int32))), .val (.ref b84), .val (.int (own_bound (xa &&& (3 : Int32)) xb bl10)), .unset] []))
          refine own_by (fun _ => XS.iconst X100.here hx rfl (hb hby at_177)) ?_
          show own_Go p e below _ (T100.setTop (mkF m 178 #[.val (.int xa), .val (.int xb), .val (.int xc), .val (.int xd), .val (.int xe), .val (.int xf), .val (.int (xa &&& (3 : Int32))), .val (.int (((xa.toUInt32 >>> ((2 : Int32) &&& 31).toUInt32).toInt32) &&& (3 : Int32))), .val (.ref b1), .val (.int (own_g bl10 (0 : Int32))), .val (.int (own_g bl10 (1 : Int32))), .val (.int (own_g bl10 (2 : Int32))), .val (.int (own_g bl10 (3 : Int32))), .val (.ref b84), .val (.int (own_bound (xa &&& (3 : Int32)) xb bl10)), .unset] [(.int (1 : Int32))]))
          refine own_by (fun _ => XS.goto X100.here hx rfl (pc0 := 178) (pc' := 182) rfl (hb hby at_178) (by decide) (by decide)) ?_
          show own_Go p e below _ (T100.setTop (mkF m 182 #[.val (.int xa), .val (.int xb), .val (.int xc), .val (.int xd), .val (.int xe), .val (.int xf), .val (.int (xa &&& (3 : Int32))), .val (.int (((xa.toUInt32 >>> ((2 : Int32) &&& 31).toUInt32).toInt32) &&& (3 : Int32))), .val (.ref b1), .val (.int (own_g bl10 (0 : Int32))), .val (.int (own_g bl10 (1 : Int32))), .val (.int (own_g bl10 (2 : Int32))), .val (.int (own_g bl10 (3 : Int32))), .val (.ref b84), .val (.int (own_bound (xa &&& (3 : Int32)) xb bl10)), .unset] [(.int (1 : Int32))]))
          exact J101 _ _ (by first | rfl | simp only [if_pos hc174_102]) ⟨_, X100, N100, e100⟩
        ·
          skip
          refine own_by (fun _ => XS.icmpYes X100.here hx rfl (pc0 := 174) (pc' := 181) rfl (hb hby at_174) rfl (feq hc174_102).2 (by decide) (by decide)) ?_
          show own_Go p e below _ (T100.setTop (mkF m 181 #[.val (.int xa), .val (.int xb), .val (.int xc), .val (.int xd), .val (.int xe), .val (.int xf), .val (.int (xa &&& (3 : Int32))), .val (.int (((xa.toUInt32 >>> ((2 : Int32) &&& 31).toUInt32).toInt32) &&& (3 : Int32))), .val (.ref b1), .val (.int (own_g bl10 (0 : Int32))), .val (.int (own_g bl10 (1 : Int32))), .val (.int (own_g bl10 (2 : Int32))), .val (.int (own_g bl10 (3 : Int32))), .val (.ref b84), .val (.int (own_bound (xa &&& (3 : Int32)) xb bl10)), .unset] []))
          refine own_by (fun _ => XS.iconst X100.here hx rfl (hb hby at_181)) ?_
          show own_Go p e below _ (T100.setTop (mkF m 182 #[.val (.int xa), .val (.int xb), .val (.int xc), .val (.int xd), .val (.int xe), .val (.int xf), .val (.int (xa &&& (3 : Int32))), .val (.int (((xa.toUInt32 >>> ((2 : Int32) &&& 31).toUInt32).toInt32) &&& (3 : Int32))), .val (.ref b1), .val (.int (own_g bl10 (0 : Int32))), .val (.int (own_g bl10 (1 : Int32))), .val (.int (own_g bl10 (2 : Int32))), .val (.int (own_g bl10 (3 : Int32))), .val (.ref b84), .val (.int (own_bound (xa &&& (3 : Int32)) xb bl10)), .unset] [(.int (0 : Int32))]))
          exact J101 _ _ (by first | rfl | simp only [if_neg hc174_102]) ⟨_, X100, N100, e100⟩
      intro T101 v101_t0 hv101_t0 ⟨locs101, X101, N101, e101⟩
      show own_Go p e below _ (T101.setTop (mkF m 182 #[.val (.int xa), .val (.int xb), .val (.int xc), .val (.int xd), .val (.int xe), .val (.int xf), .val (.int (xa &&& (3 : Int32))), .val (.int (((xa.toUInt32 >>> ((2 : Int32) &&& 31).toUInt32).toInt32) &&& (3 : Int32))), .val (.ref b1), .val (.int (own_g bl10 (0 : Int32))), .val (.int (own_g bl10 (1 : Int32))), .val (.int (own_g bl10 (2 : Int32))), .val (.int (own_g bl10 (3 : Int32))), .val (.ref b84), .val (.int (own_bound (xa &&& (3 : Int32)) xb bl10)), .unset] [(.int v101_t0)]))
      refine own_by (fun _ => XS.istore X101.here hx rfl (hb hby at_182) rfl (l' := #[.val (.int xa), .val (.int xb), .val (.int xc), .val (.int xd), .val (.int xe), .val (.int xf), .val (.int (xa &&& (3 : Int32))), .val (.int (((xa.toUInt32 >>> ((2 : Int32) &&& 31).toUInt32).toInt32) &&& (3 : Int32))), .val (.ref b1), .val (.int (own_g bl10 (0 : Int32))), .val (.int (own_g bl10 (1 : Int32))), .val (.int (own_g bl10 (2 : Int32))), .val (.int (own_g bl10 (3 : Int32))), .val (.ref b84), .val (.int (own_bound (xa &&& (3 : Int32)) xb bl10)), .val (.int v101_t0)]) rfl) ?_
      show own_Go p e below _ (T101.setTop (mkF m 184 #[.val (.int xa), .val (.int xb), .val (.int xc), .val (.int xd), .val (.int xe), .val (.int xf), .val (.int (xa &&& (3 : Int32))), .val (.int (((xa.toUInt32 >>> ((2 : Int32) &&& 31).toUInt32).toInt32) &&& (3 : Int32))), .val (.ref b1), .val (.int (own_g bl10 (0 : Int32))), .val (.int (own_g bl10 (1 : Int32))), .val (.int (own_g bl10 (2 : Int32))), .val (.int (own_g bl10 (3 : Int32))), .val (.ref b84), .val (.int (own_bound (xa &&& (3 : Int32)) xb bl10)), .val (.int v101_t0)] []))
      refine own_by (fun _ => XS.iload X101.here hx rfl (hb hby at_184) rfl) ?_
      show own_Go p e below _ (T101.setTop (mkF m 186 #[.val (.int xa), .val (.int xb), .val (.int xc), .val (.int xd), .val (.int xe), .val (.int xf), .val (.int (xa &&& (3 : Int32))), .val (.int (((xa.toUInt32 >>> ((2 : Int32) &&& 31).toUInt32).toInt32) &&& (3 : Int32))), .val (.ref b1), .val (.int (own_g bl10 (0 : Int32))), .val (.int (own_g bl10 (1 : Int32))), .val (.int (own_g bl10 (2 : Int32))), .val (.int (own_g bl10 (3 : Int32))), .val (.ref b84), .val (.int (own_bound (xa &&& (3 : Int32)) xb bl10)), .val (.int v101_t0)] [(.int (own_bound (xa &&& (3 : Int32)) xb bl10))]))
      refine own_by (fun _ => XS.iload X101.here hx rfl (hb hby at_186) rfl) ?_
      show own_Go p e below _ (T101.setTop (mkF m 188 #[.val (.int xa), .val (.int xb), .val (.int xc), .val (.int xd), .val (.int xe), .val (.int xf), .val (.int (xa &&& (3 : Int32))), .val (.int (((xa.toUInt32 >>> ((2 : Int32) &&& 31).toUInt32).toInt32) &&& (3 : Int32))), .val (.ref b1), .val (.int (own_g bl10 (0 : Int32))), .val (.int (own_g bl10 (1 : Int32))), .val (.int (own_g bl10 (2 : Int32))), .val (.int (own_g bl10 (3 : Int32))), .val (.ref b84), .val (.int (own_bound (xa &&& (3 : Int32)) xb bl10)), .val (.int v101_t0)] [(.int v101_t0), (.int (own_bound (xa &&& (3 : Int32)) xb bl10))]))
      suffices J103 : ∀ (T' : State) (v103_t0 : Int32), v103_t0 = (if (own_bound (xa &&& (3 : Int32)) xb bl10) = v101_t0 then (1 : Int32) else (0 : Int32)) → own_At p l e room_1 (s.setVm T85.vm) m #[(.int xa), (.int xb), (.int xc), (.int xd), (.int xe), (.int xf)] below meth c n0 T' T96.heap 5 17 → own_Go p e below (own_EndW s below (own_Q0 Z xa xb xc xd xe xf h0 n0) room_1.cells room_1.slots) (T'.setTop (mkF m 232 #[.val (.int xa), .val (.int xb), .val (.int xc), .val (.int xd), .val (.int xe), .val (.int xf), .val (.int (xa &&& (3 : Int32))), .val (.int (((xa.toUInt32 >>> ((2 : Int32) &&& 31).toUInt32).toInt32) &&& (3 : Int32))), .val (.ref b1), .val (.int (own_g bl10 (0 : Int32))), .val (.int (own_g bl10 (1 : Int32))), .val (.int (own_g bl10 (2 : Int32))), .val (.int (own_g bl10 (3 : Int32))), .val (.ref b84), .val (.int (own_bound (xa &&& (3 : Int32)) xb bl10)), .val (.int v101_t0)] [(.int v103_t0)])) by
        by_cases hc188_104 : (own_bound (xa &&& (3 : Int32)) xb bl10) = v101_t0
        ·
          skip
          refine own_by (fun _ => XS.icmpNo X101.here hx rfl (hb hby at_188) rfl (teq hc188_104).2) ?_
          show own_Go p e below _ (T101.setTop (mkF m 191 #[.val (.int xa), .val (.int xb), .val (.int xc), .val (.int xd), .val (.int xe), .val (.int xf), .val (.int (xa &&& (3 : Int32))), .val (.int (((xa.toUInt32 >>> ((2 : Int32) &&& 31).toUInt32).toInt32) &&& (3 : Int32))), .val (.ref b1), .val (.int (own_g bl10 (0 : Int32))), .val (.int (own_g bl10 (1 : Int32))), .val (.int (own_g bl10 (2 : Int32))), .val (.int (own_g bl10 (3 : Int32))), .val (.ref b84), .val (.int (own_bound (xa &&& (3 : Int32)) xb bl10)), .val (.int v101_t0)] []))
          refine own_by (fun _ => XS.aload X101.here hx rfl (hb hby at_191) rfl rfl) ?_
          show own_Go p e below _ (T101.setTop (mkF m 193 #[.val (.int xa), .val (.int xb), .val (.int xc), .val (.int xd), .val (.int xe), .val (.int xf), .val (.int (xa &&& (3 : Int32))), .val (.int (((xa.toUInt32 >>> ((2 : Int32) &&& 31).toUInt32).toInt32) &&& (3 : Int32))), .val (.ref b1), .val (.int (own_g bl10 (0 : Int32))), .val (.int (own_g bl10 (1 : Int32))), .val (.int (own_g bl10 (2 : Int32))), .val (.int (own_g bl10 (3 : Int32))), .val (.ref b84), .val (.int (own_bound (xa &&& (3 : Int32)) xb bl10)), .val (.int v101_t0)] [(.ref b1)]))
          refine own_by (fun _ => XS.iconst X101.here hx rfl (hb hby at_193)) ?_
          show own_Go p e below _ (T101.setTop (mkF m 194 #[.val (.int xa), .val (.int xb), .val (.int xc), .val (.int xd), .val (.int xe), .val (.int xf), .val (.int (xa &&& (3 : Int32))), .val (.int (((xa.toUInt32 >>> ((2 : Int32) &&& 31).toUInt32).toInt32) &&& (3 : Int32))), .val (.ref b1), .val (.int (own_g bl10 (0 : Int32))), .val (.int (own_g bl10 (1 : Int32))), .val (.int (own_g bl10 (2 : Int32))), .val (.int (own_g bl10 (3 : Int32))), .val (.ref b84), .val (.int (own_bound (xa &&& (3 : Int32)) xb bl10)), .val (.int v101_t0)] [(.int (0 : Int32)), (.ref b1)]))
          obtain ⟨cl105, ar105, q105, sz105, nn105, hs105, gs105⟩ := id f97
          have hin105 : ¬ ((0 : Int32) < 0 ∨ cl105.slots.size ≤ ((0 : Int32)).toNatClampNeg) := inb_of sz105 ⟨by decide, by decide⟩
          refine own_by (X101.iaload hx (j := (0 : Int32)) (v := (.int (own_g bl10 (0 : Int32)))) (by rw [e101]; exact ar105.1) (State.isArrayOf_alike hZ.alike ar105.2.1) ar105.2.2 hin105 (hs105.at hin105 (own_g_eq bl10 (0 : Int32))) (g := (mkF m 194 #[.val (.int xa), .val (.int xb), .val (.int xc), .val (.int xd), .val (.int xe), .val (.int xf), .val (.int (xa &&& (3 : Int32))), .val (.int (((xa.toUInt32 >>> ((2 : Int32) &&& 31).toUInt32).toInt32) &&& (3 : Int32))), .val (.ref b1), .val (.int (own_g bl10 (0 : Int32))), .val (.int (own_g bl10 (1 : Int32))), .val (.int (own_g bl10 (2 : Int32))), .val (.int (own_g bl10 (3 : Int32))), .val (.ref b84), .val (.int (own_bound (xa &&& (3 : Int32)) xb bl10)), .val (.int v101_t0)] [(.int (0 : Int32)), (.ref b1)])) rfl rfl (hb hby at_194)) ?_
          show own_Go p e below _ (T101.setTop (mkF m 195 #[.val (.int xa), .val (.int xb), .val (.int xc), .val (.int xd), .val (.int xe), .val (.int xf), .val (.int (xa &&& (3 : Int32))), .val (.int (((xa.toUInt32 >>> ((2 : Int32) &&& 31).toUInt32).toInt32) &&& (3 : Int32))), .val (.ref b1), .val (.int (own_g bl10 (0 : Int32))), .val (.int (own_g bl10 (1 : Int32))), .val (.int (own_g bl10 (2 : Int32))), .val (.int (own_g bl10 (3 : Int32))), .val (.ref b84), .val (.int (own_bound (xa &&& (3 : Int32)) xb bl10)), .val (.int v101_t0)] [(.int (own_g bl10 (0 : Int32)))]))
          refine own_by (fun _ => XS.iload X101.here hx rfl (hb hby at_195) rfl) ?_
          show own_Go p e below _ (T101.setTop (mkF m 197 #[.val (.int xa), .val (.int xb), .val (.int xc), .val (.int xd), .val (.int xe), .val (.int xf), .val (.int (xa &&& (3 : Int32))), .val (.int (((xa.toUInt32 >>> ((2 : Int32) &&& 31).toUInt32).toInt32) &&& (3 : Int32))), .val (.ref b1), .val (.int (own_g bl10 (0 : Int32))), .val (.int (own_g bl10 (1 : Int32))), .val (.int (own_g bl10 (2 : Int32))), .val (.int (own_g bl10 (3 : Int32))), .val (.ref b84), .val (.int (own_bound (xa &&& (3 : Int32)) xb bl10)), .val (.int v101_t0)] [(.int (own_g bl10 (0 : Int32))), (.int (own_g bl10 (0 : Int32)))]))
          refine own_by (fun _ => XS.icmpNo X101.here hx rfl (hb hby at_197) rfl (teq (rfl : (own_g bl10 (0 : Int32)) = (own_g bl10 (0 : Int32)))).2) ?_
          show own_Go p e below _ (T101.setTop (mkF m 200 #[.val (.int xa), .val (.int xb), .val (.int xc), .val (.int xd), .val (.int xe), .val (.int xf), .val (.int (xa &&& (3 : Int32))), .val (.int (((xa.toUInt32 >>> ((2 : Int32) &&& 31).toUInt32).toInt32) &&& (3 : Int32))), .val (.ref b1), .val (.int (own_g bl10 (0 : Int32))), .val (.int (own_g bl10 (1 : Int32))), .val (.int (own_g bl10 (2 : Int32))), .val (.int (own_g bl10 (3 : Int32))), .val (.ref b84), .val (.int (own_bound (xa &&& (3 : Int32)) xb bl10)), .val (.int v101_t0)] []))
          refine own_by (fun _ => XS.aload X101.here hx rfl (hb hby at_200) rfl rfl) ?_
          show own_Go p e below _ (T101.setTop (mkF m 202 #[.val (.int xa), .val (.int xb), .val (.int xc), .val (.int xd), .val (.int xe), .val (.int xf), .val (.int (xa &&& (3 : Int32))), .val (.int (((xa.toUInt32 >>> ((2 : Int32) &&& 31).toUInt32).toInt32) &&& (3 : Int32))), .val (.ref b1), .val (.int (own_g bl10 (0 : Int32))), .val (.int (own_g bl10 (1 : Int32))), .val (.int (own_g bl10 (2 : Int32))), .val (.int (own_g bl10 (3 : Int32))), .val (.ref b84), .val (.int (own_bound (xa &&& (3 : Int32)) xb bl10)), .val (.int v101_t0)] [(.ref b1)]))
          refine own_by (fun _ => XS.iconst X101.here hx rfl (hb hby at_202)) ?_
          show own_Go p e below _ (T101.setTop (mkF m 203 #[.val (.int xa), .val (.int xb), .val (.int xc), .val (.int xd), .val (.int xe), .val (.int xf), .val (.int (xa &&& (3 : Int32))), .val (.int (((xa.toUInt32 >>> ((2 : Int32) &&& 31).toUInt32).toInt32) &&& (3 : Int32))), .val (.ref b1), .val (.int (own_g bl10 (0 : Int32))), .val (.int (own_g bl10 (1 : Int32))), .val (.int (own_g bl10 (2 : Int32))), .val (.int (own_g bl10 (3 : Int32))), .val (.ref b84), .val (.int (own_bound (xa &&& (3 : Int32)) xb bl10)), .val (.int v101_t0)] [(.int (1 : Int32)), (.ref b1)]))
          obtain ⟨cl106, ar106, q106, sz106, nn106, hs106, gs106⟩ := id f97
          have hin106 : ¬ ((1 : Int32) < 0 ∨ cl106.slots.size ≤ ((1 : Int32)).toNatClampNeg) := inb_of sz106 ⟨by decide, by decide⟩
          refine own_by (X101.iaload hx (j := (1 : Int32)) (v := (.int (own_g bl10 (1 : Int32)))) (by rw [e101]; exact ar106.1) (State.isArrayOf_alike hZ.alike ar106.2.1) ar106.2.2 hin106 (hs106.at hin106 (own_g_eq bl10 (1 : Int32))) (g := (mkF m 203 #[.val (.int xa), .val (.int xb), .val (.int xc), .val (.int xd), .val (.int xe), .val (.int xf), .val (.int (xa &&& (3 : Int32))), .val (.int (((xa.toUInt32 >>> ((2 : Int32) &&& 31).toUInt32).toInt32) &&& (3 : Int32))), .val (.ref b1), .val (.int (own_g bl10 (0 : Int32))), .val (.int (own_g bl10 (1 : Int32))), .val (.int (own_g bl10 (2 : Int32))), .val (.int (own_g bl10 (3 : Int32))), .val (.ref b84), .val (.int (own_bound (xa &&& (3 : Int32)) xb bl10)), .val (.int v101_t0)] [(.int (1 : Int32)), (.ref b1)])) rfl rfl (hb hby at_203)) ?_
          show own_Go p e below _ (T101.setTop (mkF m 204 #[.val (.int xa), .val (.int xb), .val (.int xc), .val (.int xd), .val (.int xe), .val (.int xf), .val (.int (xa &&& (3 : Int32))), .val (.int (((xa.toUInt32 >>> ((2 : Int32) &&& 31).toUInt32).toInt32) &&& (3 : Int32))), .val (.ref b1), .val (.int (own_g bl10 (0 : Int32))), .val (.int (own_g bl10 (1 : Int32))), .val (.int (own_g bl10 (2 : Int32))), .val (.int (own_g bl10 (3 : Int32))), .val (.ref b84), .val (.int (own_bound (xa &&& (3 : Int32)) xb bl10)), .val (.int v101_t0)] [(.int (own_g bl10 (1 : Int32)))]))
          refine own_by (fun _ => XS.iload X101.here hx rfl (hb hby at_204) rfl) ?_
          show own_Go p e below _ (T101.setTop (mkF m 206 #[.val (.int xa), .val (.int xb), .val (.int xc), .val (.int xd), .val (.int xe), .val (.int xf), .val (.int (xa &&& (3 : Int32))), .val (.int (((xa.toUInt32 >>> ((2 : Int32) &&& 31).toUInt32).toInt32) &&& (3 : Int32))), .val (.ref b1), .val (.int (own_g bl10 (0 : Int32))), .val (.int (own_g bl10 (1 : Int32))), .val (.int (own_g bl10 (2 : Int32))), .val (.int (own_g bl10 (3 : Int32))), .val (.ref b84), .val (.int (own_bound (xa &&& (3 : Int32)) xb bl10)), .val (.int v101_t0)] [(.int (own_g bl10 (1 : Int32))), (.int (own_g bl10 (1 : Int32)))]))
          refine own_by (fun _ => XS.icmpNo X101.here hx rfl (hb hby at_206) rfl (teq (rfl : (own_g bl10 (1 : Int32)) = (own_g bl10 (1 : Int32)))).2) ?_
          show own_Go p e below _ (T101.setTop (mkF m 209 #[.val (.int xa), .val (.int xb), .val (.int xc), .val (.int xd), .val (.int xe), .val (.int xf), .val (.int (xa &&& (3 : Int32))), .val (.int (((xa.toUInt32 >>> ((2 : Int32) &&& 31).toUInt32).toInt32) &&& (3 : Int32))), .val (.ref b1), .val (.int (own_g bl10 (0 : Int32))), .val (.int (own_g bl10 (1 : Int32))), .val (.int (own_g bl10 (2 : Int32))), .val (.int (own_g bl10 (3 : Int32))), .val (.ref b84), .val (.int (own_bound (xa &&& (3 : Int32)) xb bl10)), .val (.int v101_t0)] []))
          refine own_by (fun _ => XS.aload X101.here hx rfl (hb hby at_209) rfl rfl) ?_
          show own_Go p e below _ (T101.setTop (mkF m 211 #[.val (.int xa), .val (.int xb), .val (.int xc), .val (.int xd), .val (.int xe), .val (.int xf), .val (.int (xa &&& (3 : Int32))), .val (.int (((xa.toUInt32 >>> ((2 : Int32) &&& 31).toUInt32).toInt32) &&& (3 : Int32))), .val (.ref b1), .val (.int (own_g bl10 (0 : Int32))), .val (.int (own_g bl10 (1 : Int32))), .val (.int (own_g bl10 (2 : Int32))), .val (.int (own_g bl10 (3 : Int32))), .val (.ref b84), .val (.int (own_bound (xa &&& (3 : Int32)) xb bl10)), .val (.int v101_t0)] [(.ref b1)]))
          refine own_by (fun _ => XS.iconst X101.here hx rfl (hb hby at_211)) ?_
          show own_Go p e below _ (T101.setTop (mkF m 212 #[.val (.int xa), .val (.int xb), .val (.int xc), .val (.int xd), .val (.int xe), .val (.int xf), .val (.int (xa &&& (3 : Int32))), .val (.int (((xa.toUInt32 >>> ((2 : Int32) &&& 31).toUInt32).toInt32) &&& (3 : Int32))), .val (.ref b1), .val (.int (own_g bl10 (0 : Int32))), .val (.int (own_g bl10 (1 : Int32))), .val (.int (own_g bl10 (2 : Int32))), .val (.int (own_g bl10 (3 : Int32))), .val (.ref b84), .val (.int (own_bound (xa &&& (3 : Int32)) xb bl10)), .val (.int v101_t0)] [(.int (2 : Int32)), (.ref b1)]))
          obtain ⟨cl107, ar107, q107, sz107, nn107, hs107, gs107⟩ := id f97
          have hin107 : ¬ ((2 : Int32) < 0 ∨ cl107.slots.size ≤ ((2 : Int32)).toNatClampNeg) := inb_of sz107 ⟨by decide, by decide⟩
          refine own_by (X101.iaload hx (j := (2 : Int32)) (v := (.int (own_g bl10 (2 : Int32)))) (by rw [e101]; exact ar107.1) (State.isArrayOf_alike hZ.alike ar107.2.1) ar107.2.2 hin107 (hs107.at hin107 (own_g_eq bl10 (2 : Int32))) (g := (mkF m 212 #[.val (.int xa), .val (.int xb), .val (.int xc), .val (.int xd), .val (.int xe), .val (.int xf), .val (.int (xa &&& (3 : Int32))), .val (.int (((xa.toUInt32 >>> ((2 : Int32) &&& 31).toUInt32).toInt32) &&& (3 : Int32))), .val (.ref b1), .val (.int (own_g bl10 (0 : Int32))), .val (.int (own_g bl10 (1 : Int32))), .val (.int (own_g bl10 (2 : Int32))), .val (.int (own_g bl10 (3 : Int32))), .val (.ref b84), .val (.int (own_bound (xa &&& (3 : Int32)) xb bl10)), .val (.int v101_t0)] [(.int (2 : Int32)), (.ref b1)])) rfl rfl (hb hby at_212)) ?_
          show own_Go p e below _ (T101.setTop (mkF m 213 #[.val (.int xa), .val (.int xb), .val (.int xc), .val (.int xd), .val (.int xe), .val (.int xf), .val (.int (xa &&& (3 : Int32))), .val (.int (((xa.toUInt32 >>> ((2 : Int32) &&& 31).toUInt32).toInt32) &&& (3 : Int32))), .val (.ref b1), .val (.int (own_g bl10 (0 : Int32))), .val (.int (own_g bl10 (1 : Int32))), .val (.int (own_g bl10 (2 : Int32))), .val (.int (own_g bl10 (3 : Int32))), .val (.ref b84), .val (.int (own_bound (xa &&& (3 : Int32)) xb bl10)), .val (.int v101_t0)] [(.int (own_g bl10 (2 : Int32)))]))
          refine own_by (fun _ => XS.iload X101.here hx rfl (hb hby at_213) rfl) ?_
          show own_Go p e below _ (T101.setTop (mkF m 215 #[.val (.int xa), .val (.int xb), .val (.int xc), .val (.int xd), .val (.int xe), .val (.int xf), .val (.int (xa &&& (3 : Int32))), .val (.int (((xa.toUInt32 >>> ((2 : Int32) &&& 31).toUInt32).toInt32) &&& (3 : Int32))), .val (.ref b1), .val (.int (own_g bl10 (0 : Int32))), .val (.int (own_g bl10 (1 : Int32))), .val (.int (own_g bl10 (2 : Int32))), .val (.int (own_g bl10 (3 : Int32))), .val (.ref b84), .val (.int (own_bound (xa &&& (3 : Int32)) xb bl10)), .val (.int v101_t0)] [(.int (own_g bl10 (2 : Int32))), (.int (own_g bl10 (2 : Int32)))]))
          refine own_by (fun _ => XS.icmpNo X101.here hx rfl (hb hby at_215) rfl (teq (rfl : (own_g bl10 (2 : Int32)) = (own_g bl10 (2 : Int32)))).2) ?_
          show own_Go p e below _ (T101.setTop (mkF m 218 #[.val (.int xa), .val (.int xb), .val (.int xc), .val (.int xd), .val (.int xe), .val (.int xf), .val (.int (xa &&& (3 : Int32))), .val (.int (((xa.toUInt32 >>> ((2 : Int32) &&& 31).toUInt32).toInt32) &&& (3 : Int32))), .val (.ref b1), .val (.int (own_g bl10 (0 : Int32))), .val (.int (own_g bl10 (1 : Int32))), .val (.int (own_g bl10 (2 : Int32))), .val (.int (own_g bl10 (3 : Int32))), .val (.ref b84), .val (.int (own_bound (xa &&& (3 : Int32)) xb bl10)), .val (.int v101_t0)] []))
          refine own_by (fun _ => XS.aload X101.here hx rfl (hb hby at_218) rfl rfl) ?_
          show own_Go p e below _ (T101.setTop (mkF m 220 #[.val (.int xa), .val (.int xb), .val (.int xc), .val (.int xd), .val (.int xe), .val (.int xf), .val (.int (xa &&& (3 : Int32))), .val (.int (((xa.toUInt32 >>> ((2 : Int32) &&& 31).toUInt32).toInt32) &&& (3 : Int32))), .val (.ref b1), .val (.int (own_g bl10 (0 : Int32))), .val (.int (own_g bl10 (1 : Int32))), .val (.int (own_g bl10 (2 : Int32))), .val (.int (own_g bl10 (3 : Int32))), .val (.ref b84), .val (.int (own_bound (xa &&& (3 : Int32)) xb bl10)), .val (.int v101_t0)] [(.ref b1)]))
          refine own_by (fun _ => XS.iconst X101.here hx rfl (hb hby at_220)) ?_
          show own_Go p e below _ (T101.setTop (mkF m 221 #[.val (.int xa), .val (.int xb), .val (.int xc), .val (.int xd), .val (.int xe), .val (.int xf), .val (.int (xa &&& (3 : Int32))), .val (.int (((xa.toUInt32 >>> ((2 : Int32) &&& 31).toUInt32).toInt32) &&& (3 : Int32))), .val (.ref b1), .val (.int (own_g bl10 (0 : Int32))), .val (.int (own_g bl10 (1 : Int32))), .val (.int (own_g bl10 (2 : Int32))), .val (.int (own_g bl10 (3 : Int32))), .val (.ref b84), .val (.int (own_bound (xa &&& (3 : Int32)) xb bl10)), .val (.int v101_t0)] [(.int (3 : Int32)), (.ref b1)]))
          obtain ⟨cl108, ar108, q108, sz108, nn108, hs108, gs108⟩ := id f97
          have hin108 : ¬ ((3 : Int32) < 0 ∨ cl108.slots.size ≤ ((3 : Int32)).toNatClampNeg) := inb_of sz108 ⟨by decide, by decide⟩
          refine own_by (X101.iaload hx (j := (3 : Int32)) (v := (.int (own_g bl10 (3 : Int32)))) (by rw [e101]; exact ar108.1) (State.isArrayOf_alike hZ.alike ar108.2.1) ar108.2.2 hin108 (hs108.at hin108 (own_g_eq bl10 (3 : Int32))) (g := (mkF m 221 #[.val (.int xa), .val (.int xb), .val (.int xc), .val (.int xd), .val (.int xe), .val (.int xf), .val (.int (xa &&& (3 : Int32))), .val (.int (((xa.toUInt32 >>> ((2 : Int32) &&& 31).toUInt32).toInt32) &&& (3 : Int32))), .val (.ref b1), .val (.int (own_g bl10 (0 : Int32))), .val (.int (own_g bl10 (1 : Int32))), .val (.int (own_g bl10 (2 : Int32))), .val (.int (own_g bl10 (3 : Int32))), .val (.ref b84), .val (.int (own_bound (xa &&& (3 : Int32)) xb bl10)), .val (.int v101_t0)] [(.int (3 : Int32)), (.ref b1)])) rfl rfl (hb hby at_221)) ?_
          show own_Go p e below _ (T101.setTop (mkF m 222 #[.val (.int xa), .val (.int xb), .val (.int xc), .val (.int xd), .val (.int xe), .val (.int xf), .val (.int (xa &&& (3 : Int32))), .val (.int (((xa.toUInt32 >>> ((2 : Int32) &&& 31).toUInt32).toInt32) &&& (3 : Int32))), .val (.ref b1), .val (.int (own_g bl10 (0 : Int32))), .val (.int (own_g bl10 (1 : Int32))), .val (.int (own_g bl10 (2 : Int32))), .val (.int (own_g bl10 (3 : Int32))), .val (.ref b84), .val (.int (own_bound (xa &&& (3 : Int32)) xb bl10)), .val (.int v101_t0)] [(.int (own_g bl10 (3 : Int32)))]))
          refine own_by (fun _ => XS.iload X101.here hx rfl (hb hby at_222) rfl) ?_
          show own_Go p e below _ (T101.setTop (mkF m 224 #[.val (.int xa), .val (.int xb), .val (.int xc), .val (.int xd), .val (.int xe), .val (.int xf), .val (.int (xa &&& (3 : Int32))), .val (.int (((xa.toUInt32 >>> ((2 : Int32) &&& 31).toUInt32).toInt32) &&& (3 : Int32))), .val (.ref b1), .val (.int (own_g bl10 (0 : Int32))), .val (.int (own_g bl10 (1 : Int32))), .val (.int (own_g bl10 (2 : Int32))), .val (.int (own_g bl10 (3 : Int32))), .val (.ref b84), .val (.int (own_bound (xa &&& (3 : Int32)) xb bl10)), .val (.int v101_t0)] [(.int (own_g bl10 (3 : Int32))), (.int (own_g bl10 (3 : Int32)))]))
          refine own_by (fun _ => XS.icmpNo X101.here hx rfl (hb hby at_224) rfl (teq (rfl : (own_g bl10 (3 : Int32)) = (own_g bl10 (3 : Int32)))).2) ?_
          show own_Go p e below _ (T101.setTop (mkF m 227 #[.val (.int xa), .val (.int xb), .val (.int xc), .val (.int xd), .val (.int xe), .val (.int xf), .val (.int (xa &&& (3 : Int32))), .val (.int (((xa.toUInt32 >>> ((2 : Int32) &&& 31).toUInt32).toInt32) &&& (3 : Int32))), .val (.ref b1), .val (.int (own_g bl10 (0 : Int32))), .val (.int (own_g bl10 (1 : Int32))), .val (.int (own_g bl10 (2 : Int32))), .val (.int (own_g bl10 (3 : Int32))), .val (.ref b84), .val (.int (own_bound (xa &&& (3 : Int32)) xb bl10)), .val (.int v101_t0)] []))
          refine own_by (fun _ => XS.iconst X101.here hx rfl (hb hby at_227)) ?_
          show own_Go p e below _ (T101.setTop (mkF m 228 #[.val (.int xa), .val (.int xb), .val (.int xc), .val (.int xd), .val (.int xe), .val (.int xf), .val (.int (xa &&& (3 : Int32))), .val (.int (((xa.toUInt32 >>> ((2 : Int32) &&& 31).toUInt32).toInt32) &&& (3 : Int32))), .val (.ref b1), .val (.int (own_g bl10 (0 : Int32))), .val (.int (own_g bl10 (1 : Int32))), .val (.int (own_g bl10 (2 : Int32))), .val (.int (own_g bl10 (3 : Int32))), .val (.ref b84), .val (.int (own_bound (xa &&& (3 : Int32)) xb bl10)), .val (.int v101_t0)] [(.int (1 : Int32))]))
          refine own_by (fun _ => XS.goto X101.here hx rfl (pc0 := 228) (pc' := 232) rfl (hb hby at_228) (by decide) (by decide)) ?_
          show own_Go p e below _ (T101.setTop (mkF m 232 #[.val (.int xa), .val (.int xb), .val (.int xc), .val (.int xd), .val (.int xe), .val (.int xf), .val (.int (xa &&& (3 : Int32))), .val (.int (((xa.toUInt32 >>> ((2 : Int32) &&& 31).toUInt32).toInt32) &&& (3 : Int32))), .val (.ref b1), .val (.int (own_g bl10 (0 : Int32))), .val (.int (own_g bl10 (1 : Int32))), .val (.int (own_g bl10 (2 : Int32))), .val (.int (own_g bl10 (3 : Int32))), .val (.ref b84), .val (.int (own_bound (xa &&& (3 : Int32)) xb bl10)), .val (.int v101_t0)] [(.int (1 : Int32))]))
          exact J103 _ _ (by first | rfl | simp only [if_pos hc188_104]) ⟨_, X101, N101, e101⟩
        ·
          skip
          refine own_by (fun _ => XS.icmpYes X101.here hx rfl (pc0 := 188) (pc' := 231) rfl (hb hby at_188) rfl (feq hc188_104).2 (by decide) (by decide)) ?_
          show own_Go p e below _ (T101.setTop (mkF m 231 #[.val (.int xa), .val (.int xb), .val (.int xc), .val (.int xd), .val (.int xe), .val (.int xf), .val (.int (xa &&& (3 : Int32))), .val (.int (((xa.toUInt32 >>> ((2 : Int32) &&& 31).toUInt32).toInt32) &&& (3 : Int32))), .val (.ref b1), .val (.int (own_g bl10 (0 : Int32))), .val (.int (own_g bl10 (1 : Int32))), .val (.int (own_g bl10 (2 : Int32))), .val (.int (own_g bl10 (3 : Int32))), .val (.ref b84), .val (.int (own_bound (xa &&& (3 : Int32)) xb bl10)), .val (.int v101_t0)] []))
          refine own_by (fun _ => XS.iconst X101.here hx rfl (hb hby at_231)) ?_
          show own_Go p e below _ (T101.setTop (mkF m 232 #[.val (.int xa), .val (.int xb), .val (.int xc), .val (.int xd), .val (.int xe), .val (.int xf), .val (.int (xa &&& (3 : Int32))), .val (.int (((xa.toUInt32 >>> ((2 : Int32) &&& 31).toUInt32).toInt32) &&& (3 : Int32))), .val (.ref b1), .val (.int (own_g bl10 (0 : Int32))), .val (.int (own_g bl10 (1 : Int32))), .val (.int (own_g bl10 (2 : Int32))), .val (.int (own_g bl10 (3 : Int32))), .val (.ref b84), .val (.int (own_bound (xa &&& (3 : Int32)) xb bl10)), .val (.int v101_t0)] [(.int (0 : Int32))]))
          exact J103 _ _ (by first | rfl | simp only [if_neg hc188_104]) ⟨_, X101, N101, e101⟩
      intro T103 v103_t0 hv103_t0 ⟨locs103, X103, N103, e103⟩
      show own_Go p e below _ (T103.setTop (mkF m 232 #[.val (.int xa), .val (.int xb), .val (.int xc), .val (.int xd), .val (.int xe), .val (.int xf), .val (.int (xa &&& (3 : Int32))), .val (.int (((xa.toUInt32 >>> ((2 : Int32) &&& 31).toUInt32).toInt32) &&& (3 : Int32))), .val (.ref b1), .val (.int (own_g bl10 (0 : Int32))), .val (.int (own_g bl10 (1 : Int32))), .val (.int (own_g bl10 (2 : Int32))), .val (.int (own_g bl10 (3 : Int32))), .val (.ref b84), .val (.int (own_bound (xa &&& (3 : Int32)) xb bl10)), .val (.int v101_t0)] [(.int v103_t0)]))
      exact own_retZW X103 hx hlk hS85 hkk96 e103 (by rw [hv103_t0]; (repeat' split) <;> first | exact Or.inl rfl | exact Or.inr rfl) hret (hb hby at_232) (by decide) (by decide) ⟨(congrArg some (congrArg Value.int (by subst hv103_t0; subst hv101_t0; subst hbl10; have own_p := own_plain xa xb xc xd xe xf; simp only [own_law, if_neg hc38_11, if_neg hc53_41] at own_p; exact own_p : v103_t0 = (1 : Int32)))), N103⟩

theorem own_comes {Post : Tables → Env → Array Value → State → Outcome → State → Prop} (hpost : ∀ tb e args s v u, (limb_1_1.after args s (.returned v) u = true ∧ limb_1_2.after args s (.returned v) u = true ∧ True) → ReturnedEndW s (.returned v) u (Jvm.fieldLocs frame_1_writes args s ++ Jvm.arrayLocs frame_1_arrays args s ++ Jvm.staticLocs frame_1_statics s) 16 1152 → Post tb e args s (.returned v) u) :
    ArmFor flags0 classFile x code maxLocals ret World_1 tables_1 room_1 Calls_1 rest_1 Pre_1 Post := by
  intro l hfl _ _ p e ha hc hk s m args below hf hA hF happ hP
  obtain ⟨hcalls, hrest, hpre⟩ := hP
  obtain ⟨-, -, -, hnamed, -, -, -, hat⟩ := (Spec.applies_iff hf).mp happ
  obtain ⟨hg, hn⟩ := and_e (Cond.before_iff.mp (show (Jvm.Cond.and given_1 narrow_1).before args s = true from hpre))
  obtain ⟨hg1, hg2⟩ := and_e hg
  obtain ⟨hg3, hg4⟩ := and_e hg2
  obtain ⟨hg5, hg6⟩ := and_e hg4
  obtain ⟨hg7, hg8⟩ := and_e hg6
  obtain ⟨hg9, hg10⟩ := and_e hg8
  obtain ⟨hg11, hg12⟩ := and_e hg10
  obtain ⟨w0, w1, w2, w3, w4, w5, rfl⟩ : ∃ w0 w1 w2 w3 w4 w5 : Value, args = #[w0, w1, w2, w3, w4, w5] := by
    have hs : args.size = 6 := by simpa [Cond.value, given_1] using hg1
    obtain ⟨L⟩ := args
    match L, hs with
    | [w0, w1, w2, w3, w4, w5], _ => exact ⟨w0, w1, w2, w3, w4, w5, rfl⟩
  have hw := fun d (hd : d ∈ tables_1) => atoms_spec (ws := Jvm.Cond.code x code maxLocals ret :: tables_1) hat d (List.mem_cons_of_mem _ hd)
  have hfit : Fit s := fun {y c} hc i hi => by
    obtain ⟨ha, rfl⟩ := Array.getElem?_eq_some_iff.mp hc
    have q := List.all_eq_true.mp ((Array.all_eq_true_iff_forall_mem.mp hF) _ (Array.getElem_mem ha)) i (List.mem_range.mpr hi)
    simpa [Array.getElem?_eq_getElem hi] using q
  obtain ⟨i0, ei0⟩ := is_v hg3
  obtain rfl : w0 = (.int i0) := Option.some.inj ei0
  obtain ⟨i1, ei1⟩ := is_v hg5
  obtain rfl : w1 = (.int i1) := Option.some.inj ei1
  obtain ⟨i2, ei2⟩ := is_v hg7
  obtain rfl : w2 = (.int i2) := Option.some.inj ei2
  obtain ⟨i3, ei3⟩ := is_v hg9
  obtain rfl : w3 = (.int i3) := Option.some.inj ei3
  obtain ⟨i4, ei4⟩ := is_v hg11
  obtain rfl : w4 = (.int i4) := Option.some.inj ei4
  obtain ⟨i5, ei5⟩ := is_v hg12
  obtain rfl : w5 = (.int i5) := Option.some.inj ei5
  obtain ⟨n, o, h1, h2, h3, _, L, rfl, ⟨rfl, N⟩, hq⟩ := own_rm0 l s _ hw tables_1 i0 i1 i2 i3 i4 i5 s.heap s.heap.size (Nat.le_refl _) p e ha hc hk s m _ below hf ((Spec.applies_iff_loose hf).mp happ).1 ⟨rfl, State.Warmed39.refl s, rfl⟩ trivial
  refine ⟨n, _, h1, h2, h3, hpost _ _ _ _ _ _ ⟨Cond.after_iff.mpr rfl, Cond.after_iff.mpr (eq_i res_at (Term.int_eval (1)) rfl), trivial⟩ ⟨hq.1, hq.2.1, hq.2.2.1, (hq.2.2.2.sift fun y hy => Or.inr (N y hy)).mono (by decide) (by decide)⟩⟩
theorem main_1_1 : Claimed_1_1 := own_comes fun _ _ _ _ _ _ h hF => ⟨h.1, hF⟩
theorem main_1_2 : Claimed_1_2 := own_comes fun _ _ _ _ _ _ h hF => ⟨h.2.1, hF⟩
end Jvm.Pilot.@@N@@
namespace Jvm.Pilot.@@N@@
open Jvm Jvm.ClassFile Sem Op Lib Jvm.Free Jvm.Stand Jvm.Pilot.@@N@@.Jvm.D
/-! MADE BY PROGRAM (witnessworld.py) out of the Statement's table words and the real class files: 15 classes; the members and pool entries that the words name. The judged class is class 1, her method 1. -/
namespace start1
open Jvm.ClassFile
def u (s : String) : CpInfo := .utf8 (stringToUtf16 s)
/-- a pool by its gaps: so many unusable entries, then the entry; so many at the end -/
def gap : Nat → List CpInfo → List CpInfo
  | 0, r => r
  | n + 1, r => .unusable :: gap n r
def poolList (es : List (Nat × CpInfo)) (last : Nat) : List CpInfo := es.foldr (fun e r => gap e.1 (e.2 :: r)) (gap last [])
def pool (es : List (Nat × CpInfo)) (last : Nat) : Array CpInfo := ⟨poolList es last⟩
def fileOf (pool : Array CpInfo) (this : Nat) (attrs : Array Attribute := #[]) (ms : Array MethodInfo := #[]) (fl : Nat := 33) (sup : Nat := 0) (ifs : Array Nat := #[]) (fds : Array FieldInfo := #[]) : ClassFile where
  minorVersion := 0
  majorVersion := 65
  constantPool := pool
  accessFlags := fl
  thisClass := this
  superClass := sup
  interfaces := ifs
  fields := fds
  methods := ms
  attributes := attrs
def plain (name : String) (sup : Option ClassId) : Class where
  name := name
  kind := .ordinary
  loader := none
  accessFlags := 33
  super := sup
  interfaces := #[]
  cf := none
  fields := #[]
  methods := #[]
  instanceTypes := #[]
  staticTypes := #[]
  resolved := #[]
  callSites := []
  init := .initialized
  statics := none
  mirror := none

def pool0 : Array CpInfo := pool [(5, u "<init>"), (0, u "()V"), (1, .class_ 10), (1, u "java/lang/Object")] 113

def k0c0 : Code := { maxStack := 0, maxLocals := 1, code := object_method_1_code, exceptionTable := #[], attributes := #[] }
def k0m0 : Method := { name := "<init>", desc := "()V", sig := { parameters := [], returnType := none }, accessFlags := 1, code := some k0c0 }
/-- java/lang/Object -/
def k0 : Class := { plain "java/lang/Object" none with
  accessFlags := 33
  interfaces := #[]
  cf := some (fileOf pool0 8 #[] #[{ accessFlags := 1, nameIndex := 5, descriptorIndex := 6, attributes := #[] }] 33 0 #[] #[])
  fields := #[]
  methods := #[k0m0]
  instanceTypes := #[]
  staticTypes := #[]
  resolved := Array.replicate 124 none
  statics := none }

def pool1 : Array CpInfo := pool [(2, .class_ 4), (1, u "java/lang/Object"), (0, u "<init>"), (0, u "()V"), (0, .class_ 8), (0, u "com/example/composiq/composiq/Problem$Candidate"), (0, .string 10), (0, u "c"), (0, .methodref 7 12), (0, .nameAndType 5 13), (0, u "(Ljava/lang/String;II[D)V"), (0, .methodref 7 15), (0, .nameAndType 16 17), (0, u "isBoundIn"), (0, u "([I)Z"), (0, .methodref 19 20), (0, .class_ 21), (0, .nameAndType 22 23), (0, u "com/example/composiq/composiq/CandidateIsBoundInPinLaw"), (0, u "pick"), (0, u "(IIIII)I"), (2, u "law"), (0, u "(IIIIII)Z")] 9

def k1m0 : Method := { name := "<init>", desc := "()V", sig := { parameters := [], returnType := none }, accessFlags := 1, code := none }
def k1c1 : Code := { maxStack := 10, maxLocals := 16, code := code, exceptionTable := #[], attributes := #[] }
def k1m1 : Method := { name := "law", desc := "(IIIIII)Z", sig := { parameters := [.int, .int, .int, .int, .int, .int], returnType := some .boolean }, accessFlags := 9, code := some k1c1 }
def k1c2 : Code := { maxStack := 2, maxLocals := 5, code := method_3_code, exceptionTable := #[], attributes := #[] }
def k1m2 : Method := { name := "pick", desc := "(IIIII)I", sig := { parameters := [.int, .int, .int, .int, .int], returnType := some .int }, accessFlags := 10, code := some k1c2 }
/-- com/example/composiq/composiq/CandidateIsBoundInPinLaw -/
def k1 : Class := { plain "com/example/composiq/composiq/CandidateIsBoundInPinLaw" (some 0) with
  accessFlags := 49
  interfaces := #[]
  cf := some (fileOf pool1 19 #[] #[{ accessFlags := 1, nameIndex := 5, descriptorIndex := 6, attributes := #[] }, { accessFlags := 9, nameIndex := 26, descriptorIndex := 27, attributes := #[] }, { accessFlags := 10, nameIndex := 22, descriptorIndex := 23, attributes := #[] }] 49 2 #[] #[])
  fields := #[]
  methods := #[k1m0, k1m1, k1m2]
  instanceTypes := #[]
  staticTypes := #[]
  resolved := Array.replicate 37 none
  statics := none }

def pool2 : Array CpInfo := pool [(1, .methodref 2 3), (0, .class_ 4), (0, .nameAndType 5 6), (0, u "java/lang/Object"), (0, u "<init>"), (0, u "()V"), (0, .class_ 8), (0, u "java/lang/Record")] 13

def k2c0 : Code := { maxStack := 1, maxLocals := 1, code := jdk_30_method_1_code, exceptionTable := #[], attributes := #[] }
def k2m0 : Method := { name := "<init>", desc := "()V", sig := { parameters := [], returnType := none }, accessFlags := 4, code := some k2c0 }
/-- java/lang/Record -/
def k2 : Class := { plain "java/lang/Record" (some 0) with
  accessFlags := 1057
  interfaces := #[]
  cf := some (fileOf pool2 7 #[] #[{ accessFlags := 4, nameIndex := 5, descriptorIndex := 6, attributes := #[] }] 1057 2 #[] #[])
  fields := #[]
  methods := #[k2m0]
  instanceTypes := #[]
  staticTypes := #[]
  resolved := Array.replicate 22 none
  statics := none }

def pool3 : Array CpInfo := pool [(1, .methodref 2 3), (0, .class_ 4), (0, .nameAndType 5 6), (0, u "java/lang/Record"), (0, u "<init>"), (0, u "()V"), (0, .fieldref 8 9), (0, .class_ 10), (0, .nameAndType 11 12), (0, u "com/example/composiq/composiq/Problem$Candidate"), (0, u "id"), (0, u "Ljava/lang/String;"), (0, .fieldref 8 14), (0, .nameAndType 15 16), (0, u "task"), (0, u "I"), (0, .fieldref 8 18), (0, .nameAndType 19 16), (0, u "index"), (0, .fieldref 8 21), (0, .nameAndType 22 23), (0, u "qos"), (0, u "[D"), (41, u "NOT_AN_ID"), (3, u "(Ljava/lang/String;II[D)V"), (6, u "isBoundIn"), (0, u "([I)Z"), (8, .class_ 87), (0, u "com/example/composiq/composiq/Problem")] 33

def k3c0 : Code := { maxStack := 2, maxLocals := 5, code := prog_13_method_1_code, exceptionTable := #[], attributes := #[] }
def k3m0 : Method := { name := "<init>", desc := "(Ljava/lang/String;II[D)V", sig := { parameters := [(.object "java/lang/String"), .int, .int, (.array .double)], returnType := none }, accessFlags := 0, code := some k3c0 }
def k3c1 : Code := { maxStack := 2, maxLocals := 2, code := prog_13_method_3_code, exceptionTable := #[], attributes := #[] }
def k3m1 : Method := { name := "isBoundIn", desc := "([I)Z", sig := { parameters := [(.array .int)], returnType := some .boolean }, accessFlags := 0, code := some k3c1 }
/-- com/example/composiq/composiq/Problem$Candidate -/
def k3 : Class := { plain "com/example/composiq/composiq/Problem$Candidate" (some 2) with
  accessFlags := 48
  interfaces := #[]
  cf := some (fileOf pool3 8 #[.nestHost 86] #[{ accessFlags := 0, nameIndex := 5, descriptorIndex := 69, attributes := #[] }, { accessFlags := 0, nameIndex := 76, descriptorIndex := 77, attributes := #[] }] 48 2 #[] #[{ accessFlags := 18, nameIndex := 11, descriptorIndex := 12, attributes := #[] }, { accessFlags := 18, nameIndex := 15, descriptorIndex := 16, attributes := #[] }, { accessFlags := 18, nameIndex := 19, descriptorIndex := 16, attributes := #[] }, { accessFlags := 18, nameIndex := 22, descriptorIndex := 23, attributes := #[] }, { accessFlags := 24, nameIndex := 65, descriptorIndex := 12, attributes := #[] }])
  fields := #[{ name := "id", type := (.object "java/lang/String"), accessFlags := 18, slot := 0, constantValue := 0 }, { name := "task", type := .int, accessFlags := 18, slot := 1, constantValue := 0 }, { name := "index", type := .int, accessFlags := 18, slot := 2, constantValue := 0 }, { name := "qos", type := (.array .double), accessFlags := 18, slot := 3, constantValue := 0 }, { name := "NOT_AN_ID", type := (.object "java/lang/String"), accessFlags := 24, slot := 0, constantValue := 0 }]
  methods := #[k3m0, k3m1]
  instanceTypes := #[(.object "java/lang/String"), .int, .int, (.array .double)]
  staticTypes := #[(.object "java/lang/String")]
  resolved := Array.replicate 121 none
  statics := none }

def pool4 : Array CpInfo := pool [(1, .class_ 2), (0, u "java/io/Serializable"), (0, .class_ 4), (0, u "java/lang/Object")] 2

/-- java/io/Serializable -/
def k4 : Class := { plain "java/io/Serializable" (some 0) with
  accessFlags := 1537
  interfaces := #[]
  cf := some (fileOf pool4 1 #[] #[] 1537 3 #[] #[])
  fields := #[]
  methods := #[]
  instanceTypes := #[]
  staticTypes := #[]
  resolved := Array.replicate 7 none
  statics := none }

def pool5 : Array CpInfo := pool [(1, .class_ 2), (0, u "java/lang/Comparable"), (0, .class_ 4), (0, u "java/lang/Object")] 7

/-- java/lang/Comparable -/
def k5 : Class := { plain "java/lang/Comparable" (some 0) with
  accessFlags := 1537
  interfaces := #[]
  cf := some (fileOf pool5 1 #[] #[] 1537 3 #[] #[])
  fields := #[]
  methods := #[]
  instanceTypes := #[]
  staticTypes := #[]
  resolved := Array.replicate 12 none
  statics := none }

def pool6 : Array CpInfo := pool [(2, .class_ 4), (1, u "java/lang/CharSequence"), (42, .class_ 48), (0, u "java/lang/CharSequence$1CodePointIterator"), (10, .class_ 60), (0, u "java/lang/CharSequence$1CharIterator"), (5, .class_ 67), (0, u "java/lang/Object")] 63

/-- java/lang/CharSequence -/
def k6 : Class := { plain "java/lang/CharSequence" (some 0) with
  accessFlags := 1537
  interfaces := #[]
  cf := some (fileOf pool6 2 #[.nestMembers #[47, 59]] #[] 1537 66 #[] #[])
  fields := #[]
  methods := #[]
  instanceTypes := #[]
  staticTypes := #[]
  resolved := Array.replicate 131 none
  statics := none }

def pool7 : Array CpInfo := pool [(1, .class_ 2), (0, u "java/lang/constant/Constable"), (0, .class_ 4), (0, u "java/lang/Object")] 6

/-- java/lang/constant/Constable -/
def k7 : Class := { plain "java/lang/constant/Constable" (some 0) with
  accessFlags := 1537
  interfaces := #[]
  cf := some (fileOf pool7 1 #[] #[] 1537 3 #[] #[])
  fields := #[]
  methods := #[]
  instanceTypes := #[]
  staticTypes := #[]
  resolved := Array.replicate 11 none
  statics := none }

def pool8 : Array CpInfo := pool [(1, .class_ 2), (0, u "java/lang/constant/ConstantDesc"), (0, .class_ 4), (0, u "java/lang/Object")] 32

/-- java/lang/constant/ConstantDesc -/
def k8 : Class := { plain "java/lang/constant/ConstantDesc" (some 0) with
  accessFlags := 1537
  interfaces := #[]
  cf := some (fileOf pool8 1 #[] #[] 1537 3 #[] #[])
  fields := #[]
  methods := #[]
  instanceTypes := #[]
  staticTypes := #[]
  resolved := Array.replicate 37 none
  statics := none }

def pool9 : Array CpInfo := pool [(2, .class_ 4), (1, u "java/lang/Object"), (0, u "<init>"), (0, u "()V"), (3, .class_ 12), (1, u "java/lang/String"), (0, u "value"), (0, u "[B"), (2, u "coder"), (0, u "B"), (2, u "hash"), (0, u "I"), (2, u "hashIsZero"), (0, u "Z"), (13, u "COMPACT_STRINGS"), (534, .class_ 576), (0, u "java/lang/CharSequence"), (22, u "CASE_INSENSITIVE_ORDER"), (0, u "Ljava/util/Comparator;"), (500, u "serialPersistentFields"), (0, u "[Ljava/io/ObjectStreamField;"), (0, .class_ 1104), (0, u "java/lang/String$CaseInsensitiveComparator"), (1, .class_ 1107), (0, u "java/io/Serializable"), (0, .class_ 1109), (0, u "java/lang/Comparable"), (0, .class_ 1111), (0, u "java/lang/constant/Constable"), (0, .class_ 1113), (0, u "java/lang/constant/ConstantDesc"), (2, u "serialVersionUID"), (0, u "J"), (3, u "REPL"), (0, u "C"), (2, u "LATIN1"), (1, u "UTF16")] 323

def k9m0 : Method := { name := "<init>", desc := "()V", sig := { parameters := [], returnType := none }, accessFlags := 1, code := none }
/-- java/lang/String -/
def k9 : Class := { plain "java/lang/String" (some 0) with
  accessFlags := 49
  interfaces := #[4, 5, 6, 7, 8]
  cf := some (fileOf pool9 10 #[.nestMembers #[1103]] #[{ accessFlags := 1, nameIndex := 5, descriptorIndex := 6, attributes := #[] }] 49 2 #[1106, 1108, 575, 1110, 1112] #[{ accessFlags := 18, nameIndex := 13, descriptorIndex := 14, attributes := #[] }, { accessFlags := 18, nameIndex := 17, descriptorIndex := 18, attributes := #[] }, { accessFlags := 2, nameIndex := 21, descriptorIndex := 22, attributes := #[] }, { accessFlags := 2, nameIndex := 25, descriptorIndex := 26, attributes := #[] }, { accessFlags := 26, nameIndex := 1116, descriptorIndex := 1117, attributes := #[] }, { accessFlags := 24, nameIndex := 40, descriptorIndex := 26, attributes := #[] }, { accessFlags := 26, nameIndex := 1101, descriptorIndex := 1102, attributes := #[] }, { accessFlags := 26, nameIndex := 1121, descriptorIndex := 1122, attributes := #[] }, { accessFlags := 25, nameIndex := 599, descriptorIndex := 600, attributes := #[] }, { accessFlags := 24, nameIndex := 1125, descriptorIndex := 18, attributes := #[] }, { accessFlags := 24, nameIndex := 1127, descriptorIndex := 18, attributes := #[] }])
  fields := #[{ name := "value", type := (.array .byte), accessFlags := 18, slot := 0, constantValue := 0 }, { name := "coder", type := .byte, accessFlags := 18, slot := 1, constantValue := 0 }, { name := "hash", type := .int, accessFlags := 2, slot := 2, constantValue := 0 }, { name := "hashIsZero", type := .boolean, accessFlags := 2, slot := 3, constantValue := 0 }, { name := "serialVersionUID", type := .long, accessFlags := 26, slot := 0, constantValue := 0 }, { name := "COMPACT_STRINGS", type := .boolean, accessFlags := 24, slot := 1, constantValue := 0 }, { name := "serialPersistentFields", type := (.array (.object "java/io/ObjectStreamField")), accessFlags := 26, slot := 2, constantValue := 0 }, { name := "REPL", type := .char, accessFlags := 26, slot := 3, constantValue := 0 }, { name := "CASE_INSENSITIVE_ORDER", type := (.object "java/util/Comparator"), accessFlags := 25, slot := 4, constantValue := 0 }, { name := "LATIN1", type := .byte, accessFlags := 24, slot := 5, constantValue := 0 }, { name := "UTF16", type := .byte, accessFlags := 24, slot := 6, constantValue := 0 }]
  methods := #[k9m0]
  instanceTypes := #[(.array .byte), .byte, .int, .boolean]
  staticTypes := #[.long, .boolean, (.array (.object "java/io/ObjectStreamField")), .char, (.object "java/util/Comparator"), .byte, .byte]
  resolved := Array.replicate 1451 none
  statics := none }

def pool10 : Array CpInfo := pool [(1, u "java/lang/Cloneable"), (0, .class_ 1), (0, u "java/lang/Object"), (0, .class_ 3)] 3

/-- java/lang/Cloneable -/
def k10 : Class := { plain "java/lang/Cloneable" (some 0) with
  accessFlags := 1537
  interfaces := #[]
  cf := some (fileOf pool10 2 #[] #[] 1537 4 #[] #[])
  fields := #[]
  methods := #[]
  instanceTypes := #[]
  staticTypes := #[]
  resolved := Array.replicate 8 none
  statics := none }

/-- the primitive byte -/
def k11 : Class := { plain "byte" none with kind := .primitive 'B', accessFlags := 0x411 }
/-- [B -/
def k12 : Class := { plain "[B" (some 0) with kind := .array 11 .byte, interfaces := #[10, 4], accessFlags := 1041 }

/-- the primitive int -/
def k13 : Class := { plain "int" none with kind := .primitive 'I', accessFlags := 0x411 }
/-- [I -/
def k14 : Class := { plain "[I" (some 0) with kind := .array 13 .int, interfaces := #[10, 4], accessFlags := 1041 }
/-- the primitive double -/
def k15 : Class := { plain "double" none with kind := .primitive 'D', accessFlags := 0x411 }
/-- [D -/
def k16 : Class := { plain "[D" (some 0) with kind := .array 15 .double, interfaces := #[10, 4], accessFlags := 1041 }

def heap : Heap := #[]
def classes : Array Class := #[k0, k1, k2, k3, k4, k5, k6, k7, k8, k9, k10, k11, k12, k13, k14, k15, k16]
def interned : List (Array UInt16 × Addr) := []
def slotsUsed : Nat := 0
def theMethod : MethodId := ⟨1, 1⟩
def args0 : Array Value := #[.int 5, .int 3, .int 2, .int 7, .int 8, .int 9]
def aboutOver (below : List Frame) : State where
  vm := { classes := classes, interned := interned.toArray }
  heap := heap
  slotsUsed := slotsUsed
  threads := #[{ frames := .invoking theMethod args0 :: below }]
def below0 : List Frame := [.native { method := ⟨0, 0⟩, args := #[] }]
def about1 : State := aboutOver below0
def p0 : Program := .bare "" "" ""
def e0 : Env := launch0.env 0 0 0
theorem w_frames : about1.frames = Frame.invoking theMethod args0 :: below0 := rfl
set_option maxRecDepth 65536 in
theorem w_args : argsFit about1.vm theMethod args0 = true := by decide +kernel
set_option maxRecDepth 65536 in
theorem w_heap : heapFits about1 = true := by decide +kernel
set_option maxRecDepth 65536 in
theorem w_runnable : about1.curStatus? = some .runnable := by decide +kernel
set_option maxRecDepth 65536 in
theorem w_alone : about1.alone = true := by decide +kernel
set_option maxRecDepth 65536 in
theorem w_named : about1.methodNamed? x = some theMethod := by decide +kernel
set_option maxRecDepth 65536 in
theorem w_hears : about1.hears theMethod below0 = true := by decide +kernel
set_option maxRecDepth 65536 in
theorem w_ripe : about1.ripe theMethod args0 below0 = true := by decide +kernel
theorem w_running : about1.status = .running := rfl
set_option maxRecDepth 65536 in
theorem w_room : about1.hasRoom e0.platform room_1 = true :=
  launch0.hasRoom_least _ room_1 (by decide +kernel) (by decide +kernel) (by decide +kernel) (by decide +kernel) (by decide +kernel) (by decide +kernel)
theorem allAtoms_all (ts : List Jvm.Cond) (a : Array Jvm.Value) (st : Jvm.State) : (allAtoms ts).before a st = ts.all (fun c => c.before a st) := by
  induction ts with
  | nil => rfl
  | cons c t ih =>
    show (Jvm.Cond.and c (allAtoms t)).before a st = _
    rw [Jvm.Cond.before_and, ih, List.all_cons]
def words1 : List Jvm.Cond := Jvm.Cond.code x code maxLocals ret :: tables_1
/-- a 'code' word, met by the world's own term for the bytes: nothing is compared byte by byte -/
theorem code_word {y : MethodName} {bytes : ByteArray} {mx : Nat} {rt : Option FieldType} {a : Array Value} {s : State} {m : MethodId} {meth : Method} {c : Code} (h1 : s.methodNamed? y = some m) (h2 : s.vm.method? m = some meth) (h3 : meth.code = some c) (h4 : c.code = bytes)
    (h5 : (c.maxLocals == mx && c.exceptionTable.isEmpty && decide (c.maxStack ≤ mostOperands) && decide (meth.sig.returnType = rt) && !meth.locks && decide (parseMethodDescriptor y.desc = some meth.sig)) = true) : (Jvm.Cond.code y bytes mx rt).before a s = true := by
  simp only [Bool.and_eq_true, beq_iff_eq, Bool.not_eq_true', decide_eq_true_eq] at h5
  obtain ⟨⟨⟨⟨⟨g1, g2⟩, g3⟩, g4⟩, g5⟩, g6⟩ := h5
  simp [Cond.before, Cond.holds, Cond.value, h1, h2, h3, h4, g1, g2, g3, g4, g5, g6]
def isCode : Jvm.Cond → Bool
  | .code _ _ _ _ => true
  | _ => false
theorem all_split {L : List Jvm.Cond} {P : Jvm.Cond → Bool} (h1 : L.all (fun c => isCode c || P c) = true) (h2 : ∀ c ∈ L.filter isCode, P c = true) : L.all P = true := by
  refine List.all_eq_true.mpr fun c hc => ?_
  have h := List.all_eq_true.mp h1 c hc
  rcases Bool.eq_false_or_eq_true (isCode c) with hi | hi
  · exact h2 c (List.mem_filter.mpr ⟨hc, hi⟩)
  · simpa [hi] using h
set_option maxRecDepth 65536 in
theorem w_c0 : (Jvm.Cond.code x code maxLocals ret).before args0 about1 = true := code_word (m := ⟨1, 1⟩) (meth := k1m1) (c := k1c1) (by decide +kernel) rfl rfl rfl (by decide +kernel)
set_option maxRecDepth 65536 in
theorem w_c1 : (Jvm.Cond.code ({ cls := "com/example/composiq/composiq/Problem$Candidate", name := "<init>", desc := "(Ljava/lang/String;II[D)V" } : Jvm.MethodName) prog_13_method_1_code (5 : Nat) (Option.none : Option Jvm.ClassFile.FieldType)).before args0 about1 = true := code_word (m := ⟨3, 0⟩) (meth := k3m0) (c := k3c0) (by decide +kernel) rfl rfl rfl (by decide +kernel)
set_option maxRecDepth 65536 in
theorem w_c2 : (Jvm.Cond.code ({ cls := "java/lang/Record", name := "<init>", desc := "()V" } : Jvm.MethodName) jdk_30_method_1_code (1 : Nat) (Option.none : Option Jvm.ClassFile.FieldType)).before args0 about1 = true := code_word (m := ⟨2, 0⟩) (meth := k2m0) (c := k2c0) (by decide +kernel) rfl rfl rfl (by decide +kernel)
set_option maxRecDepth 65536 in
theorem w_c3 : (Jvm.Cond.code ({ cls := "java/lang/Object", name := "<init>", desc := "()V" } : Jvm.MethodName) object_method_1_code (1 : Nat) (Option.none : Option Jvm.ClassFile.FieldType)).before args0 about1 = true := code_word (m := ⟨0, 0⟩) (meth := k0m0) (c := k0c0) (by decide +kernel) rfl rfl rfl (by decide +kernel)
set_option maxRecDepth 65536 in
theorem w_c4 : (Jvm.Cond.code ({ cls := "com/example/composiq/composiq/Problem$Candidate", name := "isBoundIn", desc := "([I)Z" } : Jvm.MethodName) prog_13_method_3_code (2 : Nat) (Option.some Jvm.ClassFile.FieldType.boolean)).before args0 about1 = true := code_word (m := ⟨3, 1⟩) (meth := k3m1) (c := k3c1) (by decide +kernel) rfl rfl rfl (by decide +kernel)
set_option maxRecDepth 65536 in
theorem w_c5 : (Jvm.Cond.code ({ cls := "com/example/composiq/composiq/CandidateIsBoundInPinLaw", name := "pick", desc := "(IIIII)I" } : Jvm.MethodName) method_3_code (5 : Nat) (Option.some Jvm.ClassFile.FieldType.int)).before args0 about1 = true := code_word (m := ⟨1, 2⟩) (meth := k1m2) (c := k1c2) (by decide +kernel) rfl rfl rfl (by decide +kernel)
def codes1 : List Jvm.Cond := [Jvm.Cond.code x code maxLocals ret, Jvm.Cond.code ({ cls := "com/example/composiq/composiq/Problem$Candidate", name := "<init>", desc := "(Ljava/lang/String;II[D)V" } : Jvm.MethodName) prog_13_method_1_code (5 : Nat) (Option.none : Option Jvm.ClassFile.FieldType), Jvm.Cond.code ({ cls := "java/lang/Record", name := "<init>", desc := "()V" } : Jvm.MethodName) jdk_30_method_1_code (1 : Nat) (Option.none : Option Jvm.ClassFile.FieldType), Jvm.Cond.code ({ cls := "java/lang/Object", name := "<init>", desc := "()V" } : Jvm.MethodName) object_method_1_code (1 : Nat) (Option.none : Option Jvm.ClassFile.FieldType), Jvm.Cond.code ({ cls := "com/example/composiq/composiq/Problem$Candidate", name := "isBoundIn", desc := "([I)Z" } : Jvm.MethodName) prog_13_method_3_code (2 : Nat) (Option.some Jvm.ClassFile.FieldType.boolean), Jvm.Cond.code ({ cls := "com/example/composiq/composiq/CandidateIsBoundInPinLaw", name := "pick", desc := "(IIIII)I" } : Jvm.MethodName) method_3_code (5 : Nat) (Option.some Jvm.ClassFile.FieldType.int)]
set_option maxRecDepth 65536 in
theorem codes_eq : words1.filter isCode = codes1 := rfl
theorem w_codes : ∀ c ∈ words1.filter isCode, c.before args0 about1 = true := by
  rw [codes_eq]
  intro c hc
  simp only [codes1, List.mem_cons, List.not_mem_nil, or_false] at hc
  rcases hc with rfl | rfl | rfl | rfl | rfl | rfl
  · exact w_c0
  · exact w_c1
  · exact w_c2
  · exact w_c3
  · exact w_c4
  · exact w_c5
set_option maxRecDepth 65536 in
theorem w_t1 : (words1.take 24).all (fun c => isCode c || c.before args0 about1) = true := by decide +kernel
set_option maxRecDepth 65536 in
theorem w_t2 : (words1.drop 24).all (fun c => isCode c || c.before args0 about1) = true := by decide +kernel
theorem w_tables : (allAtoms (Jvm.Cond.code x code maxLocals ret :: tables_1)).before args0 about1 = true := by
  rw [allAtoms_all]
  show words1.all (fun c => c.before args0 about1) = true
  refine all_split ?_ w_codes
  rw [← List.take_append_drop 24 words1, List.all_append, w_t1, w_t2]
  rfl
set_option maxRecDepth 65536 in
theorem w_case : (Jvm.Cond.and given_1 narrow_1).before args0 about1 = true := by decide +kernel
theorem w_applies : (headSpec (Jvm.Cond.code x code maxLocals ret :: tables_1) room_1).applies x e0.platform about1 = true :=
  (Spec.applies_iff w_frames).mpr ⟨w_running, w_runnable, w_alone, w_named, w_hears, w_ripe, w_room, w_tables⟩
theorem atStart : AtStart classFile x code maxLocals ret World_1 tables_1 room_1 Calls_1 rest_1 Pre_1 launch0 p0 e0 about1 theMethod args0 below0 :=
  ⟨lists_1, trivial, launch0.admits_env _ _ _, launch0.least_env, fairChoices_fair.cas, fairChoices_fair.clock, w_frames, w_args, w_heap, w_applies, trivial, trivial, w_case⟩
end start1
theorem witness_1 : WitnessClaimed_1 := ⟨start1.p0, start1.e0, start1.about1, start1.theMethod, start1.args0, start1.below0, start1.atStart⟩
end Jvm.Pilot.@@N@@
