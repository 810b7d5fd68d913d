import JvmDerived
import JvmDerived.Pilot.@@N@@Statement
import JvmDerived.Pilot.@@N@@Code
set_option linter.unusedVariables false
set_option linter.unusedSimpArgs false
set_option maxRecDepth 65536
set_option maxHeartbeats 40000000
namespace Jvm.Pilot.@@N@@
open Jvm Jvm.ClassFile Sem Op Lib Jvm.Free Jvm.Stand Jvm.LawKit Jvm.RoadKit Bundle Jvm.Pilot.@@N@@.Jvm.D
section OwnKit
variable {p : Program} {l : Launch} {e : Env} {R : Room} {s : State} {m : MethodId} {args : Array Value} {below : List Frame} {meth : Method} {c : Code} {T : State} {locs : List Loc} {cells slots : Nat}
/-- from here the run comes to an end that E allows -/
def own_Go (p : Program) (e : Env) (below : List Frame) (E : State → Prop) (S : State) : Prop := ∃ t, Steps p.tables e below S t ∧ E t
/-- the invocation has ended, with a value, a heap and a list of written places that Q allows -/
def own_End (s : State) (below : List Frame) (Q : Option Value → Heap → List Loc → Prop) (C N : Nat) (t : State) : Prop :=
  t.status = .running ∧ ∃ v L, Ended t below (.returned v) ∧ Q v t.heap L ∧ FrameEnd s (.returned v) t L C N
/-- the walk stands here, with this heap, having written only what is new -/
def own_At (p : Program) (l : Launch) (e : Env) (R : Room) (s : State) (m : MethodId) (args : Array Value) (below : List Frame) (meth : Method) (c : Code) (n0 : Nat) (T : State) (h : Heap) (cells slots : Nat) : Prop :=
  ∃ locs, Stand p l e R s m args below meth c T locs cells slots ∧ Fr n0 locs ∧ T.heap = h
theorem own_by {E : State → Prop} {S S' : State} (k : ∀ t, Steps p.tables e below S' t → Steps p.tables e below S t) (h : own_Go p e below E S') : own_Go p e below E S :=
  h.imp fun t q => ⟨k t q.1, q.2⟩
theorem own_tr {E : State → Prop} {S S' : State} (k : Steps p.tables e below S S') (h : own_Go p e below E S') : own_Go p e below E S :=
  h.imp fun t q => ⟨k.trans q.1, q.2⟩
theorem own_mono {E E' : State → Prop} {S : State} (k : ∀ t, E t → E' t) (h : own_Go p e below E S) : own_Go p e below E' S := h.imp fun t q => ⟨q.1, k t q.2⟩
theorem own_monoQ {Q Q' : Option Value → Heap → List Loc → Prop} {C N : Nat} {S : State} (k : ∀ v h L, Q v h L → Q' v h L) (h : own_Go p e below (own_End s below Q C N) S) : own_Go p e below (own_End s below Q' C N) S :=
  own_mono (fun t ⟨a, v, L, b, q, r⟩ => ⟨a, v, L, b, k _ _ _ q, r⟩) h
variable {Q : Option Value → Heap → List Loc → Prop} {C N : Nat} {h : Heap} {pc : Nat} {Ls : Array Slot} {rest : List Value}
theorem own_ret (X : Stand p l e R s m args below meth c T locs cells slots) (hx : p.tables.exec = Jvm.exec) (hlk : meth.locks = false) (eT : T.heap = h) {w : Value} {t : FieldType} {i : Instr} (hret : meth.sig.returnType = some t) (hn : narrow t w = w)
    (hi : (i = .ireturn ∧ (t = .int ∨ t = .boolean ∨ t = .byte ∨ t = .char ∨ t = .short) ∧ ∃ z, w = .int z) ∨ (i = .lreturn ∧ t = .long ∧ ∃ z, w = .long z) ∨ (i = .dreturn ∧ t = .double ∧ ∃ z, w = .double z) ∨ (i = .freturn ∧ t = .float ∧ ∃ z, w = .float z) ∨ (i = .areturn ∧ t.isReference = true ∧ w.isRef = true))
    (hd : decode c.code pc = .ok (i, 1)) (hc : cells ≤ C) (hs : slots ≤ N) (hQ : Q (some w) h locs) : own_Go p e below (own_End s below Q C N) (T.setTop (mkF m pc Ls (w :: rest))) := by
  obtain ⟨fs, hr, hrun, hended, hW, hsame⟩ := X.leave (v := some w) (fun q => by rw [hret] at q; cases q) hlk
  subst eT
  exact ⟨_, retOut X hx hret hn hi hd hr, hrun, _, _, hended, hQ, ⟨_, rfl⟩, hW, hsame.mono hc hs⟩
theorem own_retI (X : Stand p l e R s m args below meth c T locs cells slots) (hx : p.tables.exec = Jvm.exec) (hlk : meth.locks = false) (eT : T.heap = h) {z : Int32} (hret : meth.sig.returnType = some .int) (hd : decode c.code pc = .ok (.ireturn, 1)) (hc : cells ≤ C) (hs : slots ≤ N) (hQ : Q (some (.int z)) h locs) :
    own_Go p e below (own_End s below Q C N) (T.setTop (mkF m pc Ls (.int z :: rest))) := own_ret X hx hlk eT hret rfl (Or.inl ⟨rfl, Or.inl rfl, _, rfl⟩) hd hc hs hQ
theorem own_retZ (X : Stand p l e R s m args below meth c T locs cells slots) (hx : p.tables.exec = Jvm.exec) (hlk : meth.locks = false) (eT : T.heap = h) {z : Int32} (hz : z = 0 ∨ z = 1) (hret : meth.sig.returnType = some .boolean) (hd : decode c.code pc = .ok (.ireturn, 1)) (hc : cells ≤ C) (hs : slots ≤ N) (hQ : Q (some (.int z)) h locs) :
    own_Go p e below (own_End s below Q C N) (T.setTop (mkF m pc Ls (.int z :: rest))) := own_ret X hx hlk eT hret (by rcases hz with rfl | rfl <;> rfl) (Or.inl ⟨rfl, Or.inr (Or.inl rfl), _, rfl⟩) hd hc hs hQ
theorem own_retJ (X : Stand p l e R s m args below meth c T locs cells slots) (hx : p.tables.exec = Jvm.exec) (hlk : meth.locks = false) (eT : T.heap = h) {z : Int64} (hret : meth.sig.returnType = some .long) (hd : decode c.code pc = .ok (.lreturn, 1)) (hc : cells ≤ C) (hs : slots ≤ N) (hQ : Q (some (.long z)) h locs) :
    own_Go p e below (own_End s below Q C N) (T.setTop (mkF m pc Ls (.long z :: rest))) := own_ret X hx hlk eT hret rfl (Or.inr (Or.inl ⟨rfl, rfl, _, rfl⟩)) hd hc hs hQ
theorem own_retD (X : Stand p l e R s m args below meth c T locs cells slots) (hx : p.tables.exec = Jvm.exec) (hlk : meth.locks = false) (eT : T.heap = h) {z : UInt64} (hret : meth.sig.returnType = some .double) (hd : decode c.code pc = .ok (.dreturn, 1)) (hc : cells ≤ C) (hs : slots ≤ N) (hQ : Q (some (.double z)) h locs) :
    own_Go p e below (own_End s below Q C N) (T.setTop (mkF m pc Ls (.double z :: rest))) := own_ret X hx hlk eT hret rfl (Or.inr (Or.inr (Or.inl ⟨rfl, rfl, _, rfl⟩))) hd hc hs hQ
theorem own_retR (X : Stand p l e R s m args below meth c T locs cells slots) (hx : p.tables.exec = Jvm.exec) (hlk : meth.locks = false) (eT : T.heap = h) {w : Value} {t : FieldType} (hw : w.isRef = true) (ht : t.isReference = true) (hret : meth.sig.returnType = some t) (hd : decode c.code pc = .ok (.areturn, 1)) (hc : cells ≤ C) (hs : slots ≤ N) (hQ : Q (some w) h locs) :
    own_Go p e below (own_End s below Q C N) (T.setTop (mkF m pc Ls (w :: rest))) := own_ret X hx hlk eT hret (by cases t <;> first | (cases ht; done) | (cases w <;> first | rfl | cases hw)) (Or.inr (Or.inr (Or.inr (Or.inr ⟨rfl, ht, hw⟩)))) hd hc hs hQ
theorem own_retV (X : Stand p l e R s m args below meth c T locs cells slots) (hx : p.tables.exec = Jvm.exec) (hlk : meth.locks = false) (eT : T.heap = h) (hret : meth.sig.returnType = none) (hd : decode c.code pc = .ok (.return_, 1)) (hc : cells ≤ C) (hs : slots ≤ N) (hQ : Q none h locs) :
    own_Go p e below (own_End s below Q C N) (T.setTop (mkF m pc Ls [])) := by
  obtain ⟨fs, hr, hrun, hended, hW, hsame⟩ := X.leave (v := none) (fun _ => rfl) hlk
  subst eT
  exact ⟨_, X.returnOut hx hret hd hr, hrun, _, _, hended, hQ, ⟨_, rfl⟩, hW, hsame.mono hc hs⟩
end OwnKit

/-- what the case says of Long's cache -/
def own_Cache (Z : State) : Prop := ∃ (ca : Addr) (cl : Cell), Sta Z Z.heap "java/lang/Long$LongCache" "cache" "[Ljava/lang/Long;" (.ref ca) ∧ Arr Z Z.heap ca cl (.object "java/lang/Long") ∧ cl.slots.size = 256 ∧ ∀ i, i < 256 → ∃ r, cl.slots[i]? = some (.ref r) ∧ Exa Z Z.heap r "java/lang/Long"
theorem own_cix {xa : Int64} (h1 : ¬ (xa < (-128 : Int64))) (h2 : ¬ ((127 : Int64) < xa)) : ¬ (((xa.toInt32) + (128 : Int32)) < 0 ∨ 256 ≤ ((xa.toInt32) + (128 : Int32)).toNatClampNeg) ∧ ((xa.toInt32) + (128 : Int32)).toNatClampNeg < 256 := by
  have e1 := c_l2i xa
  have e2 := c_iadd xa.toInt32 128
  have r1 := rng32 xa.toInt32
  have r2 := rng32 (xa.toInt32 + 128)
  have k : (-128 : Int64).toInt = -128 ∧ (127 : Int64).toInt = 127 := by decide
  have k2 : (128 : Int32).toInt = 128 ∧ (0 : Int32).toInt = 0 := by decide
  obtain ⟨ka, kb⟩ := k
  obtain ⟨kc, kd⟩ := k2
  rw [Int64.lt_iff_toInt_lt, ka] at h1
  rw [Int64.lt_iff_toInt_lt, kb] at h2
  rw [kc] at e2
  have q : ¬ ((xa.toInt32) + (128 : Int32)) < 0 := by rw [Int32.lt_iff_toInt_lt, kd]; omega
  have n := nat_of q
  refine ⟨fun o => o.elim q fun r => ?_, ?_⟩ <;> omega
theorem own_notin {Z : State} {a0 : Array Value} {k : Nat} {K : String} (wi : (Jvm.Cond.instantiable K k).before a0 Z = true) (w1 : (Jvm.Cond.superclass "java/lang/Long" "java/lang/Number").before a0 Z = true) (w2 : (Jvm.Cond.superclass "java/lang/Number" "java/lang/Object").before a0 Z = true) (w3 : (Jvm.Cond.noSuperclass "java/lang/Object").before a0 Z = true)
    (n1 : "java/lang/Long" ≠ K := by decide) (n2 : "java/lang/Number" ≠ K := by decide) (n3 : "java/lang/Object" ≠ K := by decide) : ∃ c t, Z.vm.findClass "java/lang/Long" = some c ∧ Z.vm.findClass K = some t ∧ Z.vm.assignable c t = false := by
  obtain ⟨t, kt, g1, g2, g3, g4, -⟩ := Cond.instantiable_spec wi
  have root : NS Z "java/lang/Object" K := by
    obtain ⟨c, kc, h1, h2, h3, -, -⟩ := Cond.noSuperclass_spec w3
    have ne := ids_ne h1 g1 n3
    exact ⟨c, t, h1, g1, fun fuel => by cases fuel <;> simp [Vm.isSubclassAux, ne, h2, h3]⟩
  obtain ⟨c, t', h1, h2, h3⟩ := NS.step w1 (NS.step w2 root n2) n1
  cases g1.symm.trans h2
  obtain ⟨p, kl, kp, q1, q2, q3, q4, q5, -⟩ := Cond.superclass_spec h1 w1
  have ne := ids_ne h1 g1 n1
  have gi : kt.isInterface = false := by
    cases hq : kt.isInterface
    · rfl
    · rw [hq] at g4; cases g4
  refine ⟨c, t, h1, g1, ?_⟩
  show Z.vm.assignableAux (255 + 1) c t = false
  simp [Vm.assignableAux, ne, q2, g2, q5, g3, gi, Vm.isSubclass, h3]

theorem own_pd0 : parseMethodDescriptor "()V" = some ⟨[], none⟩ := by decide +kernel
theorem own_pd1 : parseMethodDescriptor "(J)V" = some ⟨[.long], none⟩ := by decide +kernel
theorem own_pd2 : parseMethodDescriptor "(JJ)V" = some ⟨[.long, .long], none⟩ := by decide +kernel
theorem own_pd3 : parseMethodDescriptor "(Ljava/lang/Object;)Z" = some ⟨[(.object "java/lang/Object")], some .boolean⟩ := by decide +kernel
theorem own_pd4 : parseMethodDescriptor "(J)Ljava/lang/Long;" = some ⟨[.long], some (.object "java/lang/Long")⟩ := by decide +kernel
theorem own_d2_0 : decode jdk_30_method_1_code 0 = .ok (.aload_n 0, 1) := by decide +kernel
theorem own_d2_1 : decode jdk_30_method_1_code 1 = .ok (.invokespecial 1, 3) := by decide +kernel
theorem own_d2_4 : decode jdk_30_method_1_code 4 = .ok (.return_, 1) := by decide +kernel
theorem own_pn2 : plainName "java/lang/Record" = true := by first | (simp [plainName, overriddenIn]; done) | decide +kernel
theorem own_ef2 (m : MethodId) (x0 : Addr) : entryFrame m #[(.ref x0)] 1 = mkF m 0 #[.val (.ref x0)] [] := by first | (simp [entryFrame, mkF, argsToLocals, Value.category]; done) | rfl
def own_Q2 (Z : State) (ax : Addr) (h0 : Heap) (n0 : Nat) (v : Option Value) (h : Heap) (L : List Loc) : Prop := v = none ∧ Fr n0 L ∧ h = h0
theorem own_rm2 (l : Launch) (Z : State) (a0 : Array Value) (hw : ∀ d ∈ tables_1, d.before a0 Z = true) (ws : List Jvm.Cond) (ax : Addr) (h0 : Heap) (n0 : Nat) (Z0 : n0 ≤ h0.size) :
    MetFree l (⟨"java/lang/Record", "<init>", "()V"⟩ : MethodName) (head1 (Jvm.Cond.code (⟨"java/lang/Record", "<init>", "()V"⟩ : MethodName) jdk_30_method_1_code 1 none :: ws) ({ frames := 1, cells := 0, slots := 0, locals := 12 } : Room)) (fun a U => a = #[(.ref ax)] ∧ Z.Warmed39 U.vm ∧ U.heap = h0) (fun _ _ _ _ _ => True) (fun _ U o U' => ∃ v L, o = .returned v ∧ own_Q2 Z ax h0 n0 v U'.heap L ∧ FrameEnd U o U' L ({ frames := 1, cells := 0, slots := 0, locals := 12 } : Room).cells ({ frames := 1, cells := 0, slots := 0, locals := 12 } : Room).slots) := by
  refine MetFree.of_bodySF (plainFor_of_name own_pn2) hisR ?_
  intro p e s m args below meth c s₁ Bd hml0 hP hK
  obtain ⟨rfl, hZ, hh⟩ := hP
  have hx := Bd.exec
  have hby := Bd.bytes
  have hlk := Bd.notSynchronized
  have hret := Bd.returns
  have hml : c.maxLocals = 1 := hml0
  have hown : s.vm.findClass "java/lang/Record" = some m.cls := findClass_of_methodNamed Bd.named
  have hnm := (name_of_methodNamed Bd.named Bd.method).1
  have X0 : Stand p l e ({ frames := 1, cells := 0, slots := 0, locals := 12 } : Room) s m #[(.ref ax)] below meth c s₁ [] 0 0 := Stand.of_body Bd
  have e0 : s₁.heap = h0 := by rw [← hh, Bd.state]; rfl
  have N0 := Fr.nil n0
  suffices key : own_Go p e below (own_End s below (own_Q2 Z ax h0 n0) ({ frames := 1, cells := 0, slots := 0, locals := 12 } : Room).cells ({ frames := 1, cells := 0, slots := 0, locals := 12 } : Room).slots) (s₁.setTop (mkF m 0 #[.val (.ref ax)] [])) by
    obtain ⟨t, k1, k2, v, L, k3, k4, k5⟩ := key
    exact ⟨t, _, castTop (own_ef2 m ax) k1, k2, k3, v, L, rfl, k4, k5⟩
  show own_Go p e below _ (s₁.setTop (mkF m 0 #[.val (.ref ax)] []))
  refine own_by (fun _ => XS.aloadN X0.here hx rfl (hb hby own_d2_0) rfl rfl) ?_
  show own_Go p e below _ (s₁.setTop (mkF m 1 #[.val (.ref ax)] [(.ref ax)]))
  obtain ⟨T1, X1, e1, st1⟩ := initO X0 hx hZ hown (hw _ (List.mem_of_getElem? (i := 11) rfl)) (hw _ (List.mem_of_getElem? (i := 12) rfl)) (hw _ (List.mem_of_getElem? (i := 13) rfl)) e0 (g := (mkF m 1 #[.val (.ref ax)] [(.ref ax)])) rfl (by rw [hml]; rfl) rfl (hb hby own_d2_1) (by decide) (W := 0) (by show 2 * 0 + _ ≤ _; exact Nat.le_of_eq rfl) (by decide)
  refine own_by st1 ?_
  show own_Go p e below _ (T1.setTop (mkF m 4 #[.val (.ref ax)] []))
  exact own_retV X1 hx hlk e1 hret (hb hby own_d2_4) (by decide) (by decide) ⟨rfl, N0, rfl⟩

theorem own_d7_0 : decode jdk_18_method_1_code 0 = .ok (.aload_n 0, 1) := by decide +kernel
theorem own_d7_1 : decode jdk_18_method_1_code 1 = .ok (.invokespecial 1, 3) := by decide +kernel
theorem own_d7_4 : decode jdk_18_method_1_code 4 = .ok (.return_, 1) := by decide +kernel
theorem own_pn7 : plainName "java/lang/Number" = true := by first | (simp [plainName, overriddenIn]; done) | decide +kernel
theorem own_ef7 (m : MethodId) (x0 : Addr) : entryFrame m #[(.ref x0)] 1 = mkF m 0 #[.val (.ref x0)] [] := by first | (simp [entryFrame, mkF, argsToLocals, Value.category]; done) | rfl
def own_Q7 (Z : State) (ax : Addr) (h0 : Heap) (n0 : Nat) (v : Option Value) (h : Heap) (L : List Loc) : Prop := v = none ∧ Fr n0 L ∧ h = h0
theorem own_rm7 (l : Launch) (Z : State) (a0 : Array Value) (hw : ∀ d ∈ tables_1, d.before a0 Z = true) (ws : List Jvm.Cond) (ax : Addr) (h0 : Heap) (n0 : Nat) (Z0 : n0 ≤ h0.size) :
    MetFree l (⟨"java/lang/Number", "<init>", "()V"⟩ : MethodName) (head1 (Jvm.Cond.code (⟨"java/lang/Number", "<init>", "()V"⟩ : MethodName) jdk_18_method_1_code 1 none :: ws) ({ frames := 1, cells := 0, slots := 0, locals := 12 } : Room)) (fun a U => a = #[(.ref ax)] ∧ Z.Warmed39 U.vm ∧ U.heap = h0) (fun _ _ _ _ _ => True) (fun _ U o U' => ∃ v L, o = .returned v ∧ own_Q7 Z ax h0 n0 v U'.heap L ∧ FrameEnd U o U' L ({ frames := 1, cells := 0, slots := 0, locals := 12 } : Room).cells ({ frames := 1, cells := 0, slots := 0, locals := 12 } : Room).slots) := by
  refine MetFree.of_bodySF (plainFor_of_name own_pn7) hisR ?_
  intro p e s m args below meth c s₁ Bd hml0 hP hK
  obtain ⟨rfl, hZ, hh⟩ := hP
  have hx := Bd.exec
  have hby := Bd.bytes
  have hlk := Bd.notSynchronized
  have hret := Bd.returns
  have hml : c.maxLocals = 1 := hml0
  have hown : s.vm.findClass "java/lang/Number" = some m.cls := findClass_of_methodNamed Bd.named
  have hnm := (name_of_methodNamed Bd.named Bd.method).1
  have X0 : Stand p l e ({ frames := 1, cells := 0, slots := 0, locals := 12 } : Room) s m #[(.ref ax)] below meth c s₁ [] 0 0 := Stand.of_body Bd
  have e0 : s₁.heap = h0 := by rw [← hh, Bd.state]; rfl
  have N0 := Fr.nil n0
  suffices key : own_Go p e below (own_End s below (own_Q7 Z ax h0 n0) ({ frames := 1, cells := 0, slots := 0, locals := 12 } : Room).cells ({ frames := 1, cells := 0, slots := 0, locals := 12 } : Room).slots) (s₁.setTop (mkF m 0 #[.val (.ref ax)] [])) by
    obtain ⟨t, k1, k2, v, L, k3, k4, k5⟩ := key
    exact ⟨t, _, castTop (own_ef7 m ax) k1, k2, k3, v, L, rfl, k4, k5⟩
  show own_Go p e below _ (s₁.setTop (mkF m 0 #[.val (.ref ax)] []))
  refine own_by (fun _ => XS.aloadN X0.here hx rfl (hb hby own_d7_0) rfl rfl) ?_
  show own_Go p e below _ (s₁.setTop (mkF m 1 #[.val (.ref ax)] [(.ref ax)]))
  obtain ⟨T1, X1, e1, st1⟩ := initO X0 hx hZ hown (hw _ (List.mem_of_getElem? (i := 43) rfl)) (hw _ (List.mem_of_getElem? (i := 12) rfl)) (hw _ (List.mem_of_getElem? (i := 13) rfl)) e0 (g := (mkF m 1 #[.val (.ref ax)] [(.ref ax)])) rfl (by rw [hml]; rfl) rfl (hb hby own_d7_1) (by decide) (W := 0) (by show 2 * 0 + _ ≤ _; exact Nat.le_of_eq rfl) (by decide)
  refine own_by st1 ?_
  show own_Go p e below _ (T1.setTop (mkF m 4 #[.val (.ref ax)] []))
  exact own_retV X1 hx hlk e1 hret (hb hby own_d7_4) (by decide) (by decide) ⟨rfl, N0, rfl⟩

theorem own_d1_0 : decode prog_107_method_1_code 0 = .ok (.aload_n 0, 1) := by decide +kernel
theorem own_d1_1 : decode prog_107_method_1_code 1 = .ok (.invokespecial 1, 3) := by decide +kernel
theorem own_d1_4 : decode prog_107_method_1_code 4 = .ok (.aload_n 0, 1) := by decide +kernel
theorem own_d1_5 : decode prog_107_method_1_code 5 = .ok (.lload_n 1, 1) := by decide +kernel
theorem own_d1_6 : decode prog_107_method_1_code 6 = .ok (.putfield 7, 3) := by decide +kernel
theorem own_d1_9 : decode prog_107_method_1_code 9 = .ok (.aload_n 0, 1) := by decide +kernel
theorem own_d1_10 : decode prog_107_method_1_code 10 = .ok (.lload_n 3, 1) := by decide +kernel
theorem own_d1_11 : decode prog_107_method_1_code 11 = .ok (.putfield 13, 3) := by decide +kernel
theorem own_d1_14 : decode prog_107_method_1_code 14 = .ok (.return_, 1) := by decide +kernel
theorem own_pn1 : plainName "com/example/mirrorline/mirrorline/store/Head" = true := by first | (simp [plainName, overriddenIn]; done) | decide +kernel
theorem own_ef1 (m : MethodId) (x0 : Addr) (x1 : Int64) (x2 : Int64) : entryFrame m #[(.ref x0), (.long x1), (.long x2)] 5 = mkF m 0 #[.val (.ref x0), .val (.long x1), .second, .val (.long x2), .second] [] := by first | (simp [entryFrame, mkF, argsToLocals, Value.category]; done) | rfl
def own_Q1 (Z : State) (ax : Addr) (xa : Int64) (xb : Int64) (ua : Int64) (ub : Int64) (h0 : Heap) (n0 : Nat) (v : Option Value) (h : Heap) (L : List Loc) : Prop := v = none ∧ Fr n0 L ∧ Keep h0 h [ax] ∧ Fld Z h ax "com/example/mirrorline/mirrorline/store/Head" "first" "J" (.long xa) ∧ Fld Z h ax "com/example/mirrorline/mirrorline/store/Head" "resets" "J" (.long xb)
theorem own_rm1 (l : Launch) (Z : State) (a0 : Array Value) (hw : ∀ d ∈ tables_1, d.before a0 Z = true) (ws : List Jvm.Cond) (ax : Addr) (xa : Int64) (xb : Int64) (ua : Int64) (ub : Int64) (h0 : Heap) (n0 : Nat) (Z0 : n0 ≤ h0.size) (pf0 : Exa Z h0 ax "com/example/mirrorline/mirrorline/store/Head") (pf1 : Fld Z h0 ax "com/example/mirrorline/mirrorline/store/Head" "first" "J" (.long ua)) (pf2 : Fld Z h0 ax "com/example/mirrorline/mirrorline/store/Head" "resets" "J" (.long ub)) (pg_ax : n0 ≤ ax) :
    MetFree l (⟨"com/example/mirrorline/mirrorline/store/Head", "<init>", "(JJ)V"⟩ : MethodName) (head1 (Jvm.Cond.code (⟨"com/example/mirrorline/mirrorline/store/Head", "<init>", "(JJ)V"⟩ : MethodName) prog_107_method_1_code 5 none :: ws) ({ frames := 2, cells := 0, slots := 0, locals := 24 } : Room)) (fun a U => a = #[(.ref ax), (.long xa), (.long xb)] ∧ Z.Warmed39 U.vm ∧ U.heap = h0) (fun _ _ _ _ _ => True) (fun _ U o U' => ∃ v L, o = .returned v ∧ own_Q1 Z ax xa xb ua ub h0 n0 v U'.heap L ∧ FrameEnd U o U' L ({ frames := 2, cells := 0, slots := 0, locals := 24 } : Room).cells ({ frames := 2, cells := 0, slots := 0, locals := 24 } : Room).slots) := by
  refine MetFree.of_bodySF (plainFor_of_name own_pn1) hisR ?_
  intro p e s m args below meth c s₁ Bd hml0 hP hK
  obtain ⟨rfl, hZ, hh⟩ := hP
  have hx := Bd.exec
  have hby := Bd.bytes
  have hlk := Bd.notSynchronized
  have hret := Bd.returns
  have hml : c.maxLocals = 5 := hml0
  have hown : s.vm.findClass "com/example/mirrorline/mirrorline/store/Head" = some m.cls := findClass_of_methodNamed Bd.named
  have hnm := (name_of_methodNamed Bd.named Bd.method).1
  have X0 : Stand p l e ({ frames := 2, cells := 0, slots := 0, locals := 24 } : Room) s m #[(.ref ax), (.long xa), (.long xb)] below meth c s₁ [] 0 0 := Stand.of_body Bd
  have e0 : s₁.heap = h0 := by rw [← hh, Bd.state]; rfl
  have N0 := Fr.nil n0
  suffices key : own_Go p e below (own_End s below (own_Q1 Z ax xa xb ua ub h0 n0) ({ frames := 2, cells := 0, slots := 0, locals := 24 } : Room).cells ({ frames := 2, cells := 0, slots := 0, locals := 24 } : Room).slots) (s₁.setTop (mkF m 0 #[.val (.ref ax), .val (.long xa), .second, .val (.long xb), .second] [])) by
    obtain ⟨t, k1, k2, v, L, k3, k4, k5⟩ := key
    exact ⟨t, _, castTop (own_ef1 m ax xa xb) k1, k2, k3, v, L, rfl, k4, k5⟩
  show own_Go p e below _ (s₁.setTop (mkF m 0 #[.val (.ref ax), .val (.long xa), .second, .val (.long xb), .second] []))
  refine own_by (fun _ => XS.aloadN X0.here hx rfl (hb hby own_d1_0) rfl rfl) ?_
  show own_Go p e below _ (s₁.setTop (mkF m 1 #[.val (.ref ax), .val (.long xa), .second, .val (.long xb), .second] [(.ref ax)]))
  obtain ⟨_, _, ⟨T1, L1, k1, n1⟩, -, X1, ⟨Lc1, hQ1, l1, y1, z1'⟩, st1⟩ := X0.specialBack hx (y := (⟨"java/lang/Record", "<init>", "()V"⟩ : MethodName)) rfl hown (mvT hZ (hw _ (List.mem_of_getElem? (i := 6) rfl))) (mvT hZ (hw _ (List.mem_of_getElem? (i := 7) rfl))) (mvT hZ (hw _ (List.mem_of_getElem? (i := 10) rfl))) (by decide) (backOf (W := 0) (own_rm2 l Z a0 hw [] ax h0 n0 Z0 ) hZ (hw _ (List.mem_of_getElem? (i := 10) rfl)) (hw _ (List.mem_of_getElem? (i := 9) rfl)) (by decide) (by decide)) (g := (mkF m 1 #[.val (.ref ax), .val (.long xa), .second, .val (.long xb), .second] [(.ref ax)])) rfl (by rw [hml]; rfl) (Steps.refl _) (a := ax) (argsL := []) (rest := []) (lenOf own_pd0 rfl) rfl (by show 2 * 0 + _ ≤ _; exact Nat.le_of_eq rfl) (hb hby own_d1_1) (fun _ _ => ⟨rfl, e0, (by decide : 0 + 0 ≤ _), (by decide : 0 + 0 ≤ _)⟩)
  dsimp only [Pt.U, Pt.locs, Pt.cells, Pt.slots] at X1 l1 y1 z1' st1 hQ1
  subst l1 y1 z1'
  obtain ⟨rfl, N1q, e1⟩ := hQ1
  have N1 := Fr.app N0 N1q
  refine own_tr st1 ?_
  show own_Go p e below _ (T1.setTop (mkF m 4 #[.val (.ref ax), .val (.long xa), .second, .val (.long xb), .second] []))
  refine own_by (fun _ => XS.aloadN X1.here hx rfl (hb hby own_d1_4) rfl rfl) ?_
  show own_Go p e below _ (T1.setTop (mkF m 5 #[.val (.ref ax), .val (.long xa), .second, .val (.long xb), .second] [(.ref ax)]))
  refine own_by (fun _ => XS.lloadN X1.here hx rfl (hb hby own_d1_5) rfl) ?_
  show own_Go p e below _ (T1.setTop (mkF m 6 #[.val (.ref ax), .val (.long xa), .second, .val (.long xb), .second] [(.long xa), (.ref ax)]))
  obtain ⟨T2, h2, X2, e2, W2, st2⟩ := putF X1 hx hZ hown (host := "") (Or.inl (hw _ (List.mem_of_getElem? (i := 14) rfl))) Via.refl e1 pf1 pf0 (Or.inr ⟨(hw _ (List.mem_of_getElem? (i := 15) rfl)), rfl, hnm⟩) (hw _ (List.mem_of_getElem? (i := 1) rfl)) (ty := .long) (by decide) rfl rfl (g := (mkF m 6 #[.val (.ref ax), .val (.long xa), .second, .val (.long xb), .second] [(.long xa), (.ref ax)])) rfl rfl (hb hby own_d1_6)
  refine own_by st2 ?_
  have fw2 : Fld Z h2 ax "com/example/mirrorline/mirrorline/store/Head" "first" "J" (.long xa) := pf1.same W2
  have z2 : n0 ≤ h2.size := Nat.le_trans Z0 (Keep.of_wr W2).1
  have N2 := Fr.snoc X2 N1 pg_ax
  have K2 : Keep h0 h2 [ax] := (Keep.refl h0 [ax]).wr W2 (Or.inl (List.mem_of_getElem? (i := 0) rfl))
  show own_Go p e below _ (T2.setTop (mkF m 9 #[.val (.ref ax), .val (.long xa), .second, .val (.long xb), .second] []))
  refine own_by (fun _ => XS.aloadN X2.here hx rfl (hb hby own_d1_9) rfl rfl) ?_
  show own_Go p e below _ (T2.setTop (mkF m 10 #[.val (.ref ax), .val (.long xa), .second, .val (.long xb), .second] [(.ref ax)]))
  refine own_by (fun _ => XS.lloadN X2.here hx rfl (hb hby own_d1_10) rfl) ?_
  show own_Go p e below _ (T2.setTop (mkF m 11 #[.val (.ref ax), .val (.long xa), .second, .val (.long xb), .second] [(.long xb), (.ref ax)]))
  have f3 : Exa Z h2 ax "com/example/mirrorline/mirrorline/store/Head" := (pf0.wr W2)
  have f4 : Fld Z h2 ax "com/example/mirrorline/mirrorline/store/Head" "resets" "J" (.long ub) := (pf2.other W2 (Or.inr (slot_ne (Or.inr (hw _ (List.mem_of_getElem? (i := 17) rfl))) (Or.inr (hw _ (List.mem_of_getElem? (i := 15) rfl))) (by decide) (t := .long) (t' := .long) (by decide) (by decide))))
  obtain ⟨T5, h5, X5, e5, W5, st5⟩ := putF X2 hx hZ hown (host := "") (Or.inl (hw _ (List.mem_of_getElem? (i := 16) rfl))) Via.refl e2 f4 f3 (Or.inr ⟨(hw _ (List.mem_of_getElem? (i := 17) rfl)), rfl, hnm⟩) (hw _ (List.mem_of_getElem? (i := 1) rfl)) (ty := .long) (by decide) rfl rfl (g := (mkF m 11 #[.val (.ref ax), .val (.long xa), .second, .val (.long xb), .second] [(.long xb), (.ref ax)])) rfl rfl (hb hby own_d1_11)
  refine own_by st5 ?_
  have fw5 : Fld Z h5 ax "com/example/mirrorline/mirrorline/store/Head" "resets" "J" (.long xb) := f4.same W5
  have z5 : n0 ≤ h5.size := Nat.le_trans z2 (Keep.of_wr W5).1
  have N5 := Fr.snoc X5 N2 pg_ax
  have K5 : Keep h0 h5 [ax] := K2.wr W5 (Or.inl (List.mem_of_getElem? (i := 0) rfl))
  show own_Go p e below _ (T5.setTop (mkF m 14 #[.val (.ref ax), .val (.long xa), .second, .val (.long xb), .second] []))
  have f6 : Fld Z h5 ax "com/example/mirrorline/mirrorline/store/Head" "first" "J" (.long xa) := (fw2.other W5 (Or.inr (slot_ne (Or.inr (hw _ (List.mem_of_getElem? (i := 15) rfl))) (Or.inr (hw _ (List.mem_of_getElem? (i := 17) rfl))) (by decide) (t := .long) (t' := .long) (by decide) (by decide))))
  exact own_retV X5 hx hlk e5 hret (hb hby own_d1_14) (by decide) (by decide) ⟨rfl, N5, K5, f6, fw5⟩

theorem own_d6_0 : decode jdk_35_method_26_code 0 = .ok (.aload_n 0, 1) := by decide +kernel
theorem own_d6_1 : decode jdk_35_method_26_code 1 = .ok (.invokespecial 270, 3) := by decide +kernel
theorem own_d6_4 : decode jdk_35_method_26_code 4 = .ok (.aload_n 0, 1) := by decide +kernel
theorem own_d6_5 : decode jdk_35_method_26_code 5 = .ok (.lload_n 1, 1) := by decide +kernel
theorem own_d6_6 : decode jdk_35_method_26_code 6 = .ok (.putfield 273, 3) := by decide +kernel
theorem own_d6_9 : decode jdk_35_method_26_code 9 = .ok (.return_, 1) := by decide +kernel
theorem own_pn6 : plainName "java/lang/Long" = true := by first | (simp [plainName, overriddenIn]; done) | decide +kernel
theorem own_ef6 (m : MethodId) (x0 : Addr) (x1 : Int64) : entryFrame m #[(.ref x0), (.long x1)] 3 = mkF m 0 #[.val (.ref x0), .val (.long x1), .second] [] := by first | (simp [entryFrame, mkF, argsToLocals, Value.category]; done) | rfl
def own_Q6 (Z : State) (ax : Addr) (xa : Int64) (ua : Int64) (h0 : Heap) (n0 : Nat) (v : Option Value) (h : Heap) (L : List Loc) : Prop := v = none ∧ Fr n0 L ∧ Keep h0 h [ax] ∧ Fld Z h ax "java/lang/Long" "value" "J" (.long xa)
theorem own_rm6 (l : Launch) (Z : State) (a0 : Array Value) (hw : ∀ d ∈ tables_1, d.before a0 Z = true) (ws : List Jvm.Cond) (ax : Addr) (xa : Int64) (ua : Int64) (h0 : Heap) (n0 : Nat) (Z0 : n0 ≤ h0.size) (pf0 : Exa Z h0 ax "java/lang/Long") (pf1 : Fld Z h0 ax "java/lang/Long" "value" "J" (.long ua)) (pg_ax : n0 ≤ ax) :
    MetFree l (⟨"java/lang/Long", "<init>", "(J)V"⟩ : MethodName) (head1 (Jvm.Cond.code (⟨"java/lang/Long", "<init>", "(J)V"⟩ : MethodName) jdk_35_method_26_code 3 none :: ws) ({ frames := 2, cells := 0, slots := 0, locals := 24 } : Room)) (fun a U => a = #[(.ref ax), (.long xa)] ∧ Z.Warmed39 U.vm ∧ U.heap = h0) (fun _ _ _ _ _ => True) (fun _ U o U' => ∃ v L, o = .returned v ∧ own_Q6 Z ax xa ua h0 n0 v U'.heap L ∧ FrameEnd U o U' L ({ frames := 2, cells := 0, slots := 0, locals := 24 } : Room).cells ({ frames := 2, cells := 0, slots := 0, locals := 24 } : Room).slots) := by
  refine MetFree.of_bodySF (plainFor_of_name own_pn6) hisR ?_
  intro p e s m args below meth c s₁ Bd hml0 hP hK
  obtain ⟨rfl, hZ, hh⟩ := hP
  have hx := Bd.exec
  have hby := Bd.bytes
  have hlk := Bd.notSynchronized
  have hret := Bd.returns
  have hml : c.maxLocals = 3 := hml0
  have hown : s.vm.findClass "java/lang/Long" = some m.cls := findClass_of_methodNamed Bd.named
  have hnm := (name_of_methodNamed Bd.named Bd.method).1
  have X0 : Stand p l e ({ frames := 2, cells := 0, slots := 0, locals := 24 } : Room) s m #[(.ref ax), (.long xa)] below meth c s₁ [] 0 0 := Stand.of_body Bd
  have e0 : s₁.heap = h0 := by rw [← hh, Bd.state]; rfl
  have N0 := Fr.nil n0
  suffices key : own_Go p e below (own_End s below (own_Q6 Z ax xa ua h0 n0) ({ frames := 2, cells := 0, slots := 0, locals := 24 } : Room).cells ({ frames := 2, cells := 0, slots := 0, locals := 24 } : Room).slots) (s₁.setTop (mkF m 0 #[.val (.ref ax), .val (.long xa), .second] [])) by
    obtain ⟨t, k1, k2, v, L, k3, k4, k5⟩ := key
    exact ⟨t, _, castTop (own_ef6 m ax xa) k1, k2, k3, v, L, rfl, k4, k5⟩
  show own_Go p e below _ (s₁.setTop (mkF m 0 #[.val (.ref ax), .val (.long xa), .second] []))
  refine own_by (fun _ => XS.aloadN X0.here hx rfl (hb hby own_d6_0) rfl rfl) ?_
  show own_Go p e below _ (s₁.setTop (mkF m 1 #[.val (.ref ax), .val (.long xa), .second] [(.ref ax)]))
  obtain ⟨_, _, ⟨T1, L1, k1, n1⟩, -, X1, ⟨Lc1, hQ1, l1, y1, z1'⟩, st1⟩ := X0.specialBack hx (y := (⟨"java/lang/Number", "<init>", "()V"⟩ : MethodName)) rfl hown (mvT hZ (hw _ (List.mem_of_getElem? (i := 37) rfl))) (mvT hZ (hw _ (List.mem_of_getElem? (i := 38) rfl))) (mvT hZ (hw _ (List.mem_of_getElem? (i := 42) rfl))) (by decide) (backOf (W := 0) (own_rm7 l Z a0 hw [] ax h0 n0 Z0 ) hZ (hw _ (List.mem_of_getElem? (i := 42) rfl)) (hw _ (List.mem_of_getElem? (i := 41) rfl)) (by decide) (by decide)) (g := (mkF m 1 #[.val (.ref ax), .val (.long xa), .second] [(.ref ax)])) rfl (by rw [hml]; rfl) (Steps.refl _) (a := ax) (argsL := []) (rest := []) (lenOf own_pd0 rfl) rfl (by show 2 * 0 + _ ≤ _; exact Nat.le_of_eq rfl) (hb hby own_d6_1) (fun _ _ => ⟨rfl, e0, (by decide : 0 + 0 ≤ _), (by decide : 0 + 0 ≤ _)⟩)
  dsimp only [Pt.U, Pt.locs, Pt.cells, Pt.slots] at X1 l1 y1 z1' st1 hQ1
  subst l1 y1 z1'
  obtain ⟨rfl, N1q, e1⟩ := hQ1
  have N1 := Fr.app N0 N1q
  refine own_tr st1 ?_
  show own_Go p e below _ (T1.setTop (mkF m 4 #[.val (.ref ax), .val (.long xa), .second] []))
  refine own_by (fun _ => XS.aloadN X1.here hx rfl (hb hby own_d6_4) rfl rfl) ?_
  show own_Go p e below _ (T1.setTop (mkF m 5 #[.val (.ref ax), .val (.long xa), .second] [(.ref ax)]))
  refine own_by (fun _ => XS.lloadN X1.here hx rfl (hb hby own_d6_5) rfl) ?_
  show own_Go p e below _ (T1.setTop (mkF m 6 #[.val (.ref ax), .val (.long xa), .second] [(.long xa), (.ref ax)]))
  obtain ⟨T2, h2, X2, e2, W2, st2⟩ := putF X1 hx hZ hown (host := "") (Or.inl (hw _ (List.mem_of_getElem? (i := 44) rfl))) Via.refl e1 pf1 pf0 (Or.inr ⟨(hw _ (List.mem_of_getElem? (i := 45) rfl)), rfl, hnm⟩) (hw _ (List.mem_of_getElem? (i := 32) rfl)) (ty := .long) (by decide) rfl rfl (g := (mkF m 6 #[.val (.ref ax), .val (.long xa), .second] [(.long xa), (.ref ax)])) rfl rfl (hb hby own_d6_6)
  refine own_by st2 ?_
  have fw2 : Fld Z h2 ax "java/lang/Long" "value" "J" (.long xa) := pf1.same W2
  have z2 : n0 ≤ h2.size := Nat.le_trans Z0 (Keep.of_wr W2).1
  have N2 := Fr.snoc X2 N1 pg_ax
  have K2 : Keep h0 h2 [ax] := (Keep.refl h0 [ax]).wr W2 (Or.inl (List.mem_of_getElem? (i := 0) rfl))
  show own_Go p e below _ (T2.setTop (mkF m 9 #[.val (.ref ax), .val (.long xa), .second] []))
  exact own_retV X2 hx hlk e2 hret (hb hby own_d6_9) (by decide) (by decide) ⟨rfl, N2, K2, fw2⟩

theorem own_d5_0 : decode jdk_35_method_24_code 0 = .ok (.sipush 128, 3) := by decide +kernel
theorem own_d5_3 : decode jdk_35_method_24_code 3 = .ok (.istore_n 2, 1) := by decide +kernel
theorem own_d5_4 : decode jdk_35_method_24_code 4 = .ok (.lload_n 0, 1) := by decide +kernel
theorem own_d5_5 : decode jdk_35_method_24_code 5 = .ok (.ldc2_w 230, 3) := by decide +kernel
theorem own_d5_8 : decode jdk_35_method_24_code 8 = .ok (.lcmp, 1) := by decide +kernel
theorem own_d5_9 : decode jdk_35_method_24_code 9 = .ok (.ifCond .lt 22, 3) := by decide +kernel
theorem own_d5_12 : decode jdk_35_method_24_code 12 = .ok (.lload_n 0, 1) := by decide +kernel
theorem own_d5_13 : decode jdk_35_method_24_code 13 = .ok (.ldc2_w 232, 3) := by decide +kernel
theorem own_d5_16 : decode jdk_35_method_24_code 16 = .ok (.lcmp, 1) := by decide +kernel
theorem own_d5_17 : decode jdk_35_method_24_code 17 = .ok (.ifCond .gt 14, 3) := by decide +kernel
theorem own_d5_20 : decode jdk_35_method_24_code 20 = .ok (.getstatic 234, 3) := by decide +kernel
theorem own_d5_23 : decode jdk_35_method_24_code 23 = .ok (.lload_n 0, 1) := by decide +kernel
theorem own_d5_24 : decode jdk_35_method_24_code 24 = .ok (.l2i, 1) := by decide +kernel
theorem own_d5_25 : decode jdk_35_method_24_code 25 = .ok (.sipush 128, 3) := by decide +kernel
theorem own_d5_28 : decode jdk_35_method_24_code 28 = .ok (.iadd, 1) := by decide +kernel
theorem own_d5_29 : decode jdk_35_method_24_code 29 = .ok (.aaload, 1) := by decide +kernel
theorem own_d5_30 : decode jdk_35_method_24_code 30 = .ok (.areturn, 1) := by decide +kernel
theorem own_d5_31 : decode jdk_35_method_24_code 31 = .ok (.new 1, 3) := by decide +kernel
theorem own_d5_34 : decode jdk_35_method_24_code 34 = .ok (.dup, 1) := by decide +kernel
theorem own_d5_35 : decode jdk_35_method_24_code 35 = .ok (.lload_n 0, 1) := by decide +kernel
theorem own_d5_36 : decode jdk_35_method_24_code 36 = .ok (.invokespecial 240, 3) := by decide +kernel
theorem own_d5_39 : decode jdk_35_method_24_code 39 = .ok (.areturn, 1) := by decide +kernel
theorem own_pn5 : plainName "java/lang/Long" = true := by first | (simp [plainName, overriddenIn]; done) | decide +kernel
theorem own_ef5 (m : MethodId) (x0 : Int64) : entryFrame m #[(.long x0)] 3 = mkF m 0 #[.val (.long x0), .second, .unset] [] := by first | (simp [entryFrame, mkF, argsToLocals, Value.category]; done) | rfl
def own_Q5 (Z : State) (xa : Int64) (h0 : Heap) (n0 : Nat) (v : Option Value) (h : Heap) (L : List Loc) : Prop := ∃ bx : Addr, v = some (.ref bx) ∧ Fr n0 L ∧ Keep h0 h [] ∧ Exa Z h bx "java/lang/Long"
theorem own_rm5 (l : Launch) (Z : State) (a0 : Array Value) (hw : ∀ d ∈ tables_1, d.before a0 Z = true) (ws : List Jvm.Cond) (xa : Int64) (h0 : Heap) (n0 : Nat) (Z0 : n0 ≤ h0.size) (pf0 : Old Z n0 h0) (hcache : own_Cache Z) :
    MetFree l (⟨"java/lang/Long", "valueOf", "(J)Ljava/lang/Long;"⟩ : MethodName) (head1 (Jvm.Cond.code (⟨"java/lang/Long", "valueOf", "(J)Ljava/lang/Long;"⟩ : MethodName) jdk_35_method_24_code 3 (some (.object "java/lang/Long")) :: ws) ({ frames := 3, cells := 1, slots := 1, locals := 39 } : Room)) (fun a U => a = #[(.long xa)] ∧ Z.Warmed39 U.vm ∧ U.heap = h0) (fun _ _ _ _ _ => True) (fun _ U o U' => ∃ v L, o = .returned v ∧ own_Q5 Z xa h0 n0 v U'.heap L ∧ FrameEnd U o U' L ({ frames := 3, cells := 1, slots := 1, locals := 39 } : Room).cells ({ frames := 3, cells := 1, slots := 1, locals := 39 } : Room).slots) := by
  refine MetFree.of_bodySF (plainFor_of_name own_pn5) hisR ?_
  intro p e s m args below meth c s₁ Bd hml0 hP hK
  obtain ⟨rfl, hZ, hh⟩ := hP
  have hx := Bd.exec
  have hby := Bd.bytes
  have hlk := Bd.notSynchronized
  have hret := Bd.returns
  have hml : c.maxLocals = 3 := hml0
  have hown : s.vm.findClass "java/lang/Long" = some m.cls := findClass_of_methodNamed Bd.named
  have hnm := (name_of_methodNamed Bd.named Bd.method).1
  have X0 : Stand p l e ({ frames := 3, cells := 1, slots := 1, locals := 39 } : Room) s m #[(.long xa)] below meth c s₁ [] 0 0 := Stand.of_body Bd
  have e0 : s₁.heap = h0 := by rw [← hh, Bd.state]; rfl
  have N0 := Fr.nil n0
  suffices key : own_Go p e below (own_End s below (own_Q5 Z xa h0 n0) ({ frames := 3, cells := 1, slots := 1, locals := 39 } : Room).cells ({ frames := 3, cells := 1, slots := 1, locals := 39 } : Room).slots) (s₁.setTop (mkF m 0 #[.val (.long xa), .second, .unset] [])) by
    obtain ⟨t, k1, k2, v, L, k3, k4, k5⟩ := key
    exact ⟨t, _, castTop (own_ef5 m xa) k1, k2, k3, v, L, rfl, k4, k5⟩
  show own_Go p e below _ (s₁.setTop (mkF m 0 #[.val (.long xa), .second, .unset] []))
  refine own_by (fun _ => XS.sipush X0.here hx rfl (hb hby own_d5_0)) ?_
  show own_Go p e below _ (s₁.setTop (mkF m 3 #[.val (.long xa), .second, .unset] [(.int (128 : Int32))]))
  refine own_by (fun _ => XS.istoreN X0.here hx rfl (hb hby own_d5_3) rfl (l' := #[.val (.long xa), .second, .val (.int (128 : Int32))]) rfl) ?_
  show own_Go p e below _ (s₁.setTop (mkF m 4 #[.val (.long xa), .second, .val (.int (128 : Int32))] []))
  refine own_by (fun _ => XS.lloadN X0.here hx rfl (hb hby own_d5_4) rfl) ?_
  show own_Go p e below _ (s₁.setTop (mkF m 5 #[.val (.long xa), .second, .val (.int (128 : Int32))] [(.long xa)]))
  refine own_by (X0.ldc2Long hx hown (mvT hZ (hw _ (List.mem_of_getElem? (i := 29) rfl))) (g := (mkF m 5 #[.val (.long xa), .second, .val (.int (128 : Int32))] [(.long xa)])) rfl (hb hby own_d5_5)) ?_
  show own_Go p e below _ (s₁.setTop (mkF m 8 #[.val (.long xa), .second, .val (.int (128 : Int32))] [(.long (-128 : Int64)), (.long xa)]))
  refine own_by (fun _ => XS.lcmp X0.here hx rfl (hb hby own_d5_8) rfl) ?_
  show own_Go p e below _ (s₁.setTop (mkF m 9 #[.val (.long xa), .second, .val (.int (128 : Int32))] [(.int (lcmpW xa (-128 : Int64)))]))
  by_cases hc9_1 : xa < (-128 : Int64)
  ·
    skip
    refine own_by (fun _ => XS.ifYes X0.here hx rfl (pc0 := 9) (pc' := 31) rfl (hb hby own_d5_9) rfl ((if0 _ _).trans (tlt ((lw_lt _ _).mpr hc9_1)).1) (by decide) (by decide)) ?_
    show own_Go p e below _ (s₁.setTop (mkF m 31 #[.val (.long xa), .second, .val (.int (128 : Int32))] []))
    obtain ⟨T2, h2, X2, e2, E2, A2, D2, -, st2⟩ := newO X0 hx hZ hown (hw _ (List.mem_of_getElem? (i := 31) rfl)) (hw _ (List.mem_of_getElem? (i := 32) rfl)) (hw _ (List.mem_of_getElem? (i := 27) rfl)) e0 (g := (mkF m 31 #[.val (.long xa), .second, .val (.int (128 : Int32))] [])) rfl (hb hby own_d5_31) (by decide) (by decide)
    obtain ⟨b2, g2⟩ : ∃ z, z = h0.size := ⟨_, rfl⟩
    rw [← g2] at A2 D2 st2
    refine own_by st2 ?_
    have ge2 : n0 ≤ b2 := Nat.le_trans Z0 (Nat.le_of_eq g2.symm)
    have z2 : n0 ≤ h2.size := Nat.le_trans Z0 E2.1
    have sz_b2 : h0.size ≤ b2 := Nat.le_trans (Keep.refl h0 []).1 (Nat.le_of_eq g2.symm)
    have K2 : Keep h0 h2 [] := (Keep.refl h0 []).ext E2
    have fz2_value : Fld Z h2 b2 "java/lang/Long" "value" "J" (.long (0 : Int64)) := D2 (Or.inr (hw _ (List.mem_of_getElem? (i := 45) rfl))) (ty := .long) (by decide)
    show own_Go p e below _ (T2.setTop (mkF m 34 #[.val (.long xa), .second, .val (.int (128 : Int32))] [(.ref b2)]))
    refine own_by (fun _ => XS.dup X2.here hx rfl (hb hby own_d5_34) rfl rfl) ?_
    show own_Go p e below _ (T2.setTop (mkF m 35 #[.val (.long xa), .second, .val (.int (128 : Int32))] [(.ref b2), (.ref b2)]))
    refine own_by (fun _ => XS.lloadN X2.here hx rfl (hb hby own_d5_35) rfl) ?_
    show own_Go p e below _ (T2.setTop (mkF m 36 #[.val (.long xa), .second, .val (.int (128 : Int32))] [(.long xa), (.ref b2), (.ref b2)]))
    obtain ⟨_, _, ⟨T3, L3, k3, n3⟩, -, X3, ⟨Lc3, hQ3, l3, y3, z3'⟩, st3⟩ := X2.specialBack hx (y := (⟨"java/lang/Long", "<init>", "(J)V"⟩ : MethodName)) rfl hown (mvT hZ (hw _ (List.mem_of_getElem? (i := 33) rfl))) (mvT hZ (hw _ (List.mem_of_getElem? (i := 34) rfl))) (mvT hZ (hw _ (List.mem_of_getElem? (i := 36) rfl))) (by decide) (backOf (W := 1) (own_rm6 l Z a0 hw [] b2 xa (0 : Int64) h2 n0 z2 A2 fz2_value ge2) hZ (hw _ (List.mem_of_getElem? (i := 36) rfl)) (hw _ (List.mem_of_getElem? (i := 27) rfl)) (by decide) (by decide)) (g := (mkF m 36 #[.val (.long xa), .second, .val (.int (128 : Int32))] [(.long xa), (.ref b2), (.ref b2)])) rfl (by rw [hml]; rfl) (Steps.refl _) (a := b2) (argsL := [(.long xa)]) (rest := [(.ref b2)]) (lenOf own_pd1 rfl) rfl (by show 2 * 0 + _ ≤ _; exact Nat.le_of_eq rfl) (hb hby own_d5_36) (fun _ _ => ⟨rfl, e2, (by decide : 1 + 0 ≤ _), (by decide : 1 + 0 ≤ _)⟩)
    dsimp only [Pt.U, Pt.locs, Pt.cells, Pt.slots] at X3 l3 y3 z3' st3 hQ3
    subst l3 y3 z3'
    obtain ⟨rfl, N3q, Kc3, fc3_0⟩ := hQ3
    have N3 := Fr.app N0 N3q
    refine own_tr st3 ?_
    have z3 : n0 ≤ T3.heap.size := Nat.le_trans z2 Kc3.1
    have K3 : Keep h0 T3.heap [] := K2.trans Kc3 (allS (Or.inr sz_b2) all0)
    show own_Go p e below _ (T3.setTop (mkF m 39 #[.val (.long xa), .second, .val (.int (128 : Int32))] [(.ref b2)]))
    have f4 : Exa Z T3.heap b2 "java/lang/Long" := (A2.keep Kc3)
    exact own_retR X3 hx hlk rfl rfl rfl hret (hb hby own_d5_39) (by decide) (by decide) ⟨b2, rfl, N3, K3, f4⟩
  ·
    skip
    refine own_by (fun _ => XS.ifNo X0.here hx rfl (hb hby own_d5_9) rfl ((if0 _ _).trans (flt (mt (lw_lt _ _).mp hc9_1)).1)) ?_
    show own_Go p e below _ (s₁.setTop (mkF m 12 #[.val (.long xa), .second, .val (.int (128 : Int32))] []))
    refine own_by (fun _ => XS.lloadN X0.here hx rfl (hb hby own_d5_12) rfl) ?_
    show own_Go p e below _ (s₁.setTop (mkF m 13 #[.val (.long xa), .second, .val (.int (128 : Int32))] [(.long xa)]))
    refine own_by (X0.ldc2Long hx hown (mvT hZ (hw _ (List.mem_of_getElem? (i := 30) rfl))) (g := (mkF m 13 #[.val (.long xa), .second, .val (.int (128 : Int32))] [(.long xa)])) rfl (hb hby own_d5_13)) ?_
    show own_Go p e below _ (s₁.setTop (mkF m 16 #[.val (.long xa), .second, .val (.int (128 : Int32))] [(.long (127 : Int64)), (.long xa)]))
    refine own_by (fun _ => XS.lcmp X0.here hx rfl (hb hby own_d5_16) rfl) ?_
    show own_Go p e below _ (s₁.setTop (mkF m 17 #[.val (.long xa), .second, .val (.int (128 : Int32))] [(.int (lcmpW xa (127 : Int64)))]))
    by_cases hc17_5 : (127 : Int64) < xa
    ·
      skip
      refine own_by (fun _ => XS.ifYes X0.here hx rfl (pc0 := 17) (pc' := 31) rfl (hb hby own_d5_17) rfl ((if0 _ _).trans (tlt ((lw_gt _ _).mpr hc17_5)).2.2.1) (by decide) (by decide)) ?_
      show own_Go p e below _ (s₁.setTop (mkF m 31 #[.val (.long xa), .second, .val (.int (128 : Int32))] []))
      obtain ⟨T6, h6, X6, e6, E6, A6, D6, -, st6⟩ := newO X0 hx hZ hown (hw _ (List.mem_of_getElem? (i := 31) rfl)) (hw _ (List.mem_of_getElem? (i := 32) rfl)) (hw _ (List.mem_of_getElem? (i := 27) rfl)) e0 (g := (mkF m 31 #[.val (.long xa), .second, .val (.int (128 : Int32))] [])) rfl (hb hby own_d5_31) (by decide) (by decide)
      obtain ⟨b6, g6⟩ : ∃ z, z = h0.size := ⟨_, rfl⟩
      rw [← g6] at A6 D6 st6
      refine own_by st6 ?_
      have ge6 : n0 ≤ b6 := Nat.le_trans Z0 (Nat.le_of_eq g6.symm)
      have z6 : n0 ≤ h6.size := Nat.le_trans Z0 E6.1
      have sz_b6 : h0.size ≤ b6 := Nat.le_trans (Keep.refl h0 []).1 (Nat.le_of_eq g6.symm)
      have K6 : Keep h0 h6 [] := (Keep.refl h0 []).ext E6
      have fz6_value : Fld Z h6 b6 "java/lang/Long" "value" "J" (.long (0 : Int64)) := D6 (Or.inr (hw _ (List.mem_of_getElem? (i := 45) rfl))) (ty := .long) (by decide)
      show own_Go p e below _ (T6.setTop (mkF m 34 #[.val (.long xa), .second, .val (.int (128 : Int32))] [(.ref b6)]))
      refine own_by (fun _ => XS.dup X6.here hx rfl (hb hby own_d5_34) rfl rfl) ?_
      show own_Go p e below _ (T6.setTop (mkF m 35 #[.val (.long xa), .second, .val (.int (128 : Int32))] [(.ref b6), (.ref b6)]))
      refine own_by (fun _ => XS.lloadN X6.here hx rfl (hb hby own_d5_35) rfl) ?_
      show own_Go p e below _ (T6.setTop (mkF m 36 #[.val (.long xa), .second, .val (.int (128 : Int32))] [(.long xa), (.ref b6), (.ref b6)]))
      obtain ⟨_, _, ⟨T7, L7, k7, n7⟩, -, X7, ⟨Lc7, hQ7, l7, y7, z7'⟩, st7⟩ := X6.specialBack hx (y := (⟨"java/lang/Long", "<init>", "(J)V"⟩ : MethodName)) rfl hown (mvT hZ (hw _ (List.mem_of_getElem? (i := 33) rfl))) (mvT hZ (hw _ (List.mem_of_getElem? (i := 34) rfl))) (mvT hZ (hw _ (List.mem_of_getElem? (i := 36) rfl))) (by decide) (backOf (W := 1) (own_rm6 l Z a0 hw [] b6 xa (0 : Int64) h6 n0 z6 A6 fz6_value ge6) hZ (hw _ (List.mem_of_getElem? (i := 36) rfl)) (hw _ (List.mem_of_getElem? (i := 27) rfl)) (by decide) (by decide)) (g := (mkF m 36 #[.val (.long xa), .second, .val (.int (128 : Int32))] [(.long xa), (.ref b6), (.ref b6)])) rfl (by rw [hml]; rfl) (Steps.refl _) (a := b6) (argsL := [(.long xa)]) (rest := [(.ref b6)]) (lenOf own_pd1 rfl) rfl (by show 2 * 0 + _ ≤ _; exact Nat.le_of_eq rfl) (hb hby own_d5_36) (fun _ _ => ⟨rfl, e6, (by decide : 1 + 0 ≤ _), (by decide : 1 + 0 ≤ _)⟩)
      dsimp only [Pt.U, Pt.locs, Pt.cells, Pt.slots] at X7 l7 y7 z7' st7 hQ7
      subst l7 y7 z7'
      obtain ⟨rfl, N7q, Kc7, fc7_0⟩ := hQ7
      have N7 := Fr.app N0 N7q
      refine own_tr st7 ?_
      have z7 : n0 ≤ T7.heap.size := Nat.le_trans z6 Kc7.1
      have K7 : Keep h0 T7.heap [] := K6.trans Kc7 (allS (Or.inr sz_b6) all0)
      show own_Go p e below _ (T7.setTop (mkF m 39 #[.val (.long xa), .second, .val (.int (128 : Int32))] [(.ref b6)]))
      have f8 : Exa Z T7.heap b6 "java/lang/Long" := (A6.keep Kc7)
      exact own_retR X7 hx hlk rfl rfl rfl hret (hb hby own_d5_39) (by decide) (by decide) ⟨b6, rfl, N7, K7, f8⟩
    ·
      skip
      refine own_by (fun _ => XS.ifNo X0.here hx rfl (hb hby own_d5_17) rfl ((if0 _ _).trans (flt (mt (lw_gt _ _).mp hc17_5)).2.2.1)) ?_
      obtain ⟨ca, cl, hS, hA, hsz, hel⟩ := hcache
      show own_Go p e below _ (s₁.setTop (mkF m 20 #[.val (.long xa), .second, .val (.int (128 : Int32))] []))
      obtain ⟨T9, X9, e9, st9⟩ := getS2 X0 hx hZ hown (host := "") (Or.inl (hw _ (List.mem_of_getElem? (i := 49) rfl))) Via.refl e0 (hS.ext pf0.2) (g := (mkF m 20 #[.val (.long xa), .second, .val (.int (128 : Int32))] [])) rfl (hb hby own_d5_20)
      refine own_by st9 ?_
      show own_Go p e below _ (T9.setTop (mkF m 23 #[.val (.long xa), .second, .val (.int (128 : Int32))] [(.ref ca)]))
      refine own_by (fun _ => XS.lloadN X9.here hx rfl (hb hby own_d5_23) rfl) ?_
      show own_Go p e below _ (T9.setTop (mkF m 24 #[.val (.long xa), .second, .val (.int (128 : Int32))] [(.long xa), (.ref ca)]))
      refine own_by (fun _ => XS.l2i X9.here hx rfl (hb hby own_d5_24) rfl) ?_
      show own_Go p e below _ (T9.setTop (mkF m 25 #[.val (.long xa), .second, .val (.int (128 : Int32))] [(.int (xa.toInt32)), (.ref ca)]))
      refine own_by (fun _ => XS.sipush X9.here hx rfl (hb hby own_d5_25)) ?_
      show own_Go p e below _ (T9.setTop (mkF m 28 #[.val (.long xa), .second, .val (.int (128 : Int32))] [(.int (128 : Int32)), (.int (xa.toInt32)), (.ref ca)]))
      refine own_by (fun _ => XS.iadd X9.here hx rfl (hb hby own_d5_28) rfl) ?_
      show own_Go p e below _ (T9.setTop (mkF m 29 #[.val (.long xa), .second, .val (.int (128 : Int32))] [(.int ((xa.toInt32) + (128 : Int32))), (.ref ca)]))
      obtain ⟨hin, hlt⟩ := own_cix hc9_1 hc17_5
      obtain ⟨r, hat, hE⟩ := hel _ hlt
      refine own_by (X9.aaload hx (j := ((xa.toInt32) + (128 : Int32))) (v := (.ref r)) (by rw [e9]; exact (hA.ext pf0.2).1) (State.isArrayOf_alike hZ.alike hA.2.1) rfl hA.2.2 (by rw [hsz]; exact hin) hat (g := (mkF m 29 #[.val (.long xa), .second, .val (.int (128 : Int32))] [(.int ((xa.toInt32) + (128 : Int32))), (.ref ca)])) rfl rfl (hb hby own_d5_29)) ?_
      show own_Go p e below _ (T9.setTop (mkF m 30 #[.val (.long xa), .second, .val (.int (128 : Int32))] [(.ref r)]))
      exact own_retR X9 hx hlk e9 rfl rfl hret (hb hby own_d5_30) (by decide) (by decide) ⟨r, rfl, N0, (Keep.refl h0 []), (hE.ext pf0.2)⟩

theorem own_d4_0 : decode prog_107_method_4_code 0 = .ok (.aload_n 1, 1) := by decide +kernel
theorem own_d4_1 : decode prog_107_method_4_code 1 = .ok (.instanceof 8, 3) := by decide +kernel
theorem own_d4_4 : decode prog_107_method_4_code 4 = .ok (.ifCond .eq 36, 3) := by decide +kernel
theorem own_d4_40 : decode prog_107_method_4_code 40 = .ok (.iconst 0, 1) := by decide +kernel
theorem own_d4_41 : decode prog_107_method_4_code 41 = .ok (.ireturn, 1) := by decide +kernel
theorem own_pn4 : plainName "com/example/mirrorline/mirrorline/store/Head" = true := by first | (simp [plainName, overriddenIn]; done) | decide +kernel
theorem own_ef4_n (m : MethodId) (x0 : Addr) : entryFrame m #[(.ref x0), .null] 3 = mkF m 0 #[.val (.ref x0), .val .null, .unset] [] := by first | (simp [entryFrame, mkF, argsToLocals, Value.category]; done) | rfl
def own_Q4_n (Z : State) (ax : Addr) (h0 : Heap) (n0 : Nat) (v : Option Value) (h : Heap) (L : List Loc) : Prop := v = some (.int (0 : Int32)) ∧ Fr n0 L ∧ h = h0
theorem own_rm4_n (l : Launch) (Z : State) (a0 : Array Value) (hw : ∀ d ∈ tables_1, d.before a0 Z = true) (ws : List Jvm.Cond) (ax : Addr) (h0 : Heap) (n0 : Nat) (Z0 : n0 ≤ h0.size) :
    MetFree l (⟨"com/example/mirrorline/mirrorline/store/Head", "equals", "(Ljava/lang/Object;)Z"⟩ : MethodName) (head1 (Jvm.Cond.code (⟨"com/example/mirrorline/mirrorline/store/Head", "equals", "(Ljava/lang/Object;)Z"⟩ : MethodName) prog_107_method_4_code 3 (some .boolean) :: ws) ({ frames := 0, cells := 0, slots := 0, locals := 0 } : Room)) (fun a U => a = #[(.ref ax), .null] ∧ Z.Warmed39 U.vm ∧ U.heap = h0) (fun _ _ _ _ _ => True) (fun _ U o U' => ∃ v L, o = .returned v ∧ own_Q4_n Z ax h0 n0 v U'.heap L ∧ FrameEnd U o U' L ({ frames := 0, cells := 0, slots := 0, locals := 0 } : Room).cells ({ frames := 0, cells := 0, slots := 0, locals := 0 } : Room).slots) := by
  refine MetFree.of_bodySF (plainFor_of_name own_pn4) hisR ?_
  intro p e s m args below meth c s₁ Bd hml0 hP hK
  obtain ⟨rfl, hZ, hh⟩ := hP
  have hx := Bd.exec
  have hby := Bd.bytes
  have hlk := Bd.notSynchronized
  have hret := Bd.returns
  have hml : c.maxLocals = 3 := hml0
  have hown : s.vm.findClass "com/example/mirrorline/mirrorline/store/Head" = some m.cls := findClass_of_methodNamed Bd.named
  have hnm := (name_of_methodNamed Bd.named Bd.method).1
  have X0 : Stand p l e ({ frames := 0, cells := 0, slots := 0, locals := 0 } : Room) s m #[(.ref ax), .null] below meth c s₁ [] 0 0 := Stand.of_body Bd
  have e0 : s₁.heap = h0 := by rw [← hh, Bd.state]; rfl
  have N0 := Fr.nil n0
  suffices key : own_Go p e below (own_End s below (own_Q4_n Z ax h0 n0) ({ frames := 0, cells := 0, slots := 0, locals := 0 } : Room).cells ({ frames := 0, cells := 0, slots := 0, locals := 0 } : Room).slots) (s₁.setTop (mkF m 0 #[.val (.ref ax), .val .null, .unset] [])) by
    obtain ⟨t, k1, k2, v, L, k3, k4, k5⟩ := key
    exact ⟨t, _, castTop (own_ef4_n m ax) k1, k2, k3, v, L, rfl, k4, k5⟩
  show own_Go p e below _ (s₁.setTop (mkF m 0 #[.val (.ref ax), .val .null, .unset] []))
  refine own_by (fun _ => XS.aloadN X0.here hx rfl (hb hby own_d4_0) rfl rfl) ?_
  show own_Go p e below _ (s₁.setTop (mkF m 1 #[.val (.ref ax), .val .null, .unset] [.null]))
  refine own_by (X0.instanceofNull hx (g := (mkF m 1 #[.val (.ref ax), .val .null, .unset] [.null])) rfl rfl (hb hby own_d4_1)) ?_
  show own_Go p e below _ (s₁.setTop (mkF m 4 #[.val (.ref ax), .val .null, .unset] [(.int (0 : Int32))]))
  refine own_by (fun _ => XS.ifYes X0.here hx rfl (pc0 := 4) (pc' := 40) rfl (hb hby own_d4_4) rfl ((if0 _ _).trans (teq (by decide : (0 : Int32) = (0 : Int32))).1) (by decide) (by decide)) ?_
  show own_Go p e below _ (s₁.setTop (mkF m 40 #[.val (.ref ax), .val .null, .unset] []))
  refine own_by (fun _ => XS.iconst X0.here hx rfl (hb hby own_d4_40)) ?_
  show own_Go p e below _ (s₁.setTop (mkF m 41 #[.val (.ref ax), .val .null, .unset] [(.int (0 : Int32))]))
  exact own_retZ X0 hx hlk e0 (by decide) hret (hb hby own_d4_41) (by decide) (by decide) ⟨rfl, N0, rfl⟩

theorem own_ef4_l (m : MethodId) (x0 : Addr) (x1 : Addr) : entryFrame m #[(.ref x0), (.ref x1)] 3 = mkF m 0 #[.val (.ref x0), .val (.ref x1), .unset] [] := by first | (simp [entryFrame, mkF, argsToLocals, Value.category]; done) | rfl
def own_Q4_l (Z : State) (ax : Addr) (bx : Addr) (h0 : Heap) (n0 : Nat) (v : Option Value) (h : Heap) (L : List Loc) : Prop := v = some (.int (0 : Int32)) ∧ Fr n0 L ∧ h = h0
theorem own_rm4_l (l : Launch) (Z : State) (a0 : Array Value) (hw : ∀ d ∈ tables_1, d.before a0 Z = true) (ws : List Jvm.Cond) (ax : Addr) (bx : Addr) (h0 : Heap) (n0 : Nat) (Z0 : n0 ≤ h0.size) (pf0 : Exa Z h0 bx "java/lang/Long") :
    MetFree l (⟨"com/example/mirrorline/mirrorline/store/Head", "equals", "(Ljava/lang/Object;)Z"⟩ : MethodName) (head1 (Jvm.Cond.code (⟨"com/example/mirrorline/mirrorline/store/Head", "equals", "(Ljava/lang/Object;)Z"⟩ : MethodName) prog_107_method_4_code 3 (some .boolean) :: ws) ({ frames := 0, cells := 0, slots := 0, locals := 0 } : Room)) (fun a U => a = #[(.ref ax), (.ref bx)] ∧ Z.Warmed39 U.vm ∧ U.heap = h0) (fun _ _ _ _ _ => True) (fun _ U o U' => ∃ v L, o = .returned v ∧ own_Q4_l Z ax bx h0 n0 v U'.heap L ∧ FrameEnd U o U' L ({ frames := 0, cells := 0, slots := 0, locals := 0 } : Room).cells ({ frames := 0, cells := 0, slots := 0, locals := 0 } : Room).slots) := by
  refine MetFree.of_bodySF (plainFor_of_name own_pn4) hisR ?_
  intro p e s m args below meth c s₁ Bd hml0 hP hK
  obtain ⟨rfl, hZ, hh⟩ := hP
  have hx := Bd.exec
  have hby := Bd.bytes
  have hlk := Bd.notSynchronized
  have hret := Bd.returns
  have hml : c.maxLocals = 3 := hml0
  have hown : s.vm.findClass "com/example/mirrorline/mirrorline/store/Head" = some m.cls := findClass_of_methodNamed Bd.named
  have hnm := (name_of_methodNamed Bd.named Bd.method).1
  have X0 : Stand p l e ({ frames := 0, cells := 0, slots := 0, locals := 0 } : Room) s m #[(.ref ax), (.ref bx)] below meth c s₁ [] 0 0 := Stand.of_body Bd
  have e0 : s₁.heap = h0 := by rw [← hh, Bd.state]; rfl
  have N0 := Fr.nil n0
  suffices key : own_Go p e below (own_End s below (own_Q4_l Z ax bx h0 n0) ({ frames := 0, cells := 0, slots := 0, locals := 0 } : Room).cells ({ frames := 0, cells := 0, slots := 0, locals := 0 } : Room).slots) (s₁.setTop (mkF m 0 #[.val (.ref ax), .val (.ref bx), .unset] [])) by
    obtain ⟨t, k1, k2, v, L, k3, k4, k5⟩ := key
    exact ⟨t, _, castTop (own_ef4_l m ax bx) k1, k2, k3, v, L, rfl, k4, k5⟩
  show own_Go p e below _ (s₁.setTop (mkF m 0 #[.val (.ref ax), .val (.ref bx), .unset] []))
  refine own_by (fun _ => XS.aloadN X0.here hx rfl (hb hby own_d4_0) rfl rfl) ?_
  show own_Go p e below _ (s₁.setTop (mkF m 1 #[.val (.ref ax), .val (.ref bx), .unset] [(.ref bx)]))
  obtain ⟨T1, X1, e1, st1⟩ := instNo X0 hx hZ hown (hw _ (List.mem_of_getElem? (i := 23) rfl)) e0 pf0 (own_notin (hw _ (List.mem_of_getElem? (i := 1) rfl)) (hw _ (List.mem_of_getElem? (i := 46) rfl)) (hw _ (List.mem_of_getElem? (i := 47) rfl)) (hw _ (List.mem_of_getElem? (i := 48) rfl))) (g := (mkF m 1 #[.val (.ref ax), .val (.ref bx), .unset] [(.ref bx)])) rfl rfl (hb hby own_d4_1)
  refine own_by st1 ?_
  show own_Go p e below _ (T1.setTop (mkF m 4 #[.val (.ref ax), .val (.ref bx), .unset] [(.int (0 : Int32))]))
  refine own_by (fun _ => XS.ifYes X1.here hx rfl (pc0 := 4) (pc' := 40) rfl (hb hby own_d4_4) rfl ((if0 _ _).trans (teq (by decide : (0 : Int32) = (0 : Int32))).1) (by decide) (by decide)) ?_
  show own_Go p e below _ (T1.setTop (mkF m 40 #[.val (.ref ax), .val (.ref bx), .unset] []))
  refine own_by (fun _ => XS.iconst X1.here hx rfl (hb hby own_d4_40)) ?_
  show own_Go p e below _ (T1.setTop (mkF m 41 #[.val (.ref ax), .val (.ref bx), .unset] [(.int (0 : Int32))]))
  exact own_retZ X1 hx hlk e1 (by decide) hret (hb hby own_d4_41) (by decide) (by decide) ⟨rfl, N0, rfl⟩

theorem own_d4_7 : decode prog_107_method_4_code 7 = .ok (.aload_n 1, 1) := by decide +kernel
theorem own_d4_8 : decode prog_107_method_4_code 8 = .ok (.checkcast 8, 3) := by decide +kernel
theorem own_d4_11 : decode prog_107_method_4_code 11 = .ok (.astore_n 2, 1) := by decide +kernel
theorem own_d4_12 : decode prog_107_method_4_code 12 = .ok (.aload_n 0, 1) := by decide +kernel
theorem own_d4_13 : decode prog_107_method_4_code 13 = .ok (.getfield 7, 3) := by decide +kernel
theorem own_d4_16 : decode prog_107_method_4_code 16 = .ok (.aload_n 2, 1) := by decide +kernel
theorem own_d4_17 : decode prog_107_method_4_code 17 = .ok (.getfield 7, 3) := by decide +kernel
theorem own_d4_20 : decode prog_107_method_4_code 20 = .ok (.lcmp, 1) := by decide +kernel
theorem own_d4_21 : decode prog_107_method_4_code 21 = .ok (.ifCond .ne 19, 3) := by decide +kernel
theorem own_d4_24 : decode prog_107_method_4_code 24 = .ok (.aload_n 0, 1) := by decide +kernel
theorem own_d4_25 : decode prog_107_method_4_code 25 = .ok (.getfield 13, 3) := by decide +kernel
theorem own_d4_28 : decode prog_107_method_4_code 28 = .ok (.aload_n 2, 1) := by decide +kernel
theorem own_d4_29 : decode prog_107_method_4_code 29 = .ok (.getfield 13, 3) := by decide +kernel
theorem own_d4_32 : decode prog_107_method_4_code 32 = .ok (.lcmp, 1) := by decide +kernel
theorem own_d4_33 : decode prog_107_method_4_code 33 = .ok (.ifCond .ne 7, 3) := by decide +kernel
theorem own_d4_36 : decode prog_107_method_4_code 36 = .ok (.iconst 1, 1) := by decide +kernel
theorem own_d4_37 : decode prog_107_method_4_code 37 = .ok (.goto 4, 3) := by decide +kernel
def own_eq (ua : Int64) (ub : Int64) (va : Int64) (vb : Int64) : Int32 := (if ua = va then (if ub = vb then (1 : Int32) else (0 : Int32)) else (0 : Int32))
theorem own_ef4_h (m : MethodId) (x0 : Addr) (x1 : Addr) : entryFrame m #[(.ref x0), (.ref x1)] 3 = mkF m 0 #[.val (.ref x0), .val (.ref x1), .unset] [] := by first | (simp [entryFrame, mkF, argsToLocals, Value.category]; done) | rfl
def own_Q4_h (Z : State) (ax : Addr) (bx : Addr) (ua : Int64) (ub : Int64) (va : Int64) (vb : Int64) (h0 : Heap) (n0 : Nat) (v : Option Value) (h : Heap) (L : List Loc) : Prop := v = some (.int (own_eq ua ub va vb)) ∧ Fr n0 L ∧ h = h0
theorem own_rm4_h (l : Launch) (Z : State) (a0 : Array Value) (hw : ∀ d ∈ tables_1, d.before a0 Z = true) (ws : List Jvm.Cond) (ax : Addr) (bx : Addr) (ua : Int64) (ub : Int64) (va : Int64) (vb : Int64) (h0 : Heap) (n0 : Nat) (Z0 : n0 ≤ h0.size) (pf0 : Fld Z h0 ax "com/example/mirrorline/mirrorline/store/Head" "first" "J" (.long ua)) (pf1 : Fld Z h0 ax "com/example/mirrorline/mirrorline/store/Head" "resets" "J" (.long ub)) (pf2 : Fld Z h0 bx "com/example/mirrorline/mirrorline/store/Head" "first" "J" (.long va)) (pf3 : Fld Z h0 bx "com/example/mirrorline/mirrorline/store/Head" "resets" "J" (.long vb)) (pf4 : Exa Z h0 bx "com/example/mirrorline/mirrorline/store/Head") :
    MetFree l (⟨"com/example/mirrorline/mirrorline/store/Head", "equals", "(Ljava/lang/Object;)Z"⟩ : MethodName) (head1 (Jvm.Cond.code (⟨"com/example/mirrorline/mirrorline/store/Head", "equals", "(Ljava/lang/Object;)Z"⟩ : MethodName) prog_107_method_4_code 3 (some .boolean) :: ws) ({ frames := 0, cells := 0, slots := 0, locals := 0 } : Room)) (fun a U => a = #[(.ref ax), (.ref bx)] ∧ Z.Warmed39 U.vm ∧ U.heap = h0) (fun _ _ _ _ _ => True) (fun _ U o U' => ∃ v L, o = .returned v ∧ own_Q4_h Z ax bx ua ub va vb h0 n0 v U'.heap L ∧ FrameEnd U o U' L ({ frames := 0, cells := 0, slots := 0, locals := 0 } : Room).cells ({ frames := 0, cells := 0, slots := 0, locals := 0 } : Room).slots) := by
  refine MetFree.of_bodySF (plainFor_of_name own_pn4) hisR ?_
  intro p e s m args below meth c s₁ Bd hml0 hP hK
  obtain ⟨rfl, hZ, hh⟩ := hP
  have hx := Bd.exec
  have hby := Bd.bytes
  have hlk := Bd.notSynchronized
  have hret := Bd.returns
  have hml : c.maxLocals = 3 := hml0
  have hown : s.vm.findClass "com/example/mirrorline/mirrorline/store/Head" = some m.cls := findClass_of_methodNamed Bd.named
  have hnm := (name_of_methodNamed Bd.named Bd.method).1
  have X0 : Stand p l e ({ frames := 0, cells := 0, slots := 0, locals := 0 } : Room) s m #[(.ref ax), (.ref bx)] below meth c s₁ [] 0 0 := Stand.of_body Bd
  have e0 : s₁.heap = h0 := by rw [← hh, Bd.state]; rfl
  have N0 := Fr.nil n0
  suffices key : own_Go p e below (own_End s below (own_Q4_h Z ax bx ua ub va vb h0 n0) ({ frames := 0, cells := 0, slots := 0, locals := 0 } : Room).cells ({ frames := 0, cells := 0, slots := 0, locals := 0 } : Room).slots) (s₁.setTop (mkF m 0 #[.val (.ref ax), .val (.ref bx), .unset] [])) by
    obtain ⟨t, k1, k2, v, L, k3, k4, k5⟩ := key
    exact ⟨t, _, castTop (own_ef4_h m ax bx) k1, k2, k3, v, L, rfl, k4, k5⟩
  show own_Go p e below _ (s₁.setTop (mkF m 0 #[.val (.ref ax), .val (.ref bx), .unset] []))
  refine own_by (fun _ => XS.aloadN X0.here hx rfl (hb hby own_d4_0) rfl rfl) ?_
  show own_Go p e below _ (s₁.setTop (mkF m 1 #[.val (.ref ax), .val (.ref bx), .unset] [(.ref bx)]))
  obtain ⟨T1, X1, e1, st1⟩ := instY X0 hx hZ hown (hw _ (List.mem_of_getElem? (i := 23) rfl)) e0 (Ins.self pf4) (g := (mkF m 1 #[.val (.ref ax), .val (.ref bx), .unset] [(.ref bx)])) rfl rfl (hb hby own_d4_1)
  refine own_by st1 ?_
  show own_Go p e below _ (T1.setTop (mkF m 4 #[.val (.ref ax), .val (.ref bx), .unset] [(.int (1 : Int32))]))
  refine own_by (fun _ => XS.ifNo X1.here hx rfl (hb hby own_d4_4) rfl ((if0 _ _).trans (feq (by decide : ¬ ((1 : Int32) = (0 : Int32)))).1)) ?_
  show own_Go p e below _ (T1.setTop (mkF m 7 #[.val (.ref ax), .val (.ref bx), .unset] []))
  refine own_by (fun _ => XS.aloadN X1.here hx rfl (hb hby own_d4_7) rfl rfl) ?_
  show own_Go p e below _ (T1.setTop (mkF m 8 #[.val (.ref ax), .val (.ref bx), .unset] [(.ref bx)]))
  obtain ⟨T2, X2, e2, st2⟩ := castY X1 hx hZ hown (hw _ (List.mem_of_getElem? (i := 23) rfl)) e1 (Ins.self pf4) (g := (mkF m 8 #[.val (.ref ax), .val (.ref bx), .unset] [(.ref bx)])) rfl rfl (hb hby own_d4_8)
  refine own_by st2 ?_
  show own_Go p e below _ (T2.setTop (mkF m 11 #[.val (.ref ax), .val (.ref bx), .unset] [(.ref bx)]))
  refine own_by (fun _ => XS.astoreN X2.here hx rfl (hb hby own_d4_11) rfl rfl (l' := #[.val (.ref ax), .val (.ref bx), .val (.ref bx)]) rfl) ?_
  show own_Go p e below _ (T2.setTop (mkF m 12 #[.val (.ref ax), .val (.ref bx), .val (.ref bx)] []))
  refine own_by (fun _ => XS.aloadN X2.here hx rfl (hb hby own_d4_12) rfl rfl) ?_
  show own_Go p e below _ (T2.setTop (mkF m 13 #[.val (.ref ax), .val (.ref bx), .val (.ref bx)] [(.ref ax)]))
  obtain ⟨T3, X3, e3, st3⟩ := getF X2 hx hZ hown (host := "") (Or.inl (hw _ (List.mem_of_getElem? (i := 14) rfl))) Via.refl e2 pf0 (g := (mkF m 13 #[.val (.ref ax), .val (.ref bx), .val (.ref bx)] [(.ref ax)])) rfl rfl (hb hby own_d4_13)
  refine own_by st3 ?_
  show own_Go p e below _ (T3.setTop (mkF m 16 #[.val (.ref ax), .val (.ref bx), .val (.ref bx)] [(.long ua)]))
  refine own_by (fun _ => XS.aloadN X3.here hx rfl (hb hby own_d4_16) rfl rfl) ?_
  show own_Go p e below _ (T3.setTop (mkF m 17 #[.val (.ref ax), .val (.ref bx), .val (.ref bx)] [(.ref bx), (.long ua)]))
  obtain ⟨T4, X4, e4, st4⟩ := getF X3 hx hZ hown (host := "") (Or.inl (hw _ (List.mem_of_getElem? (i := 14) rfl))) Via.refl e3 pf2 (g := (mkF m 17 #[.val (.ref ax), .val (.ref bx), .val (.ref bx)] [(.ref bx), (.long ua)])) rfl rfl (hb hby own_d4_17)
  refine own_by st4 ?_
  show own_Go p e below _ (T4.setTop (mkF m 20 #[.val (.ref ax), .val (.ref bx), .val (.ref bx)] [(.long va), (.long ua)]))
  refine own_by (fun _ => XS.lcmp X4.here hx rfl (hb hby own_d4_20) rfl) ?_
  show own_Go p e below _ (T4.setTop (mkF m 21 #[.val (.ref ax), .val (.ref bx), .val (.ref bx)] [(.int (lcmpW ua va))]))
  suffices J5 : ∀ (T' : State) (v5_t0 : Int32), v5_t0 = (if ua = va then (if ub = vb then (1 : Int32) else (0 : Int32)) else (0 : Int32)) → own_At p l e ({ frames := 0, cells := 0, slots := 0, locals := 0 } : Room) s m #[(.ref ax), (.ref bx)] below meth c n0 T' h0 0 0 → own_Go p e below (own_End s below (own_Q4_h Z ax bx ua ub va vb h0 n0) ({ frames := 0, cells := 0, slots := 0, locals := 0 } : Room).cells ({ frames := 0, cells := 0, slots := 0, locals := 0 } : Room).slots) (T'.setTop (mkF m 41 #[.val (.ref ax), .val (.ref bx), .val (.ref bx)] [(.int v5_t0)])) by
    by_cases hc21_6 : ua = va
    ·
      skip
      refine own_by (fun _ => XS.ifNo X4.here hx rfl (hb hby own_d4_21) rfl ((if0 _ _).trans (teq ((lw_eq _ _).mpr hc21_6)).2)) ?_
      show own_Go p e below _ (T4.setTop (mkF m 24 #[.val (.ref ax), .val (.ref bx), .val (.ref bx)] []))
      refine own_by (fun _ => XS.aloadN X4.here hx rfl (hb hby own_d4_24) rfl rfl) ?_
      show own_Go p e below _ (T4.setTop (mkF m 25 #[.val (.ref ax), .val (.ref bx), .val (.ref bx)] [(.ref ax)]))
      obtain ⟨T7, X7, e7, st7⟩ := getF X4 hx hZ hown (host := "") (Or.inl (hw _ (List.mem_of_getElem? (i := 16) rfl))) Via.refl e4 pf1 (g := (mkF m 25 #[.val (.ref ax), .val (.ref bx), .val (.ref bx)] [(.ref ax)])) rfl rfl (hb hby own_d4_25)
      refine own_by st7 ?_
      show own_Go p e below _ (T7.setTop (mkF m 28 #[.val (.ref ax), .val (.ref bx), .val (.ref bx)] [(.long ub)]))
      refine own_by (fun _ => XS.aloadN X7.here hx rfl (hb hby own_d4_28) rfl rfl) ?_
      show own_Go p e below _ (T7.setTop (mkF m 29 #[.val (.ref ax), .val (.ref bx), .val (.ref bx)] [(.ref bx), (.long ub)]))
      obtain ⟨T8, X8, e8, st8⟩ := getF X7 hx hZ hown (host := "") (Or.inl (hw _ (List.mem_of_getElem? (i := 16) rfl))) Via.refl e7 pf3 (g := (mkF m 29 #[.val (.ref ax), .val (.ref bx), .val (.ref bx)] [(.ref bx), (.long ub)])) rfl rfl (hb hby own_d4_29)
      refine own_by st8 ?_
      show own_Go p e below _ (T8.setTop (mkF m 32 #[.val (.ref ax), .val (.ref bx), .val (.ref bx)] [(.long vb), (.long ub)]))
      refine own_by (fun _ => XS.lcmp X8.here hx rfl (hb hby own_d4_32) rfl) ?_
      show own_Go p e below _ (T8.setTop (mkF m 33 #[.val (.ref ax), .val (.ref bx), .val (.ref bx)] [(.int (lcmpW ub vb))]))
      by_cases hc33_9 : ub = vb
      ·
        skip
        refine own_by (fun _ => XS.ifNo X8.here hx rfl (hb hby own_d4_33) rfl ((if0 _ _).trans (teq ((lw_eq _ _).mpr hc33_9)).2)) ?_
        show own_Go p e below _ (T8.setTop (mkF m 36 #[.val (.ref ax), .val (.ref bx), .val (.ref bx)] []))
        refine own_by (fun _ => XS.iconst X8.here hx rfl (hb hby own_d4_36)) ?_
        show own_Go p e below _ (T8.setTop (mkF m 37 #[.val (.ref ax), .val (.ref bx), .val (.ref bx)] [(.int (1 : Int32))]))
        refine own_by (fun _ => XS.goto X8.here hx rfl (pc0 := 37) (pc' := 41) rfl (hb hby own_d4_37) (by decide) (by decide)) ?_
        show own_Go p e below _ (T8.setTop (mkF m 41 #[.val (.ref ax), .val (.ref bx), .val (.ref bx)] [(.int (1 : Int32))]))
        exact J5 _ _ (by first | rfl | simp only [if_pos hc21_6, if_pos hc33_9]) ⟨_, X8, N0, e8⟩
      ·
        skip
        refine own_by (fun _ => XS.ifYes X8.here hx rfl (pc0 := 33) (pc' := 40) rfl (hb hby own_d4_33) rfl ((if0 _ _).trans (feq (mt (lw_eq _ _).mp hc33_9)).2) (by decide) (by decide)) ?_
        show own_Go p e below _ (T8.setTop (mkF m 40 #[.val (.ref ax), .val (.ref bx), .val (.ref bx)] []))
        refine own_by (fun _ => XS.iconst X8.here hx rfl (hb hby own_d4_40)) ?_
        show own_Go p e below _ (T8.setTop (mkF m 41 #[.val (.ref ax), .val (.ref bx), .val (.ref bx)] [(.int (0 : Int32))]))
        exact J5 _ _ (by first | rfl | simp only [if_pos hc21_6, if_neg hc33_9]) ⟨_, X8, N0, e8⟩
    ·
      skip
      refine own_by (fun _ => XS.ifYes X4.here hx rfl (pc0 := 21) (pc' := 40) rfl (hb hby own_d4_21) rfl ((if0 _ _).trans (feq (mt (lw_eq _ _).mp hc21_6)).2) (by decide) (by decide)) ?_
      show own_Go p e below _ (T4.setTop (mkF m 40 #[.val (.ref ax), .val (.ref bx), .val (.ref bx)] []))
      refine own_by (fun _ => XS.iconst X4.here hx rfl (hb hby own_d4_40)) ?_
      show own_Go p e below _ (T4.setTop (mkF m 41 #[.val (.ref ax), .val (.ref bx), .val (.ref bx)] [(.int (0 : Int32))]))
      exact J5 _ _ (by first | rfl | simp only [if_neg hc21_6]) ⟨_, X4, N0, e4⟩
  intro T5 v5_t0 hv5_t0 ⟨locs5, X5, N5, e5⟩
  show own_Go p e below _ (T5.setTop (mkF m 41 #[.val (.ref ax), .val (.ref bx), .val (.ref bx)] [(.int v5_t0)]))
  exact own_retZ X5 hx hlk e5 (by rw [hv5_t0]; (repeat' split) <;> first | exact Or.inl rfl | exact Or.inr rfl) hret (hb hby own_d4_41) (by decide) (by decide) ⟨(by subst hv5_t0; first | rfl | simp only [own_eq]), N5, rfl⟩

def own_law (xa : Int64) (xb : Int64) (xc : Int64) (xd : Int64) (xe : Int32) : Int32 := (if (xe &&& (3 : Int32)) = (0 : Int32) then (1 : Int32) else (if (xe &&& (3 : Int32)) = (1 : Int32) then (1 : Int32) else (if (own_eq xa xb (if (xe &&& (4 : Int32)) = (0 : Int32) then xc else xa) (if (xe &&& (8 : Int32)) = (0 : Int32) then xd else xb)) = (if (if (xe &&& (4 : Int32)) = (0 : Int32) then xc else xa) = xa then (if (if (xe &&& (8 : Int32)) = (0 : Int32) then xd else xb) = xb then (1 : Int32) else (0 : Int32)) else (0 : Int32)) then (1 : Int32) else (0 : Int32))))
theorem own_plain (xa xb xc xd : Int64) (xe : Int32) : own_law xa xb xc xd xe = 1 := by
  simp only [own_law]
  generalize (if xe &&& (4 : Int32) = (0 : Int32) then xc else xa) = u
  generalize (if xe &&& (8 : Int32) = (0 : Int32) then xd else xb) = w
  simp only [own_eq]
  repeat' split
  all_goals first | rfl | (exfalso; simp_all; done)

theorem own_pn0 : plainName "com/example/mirrorline/mirrorline/store/HeadEqualsPinLaw" = true := by first | (simp [plainName, overriddenIn]; done) | decide +kernel
theorem own_ef0 (m : MethodId) (x0 : Int64) (x1 : Int64) (x2 : Int64) (x3 : Int64) (x4 : Int32) : entryFrame m #[(.long x0), (.long x1), (.long x2), (.long x3), (.int x4)] maxLocals = mkF m 0 #[.val (.long x0), .second, .val (.long x1), .second, .val (.long x2), .second, .val (.long x3), .second, .val (.int x4), .unset, .unset, .unset, .unset, .unset, .unset, .unset, .unset, .unset] [] := by first | (simp [entryFrame, mkF, argsToLocals, Value.category, maxLocals]; done) | rfl
def own_Q0 (Z : State) (xa : Int64) (xb : Int64) (xc : Int64) (xd : Int64) (xe : Int32) (h0 : Heap) (n0 : Nat) (v : Option Value) (h : Heap) (L : List Loc) : Prop := v = some (.int (1 : Int32)) ∧ Fr n0 L
theorem own_rm0 (l : Launch) (Z : State) (a0 : Array Value) (hw : ∀ d ∈ tables_1, d.before a0 Z = true) (ws : List Jvm.Cond) (xa : Int64) (xb : Int64) (xc : Int64) (xd : Int64) (xe : Int32) (h0 : Heap) (n0 : Nat) (Z0 : n0 ≤ h0.size) (pf0 : Old Z n0 h0) (hcache : own_Cache Z) :
    MetFree l x (head1 (Jvm.Cond.code x code maxLocals ret :: ws) room_1) (fun a U => a = #[(.long xa), (.long xb), (.long xc), (.long xd), (.int xe)] ∧ Z.Warmed39 U.vm ∧ U.heap = h0) (fun _ _ _ _ _ => True) (fun _ U o U' => ∃ v L, o = .returned v ∧ own_Q0 Z xa xb xc xd xe h0 n0 v U'.heap L ∧ FrameEnd U o U' L room_1.cells room_1.slots) := by
  refine MetFree.of_bodySF (plainFor_of_name own_pn0) hisR ?_
  intro p e s m args below meth c s₁ Bd hml0 hP hK
  obtain ⟨rfl, hZ, hh⟩ := hP
  have hx := Bd.exec
  have hby := Bd.bytes
  have hlk := Bd.notSynchronized
  have hret := Bd.returns
  have hml : c.maxLocals = 18 := hml0
  have hown : s.vm.findClass "com/example/mirrorline/mirrorline/store/HeadEqualsPinLaw" = some m.cls := findClass_of_methodNamed Bd.named
  have hnm := (name_of_methodNamed Bd.named Bd.method).1
  have X0 : Stand p l e room_1 s m #[(.long xa), (.long xb), (.long xc), (.long xd), (.int xe)] below meth c s₁ [] 0 0 := Stand.of_body Bd
  have e0 : s₁.heap = h0 := by rw [← hh, Bd.state]; rfl
  have N0 := Fr.nil n0
  suffices key : own_Go p e below (own_End s below (own_Q0 Z xa xb xc xd xe h0 n0) room_1.cells room_1.slots) (s₁.setTop (mkF m 0 #[.val (.long xa), .second, .val (.long xb), .second, .val (.long xc), .second, .val (.long xd), .second, .val (.int xe), .unset, .unset, .unset, .unset, .unset, .unset, .unset, .unset, .unset] [])) by
    obtain ⟨t, k1, k2, v, L, k3, k4, k5⟩ := key
    exact ⟨t, _, castTop (own_ef0 m xa xb xc xd xe) k1, k2, k3, v, L, rfl, k4, k5⟩
  show own_Go p e below _ (s₁.setTop (mkF m 0 #[.val (.long xa), .second, .val (.long xb), .second, .val (.long xc), .second, .val (.long xd), .second, .val (.int xe), .unset, .unset, .unset, .unset, .unset, .unset, .unset, .unset, .unset] []))
  obtain ⟨T1, h1, X1, e1, E1, A1, D1, -, st1⟩ := newO X0 hx hZ hown (hw _ (List.mem_of_getElem? (i := 0) rfl)) (hw _ (List.mem_of_getElem? (i := 1) rfl)) (hw _ (List.mem_of_getElem? (i := 2) rfl)) e0 (g := (mkF m 0 #[.val (.long xa), .second, .val (.long xb), .second, .val (.long xc), .second, .val (.long xd), .second, .val (.int xe), .unset, .unset, .unset, .unset, .unset, .unset, .unset, .unset, .unset] [])) rfl (hb hby at_0) (by decide) (by decide)
  obtain ⟨b1, g1⟩ : ∃ z, z = h0.size := ⟨_, rfl⟩
  rw [← g1] at A1 D1 st1
  refine own_by st1 ?_
  have ge1 : n0 ≤ b1 := Nat.le_trans Z0 (Nat.le_of_eq g1.symm)
  have z1 : n0 ≤ h1.size := Nat.le_trans Z0 E1.1
  have fz1_first : Fld Z h1 b1 "com/example/mirrorline/mirrorline/store/Head" "first" "J" (.long (0 : Int64)) := D1 (Or.inr (hw _ (List.mem_of_getElem? (i := 15) rfl))) (ty := .long) (by decide)
  have fz1_resets : Fld Z h1 b1 "com/example/mirrorline/mirrorline/store/Head" "resets" "J" (.long (0 : Int64)) := D1 (Or.inr (hw _ (List.mem_of_getElem? (i := 17) rfl))) (ty := .long) (by decide)
  show own_Go p e below _ (T1.setTop (mkF m 3 #[.val (.long xa), .second, .val (.long xb), .second, .val (.long xc), .second, .val (.long xd), .second, .val (.int xe), .unset, .unset, .unset, .unset, .unset, .unset, .unset, .unset, .unset] [(.ref b1)]))
  refine own_by (fun _ => XS.dup X1.here hx rfl (hb hby at_3) rfl rfl) ?_
  show own_Go p e below _ (T1.setTop (mkF m 4 #[.val (.long xa), .second, .val (.long xb), .second, .val (.long xc), .second, .val (.long xd), .second, .val (.int xe), .unset, .unset, .unset, .unset, .unset, .unset, .unset, .unset, .unset] [(.ref b1), (.ref b1)]))
  refine own_by (fun _ => XS.lloadN X1.here hx rfl (hb hby at_4) rfl) ?_
  show own_Go p e below _ (T1.setTop (mkF m 5 #[.val (.long xa), .second, .val (.long xb), .second, .val (.long xc), .second, .val (.long xd), .second, .val (.int xe), .unset, .unset, .unset, .unset, .unset, .unset, .unset, .unset, .unset] [(.long xa), (.ref b1), (.ref b1)]))
  refine own_by (fun _ => XS.lloadN X1.here hx rfl (hb hby at_5) rfl) ?_
  show own_Go p e below _ (T1.setTop (mkF m 6 #[.val (.long xa), .second, .val (.long xb), .second, .val (.long xc), .second, .val (.long xd), .second, .val (.int xe), .unset, .unset, .unset, .unset, .unset, .unset, .unset, .unset, .unset] [(.long xb), (.long xa), (.ref b1), (.ref b1)]))
  obtain ⟨_, _, ⟨T2, L2, k2, n2⟩, -, X2, ⟨Lc2, hQ2, l2, y2, z2'⟩, st2⟩ := X1.specialBack hx (y := (⟨"com/example/mirrorline/mirrorline/store/Head", "<init>", "(JJ)V"⟩ : MethodName)) rfl hown (mvT hZ (hw _ (List.mem_of_getElem? (i := 3) rfl))) (mvT hZ (hw _ (List.mem_of_getElem? (i := 4) rfl))) (mvT hZ (hw _ (List.mem_of_getElem? (i := 5) rfl))) (by decide) (backOf (W := 1) (own_rm1 l Z a0 hw [] b1 xa xb (0 : Int64) (0 : Int64) h1 n0 z1 A1 fz1_first fz1_resets ge1) hZ (hw _ (List.mem_of_getElem? (i := 5) rfl)) (hw _ (List.mem_of_getElem? (i := 2) rfl)) (by decide) (by decide)) (g := (mkF m 6 #[.val (.long xa), .second, .val (.long xb), .second, .val (.long xc), .second, .val (.long xd), .second, .val (.int xe), .unset, .unset, .unset, .unset, .unset, .unset, .unset, .unset, .unset] [(.long xb), (.long xa), (.ref b1), (.ref b1)])) rfl (by rw [hml]; rfl) (Steps.refl _) (a := b1) (argsL := [(.long xa), (.long xb)]) (rest := [(.ref b1)]) (lenOf own_pd2 rfl) rfl (by show 2 * 0 + _ ≤ _; exact Nat.le_of_eq rfl) (hb hby at_6) (fun _ _ => ⟨rfl, e1, (by decide : 1 + 0 ≤ _), (by decide : 2 + 0 ≤ _)⟩)
  dsimp only [Pt.U, Pt.locs, Pt.cells, Pt.slots] at X2 l2 y2 z2' st2 hQ2
  subst l2 y2 z2'
  obtain ⟨rfl, N2q, Kc2, fc2_0, fc2_1⟩ := hQ2
  have N2 := Fr.app N0 N2q
  refine own_tr st2 ?_
  have z2 : n0 ≤ T2.heap.size := Nat.le_trans z1 Kc2.1
  show own_Go p e below _ (T2.setTop (mkF m 9 #[.val (.long xa), .second, .val (.long xb), .second, .val (.long xc), .second, .val (.long xd), .second, .val (.int xe), .unset, .unset, .unset, .unset, .unset, .unset, .unset, .unset, .unset] [(.ref b1)]))
  refine own_by (fun _ => XS.astore X2.here hx rfl (hb hby at_9) rfl rfl (l' := #[.val (.long xa), .second, .val (.long xb), .second, .val (.long xc), .second, .val (.long xd), .second, .val (.int xe), .val (.ref b1), .unset, .unset, .unset, .unset, .unset, .unset, .unset, .unset]) rfl) ?_
  show own_Go p e below _ (T2.setTop (mkF m 11 #[.val (.long xa), .second, .val (.long xb), .second, .val (.long xc), .second, .val (.long xd), .second, .val (.int xe), .val (.ref b1), .unset, .unset, .unset, .unset, .unset, .unset, .unset, .unset] []))
  refine own_by (fun _ => XS.iload X2.here hx rfl (hb hby at_11) rfl) ?_
  show own_Go p e below _ (T2.setTop (mkF m 13 #[.val (.long xa), .second, .val (.long xb), .second, .val (.long xc), .second, .val (.long xd), .second, .val (.int xe), .val (.ref b1), .unset, .unset, .unset, .unset, .unset, .unset, .unset, .unset] [(.int xe)]))
  refine own_by (fun _ => XS.iconst X2.here hx rfl (hb hby at_13)) ?_
  show own_Go p e below _ (T2.setTop (mkF m 14 #[.val (.long xa), .second, .val (.long xb), .second, .val (.long xc), .second, .val (.long xd), .second, .val (.int xe), .val (.ref b1), .unset, .unset, .unset, .unset, .unset, .unset, .unset, .unset] [(.int (3 : Int32)), (.int xe)]))
  refine own_by (fun _ => XS.iand X2.here hx rfl (hb hby at_14) rfl) ?_
  show own_Go p e below _ (T2.setTop (mkF m 15 #[.val (.long xa), .second, .val (.long xb), .second, .val (.long xc), .second, .val (.long xd), .second, .val (.int xe), .val (.ref b1), .unset, .unset, .unset, .unset, .unset, .unset, .unset, .unset] [(.int (xe &&& (3 : Int32)))]))
  refine own_by (fun _ => XS.istore X2.here hx rfl (hb hby at_15) rfl (l' := #[.val (.long xa), .second, .val (.long xb), .second, .val (.long xc), .second, .val (.long xd), .second, .val (.int xe), .val (.ref b1), .val (.int (xe &&& (3 : Int32))), .unset, .unset, .unset, .unset, .unset, .unset, .unset]) rfl) ?_
  show own_Go p e below _ (T2.setTop (mkF m 17 #[.val (.long xa), .second, .val (.long xb), .second, .val (.long xc), .second, .val (.long xd), .second, .val (.int xe), .val (.ref b1), .val (.int (xe &&& (3 : Int32))), .unset, .unset, .unset, .unset, .unset, .unset, .unset] []))
  refine own_by (fun _ => XS.iload X2.here hx rfl (hb hby at_17) rfl) ?_
  show own_Go p e below _ (T2.setTop (mkF m 19 #[.val (.long xa), .second, .val (.long xb), .second, .val (.long xc), .second, .val (.long xd), .second, .val (.int xe), .val (.ref b1), .val (.int (xe &&& (3 : Int32))), .unset, .unset, .unset, .unset, .unset, .unset, .unset] [(.int xe)]))
  refine own_by (fun _ => XS.iconst X2.here hx rfl (hb hby at_19)) ?_
  show own_Go p e below _ (T2.setTop (mkF m 20 #[.val (.long xa), .second, .val (.long xb), .second, .val (.long xc), .second, .val (.long xd), .second, .val (.int xe), .val (.ref b1), .val (.int (xe &&& (3 : Int32))), .unset, .unset, .unset, .unset, .unset, .unset, .unset] [(.int (4 : Int32)), (.int xe)]))
  refine own_by (fun _ => XS.iand X2.here hx rfl (hb hby at_20) rfl) ?_
  show own_Go p e below _ (T2.setTop (mkF m 21 #[.val (.long xa), .second, .val (.long xb), .second, .val (.long xc), .second, .val (.long xd), .second, .val (.int xe), .val (.ref b1), .val (.int (xe &&& (3 : Int32))), .unset, .unset, .unset, .unset, .unset, .unset, .unset] [(.int (xe &&& (4 : Int32)))]))
  suffices J3 : ∀ (T' : State) (v3_t0 : Int64), v3_t0 = (if (xe &&& (4 : Int32)) = (0 : Int32) then xc else xa) → own_At p l e room_1 s m #[(.long xa), (.long xb), (.long xc), (.long xd), (.int xe)] below meth c n0 T' T2.heap 1 2 → own_Go p e below (own_End s below (own_Q0 Z xa xb xc xd xe h0 n0) room_1.cells room_1.slots) (T'.setTop (mkF m 30 #[.val (.long xa), .second, .val (.long xb), .second, .val (.long xc), .second, .val (.long xd), .second, .val (.int xe), .val (.ref b1), .val (.int (xe &&& (3 : Int32))), .unset, .unset, .unset, .unset, .unset, .unset, .unset] [(.long v3_t0)])) by
    by_cases hc21_4 : (xe &&& (4 : Int32)) = (0 : Int32)
    ·
      skip
      refine own_by (fun _ => XS.ifYes X2.here hx rfl (pc0 := 21) (pc' := 28) rfl (hb hby at_21) rfl ((if0 _ _).trans (teq hc21_4).1) (by decide) (by decide)) ?_
      show own_Go p e below _ (T2.setTop (mkF m 28 #[.val (.long xa), .second, .val (.long xb), .second, .val (.long xc), .second, .val (.long xd), .second, .val (.int xe), .val (.ref b1), .val (.int (xe &&& (3 : Int32))), .unset, .unset, .unset, .unset, .unset, .unset, .unset] []))
      refine own_by (fun _ => XS.lload X2.here hx rfl (hb hby at_28) rfl) ?_
      show own_Go p e below _ (T2.setTop (mkF m 30 #[.val (.long xa), .second, .val (.long xb), .second, .val (.long xc), .second, .val (.long xd), .second, .val (.int xe), .val (.ref b1), .val (.int (xe &&& (3 : Int32))), .unset, .unset, .unset, .unset, .unset, .unset, .unset] [(.long xc)]))
      exact J3 _ _ (by first | rfl | simp only [if_pos hc21_4]) ⟨_, X2, N2, rfl⟩
    ·
      skip
      refine own_by (fun _ => XS.ifNo X2.here hx rfl (hb hby at_21) rfl ((if0 _ _).trans (feq hc21_4).1)) ?_
      show own_Go p e below _ (T2.setTop (mkF m 24 #[.val (.long xa), .second, .val (.long xb), .second, .val (.long xc), .second, .val (.long xd), .second, .val (.int xe), .val (.ref b1), .val (.int (xe &&& (3 : Int32))), .unset, .unset, .unset, .unset, .unset, .unset, .unset] []))
      refine own_by (fun _ => XS.lloadN X2.here hx rfl (hb hby at_24) rfl) ?_
      show own_Go p e below _ (T2.setTop (mkF m 25 #[.val (.long xa), .second, .val (.long xb), .second, .val (.long xc), .second, .val (.long xd), .second, .val (.int xe), .val (.ref b1), .val (.int (xe &&& (3 : Int32))), .unset, .unset, .unset, .unset, .unset, .unset, .unset] [(.long xa)]))
      refine own_by (fun _ => XS.goto X2.here hx rfl (pc0 := 25) (pc' := 30) rfl (hb hby at_25) (by decide) (by decide)) ?_
      show own_Go p e below _ (T2.setTop (mkF m 30 #[.val (.long xa), .second, .val (.long xb), .second, .val (.long xc), .second, .val (.long xd), .second, .val (.int xe), .val (.ref b1), .val (.int (xe &&& (3 : Int32))), .unset, .unset, .unset, .unset, .unset, .unset, .unset] [(.long xa)]))
      exact J3 _ _ (by first | rfl | simp only [if_neg hc21_4]) ⟨_, X2, N2, rfl⟩
  intro T3 v3_t0 hv3_t0 ⟨locs3, X3, N3, e3⟩
  show own_Go p e below _ (T3.setTop (mkF m 30 #[.val (.long xa), .second, .val (.long xb), .second, .val (.long xc), .second, .val (.long xd), .second, .val (.int xe), .val (.ref b1), .val (.int (xe &&& (3 : Int32))), .unset, .unset, .unset, .unset, .unset, .unset, .unset] [(.long v3_t0)]))
  refine own_by (fun _ => XS.lstore X3.here hx rfl (hb hby at_30) rfl (l' := #[.val (.long xa), .second, .val (.long xb), .second, .val (.long xc), .second, .val (.long xd), .second, .val (.int xe), .val (.ref b1), .val (.int (xe &&& (3 : Int32))), .val (.long v3_t0), .second, .unset, .unset, .unset, .unset, .unset]) rfl) ?_
  show own_Go p e below _ (T3.setTop (mkF m 32 #[.val (.long xa), .second, .val (.long xb), .second, .val (.long xc), .second, .val (.long xd), .second, .val (.int xe), .val (.ref b1), .val (.int (xe &&& (3 : Int32))), .val (.long v3_t0), .second, .unset, .unset, .unset, .unset, .unset] []))
  refine own_by (fun _ => XS.iload X3.here hx rfl (hb hby at_32) rfl) ?_
  show own_Go p e below _ (T3.setTop (mkF m 34 #[.val (.long xa), .second, .val (.long xb), .second, .val (.long xc), .second, .val (.long xd), .second, .val (.int xe), .val (.ref b1), .val (.int (xe &&& (3 : Int32))), .val (.long v3_t0), .second, .unset, .unset, .unset, .unset, .unset] [(.int xe)]))
  refine own_by (fun _ => XS.bipush X3.here hx rfl (hb hby at_34)) ?_
  show own_Go p e below _ (T3.setTop (mkF m 36 #[.val (.long xa), .second, .val (.long xb), .second, .val (.long xc), .second, .val (.long xd), .second, .val (.int xe), .val (.ref b1), .val (.int (xe &&& (3 : Int32))), .val (.long v3_t0), .second, .unset, .unset, .unset, .unset, .unset] [(.int (8 : Int32)), (.int xe)]))
  refine own_by (fun _ => XS.iand X3.here hx rfl (hb hby at_36) rfl) ?_
  show own_Go p e below _ (T3.setTop (mkF m 37 #[.val (.long xa), .second, .val (.long xb), .second, .val (.long xc), .second, .val (.long xd), .second, .val (.int xe), .val (.ref b1), .val (.int (xe &&& (3 : Int32))), .val (.long v3_t0), .second, .unset, .unset, .unset, .unset, .unset] [(.int (xe &&& (8 : Int32)))]))
  suffices J5 : ∀ (T' : State) (v5_t0 : Int64), v5_t0 = (if (xe &&& (8 : Int32)) = (0 : Int32) then xd else xb) → own_At p l e room_1 s m #[(.long xa), (.long xb), (.long xc), (.long xd), (.int xe)] below meth c n0 T' T2.heap 1 2 → own_Go p e below (own_End s below (own_Q0 Z xa xb xc xd xe h0 n0) room_1.cells room_1.slots) (T'.setTop (mkF m 46 #[.val (.long xa), .second, .val (.long xb), .second, .val (.long xc), .second, .val (.long xd), .second, .val (.int xe), .val (.ref b1), .val (.int (xe &&& (3 : Int32))), .val (.long v3_t0), .second, .unset, .unset, .unset, .unset, .unset] [(.long v5_t0)])) by
    by_cases hc37_6 : (xe &&& (8 : Int32)) = (0 : Int32)
    ·
      skip
      refine own_by (fun _ => XS.ifYes X3.here hx rfl (pc0 := 37) (pc' := 44) rfl (hb hby at_37) rfl ((if0 _ _).trans (teq hc37_6).1) (by decide) (by decide)) ?_
      show own_Go p e below _ (T3.setTop (mkF m 44 #[.val (.long xa), .second, .val (.long xb), .second, .val (.long xc), .second, .val (.long xd), .second, .val (.int xe), .val (.ref b1), .val (.int (xe &&& (3 : Int32))), .val (.long v3_t0), .second, .unset, .unset, .unset, .unset, .unset] []))
      refine own_by (fun _ => XS.lload X3.here hx rfl (hb hby at_44) rfl) ?_
      show own_Go p e below _ (T3.setTop (mkF m 46 #[.val (.long xa), .second, .val (.long xb), .second, .val (.long xc), .second, .val (.long xd), .second, .val (.int xe), .val (.ref b1), .val (.int (xe &&& (3 : Int32))), .val (.long v3_t0), .second, .unset, .unset, .unset, .unset, .unset] [(.long xd)]))
      exact J5 _ _ (by first | rfl | simp only [if_pos hc37_6]) ⟨_, X3, N3, e3⟩
    ·
      skip
      refine own_by (fun _ => XS.ifNo X3.here hx rfl (hb hby at_37) rfl ((if0 _ _).trans (feq hc37_6).1)) ?_
      show own_Go p e below _ (T3.setTop (mkF m 40 #[.val (.long xa), .second, .val (.long xb), .second, .val (.long xc), .second, .val (.long xd), .second, .val (.int xe), .val (.ref b1), .val (.int (xe &&& (3 : Int32))), .val (.long v3_t0), .second, .unset, .unset, .unset, .unset, .unset] []))
      refine own_by (fun _ => XS.lloadN X3.here hx rfl (hb hby at_40) rfl) ?_
      show own_Go p e below _ (T3.setTop (mkF m 41 #[.val (.long xa), .second, .val (.long xb), .second, .val (.long xc), .second, .val (.long xd), .second, .val (.int xe), .val (.ref b1), .val (.int (xe &&& (3 : Int32))), .val (.long v3_t0), .second, .unset, .unset, .unset, .unset, .unset] [(.long xb)]))
      refine own_by (fun _ => XS.goto X3.here hx rfl (pc0 := 41) (pc' := 46) rfl (hb hby at_41) (by decide) (by decide)) ?_
      show own_Go p e below _ (T3.setTop (mkF m 46 #[.val (.long xa), .second, .val (.long xb), .second, .val (.long xc), .second, .val (.long xd), .second, .val (.int xe), .val (.ref b1), .val (.int (xe &&& (3 : Int32))), .val (.long v3_t0), .second, .unset, .unset, .unset, .unset, .unset] [(.long xb)]))
      exact J5 _ _ (by first | rfl | simp only [if_neg hc37_6]) ⟨_, X3, N3, e3⟩
  intro T5 v5_t0 hv5_t0 ⟨locs5, X5, N5, e5⟩
  show own_Go p e below _ (T5.setTop (mkF m 46 #[.val (.long xa), .second, .val (.long xb), .second, .val (.long xc), .second, .val (.long xd), .second, .val (.int xe), .val (.ref b1), .val (.int (xe &&& (3 : Int32))), .val (.long v3_t0), .second, .unset, .unset, .unset, .unset, .unset] [(.long v5_t0)]))
  refine own_by (fun _ => XS.lstore X5.here hx rfl (hb hby at_46) rfl (l' := #[.val (.long xa), .second, .val (.long xb), .second, .val (.long xc), .second, .val (.long xd), .second, .val (.int xe), .val (.ref b1), .val (.int (xe &&& (3 : Int32))), .val (.long v3_t0), .second, .val (.long v5_t0), .second, .unset, .unset, .unset]) rfl) ?_
  show own_Go p e below _ (T5.setTop (mkF m 48 #[.val (.long xa), .second, .val (.long xb), .second, .val (.long xc), .second, .val (.long xd), .second, .val (.int xe), .val (.ref b1), .val (.int (xe &&& (3 : Int32))), .val (.long v3_t0), .second, .val (.long v5_t0), .second, .unset, .unset, .unset] []))
  obtain ⟨T7, h7, X7, e7, E7, A7, D7, -, st7⟩ := newO X5 hx hZ hown (hw _ (List.mem_of_getElem? (i := 0) rfl)) (hw _ (List.mem_of_getElem? (i := 1) rfl)) (hw _ (List.mem_of_getElem? (i := 2) rfl)) e5 (g := (mkF m 48 #[.val (.long xa), .second, .val (.long xb), .second, .val (.long xc), .second, .val (.long xd), .second, .val (.int xe), .val (.ref b1), .val (.int (xe &&& (3 : Int32))), .val (.long v3_t0), .second, .val (.long v5_t0), .second, .unset, .unset, .unset] [])) rfl (hb hby at_48) (by decide) (by decide)
  obtain ⟨b7, g7⟩ : ∃ z, z = T2.heap.size := ⟨_, rfl⟩
  rw [← g7] at A7 D7 st7
  refine own_by st7 ?_
  have ge7 : n0 ≤ b7 := Nat.le_trans z2 (Nat.le_of_eq g7.symm)
  have f8 : Exa Z T2.heap b1 "com/example/mirrorline/mirrorline/store/Head" := (A1.keep Kc2)
  have ne7_b1 : b1 ≠ b7 := Nat.ne_of_lt (Nat.lt_of_lt_of_le f8.lt (Nat.le_of_eq g7.symm))
  have z7 : n0 ≤ h7.size := Nat.le_trans z2 E7.1
  have fz7_first : Fld Z h7 b7 "com/example/mirrorline/mirrorline/store/Head" "first" "J" (.long (0 : Int64)) := D7 (Or.inr (hw _ (List.mem_of_getElem? (i := 15) rfl))) (ty := .long) (by decide)
  have fz7_resets : Fld Z h7 b7 "com/example/mirrorline/mirrorline/store/Head" "resets" "J" (.long (0 : Int64)) := D7 (Or.inr (hw _ (List.mem_of_getElem? (i := 17) rfl))) (ty := .long) (by decide)
  show own_Go p e below _ (T7.setTop (mkF m 51 #[.val (.long xa), .second, .val (.long xb), .second, .val (.long xc), .second, .val (.long xd), .second, .val (.int xe), .val (.ref b1), .val (.int (xe &&& (3 : Int32))), .val (.long v3_t0), .second, .val (.long v5_t0), .second, .unset, .unset, .unset] [(.ref b7)]))
  refine own_by (fun _ => XS.dup X7.here hx rfl (hb hby at_51) rfl rfl) ?_
  show own_Go p e below _ (T7.setTop (mkF m 52 #[.val (.long xa), .second, .val (.long xb), .second, .val (.long xc), .second, .val (.long xd), .second, .val (.int xe), .val (.ref b1), .val (.int (xe &&& (3 : Int32))), .val (.long v3_t0), .second, .val (.long v5_t0), .second, .unset, .unset, .unset] [(.ref b7), (.ref b7)]))
  refine own_by (fun _ => XS.lload X7.here hx rfl (hb hby at_52) rfl) ?_
  show own_Go p e below _ (T7.setTop (mkF m 54 #[.val (.long xa), .second, .val (.long xb), .second, .val (.long xc), .second, .val (.long xd), .second, .val (.int xe), .val (.ref b1), .val (.int (xe &&& (3 : Int32))), .val (.long v3_t0), .second, .val (.long v5_t0), .second, .unset, .unset, .unset] [(.long v3_t0), (.ref b7), (.ref b7)]))
  refine own_by (fun _ => XS.lload X7.here hx rfl (hb hby at_54) rfl) ?_
  show own_Go p e below _ (T7.setTop (mkF m 56 #[.val (.long xa), .second, .val (.long xb), .second, .val (.long xc), .second, .val (.long xd), .second, .val (.int xe), .val (.ref b1), .val (.int (xe &&& (3 : Int32))), .val (.long v3_t0), .second, .val (.long v5_t0), .second, .unset, .unset, .unset] [(.long v5_t0), (.long v3_t0), (.ref b7), (.ref b7)]))
  obtain ⟨_, _, ⟨T9, L9, k9, n9⟩, -, X9, ⟨Lc9, hQ9, l9, y9, z9'⟩, st9⟩ := X7.specialBack hx (y := (⟨"com/example/mirrorline/mirrorline/store/Head", "<init>", "(JJ)V"⟩ : MethodName)) rfl hown (mvT hZ (hw _ (List.mem_of_getElem? (i := 3) rfl))) (mvT hZ (hw _ (List.mem_of_getElem? (i := 4) rfl))) (mvT hZ (hw _ (List.mem_of_getElem? (i := 5) rfl))) (by decide) (backOf (W := 1) (own_rm1 l Z a0 hw [] b7 v3_t0 v5_t0 (0 : Int64) (0 : Int64) h7 n0 z7 A7 fz7_first fz7_resets ge7) hZ (hw _ (List.mem_of_getElem? (i := 5) rfl)) (hw _ (List.mem_of_getElem? (i := 2) rfl)) (by decide) (by decide)) (g := (mkF m 56 #[.val (.long xa), .second, .val (.long xb), .second, .val (.long xc), .second, .val (.long xd), .second, .val (.int xe), .val (.ref b1), .val (.int (xe &&& (3 : Int32))), .val (.long v3_t0), .second, .val (.long v5_t0), .second, .unset, .unset, .unset] [(.long v5_t0), (.long v3_t0), (.ref b7), (.ref b7)])) rfl (by rw [hml]; rfl) (Steps.refl _) (a := b7) (argsL := [(.long v3_t0), (.long v5_t0)]) (rest := [(.ref b7)]) (lenOf own_pd2 rfl) rfl (by show 2 * 0 + _ ≤ _; exact Nat.le_of_eq rfl) (hb hby at_56) (fun _ _ => ⟨rfl, e7, (by decide : 2 + 0 ≤ _), (by decide : 4 + 0 ≤ _)⟩)
  dsimp only [Pt.U, Pt.locs, Pt.cells, Pt.slots] at X9 l9 y9 z9' st9 hQ9
  subst l9 y9 z9'
  obtain ⟨rfl, N9q, Kc9, fc9_0, fc9_1⟩ := hQ9
  have N9 := Fr.app N5 N9q
  refine own_tr st9 ?_
  have z9 : n0 ≤ T9.heap.size := Nat.le_trans z7 Kc9.1
  show own_Go p e below _ (T9.setTop (mkF m 59 #[.val (.long xa), .second, .val (.long xb), .second, .val (.long xc), .second, .val (.long xd), .second, .val (.int xe), .val (.ref b1), .val (.int (xe &&& (3 : Int32))), .val (.long v3_t0), .second, .val (.long v5_t0), .second, .unset, .unset, .unset] [(.ref b7)]))
  refine own_by (fun _ => XS.astore X9.here hx rfl (hb hby at_59) rfl rfl (l' := #[.val (.long xa), .second, .val (.long xb), .second, .val (.long xc), .second, .val (.long xd), .second, .val (.int xe), .val (.ref b1), .val (.int (xe &&& (3 : Int32))), .val (.long v3_t0), .second, .val (.long v5_t0), .second, .val (.ref b7), .unset, .unset]) rfl) ?_
  show own_Go p e below _ (T9.setTop (mkF m 61 #[.val (.long xa), .second, .val (.long xb), .second, .val (.long xc), .second, .val (.long xd), .second, .val (.int xe), .val (.ref b1), .val (.int (xe &&& (3 : Int32))), .val (.long v3_t0), .second, .val (.long v5_t0), .second, .val (.ref b7), .unset, .unset] []))
  refine own_by (fun _ => XS.iload X9.here hx rfl (hb hby at_61) rfl) ?_
  show own_Go p e below _ (T9.setTop (mkF m 63 #[.val (.long xa), .second, .val (.long xb), .second, .val (.long xc), .second, .val (.long xd), .second, .val (.int xe), .val (.ref b1), .val (.int (xe &&& (3 : Int32))), .val (.long v3_t0), .second, .val (.long v5_t0), .second, .val (.ref b7), .unset, .unset] [(.int (xe &&& (3 : Int32)))]))
  by_cases hc63_10 : (xe &&& (3 : Int32)) = (0 : Int32)
  ·
    skip
    refine own_by (fun _ => XS.ifNo X9.here hx rfl (hb hby at_63) rfl ((if0 _ _).trans (teq hc63_10).2)) ?_
    show own_Go p e below _ (T9.setTop (mkF m 66 #[.val (.long xa), .second, .val (.long xb), .second, .val (.long xc), .second, .val (.long xd), .second, .val (.int xe), .val (.ref b1), .val (.int (xe &&& (3 : Int32))), .val (.long v3_t0), .second, .val (.long v5_t0), .second, .val (.ref b7), .unset, .unset] []))
    refine own_by (fun _ => XS.aconstNull X9.here hx rfl (hb hby at_66)) ?_
    show own_Go p e below _ (T9.setTop (mkF m 67 #[.val (.long xa), .second, .val (.long xb), .second, .val (.long xc), .second, .val (.long xd), .second, .val (.int xe), .val (.ref b1), .val (.int (xe &&& (3 : Int32))), .val (.long v3_t0), .second, .val (.long v5_t0), .second, .val (.ref b7), .unset, .unset] [.null]))
    refine own_by (fun _ => XS.astore X9.here hx rfl (hb hby at_67) rfl rfl (l' := #[.val (.long xa), .second, .val (.long xb), .second, .val (.long xc), .second, .val (.long xd), .second, .val (.int xe), .val (.ref b1), .val (.int (xe &&& (3 : Int32))), .val (.long v3_t0), .second, .val (.long v5_t0), .second, .val (.ref b7), .val .null, .unset]) rfl) ?_
    show own_Go p e below _ (T9.setTop (mkF m 69 #[.val (.long xa), .second, .val (.long xb), .second, .val (.long xc), .second, .val (.long xd), .second, .val (.int xe), .val (.ref b1), .val (.int (xe &&& (3 : Int32))), .val (.long v3_t0), .second, .val (.long v5_t0), .second, .val (.ref b7), .val .null, .unset] []))
    refine own_by (fun _ => XS.iconst X9.here hx rfl (hb hby at_69)) ?_
    show own_Go p e below _ (T9.setTop (mkF m 70 #[.val (.long xa), .second, .val (.long xb), .second, .val (.long xc), .second, .val (.long xd), .second, .val (.int xe), .val (.ref b1), .val (.int (xe &&& (3 : Int32))), .val (.long v3_t0), .second, .val (.long v5_t0), .second, .val (.ref b7), .val .null, .unset] [(.int (0 : Int32))]))
    refine own_by (fun _ => XS.istore X9.here hx rfl (hb hby at_70) rfl (l' := #[.val (.long xa), .second, .val (.long xb), .second, .val (.long xc), .second, .val (.long xd), .second, .val (.int xe), .val (.ref b1), .val (.int (xe &&& (3 : Int32))), .val (.long v3_t0), .second, .val (.long v5_t0), .second, .val (.ref b7), .val .null, .val (.int (0 : Int32))]) rfl) ?_
    show own_Go p e below _ (T9.setTop (mkF m 72 #[.val (.long xa), .second, .val (.long xb), .second, .val (.long xc), .second, .val (.long xd), .second, .val (.int xe), .val (.ref b1), .val (.int (xe &&& (3 : Int32))), .val (.long v3_t0), .second, .val (.long v5_t0), .second, .val (.ref b7), .val .null, .val (.int (0 : Int32))] []))
    refine own_by (fun _ => XS.goto X9.here hx rfl (pc0 := 72) (pc' := 118) rfl (hb hby at_72) (by decide) (by decide)) ?_
    show own_Go p e below _ (T9.setTop (mkF m 118 #[.val (.long xa), .second, .val (.long xb), .second, .val (.long xc), .second, .val (.long xd), .second, .val (.int xe), .val (.ref b1), .val (.int (xe &&& (3 : Int32))), .val (.long v3_t0), .second, .val (.long v5_t0), .second, .val (.ref b7), .val .null, .val (.int (0 : Int32))] []))
    refine own_by (fun _ => XS.aload X9.here hx rfl (hb hby at_118) rfl rfl) ?_
    show own_Go p e below _ (T9.setTop (mkF m 120 #[.val (.long xa), .second, .val (.long xb), .second, .val (.long xc), .second, .val (.long xd), .second, .val (.int xe), .val (.ref b1), .val (.int (xe &&& (3 : Int32))), .val (.long v3_t0), .second, .val (.long v5_t0), .second, .val (.ref b7), .val .null, .val (.int (0 : Int32))] [(.ref b1)]))
    refine own_by (fun _ => XS.aload X9.here hx rfl (hb hby at_120) rfl rfl) ?_
    show own_Go p e below _ (T9.setTop (mkF m 122 #[.val (.long xa), .second, .val (.long xb), .second, .val (.long xc), .second, .val (.long xd), .second, .val (.int xe), .val (.ref b1), .val (.int (xe &&& (3 : Int32))), .val (.long v3_t0), .second, .val (.long v5_t0), .second, .val (.ref b7), .val .null, .val (.int (0 : Int32))] [.null, (.ref b1)]))
    have f12 : Exa Z T9.heap b1 "com/example/mirrorline/mirrorline/store/Head" := ((f8.ext E7).keep Kc9)
    obtain ⟨cq11, kq11, q11a, q11b, q11c⟩ := isOf hZ rfl f12
    obtain ⟨_, _, ⟨T11, L11, k11, n11⟩, -, X11, ⟨Lc11, hQ11, l11, y11, z11'⟩, st11⟩ := X9.virtualBack hx (y := (⟨"com/example/mirrorline/mirrorline/store/Head", "equals", "(Ljava/lang/Object;)Z"⟩ : MethodName)) (z := (⟨"com/example/mirrorline/mirrorline/store/Head", "equals", "(Ljava/lang/Object;)Z"⟩ : MethodName)) hown (mvT hZ (hw _ (List.mem_of_getElem? (i := 18) rfl))) (mvT hZ (hw _ (List.mem_of_getElem? (i := 19) rfl))) (notFace_of_selects (args := #[]) (mvT hZ (hw _ (List.mem_of_getElem? (i := 21) rfl)))) (mvT hZ (hw _ (List.mem_of_getElem? (i := 21) rfl))) (mvT hZ (hw _ (List.mem_of_getElem? (i := 20) rfl))) (by decide) (backOf (W := 0) (own_rm4_n l Z a0 hw [] b1 T9.heap n0 z9 ) hZ (hw _ (List.mem_of_getElem? (i := 22) rfl)) (hw _ (List.mem_of_getElem? (i := 2) rfl)) (by decide) (by decide)) q11a q11c (g := (mkF m 122 #[.val (.long xa), .second, .val (.long xb), .second, .val (.long xc), .second, .val (.long xd), .second, .val (.int xe), .val (.ref b1), .val (.int (xe &&& (3 : Int32))), .val (.long v3_t0), .second, .val (.long v5_t0), .second, .val (.ref b7), .val .null, .val (.int (0 : Int32))] [.null, (.ref b1)])) rfl (by rw [hml]; rfl) (Steps.refl _) (argsL := [.null]) (rest := []) (lenOf own_pd3 rfl) rfl (by show 2 * 0 + _ ≤ _; exact Nat.le_of_eq rfl) (hb hby at_122) (fun _ _ => ⟨rfl, rfl, (by decide : 2 + 0 ≤ _), (by decide : 4 + 0 ≤ _)⟩)
    dsimp only [Pt.U, Pt.locs, Pt.cells, Pt.slots] at X11 l11 y11 z11' st11 hQ11
    subst l11 y11 z11'
    obtain ⟨rfl, N11q, e11⟩ := hQ11
    have N11 := Fr.app N9 N11q
    refine own_tr st11 ?_
    show own_Go p e below _ (T11.setTop (mkF m 125 #[.val (.long xa), .second, .val (.long xb), .second, .val (.long xc), .second, .val (.long xd), .second, .val (.int xe), .val (.ref b1), .val (.int (xe &&& (3 : Int32))), .val (.long v3_t0), .second, .val (.long v5_t0), .second, .val (.ref b7), .val .null, .val (.int (0 : Int32))] [(.int (0 : Int32))]))
    refine own_by (fun _ => XS.iload X11.here hx rfl (hb hby at_125) rfl) ?_
    show own_Go p e below _ (T11.setTop (mkF m 127 #[.val (.long xa), .second, .val (.long xb), .second, .val (.long xc), .second, .val (.long xd), .second, .val (.int xe), .val (.ref b1), .val (.int (xe &&& (3 : Int32))), .val (.long v3_t0), .second, .val (.long v5_t0), .second, .val (.ref b7), .val .null, .val (.int (0 : Int32))] [(.int (0 : Int32)), (.int (0 : Int32))]))
    refine own_by (fun _ => XS.icmpNo X11.here hx rfl (hb hby at_127) rfl (teq (by decide : (0 : Int32) = (0 : Int32))).2) ?_
    show own_Go p e below _ (T11.setTop (mkF m 130 #[.val (.long xa), .second, .val (.long xb), .second, .val (.long xc), .second, .val (.long xd), .second, .val (.int xe), .val (.ref b1), .val (.int (xe &&& (3 : Int32))), .val (.long v3_t0), .second, .val (.long v5_t0), .second, .val (.ref b7), .val .null, .val (.int (0 : Int32))] []))
    refine own_by (fun _ => XS.iconst X11.here hx rfl (hb hby at_130)) ?_
    show own_Go p e below _ (T11.setTop (mkF m 131 #[.val (.long xa), .second, .val (.long xb), .second, .val (.long xc), .second, .val (.long xd), .second, .val (.int xe), .val (.ref b1), .val (.int (xe &&& (3 : Int32))), .val (.long v3_t0), .second, .val (.long v5_t0), .second, .val (.ref b7), .val .null, .val (.int (0 : Int32))] [(.int (1 : Int32))]))
    refine own_by (fun _ => XS.goto X11.here hx rfl (pc0 := 131) (pc' := 135) rfl (hb hby at_131) (by decide) (by decide)) ?_
    show own_Go p e below _ (T11.setTop (mkF m 135 #[.val (.long xa), .second, .val (.long xb), .second, .val (.long xc), .second, .val (.long xd), .second, .val (.int xe), .val (.ref b1), .val (.int (xe &&& (3 : Int32))), .val (.long v3_t0), .second, .val (.long v5_t0), .second, .val (.ref b7), .val .null, .val (.int (0 : Int32))] [(.int (1 : Int32))]))
    exact own_retZ X11 hx hlk e11 (by decide) hret (hb hby at_135) (by decide) (by decide) ⟨rfl, N11⟩
  ·
    skip
    refine own_by (fun _ => XS.ifYes X9.here hx rfl (pc0 := 63) (pc' := 75) rfl (hb hby at_63) rfl ((if0 _ _).trans (feq hc63_10).2) (by decide) (by decide)) ?_
    show own_Go p e below _ (T9.setTop (mkF m 75 #[.val (.long xa), .second, .val (.long xb), .second, .val (.long xc), .second, .val (.long xd), .second, .val (.int xe), .val (.ref b1), .val (.int (xe &&& (3 : Int32))), .val (.long v3_t0), .second, .val (.long v5_t0), .second, .val (.ref b7), .unset, .unset] []))
    refine own_by (fun _ => XS.iload X9.here hx rfl (hb hby at_75) rfl) ?_
    show own_Go p e below _ (T9.setTop (mkF m 77 #[.val (.long xa), .second, .val (.long xb), .second, .val (.long xc), .second, .val (.long xd), .second, .val (.int xe), .val (.ref b1), .val (.int (xe &&& (3 : Int32))), .val (.long v3_t0), .second, .val (.long v5_t0), .second, .val (.ref b7), .unset, .unset] [(.int (xe &&& (3 : Int32)))]))
    refine own_by (fun _ => XS.iconst X9.here hx rfl (hb hby at_77)) ?_
    show own_Go p e below _ (T9.setTop (mkF m 78 #[.val (.long xa), .second, .val (.long xb), .second, .val (.long xc), .second, .val (.long xd), .second, .val (.int xe), .val (.ref b1), .val (.int (xe &&& (3 : Int32))), .val (.long v3_t0), .second, .val (.long v5_t0), .second, .val (.ref b7), .unset, .unset] [(.int (1 : Int32)), (.int (xe &&& (3 : Int32)))]))
    by_cases hc78_13 : (xe &&& (3 : Int32)) = (1 : Int32)
    ·
      skip
      refine own_by (fun _ => XS.icmpNo X9.here hx rfl (hb hby at_78) rfl (teq hc78_13).2) ?_
      show own_Go p e below _ (T9.setTop (mkF m 81 #[.val (.long xa), .second, .val (.long xb), .second, .val (.long xc), .second, .val (.long xd), .second, .val (.int xe), .val (.ref b1), .val (.int (xe &&& (3 : Int32))), .val (.long v3_t0), .second, .val (.long v5_t0), .second, .val (.ref b7), .unset, .unset] []))
      refine own_by (fun _ => XS.lloadN X9.here hx rfl (hb hby at_81) rfl) ?_
      show own_Go p e below _ (T9.setTop (mkF m 82 #[.val (.long xa), .second, .val (.long xb), .second, .val (.long xc), .second, .val (.long xd), .second, .val (.int xe), .val (.ref b1), .val (.int (xe &&& (3 : Int32))), .val (.long v3_t0), .second, .val (.long v5_t0), .second, .val (.ref b7), .unset, .unset] [(.long xa)]))
      have f14 : Old Z n0 T9.heap := ((((pf0.ext E1).keep Kc2 (allS ge1 all0)).ext E7).keep Kc9 (allS ge7 all0))
      obtain ⟨_, _, ⟨T15, L15, k15, n15⟩, -, X15, ⟨Lc15, hQ15, l15, y15, z15'⟩, st15⟩ := Jvm.LawKit.callS X9 hx (y := (⟨"java/lang/Long", "valueOf", "(J)Ljava/lang/Long;"⟩ : MethodName)) hown (mvT hZ (hw _ (List.mem_of_getElem? (i := 25) rfl))) (mvT hZ (hw _ (List.mem_of_getElem? (i := 26) rfl))) (mvT hZ (hw _ (List.mem_of_getElem? (i := 27) rfl))) (mvT hZ (hw _ (List.mem_of_getElem? (i := 28) rfl))) (by decide) (backOf (W := 0) (own_rm5 l Z a0 hw [] xa T9.heap n0 z9 f14 hcache) hZ (hw _ (List.mem_of_getElem? (i := 28) rfl)) (hw _ (List.mem_of_getElem? (i := 27) rfl)) (by decide) (by decide)) (g := (mkF m 82 #[.val (.long xa), .second, .val (.long xb), .second, .val (.long xc), .second, .val (.long xd), .second, .val (.int xe), .val (.ref b1), .val (.int (xe &&& (3 : Int32))), .val (.long v3_t0), .second, .val (.long v5_t0), .second, .val (.ref b7), .unset, .unset] [(.long xa)])) rfl (by rw [hml]; rfl) (argsL := [(.long xa)]) (rest := []) (lenOf own_pd4 rfl) rfl (by show 2 * 0 + _ ≤ _; exact Nat.le_of_eq rfl) (hb hby at_82) (fun _ _ => ⟨rfl, rfl, (by decide : 2 + 1 ≤ _), (by decide : 4 + 1 ≤ _)⟩)
      dsimp only [Pt.U, Pt.locs, Pt.cells, Pt.slots] at X15 l15 y15 z15' st15 hQ15
      subst l15 y15 z15'
      obtain ⟨bx_15, rfl, N15q, Kc15, fc15_0⟩ := hQ15
      have N15 := Fr.app N9 N15q
      refine own_by st15 ?_
      have z15 : n0 ≤ T15.heap.size := Nat.le_trans z9 Kc15.1
      show own_Go p e below _ (T15.setTop (mkF m 85 #[.val (.long xa), .second, .val (.long xb), .second, .val (.long xc), .second, .val (.long xd), .second, .val (.int xe), .val (.ref b1), .val (.int (xe &&& (3 : Int32))), .val (.long v3_t0), .second, .val (.long v5_t0), .second, .val (.ref b7), .unset, .unset] [(.ref bx_15)]))
      refine own_by (fun _ => XS.astore X15.here hx rfl (hb hby at_85) rfl rfl (l' := #[.val (.long xa), .second, .val (.long xb), .second, .val (.long xc), .second, .val (.long xd), .second, .val (.int xe), .val (.ref b1), .val (.int (xe &&& (3 : Int32))), .val (.long v3_t0), .second, .val (.long v5_t0), .second, .val (.ref b7), .val (.ref bx_15), .unset]) rfl) ?_
      show own_Go p e below _ (T15.setTop (mkF m 87 #[.val (.long xa), .second, .val (.long xb), .second, .val (.long xc), .second, .val (.long xd), .second, .val (.int xe), .val (.ref b1), .val (.int (xe &&& (3 : Int32))), .val (.long v3_t0), .second, .val (.long v5_t0), .second, .val (.ref b7), .val (.ref bx_15), .unset] []))
      refine own_by (fun _ => XS.iconst X15.here hx rfl (hb hby at_87)) ?_
      show own_Go p e below _ (T15.setTop (mkF m 88 #[.val (.long xa), .second, .val (.long xb), .second, .val (.long xc), .second, .val (.long xd), .second, .val (.int xe), .val (.ref b1), .val (.int (xe &&& (3 : Int32))), .val (.long v3_t0), .second, .val (.long v5_t0), .second, .val (.ref b7), .val (.ref bx_15), .unset] [(.int (0 : Int32))]))
      refine own_by (fun _ => XS.istore X15.here hx rfl (hb hby at_88) rfl (l' := #[.val (.long xa), .second, .val (.long xb), .second, .val (.long xc), .second, .val (.long xd), .second, .val (.int xe), .val (.ref b1), .val (.int (xe &&& (3 : Int32))), .val (.long v3_t0), .second, .val (.long v5_t0), .second, .val (.ref b7), .val (.ref bx_15), .val (.int (0 : Int32))]) rfl) ?_
      show own_Go p e below _ (T15.setTop (mkF m 90 #[.val (.long xa), .second, .val (.long xb), .second, .val (.long xc), .second, .val (.long xd), .second, .val (.int xe), .val (.ref b1), .val (.int (xe &&& (3 : Int32))), .val (.long v3_t0), .second, .val (.long v5_t0), .second, .val (.ref b7), .val (.ref bx_15), .val (.int (0 : Int32))] []))
      refine own_by (fun _ => XS.goto X15.here hx rfl (pc0 := 90) (pc' := 118) rfl (hb hby at_90) (by decide) (by decide)) ?_
      show own_Go p e below _ (T15.setTop (mkF m 118 #[.val (.long xa), .second, .val (.long xb), .second, .val (.long xc), .second, .val (.long xd), .second, .val (.int xe), .val (.ref b1), .val (.int (xe &&& (3 : Int32))), .val (.long v3_t0), .second, .val (.long v5_t0), .second, .val (.ref b7), .val (.ref bx_15), .val (.int (0 : Int32))] []))
      refine own_by (fun _ => XS.aload X15.here hx rfl (hb hby at_118) rfl rfl) ?_
      show own_Go p e below _ (T15.setTop (mkF m 120 #[.val (.long xa), .second, .val (.long xb), .second, .val (.long xc), .second, .val (.long xd), .second, .val (.int xe), .val (.ref b1), .val (.int (xe &&& (3 : Int32))), .val (.long v3_t0), .second, .val (.long v5_t0), .second, .val (.ref b7), .val (.ref bx_15), .val (.int (0 : Int32))] [(.ref b1)]))
      refine own_by (fun _ => XS.aload X15.here hx rfl (hb hby at_120) rfl rfl) ?_
      show own_Go p e below _ (T15.setTop (mkF m 122 #[.val (.long xa), .second, .val (.long xb), .second, .val (.long xc), .second, .val (.long xd), .second, .val (.int xe), .val (.ref b1), .val (.int (xe &&& (3 : Int32))), .val (.long v3_t0), .second, .val (.long v5_t0), .second, .val (.ref b7), .val (.ref bx_15), .val (.int (0 : Int32))] [(.ref bx_15), (.ref b1)]))
      have f17 : Exa Z T15.heap b1 "com/example/mirrorline/mirrorline/store/Head" := (((f8.ext E7).keep Kc9).keep Kc15)
      obtain ⟨cq16, kq16, q16a, q16b, q16c⟩ := isOf hZ rfl f17
      obtain ⟨_, _, ⟨T16, L16, k16, n16⟩, -, X16, ⟨Lc16, hQ16, l16, y16, z16'⟩, st16⟩ := X15.virtualBack hx (y := (⟨"com/example/mirrorline/mirrorline/store/Head", "equals", "(Ljava/lang/Object;)Z"⟩ : MethodName)) (z := (⟨"com/example/mirrorline/mirrorline/store/Head", "equals", "(Ljava/lang/Object;)Z"⟩ : MethodName)) hown (mvT hZ (hw _ (List.mem_of_getElem? (i := 18) rfl))) (mvT hZ (hw _ (List.mem_of_getElem? (i := 19) rfl))) (notFace_of_selects (args := #[]) (mvT hZ (hw _ (List.mem_of_getElem? (i := 21) rfl)))) (mvT hZ (hw _ (List.mem_of_getElem? (i := 21) rfl))) (mvT hZ (hw _ (List.mem_of_getElem? (i := 20) rfl))) (by decide) (backOf (W := 0) (own_rm4_l l Z a0 hw [] b1 bx_15 T15.heap n0 z15 fc15_0) hZ (hw _ (List.mem_of_getElem? (i := 22) rfl)) (hw _ (List.mem_of_getElem? (i := 2) rfl)) (by decide) (by decide)) q16a q16c (g := (mkF m 122 #[.val (.long xa), .second, .val (.long xb), .second, .val (.long xc), .second, .val (.long xd), .second, .val (.int xe), .val (.ref b1), .val (.int (xe &&& (3 : Int32))), .val (.long v3_t0), .second, .val (.long v5_t0), .second, .val (.ref b7), .val (.ref bx_15), .val (.int (0 : Int32))] [(.ref bx_15), (.ref b1)])) rfl (by rw [hml]; rfl) (Steps.refl _) (argsL := [(.ref bx_15)]) (rest := []) (lenOf own_pd3 rfl) rfl (by show 2 * 0 + _ ≤ _; exact Nat.le_of_eq rfl) (hb hby at_122) (fun _ _ => ⟨rfl, rfl, (by decide : 3 + 0 ≤ _), (by decide : 5 + 0 ≤ _)⟩)
      dsimp only [Pt.U, Pt.locs, Pt.cells, Pt.slots] at X16 l16 y16 z16' st16 hQ16
      subst l16 y16 z16'
      obtain ⟨rfl, N16q, e16⟩ := hQ16
      have N16 := Fr.app N15 N16q
      refine own_tr st16 ?_
      show own_Go p e below _ (T16.setTop (mkF m 125 #[.val (.long xa), .second, .val (.long xb), .second, .val (.long xc), .second, .val (.long xd), .second, .val (.int xe), .val (.ref b1), .val (.int (xe &&& (3 : Int32))), .val (.long v3_t0), .second, .val (.long v5_t0), .second, .val (.ref b7), .val (.ref bx_15), .val (.int (0 : Int32))] [(.int (0 : Int32))]))
      refine own_by (fun _ => XS.iload X16.here hx rfl (hb hby at_125) rfl) ?_
      show own_Go p e below _ (T16.setTop (mkF m 127 #[.val (.long xa), .second, .val (.long xb), .second, .val (.long xc), .second, .val (.long xd), .second, .val (.int xe), .val (.ref b1), .val (.int (xe &&& (3 : Int32))), .val (.long v3_t0), .second, .val (.long v5_t0), .second, .val (.ref b7), .val (.ref bx_15), .val (.int (0 : Int32))] [(.int (0 : Int32)), (.int (0 : Int32))]))
      refine own_by (fun _ => XS.icmpNo X16.here hx rfl (hb hby at_127) rfl (teq (by decide : (0 : Int32) = (0 : Int32))).2) ?_
      show own_Go p e below _ (T16.setTop (mkF m 130 #[.val (.long xa), .second, .val (.long xb), .second, .val (.long xc), .second, .val (.long xd), .second, .val (.int xe), .val (.ref b1), .val (.int (xe &&& (3 : Int32))), .val (.long v3_t0), .second, .val (.long v5_t0), .second, .val (.ref b7), .val (.ref bx_15), .val (.int (0 : Int32))] []))
      refine own_by (fun _ => XS.iconst X16.here hx rfl (hb hby at_130)) ?_
      show own_Go p e below _ (T16.setTop (mkF m 131 #[.val (.long xa), .second, .val (.long xb), .second, .val (.long xc), .second, .val (.long xd), .second, .val (.int xe), .val (.ref b1), .val (.int (xe &&& (3 : Int32))), .val (.long v3_t0), .second, .val (.long v5_t0), .second, .val (.ref b7), .val (.ref bx_15), .val (.int (0 : Int32))] [(.int (1 : Int32))]))
      refine own_by (fun _ => XS.goto X16.here hx rfl (pc0 := 131) (pc' := 135) rfl (hb hby at_131) (by decide) (by decide)) ?_
      show own_Go p e below _ (T16.setTop (mkF m 135 #[.val (.long xa), .second, .val (.long xb), .second, .val (.long xc), .second, .val (.long xd), .second, .val (.int xe), .val (.ref b1), .val (.int (xe &&& (3 : Int32))), .val (.long v3_t0), .second, .val (.long v5_t0), .second, .val (.ref b7), .val (.ref bx_15), .val (.int (0 : Int32))] [(.int (1 : Int32))]))
      exact own_retZ X16 hx hlk e16 (by decide) hret (hb hby at_135) (by decide) (by decide) ⟨rfl, N16⟩
    ·
      skip
      refine own_by (fun _ => XS.icmpYes X9.here hx rfl (pc0 := 78) (pc' := 93) rfl (hb hby at_78) rfl (feq hc78_13).2 (by decide) (by decide)) ?_
      show own_Go p e below _ (T9.setTop (mkF m 93 #[.val (.long xa), .second, .val (.long xb), .second, .val (.long xc), .second, .val (.long xd), .second, .val (.int xe), .val (.ref b1), .val (.int (xe &&& (3 : Int32))), .val (.long v3_t0), .second, .val (.long v5_t0), .second, .val (.ref b7), .unset, .unset] []))
      refine own_by (fun _ => XS.aload X9.here hx rfl (hb hby at_93) rfl rfl) ?_
      show own_Go p e below _ (T9.setTop (mkF m 95 #[.val (.long xa), .second, .val (.long xb), .second, .val (.long xc), .second, .val (.long xd), .second, .val (.int xe), .val (.ref b1), .val (.int (xe &&& (3 : Int32))), .val (.long v3_t0), .second, .val (.long v5_t0), .second, .val (.ref b7), .unset, .unset] [(.ref b7)]))
      refine own_by (fun _ => XS.astore X9.here hx rfl (hb hby at_95) rfl rfl (l' := #[.val (.long xa), .second, .val (.long xb), .second, .val (.long xc), .second, .val (.long xd), .second, .val (.int xe), .val (.ref b1), .val (.int (xe &&& (3 : Int32))), .val (.long v3_t0), .second, .val (.long v5_t0), .second, .val (.ref b7), .val (.ref b7), .unset]) rfl) ?_
      show own_Go p e below _ (T9.setTop (mkF m 97 #[.val (.long xa), .second, .val (.long xb), .second, .val (.long xc), .second, .val (.long xd), .second, .val (.int xe), .val (.ref b1), .val (.int (xe &&& (3 : Int32))), .val (.long v3_t0), .second, .val (.long v5_t0), .second, .val (.ref b7), .val (.ref b7), .unset] []))
      refine own_by (fun _ => XS.lload X9.here hx rfl (hb hby at_97) rfl) ?_
      show own_Go p e below _ (T9.setTop (mkF m 99 #[.val (.long xa), .second, .val (.long xb), .second, .val (.long xc), .second, .val (.long xd), .second, .val (.int xe), .val (.ref b1), .val (.int (xe &&& (3 : Int32))), .val (.long v3_t0), .second, .val (.long v5_t0), .second, .val (.ref b7), .val (.ref b7), .unset] [(.long v3_t0)]))
      refine own_by (fun _ => XS.lloadN X9.here hx rfl (hb hby at_99) rfl) ?_
      show own_Go p e below _ (T9.setTop (mkF m 100 #[.val (.long xa), .second, .val (.long xb), .second, .val (.long xc), .second, .val (.long xd), .second, .val (.int xe), .val (.ref b1), .val (.int (xe &&& (3 : Int32))), .val (.long v3_t0), .second, .val (.long v5_t0), .second, .val (.ref b7), .val (.ref b7), .unset] [(.long xa), (.long v3_t0)]))
      refine own_by (fun _ => XS.lcmp X9.here hx rfl (hb hby at_100) rfl) ?_
      show own_Go p e below _ (T9.setTop (mkF m 101 #[.val (.long xa), .second, .val (.long xb), .second, .val (.long xc), .second, .val (.long xd), .second, .val (.int xe), .val (.ref b1), .val (.int (xe &&& (3 : Int32))), .val (.long v3_t0), .second, .val (.long v5_t0), .second, .val (.ref b7), .val (.ref b7), .unset] [(.int (lcmpW v3_t0 xa))]))
      suffices J18 : ∀ (T' : State) (v18_t0 : Int32), v18_t0 = (if v3_t0 = xa then (if v5_t0 = xb then (1 : Int32) else (0 : Int32)) else (0 : Int32)) → own_At p l e room_1 s m #[(.long xa), (.long xb), (.long xc), (.long xd), (.int xe)] below meth c n0 T' T9.heap 2 4 → own_Go p e below (own_End s below (own_Q0 Z xa xb xc xd xe h0 n0) room_1.cells room_1.slots) (T'.setTop (mkF m 116 #[.val (.long xa), .second, .val (.long xb), .second, .val (.long xc), .second, .val (.long xd), .second, .val (.int xe), .val (.ref b1), .val (.int (xe &&& (3 : Int32))), .val (.long v3_t0), .second, .val (.long v5_t0), .second, .val (.ref b7), .val (.ref b7), .unset] [(.int v18_t0)])) by
        by_cases hc101_19 : v3_t0 = xa
        ·
          skip
          refine own_by (fun _ => XS.ifNo X9.here hx rfl (hb hby at_101) rfl ((if0 _ _).trans (teq ((lw_eq _ _).mpr hc101_19)).2)) ?_
          show own_Go p e below _ (T9.setTop (mkF m 104 #[.val (.long xa), .second, .val (.long xb), .second, .val (.long xc), .second, .val (.long xd), .second, .val (.int xe), .val (.ref b1), .val (.int (xe &&& (3 : Int32))), .val (.long v3_t0), .second, .val (.long v5_t0), .second, .val (.ref b7), .val (.ref b7), .unset] []))
          refine own_by (fun _ => XS.lload X9.here hx rfl (hb hby at_104) rfl) ?_
          show own_Go p e below _ (T9.setTop (mkF m 106 #[.val (.long xa), .second, .val (.long xb), .second, .val (.long xc), .second, .val (.long xd), .second, .val (.int xe), .val (.ref b1), .val (.int (xe &&& (3 : Int32))), .val (.long v3_t0), .second, .val (.long v5_t0), .second, .val (.ref b7), .val (.ref b7), .unset] [(.long v5_t0)]))
          refine own_by (fun _ => XS.lloadN X9.here hx rfl (hb hby at_106) rfl) ?_
          show own_Go p e below _ (T9.setTop (mkF m 107 #[.val (.long xa), .second, .val (.long xb), .second, .val (.long xc), .second, .val (.long xd), .second, .val (.int xe), .val (.ref b1), .val (.int (xe &&& (3 : Int32))), .val (.long v3_t0), .second, .val (.long v5_t0), .second, .val (.ref b7), .val (.ref b7), .unset] [(.long xb), (.long v5_t0)]))
          refine own_by (fun _ => XS.lcmp X9.here hx rfl (hb hby at_107) rfl) ?_
          show own_Go p e below _ (T9.setTop (mkF m 108 #[.val (.long xa), .second, .val (.long xb), .second, .val (.long xc), .second, .val (.long xd), .second, .val (.int xe), .val (.ref b1), .val (.int (xe &&& (3 : Int32))), .val (.long v3_t0), .second, .val (.long v5_t0), .second, .val (.ref b7), .val (.ref b7), .unset] [(.int (lcmpW v5_t0 xb))]))
          by_cases hc108_20 : v5_t0 = xb
          ·
            skip
            refine own_by (fun _ => XS.ifNo X9.here hx rfl (hb hby at_108) rfl ((if0 _ _).trans (teq ((lw_eq _ _).mpr hc108_20)).2)) ?_
            show own_Go p e below _ (T9.setTop (mkF m 111 #[.val (.long xa), .second, .val (.long xb), .second, .val (.long xc), .second, .val (.long xd), .second, .val (.int xe), .val (.ref b1), .val (.int (xe &&& (3 : Int32))), .val (.long v3_t0), .second, .val (.long v5_t0), .second, .val (.ref b7), .val (.ref b7), .unset] []))
            refine own_by (fun _ => XS.iconst X9.here hx rfl (hb hby at_111)) ?_
            show own_Go p e below _ (T9.setTop (mkF m 112 #[.val (.long xa), .second, .val (.long xb), .second, .val (.long xc), .second, .val (.long xd), .second, .val (.int xe), .val (.ref b1), .val (.int (xe &&& (3 : Int32))), .val (.long v3_t0), .second, .val (.long v5_t0), .second, .val (.ref b7), .val (.ref b7), .unset] [(.int (1 : Int32))]))
            refine own_by (fun _ => XS.goto X9.here hx rfl (pc0 := 112) (pc' := 116) rfl (hb hby at_112) (by decide) (by decide)) ?_
            show own_Go p e below _ (T9.setTop (mkF m 116 #[.val (.long xa), .second, .val (.long xb), .second, .val (.long xc), .second, .val (.long xd), .second, .val (.int xe), .val (.ref b1), .val (.int (xe &&& (3 : Int32))), .val (.long v3_t0), .second, .val (.long v5_t0), .second, .val (.ref b7), .val (.ref b7), .unset] [(.int (1 : Int32))]))
            exact J18 _ _ (by first | rfl | simp only [if_pos hc101_19, if_pos hc108_20]) ⟨_, X9, N9, rfl⟩
          ·
            skip
            refine own_by (fun _ => XS.ifYes X9.here hx rfl (pc0 := 108) (pc' := 115) rfl (hb hby at_108) rfl ((if0 _ _).trans (feq (mt (lw_eq _ _).mp hc108_20)).2) (by decide) (by decide)) ?_
            show own_Go p e below _ (T9.setTop (mkF m 115 #[.val (.long xa), .second, .val (.long xb), .second, .val (.long xc), .second, .val (.long xd), .second, .val (.int xe), .val (.ref b1), .val (.int (xe &&& (3 : Int32))), .val (.long v3_t0), .second, .val (.long v5_t0), .second, .val (.ref b7), .val (.ref b7), .unset] []))
            refine own_by (fun _ => XS.iconst X9.here hx rfl (hb hby at_115)) ?_
            show own_Go p e below _ (T9.setTop (mkF m 116 #[.val (.long xa), .second, .val (.long xb), .second, .val (.long xc), .second, .val (.long xd), .second, .val (.int xe), .val (.ref b1), .val (.int (xe &&& (3 : Int32))), .val (.long v3_t0), .second, .val (.long v5_t0), .second, .val (.ref b7), .val (.ref b7), .unset] [(.int (0 : Int32))]))
            exact J18 _ _ (by first | rfl | simp only [if_pos hc101_19, if_neg hc108_20]) ⟨_, X9, N9, rfl⟩
        ·
          skip
          refine own_by (fun _ => XS.ifYes X9.here hx rfl (pc0 := 101) (pc' := 115) rfl (hb hby at_101) rfl ((if0 _ _).trans (feq (mt (lw_eq _ _).mp hc101_19)).2) (by decide) (by decide)) ?_
          show own_Go p e below _ (T9.setTop (mkF m 115 #[.val (.long xa), .second, .val (.long xb), .second, .val (.long xc), .second, .val (.long xd), .second, .val (.int xe), .val (.ref b1), .val (.int (xe &&& (3 : Int32))), .val (.long v3_t0), .second, .val (.long v5_t0), .second, .val (.ref b7), .val (.ref b7), .unset] []))
          refine own_by (fun _ => XS.iconst X9.here hx rfl (hb hby at_115)) ?_
          show own_Go p e below _ (T9.setTop (mkF m 116 #[.val (.long xa), .second, .val (.long xb), .second, .val (.long xc), .second, .val (.long xd), .second, .val (.int xe), .val (.ref b1), .val (.int (xe &&& (3 : Int32))), .val (.long v3_t0), .second, .val (.long v5_t0), .second, .val (.ref b7), .val (.ref b7), .unset] [(.int (0 : Int32))]))
          exact J18 _ _ (by first | rfl | simp only [if_neg hc101_19]) ⟨_, X9, N9, rfl⟩
      intro T18 v18_t0 hv18_t0 ⟨locs18, X18, N18, e18⟩
      show own_Go p e below _ (T18.setTop (mkF m 116 #[.val (.long xa), .second, .val (.long xb), .second, .val (.long xc), .second, .val (.long xd), .second, .val (.int xe), .val (.ref b1), .val (.int (xe &&& (3 : Int32))), .val (.long v3_t0), .second, .val (.long v5_t0), .second, .val (.ref b7), .val (.ref b7), .unset] [(.int v18_t0)]))
      refine own_by (fun _ => XS.istore X18.here hx rfl (hb hby at_116) rfl (l' := #[.val (.long xa), .second, .val (.long xb), .second, .val (.long xc), .second, .val (.long xd), .second, .val (.int xe), .val (.ref b1), .val (.int (xe &&& (3 : Int32))), .val (.long v3_t0), .second, .val (.long v5_t0), .second, .val (.ref b7), .val (.ref b7), .val (.int v18_t0)]) rfl) ?_
      show own_Go p e below _ (T18.setTop (mkF m 118 #[.val (.long xa), .second, .val (.long xb), .second, .val (.long xc), .second, .val (.long xd), .second, .val (.int xe), .val (.ref b1), .val (.int (xe &&& (3 : Int32))), .val (.long v3_t0), .second, .val (.long v5_t0), .second, .val (.ref b7), .val (.ref b7), .val (.int v18_t0)] []))
      refine own_by (fun _ => XS.aload X18.here hx rfl (hb hby at_118) rfl rfl) ?_
      show own_Go p e below _ (T18.setTop (mkF m 120 #[.val (.long xa), .second, .val (.long xb), .second, .val (.long xc), .second, .val (.long xd), .second, .val (.int xe), .val (.ref b1), .val (.int (xe &&& (3 : Int32))), .val (.long v3_t0), .second, .val (.long v5_t0), .second, .val (.ref b7), .val (.ref b7), .val (.int v18_t0)] [(.ref b1)]))
      refine own_by (fun _ => XS.aload X18.here hx rfl (hb hby at_120) rfl rfl) ?_
      show own_Go p e below _ (T18.setTop (mkF m 122 #[.val (.long xa), .second, .val (.long xb), .second, .val (.long xc), .second, .val (.long xd), .second, .val (.int xe), .val (.ref b1), .val (.int (xe &&& (3 : Int32))), .val (.long v3_t0), .second, .val (.long v5_t0), .second, .val (.ref b7), .val (.ref b7), .val (.int v18_t0)] [(.ref b7), (.ref b1)]))
      have f21 : Fld Z T9.heap b1 "com/example/mirrorline/mirrorline/store/Head" "first" "J" (.long xa) := ((fc2_0.ext E7).keep Kc9 (ninS ne7_b1 nin0))
      have f22 : Fld Z T9.heap b1 "com/example/mirrorline/mirrorline/store/Head" "resets" "J" (.long xb) := ((fc2_1.ext E7).keep Kc9 (ninS ne7_b1 nin0))
      have f23 : Exa Z T9.heap b7 "com/example/mirrorline/mirrorline/store/Head" := (A7.keep Kc9)
      have f25 : Exa Z T9.heap b1 "com/example/mirrorline/mirrorline/store/Head" := ((f8.ext E7).keep Kc9)
      obtain ⟨cq24, kq24, q24a, q24b, q24c⟩ := isOf hZ e18 f25
      obtain ⟨_, _, ⟨T24, L24, k24, n24⟩, -, X24, ⟨Lc24, hQ24, l24, y24, z24'⟩, st24⟩ := X18.virtualBack hx (y := (⟨"com/example/mirrorline/mirrorline/store/Head", "equals", "(Ljava/lang/Object;)Z"⟩ : MethodName)) (z := (⟨"com/example/mirrorline/mirrorline/store/Head", "equals", "(Ljava/lang/Object;)Z"⟩ : MethodName)) hown (mvT hZ (hw _ (List.mem_of_getElem? (i := 18) rfl))) (mvT hZ (hw _ (List.mem_of_getElem? (i := 19) rfl))) (notFace_of_selects (args := #[]) (mvT hZ (hw _ (List.mem_of_getElem? (i := 21) rfl)))) (mvT hZ (hw _ (List.mem_of_getElem? (i := 21) rfl))) (mvT hZ (hw _ (List.mem_of_getElem? (i := 20) rfl))) (by decide) (backOf (W := 0) (own_rm4_h l Z a0 hw [] b1 b7 xa xb v3_t0 v5_t0 T9.heap n0 z9 f21 f22 fc9_0 fc9_1 f23) hZ (hw _ (List.mem_of_getElem? (i := 22) rfl)) (hw _ (List.mem_of_getElem? (i := 2) rfl)) (by decide) (by decide)) q24a q24c (g := (mkF m 122 #[.val (.long xa), .second, .val (.long xb), .second, .val (.long xc), .second, .val (.long xd), .second, .val (.int xe), .val (.ref b1), .val (.int (xe &&& (3 : Int32))), .val (.long v3_t0), .second, .val (.long v5_t0), .second, .val (.ref b7), .val (.ref b7), .val (.int v18_t0)] [(.ref b7), (.ref b1)])) rfl (by rw [hml]; rfl) (Steps.refl _) (argsL := [(.ref b7)]) (rest := []) (lenOf own_pd3 rfl) rfl (by show 2 * 0 + _ ≤ _; exact Nat.le_of_eq rfl) (hb hby at_122) (fun _ _ => ⟨rfl, e18, (by decide : 2 + 0 ≤ _), (by decide : 4 + 0 ≤ _)⟩)
      dsimp only [Pt.U, Pt.locs, Pt.cells, Pt.slots] at X24 l24 y24 z24' st24 hQ24
      subst l24 y24 z24'
      obtain ⟨rfl, N24q, e24⟩ := hQ24
      have N24 := Fr.app N18 N24q
      refine own_tr st24 ?_
      show own_Go p e below _ (T24.setTop (mkF m 125 #[.val (.long xa), .second, .val (.long xb), .second, .val (.long xc), .second, .val (.long xd), .second, .val (.int xe), .val (.ref b1), .val (.int (xe &&& (3 : Int32))), .val (.long v3_t0), .second, .val (.long v5_t0), .second, .val (.ref b7), .val (.ref b7), .val (.int v18_t0)] [(.int (own_eq xa xb v3_t0 v5_t0))]))
      refine own_by (fun _ => XS.iload X24.here hx rfl (hb hby at_125) rfl) ?_
      show own_Go p e below _ (T24.setTop (mkF m 127 #[.val (.long xa), .second, .val (.long xb), .second, .val (.long xc), .second, .val (.long xd), .second, .val (.int xe), .val (.ref b1), .val (.int (xe &&& (3 : Int32))), .val (.long v3_t0), .second, .val (.long v5_t0), .second, .val (.ref b7), .val (.ref b7), .val (.int v18_t0)] [(.int v18_t0), (.int (own_eq xa xb v3_t0 v5_t0))]))
      suffices J26 : ∀ (T' : State) (v26_t0 : Int32), v26_t0 = (if (own_eq xa xb v3_t0 v5_t0) = v18_t0 then (1 : Int32) else (0 : Int32)) → own_At p l e room_1 s m #[(.long xa), (.long xb), (.long xc), (.long xd), (.int xe)] below meth c n0 T' T9.heap 2 4 → own_Go p e below (own_End s below (own_Q0 Z xa xb xc xd xe h0 n0) room_1.cells room_1.slots) (T'.setTop (mkF m 135 #[.val (.long xa), .second, .val (.long xb), .second, .val (.long xc), .second, .val (.long xd), .second, .val (.int xe), .val (.ref b1), .val (.int (xe &&& (3 : Int32))), .val (.long v3_t0), .second, .val (.long v5_t0), .second, .val (.ref b7), .val (.ref b7), .val (.int v18_t0)] [(.int v26_t0)])) by
        by_cases hc127_27 : (own_eq xa xb v3_t0 v5_t0) = v18_t0
        ·
          skip
          refine own_by (fun _ => XS.icmpNo X24.here hx rfl (hb hby at_127) rfl (teq hc127_27).2) ?_
          show own_Go p e below _ (T24.setTop (mkF m 130 #[.val (.long xa), .second, .val (.long xb), .second, .val (.long xc), .second, .val (.long xd), .second, .val (.int xe), .val (.ref b1), .val (.int (xe &&& (3 : Int32))), .val (.long v3_t0), .second, .val (.long v5_t0), .second, .val (.ref b7), .val (.ref b7), .val (.int v18_t0)] []))
          refine own_by (fun _ => XS.iconst X24.here hx rfl (hb hby at_130)) ?_
          show own_Go p e below _ (T24.setTop (mkF m 131 #[.val (.long xa), .second, .val (.long xb), .second, .val (.long xc), .second, .val (.long xd), .second, .val (.int xe), .val (.ref b1), .val (.int (xe &&& (3 : Int32))), .val (.long v3_t0), .second, .val (.long v5_t0), .second, .val (.ref b7), .val (.ref b7), .val (.int v18_t0)] [(.int (1 : Int32))]))
          refine own_by (fun _ => XS.goto X24.here hx rfl (pc0 := 131) (pc' := 135) rfl (hb hby at_131) (by decide) (by decide)) ?_
          show own_Go p e below _ (T24.setTop (mkF m 135 #[.val (.long xa), .second, .val (.long xb), .second, .val (.long xc), .second, .val (.long xd), .second, .val (.int xe), .val (.ref b1), .val (.int (xe &&& (3 : Int32))), .val (.long v3_t0), .second, .val (.long v5_t0), .second, .val (.ref b7), .val (.ref b7), .val (.int v18_t0)] [(.int (1 : Int32))]))
          exact J26 _ _ (by first | rfl | simp only [if_pos hc127_27]) ⟨_, X24, N24, e24⟩
        ·
          skip
          refine own_by (fun _ => XS.icmpYes X24.here hx rfl (pc0 := 127) (pc' := 134) rfl (hb hby at_127) rfl (feq hc127_27).2 (by decide) (by decide)) ?_
          show own_Go p e below _ (T24.setTop (mkF m 134 #[.val (.long xa), .second, .val (.long xb), .second, .val (.long xc), .second, .val (.long xd), .second, .val (.int xe), .val (.ref b1), .val (.int (xe &&& (3 : Int32))), .val (.long v3_t0), .second, .val (.long v5_t0), .second, .val (.ref b7), .val (.ref b7), .val (.int v18_t0)] []))
          refine own_by (fun _ => XS.iconst X24.here hx rfl (hb hby at_134)) ?_
          show own_Go p e below _ (T24.setTop (mkF m 135 #[.val (.long xa), .second, .val (.long xb), .second, .val (.long xc), .second, .val (.long xd), .second, .val (.int xe), .val (.ref b1), .val (.int (xe &&& (3 : Int32))), .val (.long v3_t0), .second, .val (.long v5_t0), .second, .val (.ref b7), .val (.ref b7), .val (.int v18_t0)] [(.int (0 : Int32))]))
          exact J26 _ _ (by first | rfl | simp only [if_neg hc127_27]) ⟨_, X24, N24, e24⟩
      intro T26 v26_t0 hv26_t0 ⟨locs26, X26, N26, e26⟩
      show own_Go p e below _ (T26.setTop (mkF m 135 #[.val (.long xa), .second, .val (.long xb), .second, .val (.long xc), .second, .val (.long xd), .second, .val (.int xe), .val (.ref b1), .val (.int (xe &&& (3 : Int32))), .val (.long v3_t0), .second, .val (.long v5_t0), .second, .val (.ref b7), .val (.ref b7), .val (.int v18_t0)] [(.int v26_t0)]))
      exact own_retZ X26 hx hlk e26 (by rw [hv26_t0]; (repeat' split) <;> first | exact Or.inl rfl | exact Or.inr rfl) hret (hb hby at_135) (by decide) (by decide) ⟨(congrArg some (congrArg Value.int (by subst hv26_t0; subst hv18_t0; subst hv5_t0; subst hv3_t0; have own_p := own_plain xa xb xc xd xe; simp only [own_law, if_neg hc63_10, if_neg hc78_13] at own_p; exact own_p : v26_t0 = (1 : Int32)))), N26⟩


theorem own_cache_of {s : State} {args : Array Value} (hf : Fit s) (w0 : (Jvm.Cond.laysStatic "java/lang/Long$LongCache" "cache" "[Ljava/lang/Long;").before args s = true) (w1 : (Jvm.Cond.initializedFor "java/lang/Long$LongCache" "cache" "[Ljava/lang/Long;").before args s = true)
    (w2 : (Jvm.Cond.arrayOf (Jvm.Term.static "java/lang/Long$LongCache" "cache" "[Ljava/lang/Long;") (Jvm.ClassFile.FieldType.object "java/lang/Long")).before args s = true)
    (w4 : (Jvm.Cond.eq (Jvm.Term.length (Jvm.Term.static "java/lang/Long$LongCache" "cache" "[Ljava/lang/Long;")) (Jvm.Term.int (256 : Int32))).before args s = true)
    (w5 : (Jvm.Cond.all (Jvm.Term.static "java/lang/Long$LongCache" "cache" "[Ljava/lang/Long;") (Jvm.Cond.and (Jvm.Cond.exactly (Jvm.Term.elem (Jvm.Term.static "java/lang/Long$LongCache" "cache" "[Ljava/lang/Long;") (Jvm.Term.index (0 : Nat))) "java/lang/Long") (Jvm.Cond.eq (Jvm.Term.field (Jvm.Term.elem (Jvm.Term.static "java/lang/Long$LongCache" "cache" "[Ljava/lang/Long;") (Jvm.Term.index (0 : Nat))) "java/lang/Long" "value" "J") (Jvm.Term.op1 Jvm.Unary.i2l (Jvm.Term.sub (Jvm.Term.index (0 : Nat)) (Jvm.Term.int (128 : Int32))))))).before args s = true) : own_Cache s := by
  have v2 := Cond.before_iff.mp w2
  have v4 := Cond.before_iff.mp w4
  have v5 := Cond.before_iff.mp w5
  obtain ⟨ca, ev⟩ := arr_v v2
  obtain ⟨cl, A⟩ := Arr.start ev v2
  have S := Sta.start ev (Or.inl w1)
  have hA : s.arrayAt? ca = some cl := IntBox.arrayAt_of A.1 A.2.1 A.2.2
  have hsz : cl.slots.size = 256 := by
    by_cases hl : cl.slots.size < 2 ^ 31
    · have el := len_f ev hA hl
      have ei : (Jvm.Term.int (256 : Int32)).eval args s none [] s = some (.int 256) := rfl
      simp only [Cond.value, el, ei] at v4
      have q : cl.slots.size.toInt32 = 256 := by simpa using v4
      have t := len_toInt hl
      rw [q] at t
      have k : (256 : Int32).toInt = 256 := by decide
      omega
    · have hl' : ¬ cl.slots.size < 2147483648 := hl
      exfalso
      simp [Cond.value, Term.eval, hA, hl'] at v4
      simp [Term.eval] at ev
      simp [ev, hA, hl'] at v4
  refine ⟨ca, cl, S, A, hsz, fun i hi => ?_⟩
  obtain ⟨e1, -⟩ := and_e (Jvm.Example.Scan.all_true ev hA v5 i (by rw [hsz]; exact hi))
  obtain ⟨r, hr⟩ := exa_v e1
  have ev' : (Jvm.Term.static "java/lang/Long$LongCache" "cache" "[Ljava/lang/Long;").eval args s none [i] s = some (.ref ca) := ev
  have hb := idx_in hi (show 256 < 2 ^ 31 by decide)
  have hn : ¬ i.toInt32 < 0 := fun q => hb (Or.inl q)
  have hin : i.toInt32.toNatClampNeg = i := by
    have a := nat_of hn
    have b := len_toInt (n := i) (by omega)
    omega
  have hj : (Jvm.Term.index (0 : Nat)).eval args s none [i] s = some (.int i.toInt32) := by
    have z := idx_at (args := args) (s := s) (first := s) (o := none) hn
    rw [hin] at z
    exact z
  obtain ⟨-, g⟩ := elem_in hr ev' hj A.1
  rw [hin] at g
  exact ⟨r, g, exa_at hr e1⟩

theorem own_comes {Post : Tables → Env → Array Value → State → Outcome → State → Prop} (hpost : ∀ tb e args s v u, (limb_1_1.after args s (.returned v) u = true ∧ limb_1_2.after args s (.returned v) u = true ∧ True) → FrameEnd s (.returned v) u (Jvm.fieldLocs frame_1_writes args s ++ Jvm.arrayLocs frame_1_arrays args s ++ Jvm.staticLocs frame_1_statics s) 16 128 → Post tb e args s (.returned v) u) :
    ArmFor flags0 classFile x code maxLocals ret World_1 tables_1 room_1 Calls_1 rest_1 Pre_1 Post := by
  intro l hfl _ _ p e ha hc hk s m args below hf hA hF happ hP
  obtain ⟨hcalls, hrest, hpre⟩ := hP
  obtain ⟨-, -, -, hnamed, -, -, -, hat⟩ := (Spec.applies_iff hf).mp happ
  obtain ⟨hg, hn⟩ := and_e (Cond.before_iff.mp (show (Jvm.Cond.and given_1 narrow_1).before args s = true from hpre))
  obtain ⟨hg1, hg2⟩ := and_e hg
  obtain ⟨hg3, hg4⟩ := and_e hg2
  obtain ⟨hg5, hg6⟩ := and_e hg4
  obtain ⟨hg7, hg8⟩ := and_e hg6
  obtain ⟨hg9, hg10⟩ := and_e hg8
  obtain ⟨w0, w1, w2, w3, w4, rfl⟩ : ∃ w0 w1 w2 w3 w4 : Value, args = #[w0, w1, w2, w3, w4] := by
    have hs : args.size = 5 := by simpa [Cond.value, given_1] using hg1
    obtain ⟨L⟩ := args
    match L, hs with
    | [w0, w1, w2, w3, w4], _ => exact ⟨w0, w1, w2, w3, w4, rfl⟩
  have hw := fun d (hd : d ∈ tables_1) => atoms_spec (ws := Jvm.Cond.code x code maxLocals ret :: tables_1) hat d (List.mem_cons_of_mem _ hd)
  have hfit : Fit s := fun {y c} hc i hi => by
    obtain ⟨ha, rfl⟩ := Array.getElem?_eq_some_iff.mp hc
    have q := List.all_eq_true.mp ((Array.all_eq_true_iff_forall_mem.mp hF) _ (Array.getElem_mem ha)) i (List.mem_range.mpr hi)
    simpa [Array.getElem?_eq_getElem hi] using q
  obtain ⟨hsets, hown0⟩ := atoms_of _ (rest_1_c_eq ▸ (show rest_1_c.before _ s = true from hrest))
  have hr0 := Cond.before_iff.mp hown0
  obtain ⟨i0, ei0⟩ := isL_v hg3
  obtain rfl : w0 = (.long i0) := Option.some.inj ei0
  obtain ⟨i1, ei1⟩ := isL_v hg5
  obtain rfl : w1 = (.long i1) := Option.some.inj ei1
  obtain ⟨i2, ei2⟩ := isL_v hg7
  obtain rfl : w2 = (.long i2) := Option.some.inj ei2
  obtain ⟨i3, ei3⟩ := isL_v hg9
  obtain rfl : w3 = (.long i3) := Option.some.inj ei3
  obtain ⟨i4, ei4⟩ := is_v hg10
  obtain rfl : w4 = (.int i4) := Option.some.inj ei4
  have hS2 := hsets _ (List.mem_of_getElem? (i := 2) rfl)
  have hcache : own_Cache s := own_cache_of hfit (hsets _ (List.mem_of_getElem? (i := 0) rfl)) (hsets _ (List.mem_of_getElem? (i := 1) rfl)) hS2 (hsets _ (List.mem_of_getElem? (i := 4) rfl)) (hsets _ (List.mem_of_getElem? (i := 5) rfl))
  obtain ⟨n, o, h1, h2, h3, _, L, rfl, ⟨rfl, N⟩, hq⟩ := own_rm0 l s _ hw tables_1 i0 i1 i2 i3 i4 s.heap s.heap.size (Nat.le_refl _) (Old.start s) hcache p e ha hc hk s m _ below hf ((Spec.applies_iff_loose hf).mp happ).1 ⟨rfl, State.Warmed39.refl s, rfl⟩ trivial
  refine ⟨n, _, h1, h2, h3, hpost _ _ _ _ _ _ ⟨Cond.after_iff.mpr rfl, Cond.after_iff.mpr (eq_i res_at (Term.int_eval (1)) rfl), trivial⟩ ⟨hq.1, hq.2.1, (hq.2.2.sift fun y hy => Or.inr (N y hy)).mono (by decide) (by decide)⟩⟩
theorem main_1_1 : Claimed_1_1 := own_comes fun _ _ _ _ _ _ h hF => ⟨h.1, hF⟩
theorem main_1_2 : Claimed_1_2 := own_comes fun _ _ _ _ _ _ h hF => ⟨h.2.1, hF⟩
end Jvm.Pilot.@@N@@
namespace Jvm.Pilot.@@N@@
open Jvm Jvm.ClassFile Sem Op Lib Jvm.Free Jvm.Stand Jvm.Pilot.@@N@@.Jvm.D
/-! MADE BY PROGRAM (witnessworld.py) out of the Statement's table words and the real class files: 17 classes; the members and pool entries that the words name. The judged class is class 1, her method 1. -/
namespace start1
open Jvm.ClassFile
def u (s : String) : CpInfo := .utf8 (stringToUtf16 s)
/-- a pool by its gaps: so many unusable entries, then the entry; so many at the end -/
def gap : Nat → List CpInfo → List CpInfo
  | 0, r => r
  | n + 1, r => .unusable :: gap n r
def poolList (es : List (Nat × CpInfo)) (last : Nat) : List CpInfo := es.foldr (fun e r => gap e.1 (e.2 :: r)) (gap last [])
def pool (es : List (Nat × CpInfo)) (last : Nat) : Array CpInfo := ⟨poolList es last⟩
def fileOf (pool : Array CpInfo) (this : Nat) (attrs : Array Attribute := #[]) (ms : Array MethodInfo := #[]) (fl : Nat := 33) (sup : Nat := 0) (ifs : Array Nat := #[]) (fds : Array FieldInfo := #[]) : ClassFile where
  minorVersion := 0
  majorVersion := 65
  constantPool := pool
  accessFlags := fl
  thisClass := this
  superClass := sup
  interfaces := ifs
  fields := fds
  methods := ms
  attributes := attrs
def plain (name : String) (sup : Option ClassId) : Class where
  name := name
  kind := .ordinary
  loader := none
  accessFlags := 33
  super := sup
  interfaces := #[]
  cf := none
  fields := #[]
  methods := #[]
  instanceTypes := #[]
  staticTypes := #[]
  resolved := #[]
  callSites := []
  init := .initialized
  statics := none
  mirror := none

def pool0 : Array CpInfo := pool [(5, u "<init>"), (0, u "()V"), (1, .class_ 10), (1, u "java/lang/Object")] 113

def k0c0 : Code := { maxStack := 0, maxLocals := 1, code := object_method_1_code, exceptionTable := #[], attributes := #[] }
def k0m0 : Method := { name := "<init>", desc := "()V", sig := { parameters := [], returnType := none }, accessFlags := 1, code := some k0c0 }
/-- java/lang/Object -/
def k0 : Class := { plain "java/lang/Object" none with
  accessFlags := 33
  interfaces := #[]
  cf := some (fileOf pool0 8 #[] #[{ accessFlags := 1, nameIndex := 5, descriptorIndex := 6, attributes := #[] }] 33 0 #[] #[])
  fields := #[]
  methods := #[k0m0]
  instanceTypes := #[]
  staticTypes := #[]
  resolved := Array.replicate 124 none
  statics := none }

def pool1 : Array CpInfo := pool [(2, .class_ 4), (1, u "java/lang/Object"), (0, u "<init>"), (0, u "()V"), (0, .class_ 8), (0, u "com/example/mirrorline/mirrorline/store/Head"), (0, .methodref 7 10), (0, .nameAndType 5 11), (0, u "(JJ)V"), (0, .methodref 13 14), (0, .class_ 15), (0, .nameAndType 16 17), (0, u "java/lang/Long"), (0, u "valueOf"), (0, u "(J)Ljava/lang/Long;"), (0, .methodref 7 19), (0, .nameAndType 20 21), (0, u "equals"), (0, u "(Ljava/lang/Object;)Z"), (0, .class_ 23), (0, u "com/example/mirrorline/mirrorline/store/HeadEqualsPinLaw"), (2, u "law"), (0, u "(JJJJI)Z")] 3

def k1m0 : Method := { name := "<init>", desc := "()V", sig := { parameters := [], returnType := none }, accessFlags := 1, code := none }
def k1c1 : Code := { maxStack := 6, maxLocals := 18, code := code, exceptionTable := #[], attributes := #[] }
def k1m1 : Method := { name := "law", desc := "(JJJJI)Z", sig := { parameters := [.long, .long, .long, .long, .int], returnType := some .boolean }, accessFlags := 9, code := some k1c1 }
/-- com/example/mirrorline/mirrorline/store/HeadEqualsPinLaw -/
def k1 : Class := { plain "com/example/mirrorline/mirrorline/store/HeadEqualsPinLaw" (some 0) with
  accessFlags := 49
  interfaces := #[]
  cf := some (fileOf pool1 22 #[] #[{ accessFlags := 1, nameIndex := 5, descriptorIndex := 6, attributes := #[] }, { accessFlags := 9, nameIndex := 26, descriptorIndex := 27, attributes := #[] }] 49 2 #[] #[])
  fields := #[]
  methods := #[k1m0, k1m1]
  instanceTypes := #[]
  staticTypes := #[]
  resolved := Array.replicate 31 none
  statics := none }

def pool2 : Array CpInfo := pool [(1, .methodref 2 3), (0, .class_ 4), (0, .nameAndType 5 6), (0, u "java/lang/Object"), (0, u "<init>"), (0, u "()V"), (0, .class_ 8), (0, u "java/lang/Record")] 13

def k2c0 : Code := { maxStack := 1, maxLocals := 1, code := jdk_30_method_1_code, exceptionTable := #[], attributes := #[] }
def k2m0 : Method := { name := "<init>", desc := "()V", sig := { parameters := [], returnType := none }, accessFlags := 4, code := some k2c0 }
/-- java/lang/Record -/
def k2 : Class := { plain "java/lang/Record" (some 0) with
  accessFlags := 1057
  interfaces := #[]
  cf := some (fileOf pool2 7 #[] #[{ accessFlags := 4, nameIndex := 5, descriptorIndex := 6, attributes := #[] }] 1057 2 #[] #[])
  fields := #[]
  methods := #[k2m0]
  instanceTypes := #[]
  staticTypes := #[]
  resolved := Array.replicate 22 none
  statics := none }

def pool3 : Array CpInfo := pool [(1, .methodref 2 3), (0, .class_ 4), (0, .nameAndType 5 6), (0, u "java/lang/Record"), (0, u "<init>"), (0, u "()V"), (0, .fieldref 8 9), (0, .class_ 10), (0, .nameAndType 11 12), (0, u "com/example/mirrorline/mirrorline/store/Head"), (0, u "first"), (0, u "J"), (0, .fieldref 8 14), (0, .nameAndType 15 12), (0, u "resets"), (8, u "(JJ)V"), (12, u "UNMOVED"), (0, u "Lcom/example/mirrorline/mirrorline/store/Head;"), (8, u "equals"), (0, u "(Ljava/lang/Object;)Z")] 23

def k3c0 : Code := { maxStack := 3, maxLocals := 5, code := prog_107_method_1_code, exceptionTable := #[], attributes := #[] }
def k3m0 : Method := { name := "<init>", desc := "(JJ)V", sig := { parameters := [.long, .long], returnType := none }, accessFlags := 1, code := some k3c0 }
def k3c1 : Code := { maxStack := 4, maxLocals := 3, code := prog_107_method_4_code, exceptionTable := #[], attributes := #[] }
def k3m1 : Method := { name := "equals", desc := "(Ljava/lang/Object;)Z", sig := { parameters := [(.object "java/lang/Object")], returnType := some .boolean }, accessFlags := 1, code := some k3c1 }
/-- com/example/mirrorline/mirrorline/store/Head -/
def k3 : Class := { plain "com/example/mirrorline/mirrorline/store/Head" (some 2) with
  accessFlags := 49
  interfaces := #[]
  cf := some (fileOf pool3 8 #[] #[{ accessFlags := 1, nameIndex := 5, descriptorIndex := 24, attributes := #[] }, { accessFlags := 1, nameIndex := 47, descriptorIndex := 48, attributes := #[] }] 49 2 #[] #[{ accessFlags := 18, nameIndex := 11, descriptorIndex := 12, attributes := #[] }, { accessFlags := 18, nameIndex := 15, descriptorIndex := 12, attributes := #[] }, { accessFlags := 25, nameIndex := 37, descriptorIndex := 38, attributes := #[] }])
  fields := #[{ name := "first", type := .long, accessFlags := 18, slot := 0, constantValue := 0 }, { name := "resets", type := .long, accessFlags := 18, slot := 1, constantValue := 0 }, { name := "UNMOVED", type := (.object "com/example/mirrorline/mirrorline/store/Head"), accessFlags := 25, slot := 0, constantValue := 0 }]
  methods := #[k3m0, k3m1]
  instanceTypes := #[.long, .long]
  staticTypes := #[(.object "com/example/mirrorline/mirrorline/store/Head")]
  resolved := Array.replicate 72 none
  statics := none }

def pool4 : Array CpInfo := pool [(1, .class_ 2), (0, u "java/io/Serializable"), (0, .class_ 4), (0, u "java/lang/Object")] 2

/-- java/io/Serializable -/
def k4 : Class := { plain "java/io/Serializable" (some 0) with
  accessFlags := 1537
  interfaces := #[]
  cf := some (fileOf pool4 1 #[] #[] 1537 3 #[] #[])
  fields := #[]
  methods := #[]
  instanceTypes := #[]
  staticTypes := #[]
  resolved := Array.replicate 7 none
  statics := none }

def pool5 : Array CpInfo := pool [(1, .methodref 2 3), (0, .class_ 4), (0, .nameAndType 5 6), (0, u "java/lang/Object"), (0, u "<init>"), (0, u "()V"), (1, .class_ 10), (1, u "java/lang/Number"), (2, .class_ 14), (0, u "java/io/Serializable"), (0, u "serialVersionUID"), (0, u "J")] 20

def k5c0 : Code := { maxStack := 1, maxLocals := 1, code := jdk_18_method_1_code, exceptionTable := #[], attributes := #[] }
def k5m0 : Method := { name := "<init>", desc := "()V", sig := { parameters := [], returnType := none }, accessFlags := 1, code := some k5c0 }
/-- java/lang/Number -/
def k5 : Class := { plain "java/lang/Number" (some 0) with
  accessFlags := 1057
  interfaces := #[4]
  cf := some (fileOf pool5 8 #[] #[{ accessFlags := 1, nameIndex := 5, descriptorIndex := 6, attributes := #[] }] 1057 2 #[13] #[{ accessFlags := 26, nameIndex := 15, descriptorIndex := 16, attributes := #[] }])
  fields := #[{ name := "serialVersionUID", type := .long, accessFlags := 26, slot := 0, constantValue := 0 }]
  methods := #[k5m0]
  instanceTypes := #[]
  staticTypes := #[.long]
  resolved := Array.replicate 37 none
  statics := none }

def pool6 : Array CpInfo := pool [(1, .class_ 2), (0, u "java/lang/Comparable"), (0, .class_ 4), (0, u "java/lang/Object")] 7

/-- java/lang/Comparable -/
def k6 : Class := { plain "java/lang/Comparable" (some 0) with
  accessFlags := 1537
  interfaces := #[]
  cf := some (fileOf pool6 1 #[] #[] 1537 3 #[] #[])
  fields := #[]
  methods := #[]
  instanceTypes := #[]
  staticTypes := #[]
  resolved := Array.replicate 12 none
  statics := none }

def pool7 : Array CpInfo := pool [(1, .class_ 2), (0, u "java/lang/constant/Constable"), (0, .class_ 4), (0, u "java/lang/Object")] 6

/-- java/lang/constant/Constable -/
def k7 : Class := { plain "java/lang/constant/Constable" (some 0) with
  accessFlags := 1537
  interfaces := #[]
  cf := some (fileOf pool7 1 #[] #[] 1537 3 #[] #[])
  fields := #[]
  methods := #[]
  instanceTypes := #[]
  staticTypes := #[]
  resolved := Array.replicate 11 none
  statics := none }

def pool8 : Array CpInfo := pool [(1, .class_ 2), (0, u "java/lang/constant/ConstantDesc"), (0, .class_ 4), (0, u "java/lang/Object")] 32

/-- java/lang/constant/ConstantDesc -/
def k8 : Class := { plain "java/lang/constant/ConstantDesc" (some 0) with
  accessFlags := 1537
  interfaces := #[]
  cf := some (fileOf pool8 1 #[] #[] 1537 3 #[] #[])
  fields := #[]
  methods := #[]
  instanceTypes := #[]
  staticTypes := #[]
  resolved := Array.replicate 37 none
  statics := none }

def pool9 : Array CpInfo := pool [(1, .class_ 2), (0, u "java/lang/Long"), (55, .nameAndType 59 60), (0, u "<init>"), (0, u "()V"), (24, u "valueOf"), (143, u "(J)Ljava/lang/Long;"), (0, .long 18446744073709551488), (1, .long 127), (1, .fieldref 235 236), (0, .class_ 237), (0, .nameAndType 238 239), (0, u "java/lang/Long$LongCache"), (0, u "cache"), (0, u "[Ljava/lang/Long;"), (0, .methodref 1 241), (0, .nameAndType 59 242), (0, u "(J)V"), (27, .methodref 271 58), (0, .class_ 272), (0, u "java/lang/Number"), (0, .fieldref 1 274), (0, .nameAndType 275 276), (0, u "value"), (0, u "J"), (84, u "TYPE"), (0, u "Ljava/lang/Class;"), (0, .class_ 364), (0, u "java/lang/Comparable"), (0, .class_ 366), (0, u "java/lang/constant/Constable"), (0, .class_ 368), (0, u "java/lang/constant/ConstantDesc"), (0, u "MIN_VALUE"), (1, u "MAX_VALUE"), (4, u "SIZE"), (0, u "I"), (1, u "BYTES"), (1, u "serialVersionUID")] 142

def k9c0 : Code := { maxStack := 4, maxLocals := 3, code := jdk_35_method_24_code, exceptionTable := #[], attributes := #[] }
def k9m0 : Method := { name := "valueOf", desc := "(J)Ljava/lang/Long;", sig := { parameters := [.long], returnType := some (.object "java/lang/Long") }, accessFlags := 9, code := some k9c0 }
def k9c1 : Code := { maxStack := 3, maxLocals := 3, code := jdk_35_method_26_code, exceptionTable := #[], attributes := #[] }
def k9m1 : Method := { name := "<init>", desc := "(J)V", sig := { parameters := [.long], returnType := none }, accessFlags := 1, code := some k9c1 }
/-- java/lang/Long -/
def k9 : Class := { plain "java/lang/Long" (some 5) with
  accessFlags := 49
  interfaces := #[6, 7, 8]
  cf := some (fileOf pool9 1 #[.nestMembers #[235]] #[{ accessFlags := 9, nameIndex := 85, descriptorIndex := 229, attributes := #[] }, { accessFlags := 1, nameIndex := 59, descriptorIndex := 242, attributes := #[] }] 49 271 #[363, 365, 367] #[{ accessFlags := 25, nameIndex := 369, descriptorIndex := 276, attributes := #[] }, { accessFlags := 25, nameIndex := 371, descriptorIndex := 276, attributes := #[] }, { accessFlags := 25, nameIndex := 361, descriptorIndex := 362, attributes := #[] }, { accessFlags := 18, nameIndex := 275, descriptorIndex := 276, attributes := #[] }, { accessFlags := 25, nameIndex := 376, descriptorIndex := 377, attributes := #[] }, { accessFlags := 25, nameIndex := 379, descriptorIndex := 377, attributes := #[] }, { accessFlags := 26, nameIndex := 381, descriptorIndex := 276, attributes := #[] }])
  fields := #[{ name := "MIN_VALUE", type := .long, accessFlags := 25, slot := 0, constantValue := 0 }, { name := "MAX_VALUE", type := .long, accessFlags := 25, slot := 1, constantValue := 0 }, { name := "TYPE", type := (.object "java/lang/Class"), accessFlags := 25, slot := 2, constantValue := 0 }, { name := "value", type := .long, accessFlags := 18, slot := 0, constantValue := 0 }, { name := "SIZE", type := .int, accessFlags := 25, slot := 3, constantValue := 0 }, { name := "BYTES", type := .int, accessFlags := 25, slot := 4, constantValue := 0 }, { name := "serialVersionUID", type := .long, accessFlags := 26, slot := 5, constantValue := 0 }]
  methods := #[k9m0, k9m1]
  instanceTypes := #[.long]
  staticTypes := #[.long, .long, (.object "java/lang/Class"), .int, .int, .long]
  resolved := Array.replicate 524 none
  statics := none }

def pool10 : Array CpInfo := pool [(2, .class_ 4), (1, u "java/lang/Object"), (0, u "<init>"), (0, u "()V"), (0, .class_ 8), (0, u "java/lang/Long"), (7, .class_ 18), (1, u "java/lang/Long$LongCache"), (0, u "$assertionsDisabled"), (0, u "Z"), (8, u "archivedCache"), (0, u "[Ljava/lang/Long;"), (7, u "cache")] 24

def k10m0 : Method := { name := "<init>", desc := "()V", sig := { parameters := [], returnType := none }, accessFlags := 2, code := none }
/-- java/lang/Long$LongCache -/
def k10 : Class := { plain "java/lang/Long$LongCache" (some 0) with
  accessFlags := 48
  interfaces := #[]
  cf := some (fileOf pool10 16 #[.nestHost 7] #[{ accessFlags := 2, nameIndex := 5, descriptorIndex := 6, attributes := #[] }] 48 2 #[] #[{ accessFlags := 24, nameIndex := 38, descriptorIndex := 30, attributes := #[] }, { accessFlags := 8, nameIndex := 29, descriptorIndex := 30, attributes := #[] }, { accessFlags := 4120, nameIndex := 19, descriptorIndex := 20, attributes := #[] }])
  fields := #[{ name := "cache", type := (.array (.object "java/lang/Long")), accessFlags := 24, slot := 0, constantValue := 0 }, { name := "archivedCache", type := (.array (.object "java/lang/Long")), accessFlags := 8, slot := 1, constantValue := 0 }, { name := "$assertionsDisabled", type := .boolean, accessFlags := 4120, slot := 2, constantValue := 0 }]
  methods := #[k10m0]
  instanceTypes := #[]
  staticTypes := #[(.array (.object "java/lang/Long")), (.array (.object "java/lang/Long")), .boolean]
  resolved := Array.replicate 63 none
  statics := some 0 }

def pool11 : Array CpInfo := pool [(1, u "java/lang/Cloneable"), (0, .class_ 1), (0, u "java/lang/Object"), (0, .class_ 3)] 3

/-- java/lang/Cloneable -/
def k11 : Class := { plain "java/lang/Cloneable" (some 0) with
  accessFlags := 1537
  interfaces := #[]
  cf := some (fileOf pool11 2 #[] #[] 1537 4 #[] #[])
  fields := #[]
  methods := #[]
  instanceTypes := #[]
  staticTypes := #[]
  resolved := Array.replicate 8 none
  statics := none }

/-- the primitive byte -/
def k12 : Class := { plain "byte" none with kind := .primitive 'B', accessFlags := 0x411 }
/-- [B -/
def k13 : Class := { plain "[B" (some 0) with kind := .array 12 .byte, interfaces := #[11, 4], accessFlags := 1041 }

/-- the primitive int -/
def k14 : Class := { plain "int" none with kind := .primitive 'I', accessFlags := 0x411 }
/-- [I -/
def k15 : Class := { plain "[I" (some 0) with kind := .array 14 .int, interfaces := #[11, 4], accessFlags := 1041 }

/-- [Ljava/lang/Long; -/
def k16 : Class := { plain "[Ljava/lang/Long;" (some 0) with kind := .array 9 (.object "java/lang/Long"), interfaces := #[11, 4], accessFlags := 1041 }

def heap : Heap := #[{ cls := 10, slots := #[.ref 1, .null, .int 0], vm := .statics 10 },
  { cls := 16, slots := #[.ref 2, .ref 3, .ref 4, .ref 5, .ref 6, .ref 7, .ref 8, .ref 9, .ref 10, .ref 11, .ref 12, .ref 13, .ref 14, .ref 15, .ref 16, .ref 17, .ref 18, .ref 19, .ref 20, .ref 21, .ref 22, .ref 23, .ref 24, .ref 25, .ref 26, .ref 27, .ref 28, .ref 29, .ref 30, .ref 31, .ref 32, .ref 33, .ref 34, .ref 35, .ref 36, .ref 37, .ref 38, .ref 39, .ref 40, .ref 41, .ref 42, .ref 43, .ref 44, .ref 45, .ref 46, .ref 47, .ref 48, .ref 49, .ref 50, .ref 51, .ref 52, .ref 53, .ref 54, .ref 55, .ref 56, .ref 57, .ref 58, .ref 59, .ref 60, .ref 61, .ref 62, .ref 63, .ref 64, .ref 65, .ref 66, .ref 67, .ref 68, .ref 69, .ref 70, .ref 71, .ref 72, .ref 73, .ref 74, .ref 75, .ref 76, .ref 77, .ref 78, .ref 79, .ref 80, .ref 81, .ref 82, .ref 83, .ref 84, .ref 85, .ref 86, .ref 87, .ref 88, .ref 89, .ref 90, .ref 91, .ref 92, .ref 93, .ref 94, .ref 95, .ref 96, .ref 97, .ref 98, .ref 99, .ref 100, .ref 101, .ref 102, .ref 103, .ref 104, .ref 105, .ref 106, .ref 107, .ref 108, .ref 109, .ref 110, .ref 111, .ref 112, .ref 113, .ref 114, .ref 115, .ref 116, .ref 117, .ref 118, .ref 119, .ref 120, .ref 121, .ref 122, .ref 123, .ref 124, .ref 125, .ref 126, .ref 127, .ref 128, .ref 129, .ref 130, .ref 131, .ref 132, .ref 133, .ref 134, .ref 135, .ref 136, .ref 137, .ref 138, .ref 139, .ref 140, .ref 141, .ref 142, .ref 143, .ref 144, .ref 145, .ref 146, .ref 147, .ref 148, .ref 149, .ref 150, .ref 151, .ref 152, .ref 153, .ref 154, .ref 155, .ref 156, .ref 157, .ref 158, .ref 159, .ref 160, .ref 161, .ref 162, .ref 163, .ref 164, .ref 165, .ref 166, .ref 167, .ref 168, .ref 169, .ref 170, .ref 171, .ref 172, .ref 173, .ref 174, .ref 175, .ref 176, .ref 177, .ref 178, .ref 179, .ref 180, .ref 181, .ref 182, .ref 183, .ref 184, .ref 185, .ref 186, .ref 187, .ref 188, .ref 189, .ref 190, .ref 191, .ref 192, .ref 193, .ref 194, .ref 195, .ref 196, .ref 197, .ref 198, .ref 199, .ref 200, .ref 201, .ref 202, .ref 203, .ref 204, .ref 205, .ref 206, .ref 207, .ref 208, .ref 209, .ref 210, .ref 211, .ref 212, .ref 213, .ref 214, .ref 215, .ref 216, .ref 217, .ref 218, .ref 219, .ref 220, .ref 221, .ref 222, .ref 223, .ref 224, .ref 225, .ref 226, .ref 227, .ref 228, .ref 229, .ref 230, .ref 231, .ref 232, .ref 233, .ref 234, .ref 235, .ref 236, .ref 237, .ref 238, .ref 239, .ref 240, .ref 241, .ref 242, .ref 243, .ref 244, .ref 245, .ref 246, .ref 247, .ref 248, .ref 249, .ref 250, .ref 251, .ref 252, .ref 253, .ref 254, .ref 255, .ref 256, .ref 257], vm := .none },
  { cls := 9, slots := #[.long (-128)], vm := .none },
  { cls := 9, slots := #[.long (-127)], vm := .none },
  { cls := 9, slots := #[.long (-126)], vm := .none },
  { cls := 9, slots := #[.long (-125)], vm := .none },
  { cls := 9, slots := #[.long (-124)], vm := .none },
  { cls := 9, slots := #[.long (-123)], vm := .none },
  { cls := 9, slots := #[.long (-122)], vm := .none },
  { cls := 9, slots := #[.long (-121)], vm := .none },
  { cls := 9, slots := #[.long (-120)], vm := .none },
  { cls := 9, slots := #[.long (-119)], vm := .none },
  { cls := 9, slots := #[.long (-118)], vm := .none },
  { cls := 9, slots := #[.long (-117)], vm := .none },
  { cls := 9, slots := #[.long (-116)], vm := .none },
  { cls := 9, slots := #[.long (-115)], vm := .none },
  { cls := 9, slots := #[.long (-114)], vm := .none },
  { cls := 9, slots := #[.long (-113)], vm := .none },
  { cls := 9, slots := #[.long (-112)], vm := .none },
  { cls := 9, slots := #[.long (-111)], vm := .none },
  { cls := 9, slots := #[.long (-110)], vm := .none },
  { cls := 9, slots := #[.long (-109)], vm := .none },
  { cls := 9, slots := #[.long (-108)], vm := .none },
  { cls := 9, slots := #[.long (-107)], vm := .none },
  { cls := 9, slots := #[.long (-106)], vm := .none },
  { cls := 9, slots := #[.long (-105)], vm := .none },
  { cls := 9, slots := #[.long (-104)], vm := .none },
  { cls := 9, slots := #[.long (-103)], vm := .none },
  { cls := 9, slots := #[.long (-102)], vm := .none },
  { cls := 9, slots := #[.long (-101)], vm := .none },
  { cls := 9, slots := #[.long (-100)], vm := .none },
  { cls := 9, slots := #[.long (-99)], vm := .none },
  { cls := 9, slots := #[.long (-98)], vm := .none },
  { cls := 9, slots := #[.long (-97)], vm := .none },
  { cls := 9, slots := #[.long (-96)], vm := .none },
  { cls := 9, slots := #[.long (-95)], vm := .none },
  { cls := 9, slots := #[.long (-94)], vm := .none },
  { cls := 9, slots := #[.long (-93)], vm := .none },
  { cls := 9, slots := #[.long (-92)], vm := .none },
  { cls := 9, slots := #[.long (-91)], vm := .none },
  { cls := 9, slots := #[.long (-90)], vm := .none },
  { cls := 9, slots := #[.long (-89)], vm := .none },
  { cls := 9, slots := #[.long (-88)], vm := .none },
  { cls := 9, slots := #[.long (-87)], vm := .none },
  { cls := 9, slots := #[.long (-86)], vm := .none },
  { cls := 9, slots := #[.long (-85)], vm := .none },
  { cls := 9, slots := #[.long (-84)], vm := .none },
  { cls := 9, slots := #[.long (-83)], vm := .none },
  { cls := 9, slots := #[.long (-82)], vm := .none },
  { cls := 9, slots := #[.long (-81)], vm := .none },
  { cls := 9, slots := #[.long (-80)], vm := .none },
  { cls := 9, slots := #[.long (-79)], vm := .none },
  { cls := 9, slots := #[.long (-78)], vm := .none },
  { cls := 9, slots := #[.long (-77)], vm := .none },
  { cls := 9, slots := #[.long (-76)], vm := .none },
  { cls := 9, slots := #[.long (-75)], vm := .none },
  { cls := 9, slots := #[.long (-74)], vm := .none },
  { cls := 9, slots := #[.long (-73)], vm := .none },
  { cls := 9, slots := #[.long (-72)], vm := .none },
  { cls := 9, slots := #[.long (-71)], vm := .none },
  { cls := 9, slots := #[.long (-70)], vm := .none },
  { cls := 9, slots := #[.long (-69)], vm := .none },
  { cls := 9, slots := #[.long (-68)], vm := .none },
  { cls := 9, slots := #[.long (-67)], vm := .none },
  { cls := 9, slots := #[.long (-66)], vm := .none },
  { cls := 9, slots := #[.long (-65)], vm := .none },
  { cls := 9, slots := #[.long (-64)], vm := .none },
  { cls := 9, slots := #[.long (-63)], vm := .none },
  { cls := 9, slots := #[.long (-62)], vm := .none },
  { cls := 9, slots := #[.long (-61)], vm := .none },
  { cls := 9, slots := #[.long (-60)], vm := .none },
  { cls := 9, slots := #[.long (-59)], vm := .none },
  { cls := 9, slots := #[.long (-58)], vm := .none },
  { cls := 9, slots := #[.long (-57)], vm := .none },
  { cls := 9, slots := #[.long (-56)], vm := .none },
  { cls := 9, slots := #[.long (-55)], vm := .none },
  { cls := 9, slots := #[.long (-54)], vm := .none },
  { cls := 9, slots := #[.long (-53)], vm := .none },
  { cls := 9, slots := #[.long (-52)], vm := .none },
  { cls := 9, slots := #[.long (-51)], vm := .none },
  { cls := 9, slots := #[.long (-50)], vm := .none },
  { cls := 9, slots := #[.long (-49)], vm := .none },
  { cls := 9, slots := #[.long (-48)], vm := .none },
  { cls := 9, slots := #[.long (-47)], vm := .none },
  { cls := 9, slots := #[.long (-46)], vm := .none },
  { cls := 9, slots := #[.long (-45)], vm := .none },
  { cls := 9, slots := #[.long (-44)], vm := .none },
  { cls := 9, slots := #[.long (-43)], vm := .none },
  { cls := 9, slots := #[.long (-42)], vm := .none },
  { cls := 9, slots := #[.long (-41)], vm := .none },
  { cls := 9, slots := #[.long (-40)], vm := .none },
  { cls := 9, slots := #[.long (-39)], vm := .none },
  { cls := 9, slots := #[.long (-38)], vm := .none },
  { cls := 9, slots := #[.long (-37)], vm := .none },
  { cls := 9, slots := #[.long (-36)], vm := .none },
  { cls := 9, slots := #[.long (-35)], vm := .none },
  { cls := 9, slots := #[.long (-34)], vm := .none },
  { cls := 9, slots := #[.long (-33)], vm := .none },
  { cls := 9, slots := #[.long (-32)], vm := .none },
  { cls := 9, slots := #[.long (-31)], vm := .none },
  { cls := 9, slots := #[.long (-30)], vm := .none },
  { cls := 9, slots := #[.long (-29)], vm := .none },
  { cls := 9, slots := #[.long (-28)], vm := .none },
  { cls := 9, slots := #[.long (-27)], vm := .none },
  { cls := 9, slots := #[.long (-26)], vm := .none },
  { cls := 9, slots := #[.long (-25)], vm := .none },
  { cls := 9, slots := #[.long (-24)], vm := .none },
  { cls := 9, slots := #[.long (-23)], vm := .none },
  { cls := 9, slots := #[.long (-22)], vm := .none },
  { cls := 9, slots := #[.long (-21)], vm := .none },
  { cls := 9, slots := #[.long (-20)], vm := .none },
  { cls := 9, slots := #[.long (-19)], vm := .none },
  { cls := 9, slots := #[.long (-18)], vm := .none },
  { cls := 9, slots := #[.long (-17)], vm := .none },
  { cls := 9, slots := #[.long (-16)], vm := .none },
  { cls := 9, slots := #[.long (-15)], vm := .none },
  { cls := 9, slots := #[.long (-14)], vm := .none },
  { cls := 9, slots := #[.long (-13)], vm := .none },
  { cls := 9, slots := #[.long (-12)], vm := .none },
  { cls := 9, slots := #[.long (-11)], vm := .none },
  { cls := 9, slots := #[.long (-10)], vm := .none },
  { cls := 9, slots := #[.long (-9)], vm := .none },
  { cls := 9, slots := #[.long (-8)], vm := .none },
  { cls := 9, slots := #[.long (-7)], vm := .none },
  { cls := 9, slots := #[.long (-6)], vm := .none },
  { cls := 9, slots := #[.long (-5)], vm := .none },
  { cls := 9, slots := #[.long (-4)], vm := .none },
  { cls := 9, slots := #[.long (-3)], vm := .none },
  { cls := 9, slots := #[.long (-2)], vm := .none },
  { cls := 9, slots := #[.long (-1)], vm := .none },
  { cls := 9, slots := #[.long (0)], vm := .none },
  { cls := 9, slots := #[.long (1)], vm := .none },
  { cls := 9, slots := #[.long (2)], vm := .none },
  { cls := 9, slots := #[.long (3)], vm := .none },
  { cls := 9, slots := #[.long (4)], vm := .none },
  { cls := 9, slots := #[.long (5)], vm := .none },
  { cls := 9, slots := #[.long (6)], vm := .none },
  { cls := 9, slots := #[.long (7)], vm := .none },
  { cls := 9, slots := #[.long (8)], vm := .none },
  { cls := 9, slots := #[.long (9)], vm := .none },
  { cls := 9, slots := #[.long (10)], vm := .none },
  { cls := 9, slots := #[.long (11)], vm := .none },
  { cls := 9, slots := #[.long (12)], vm := .none },
  { cls := 9, slots := #[.long (13)], vm := .none },
  { cls := 9, slots := #[.long (14)], vm := .none },
  { cls := 9, slots := #[.long (15)], vm := .none },
  { cls := 9, slots := #[.long (16)], vm := .none },
  { cls := 9, slots := #[.long (17)], vm := .none },
  { cls := 9, slots := #[.long (18)], vm := .none },
  { cls := 9, slots := #[.long (19)], vm := .none },
  { cls := 9, slots := #[.long (20)], vm := .none },
  { cls := 9, slots := #[.long (21)], vm := .none },
  { cls := 9, slots := #[.long (22)], vm := .none },
  { cls := 9, slots := #[.long (23)], vm := .none },
  { cls := 9, slots := #[.long (24)], vm := .none },
  { cls := 9, slots := #[.long (25)], vm := .none },
  { cls := 9, slots := #[.long (26)], vm := .none },
  { cls := 9, slots := #[.long (27)], vm := .none },
  { cls := 9, slots := #[.long (28)], vm := .none },
  { cls := 9, slots := #[.long (29)], vm := .none },
  { cls := 9, slots := #[.long (30)], vm := .none },
  { cls := 9, slots := #[.long (31)], vm := .none },
  { cls := 9, slots := #[.long (32)], vm := .none },
  { cls := 9, slots := #[.long (33)], vm := .none },
  { cls := 9, slots := #[.long (34)], vm := .none },
  { cls := 9, slots := #[.long (35)], vm := .none },
  { cls := 9, slots := #[.long (36)], vm := .none },
  { cls := 9, slots := #[.long (37)], vm := .none },
  { cls := 9, slots := #[.long (38)], vm := .none },
  { cls := 9, slots := #[.long (39)], vm := .none },
  { cls := 9, slots := #[.long (40)], vm := .none },
  { cls := 9, slots := #[.long (41)], vm := .none },
  { cls := 9, slots := #[.long (42)], vm := .none },
  { cls := 9, slots := #[.long (43)], vm := .none },
  { cls := 9, slots := #[.long (44)], vm := .none },
  { cls := 9, slots := #[.long (45)], vm := .none },
  { cls := 9, slots := #[.long (46)], vm := .none },
  { cls := 9, slots := #[.long (47)], vm := .none },
  { cls := 9, slots := #[.long (48)], vm := .none },
  { cls := 9, slots := #[.long (49)], vm := .none },
  { cls := 9, slots := #[.long (50)], vm := .none },
  { cls := 9, slots := #[.long (51)], vm := .none },
  { cls := 9, slots := #[.long (52)], vm := .none },
  { cls := 9, slots := #[.long (53)], vm := .none },
  { cls := 9, slots := #[.long (54)], vm := .none },
  { cls := 9, slots := #[.long (55)], vm := .none },
  { cls := 9, slots := #[.long (56)], vm := .none },
  { cls := 9, slots := #[.long (57)], vm := .none },
  { cls := 9, slots := #[.long (58)], vm := .none },
  { cls := 9, slots := #[.long (59)], vm := .none },
  { cls := 9, slots := #[.long (60)], vm := .none },
  { cls := 9, slots := #[.long (61)], vm := .none },
  { cls := 9, slots := #[.long (62)], vm := .none },
  { cls := 9, slots := #[.long (63)], vm := .none },
  { cls := 9, slots := #[.long (64)], vm := .none },
  { cls := 9, slots := #[.long (65)], vm := .none },
  { cls := 9, slots := #[.long (66)], vm := .none },
  { cls := 9, slots := #[.long (67)], vm := .none },
  { cls := 9, slots := #[.long (68)], vm := .none },
  { cls := 9, slots := #[.long (69)], vm := .none },
  { cls := 9, slots := #[.long (70)], vm := .none },
  { cls := 9, slots := #[.long (71)], vm := .none },
  { cls := 9, slots := #[.long (72)], vm := .none },
  { cls := 9, slots := #[.long (73)], vm := .none },
  { cls := 9, slots := #[.long (74)], vm := .none },
  { cls := 9, slots := #[.long (75)], vm := .none },
  { cls := 9, slots := #[.long (76)], vm := .none },
  { cls := 9, slots := #[.long (77)], vm := .none },
  { cls := 9, slots := #[.long (78)], vm := .none },
  { cls := 9, slots := #[.long (79)], vm := .none },
  { cls := 9, slots := #[.long (80)], vm := .none },
  { cls := 9, slots := #[.long (81)], vm := .none },
  { cls := 9, slots := #[.long (82)], vm := .none },
  { cls := 9, slots := #[.long (83)], vm := .none },
  { cls := 9, slots := #[.long (84)], vm := .none },
  { cls := 9, slots := #[.long (85)], vm := .none },
  { cls := 9, slots := #[.long (86)], vm := .none },
  { cls := 9, slots := #[.long (87)], vm := .none },
  { cls := 9, slots := #[.long (88)], vm := .none },
  { cls := 9, slots := #[.long (89)], vm := .none },
  { cls := 9, slots := #[.long (90)], vm := .none },
  { cls := 9, slots := #[.long (91)], vm := .none },
  { cls := 9, slots := #[.long (92)], vm := .none },
  { cls := 9, slots := #[.long (93)], vm := .none },
  { cls := 9, slots := #[.long (94)], vm := .none },
  { cls := 9, slots := #[.long (95)], vm := .none },
  { cls := 9, slots := #[.long (96)], vm := .none },
  { cls := 9, slots := #[.long (97)], vm := .none },
  { cls := 9, slots := #[.long (98)], vm := .none },
  { cls := 9, slots := #[.long (99)], vm := .none },
  { cls := 9, slots := #[.long (100)], vm := .none },
  { cls := 9, slots := #[.long (101)], vm := .none },
  { cls := 9, slots := #[.long (102)], vm := .none },
  { cls := 9, slots := #[.long (103)], vm := .none },
  { cls := 9, slots := #[.long (104)], vm := .none },
  { cls := 9, slots := #[.long (105)], vm := .none },
  { cls := 9, slots := #[.long (106)], vm := .none },
  { cls := 9, slots := #[.long (107)], vm := .none },
  { cls := 9, slots := #[.long (108)], vm := .none },
  { cls := 9, slots := #[.long (109)], vm := .none },
  { cls := 9, slots := #[.long (110)], vm := .none },
  { cls := 9, slots := #[.long (111)], vm := .none },
  { cls := 9, slots := #[.long (112)], vm := .none },
  { cls := 9, slots := #[.long (113)], vm := .none },
  { cls := 9, slots := #[.long (114)], vm := .none },
  { cls := 9, slots := #[.long (115)], vm := .none },
  { cls := 9, slots := #[.long (116)], vm := .none },
  { cls := 9, slots := #[.long (117)], vm := .none },
  { cls := 9, slots := #[.long (118)], vm := .none },
  { cls := 9, slots := #[.long (119)], vm := .none },
  { cls := 9, slots := #[.long (120)], vm := .none },
  { cls := 9, slots := #[.long (121)], vm := .none },
  { cls := 9, slots := #[.long (122)], vm := .none },
  { cls := 9, slots := #[.long (123)], vm := .none },
  { cls := 9, slots := #[.long (124)], vm := .none },
  { cls := 9, slots := #[.long (125)], vm := .none },
  { cls := 9, slots := #[.long (126)], vm := .none },
  { cls := 9, slots := #[.long (127)], vm := .none }]
def classes : Array Class := #[k0, k1, k2, k3, k4, k5, k6, k7, k8, k9, k10, k11, k12, k13, k14, k15, k16]
def interned : List (Array UInt16 × Addr) := []
def slotsUsed : Nat := 515
def theMethod : MethodId := ⟨1, 1⟩
def args0 : Array Value := #[.long 5, .long 6, .long 7, .long 8, .int 1]
def aboutOver (below : List Frame) : State where
  vm := { classes := classes, interned := interned.toArray }
  heap := heap
  slotsUsed := slotsUsed
  threads := #[{ frames := .invoking theMethod args0 :: below }]
def below0 : List Frame := [.native { method := ⟨0, 0⟩, args := #[] }]
def about1 : State := aboutOver below0
def p0 : Program := .bare "" "" ""
def e0 : Env := launch0.env 0 0 0
theorem w_frames : about1.frames = Frame.invoking theMethod args0 :: below0 := rfl
set_option maxRecDepth 65536 in
theorem w_args : argsFit about1.vm theMethod args0 = true := by decide +kernel
set_option maxRecDepth 65536 in
theorem w_heap : heapFits about1 = true := by decide +kernel
set_option maxRecDepth 65536 in
theorem w_runnable : about1.curStatus? = some .runnable := by decide +kernel
set_option maxRecDepth 65536 in
theorem w_alone : about1.alone = true := by decide +kernel
set_option maxRecDepth 65536 in
theorem w_named : about1.methodNamed? x = some theMethod := by decide +kernel
set_option maxRecDepth 65536 in
theorem w_hears : about1.hears theMethod below0 = true := by decide +kernel
set_option maxRecDepth 65536 in
theorem w_ripe : about1.ripe theMethod args0 below0 = true := by decide +kernel
theorem w_running : about1.status = .running := rfl
set_option maxRecDepth 65536 in
theorem w_room : about1.hasRoom e0.platform room_1 = true :=
  launch0.hasRoom_least _ room_1 (by decide +kernel) (by decide +kernel) (by decide +kernel) (by decide +kernel) (by decide +kernel) (by decide +kernel)
theorem allAtoms_all (ts : List Jvm.Cond) (a : Array Jvm.Value) (st : Jvm.State) : (allAtoms ts).before a st = ts.all (fun c => c.before a st) := by
  induction ts with
  | nil => rfl
  | cons c t ih =>
    show (Jvm.Cond.and c (allAtoms t)).before a st = _
    rw [Jvm.Cond.before_and, ih, List.all_cons]
def words1 : List Jvm.Cond := Jvm.Cond.code x code maxLocals ret :: tables_1
/-- a 'code' word, met by the world's own term for the bytes: nothing is compared byte by byte -/
theorem code_word {y : MethodName} {bytes : ByteArray} {mx : Nat} {rt : Option FieldType} {a : Array Value} {s : State} {m : MethodId} {meth : Method} {c : Code} (h1 : s.methodNamed? y = some m) (h2 : s.vm.method? m = some meth) (h3 : meth.code = some c) (h4 : c.code = bytes)
    (h5 : (c.maxLocals == mx && c.exceptionTable.isEmpty && decide (c.maxStack ≤ mostOperands) && decide (meth.sig.returnType = rt) && !meth.locks && decide (parseMethodDescriptor y.desc = some meth.sig)) = true) : (Jvm.Cond.code y bytes mx rt).before a s = true := by
  simp only [Bool.and_eq_true, beq_iff_eq, Bool.not_eq_true', decide_eq_true_eq] at h5
  obtain ⟨⟨⟨⟨⟨g1, g2⟩, g3⟩, g4⟩, g5⟩, g6⟩ := h5
  simp [Cond.before, Cond.holds, Cond.value, h1, h2, h3, h4, g1, g2, g3, g4, g5, g6]
def isCode : Jvm.Cond → Bool
  | .code _ _ _ _ => true
  | _ => false
theorem all_split {L : List Jvm.Cond} {P : Jvm.Cond → Bool} (h1 : L.all (fun c => isCode c || P c) = true) (h2 : ∀ c ∈ L.filter isCode, P c = true) : L.all P = true := by
  refine List.all_eq_true.mpr fun c hc => ?_
  have h := List.all_eq_true.mp h1 c hc
  rcases Bool.eq_false_or_eq_true (isCode c) with hi | hi
  · exact h2 c (List.mem_filter.mpr ⟨hc, hi⟩)
  · simpa [hi] using h
set_option maxRecDepth 65536 in
theorem w_c0 : (Jvm.Cond.code x code maxLocals ret).before args0 about1 = true := code_word (m := ⟨1, 1⟩) (meth := k1m1) (c := k1c1) (by decide +kernel) rfl rfl rfl (by decide +kernel)
set_option maxRecDepth 65536 in
theorem w_c1 : (Jvm.Cond.code ({ cls := "com/example/mirrorline/mirrorline/store/Head", name := "<init>", desc := "(JJ)V" } : Jvm.MethodName) prog_107_method_1_code (5 : Nat) (Option.none : Option Jvm.ClassFile.FieldType)).before args0 about1 = true := code_word (m := ⟨3, 0⟩) (meth := k3m0) (c := k3c0) (by decide +kernel) rfl rfl rfl (by decide +kernel)
set_option maxRecDepth 65536 in
theorem w_c2 : (Jvm.Cond.code ({ cls := "java/lang/Record", name := "<init>", desc := "()V" } : Jvm.MethodName) jdk_30_method_1_code (1 : Nat) (Option.none : Option Jvm.ClassFile.FieldType)).before args0 about1 = true := code_word (m := ⟨2, 0⟩) (meth := k2m0) (c := k2c0) (by decide +kernel) rfl rfl rfl (by decide +kernel)
set_option maxRecDepth 65536 in
theorem w_c3 : (Jvm.Cond.code ({ cls := "java/lang/Object", name := "<init>", desc := "()V" } : Jvm.MethodName) object_method_1_code (1 : Nat) (Option.none : Option Jvm.ClassFile.FieldType)).before args0 about1 = true := code_word (m := ⟨0, 0⟩) (meth := k0m0) (c := k0c0) (by decide +kernel) rfl rfl rfl (by decide +kernel)
set_option maxRecDepth 65536 in
theorem w_c4 : (Jvm.Cond.code ({ cls := "com/example/mirrorline/mirrorline/store/Head", name := "equals", desc := "(Ljava/lang/Object;)Z" } : Jvm.MethodName) prog_107_method_4_code (3 : Nat) (Option.some Jvm.ClassFile.FieldType.boolean)).before args0 about1 = true := code_word (m := ⟨3, 1⟩) (meth := k3m1) (c := k3c1) (by decide +kernel) rfl rfl rfl (by decide +kernel)
set_option maxRecDepth 65536 in
theorem w_c5 : (Jvm.Cond.code ({ cls := "java/lang/Long", name := "valueOf", desc := "(J)Ljava/lang/Long;" } : Jvm.MethodName) jdk_35_method_24_code (3 : Nat) (Option.some (Jvm.ClassFile.FieldType.object "java/lang/Long"))).before args0 about1 = true := code_word (m := ⟨9, 0⟩) (meth := k9m0) (c := k9c0) (by decide +kernel) rfl rfl rfl (by decide +kernel)
set_option maxRecDepth 65536 in
theorem w_c6 : (Jvm.Cond.code ({ cls := "java/lang/Long", name := "<init>", desc := "(J)V" } : Jvm.MethodName) jdk_35_method_26_code (3 : Nat) (Option.none : Option Jvm.ClassFile.FieldType)).before args0 about1 = true := code_word (m := ⟨9, 1⟩) (meth := k9m1) (c := k9c1) (by decide +kernel) rfl rfl rfl (by decide +kernel)
set_option maxRecDepth 65536 in
theorem w_c7 : (Jvm.Cond.code ({ cls := "java/lang/Number", name := "<init>", desc := "()V" } : Jvm.MethodName) jdk_18_method_1_code (1 : Nat) (Option.none : Option Jvm.ClassFile.FieldType)).before args0 about1 = true := code_word (m := ⟨5, 0⟩) (meth := k5m0) (c := k5c0) (by decide +kernel) rfl rfl rfl (by decide +kernel)
def codes1 : List Jvm.Cond := [Jvm.Cond.code x code maxLocals ret, Jvm.Cond.code ({ cls := "com/example/mirrorline/mirrorline/store/Head", name := "<init>", desc := "(JJ)V" } : Jvm.MethodName) prog_107_method_1_code (5 : Nat) (Option.none : Option Jvm.ClassFile.FieldType), Jvm.Cond.code ({ cls := "java/lang/Record", name := "<init>", desc := "()V" } : Jvm.MethodName) jdk_30_method_1_code (1 : Nat) (Option.none : Option Jvm.ClassFile.FieldType), Jvm.Cond.code ({ cls := "java/lang/Object", name := "<init>", desc := "()V" } : Jvm.MethodName) object_method_1_code (1 : Nat) (Option.none : Option Jvm.ClassFile.FieldType), Jvm.Cond.code ({ cls := "com/example/mirrorline/mirrorline/store/Head", name := "equals", desc := "(Ljava/lang/Object;)Z" } : Jvm.MethodName) prog_107_method_4_code (3 : Nat) (Option.some Jvm.ClassFile.FieldType.boolean), Jvm.Cond.code ({ cls := "java/lang/Long", name := "valueOf", desc := "(J)Ljava/lang/Long;" } : Jvm.MethodName) jdk_35_method_24_code (3 : Nat) (Option.some (Jvm.ClassFile.FieldType.object "java/lang/Long")), Jvm.Cond.code ({ cls := "java/lang/Long", name := "<init>", desc := "(J)V" } : Jvm.MethodName) jdk_35_method_26_code (3 : Nat) (Option.none : Option Jvm.ClassFile.FieldType), Jvm.Cond.code ({ cls := "java/lang/Number", name := "<init>", desc := "()V" } : Jvm.MethodName) jdk_18_method_1_code (1 : Nat) (Option.none : Option Jvm.ClassFile.FieldType)]
set_option maxRecDepth 65536 in
theorem codes_eq : words1.filter isCode = codes1 := rfl
theorem w_codes : ∀ c ∈ words1.filter isCode, c.before args0 about1 = true := by
  rw [codes_eq]
  intro c hc
  simp only [codes1, List.mem_cons, List.not_mem_nil, or_false] at hc
  rcases hc with rfl | rfl | rfl | rfl | rfl | rfl | rfl | rfl
  · exact w_c0
  · exact w_c1
  · exact w_c2
  · exact w_c3
  · exact w_c4
  · exact w_c5
  · exact w_c6
  · exact w_c7
set_option maxRecDepth 65536 in
theorem w_t1 : (words1.take 24).all (fun c => isCode c || c.before args0 about1) = true := by decide +kernel
set_option maxRecDepth 65536 in
theorem w_t2 : ((words1.drop 24).take 24).all (fun c => isCode c || c.before args0 about1) = true := by decide +kernel
set_option maxRecDepth 65536 in
theorem w_t3 : ((words1.drop 24).drop 24).all (fun c => isCode c || c.before args0 about1) = true := by decide +kernel
theorem w_tables : (allAtoms (Jvm.Cond.code x code maxLocals ret :: tables_1)).before args0 about1 = true := by
  rw [allAtoms_all]
  show words1.all (fun c => c.before args0 about1) = true
  refine all_split ?_ w_codes
  rw [← List.take_append_drop 24 words1, List.all_append, w_t1, ← List.take_append_drop 24 (words1.drop 24), List.all_append, w_t2, w_t3]
  rfl
set_option maxRecDepth 65536 in
theorem w_rest : rest_1_c.before args0 about1 = true := by decide +kernel
set_option maxRecDepth 65536 in
theorem w_case : (Jvm.Cond.and given_1 narrow_1).before args0 about1 = true := by decide +kernel
theorem w_applies : (headSpec (Jvm.Cond.code x code maxLocals ret :: tables_1) room_1).applies x e0.platform about1 = true :=
  (Spec.applies_iff w_frames).mpr ⟨w_running, w_runnable, w_alone, w_named, w_hears, w_ripe, w_room, w_tables⟩
theorem atStart : AtStart classFile x code maxLocals ret World_1 tables_1 room_1 Calls_1 rest_1 Pre_1 launch0 p0 e0 about1 theMethod args0 below0 :=
  ⟨lists_1, trivial, launch0.admits_env _ _ _, launch0.least_env, fairChoices_fair.cas, fairChoices_fair.clock, w_frames, w_args, w_heap, w_applies, trivial, w_rest, w_case⟩
end start1
theorem witness_1 : WitnessClaimed_1 := ⟨start1.p0, start1.e0, start1.about1, start1.theMethod, start1.args0, start1.below0, start1.atStart⟩
end Jvm.Pilot.@@N@@
