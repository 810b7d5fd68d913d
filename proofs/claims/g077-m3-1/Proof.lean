import JvmDerived
import JvmDerived.Pilot.@@N@@Statement
import JvmDerived.Pilot.@@N@@Code
set_option linter.unusedVariables false
set_option linter.unusedSimpArgs false
set_option maxRecDepth 65536
set_option maxHeartbeats 40000000
namespace Jvm.Pilot.@@N@@
open Jvm Jvm.ClassFile Sem Op Lib Jvm.Free Jvm.Stand Jvm.LawKit Jvm.RoadKit Bundle Jvm.Pilot.@@N@@.Jvm.D
section OwnKit
variable {p : Program} {l : Launch} {e : Env} {R : Room} {s : State} {m : MethodId} {args : Array Value} {below : List Frame} {meth : Method} {c : Code} {T : State} {locs : List Loc} {cells slots : Nat}
/-- from here the run comes to an end that E allows -/
def own_Go (p : Program) (e : Env) (below : List Frame) (E : State → Prop) (S : State) : Prop := ∃ t, Steps p.tables e below S t ∧ E t
/-- the invocation has ended, with a value, a heap and a list of written places that Q allows -/
def own_End (s : State) (below : List Frame) (Q : Option Value → Heap → List Loc → Prop) (C N : Nat) (t : State) : Prop :=
  t.status = .running ∧ ∃ v L, Ended t below (.returned v) ∧ Q v t.heap L ∧ FrameEnd s (.returned v) t L C N
/-- the walk stands here, with this heap, having written only what is new -/
def own_At (p : Program) (l : Launch) (e : Env) (R : Room) (s : State) (m : MethodId) (args : Array Value) (below : List Frame) (meth : Method) (c : Code) (n0 : Nat) (T : State) (h : Heap) (cells slots : Nat) : Prop :=
  ∃ locs, Stand p l e R s m args below meth c T locs cells slots ∧ Fr n0 locs ∧ T.heap = h
theorem own_by {E : State → Prop} {S S' : State} (k : ∀ t, Steps p.tables e below S' t → Steps p.tables e below S t) (h : own_Go p e below E S') : own_Go p e below E S :=
  h.imp fun t q => ⟨k t q.1, q.2⟩
theorem own_tr {E : State → Prop} {S S' : State} (k : Steps p.tables e below S S') (h : own_Go p e below E S') : own_Go p e below E S :=
  h.imp fun t q => ⟨k.trans q.1, q.2⟩
theorem own_mono {E E' : State → Prop} {S : State} (k : ∀ t, E t → E' t) (h : own_Go p e below E S) : own_Go p e below E' S := h.imp fun t q => ⟨q.1, k t q.2⟩
theorem own_monoQ {Q Q' : Option Value → Heap → List Loc → Prop} {C N : Nat} {S : State} (k : ∀ v h L, Q v h L → Q' v h L) (h : own_Go p e below (own_End s below Q C N) S) : own_Go p e below (own_End s below Q' C N) S :=
  own_mono (fun t ⟨a, v, L, b, q, r⟩ => ⟨a, v, L, b, k _ _ _ q, r⟩) h
variable {Q : Option Value → Heap → List Loc → Prop} {C N : Nat} {h : Heap} {pc : Nat} {Ls : Array Slot} {rest : List Value}
theorem own_ret (X : Stand p l e R s m args below meth c T locs cells slots) (hx : p.tables.exec = Jvm.exec) (hlk : meth.locks = false) (eT : T.heap = h) {w : Value} {t : FieldType} {i : Instr} (hret : meth.sig.returnType = some t) (hn : narrow t w = w)
    (hi : (i = .ireturn ∧ (t = .int ∨ t = .boolean ∨ t = .byte ∨ t = .char ∨ t = .short) ∧ ∃ z, w = .int z) ∨ (i = .lreturn ∧ t = .long ∧ ∃ z, w = .long z) ∨ (i = .dreturn ∧ t = .double ∧ ∃ z, w = .double z) ∨ (i = .freturn ∧ t = .float ∧ ∃ z, w = .float z) ∨ (i = .areturn ∧ t.isReference = true ∧ w.isRef = true))
    (hd : decode c.code pc = .ok (i, 1)) (hc : cells ≤ C) (hs : slots ≤ N) (hQ : Q (some w) h locs) : own_Go p e below (own_End s below Q C N) (T.setTop (mkF m pc Ls (w :: rest))) := by
  obtain ⟨fs, hr, hrun, hended, hW, hsame⟩ := X.leave (v := some w) (fun q => by rw [hret] at q; cases q) hlk
  subst eT
  exact ⟨_, retOut X hx hret hn hi hd hr, hrun, _, _, hended, hQ, ⟨_, rfl⟩, hW, hsame.mono hc hs⟩
theorem own_retI (X : Stand p l e R s m args below meth c T locs cells slots) (hx : p.tables.exec = Jvm.exec) (hlk : meth.locks = false) (eT : T.heap = h) {z : Int32} (hret : meth.sig.returnType = some .int) (hd : decode c.code pc = .ok (.ireturn, 1)) (hc : cells ≤ C) (hs : slots ≤ N) (hQ : Q (some (.int z)) h locs) :
    own_Go p e below (own_End s below Q C N) (T.setTop (mkF m pc Ls (.int z :: rest))) := own_ret X hx hlk eT hret rfl (Or.inl ⟨rfl, Or.inl rfl, _, rfl⟩) hd hc hs hQ
theorem own_retZ (X : Stand p l e R s m args below meth c T locs cells slots) (hx : p.tables.exec = Jvm.exec) (hlk : meth.locks = false) (eT : T.heap = h) {z : Int32} (hz : z = 0 ∨ z = 1) (hret : meth.sig.returnType = some .boolean) (hd : decode c.code pc = .ok (.ireturn, 1)) (hc : cells ≤ C) (hs : slots ≤ N) (hQ : Q (some (.int z)) h locs) :
    own_Go p e below (own_End s below Q C N) (T.setTop (mkF m pc Ls (.int z :: rest))) := own_ret X hx hlk eT hret (by rcases hz with rfl | rfl <;> rfl) (Or.inl ⟨rfl, Or.inr (Or.inl rfl), _, rfl⟩) hd hc hs hQ
theorem own_retJ (X : Stand p l e R s m args below meth c T locs cells slots) (hx : p.tables.exec = Jvm.exec) (hlk : meth.locks = false) (eT : T.heap = h) {z : Int64} (hret : meth.sig.returnType = some .long) (hd : decode c.code pc = .ok (.lreturn, 1)) (hc : cells ≤ C) (hs : slots ≤ N) (hQ : Q (some (.long z)) h locs) :
    own_Go p e below (own_End s below Q C N) (T.setTop (mkF m pc Ls (.long z :: rest))) := own_ret X hx hlk eT hret rfl (Or.inr (Or.inl ⟨rfl, rfl, _, rfl⟩)) hd hc hs hQ
theorem own_retD (X : Stand p l e R s m args below meth c T locs cells slots) (hx : p.tables.exec = Jvm.exec) (hlk : meth.locks = false) (eT : T.heap = h) {z : UInt64} (hret : meth.sig.returnType = some .double) (hd : decode c.code pc = .ok (.dreturn, 1)) (hc : cells ≤ C) (hs : slots ≤ N) (hQ : Q (some (.double z)) h locs) :
    own_Go p e below (own_End s below Q C N) (T.setTop (mkF m pc Ls (.double z :: rest))) := own_ret X hx hlk eT hret rfl (Or.inr (Or.inr (Or.inl ⟨rfl, rfl, _, rfl⟩))) hd hc hs hQ
theorem own_retR (X : Stand p l e R s m args below meth c T locs cells slots) (hx : p.tables.exec = Jvm.exec) (hlk : meth.locks = false) (eT : T.heap = h) {w : Value} {t : FieldType} (hw : w.isRef = true) (ht : t.isReference = true) (hret : meth.sig.returnType = some t) (hd : decode c.code pc = .ok (.areturn, 1)) (hc : cells ≤ C) (hs : slots ≤ N) (hQ : Q (some w) h locs) :
    own_Go p e below (own_End s below Q C N) (T.setTop (mkF m pc Ls (w :: rest))) := own_ret X hx hlk eT hret (by cases t <;> first | (cases ht; done) | (cases w <;> first | rfl | cases hw)) (Or.inr (Or.inr (Or.inr (Or.inr ⟨rfl, ht, hw⟩)))) hd hc hs hQ
theorem own_retV (X : Stand p l e R s m args below meth c T locs cells slots) (hx : p.tables.exec = Jvm.exec) (hlk : meth.locks = false) (eT : T.heap = h) (hret : meth.sig.returnType = none) (hd : decode c.code pc = .ok (.return_, 1)) (hc : cells ≤ C) (hs : slots ≤ N) (hQ : Q none h locs) :
    own_Go p e below (own_End s below Q C N) (T.setTop (mkF m pc Ls [])) := by
  obtain ⟨fs, hr, hrun, hended, hW, hsame⟩ := X.leave (v := none) (fun _ => rfl) hlk
  subst eT
  exact ⟨_, X.returnOut hx hret hd hr, hrun, _, _, hended, hQ, ⟨_, rfl⟩, hW, hsame.mono hc hs⟩
end OwnKit

theorem own_pd0 : parseMethodDescriptor "()V" = some ⟨[], none⟩ := by decide +kernel
theorem own_pd1 : parseMethodDescriptor "(JJ)V" = some ⟨[.long, .long], none⟩ := by decide +kernel
theorem own_pd2 : parseMethodDescriptor "(JJ)J" = some ⟨[.long, .long], some .long⟩ := by decide +kernel
theorem own_pd3 : parseMethodDescriptor "(Ljava/lang/Object;)Z" = some ⟨[(.object "java/lang/Object")], some .boolean⟩ := by decide +kernel
theorem own_pd4 : parseMethodDescriptor "(Lcom/example/mirrorline/mirrorline/store/Head;)Z" = some ⟨[(.object "com/example/mirrorline/mirrorline/store/Head")], some .boolean⟩ := by decide +kernel
theorem own_d2_0 : decode jdk_30_method_1_code 0 = .ok (.aload_n 0, 1) := by decide +kernel
theorem own_d2_1 : decode jdk_30_method_1_code 1 = .ok (.invokespecial 1, 3) := by decide +kernel
theorem own_d2_4 : decode jdk_30_method_1_code 4 = .ok (.return_, 1) := by decide +kernel
theorem own_pn2 : plainName "java/lang/Record" = true := by first | (simp [plainName, overriddenIn]; done) | decide +kernel
theorem own_ef2 (m : MethodId) (x0 : Addr) : entryFrame m #[(.ref x0)] 1 = mkF m 0 #[.val (.ref x0)] [] := by first | (simp [entryFrame, mkF, argsToLocals, Value.category]; done) | rfl
def own_Q2 (Z : State) (ax : Addr) (h0 : Heap) (n0 : Nat) (v : Option Value) (h : Heap) (L : List Loc) : Prop := v = none ∧ Fr n0 L ∧ h = h0
theorem own_rm2 (l : Launch) (Z : State) (a0 : Array Value) (hw : ∀ d ∈ tables_1, d.before a0 Z = true) (ws : List Jvm.Cond) (ax : Addr) (h0 : Heap) (n0 : Nat) (Z0 : n0 ≤ h0.size) :
    MetFree l (⟨"java/lang/Record", "<init>", "()V"⟩ : MethodName) (head1 (Jvm.Cond.code (⟨"java/lang/Record", "<init>", "()V"⟩ : MethodName) jdk_30_method_1_code 1 none :: ws) ({ frames := 1, cells := 0, slots := 0, locals := 12 } : Room)) (fun a U => a = #[(.ref ax)] ∧ Z.Warmed39 U.vm ∧ U.heap = h0) (fun _ _ _ _ _ => True) (fun _ U o U' => ∃ v L, o = .returned v ∧ own_Q2 Z ax h0 n0 v U'.heap L ∧ FrameEnd U o U' L ({ frames := 1, cells := 0, slots := 0, locals := 12 } : Room).cells ({ frames := 1, cells := 0, slots := 0, locals := 12 } : Room).slots) := by
  refine MetFree.of_bodySF (plainFor_of_name own_pn2) hisR ?_
  intro p e s m args below meth c s₁ Bd hml0 hP hK
  obtain ⟨rfl, hZ, hh⟩ := hP
  have hx := Bd.exec
  have hby := Bd.bytes
  have hlk := Bd.notSynchronized
  have hret := Bd.returns
  have hml : c.maxLocals = 1 := hml0
  have hown : s.vm.findClass "java/lang/Record" = some m.cls := findClass_of_methodNamed Bd.named
  have hnm := (name_of_methodNamed Bd.named Bd.method).1
  have X0 : Stand p l e ({ frames := 1, cells := 0, slots := 0, locals := 12 } : Room) s m #[(.ref ax)] below meth c s₁ [] 0 0 := Stand.of_body Bd
  have e0 : s₁.heap = h0 := by rw [← hh, Bd.state]; rfl
  have N0 := Fr.nil n0
  suffices key : own_Go p e below (own_End s below (own_Q2 Z ax h0 n0) ({ frames := 1, cells := 0, slots := 0, locals := 12 } : Room).cells ({ frames := 1, cells := 0, slots := 0, locals := 12 } : Room).slots) (s₁.setTop (mkF m 0 #[.val (.ref ax)] [])) by
    obtain ⟨t, k1, k2, v, L, k3, k4, k5⟩ := key
    exact ⟨t, _, castTop (own_ef2 m ax) k1, k2, k3, v, L, rfl, k4, k5⟩
  show own_Go p e below _ (s₁.setTop (mkF m 0 #[.val (.ref ax)] []))
  refine own_by (fun _ => XS.aloadN X0.here hx rfl (hb hby own_d2_0) rfl rfl) ?_
  show own_Go p e below _ (s₁.setTop (mkF m 1 #[.val (.ref ax)] [(.ref ax)]))
  obtain ⟨T1, X1, e1, st1⟩ := initO X0 hx hZ hown (hw _ (List.mem_of_getElem? (i := 11) rfl)) (hw _ (List.mem_of_getElem? (i := 12) rfl)) (hw _ (List.mem_of_getElem? (i := 13) rfl)) e0 (g := (mkF m 1 #[.val (.ref ax)] [(.ref ax)])) rfl (by rw [hml]; rfl) rfl (hb hby own_d2_1) (by decide) (W := 0) (by show 2 * 0 + _ ≤ _; exact Nat.le_of_eq rfl) (by decide)
  refine own_by st1 ?_
  show own_Go p e below _ (T1.setTop (mkF m 4 #[.val (.ref ax)] []))
  exact own_retV X1 hx hlk e1 hret (hb hby own_d2_4) (by decide) (by decide) ⟨rfl, N0, rfl⟩

theorem own_d1_0 : decode prog_107_method_1_code 0 = .ok (.aload_n 0, 1) := by decide +kernel
theorem own_d1_1 : decode prog_107_method_1_code 1 = .ok (.invokespecial 1, 3) := by decide +kernel
theorem own_d1_4 : decode prog_107_method_1_code 4 = .ok (.aload_n 0, 1) := by decide +kernel
theorem own_d1_5 : decode prog_107_method_1_code 5 = .ok (.lload_n 1, 1) := by decide +kernel
theorem own_d1_6 : decode prog_107_method_1_code 6 = .ok (.putfield 7, 3) := by decide +kernel
theorem own_d1_9 : decode prog_107_method_1_code 9 = .ok (.aload_n 0, 1) := by decide +kernel
theorem own_d1_10 : decode prog_107_method_1_code 10 = .ok (.lload_n 3, 1) := by decide +kernel
theorem own_d1_11 : decode prog_107_method_1_code 11 = .ok (.putfield 13, 3) := by decide +kernel
theorem own_d1_14 : decode prog_107_method_1_code 14 = .ok (.return_, 1) := by decide +kernel
theorem own_pn1 : plainName "com/example/mirrorline/mirrorline/store/Head" = true := by first | (simp [plainName, overriddenIn]; done) | decide +kernel
theorem own_ef1 (m : MethodId) (x0 : Addr) (x1 : Int64) (x2 : Int64) : entryFrame m #[(.ref x0), (.long x1), (.long x2)] 5 = mkF m 0 #[.val (.ref x0), .val (.long x1), .second, .val (.long x2), .second] [] := by first | (simp [entryFrame, mkF, argsToLocals, Value.category]; done) | rfl
def own_Q1 (Z : State) (ax : Addr) (xa : Int64) (xb : Int64) (ua : Int64) (ub : Int64) (h0 : Heap) (n0 : Nat) (v : Option Value) (h : Heap) (L : List Loc) : Prop := v = none ∧ Fr n0 L ∧ Keep h0 h [ax] ∧ Fld Z h ax "com/example/mirrorline/mirrorline/store/Head" "first" "J" (.long xa) ∧ Fld Z h ax "com/example/mirrorline/mirrorline/store/Head" "resets" "J" (.long xb)
theorem own_rm1 (l : Launch) (Z : State) (a0 : Array Value) (hw : ∀ d ∈ tables_1, d.before a0 Z = true) (ws : List Jvm.Cond) (ax : Addr) (xa : Int64) (xb : Int64) (ua : Int64) (ub : Int64) (h0 : Heap) (n0 : Nat) (Z0 : n0 ≤ h0.size) (pf0 : Exa Z h0 ax "com/example/mirrorline/mirrorline/store/Head") (pf1 : Fld Z h0 ax "com/example/mirrorline/mirrorline/store/Head" "first" "J" (.long ua)) (pf2 : Fld Z h0 ax "com/example/mirrorline/mirrorline/store/Head" "resets" "J" (.long ub)) (pg_ax : n0 ≤ ax) :
    MetFree l (⟨"com/example/mirrorline/mirrorline/store/Head", "<init>", "(JJ)V"⟩ : MethodName) (head1 (Jvm.Cond.code (⟨"com/example/mirrorline/mirrorline/store/Head", "<init>", "(JJ)V"⟩ : MethodName) prog_107_method_1_code 5 none :: ws) ({ frames := 2, cells := 0, slots := 0, locals := 24 } : Room)) (fun a U => a = #[(.ref ax), (.long xa), (.long xb)] ∧ Z.Warmed39 U.vm ∧ U.heap = h0) (fun _ _ _ _ _ => True) (fun _ U o U' => ∃ v L, o = .returned v ∧ own_Q1 Z ax xa xb ua ub h0 n0 v U'.heap L ∧ FrameEnd U o U' L ({ frames := 2, cells := 0, slots := 0, locals := 24 } : Room).cells ({ frames := 2, cells := 0, slots := 0, locals := 24 } : Room).slots) := by
  refine MetFree.of_bodySF (plainFor_of_name own_pn1) hisR ?_
  intro p e s m args below meth c s₁ Bd hml0 hP hK
  obtain ⟨rfl, hZ, hh⟩ := hP
  have hx := Bd.exec
  have hby := Bd.bytes
  have hlk := Bd.notSynchronized
  have hret := Bd.returns
  have hml : c.maxLocals = 5 := hml0
  have hown : s.vm.findClass "com/example/mirrorline/mirrorline/store/Head" = some m.cls := findClass_of_methodNamed Bd.named
  have hnm := (name_of_methodNamed Bd.named Bd.method).1
  have X0 : Stand p l e ({ frames := 2, cells := 0, slots := 0, locals := 24 } : Room) s m #[(.ref ax), (.long xa), (.long xb)] below meth c s₁ [] 0 0 := Stand.of_body Bd
  have e0 : s₁.heap = h0 := by rw [← hh, Bd.state]; rfl
  have N0 := Fr.nil n0
  suffices key : own_Go p e below (own_End s below (own_Q1 Z ax xa xb ua ub h0 n0) ({ frames := 2, cells := 0, slots := 0, locals := 24 } : Room).cells ({ frames := 2, cells := 0, slots := 0, locals := 24 } : Room).slots) (s₁.setTop (mkF m 0 #[.val (.ref ax), .val (.long xa), .second, .val (.long xb), .second] [])) by
    obtain ⟨t, k1, k2, v, L, k3, k4, k5⟩ := key
    exact ⟨t, _, castTop (own_ef1 m ax xa xb) k1, k2, k3, v, L, rfl, k4, k5⟩
  show own_Go p e below _ (s₁.setTop (mkF m 0 #[.val (.ref ax), .val (.long xa), .second, .val (.long xb), .second] []))
  refine own_by (fun _ => XS.aloadN X0.here hx rfl (hb hby own_d1_0) rfl rfl) ?_
  show own_Go p e below _ (s₁.setTop (mkF m 1 #[.val (.ref ax), .val (.long xa), .second, .val (.long xb), .second] [(.ref ax)]))
  obtain ⟨_, _, ⟨T1, L1, k1, n1⟩, -, X1, ⟨Lc1, hQ1, l1, y1, z1'⟩, st1⟩ := X0.specialBack hx (y := (⟨"java/lang/Record", "<init>", "()V"⟩ : MethodName)) rfl hown (mvT hZ (hw _ (List.mem_of_getElem? (i := 6) rfl))) (mvT hZ (hw _ (List.mem_of_getElem? (i := 7) rfl))) (mvT hZ (hw _ (List.mem_of_getElem? (i := 10) rfl))) (by decide) (backOf (W := 0) (own_rm2 l Z a0 hw [] ax h0 n0 Z0 ) hZ (hw _ (List.mem_of_getElem? (i := 10) rfl)) (hw _ (List.mem_of_getElem? (i := 9) rfl)) (by decide) (by decide)) (g := (mkF m 1 #[.val (.ref ax), .val (.long xa), .second, .val (.long xb), .second] [(.ref ax)])) rfl (by rw [hml]; rfl) (Steps.refl _) (a := ax) (argsL := []) (rest := []) (lenOf own_pd0 rfl) rfl (by show 2 * 0 + _ ≤ _; exact Nat.le_of_eq rfl) (hb hby own_d1_1) (fun _ _ => ⟨rfl, e0, (by decide : 0 + 0 ≤ _), (by decide : 0 + 0 ≤ _)⟩)
  dsimp only [Pt.U, Pt.locs, Pt.cells, Pt.slots] at X1 l1 y1 z1' st1 hQ1
  subst l1 y1 z1'
  obtain ⟨rfl, N1q, e1⟩ := hQ1
  have N1 := Fr.app N0 N1q
  refine own_tr st1 ?_
  show own_Go p e below _ (T1.setTop (mkF m 4 #[.val (.ref ax), .val (.long xa), .second, .val (.long xb), .second] []))
  refine own_by (fun _ => XS.aloadN X1.here hx rfl (hb hby own_d1_4) rfl rfl) ?_
  show own_Go p e below _ (T1.setTop (mkF m 5 #[.val (.ref ax), .val (.long xa), .second, .val (.long xb), .second] [(.ref ax)]))
  refine own_by (fun _ => XS.lloadN X1.here hx rfl (hb hby own_d1_5) rfl) ?_
  show own_Go p e below _ (T1.setTop (mkF m 6 #[.val (.ref ax), .val (.long xa), .second, .val (.long xb), .second] [(.long xa), (.ref ax)]))
  obtain ⟨T2, h2, X2, e2, W2, st2⟩ := putF X1 hx hZ hown (host := "") (Or.inl (hw _ (List.mem_of_getElem? (i := 14) rfl))) Via.refl e1 pf1 pf0 (Or.inr ⟨(hw _ (List.mem_of_getElem? (i := 15) rfl)), rfl, hnm⟩) (hw _ (List.mem_of_getElem? (i := 1) rfl)) (ty := .long) (by decide) rfl rfl (g := (mkF m 6 #[.val (.ref ax), .val (.long xa), .second, .val (.long xb), .second] [(.long xa), (.ref ax)])) rfl rfl (hb hby own_d1_6)
  refine own_by st2 ?_
  have fw2 : Fld Z h2 ax "com/example/mirrorline/mirrorline/store/Head" "first" "J" (.long xa) := pf1.same W2
  have z2 : n0 ≤ h2.size := Nat.le_trans Z0 (Keep.of_wr W2).1
  have N2 := Fr.snoc X2 N1 pg_ax
  have K2 : Keep h0 h2 [ax] := (Keep.refl h0 [ax]).wr W2 (Or.inl (List.mem_of_getElem? (i := 0) rfl))
  show own_Go p e below _ (T2.setTop (mkF m 9 #[.val (.ref ax), .val (.long xa), .second, .val (.long xb), .second] []))
  refine own_by (fun _ => XS.aloadN X2.here hx rfl (hb hby own_d1_9) rfl rfl) ?_
  show own_Go p e below _ (T2.setTop (mkF m 10 #[.val (.ref ax), .val (.long xa), .second, .val (.long xb), .second] [(.ref ax)]))
  refine own_by (fun _ => XS.lloadN X2.here hx rfl (hb hby own_d1_10) rfl) ?_
  show own_Go p e below _ (T2.setTop (mkF m 11 #[.val (.ref ax), .val (.long xa), .second, .val (.long xb), .second] [(.long xb), (.ref ax)]))
  have f3 : Exa Z h2 ax "com/example/mirrorline/mirrorline/store/Head" := (pf0.wr W2)
  have f4 : Fld Z h2 ax "com/example/mirrorline/mirrorline/store/Head" "resets" "J" (.long ub) := (pf2.other W2 (Or.inr (slot_ne (Or.inr (hw _ (List.mem_of_getElem? (i := 17) rfl))) (Or.inr (hw _ (List.mem_of_getElem? (i := 15) rfl))) (by decide) (t := .long) (t' := .long) (by decide) (by decide))))
  obtain ⟨T5, h5, X5, e5, W5, st5⟩ := putF X2 hx hZ hown (host := "") (Or.inl (hw _ (List.mem_of_getElem? (i := 16) rfl))) Via.refl e2 f4 f3 (Or.inr ⟨(hw _ (List.mem_of_getElem? (i := 17) rfl)), rfl, hnm⟩) (hw _ (List.mem_of_getElem? (i := 1) rfl)) (ty := .long) (by decide) rfl rfl (g := (mkF m 11 #[.val (.ref ax), .val (.long xa), .second, .val (.long xb), .second] [(.long xb), (.ref ax)])) rfl rfl (hb hby own_d1_11)
  refine own_by st5 ?_
  have fw5 : Fld Z h5 ax "com/example/mirrorline/mirrorline/store/Head" "resets" "J" (.long xb) := f4.same W5
  have z5 : n0 ≤ h5.size := Nat.le_trans z2 (Keep.of_wr W5).1
  have N5 := Fr.snoc X5 N2 pg_ax
  have K5 : Keep h0 h5 [ax] := K2.wr W5 (Or.inl (List.mem_of_getElem? (i := 0) rfl))
  show own_Go p e below _ (T5.setTop (mkF m 14 #[.val (.ref ax), .val (.long xa), .second, .val (.long xb), .second] []))
  have f6 : Fld Z h5 ax "com/example/mirrorline/mirrorline/store/Head" "first" "J" (.long xa) := (fw2.other W5 (Or.inr (slot_ne (Or.inr (hw _ (List.mem_of_getElem? (i := 15) rfl))) (Or.inr (hw _ (List.mem_of_getElem? (i := 17) rfl))) (by decide) (t := .long) (t' := .long) (by decide) (by decide))))
  exact own_retV X5 hx hlk e5 hret (hb hby own_d1_14) (by decide) (by decide) ⟨rfl, N5, K5, f6, fw5⟩

theorem own_d4_0 : decode jdk_29_method_66_code 0 = .ok (.lload_n 0, 1) := by decide +kernel
theorem own_d4_1 : decode jdk_29_method_66_code 1 = .ok (.lload_n 2, 1) := by decide +kernel
theorem own_d4_2 : decode jdk_29_method_66_code 2 = .ok (.lcmp, 1) := by decide +kernel
theorem own_d4_3 : decode jdk_29_method_66_code 3 = .ok (.ifCond .lt 7, 3) := by decide +kernel
theorem own_d4_6 : decode jdk_29_method_66_code 6 = .ok (.lload_n 0, 1) := by decide +kernel
theorem own_d4_7 : decode jdk_29_method_66_code 7 = .ok (.goto 4, 3) := by decide +kernel
theorem own_d4_10 : decode jdk_29_method_66_code 10 = .ok (.lload_n 2, 1) := by decide +kernel
theorem own_d4_11 : decode jdk_29_method_66_code 11 = .ok (.lreturn, 1) := by decide +kernel
def own_max (xa : Int64) (xb : Int64) : Int64 := (if xa < xb then xb else xa)
theorem own_ef4 (m : MethodId) (x0 : Int64) (x1 : Int64) : entryFrame m #[(.long x0), (.long x1)] 4 = mkF m 0 #[.val (.long x0), .second, .val (.long x1), .second] [] := by first | (simp [entryFrame, mkF, argsToLocals, Value.category]; done) | rfl
def own_Q4 (Z : State) (xa : Int64) (xb : Int64) (h0 : Heap) (n0 : Nat) (v : Option Value) (h : Heap) (L : List Loc) : Prop := v = some (.long (own_max xa xb)) ∧ Fr n0 L ∧ h = h0
theorem own_rm4 (l : Launch) (Z : State) (a0 : Array Value) (hw : ∀ d ∈ tables_1, d.before a0 Z = true) (ws : List Jvm.Cond) (xa : Int64) (xb : Int64) (h0 : Heap) (n0 : Nat) (Z0 : n0 ≤ h0.size) :
    MetFree l (⟨"java/lang/Math", "max", "(JJ)J"⟩ : MethodName) (head1 (Jvm.Cond.code (⟨"java/lang/Math", "max", "(JJ)J"⟩ : MethodName) jdk_29_method_66_code 4 (some .long) :: ws) ({ frames := 0, cells := 0, slots := 0, locals := 0 } : Room)) (fun a U => a = #[(.long xa), (.long xb)] ∧ Z.Warmed39 U.vm ∧ U.heap = h0) (fun _ _ _ _ _ => True) (fun _ U o U' => ∃ v L, o = .returned v ∧ own_Q4 Z xa xb h0 n0 v U'.heap L ∧ FrameEnd U o U' L ({ frames := 0, cells := 0, slots := 0, locals := 0 } : Room).cells ({ frames := 0, cells := 0, slots := 0, locals := 0 } : Room).slots) := by
  refine MetFree.of_bodySF (Jvm.Free.JP.mathPlain rfl (by decide +kernel)) hisR ?_
  intro p e s m args below meth c s₁ Bd hml0 hP hK
  obtain ⟨rfl, hZ, hh⟩ := hP
  have hx := Bd.exec
  have hby := Bd.bytes
  have hlk := Bd.notSynchronized
  have hret := Bd.returns
  have hml : c.maxLocals = 4 := hml0
  have hown : s.vm.findClass "java/lang/Math" = some m.cls := findClass_of_methodNamed Bd.named
  have hnm := (name_of_methodNamed Bd.named Bd.method).1
  have X0 : Stand p l e ({ frames := 0, cells := 0, slots := 0, locals := 0 } : Room) s m #[(.long xa), (.long xb)] below meth c s₁ [] 0 0 := Stand.of_body Bd
  have e0 : s₁.heap = h0 := by rw [← hh, Bd.state]; rfl
  have N0 := Fr.nil n0
  suffices key : own_Go p e below (own_End s below (own_Q4 Z xa xb h0 n0) ({ frames := 0, cells := 0, slots := 0, locals := 0 } : Room).cells ({ frames := 0, cells := 0, slots := 0, locals := 0 } : Room).slots) (s₁.setTop (mkF m 0 #[.val (.long xa), .second, .val (.long xb), .second] [])) by
    obtain ⟨t, k1, k2, v, L, k3, k4, k5⟩ := key
    exact ⟨t, _, castTop (own_ef4 m xa xb) k1, k2, k3, v, L, rfl, k4, k5⟩
  show own_Go p e below _ (s₁.setTop (mkF m 0 #[.val (.long xa), .second, .val (.long xb), .second] []))
  refine own_by (fun _ => XS.lloadN X0.here hx rfl (hb hby own_d4_0) rfl) ?_
  show own_Go p e below _ (s₁.setTop (mkF m 1 #[.val (.long xa), .second, .val (.long xb), .second] [(.long xa)]))
  refine own_by (fun _ => XS.lloadN X0.here hx rfl (hb hby own_d4_1) rfl) ?_
  show own_Go p e below _ (s₁.setTop (mkF m 2 #[.val (.long xa), .second, .val (.long xb), .second] [(.long xb), (.long xa)]))
  refine own_by (fun _ => XS.lcmp X0.here hx rfl (hb hby own_d4_2) rfl) ?_
  show own_Go p e below _ (s₁.setTop (mkF m 3 #[.val (.long xa), .second, .val (.long xb), .second] [(.int (lcmpW xa xb))]))
  suffices J1 : ∀ (T' : State) (v1_t0 : Int64), v1_t0 = (if xa < xb then xb else xa) → own_At p l e ({ frames := 0, cells := 0, slots := 0, locals := 0 } : Room) s m #[(.long xa), (.long xb)] below meth c n0 T' h0 0 0 → own_Go p e below (own_End s below (own_Q4 Z xa xb h0 n0) ({ frames := 0, cells := 0, slots := 0, locals := 0 } : Room).cells ({ frames := 0, cells := 0, slots := 0, locals := 0 } : Room).slots) (T'.setTop (mkF m 11 #[.val (.long xa), .second, .val (.long xb), .second] [(.long v1_t0)])) by
    by_cases hc3_2 : xa < xb
    ·
      skip
      refine own_by (fun _ => XS.ifYes X0.here hx rfl (pc0 := 3) (pc' := 10) rfl (hb hby own_d4_3) rfl ((if0 _ _).trans (tlt ((lw_lt _ _).mpr hc3_2)).1) (by decide) (by decide)) ?_
      show own_Go p e below _ (s₁.setTop (mkF m 10 #[.val (.long xa), .second, .val (.long xb), .second] []))
      refine own_by (fun _ => XS.lloadN X0.here hx rfl (hb hby own_d4_10) rfl) ?_
      show own_Go p e below _ (s₁.setTop (mkF m 11 #[.val (.long xa), .second, .val (.long xb), .second] [(.long xb)]))
      exact J1 _ _ (by first | rfl | simp only [if_pos hc3_2]) ⟨_, X0, N0, e0⟩
    ·
      skip
      refine own_by (fun _ => XS.ifNo X0.here hx rfl (hb hby own_d4_3) rfl ((if0 _ _).trans (flt (mt (lw_lt _ _).mp hc3_2)).1)) ?_
      show own_Go p e below _ (s₁.setTop (mkF m 6 #[.val (.long xa), .second, .val (.long xb), .second] []))
      refine own_by (fun _ => XS.lloadN X0.here hx rfl (hb hby own_d4_6) rfl) ?_
      show own_Go p e below _ (s₁.setTop (mkF m 7 #[.val (.long xa), .second, .val (.long xb), .second] [(.long xa)]))
      refine own_by (fun _ => XS.goto X0.here hx rfl (pc0 := 7) (pc' := 11) rfl (hb hby own_d4_7) (by decide) (by decide)) ?_
      show own_Go p e below _ (s₁.setTop (mkF m 11 #[.val (.long xa), .second, .val (.long xb), .second] [(.long xa)]))
      exact J1 _ _ (by first | rfl | simp only [if_neg hc3_2]) ⟨_, X0, N0, e0⟩
  intro T1 v1_t0 hv1_t0 ⟨locs1, X1, N1, e1⟩
  show own_Go p e below _ (T1.setTop (mkF m 11 #[.val (.long xa), .second, .val (.long xb), .second] [(.long v1_t0)]))
  exact own_retJ X1 hx hlk e1 hret (hb hby own_d4_11) (by decide) (by decide) ⟨(by subst hv1_t0; first | rfl | simp only [own_max]), N1, rfl⟩

theorem own_d5_0 : decode prog_107_method_4_code 0 = .ok (.aload_n 1, 1) := by decide +kernel
theorem own_d5_1 : decode prog_107_method_4_code 1 = .ok (.instanceof 8, 3) := by decide +kernel
theorem own_d5_4 : decode prog_107_method_4_code 4 = .ok (.ifCond .eq 36, 3) := by decide +kernel
theorem own_d5_7 : decode prog_107_method_4_code 7 = .ok (.aload_n 1, 1) := by decide +kernel
theorem own_d5_8 : decode prog_107_method_4_code 8 = .ok (.checkcast 8, 3) := by decide +kernel
theorem own_d5_11 : decode prog_107_method_4_code 11 = .ok (.astore_n 2, 1) := by decide +kernel
theorem own_d5_12 : decode prog_107_method_4_code 12 = .ok (.aload_n 0, 1) := by decide +kernel
theorem own_d5_13 : decode prog_107_method_4_code 13 = .ok (.getfield 7, 3) := by decide +kernel
theorem own_d5_16 : decode prog_107_method_4_code 16 = .ok (.aload_n 2, 1) := by decide +kernel
theorem own_d5_17 : decode prog_107_method_4_code 17 = .ok (.getfield 7, 3) := by decide +kernel
theorem own_d5_20 : decode prog_107_method_4_code 20 = .ok (.lcmp, 1) := by decide +kernel
theorem own_d5_21 : decode prog_107_method_4_code 21 = .ok (.ifCond .ne 19, 3) := by decide +kernel
theorem own_d5_24 : decode prog_107_method_4_code 24 = .ok (.aload_n 0, 1) := by decide +kernel
theorem own_d5_25 : decode prog_107_method_4_code 25 = .ok (.getfield 13, 3) := by decide +kernel
theorem own_d5_28 : decode prog_107_method_4_code 28 = .ok (.aload_n 2, 1) := by decide +kernel
theorem own_d5_29 : decode prog_107_method_4_code 29 = .ok (.getfield 13, 3) := by decide +kernel
theorem own_d5_32 : decode prog_107_method_4_code 32 = .ok (.lcmp, 1) := by decide +kernel
theorem own_d5_33 : decode prog_107_method_4_code 33 = .ok (.ifCond .ne 7, 3) := by decide +kernel
theorem own_d5_36 : decode prog_107_method_4_code 36 = .ok (.iconst 1, 1) := by decide +kernel
theorem own_d5_37 : decode prog_107_method_4_code 37 = .ok (.goto 4, 3) := by decide +kernel
theorem own_d5_40 : decode prog_107_method_4_code 40 = .ok (.iconst 0, 1) := by decide +kernel
theorem own_d5_41 : decode prog_107_method_4_code 41 = .ok (.ireturn, 1) := by decide +kernel
def own_eq (ua : Int64) (ub : Int64) (va : Int64) (vb : Int64) : Int32 := (if ua = va then (if ub = vb then (1 : Int32) else (0 : Int32)) else (0 : Int32))
theorem own_pn5 : plainName "com/example/mirrorline/mirrorline/store/Head" = true := by first | (simp [plainName, overriddenIn]; done) | decide +kernel
theorem own_ef5 (m : MethodId) (x0 : Addr) (x1 : Addr) : entryFrame m #[(.ref x0), (.ref x1)] 3 = mkF m 0 #[.val (.ref x0), .val (.ref x1), .unset] [] := by first | (simp [entryFrame, mkF, argsToLocals, Value.category]; done) | rfl
def own_Q5 (Z : State) (ax : Addr) (bx : Addr) (ua : Int64) (ub : Int64) (va : Int64) (vb : Int64) (h0 : Heap) (n0 : Nat) (v : Option Value) (h : Heap) (L : List Loc) : Prop := v = some (.int (own_eq ua ub va vb)) ∧ Fr n0 L ∧ h = h0
theorem own_rm5 (l : Launch) (Z : State) (a0 : Array Value) (hw : ∀ d ∈ tables_1, d.before a0 Z = true) (ws : List Jvm.Cond) (ax : Addr) (bx : Addr) (ua : Int64) (ub : Int64) (va : Int64) (vb : Int64) (h0 : Heap) (n0 : Nat) (Z0 : n0 ≤ h0.size) (pf0 : Fld Z h0 ax "com/example/mirrorline/mirrorline/store/Head" "first" "J" (.long ua)) (pf1 : Fld Z h0 ax "com/example/mirrorline/mirrorline/store/Head" "resets" "J" (.long ub)) (pf2 : Fld Z h0 bx "com/example/mirrorline/mirrorline/store/Head" "first" "J" (.long va)) (pf3 : Fld Z h0 bx "com/example/mirrorline/mirrorline/store/Head" "resets" "J" (.long vb)) (pf4 : Exa Z h0 bx "com/example/mirrorline/mirrorline/store/Head") :
    MetFree l (⟨"com/example/mirrorline/mirrorline/store/Head", "equals", "(Ljava/lang/Object;)Z"⟩ : MethodName) (head1 (Jvm.Cond.code (⟨"com/example/mirrorline/mirrorline/store/Head", "equals", "(Ljava/lang/Object;)Z"⟩ : MethodName) prog_107_method_4_code 3 (some .boolean) :: ws) ({ frames := 0, cells := 0, slots := 0, locals := 0 } : Room)) (fun a U => a = #[(.ref ax), (.ref bx)] ∧ Z.Warmed39 U.vm ∧ U.heap = h0) (fun _ _ _ _ _ => True) (fun _ U o U' => ∃ v L, o = .returned v ∧ own_Q5 Z ax bx ua ub va vb h0 n0 v U'.heap L ∧ FrameEnd U o U' L ({ frames := 0, cells := 0, slots := 0, locals := 0 } : Room).cells ({ frames := 0, cells := 0, slots := 0, locals := 0 } : Room).slots) := by
  refine MetFree.of_bodySF (plainFor_of_name own_pn5) hisR ?_
  intro p e s m args below meth c s₁ Bd hml0 hP hK
  obtain ⟨rfl, hZ, hh⟩ := hP
  have hx := Bd.exec
  have hby := Bd.bytes
  have hlk := Bd.notSynchronized
  have hret := Bd.returns
  have hml : c.maxLocals = 3 := hml0
  have hown : s.vm.findClass "com/example/mirrorline/mirrorline/store/Head" = some m.cls := findClass_of_methodNamed Bd.named
  have hnm := (name_of_methodNamed Bd.named Bd.method).1
  have X0 : Stand p l e ({ frames := 0, cells := 0, slots := 0, locals := 0 } : Room) s m #[(.ref ax), (.ref bx)] below meth c s₁ [] 0 0 := Stand.of_body Bd
  have e0 : s₁.heap = h0 := by rw [← hh, Bd.state]; rfl
  have N0 := Fr.nil n0
  suffices key : own_Go p e below (own_End s below (own_Q5 Z ax bx ua ub va vb h0 n0) ({ frames := 0, cells := 0, slots := 0, locals := 0 } : Room).cells ({ frames := 0, cells := 0, slots := 0, locals := 0 } : Room).slots) (s₁.setTop (mkF m 0 #[.val (.ref ax), .val (.ref bx), .unset] [])) by
    obtain ⟨t, k1, k2, v, L, k3, k4, k5⟩ := key
    exact ⟨t, _, castTop (own_ef5 m ax bx) k1, k2, k3, v, L, rfl, k4, k5⟩
  show own_Go p e below _ (s₁.setTop (mkF m 0 #[.val (.ref ax), .val (.ref bx), .unset] []))
  refine own_by (fun _ => XS.aloadN X0.here hx rfl (hb hby own_d5_0) rfl rfl) ?_
  show own_Go p e below _ (s₁.setTop (mkF m 1 #[.val (.ref ax), .val (.ref bx), .unset] [(.ref bx)]))
  obtain ⟨T1, X1, e1, st1⟩ := instY X0 hx hZ hown (hw _ (List.mem_of_getElem? (i := 27) rfl)) e0 (Ins.self pf4) (g := (mkF m 1 #[.val (.ref ax), .val (.ref bx), .unset] [(.ref bx)])) rfl rfl (hb hby own_d5_1)
  refine own_by st1 ?_
  show own_Go p e below _ (T1.setTop (mkF m 4 #[.val (.ref ax), .val (.ref bx), .unset] [(.int (1 : Int32))]))
  refine own_by (fun _ => XS.ifNo X1.here hx rfl (hb hby own_d5_4) rfl ((if0 _ _).trans (feq (by decide : ¬ ((1 : Int32) = (0 : Int32)))).1)) ?_
  show own_Go p e below _ (T1.setTop (mkF m 7 #[.val (.ref ax), .val (.ref bx), .unset] []))
  refine own_by (fun _ => XS.aloadN X1.here hx rfl (hb hby own_d5_7) rfl rfl) ?_
  show own_Go p e below _ (T1.setTop (mkF m 8 #[.val (.ref ax), .val (.ref bx), .unset] [(.ref bx)]))
  obtain ⟨T2, X2, e2, st2⟩ := castY X1 hx hZ hown (hw _ (List.mem_of_getElem? (i := 27) rfl)) e1 (Ins.self pf4) (g := (mkF m 8 #[.val (.ref ax), .val (.ref bx), .unset] [(.ref bx)])) rfl rfl (hb hby own_d5_8)
  refine own_by st2 ?_
  show own_Go p e below _ (T2.setTop (mkF m 11 #[.val (.ref ax), .val (.ref bx), .unset] [(.ref bx)]))
  refine own_by (fun _ => XS.astoreN X2.here hx rfl (hb hby own_d5_11) rfl rfl (l' := #[.val (.ref ax), .val (.ref bx), .val (.ref bx)]) rfl) ?_
  show own_Go p e below _ (T2.setTop (mkF m 12 #[.val (.ref ax), .val (.ref bx), .val (.ref bx)] []))
  refine own_by (fun _ => XS.aloadN X2.here hx rfl (hb hby own_d5_12) rfl rfl) ?_
  show own_Go p e below _ (T2.setTop (mkF m 13 #[.val (.ref ax), .val (.ref bx), .val (.ref bx)] [(.ref ax)]))
  obtain ⟨T3, X3, e3, st3⟩ := getF X2 hx hZ hown (host := "") (Or.inl (hw _ (List.mem_of_getElem? (i := 14) rfl))) Via.refl e2 pf0 (g := (mkF m 13 #[.val (.ref ax), .val (.ref bx), .val (.ref bx)] [(.ref ax)])) rfl rfl (hb hby own_d5_13)
  refine own_by st3 ?_
  show own_Go p e below _ (T3.setTop (mkF m 16 #[.val (.ref ax), .val (.ref bx), .val (.ref bx)] [(.long ua)]))
  refine own_by (fun _ => XS.aloadN X3.here hx rfl (hb hby own_d5_16) rfl rfl) ?_
  show own_Go p e below _ (T3.setTop (mkF m 17 #[.val (.ref ax), .val (.ref bx), .val (.ref bx)] [(.ref bx), (.long ua)]))
  obtain ⟨T4, X4, e4, st4⟩ := getF X3 hx hZ hown (host := "") (Or.inl (hw _ (List.mem_of_getElem? (i := 14) rfl))) Via.refl e3 pf2 (g := (mkF m 17 #[.val (.ref ax), .val (.ref bx), .val (.ref bx)] [(.ref bx), (.long ua)])) rfl rfl (hb hby own_d5_17)
  refine own_by st4 ?_
  show own_Go p e below _ (T4.setTop (mkF m 20 #[.val (.ref ax), .val (.ref bx), .val (.ref bx)] [(.long va), (.long ua)]))
  refine own_by (fun _ => XS.lcmp X4.here hx rfl (hb hby own_d5_20) rfl) ?_
  show own_Go p e below _ (T4.setTop (mkF m 21 #[.val (.ref ax), .val (.ref bx), .val (.ref bx)] [(.int (lcmpW ua va))]))
  suffices J5 : ∀ (T' : State) (v5_t0 : Int32), v5_t0 = (if ua = va then (if ub = vb then (1 : Int32) else (0 : Int32)) else (0 : Int32)) → own_At p l e ({ frames := 0, cells := 0, slots := 0, locals := 0 } : Room) s m #[(.ref ax), (.ref bx)] below meth c n0 T' h0 0 0 → own_Go p e below (own_End s below (own_Q5 Z ax bx ua ub va vb h0 n0) ({ frames := 0, cells := 0, slots := 0, locals := 0 } : Room).cells ({ frames := 0, cells := 0, slots := 0, locals := 0 } : Room).slots) (T'.setTop (mkF m 41 #[.val (.ref ax), .val (.ref bx), .val (.ref bx)] [(.int v5_t0)])) by
    by_cases hc21_6 : ua = va
    ·
      skip
      refine own_by (fun _ => XS.ifNo X4.here hx rfl (hb hby own_d5_21) rfl ((if0 _ _).trans (teq ((lw_eq _ _).mpr hc21_6)).2)) ?_
      show own_Go p e below _ (T4.setTop (mkF m 24 #[.val (.ref ax), .val (.ref bx), .val (.ref bx)] []))
      refine own_by (fun _ => XS.aloadN X4.here hx rfl (hb hby own_d5_24) rfl rfl) ?_
      show own_Go p e below _ (T4.setTop (mkF m 25 #[.val (.ref ax), .val (.ref bx), .val (.ref bx)] [(.ref ax)]))
      obtain ⟨T7, X7, e7, st7⟩ := getF X4 hx hZ hown (host := "") (Or.inl (hw _ (List.mem_of_getElem? (i := 16) rfl))) Via.refl e4 pf1 (g := (mkF m 25 #[.val (.ref ax), .val (.ref bx), .val (.ref bx)] [(.ref ax)])) rfl rfl (hb hby own_d5_25)
      refine own_by st7 ?_
      show own_Go p e below _ (T7.setTop (mkF m 28 #[.val (.ref ax), .val (.ref bx), .val (.ref bx)] [(.long ub)]))
      refine own_by (fun _ => XS.aloadN X7.here hx rfl (hb hby own_d5_28) rfl rfl) ?_
      show own_Go p e below _ (T7.setTop (mkF m 29 #[.val (.ref ax), .val (.ref bx), .val (.ref bx)] [(.ref bx), (.long ub)]))
      obtain ⟨T8, X8, e8, st8⟩ := getF X7 hx hZ hown (host := "") (Or.inl (hw _ (List.mem_of_getElem? (i := 16) rfl))) Via.refl e7 pf3 (g := (mkF m 29 #[.val (.ref ax), .val (.ref bx), .val (.ref bx)] [(.ref bx), (.long ub)])) rfl rfl (hb hby own_d5_29)
      refine own_by st8 ?_
      show own_Go p e below _ (T8.setTop (mkF m 32 #[.val (.ref ax), .val (.ref bx), .val (.ref bx)] [(.long vb), (.long ub)]))
      refine own_by (fun _ => XS.lcmp X8.here hx rfl (hb hby own_d5_32) rfl) ?_
      show own_Go p e below _ (T8.setTop (mkF m 33 #[.val (.ref ax), .val (.ref bx), .val (.ref bx)] [(.int (lcmpW ub vb))]))
      by_cases hc33_9 : ub = vb
      ·
        skip
        refine own_by (fun _ => XS.ifNo X8.here hx rfl (hb hby own_d5_33) rfl ((if0 _ _).trans (teq ((lw_eq _ _).mpr hc33_9)).2)) ?_
        show own_Go p e below _ (T8.setTop (mkF m 36 #[.val (.ref ax), .val (.ref bx), .val (.ref bx)] []))
        refine own_by (fun _ => XS.iconst X8.here hx rfl (hb hby own_d5_36)) ?_
        show own_Go p e below _ (T8.setTop (mkF m 37 #[.val (.ref ax), .val (.ref bx), .val (.ref bx)] [(.int (1 : Int32))]))
        refine own_by (fun _ => XS.goto X8.here hx rfl (pc0 := 37) (pc' := 41) rfl (hb hby own_d5_37) (by decide) (by decide)) ?_
        show own_Go p e below _ (T8.setTop (mkF m 41 #[.val (.ref ax), .val (.ref bx), .val (.ref bx)] [(.int (1 : Int32))]))
        exact J5 _ _ (by first | rfl | simp only [if_pos hc21_6, if_pos hc33_9]) ⟨_, X8, N0, e8⟩
      ·
        skip
        refine own_by (fun _ => XS.ifYes X8.here hx rfl (pc0 := 33) (pc' := 40) rfl (hb hby own_d5_33) rfl ((if0 _ _).trans (feq (mt (lw_eq _ _).mp hc33_9)).2) (by decide) (by decide)) ?_
        show own_Go p e below _ (T8.setTop (mkF m 40 #[.val (.ref ax), .val (.ref bx), .val (.ref bx)] []))
        refine own_by (fun _ => XS.iconst X8.here hx rfl (hb hby own_d5_40)) ?_
        show own_Go p e below _ (T8.setTop (mkF m 41 #[.val (.ref ax), .val (.ref bx), .val (.ref bx)] [(.int (0 : Int32))]))
        exact J5 _ _ (by first | rfl | simp only [if_pos hc21_6, if_neg hc33_9]) ⟨_, X8, N0, e8⟩
    ·
      skip
      refine own_by (fun _ => XS.ifYes X4.here hx rfl (pc0 := 21) (pc' := 40) rfl (hb hby own_d5_21) rfl ((if0 _ _).trans (feq (mt (lw_eq _ _).mp hc21_6)).2) (by decide) (by decide)) ?_
      show own_Go p e below _ (T4.setTop (mkF m 40 #[.val (.ref ax), .val (.ref bx), .val (.ref bx)] []))
      refine own_by (fun _ => XS.iconst X4.here hx rfl (hb hby own_d5_40)) ?_
      show own_Go p e below _ (T4.setTop (mkF m 41 #[.val (.ref ax), .val (.ref bx), .val (.ref bx)] [(.int (0 : Int32))]))
      exact J5 _ _ (by first | rfl | simp only [if_neg hc21_6]) ⟨_, X4, N0, e4⟩
  intro T5 v5_t0 hv5_t0 ⟨locs5, X5, N5, e5⟩
  show own_Go p e below _ (T5.setTop (mkF m 41 #[.val (.ref ax), .val (.ref bx), .val (.ref bx)] [(.int v5_t0)]))
  exact own_retZ X5 hx hlk e5 (by rw [hv5_t0]; (repeat' split) <;> first | exact Or.inl rfl | exact Or.inr rfl) hret (hb hby own_d5_41) (by decide) (by decide) ⟨(by subst hv5_t0; first | rfl | simp only [own_eq]), N5, rfl⟩

theorem own_d6_0 : decode prog_107_method_2_code 0 = .ok (.aload_n 0, 1) := by decide +kernel
theorem own_d6_1 : decode prog_107_method_2_code 1 = .ok (.getfield 7, 3) := by decide +kernel
theorem own_d6_4 : decode prog_107_method_2_code 4 = .ok (.aload_n 1, 1) := by decide +kernel
theorem own_d6_5 : decode prog_107_method_2_code 5 = .ok (.getfield 7, 3) := by decide +kernel
theorem own_d6_8 : decode prog_107_method_2_code 8 = .ok (.lcmp, 1) := by decide +kernel
theorem own_d6_9 : decode prog_107_method_2_code 9 = .ok (.ifCond .lt 19, 3) := by decide +kernel
theorem own_d6_12 : decode prog_107_method_2_code 12 = .ok (.aload_n 0, 1) := by decide +kernel
theorem own_d6_13 : decode prog_107_method_2_code 13 = .ok (.getfield 13, 3) := by decide +kernel
theorem own_d6_16 : decode prog_107_method_2_code 16 = .ok (.aload_n 1, 1) := by decide +kernel
theorem own_d6_17 : decode prog_107_method_2_code 17 = .ok (.getfield 13, 3) := by decide +kernel
theorem own_d6_20 : decode prog_107_method_2_code 20 = .ok (.lcmp, 1) := by decide +kernel
theorem own_d6_21 : decode prog_107_method_2_code 21 = .ok (.ifCond .lt 7, 3) := by decide +kernel
theorem own_d6_24 : decode prog_107_method_2_code 24 = .ok (.iconst 1, 1) := by decide +kernel
theorem own_d6_25 : decode prog_107_method_2_code 25 = .ok (.goto 4, 3) := by decide +kernel
theorem own_d6_28 : decode prog_107_method_2_code 28 = .ok (.iconst 0, 1) := by decide +kernel
theorem own_d6_29 : decode prog_107_method_2_code 29 = .ok (.ireturn, 1) := by decide +kernel
def own_covers (ua : Int64) (ub : Int64) (va : Int64) (vb : Int64) : Int32 := (if ua < va then (0 : Int32) else (if ub < vb then (0 : Int32) else (1 : Int32)))
theorem own_pn6 : plainName "com/example/mirrorline/mirrorline/store/Head" = true := by first | (simp [plainName, overriddenIn]; done) | decide +kernel
theorem own_ef6 (m : MethodId) (x0 : Addr) (x1 : Addr) : entryFrame m #[(.ref x0), (.ref x1)] 2 = mkF m 0 #[.val (.ref x0), .val (.ref x1)] [] := by first | (simp [entryFrame, mkF, argsToLocals, Value.category]; done) | rfl
def own_Q6 (Z : State) (ax : Addr) (bx : Addr) (ua : Int64) (ub : Int64) (va : Int64) (vb : Int64) (h0 : Heap) (n0 : Nat) (v : Option Value) (h : Heap) (L : List Loc) : Prop := v = some (.int (own_covers ua ub va vb)) ∧ Fr n0 L ∧ h = h0
theorem own_rm6 (l : Launch) (Z : State) (a0 : Array Value) (hw : ∀ d ∈ tables_1, d.before a0 Z = true) (ws : List Jvm.Cond) (ax : Addr) (bx : Addr) (ua : Int64) (ub : Int64) (va : Int64) (vb : Int64) (h0 : Heap) (n0 : Nat) (Z0 : n0 ≤ h0.size) (pf0 : Fld Z h0 ax "com/example/mirrorline/mirrorline/store/Head" "first" "J" (.long ua)) (pf1 : Fld Z h0 ax "com/example/mirrorline/mirrorline/store/Head" "resets" "J" (.long ub)) (pf2 : Fld Z h0 bx "com/example/mirrorline/mirrorline/store/Head" "first" "J" (.long va)) (pf3 : Fld Z h0 bx "com/example/mirrorline/mirrorline/store/Head" "resets" "J" (.long vb)) :
    MetFree l (⟨"com/example/mirrorline/mirrorline/store/Head", "covers", "(Lcom/example/mirrorline/mirrorline/store/Head;)Z"⟩ : MethodName) (head1 (Jvm.Cond.code (⟨"com/example/mirrorline/mirrorline/store/Head", "covers", "(Lcom/example/mirrorline/mirrorline/store/Head;)Z"⟩ : MethodName) prog_107_method_2_code 2 (some .boolean) :: ws) ({ frames := 0, cells := 0, slots := 0, locals := 0 } : Room)) (fun a U => a = #[(.ref ax), (.ref bx)] ∧ Z.Warmed39 U.vm ∧ U.heap = h0) (fun _ _ _ _ _ => True) (fun _ U o U' => ∃ v L, o = .returned v ∧ own_Q6 Z ax bx ua ub va vb h0 n0 v U'.heap L ∧ FrameEnd U o U' L ({ frames := 0, cells := 0, slots := 0, locals := 0 } : Room).cells ({ frames := 0, cells := 0, slots := 0, locals := 0 } : Room).slots) := by
  refine MetFree.of_bodySF (plainFor_of_name own_pn6) hisR ?_
  intro p e s m args below meth c s₁ Bd hml0 hP hK
  obtain ⟨rfl, hZ, hh⟩ := hP
  have hx := Bd.exec
  have hby := Bd.bytes
  have hlk := Bd.notSynchronized
  have hret := Bd.returns
  have hml : c.maxLocals = 2 := hml0
  have hown : s.vm.findClass "com/example/mirrorline/mirrorline/store/Head" = some m.cls := findClass_of_methodNamed Bd.named
  have hnm := (name_of_methodNamed Bd.named Bd.method).1
  have X0 : Stand p l e ({ frames := 0, cells := 0, slots := 0, locals := 0 } : Room) s m #[(.ref ax), (.ref bx)] below meth c s₁ [] 0 0 := Stand.of_body Bd
  have e0 : s₁.heap = h0 := by rw [← hh, Bd.state]; rfl
  have N0 := Fr.nil n0
  suffices key : own_Go p e below (own_End s below (own_Q6 Z ax bx ua ub va vb h0 n0) ({ frames := 0, cells := 0, slots := 0, locals := 0 } : Room).cells ({ frames := 0, cells := 0, slots := 0, locals := 0 } : Room).slots) (s₁.setTop (mkF m 0 #[.val (.ref ax), .val (.ref bx)] [])) by
    obtain ⟨t, k1, k2, v, L, k3, k4, k5⟩ := key
    exact ⟨t, _, castTop (own_ef6 m ax bx) k1, k2, k3, v, L, rfl, k4, k5⟩
  show own_Go p e below _ (s₁.setTop (mkF m 0 #[.val (.ref ax), .val (.ref bx)] []))
  refine own_by (fun _ => XS.aloadN X0.here hx rfl (hb hby own_d6_0) rfl rfl) ?_
  show own_Go p e below _ (s₁.setTop (mkF m 1 #[.val (.ref ax), .val (.ref bx)] [(.ref ax)]))
  obtain ⟨T1, X1, e1, st1⟩ := getF X0 hx hZ hown (host := "") (Or.inl (hw _ (List.mem_of_getElem? (i := 14) rfl))) Via.refl e0 pf0 (g := (mkF m 1 #[.val (.ref ax), .val (.ref bx)] [(.ref ax)])) rfl rfl (hb hby own_d6_1)
  refine own_by st1 ?_
  show own_Go p e below _ (T1.setTop (mkF m 4 #[.val (.ref ax), .val (.ref bx)] [(.long ua)]))
  refine own_by (fun _ => XS.aloadN X1.here hx rfl (hb hby own_d6_4) rfl rfl) ?_
  show own_Go p e below _ (T1.setTop (mkF m 5 #[.val (.ref ax), .val (.ref bx)] [(.ref bx), (.long ua)]))
  obtain ⟨T2, X2, e2, st2⟩ := getF X1 hx hZ hown (host := "") (Or.inl (hw _ (List.mem_of_getElem? (i := 14) rfl))) Via.refl e1 pf2 (g := (mkF m 5 #[.val (.ref ax), .val (.ref bx)] [(.ref bx), (.long ua)])) rfl rfl (hb hby own_d6_5)
  refine own_by st2 ?_
  show own_Go p e below _ (T2.setTop (mkF m 8 #[.val (.ref ax), .val (.ref bx)] [(.long va), (.long ua)]))
  refine own_by (fun _ => XS.lcmp X2.here hx rfl (hb hby own_d6_8) rfl) ?_
  show own_Go p e below _ (T2.setTop (mkF m 9 #[.val (.ref ax), .val (.ref bx)] [(.int (lcmpW ua va))]))
  suffices J3 : ∀ (T' : State) (v3_t0 : Int32), v3_t0 = (if ua < va then (0 : Int32) else (if ub < vb then (0 : Int32) else (1 : Int32))) → own_At p l e ({ frames := 0, cells := 0, slots := 0, locals := 0 } : Room) s m #[(.ref ax), (.ref bx)] below meth c n0 T' h0 0 0 → own_Go p e below (own_End s below (own_Q6 Z ax bx ua ub va vb h0 n0) ({ frames := 0, cells := 0, slots := 0, locals := 0 } : Room).cells ({ frames := 0, cells := 0, slots := 0, locals := 0 } : Room).slots) (T'.setTop (mkF m 29 #[.val (.ref ax), .val (.ref bx)] [(.int v3_t0)])) by
    by_cases hc9_4 : ua < va
    ·
      skip
      refine own_by (fun _ => XS.ifYes X2.here hx rfl (pc0 := 9) (pc' := 28) rfl (hb hby own_d6_9) rfl ((if0 _ _).trans (tlt ((lw_lt _ _).mpr hc9_4)).1) (by decide) (by decide)) ?_
      show own_Go p e below _ (T2.setTop (mkF m 28 #[.val (.ref ax), .val (.ref bx)] []))
      refine own_by (fun _ => XS.iconst X2.here hx rfl (hb hby own_d6_28)) ?_
      show own_Go p e below _ (T2.setTop (mkF m 29 #[.val (.ref ax), .val (.ref bx)] [(.int (0 : Int32))]))
      exact J3 _ _ (by first | rfl | simp only [if_pos hc9_4]) ⟨_, X2, N0, e2⟩
    ·
      skip
      refine own_by (fun _ => XS.ifNo X2.here hx rfl (hb hby own_d6_9) rfl ((if0 _ _).trans (flt (mt (lw_lt _ _).mp hc9_4)).1)) ?_
      show own_Go p e below _ (T2.setTop (mkF m 12 #[.val (.ref ax), .val (.ref bx)] []))
      refine own_by (fun _ => XS.aloadN X2.here hx rfl (hb hby own_d6_12) rfl rfl) ?_
      show own_Go p e below _ (T2.setTop (mkF m 13 #[.val (.ref ax), .val (.ref bx)] [(.ref ax)]))
      obtain ⟨T5, X5, e5, st5⟩ := getF X2 hx hZ hown (host := "") (Or.inl (hw _ (List.mem_of_getElem? (i := 16) rfl))) Via.refl e2 pf1 (g := (mkF m 13 #[.val (.ref ax), .val (.ref bx)] [(.ref ax)])) rfl rfl (hb hby own_d6_13)
      refine own_by st5 ?_
      show own_Go p e below _ (T5.setTop (mkF m 16 #[.val (.ref ax), .val (.ref bx)] [(.long ub)]))
      refine own_by (fun _ => XS.aloadN X5.here hx rfl (hb hby own_d6_16) rfl rfl) ?_
      show own_Go p e below _ (T5.setTop (mkF m 17 #[.val (.ref ax), .val (.ref bx)] [(.ref bx), (.long ub)]))
      obtain ⟨T6, X6, e6, st6⟩ := getF X5 hx hZ hown (host := "") (Or.inl (hw _ (List.mem_of_getElem? (i := 16) rfl))) Via.refl e5 pf3 (g := (mkF m 17 #[.val (.ref ax), .val (.ref bx)] [(.ref bx), (.long ub)])) rfl rfl (hb hby own_d6_17)
      refine own_by st6 ?_
      show own_Go p e below _ (T6.setTop (mkF m 20 #[.val (.ref ax), .val (.ref bx)] [(.long vb), (.long ub)]))
      refine own_by (fun _ => XS.lcmp X6.here hx rfl (hb hby own_d6_20) rfl) ?_
      show own_Go p e below _ (T6.setTop (mkF m 21 #[.val (.ref ax), .val (.ref bx)] [(.int (lcmpW ub vb))]))
      by_cases hc21_7 : ub < vb
      ·
        skip
        refine own_by (fun _ => XS.ifYes X6.here hx rfl (pc0 := 21) (pc' := 28) rfl (hb hby own_d6_21) rfl ((if0 _ _).trans (tlt ((lw_lt _ _).mpr hc21_7)).1) (by decide) (by decide)) ?_
        show own_Go p e below _ (T6.setTop (mkF m 28 #[.val (.ref ax), .val (.ref bx)] []))
        refine own_by (fun _ => XS.iconst X6.here hx rfl (hb hby own_d6_28)) ?_
        show own_Go p e below _ (T6.setTop (mkF m 29 #[.val (.ref ax), .val (.ref bx)] [(.int (0 : Int32))]))
        exact J3 _ _ (by first | rfl | simp only [if_neg hc9_4, if_pos hc21_7]) ⟨_, X6, N0, e6⟩
      ·
        skip
        refine own_by (fun _ => XS.ifNo X6.here hx rfl (hb hby own_d6_21) rfl ((if0 _ _).trans (flt (mt (lw_lt _ _).mp hc21_7)).1)) ?_
        show own_Go p e below _ (T6.setTop (mkF m 24 #[.val (.ref ax), .val (.ref bx)] []))
        refine own_by (fun _ => XS.iconst X6.here hx rfl (hb hby own_d6_24)) ?_
        show own_Go p e below _ (T6.setTop (mkF m 25 #[.val (.ref ax), .val (.ref bx)] [(.int (1 : Int32))]))
        refine own_by (fun _ => XS.goto X6.here hx rfl (pc0 := 25) (pc' := 29) rfl (hb hby own_d6_25) (by decide) (by decide)) ?_
        show own_Go p e below _ (T6.setTop (mkF m 29 #[.val (.ref ax), .val (.ref bx)] [(.int (1 : Int32))]))
        exact J3 _ _ (by first | rfl | simp only [if_neg hc9_4, if_neg hc21_7]) ⟨_, X6, N0, e6⟩
  intro T3 v3_t0 hv3_t0 ⟨locs3, X3, N3, e3⟩
  show own_Go p e below _ (T3.setTop (mkF m 29 #[.val (.ref ax), .val (.ref bx)] [(.int v3_t0)]))
  exact own_retZ X3 hx hlk e3 (by rw [hv3_t0]; (repeat' split) <;> first | exact Or.inl rfl | exact Or.inr rfl) hret (hb hby own_d6_29) (by decide) (by decide) ⟨(by subst hv3_t0; first | rfl | simp only [own_covers]), N3, rfl⟩

def own_law (xa : Int64) (xb : Int64) (xc : Int64) (xd : Int64) (xe : Int32) : Int32 := (if (own_covers xa xb (if (xe &&& (1 : Int32)) = (0 : Int32) then xc else xa) (if (xe &&& (2 : Int32)) = (0 : Int32) then xd else xb)) = (own_eq (own_max xa (if (xe &&& (1 : Int32)) = (0 : Int32) then xc else xa)) (own_max xb (if (xe &&& (2 : Int32)) = (0 : Int32) then xd else xb)) xa xb) then (if (if (own_covers xa xb (if (xe &&& (1 : Int32)) = (0 : Int32) then xc else xa) (if (xe &&& (2 : Int32)) = (0 : Int32) then xd else xb)) = (0 : Int32) then (0 : Int32) else (if (own_covers (if (xe &&& (1 : Int32)) = (0 : Int32) then xc else xa) (if (xe &&& (2 : Int32)) = (0 : Int32) then xd else xb) xa xb) = (0 : Int32) then (0 : Int32) else (1 : Int32))) = (own_eq xa xb (if (xe &&& (1 : Int32)) = (0 : Int32) then xc else xa) (if (xe &&& (2 : Int32)) = (0 : Int32) then xd else xb)) then (1 : Int32) else (0 : Int32)) else (0 : Int32))
theorem own_plain (xa xb xc xd : Int64) (xe : Int32) : own_law xa xb xc xd xe = 1 := by
  simp only [own_law]
  generalize (if xe &&& (1 : Int32) = (0 : Int32) then xc else xa) = u
  generalize (if xe &&& (2 : Int32) = (0 : Int32) then xd else xb) = w
  simp only [own_eq, own_covers, own_max, Int64.lt_iff_toInt_lt]
  have i1 : ∀ a b : Int64, a = b ↔ a.toInt = b.toInt := fun a b => Int64.toInt_inj.symm
  repeat' split
  all_goals first | rfl | (exfalso; simp only [i1] at *; omega) | (exfalso; simp_all [i1]; done) | (exfalso; simp_all [i1]; omega)

theorem own_pn0 : plainName "com/example/mirrorline/mirrorline/store/HeadCoversPinLaw" = true := by first | (simp [plainName, overriddenIn]; done) | decide +kernel
theorem own_ef0 (m : MethodId) (x0 : Int64) (x1 : Int64) (x2 : Int64) (x3 : Int64) (x4 : Int32) : entryFrame m #[(.long x0), (.long x1), (.long x2), (.long x3), (.int x4)] maxLocals = mkF m 0 #[.val (.long x0), .second, .val (.long x1), .second, .val (.long x2), .second, .val (.long x3), .second, .val (.int x4), .unset, .unset, .unset, .unset, .unset, .unset, .unset, .unset, .unset, .unset, .unset] [] := by first | (simp [entryFrame, mkF, argsToLocals, Value.category, maxLocals]; done) | rfl
def own_Q0 (Z : State) (xa : Int64) (xb : Int64) (xc : Int64) (xd : Int64) (xe : Int32) (h0 : Heap) (n0 : Nat) (v : Option Value) (h : Heap) (L : List Loc) : Prop := v = some (.int (1 : Int32)) ∧ Fr n0 L
theorem own_rm0 (l : Launch) (Z : State) (a0 : Array Value) (hw : ∀ d ∈ tables_1, d.before a0 Z = true) (ws : List Jvm.Cond) (xa : Int64) (xb : Int64) (xc : Int64) (xd : Int64) (xe : Int32) (h0 : Heap) (n0 : Nat) (Z0 : n0 ≤ h0.size) :
    MetFree l x (head1 (Jvm.Cond.code x code maxLocals ret :: ws) room_1) (fun a U => a = #[(.long xa), (.long xb), (.long xc), (.long xd), (.int xe)] ∧ Z.Warmed39 U.vm ∧ U.heap = h0) (fun _ _ _ _ _ => True) (fun _ U o U' => ∃ v L, o = .returned v ∧ own_Q0 Z xa xb xc xd xe h0 n0 v U'.heap L ∧ FrameEnd U o U' L room_1.cells room_1.slots) := by
  refine MetFree.of_bodySF (plainFor_of_name own_pn0) hisR ?_
  intro p e s m args below meth c s₁ Bd hml0 hP hK
  obtain ⟨rfl, hZ, hh⟩ := hP
  have hx := Bd.exec
  have hby := Bd.bytes
  have hlk := Bd.notSynchronized
  have hret := Bd.returns
  have hml : c.maxLocals = 20 := hml0
  have hown : s.vm.findClass "com/example/mirrorline/mirrorline/store/HeadCoversPinLaw" = some m.cls := findClass_of_methodNamed Bd.named
  have hnm := (name_of_methodNamed Bd.named Bd.method).1
  have X0 : Stand p l e room_1 s m #[(.long xa), (.long xb), (.long xc), (.long xd), (.int xe)] below meth c s₁ [] 0 0 := Stand.of_body Bd
  have e0 : s₁.heap = h0 := by rw [← hh, Bd.state]; rfl
  have N0 := Fr.nil n0
  suffices key : own_Go p e below (own_End s below (own_Q0 Z xa xb xc xd xe h0 n0) room_1.cells room_1.slots) (s₁.setTop (mkF m 0 #[.val (.long xa), .second, .val (.long xb), .second, .val (.long xc), .second, .val (.long xd), .second, .val (.int xe), .unset, .unset, .unset, .unset, .unset, .unset, .unset, .unset, .unset, .unset, .unset] [])) by
    obtain ⟨t, k1, k2, v, L, k3, k4, k5⟩ := key
    exact ⟨t, _, castTop (own_ef0 m xa xb xc xd xe) k1, k2, k3, v, L, rfl, k4, k5⟩
  show own_Go p e below _ (s₁.setTop (mkF m 0 #[.val (.long xa), .second, .val (.long xb), .second, .val (.long xc), .second, .val (.long xd), .second, .val (.int xe), .unset, .unset, .unset, .unset, .unset, .unset, .unset, .unset, .unset, .unset, .unset] []))
  refine own_by (fun _ => XS.iload X0.here hx rfl (hb hby at_0) rfl) ?_
  show own_Go p e below _ (s₁.setTop (mkF m 2 #[.val (.long xa), .second, .val (.long xb), .second, .val (.long xc), .second, .val (.long xd), .second, .val (.int xe), .unset, .unset, .unset, .unset, .unset, .unset, .unset, .unset, .unset, .unset, .unset] [(.int xe)]))
  refine own_by (fun _ => XS.iconst X0.here hx rfl (hb hby at_2)) ?_
  show own_Go p e below _ (s₁.setTop (mkF m 3 #[.val (.long xa), .second, .val (.long xb), .second, .val (.long xc), .second, .val (.long xd), .second, .val (.int xe), .unset, .unset, .unset, .unset, .unset, .unset, .unset, .unset, .unset, .unset, .unset] [(.int (1 : Int32)), (.int xe)]))
  refine own_by (fun _ => XS.iand X0.here hx rfl (hb hby at_3) rfl) ?_
  show own_Go p e below _ (s₁.setTop (mkF m 4 #[.val (.long xa), .second, .val (.long xb), .second, .val (.long xc), .second, .val (.long xd), .second, .val (.int xe), .unset, .unset, .unset, .unset, .unset, .unset, .unset, .unset, .unset, .unset, .unset] [(.int (xe &&& (1 : Int32)))]))
  suffices J1 : ∀ (T' : State) (v1_t0 : Int64), v1_t0 = (if (xe &&& (1 : Int32)) = (0 : Int32) then xc else xa) → own_At p l e room_1 s m #[(.long xa), (.long xb), (.long xc), (.long xd), (.int xe)] below meth c n0 T' h0 0 0 → own_Go p e below (own_End s below (own_Q0 Z xa xb xc xd xe h0 n0) room_1.cells room_1.slots) (T'.setTop (mkF m 13 #[.val (.long xa), .second, .val (.long xb), .second, .val (.long xc), .second, .val (.long xd), .second, .val (.int xe), .unset, .unset, .unset, .unset, .unset, .unset, .unset, .unset, .unset, .unset, .unset] [(.long v1_t0)])) by
    by_cases hc4_2 : (xe &&& (1 : Int32)) = (0 : Int32)
    ·
      skip
      refine own_by (fun _ => XS.ifYes X0.here hx rfl (pc0 := 4) (pc' := 11) rfl (hb hby at_4) rfl ((if0 _ _).trans (teq hc4_2).1) (by decide) (by decide)) ?_
      show own_Go p e below _ (s₁.setTop (mkF m 11 #[.val (.long xa), .second, .val (.long xb), .second, .val (.long xc), .second, .val (.long xd), .second, .val (.int xe), .unset, .unset, .unset, .unset, .unset, .unset, .unset, .unset, .unset, .unset, .unset] []))
      refine own_by (fun _ => XS.lload X0.here hx rfl (hb hby at_11) rfl) ?_
      show own_Go p e below _ (s₁.setTop (mkF m 13 #[.val (.long xa), .second, .val (.long xb), .second, .val (.long xc), .second, .val (.long xd), .second, .val (.int xe), .unset, .unset, .unset, .unset, .unset, .unset, .unset, .unset, .unset, .unset, .unset] [(.long xc)]))
      exact J1 _ _ (by first | rfl | simp only [if_pos hc4_2]) ⟨_, X0, N0, e0⟩
    ·
      skip
      refine own_by (fun _ => XS.ifNo X0.here hx rfl (hb hby at_4) rfl ((if0 _ _).trans (feq hc4_2).1)) ?_
      show own_Go p e below _ (s₁.setTop (mkF m 7 #[.val (.long xa), .second, .val (.long xb), .second, .val (.long xc), .second, .val (.long xd), .second, .val (.int xe), .unset, .unset, .unset, .unset, .unset, .unset, .unset, .unset, .unset, .unset, .unset] []))
      refine own_by (fun _ => XS.lloadN X0.here hx rfl (hb hby at_7) rfl) ?_
      show own_Go p e below _ (s₁.setTop (mkF m 8 #[.val (.long xa), .second, .val (.long xb), .second, .val (.long xc), .second, .val (.long xd), .second, .val (.int xe), .unset, .unset, .unset, .unset, .unset, .unset, .unset, .unset, .unset, .unset, .unset] [(.long xa)]))
      refine own_by (fun _ => XS.goto X0.here hx rfl (pc0 := 8) (pc' := 13) rfl (hb hby at_8) (by decide) (by decide)) ?_
      show own_Go p e below _ (s₁.setTop (mkF m 13 #[.val (.long xa), .second, .val (.long xb), .second, .val (.long xc), .second, .val (.long xd), .second, .val (.int xe), .unset, .unset, .unset, .unset, .unset, .unset, .unset, .unset, .unset, .unset, .unset] [(.long xa)]))
      exact J1 _ _ (by first | rfl | simp only [if_neg hc4_2]) ⟨_, X0, N0, e0⟩
  intro T1 v1_t0 hv1_t0 ⟨locs1, X1, N1, e1⟩
  show own_Go p e below _ (T1.setTop (mkF m 13 #[.val (.long xa), .second, .val (.long xb), .second, .val (.long xc), .second, .val (.long xd), .second, .val (.int xe), .unset, .unset, .unset, .unset, .unset, .unset, .unset, .unset, .unset, .unset, .unset] [(.long v1_t0)]))
  refine own_by (fun _ => XS.lstore X1.here hx rfl (hb hby at_13) rfl (l' := #[.val (.long xa), .second, .val (.long xb), .second, .val (.long xc), .second, .val (.long xd), .second, .val (.int xe), .val (.long v1_t0), .second, .unset, .unset, .unset, .unset, .unset, .unset, .unset, .unset, .unset]) rfl) ?_
  show own_Go p e below _ (T1.setTop (mkF m 15 #[.val (.long xa), .second, .val (.long xb), .second, .val (.long xc), .second, .val (.long xd), .second, .val (.int xe), .val (.long v1_t0), .second, .unset, .unset, .unset, .unset, .unset, .unset, .unset, .unset, .unset] []))
  refine own_by (fun _ => XS.iload X1.here hx rfl (hb hby at_15) rfl) ?_
  show own_Go p e below _ (T1.setTop (mkF m 17 #[.val (.long xa), .second, .val (.long xb), .second, .val (.long xc), .second, .val (.long xd), .second, .val (.int xe), .val (.long v1_t0), .second, .unset, .unset, .unset, .unset, .unset, .unset, .unset, .unset, .unset] [(.int xe)]))
  refine own_by (fun _ => XS.iconst X1.here hx rfl (hb hby at_17)) ?_
  show own_Go p e below _ (T1.setTop (mkF m 18 #[.val (.long xa), .second, .val (.long xb), .second, .val (.long xc), .second, .val (.long xd), .second, .val (.int xe), .val (.long v1_t0), .second, .unset, .unset, .unset, .unset, .unset, .unset, .unset, .unset, .unset] [(.int (2 : Int32)), (.int xe)]))
  refine own_by (fun _ => XS.iand X1.here hx rfl (hb hby at_18) rfl) ?_
  show own_Go p e below _ (T1.setTop (mkF m 19 #[.val (.long xa), .second, .val (.long xb), .second, .val (.long xc), .second, .val (.long xd), .second, .val (.int xe), .val (.long v1_t0), .second, .unset, .unset, .unset, .unset, .unset, .unset, .unset, .unset, .unset] [(.int (xe &&& (2 : Int32)))]))
  suffices J3 : ∀ (T' : State) (v3_t0 : Int64), v3_t0 = (if (xe &&& (2 : Int32)) = (0 : Int32) then xd else xb) → own_At p l e room_1 s m #[(.long xa), (.long xb), (.long xc), (.long xd), (.int xe)] below meth c n0 T' h0 0 0 → own_Go p e below (own_End s below (own_Q0 Z xa xb xc xd xe h0 n0) room_1.cells room_1.slots) (T'.setTop (mkF m 28 #[.val (.long xa), .second, .val (.long xb), .second, .val (.long xc), .second, .val (.long xd), .second, .val (.int xe), .val (.long v1_t0), .second, .unset, .unset, .unset, .unset, .unset, .unset, .unset, .unset, .unset] [(.long v3_t0)])) by
    by_cases hc19_4 : (xe &&& (2 : Int32)) = (0 : Int32)
    ·
      skip
      refine own_by (fun _ => XS.ifYes X1.here hx rfl (pc0 := 19) (pc' := 26) rfl (hb hby at_19) rfl ((if0 _ _).trans (teq hc19_4).1) (by decide) (by decide)) ?_
      show own_Go p e below _ (T1.setTop (mkF m 26 #[.val (.long xa), .second, .val (.long xb), .second, .val (.long xc), .second, .val (.long xd), .second, .val (.int xe), .val (.long v1_t0), .second, .unset, .unset, .unset, .unset, .unset, .unset, .unset, .unset, .unset] []))
      refine own_by (fun _ => XS.lload X1.here hx rfl (hb hby at_26) rfl) ?_
      show own_Go p e below _ (T1.setTop (mkF m 28 #[.val (.long xa), .second, .val (.long xb), .second, .val (.long xc), .second, .val (.long xd), .second, .val (.int xe), .val (.long v1_t0), .second, .unset, .unset, .unset, .unset, .unset, .unset, .unset, .unset, .unset] [(.long xd)]))
      exact J3 _ _ (by first | rfl | simp only [if_pos hc19_4]) ⟨_, X1, N1, e1⟩
    ·
      skip
      refine own_by (fun _ => XS.ifNo X1.here hx rfl (hb hby at_19) rfl ((if0 _ _).trans (feq hc19_4).1)) ?_
      show own_Go p e below _ (T1.setTop (mkF m 22 #[.val (.long xa), .second, .val (.long xb), .second, .val (.long xc), .second, .val (.long xd), .second, .val (.int xe), .val (.long v1_t0), .second, .unset, .unset, .unset, .unset, .unset, .unset, .unset, .unset, .unset] []))
      refine own_by (fun _ => XS.lloadN X1.here hx rfl (hb hby at_22) rfl) ?_
      show own_Go p e below _ (T1.setTop (mkF m 23 #[.val (.long xa), .second, .val (.long xb), .second, .val (.long xc), .second, .val (.long xd), .second, .val (.int xe), .val (.long v1_t0), .second, .unset, .unset, .unset, .unset, .unset, .unset, .unset, .unset, .unset] [(.long xb)]))
      refine own_by (fun _ => XS.goto X1.here hx rfl (pc0 := 23) (pc' := 28) rfl (hb hby at_23) (by decide) (by decide)) ?_
      show own_Go p e below _ (T1.setTop (mkF m 28 #[.val (.long xa), .second, .val (.long xb), .second, .val (.long xc), .second, .val (.long xd), .second, .val (.int xe), .val (.long v1_t0), .second, .unset, .unset, .unset, .unset, .unset, .unset, .unset, .unset, .unset] [(.long xb)]))
      exact J3 _ _ (by first | rfl | simp only [if_neg hc19_4]) ⟨_, X1, N1, e1⟩
  intro T3 v3_t0 hv3_t0 ⟨locs3, X3, N3, e3⟩
  show own_Go p e below _ (T3.setTop (mkF m 28 #[.val (.long xa), .second, .val (.long xb), .second, .val (.long xc), .second, .val (.long xd), .second, .val (.int xe), .val (.long v1_t0), .second, .unset, .unset, .unset, .unset, .unset, .unset, .unset, .unset, .unset] [(.long v3_t0)]))
  refine own_by (fun _ => XS.lstore X3.here hx rfl (hb hby at_28) rfl (l' := #[.val (.long xa), .second, .val (.long xb), .second, .val (.long xc), .second, .val (.long xd), .second, .val (.int xe), .val (.long v1_t0), .second, .val (.long v3_t0), .second, .unset, .unset, .unset, .unset, .unset, .unset, .unset]) rfl) ?_
  show own_Go p e below _ (T3.setTop (mkF m 30 #[.val (.long xa), .second, .val (.long xb), .second, .val (.long xc), .second, .val (.long xd), .second, .val (.int xe), .val (.long v1_t0), .second, .val (.long v3_t0), .second, .unset, .unset, .unset, .unset, .unset, .unset, .unset] []))
  obtain ⟨T5, h5, X5, e5, E5, A5, D5, -, st5⟩ := newO X3 hx hZ hown (hw _ (List.mem_of_getElem? (i := 0) rfl)) (hw _ (List.mem_of_getElem? (i := 1) rfl)) (hw _ (List.mem_of_getElem? (i := 2) rfl)) e3 (g := (mkF m 30 #[.val (.long xa), .second, .val (.long xb), .second, .val (.long xc), .second, .val (.long xd), .second, .val (.int xe), .val (.long v1_t0), .second, .val (.long v3_t0), .second, .unset, .unset, .unset, .unset, .unset, .unset, .unset] [])) rfl (hb hby at_30) (by decide) (by decide)
  obtain ⟨b5, g5⟩ : ∃ z, z = h0.size := ⟨_, rfl⟩
  rw [← g5] at A5 D5 st5
  refine own_by st5 ?_
  have ge5 : n0 ≤ b5 := Nat.le_trans Z0 (Nat.le_of_eq g5.symm)
  have z5 : n0 ≤ h5.size := Nat.le_trans Z0 E5.1
  have fz5_first : Fld Z h5 b5 "com/example/mirrorline/mirrorline/store/Head" "first" "J" (.long (0 : Int64)) := D5 (Or.inr (hw _ (List.mem_of_getElem? (i := 15) rfl))) (ty := .long) (by decide)
  have fz5_resets : Fld Z h5 b5 "com/example/mirrorline/mirrorline/store/Head" "resets" "J" (.long (0 : Int64)) := D5 (Or.inr (hw _ (List.mem_of_getElem? (i := 17) rfl))) (ty := .long) (by decide)
  show own_Go p e below _ (T5.setTop (mkF m 33 #[.val (.long xa), .second, .val (.long xb), .second, .val (.long xc), .second, .val (.long xd), .second, .val (.int xe), .val (.long v1_t0), .second, .val (.long v3_t0), .second, .unset, .unset, .unset, .unset, .unset, .unset, .unset] [(.ref b5)]))
  refine own_by (fun _ => XS.dup X5.here hx rfl (hb hby at_33) rfl rfl) ?_
  show own_Go p e below _ (T5.setTop (mkF m 34 #[.val (.long xa), .second, .val (.long xb), .second, .val (.long xc), .second, .val (.long xd), .second, .val (.int xe), .val (.long v1_t0), .second, .val (.long v3_t0), .second, .unset, .unset, .unset, .unset, .unset, .unset, .unset] [(.ref b5), (.ref b5)]))
  refine own_by (fun _ => XS.lloadN X5.here hx rfl (hb hby at_34) rfl) ?_
  show own_Go p e below _ (T5.setTop (mkF m 35 #[.val (.long xa), .second, .val (.long xb), .second, .val (.long xc), .second, .val (.long xd), .second, .val (.int xe), .val (.long v1_t0), .second, .val (.long v3_t0), .second, .unset, .unset, .unset, .unset, .unset, .unset, .unset] [(.long xa), (.ref b5), (.ref b5)]))
  refine own_by (fun _ => XS.lloadN X5.here hx rfl (hb hby at_35) rfl) ?_
  show own_Go p e below _ (T5.setTop (mkF m 36 #[.val (.long xa), .second, .val (.long xb), .second, .val (.long xc), .second, .val (.long xd), .second, .val (.int xe), .val (.long v1_t0), .second, .val (.long v3_t0), .second, .unset, .unset, .unset, .unset, .unset, .unset, .unset] [(.long xb), (.long xa), (.ref b5), (.ref b5)]))
  obtain ⟨_, _, ⟨T6, L6, k6, n6⟩, -, X6, ⟨Lc6, hQ6, l6, y6, z6'⟩, st6⟩ := X5.specialBack hx (y := (⟨"com/example/mirrorline/mirrorline/store/Head", "<init>", "(JJ)V"⟩ : MethodName)) rfl hown (mvT hZ (hw _ (List.mem_of_getElem? (i := 3) rfl))) (mvT hZ (hw _ (List.mem_of_getElem? (i := 4) rfl))) (mvT hZ (hw _ (List.mem_of_getElem? (i := 5) rfl))) (by decide) (backOf (W := 1) (own_rm1 l Z a0 hw [] b5 xa xb (0 : Int64) (0 : Int64) h5 n0 z5 A5 fz5_first fz5_resets ge5) hZ (hw _ (List.mem_of_getElem? (i := 5) rfl)) (hw _ (List.mem_of_getElem? (i := 2) rfl)) (by decide) (by decide)) (g := (mkF m 36 #[.val (.long xa), .second, .val (.long xb), .second, .val (.long xc), .second, .val (.long xd), .second, .val (.int xe), .val (.long v1_t0), .second, .val (.long v3_t0), .second, .unset, .unset, .unset, .unset, .unset, .unset, .unset] [(.long xb), (.long xa), (.ref b5), (.ref b5)])) rfl (by rw [hml]; rfl) (Steps.refl _) (a := b5) (argsL := [(.long xa), (.long xb)]) (rest := [(.ref b5)]) (lenOf own_pd1 rfl) rfl (by show 2 * 0 + _ ≤ _; exact Nat.le_of_eq rfl) (hb hby at_36) (fun _ _ => ⟨rfl, e5, (by decide : 1 + 0 ≤ _), (by decide : 2 + 0 ≤ _)⟩)
  dsimp only [Pt.U, Pt.locs, Pt.cells, Pt.slots] at X6 l6 y6 z6' st6 hQ6
  subst l6 y6 z6'
  obtain ⟨rfl, N6q, Kc6, fc6_0, fc6_1⟩ := hQ6
  have N6 := Fr.app N3 N6q
  refine own_tr st6 ?_
  have z6 : n0 ≤ T6.heap.size := Nat.le_trans z5 Kc6.1
  show own_Go p e below _ (T6.setTop (mkF m 39 #[.val (.long xa), .second, .val (.long xb), .second, .val (.long xc), .second, .val (.long xd), .second, .val (.int xe), .val (.long v1_t0), .second, .val (.long v3_t0), .second, .unset, .unset, .unset, .unset, .unset, .unset, .unset] [(.ref b5)]))
  refine own_by (fun _ => XS.astore X6.here hx rfl (hb hby at_39) rfl rfl (l' := #[.val (.long xa), .second, .val (.long xb), .second, .val (.long xc), .second, .val (.long xd), .second, .val (.int xe), .val (.long v1_t0), .second, .val (.long v3_t0), .second, .val (.ref b5), .unset, .unset, .unset, .unset, .unset, .unset]) rfl) ?_
  show own_Go p e below _ (T6.setTop (mkF m 41 #[.val (.long xa), .second, .val (.long xb), .second, .val (.long xc), .second, .val (.long xd), .second, .val (.int xe), .val (.long v1_t0), .second, .val (.long v3_t0), .second, .val (.ref b5), .unset, .unset, .unset, .unset, .unset, .unset] []))
  obtain ⟨T7, h7, X7, e7, E7, A7, D7, -, st7⟩ := newO X6 hx hZ hown (hw _ (List.mem_of_getElem? (i := 0) rfl)) (hw _ (List.mem_of_getElem? (i := 1) rfl)) (hw _ (List.mem_of_getElem? (i := 2) rfl)) rfl (g := (mkF m 41 #[.val (.long xa), .second, .val (.long xb), .second, .val (.long xc), .second, .val (.long xd), .second, .val (.int xe), .val (.long v1_t0), .second, .val (.long v3_t0), .second, .val (.ref b5), .unset, .unset, .unset, .unset, .unset, .unset] [])) rfl (hb hby at_41) (by decide) (by decide)
  obtain ⟨b7, g7⟩ : ∃ z, z = T6.heap.size := ⟨_, rfl⟩
  rw [← g7] at A7 D7 st7
  refine own_by st7 ?_
  have ge7 : n0 ≤ b7 := Nat.le_trans z6 (Nat.le_of_eq g7.symm)
  have f8 : Exa Z T6.heap b5 "com/example/mirrorline/mirrorline/store/Head" := (A5.keep Kc6)
  have ne7_b5 : b5 ≠ b7 := Nat.ne_of_lt (Nat.lt_of_lt_of_le f8.lt (Nat.le_of_eq g7.symm))
  have z7 : n0 ≤ h7.size := Nat.le_trans z6 E7.1
  have fz7_first : Fld Z h7 b7 "com/example/mirrorline/mirrorline/store/Head" "first" "J" (.long (0 : Int64)) := D7 (Or.inr (hw _ (List.mem_of_getElem? (i := 15) rfl))) (ty := .long) (by decide)
  have fz7_resets : Fld Z h7 b7 "com/example/mirrorline/mirrorline/store/Head" "resets" "J" (.long (0 : Int64)) := D7 (Or.inr (hw _ (List.mem_of_getElem? (i := 17) rfl))) (ty := .long) (by decide)
  show own_Go p e below _ (T7.setTop (mkF m 44 #[.val (.long xa), .second, .val (.long xb), .second, .val (.long xc), .second, .val (.long xd), .second, .val (.int xe), .val (.long v1_t0), .second, .val (.long v3_t0), .second, .val (.ref b5), .unset, .unset, .unset, .unset, .unset, .unset] [(.ref b7)]))
  refine own_by (fun _ => XS.dup X7.here hx rfl (hb hby at_44) rfl rfl) ?_
  show own_Go p e below _ (T7.setTop (mkF m 45 #[.val (.long xa), .second, .val (.long xb), .second, .val (.long xc), .second, .val (.long xd), .second, .val (.int xe), .val (.long v1_t0), .second, .val (.long v3_t0), .second, .val (.ref b5), .unset, .unset, .unset, .unset, .unset, .unset] [(.ref b7), (.ref b7)]))
  refine own_by (fun _ => XS.lload X7.here hx rfl (hb hby at_45) rfl) ?_
  show own_Go p e below _ (T7.setTop (mkF m 47 #[.val (.long xa), .second, .val (.long xb), .second, .val (.long xc), .second, .val (.long xd), .second, .val (.int xe), .val (.long v1_t0), .second, .val (.long v3_t0), .second, .val (.ref b5), .unset, .unset, .unset, .unset, .unset, .unset] [(.long v1_t0), (.ref b7), (.ref b7)]))
  refine own_by (fun _ => XS.lload X7.here hx rfl (hb hby at_47) rfl) ?_
  show own_Go p e below _ (T7.setTop (mkF m 49 #[.val (.long xa), .second, .val (.long xb), .second, .val (.long xc), .second, .val (.long xd), .second, .val (.int xe), .val (.long v1_t0), .second, .val (.long v3_t0), .second, .val (.ref b5), .unset, .unset, .unset, .unset, .unset, .unset] [(.long v3_t0), (.long v1_t0), (.ref b7), (.ref b7)]))
  obtain ⟨_, _, ⟨T9, L9, k9, n9⟩, -, X9, ⟨Lc9, hQ9, l9, y9, z9'⟩, st9⟩ := X7.specialBack hx (y := (⟨"com/example/mirrorline/mirrorline/store/Head", "<init>", "(JJ)V"⟩ : MethodName)) rfl hown (mvT hZ (hw _ (List.mem_of_getElem? (i := 3) rfl))) (mvT hZ (hw _ (List.mem_of_getElem? (i := 4) rfl))) (mvT hZ (hw _ (List.mem_of_getElem? (i := 5) rfl))) (by decide) (backOf (W := 1) (own_rm1 l Z a0 hw [] b7 v1_t0 v3_t0 (0 : Int64) (0 : Int64) h7 n0 z7 A7 fz7_first fz7_resets ge7) hZ (hw _ (List.mem_of_getElem? (i := 5) rfl)) (hw _ (List.mem_of_getElem? (i := 2) rfl)) (by decide) (by decide)) (g := (mkF m 49 #[.val (.long xa), .second, .val (.long xb), .second, .val (.long xc), .second, .val (.long xd), .second, .val (.int xe), .val (.long v1_t0), .second, .val (.long v3_t0), .second, .val (.ref b5), .unset, .unset, .unset, .unset, .unset, .unset] [(.long v3_t0), (.long v1_t0), (.ref b7), (.ref b7)])) rfl (by rw [hml]; rfl) (Steps.refl _) (a := b7) (argsL := [(.long v1_t0), (.long v3_t0)]) (rest := [(.ref b7)]) (lenOf own_pd1 rfl) rfl (by show 2 * 0 + _ ≤ _; exact Nat.le_of_eq rfl) (hb hby at_49) (fun _ _ => ⟨rfl, e7, (by decide : 2 + 0 ≤ _), (by decide : 4 + 0 ≤ _)⟩)
  dsimp only [Pt.U, Pt.locs, Pt.cells, Pt.slots] at X9 l9 y9 z9' st9 hQ9
  subst l9 y9 z9'
  obtain ⟨rfl, N9q, Kc9, fc9_0, fc9_1⟩ := hQ9
  have N9 := Fr.app N6 N9q
  refine own_tr st9 ?_
  have z9 : n0 ≤ T9.heap.size := Nat.le_trans z7 Kc9.1
  show own_Go p e below _ (T9.setTop (mkF m 52 #[.val (.long xa), .second, .val (.long xb), .second, .val (.long xc), .second, .val (.long xd), .second, .val (.int xe), .val (.long v1_t0), .second, .val (.long v3_t0), .second, .val (.ref b5), .unset, .unset, .unset, .unset, .unset, .unset] [(.ref b7)]))
  refine own_by (fun _ => XS.astore X9.here hx rfl (hb hby at_52) rfl rfl (l' := #[.val (.long xa), .second, .val (.long xb), .second, .val (.long xc), .second, .val (.long xd), .second, .val (.int xe), .val (.long v1_t0), .second, .val (.long v3_t0), .second, .val (.ref b5), .val (.ref b7), .unset, .unset, .unset, .unset, .unset]) rfl) ?_
  show own_Go p e below _ (T9.setTop (mkF m 54 #[.val (.long xa), .second, .val (.long xb), .second, .val (.long xc), .second, .val (.long xd), .second, .val (.int xe), .val (.long v1_t0), .second, .val (.long v3_t0), .second, .val (.ref b5), .val (.ref b7), .unset, .unset, .unset, .unset, .unset] []))
  obtain ⟨T10, h10, X10, e10, E10, A10, D10, -, st10⟩ := newO X9 hx hZ hown (hw _ (List.mem_of_getElem? (i := 0) rfl)) (hw _ (List.mem_of_getElem? (i := 1) rfl)) (hw _ (List.mem_of_getElem? (i := 2) rfl)) rfl (g := (mkF m 54 #[.val (.long xa), .second, .val (.long xb), .second, .val (.long xc), .second, .val (.long xd), .second, .val (.int xe), .val (.long v1_t0), .second, .val (.long v3_t0), .second, .val (.ref b5), .val (.ref b7), .unset, .unset, .unset, .unset, .unset] [])) rfl (hb hby at_54) (by decide) (by decide)
  obtain ⟨b10, g10⟩ : ∃ z, z = T9.heap.size := ⟨_, rfl⟩
  rw [← g10] at A10 D10 st10
  refine own_by st10 ?_
  have ge10 : n0 ≤ b10 := Nat.le_trans z9 (Nat.le_of_eq g10.symm)
  have f11 : Exa Z T9.heap b5 "com/example/mirrorline/mirrorline/store/Head" := ((f8.ext E7).keep Kc9)
  have ne10_b5 : b5 ≠ b10 := Nat.ne_of_lt (Nat.lt_of_lt_of_le f11.lt (Nat.le_of_eq g10.symm))
  have f12 : Exa Z T9.heap b7 "com/example/mirrorline/mirrorline/store/Head" := (A7.keep Kc9)
  have ne10_b7 : b7 ≠ b10 := Nat.ne_of_lt (Nat.lt_of_lt_of_le f12.lt (Nat.le_of_eq g10.symm))
  have z10 : n0 ≤ h10.size := Nat.le_trans z9 E10.1
  have fz10_first : Fld Z h10 b10 "com/example/mirrorline/mirrorline/store/Head" "first" "J" (.long (0 : Int64)) := D10 (Or.inr (hw _ (List.mem_of_getElem? (i := 15) rfl))) (ty := .long) (by decide)
  have fz10_resets : Fld Z h10 b10 "com/example/mirrorline/mirrorline/store/Head" "resets" "J" (.long (0 : Int64)) := D10 (Or.inr (hw _ (List.mem_of_getElem? (i := 17) rfl))) (ty := .long) (by decide)
  show own_Go p e below _ (T10.setTop (mkF m 57 #[.val (.long xa), .second, .val (.long xb), .second, .val (.long xc), .second, .val (.long xd), .second, .val (.int xe), .val (.long v1_t0), .second, .val (.long v3_t0), .second, .val (.ref b5), .val (.ref b7), .unset, .unset, .unset, .unset, .unset] [(.ref b10)]))
  refine own_by (fun _ => XS.dup X10.here hx rfl (hb hby at_57) rfl rfl) ?_
  show own_Go p e below _ (T10.setTop (mkF m 58 #[.val (.long xa), .second, .val (.long xb), .second, .val (.long xc), .second, .val (.long xd), .second, .val (.int xe), .val (.long v1_t0), .second, .val (.long v3_t0), .second, .val (.ref b5), .val (.ref b7), .unset, .unset, .unset, .unset, .unset] [(.ref b10), (.ref b10)]))
  refine own_by (fun _ => XS.lloadN X10.here hx rfl (hb hby at_58) rfl) ?_
  show own_Go p e below _ (T10.setTop (mkF m 59 #[.val (.long xa), .second, .val (.long xb), .second, .val (.long xc), .second, .val (.long xd), .second, .val (.int xe), .val (.long v1_t0), .second, .val (.long v3_t0), .second, .val (.ref b5), .val (.ref b7), .unset, .unset, .unset, .unset, .unset] [(.long xa), (.ref b10), (.ref b10)]))
  refine own_by (fun _ => XS.lload X10.here hx rfl (hb hby at_59) rfl) ?_
  show own_Go p e below _ (T10.setTop (mkF m 61 #[.val (.long xa), .second, .val (.long xb), .second, .val (.long xc), .second, .val (.long xd), .second, .val (.int xe), .val (.long v1_t0), .second, .val (.long v3_t0), .second, .val (.ref b5), .val (.ref b7), .unset, .unset, .unset, .unset, .unset] [(.long v1_t0), (.long xa), (.ref b10), (.ref b10)]))
  obtain ⟨_, _, ⟨T13, L13, k13, n13⟩, -, X13, ⟨Lc13, hQ13, l13, y13, z13'⟩, st13⟩ := Jvm.LawKit.callS X10 hx (y := (⟨"java/lang/Math", "max", "(JJ)J"⟩ : MethodName)) hown (mvT hZ (hw _ (List.mem_of_getElem? (i := 18) rfl))) (mvT hZ (hw _ (List.mem_of_getElem? (i := 19) rfl))) (mvT hZ (hw _ (List.mem_of_getElem? (i := 20) rfl))) (mvT hZ (hw _ (List.mem_of_getElem? (i := 21) rfl))) (by decide) (backOf (W := 2) (own_rm4 l Z a0 hw [] xa v1_t0 h10 n0 z10 ) hZ (hw _ (List.mem_of_getElem? (i := 21) rfl)) (hw _ (List.mem_of_getElem? (i := 20) rfl)) (by decide) (by decide)) (g := (mkF m 61 #[.val (.long xa), .second, .val (.long xb), .second, .val (.long xc), .second, .val (.long xd), .second, .val (.int xe), .val (.long v1_t0), .second, .val (.long v3_t0), .second, .val (.ref b5), .val (.ref b7), .unset, .unset, .unset, .unset, .unset] [(.long v1_t0), (.long xa), (.ref b10), (.ref b10)])) rfl (by rw [hml]; rfl) (argsL := [(.long xa), (.long v1_t0)]) (rest := [(.ref b10), (.ref b10)]) (lenOf own_pd2 rfl) rfl (by show 2 * 0 + _ ≤ _; exact Nat.le_of_eq rfl) (hb hby at_61) (fun _ _ => ⟨rfl, e10, (by decide : 3 + 0 ≤ _), (by decide : 6 + 0 ≤ _)⟩)
  dsimp only [Pt.U, Pt.locs, Pt.cells, Pt.slots] at X13 l13 y13 z13' st13 hQ13
  subst l13 y13 z13'
  obtain ⟨rfl, N13q, e13⟩ := hQ13
  have N13 := Fr.app N9 N13q
  refine own_by st13 ?_
  show own_Go p e below _ (T13.setTop (mkF m 64 #[.val (.long xa), .second, .val (.long xb), .second, .val (.long xc), .second, .val (.long xd), .second, .val (.int xe), .val (.long v1_t0), .second, .val (.long v3_t0), .second, .val (.ref b5), .val (.ref b7), .unset, .unset, .unset, .unset, .unset] [(.long (own_max xa v1_t0)), (.ref b10), (.ref b10)]))
  refine own_by (fun _ => XS.lloadN X13.here hx rfl (hb hby at_64) rfl) ?_
  show own_Go p e below _ (T13.setTop (mkF m 65 #[.val (.long xa), .second, .val (.long xb), .second, .val (.long xc), .second, .val (.long xd), .second, .val (.int xe), .val (.long v1_t0), .second, .val (.long v3_t0), .second, .val (.ref b5), .val (.ref b7), .unset, .unset, .unset, .unset, .unset] [(.long xb), (.long (own_max xa v1_t0)), (.ref b10), (.ref b10)]))
  refine own_by (fun _ => XS.lload X13.here hx rfl (hb hby at_65) rfl) ?_
  show own_Go p e below _ (T13.setTop (mkF m 67 #[.val (.long xa), .second, .val (.long xb), .second, .val (.long xc), .second, .val (.long xd), .second, .val (.int xe), .val (.long v1_t0), .second, .val (.long v3_t0), .second, .val (.ref b5), .val (.ref b7), .unset, .unset, .unset, .unset, .unset] [(.long v3_t0), (.long xb), (.long (own_max xa v1_t0)), (.ref b10), (.ref b10)]))
  obtain ⟨_, _, ⟨T14, L14, k14, n14⟩, -, X14, ⟨Lc14, hQ14, l14, y14, z14'⟩, st14⟩ := Jvm.LawKit.callS X13 hx (y := (⟨"java/lang/Math", "max", "(JJ)J"⟩ : MethodName)) hown (mvT hZ (hw _ (List.mem_of_getElem? (i := 18) rfl))) (mvT hZ (hw _ (List.mem_of_getElem? (i := 19) rfl))) (mvT hZ (hw _ (List.mem_of_getElem? (i := 20) rfl))) (mvT hZ (hw _ (List.mem_of_getElem? (i := 21) rfl))) (by decide) (backOf (W := 4) (own_rm4 l Z a0 hw [] xb v3_t0 h10 n0 z10 ) hZ (hw _ (List.mem_of_getElem? (i := 21) rfl)) (hw _ (List.mem_of_getElem? (i := 20) rfl)) (by decide) (by decide)) (g := (mkF m 67 #[.val (.long xa), .second, .val (.long xb), .second, .val (.long xc), .second, .val (.long xd), .second, .val (.int xe), .val (.long v1_t0), .second, .val (.long v3_t0), .second, .val (.ref b5), .val (.ref b7), .unset, .unset, .unset, .unset, .unset] [(.long v3_t0), (.long xb), (.long (own_max xa v1_t0)), (.ref b10), (.ref b10)])) rfl (by rw [hml]; rfl) (argsL := [(.long xb), (.long v3_t0)]) (rest := [(.long (own_max xa v1_t0)), (.ref b10), (.ref b10)]) (lenOf own_pd2 rfl) rfl (by show 2 * 0 + _ ≤ _; exact Nat.le_of_eq rfl) (hb hby at_67) (fun _ _ => ⟨rfl, e13, (by decide : 3 + 0 ≤ _), (by decide : 6 + 0 ≤ _)⟩)
  dsimp only [Pt.U, Pt.locs, Pt.cells, Pt.slots] at X14 l14 y14 z14' st14 hQ14
  subst l14 y14 z14'
  obtain ⟨rfl, N14q, e14⟩ := hQ14
  have N14 := Fr.app N13 N14q
  refine own_by st14 ?_
  show own_Go p e below _ (T14.setTop (mkF m 70 #[.val (.long xa), .second, .val (.long xb), .second, .val (.long xc), .second, .val (.long xd), .second, .val (.int xe), .val (.long v1_t0), .second, .val (.long v3_t0), .second, .val (.ref b5), .val (.ref b7), .unset, .unset, .unset, .unset, .unset] [(.long (own_max xb v3_t0)), (.long (own_max xa v1_t0)), (.ref b10), (.ref b10)]))
  obtain ⟨_, _, ⟨T15, L15, k15, n15⟩, -, X15, ⟨Lc15, hQ15, l15, y15, z15'⟩, st15⟩ := X14.specialBack hx (y := (⟨"com/example/mirrorline/mirrorline/store/Head", "<init>", "(JJ)V"⟩ : MethodName)) rfl hown (mvT hZ (hw _ (List.mem_of_getElem? (i := 3) rfl))) (mvT hZ (hw _ (List.mem_of_getElem? (i := 4) rfl))) (mvT hZ (hw _ (List.mem_of_getElem? (i := 5) rfl))) (by decide) (backOf (W := 1) (own_rm1 l Z a0 hw [] b10 (own_max xa v1_t0) (own_max xb v3_t0) (0 : Int64) (0 : Int64) h10 n0 z10 A10 fz10_first fz10_resets ge10) hZ (hw _ (List.mem_of_getElem? (i := 5) rfl)) (hw _ (List.mem_of_getElem? (i := 2) rfl)) (by decide) (by decide)) (g := (mkF m 70 #[.val (.long xa), .second, .val (.long xb), .second, .val (.long xc), .second, .val (.long xd), .second, .val (.int xe), .val (.long v1_t0), .second, .val (.long v3_t0), .second, .val (.ref b5), .val (.ref b7), .unset, .unset, .unset, .unset, .unset] [(.long (own_max xb v3_t0)), (.long (own_max xa v1_t0)), (.ref b10), (.ref b10)])) rfl (by rw [hml]; rfl) (Steps.refl _) (a := b10) (argsL := [(.long (own_max xa v1_t0)), (.long (own_max xb v3_t0))]) (rest := [(.ref b10)]) (lenOf own_pd1 rfl) rfl (by show 2 * 0 + _ ≤ _; exact Nat.le_of_eq rfl) (hb hby at_70) (fun _ _ => ⟨rfl, e14, (by decide : 3 + 0 ≤ _), (by decide : 6 + 0 ≤ _)⟩)
  dsimp only [Pt.U, Pt.locs, Pt.cells, Pt.slots] at X15 l15 y15 z15' st15 hQ15
  subst l15 y15 z15'
  obtain ⟨rfl, N15q, Kc15, fc15_0, fc15_1⟩ := hQ15
  have N15 := Fr.app N14 N15q
  refine own_tr st15 ?_
  have z15 : n0 ≤ T15.heap.size := Nat.le_trans z10 Kc15.1
  show own_Go p e below _ (T15.setTop (mkF m 73 #[.val (.long xa), .second, .val (.long xb), .second, .val (.long xc), .second, .val (.long xd), .second, .val (.int xe), .val (.long v1_t0), .second, .val (.long v3_t0), .second, .val (.ref b5), .val (.ref b7), .unset, .unset, .unset, .unset, .unset] [(.ref b10)]))
  refine own_by (fun _ => XS.astore X15.here hx rfl (hb hby at_73) rfl rfl (l' := #[.val (.long xa), .second, .val (.long xb), .second, .val (.long xc), .second, .val (.long xd), .second, .val (.int xe), .val (.long v1_t0), .second, .val (.long v3_t0), .second, .val (.ref b5), .val (.ref b7), .val (.ref b10), .unset, .unset, .unset, .unset]) rfl) ?_
  show own_Go p e below _ (T15.setTop (mkF m 75 #[.val (.long xa), .second, .val (.long xb), .second, .val (.long xc), .second, .val (.long xd), .second, .val (.int xe), .val (.long v1_t0), .second, .val (.long v3_t0), .second, .val (.ref b5), .val (.ref b7), .val (.ref b10), .unset, .unset, .unset, .unset] []))
  refine own_by (fun _ => XS.aload X15.here hx rfl (hb hby at_75) rfl rfl) ?_
  show own_Go p e below _ (T15.setTop (mkF m 77 #[.val (.long xa), .second, .val (.long xb), .second, .val (.long xc), .second, .val (.long xd), .second, .val (.int xe), .val (.long v1_t0), .second, .val (.long v3_t0), .second, .val (.ref b5), .val (.ref b7), .val (.ref b10), .unset, .unset, .unset, .unset] [(.ref b10)]))
  refine own_by (fun _ => XS.aload X15.here hx rfl (hb hby at_77) rfl rfl) ?_
  show own_Go p e below _ (T15.setTop (mkF m 79 #[.val (.long xa), .second, .val (.long xb), .second, .val (.long xc), .second, .val (.long xd), .second, .val (.int xe), .val (.long v1_t0), .second, .val (.long v3_t0), .second, .val (.ref b5), .val (.ref b7), .val (.ref b10), .unset, .unset, .unset, .unset] [(.ref b5), (.ref b10)]))
  have f16 : Fld Z T15.heap b5 "com/example/mirrorline/mirrorline/store/Head" "first" "J" (.long xa) := ((((fc6_0.ext E7).keep Kc9 (ninS ne7_b5 nin0)).ext E10).keep Kc15 (ninS ne10_b5 nin0))
  have f17 : Fld Z T15.heap b5 "com/example/mirrorline/mirrorline/store/Head" "resets" "J" (.long xb) := ((((fc6_1.ext E7).keep Kc9 (ninS ne7_b5 nin0)).ext E10).keep Kc15 (ninS ne10_b5 nin0))
  have f18 : Exa Z T15.heap b5 "com/example/mirrorline/mirrorline/store/Head" := ((f11.ext E10).keep Kc15)
  have f20 : Exa Z T15.heap b10 "com/example/mirrorline/mirrorline/store/Head" := (A10.keep Kc15)
  obtain ⟨cq19, kq19, q19a, q19b, q19c⟩ := isOf hZ rfl f20
  obtain ⟨_, _, ⟨T19, L19, k19, n19⟩, -, X19, ⟨Lc19, hQ19, l19, y19, z19'⟩, st19⟩ := X15.virtualBack hx (y := (⟨"com/example/mirrorline/mirrorline/store/Head", "equals", "(Ljava/lang/Object;)Z"⟩ : MethodName)) (z := (⟨"com/example/mirrorline/mirrorline/store/Head", "equals", "(Ljava/lang/Object;)Z"⟩ : MethodName)) hown (mvT hZ (hw _ (List.mem_of_getElem? (i := 22) rfl))) (mvT hZ (hw _ (List.mem_of_getElem? (i := 23) rfl))) (notFace_of_selects (args := #[]) (mvT hZ (hw _ (List.mem_of_getElem? (i := 25) rfl)))) (mvT hZ (hw _ (List.mem_of_getElem? (i := 25) rfl))) (mvT hZ (hw _ (List.mem_of_getElem? (i := 24) rfl))) (by decide) (backOf (W := 0) (own_rm5 l Z a0 hw [] b10 b5 (own_max xa v1_t0) (own_max xb v3_t0) xa xb T15.heap n0 z15 fc15_0 fc15_1 f16 f17 f18) hZ (hw _ (List.mem_of_getElem? (i := 26) rfl)) (hw _ (List.mem_of_getElem? (i := 2) rfl)) (by decide) (by decide)) q19a q19c (g := (mkF m 79 #[.val (.long xa), .second, .val (.long xb), .second, .val (.long xc), .second, .val (.long xd), .second, .val (.int xe), .val (.long v1_t0), .second, .val (.long v3_t0), .second, .val (.ref b5), .val (.ref b7), .val (.ref b10), .unset, .unset, .unset, .unset] [(.ref b5), (.ref b10)])) rfl (by rw [hml]; rfl) (Steps.refl _) (argsL := [(.ref b5)]) (rest := []) (lenOf own_pd3 rfl) rfl (by show 2 * 0 + _ ≤ _; exact Nat.le_of_eq rfl) (hb hby at_79) (fun _ _ => ⟨rfl, rfl, (by decide : 3 + 0 ≤ _), (by decide : 6 + 0 ≤ _)⟩)
  dsimp only [Pt.U, Pt.locs, Pt.cells, Pt.slots] at X19 l19 y19 z19' st19 hQ19
  subst l19 y19 z19'
  obtain ⟨rfl, N19q, e19⟩ := hQ19
  have N19 := Fr.app N15 N19q
  refine own_tr st19 ?_
  show own_Go p e below _ (T19.setTop (mkF m 82 #[.val (.long xa), .second, .val (.long xb), .second, .val (.long xc), .second, .val (.long xd), .second, .val (.int xe), .val (.long v1_t0), .second, .val (.long v3_t0), .second, .val (.ref b5), .val (.ref b7), .val (.ref b10), .unset, .unset, .unset, .unset] [(.int (own_eq (own_max xa v1_t0) (own_max xb v3_t0) xa xb))]))
  refine own_by (fun _ => XS.istore X19.here hx rfl (hb hby at_82) rfl (l' := #[.val (.long xa), .second, .val (.long xb), .second, .val (.long xc), .second, .val (.long xd), .second, .val (.int xe), .val (.long v1_t0), .second, .val (.long v3_t0), .second, .val (.ref b5), .val (.ref b7), .val (.ref b10), .val (.int (own_eq (own_max xa v1_t0) (own_max xb v3_t0) xa xb)), .unset, .unset, .unset]) rfl) ?_
  show own_Go p e below _ (T19.setTop (mkF m 84 #[.val (.long xa), .second, .val (.long xb), .second, .val (.long xc), .second, .val (.long xd), .second, .val (.int xe), .val (.long v1_t0), .second, .val (.long v3_t0), .second, .val (.ref b5), .val (.ref b7), .val (.ref b10), .val (.int (own_eq (own_max xa v1_t0) (own_max xb v3_t0) xa xb)), .unset, .unset, .unset] []))
  refine own_by (fun _ => XS.aload X19.here hx rfl (hb hby at_84) rfl rfl) ?_
  show own_Go p e below _ (T19.setTop (mkF m 86 #[.val (.long xa), .second, .val (.long xb), .second, .val (.long xc), .second, .val (.long xd), .second, .val (.int xe), .val (.long v1_t0), .second, .val (.long v3_t0), .second, .val (.ref b5), .val (.ref b7), .val (.ref b10), .val (.int (own_eq (own_max xa v1_t0) (own_max xb v3_t0) xa xb)), .unset, .unset, .unset] [(.ref b5)]))
  refine own_by (fun _ => XS.aload X19.here hx rfl (hb hby at_86) rfl rfl) ?_
  show own_Go p e below _ (T19.setTop (mkF m 88 #[.val (.long xa), .second, .val (.long xb), .second, .val (.long xc), .second, .val (.long xd), .second, .val (.int xe), .val (.long v1_t0), .second, .val (.long v3_t0), .second, .val (.ref b5), .val (.ref b7), .val (.ref b10), .val (.int (own_eq (own_max xa v1_t0) (own_max xb v3_t0) xa xb)), .unset, .unset, .unset] [(.ref b7), (.ref b5)]))
  have f21 : Fld Z T15.heap b7 "com/example/mirrorline/mirrorline/store/Head" "first" "J" (.long v1_t0) := ((fc9_0.ext E10).keep Kc15 (ninS ne10_b7 nin0))
  have f22 : Fld Z T15.heap b7 "com/example/mirrorline/mirrorline/store/Head" "resets" "J" (.long v3_t0) := ((fc9_1.ext E10).keep Kc15 (ninS ne10_b7 nin0))
  obtain ⟨cq23, kq23, q23a, q23b, q23c⟩ := isOf hZ e19 f18
  obtain ⟨_, _, ⟨T23, L23, k23, n23⟩, -, X23, ⟨Lc23, hQ23, l23, y23, z23'⟩, st23⟩ := X19.virtualBack hx (y := (⟨"com/example/mirrorline/mirrorline/store/Head", "covers", "(Lcom/example/mirrorline/mirrorline/store/Head;)Z"⟩ : MethodName)) (z := (⟨"com/example/mirrorline/mirrorline/store/Head", "covers", "(Lcom/example/mirrorline/mirrorline/store/Head;)Z"⟩ : MethodName)) hown (mvT hZ (hw _ (List.mem_of_getElem? (i := 29) rfl))) (mvT hZ (hw _ (List.mem_of_getElem? (i := 30) rfl))) (notFace_of_selects (args := #[]) (mvT hZ (hw _ (List.mem_of_getElem? (i := 32) rfl)))) (mvT hZ (hw _ (List.mem_of_getElem? (i := 32) rfl))) (mvT hZ (hw _ (List.mem_of_getElem? (i := 31) rfl))) (by decide) (backOf (W := 0) (own_rm6 l Z a0 hw [] b5 b7 xa xb v1_t0 v3_t0 T15.heap n0 z15 f16 f17 f21 f22) hZ (hw _ (List.mem_of_getElem? (i := 33) rfl)) (hw _ (List.mem_of_getElem? (i := 2) rfl)) (by decide) (by decide)) q23a q23c (g := (mkF m 88 #[.val (.long xa), .second, .val (.long xb), .second, .val (.long xc), .second, .val (.long xd), .second, .val (.int xe), .val (.long v1_t0), .second, .val (.long v3_t0), .second, .val (.ref b5), .val (.ref b7), .val (.ref b10), .val (.int (own_eq (own_max xa v1_t0) (own_max xb v3_t0) xa xb)), .unset, .unset, .unset] [(.ref b7), (.ref b5)])) rfl (by rw [hml]; rfl) (Steps.refl _) (argsL := [(.ref b7)]) (rest := []) (lenOf own_pd4 rfl) rfl (by show 2 * 0 + _ ≤ _; exact Nat.le_of_eq rfl) (hb hby at_88) (fun _ _ => ⟨rfl, e19, (by decide : 3 + 0 ≤ _), (by decide : 6 + 0 ≤ _)⟩)
  dsimp only [Pt.U, Pt.locs, Pt.cells, Pt.slots] at X23 l23 y23 z23' st23 hQ23
  subst l23 y23 z23'
  obtain ⟨rfl, N23q, e23⟩ := hQ23
  have N23 := Fr.app N19 N23q
  refine own_tr st23 ?_
  show own_Go p e below _ (T23.setTop (mkF m 91 #[.val (.long xa), .second, .val (.long xb), .second, .val (.long xc), .second, .val (.long xd), .second, .val (.int xe), .val (.long v1_t0), .second, .val (.long v3_t0), .second, .val (.ref b5), .val (.ref b7), .val (.ref b10), .val (.int (own_eq (own_max xa v1_t0) (own_max xb v3_t0) xa xb)), .unset, .unset, .unset] [(.int (own_covers xa xb v1_t0 v3_t0))]))
  refine own_by (fun _ => XS.istore X23.here hx rfl (hb hby at_91) rfl (l' := #[.val (.long xa), .second, .val (.long xb), .second, .val (.long xc), .second, .val (.long xd), .second, .val (.int xe), .val (.long v1_t0), .second, .val (.long v3_t0), .second, .val (.ref b5), .val (.ref b7), .val (.ref b10), .val (.int (own_eq (own_max xa v1_t0) (own_max xb v3_t0) xa xb)), .val (.int (own_covers xa xb v1_t0 v3_t0)), .unset, .unset]) rfl) ?_
  show own_Go p e below _ (T23.setTop (mkF m 93 #[.val (.long xa), .second, .val (.long xb), .second, .val (.long xc), .second, .val (.long xd), .second, .val (.int xe), .val (.long v1_t0), .second, .val (.long v3_t0), .second, .val (.ref b5), .val (.ref b7), .val (.ref b10), .val (.int (own_eq (own_max xa v1_t0) (own_max xb v3_t0) xa xb)), .val (.int (own_covers xa xb v1_t0 v3_t0)), .unset, .unset] []))
  refine own_by (fun _ => XS.aload X23.here hx rfl (hb hby at_93) rfl rfl) ?_
  show own_Go p e below _ (T23.setTop (mkF m 95 #[.val (.long xa), .second, .val (.long xb), .second, .val (.long xc), .second, .val (.long xd), .second, .val (.int xe), .val (.long v1_t0), .second, .val (.long v3_t0), .second, .val (.ref b5), .val (.ref b7), .val (.ref b10), .val (.int (own_eq (own_max xa v1_t0) (own_max xb v3_t0) xa xb)), .val (.int (own_covers xa xb v1_t0 v3_t0)), .unset, .unset] [(.ref b7)]))
  refine own_by (fun _ => XS.aload X23.here hx rfl (hb hby at_95) rfl rfl) ?_
  show own_Go p e below _ (T23.setTop (mkF m 97 #[.val (.long xa), .second, .val (.long xb), .second, .val (.long xc), .second, .val (.long xd), .second, .val (.int xe), .val (.long v1_t0), .second, .val (.long v3_t0), .second, .val (.ref b5), .val (.ref b7), .val (.ref b10), .val (.int (own_eq (own_max xa v1_t0) (own_max xb v3_t0) xa xb)), .val (.int (own_covers xa xb v1_t0 v3_t0)), .unset, .unset] [(.ref b5), (.ref b7)]))
  have f25 : Exa Z T15.heap b7 "com/example/mirrorline/mirrorline/store/Head" := ((f12.ext E10).keep Kc15)
  obtain ⟨cq24, kq24, q24a, q24b, q24c⟩ := isOf hZ e23 f25
  obtain ⟨_, _, ⟨T24, L24, k24, n24⟩, -, X24, ⟨Lc24, hQ24, l24, y24, z24'⟩, st24⟩ := X23.virtualBack hx (y := (⟨"com/example/mirrorline/mirrorline/store/Head", "covers", "(Lcom/example/mirrorline/mirrorline/store/Head;)Z"⟩ : MethodName)) (z := (⟨"com/example/mirrorline/mirrorline/store/Head", "covers", "(Lcom/example/mirrorline/mirrorline/store/Head;)Z"⟩ : MethodName)) hown (mvT hZ (hw _ (List.mem_of_getElem? (i := 29) rfl))) (mvT hZ (hw _ (List.mem_of_getElem? (i := 30) rfl))) (notFace_of_selects (args := #[]) (mvT hZ (hw _ (List.mem_of_getElem? (i := 32) rfl)))) (mvT hZ (hw _ (List.mem_of_getElem? (i := 32) rfl))) (mvT hZ (hw _ (List.mem_of_getElem? (i := 31) rfl))) (by decide) (backOf (W := 0) (own_rm6 l Z a0 hw [] b7 b5 v1_t0 v3_t0 xa xb T15.heap n0 z15 f21 f22 f16 f17) hZ (hw _ (List.mem_of_getElem? (i := 33) rfl)) (hw _ (List.mem_of_getElem? (i := 2) rfl)) (by decide) (by decide)) q24a q24c (g := (mkF m 97 #[.val (.long xa), .second, .val (.long xb), .second, .val (.long xc), .second, .val (.long xd), .second, .val (.int xe), .val (.long v1_t0), .second, .val (.long v3_t0), .second, .val (.ref b5), .val (.ref b7), .val (.ref b10), .val (.int (own_eq (own_max xa v1_t0) (own_max xb v3_t0) xa xb)), .val (.int (own_covers xa xb v1_t0 v3_t0)), .unset, .unset] [(.ref b5), (.ref b7)])) rfl (by rw [hml]; rfl) (Steps.refl _) (argsL := [(.ref b5)]) (rest := []) (lenOf own_pd4 rfl) rfl (by show 2 * 0 + _ ≤ _; exact Nat.le_of_eq rfl) (hb hby at_97) (fun _ _ => ⟨rfl, e23, (by decide : 3 + 0 ≤ _), (by decide : 6 + 0 ≤ _)⟩)
  dsimp only [Pt.U, Pt.locs, Pt.cells, Pt.slots] at X24 l24 y24 z24' st24 hQ24
  subst l24 y24 z24'
  obtain ⟨rfl, N24q, e24⟩ := hQ24
  have N24 := Fr.app N23 N24q
  refine own_tr st24 ?_
  show own_Go p e below _ (T24.setTop (mkF m 100 #[.val (.long xa), .second, .val (.long xb), .second, .val (.long xc), .second, .val (.long xd), .second, .val (.int xe), .val (.long v1_t0), .second, .val (.long v3_t0), .second, .val (.ref b5), .val (.ref b7), .val (.ref b10), .val (.int (own_eq (own_max xa v1_t0) (own_max xb v3_t0) xa xb)), .val (.int (own_covers xa xb v1_t0 v3_t0)), .unset, .unset] [(.int (own_covers v1_t0 v3_t0 xa xb))]))
  refine own_by (fun _ => XS.istore X24.here hx rfl (hb hby at_100) rfl (l' := #[.val (.long xa), .second, .val (.long xb), .second, .val (.long xc), .second, .val (.long xd), .second, .val (.int xe), .val (.long v1_t0), .second, .val (.long v3_t0), .second, .val (.ref b5), .val (.ref b7), .val (.ref b10), .val (.int (own_eq (own_max xa v1_t0) (own_max xb v3_t0) xa xb)), .val (.int (own_covers xa xb v1_t0 v3_t0)), .val (.int (own_covers v1_t0 v3_t0 xa xb)), .unset]) rfl) ?_
  show own_Go p e below _ (T24.setTop (mkF m 102 #[.val (.long xa), .second, .val (.long xb), .second, .val (.long xc), .second, .val (.long xd), .second, .val (.int xe), .val (.long v1_t0), .second, .val (.long v3_t0), .second, .val (.ref b5), .val (.ref b7), .val (.ref b10), .val (.int (own_eq (own_max xa v1_t0) (own_max xb v3_t0) xa xb)), .val (.int (own_covers xa xb v1_t0 v3_t0)), .val (.int (own_covers v1_t0 v3_t0 xa xb)), .unset] []))
  refine own_by (fun _ => XS.iload X24.here hx rfl (hb hby at_102) rfl) ?_
  show own_Go p e below _ (T24.setTop (mkF m 104 #[.val (.long xa), .second, .val (.long xb), .second, .val (.long xc), .second, .val (.long xd), .second, .val (.int xe), .val (.long v1_t0), .second, .val (.long v3_t0), .second, .val (.ref b5), .val (.ref b7), .val (.ref b10), .val (.int (own_eq (own_max xa v1_t0) (own_max xb v3_t0) xa xb)), .val (.int (own_covers xa xb v1_t0 v3_t0)), .val (.int (own_covers v1_t0 v3_t0 xa xb)), .unset] [(.int (own_covers xa xb v1_t0 v3_t0))]))
  suffices J26 : ∀ (T' : State) (v26_t0 : Int32), v26_t0 = (if (own_covers xa xb v1_t0 v3_t0) = (0 : Int32) then (0 : Int32) else (if (own_covers v1_t0 v3_t0 xa xb) = (0 : Int32) then (0 : Int32) else (1 : Int32))) → own_At p l e room_1 s m #[(.long xa), (.long xb), (.long xc), (.long xd), (.int xe)] below meth c n0 T' T15.heap 3 6 → own_Go p e below (own_End s below (own_Q0 Z xa xb xc xd xe h0 n0) room_1.cells room_1.slots) (T'.setTop (mkF m 117 #[.val (.long xa), .second, .val (.long xb), .second, .val (.long xc), .second, .val (.long xd), .second, .val (.int xe), .val (.long v1_t0), .second, .val (.long v3_t0), .second, .val (.ref b5), .val (.ref b7), .val (.ref b10), .val (.int (own_eq (own_max xa v1_t0) (own_max xb v3_t0) xa xb)), .val (.int (own_covers xa xb v1_t0 v3_t0)), .val (.int (own_covers v1_t0 v3_t0 xa xb)), .unset] [(.int v26_t0)])) by
    by_cases hc104_27 : (own_covers xa xb v1_t0 v3_t0) = (0 : Int32)
    ·
      skip
      refine own_by (fun _ => XS.ifYes X24.here hx rfl (pc0 := 104) (pc' := 116) rfl (hb hby at_104) rfl ((if0 _ _).trans (teq hc104_27).1) (by decide) (by decide)) ?_
      show own_Go p e below _ (T24.setTop (mkF m 116 #[.val (.long xa), .second, .val (.long xb), .second, .val (.long xc), .second, .val (.long xd), .second, .val (.int xe), .val (.long v1_t0), .second, .val (.long v3_t0), .second, .val (.ref b5), .val (.ref b7), .val (.ref b10), .val (.int (own_eq (own_max xa v1_t0) (own_max xb v3_t0) xa xb)), .val (.int (own_covers xa xb v1_t0 v3_t0)), .val (.int (own_covers v1_t0 v3_t0 xa xb)), .unset] []))
      refine own_by (fun _ => XS.iconst X24.here hx rfl (hb hby at_116)) ?_
      show own_Go p e below _ (T24.setTop (mkF m 117 #[.val (.long xa), .second, .val (.long xb), .second, .val (.long xc), .second, .val (.long xd), .second, .val (.int xe), .val (.long v1_t0), .second, .val (.long v3_t0), .second, .val (.ref b5), .val (.ref b7), .val (.ref b10), .val (.int (own_eq (own_max xa v1_t0) (own_max xb v3_t0) xa xb)), .val (.int (own_covers xa xb v1_t0 v3_t0)), .val (.int (own_covers v1_t0 v3_t0 xa xb)), .unset] [(.int (0 : Int32))]))
      exact J26 _ _ (by first | rfl | simp only [if_pos hc104_27]) ⟨_, X24, N24, e24⟩
    ·
      skip
      refine own_by (fun _ => XS.ifNo X24.here hx rfl (hb hby at_104) rfl ((if0 _ _).trans (feq hc104_27).1)) ?_
      show own_Go p e below _ (T24.setTop (mkF m 107 #[.val (.long xa), .second, .val (.long xb), .second, .val (.long xc), .second, .val (.long xd), .second, .val (.int xe), .val (.long v1_t0), .second, .val (.long v3_t0), .second, .val (.ref b5), .val (.ref b7), .val (.ref b10), .val (.int (own_eq (own_max xa v1_t0) (own_max xb v3_t0) xa xb)), .val (.int (own_covers xa xb v1_t0 v3_t0)), .val (.int (own_covers v1_t0 v3_t0 xa xb)), .unset] []))
      refine own_by (fun _ => XS.iload X24.here hx rfl (hb hby at_107) rfl) ?_
      show own_Go p e below _ (T24.setTop (mkF m 109 #[.val (.long xa), .second, .val (.long xb), .second, .val (.long xc), .second, .val (.long xd), .second, .val (.int xe), .val (.long v1_t0), .second, .val (.long v3_t0), .second, .val (.ref b5), .val (.ref b7), .val (.ref b10), .val (.int (own_eq (own_max xa v1_t0) (own_max xb v3_t0) xa xb)), .val (.int (own_covers xa xb v1_t0 v3_t0)), .val (.int (own_covers v1_t0 v3_t0 xa xb)), .unset] [(.int (own_covers v1_t0 v3_t0 xa xb))]))
      by_cases hc109_28 : (own_covers v1_t0 v3_t0 xa xb) = (0 : Int32)
      ·
        skip
        refine own_by (fun _ => XS.ifYes X24.here hx rfl (pc0 := 109) (pc' := 116) rfl (hb hby at_109) rfl ((if0 _ _).trans (teq hc109_28).1) (by decide) (by decide)) ?_
        show own_Go p e below _ (T24.setTop (mkF m 116 #[.val (.long xa), .second, .val (.long xb), .second, .val (.long xc), .second, .val (.long xd), .second, .val (.int xe), .val (.long v1_t0), .second, .val (.long v3_t0), .second, .val (.ref b5), .val (.ref b7), .val (.ref b10), .val (.int (own_eq (own_max xa v1_t0) (own_max xb v3_t0) xa xb)), .val (.int (own_covers xa xb v1_t0 v3_t0)), .val (.int (own_covers v1_t0 v3_t0 xa xb)), .unset] []))
        refine own_by (fun _ => XS.iconst X24.here hx rfl (hb hby at_116)) ?_
        show own_Go p e below _ (T24.setTop (mkF m 117 #[.val (.long xa), .second, .val (.long xb), .second, .val (.long xc), .second, .val (.long xd), .second, .val (.int xe), .val (.long v1_t0), .second, .val (.long v3_t0), .second, .val (.ref b5), .val (.ref b7), .val (.ref b10), .val (.int (own_eq (own_max xa v1_t0) (own_max xb v3_t0) xa xb)), .val (.int (own_covers xa xb v1_t0 v3_t0)), .val (.int (own_covers v1_t0 v3_t0 xa xb)), .unset] [(.int (0 : Int32))]))
        exact J26 _ _ (by first | rfl | simp only [if_neg hc104_27, if_pos hc109_28]) ⟨_, X24, N24, e24⟩
      ·
        skip
        refine own_by (fun _ => XS.ifNo X24.here hx rfl (hb hby at_109) rfl ((if0 _ _).trans (feq hc109_28).1)) ?_
        show own_Go p e below _ (T24.setTop (mkF m 112 #[.val (.long xa), .second, .val (.long xb), .second, .val (.long xc), .second, .val (.long xd), .second, .val (.int xe), .val (.long v1_t0), .second, .val (.long v3_t0), .second, .val (.ref b5), .val (.ref b7), .val (.ref b10), .val (.int (own_eq (own_max xa v1_t0) (own_max xb v3_t0) xa xb)), .val (.int (own_covers xa xb v1_t0 v3_t0)), .val (.int (own_covers v1_t0 v3_t0 xa xb)), .unset] []))
        refine own_by (fun _ => XS.iconst X24.here hx rfl (hb hby at_112)) ?_
        show own_Go p e below _ (T24.setTop (mkF m 113 #[.val (.long xa), .second, .val (.long xb), .second, .val (.long xc), .second, .val (.long xd), .second, .val (.int xe), .val (.long v1_t0), .second, .val (.long v3_t0), .second, .val (.ref b5), .val (.ref b7), .val (.ref b10), .val (.int (own_eq (own_max xa v1_t0) (own_max xb v3_t0) xa xb)), .val (.int (own_covers xa xb v1_t0 v3_t0)), .val (.int (own_covers v1_t0 v3_t0 xa xb)), .unset] [(.int (1 : Int32))]))
        refine own_by (fun _ => XS.goto X24.here hx rfl (pc0 := 113) (pc' := 117) rfl (hb hby at_113) (by decide) (by decide)) ?_
        show own_Go p e below _ (T24.setTop (mkF m 117 #[.val (.long xa), .second, .val (.long xb), .second, .val (.long xc), .second, .val (.long xd), .second, .val (.int xe), .val (.long v1_t0), .second, .val (.long v3_t0), .second, .val (.ref b5), .val (.ref b7), .val (.ref b10), .val (.int (own_eq (own_max xa v1_t0) (own_max xb v3_t0) xa xb)), .val (.int (own_covers xa xb v1_t0 v3_t0)), .val (.int (own_covers v1_t0 v3_t0 xa xb)), .unset] [(.int (1 : Int32))]))
        exact J26 _ _ (by first | rfl | simp only [if_neg hc104_27, if_neg hc109_28]) ⟨_, X24, N24, e24⟩
  intro T26 v26_t0 hv26_t0 ⟨locs26, X26, N26, e26⟩
  show own_Go p e below _ (T26.setTop (mkF m 117 #[.val (.long xa), .second, .val (.long xb), .second, .val (.long xc), .second, .val (.long xd), .second, .val (.int xe), .val (.long v1_t0), .second, .val (.long v3_t0), .second, .val (.ref b5), .val (.ref b7), .val (.ref b10), .val (.int (own_eq (own_max xa v1_t0) (own_max xb v3_t0) xa xb)), .val (.int (own_covers xa xb v1_t0 v3_t0)), .val (.int (own_covers v1_t0 v3_t0 xa xb)), .unset] [(.int v26_t0)]))
  refine own_by (fun _ => XS.istore X26.here hx rfl (hb hby at_117) rfl (l' := #[.val (.long xa), .second, .val (.long xb), .second, .val (.long xc), .second, .val (.long xd), .second, .val (.int xe), .val (.long v1_t0), .second, .val (.long v3_t0), .second, .val (.ref b5), .val (.ref b7), .val (.ref b10), .val (.int (own_eq (own_max xa v1_t0) (own_max xb v3_t0) xa xb)), .val (.int (own_covers xa xb v1_t0 v3_t0)), .val (.int (own_covers v1_t0 v3_t0 xa xb)), .val (.int v26_t0)]) rfl) ?_
  show own_Go p e below _ (T26.setTop (mkF m 119 #[.val (.long xa), .second, .val (.long xb), .second, .val (.long xc), .second, .val (.long xd), .second, .val (.int xe), .val (.long v1_t0), .second, .val (.long v3_t0), .second, .val (.ref b5), .val (.ref b7), .val (.ref b10), .val (.int (own_eq (own_max xa v1_t0) (own_max xb v3_t0) xa xb)), .val (.int (own_covers xa xb v1_t0 v3_t0)), .val (.int (own_covers v1_t0 v3_t0 xa xb)), .val (.int v26_t0)] []))
  refine own_by (fun _ => XS.iload X26.here hx rfl (hb hby at_119) rfl) ?_
  show own_Go p e below _ (T26.setTop (mkF m 121 #[.val (.long xa), .second, .val (.long xb), .second, .val (.long xc), .second, .val (.long xd), .second, .val (.int xe), .val (.long v1_t0), .second, .val (.long v3_t0), .second, .val (.ref b5), .val (.ref b7), .val (.ref b10), .val (.int (own_eq (own_max xa v1_t0) (own_max xb v3_t0) xa xb)), .val (.int (own_covers xa xb v1_t0 v3_t0)), .val (.int (own_covers v1_t0 v3_t0 xa xb)), .val (.int v26_t0)] [(.int (own_covers xa xb v1_t0 v3_t0))]))
  refine own_by (fun _ => XS.iload X26.here hx rfl (hb hby at_121) rfl) ?_
  show own_Go p e below _ (T26.setTop (mkF m 123 #[.val (.long xa), .second, .val (.long xb), .second, .val (.long xc), .second, .val (.long xd), .second, .val (.int xe), .val (.long v1_t0), .second, .val (.long v3_t0), .second, .val (.ref b5), .val (.ref b7), .val (.ref b10), .val (.int (own_eq (own_max xa v1_t0) (own_max xb v3_t0) xa xb)), .val (.int (own_covers xa xb v1_t0 v3_t0)), .val (.int (own_covers v1_t0 v3_t0 xa xb)), .val (.int v26_t0)] [(.int (own_eq (own_max xa v1_t0) (own_max xb v3_t0) xa xb)), (.int (own_covers xa xb v1_t0 v3_t0))]))
  by_cases hc123_29 : (own_covers xa xb v1_t0 v3_t0) = (own_eq (own_max xa v1_t0) (own_max xb v3_t0) xa xb)
  ·
    skip
    refine own_by (fun _ => XS.icmpNo X26.here hx rfl (hb hby at_123) rfl (teq hc123_29).2) ?_
    show own_Go p e below _ (T26.setTop (mkF m 126 #[.val (.long xa), .second, .val (.long xb), .second, .val (.long xc), .second, .val (.long xd), .second, .val (.int xe), .val (.long v1_t0), .second, .val (.long v3_t0), .second, .val (.ref b5), .val (.ref b7), .val (.ref b10), .val (.int (own_eq (own_max xa v1_t0) (own_max xb v3_t0) xa xb)), .val (.int (own_covers xa xb v1_t0 v3_t0)), .val (.int (own_covers v1_t0 v3_t0 xa xb)), .val (.int v26_t0)] []))
    refine own_by (fun _ => XS.iload X26.here hx rfl (hb hby at_126) rfl) ?_
    show own_Go p e below _ (T26.setTop (mkF m 128 #[.val (.long xa), .second, .val (.long xb), .second, .val (.long xc), .second, .val (.long xd), .second, .val (.int xe), .val (.long v1_t0), .second, .val (.long v3_t0), .second, .val (.ref b5), .val (.ref b7), .val (.ref b10), .val (.int (own_eq (own_max xa v1_t0) (own_max xb v3_t0) xa xb)), .val (.int (own_covers xa xb v1_t0 v3_t0)), .val (.int (own_covers v1_t0 v3_t0 xa xb)), .val (.int v26_t0)] [(.int v26_t0)]))
    refine own_by (fun _ => XS.aload X26.here hx rfl (hb hby at_128) rfl rfl) ?_
    show own_Go p e below _ (T26.setTop (mkF m 130 #[.val (.long xa), .second, .val (.long xb), .second, .val (.long xc), .second, .val (.long xd), .second, .val (.int xe), .val (.long v1_t0), .second, .val (.long v3_t0), .second, .val (.ref b5), .val (.ref b7), .val (.ref b10), .val (.int (own_eq (own_max xa v1_t0) (own_max xb v3_t0) xa xb)), .val (.int (own_covers xa xb v1_t0 v3_t0)), .val (.int (own_covers v1_t0 v3_t0 xa xb)), .val (.int v26_t0)] [(.ref b5), (.int v26_t0)]))
    refine own_by (fun _ => XS.aload X26.here hx rfl (hb hby at_130) rfl rfl) ?_
    show own_Go p e below _ (T26.setTop (mkF m 132 #[.val (.long xa), .second, .val (.long xb), .second, .val (.long xc), .second, .val (.long xd), .second, .val (.int xe), .val (.long v1_t0), .second, .val (.long v3_t0), .second, .val (.ref b5), .val (.ref b7), .val (.ref b10), .val (.int (own_eq (own_max xa v1_t0) (own_max xb v3_t0) xa xb)), .val (.int (own_covers xa xb v1_t0 v3_t0)), .val (.int (own_covers v1_t0 v3_t0 xa xb)), .val (.int v26_t0)] [(.ref b7), (.ref b5), (.int v26_t0)]))
    obtain ⟨cq30, kq30, q30a, q30b, q30c⟩ := isOf hZ e26 f18
    obtain ⟨_, _, ⟨T30, L30, k30, n30⟩, -, X30, ⟨Lc30, hQ30, l30, y30, z30'⟩, st30⟩ := X26.virtualBack hx (y := (⟨"com/example/mirrorline/mirrorline/store/Head", "equals", "(Ljava/lang/Object;)Z"⟩ : MethodName)) (z := (⟨"com/example/mirrorline/mirrorline/store/Head", "equals", "(Ljava/lang/Object;)Z"⟩ : MethodName)) hown (mvT hZ (hw _ (List.mem_of_getElem? (i := 22) rfl))) (mvT hZ (hw _ (List.mem_of_getElem? (i := 23) rfl))) (notFace_of_selects (args := #[]) (mvT hZ (hw _ (List.mem_of_getElem? (i := 25) rfl)))) (mvT hZ (hw _ (List.mem_of_getElem? (i := 25) rfl))) (mvT hZ (hw _ (List.mem_of_getElem? (i := 24) rfl))) (by decide) (backOf (W := 1) (own_rm5 l Z a0 hw [] b5 b7 xa xb v1_t0 v3_t0 T15.heap n0 z15 f16 f17 f21 f22 f25) hZ (hw _ (List.mem_of_getElem? (i := 26) rfl)) (hw _ (List.mem_of_getElem? (i := 2) rfl)) (by decide) (by decide)) q30a q30c (g := (mkF m 132 #[.val (.long xa), .second, .val (.long xb), .second, .val (.long xc), .second, .val (.long xd), .second, .val (.int xe), .val (.long v1_t0), .second, .val (.long v3_t0), .second, .val (.ref b5), .val (.ref b7), .val (.ref b10), .val (.int (own_eq (own_max xa v1_t0) (own_max xb v3_t0) xa xb)), .val (.int (own_covers xa xb v1_t0 v3_t0)), .val (.int (own_covers v1_t0 v3_t0 xa xb)), .val (.int v26_t0)] [(.ref b7), (.ref b5), (.int v26_t0)])) rfl (by rw [hml]; rfl) (Steps.refl _) (argsL := [(.ref b7)]) (rest := [(.int v26_t0)]) (lenOf own_pd3 rfl) rfl (by show 2 * 0 + _ ≤ _; exact Nat.le_of_eq rfl) (hb hby at_132) (fun _ _ => ⟨rfl, e26, (by decide : 3 + 0 ≤ _), (by decide : 6 + 0 ≤ _)⟩)
    dsimp only [Pt.U, Pt.locs, Pt.cells, Pt.slots] at X30 l30 y30 z30' st30 hQ30
    subst l30 y30 z30'
    obtain ⟨rfl, N30q, e30⟩ := hQ30
    have N30 := Fr.app N26 N30q
    refine own_tr st30 ?_
    show own_Go p e below _ (T30.setTop (mkF m 135 #[.val (.long xa), .second, .val (.long xb), .second, .val (.long xc), .second, .val (.long xd), .second, .val (.int xe), .val (.long v1_t0), .second, .val (.long v3_t0), .second, .val (.ref b5), .val (.ref b7), .val (.ref b10), .val (.int (own_eq (own_max xa v1_t0) (own_max xb v3_t0) xa xb)), .val (.int (own_covers xa xb v1_t0 v3_t0)), .val (.int (own_covers v1_t0 v3_t0 xa xb)), .val (.int v26_t0)] [(.int (own_eq xa xb v1_t0 v3_t0)), (.int v26_t0)]))
    suffices J31 : ∀ (T' : State) (v31_t0 : Int32), v31_t0 = (if v26_t0 = (own_eq xa xb v1_t0 v3_t0) then (1 : Int32) else (0 : Int32)) → own_At p l e room_1 s m #[(.long xa), (.long xb), (.long xc), (.long xd), (.int xe)] below meth c n0 T' T15.heap 3 6 → own_Go p e below (own_End s below (own_Q0 Z xa xb xc xd xe h0 n0) room_1.cells room_1.slots) (T'.setTop (mkF m 143 #[.val (.long xa), .second, .val (.long xb), .second, .val (.long xc), .second, .val (.long xd), .second, .val (.int xe), .val (.long v1_t0), .second, .val (.long v3_t0), .second, .val (.ref b5), .val (.ref b7), .val (.ref b10), .val (.int (own_eq (own_max xa v1_t0) (own_max xb v3_t0) xa xb)), .val (.int (own_covers xa xb v1_t0 v3_t0)), .val (.int (own_covers v1_t0 v3_t0 xa xb)), .val (.int v26_t0)] [(.int v31_t0)])) by
      by_cases hc135_32 : v26_t0 = (own_eq xa xb v1_t0 v3_t0)
      ·
        skip
        refine own_by (fun _ => XS.icmpNo X30.here hx rfl (hb hby at_135) rfl (teq hc135_32).2) ?_
        show own_Go p e below _ (T30.setTop (mkF m 138 #[.val (.long xa), .second, .val (.long xb), .second, .val (.long xc), .second, .val (.long xd), .second, .val (.int xe), .val (.long v1_t0), .second, .val (.long v3_t0), .second, .val (.ref b5), .val (.ref b7), .val (.ref b10), .val (.int (own_eq (own_max xa v1_t0) (own_max xb v3_t0) xa xb)), .val (.int (own_covers xa xb v1_t0 v3_t0)), .val (.int (own_covers v1_t0 v3_t0 xa xb)), .val (.int v26_t0)] []))
        refine own_by (fun _ => XS.iconst X30.here hx rfl (hb hby at_138)) ?_
        show own_Go p e below _ (T30.setTop (mkF m 139 #[.val (.long xa), .second, .val (.long xb), .second, .val (.long xc), .second, .val (.long xd), .second, .val (.int xe), .val (.long v1_t0), .second, .val (.long v3_t0), .second, .val (.ref b5), .val (.ref b7), .val (.ref b10), .val (.int (own_eq (own_max xa v1_t0) (own_max xb v3_t0) xa xb)), .val (.int (own_covers xa xb v1_t0 v3_t0)), .val (.int (own_covers v1_t0 v3_t0 xa xb)), .val (.int v26_t0)] [(.int (1 : Int32))]))
        refine own_by (fun _ => XS.goto X30.here hx rfl (pc0 := 139) (pc' := 143) rfl (hb hby at_139) (by decide) (by decide)) ?_
        show own_Go p e below _ (T30.setTop (mkF m 143 #[.val (.long xa), .second, .val (.long xb), .second, .val (.long xc), .second, .val (.long xd), .second, .val (.int xe), .val (.long v1_t0), .second, .val (.long v3_t0), .second, .val (.ref b5), .val (.ref b7), .val (.ref b10), .val (.int (own_eq (own_max xa v1_t0) (own_max xb v3_t0) xa xb)), .val (.int (own_covers xa xb v1_t0 v3_t0)), .val (.int (own_covers v1_t0 v3_t0 xa xb)), .val (.int v26_t0)] [(.int (1 : Int32))]))
        exact J31 _ _ (by first | rfl | simp only [if_pos hc135_32]) ⟨_, X30, N30, e30⟩
      ·
        skip
        refine own_by (fun _ => XS.icmpYes X30.here hx rfl (pc0 := 135) (pc' := 142) rfl (hb hby at_135) rfl (feq hc135_32).2 (by decide) (by decide)) ?_
        show own_Go p e below _ (T30.setTop (mkF m 142 #[.val (.long xa), .second, .val (.long xb), .second, .val (.long xc), .second, .val (.long xd), .second, .val (.int xe), .val (.long v1_t0), .second, .val (.long v3_t0), .second, .val (.ref b5), .val (.ref b7), .val (.ref b10), .val (.int (own_eq (own_max xa v1_t0) (own_max xb v3_t0) xa xb)), .val (.int (own_covers xa xb v1_t0 v3_t0)), .val (.int (own_covers v1_t0 v3_t0 xa xb)), .val (.int v26_t0)] []))
        refine own_by (fun _ => XS.iconst X30.here hx rfl (hb hby at_142)) ?_
        show own_Go p e below _ (T30.setTop (mkF m 143 #[.val (.long xa), .second, .val (.long xb), .second, .val (.long xc), .second, .val (.long xd), .second, .val (.int xe), .val (.long v1_t0), .second, .val (.long v3_t0), .second, .val (.ref b5), .val (.ref b7), .val (.ref b10), .val (.int (own_eq (own_max xa v1_t0) (own_max xb v3_t0) xa xb)), .val (.int (own_covers xa xb v1_t0 v3_t0)), .val (.int (own_covers v1_t0 v3_t0 xa xb)), .val (.int v26_t0)] [(.int (0 : Int32))]))
        exact J31 _ _ (by first | rfl | simp only [if_neg hc135_32]) ⟨_, X30, N30, e30⟩
    intro T31 v31_t0 hv31_t0 ⟨locs31, X31, N31, e31⟩
    show own_Go p e below _ (T31.setTop (mkF m 143 #[.val (.long xa), .second, .val (.long xb), .second, .val (.long xc), .second, .val (.long xd), .second, .val (.int xe), .val (.long v1_t0), .second, .val (.long v3_t0), .second, .val (.ref b5), .val (.ref b7), .val (.ref b10), .val (.int (own_eq (own_max xa v1_t0) (own_max xb v3_t0) xa xb)), .val (.int (own_covers xa xb v1_t0 v3_t0)), .val (.int (own_covers v1_t0 v3_t0 xa xb)), .val (.int v26_t0)] [(.int v31_t0)]))
    exact own_retZ X31 hx hlk e31 (by rw [hv31_t0]; (repeat' split) <;> first | exact Or.inl rfl | exact Or.inr rfl) hret (hb hby at_143) (by decide) (by decide) ⟨(congrArg some (congrArg Value.int (by subst hv31_t0; subst hv26_t0; subst hv3_t0; subst hv1_t0; have own_p := own_plain xa xb xc xd xe; simp only [own_law, if_pos hc123_29] at own_p; exact own_p : v31_t0 = (1 : Int32)))), N31⟩
  ·
    skip
    refine own_by (fun _ => XS.icmpYes X26.here hx rfl (pc0 := 123) (pc' := 142) rfl (hb hby at_123) rfl (feq hc123_29).2 (by decide) (by decide)) ?_
    show own_Go p e below _ (T26.setTop (mkF m 142 #[.val (.long xa), .second, .val (.long xb), .second, .val (.long xc), .second, .val (.long xd), .second, .val (.int xe), .val (.long v1_t0), .second, .val (.long v3_t0), .second, .val (.ref b5), .val (.ref b7), .val (.ref b10), .val (.int (own_eq (own_max xa v1_t0) (own_max xb v3_t0) xa xb)), .val (.int (own_covers xa xb v1_t0 v3_t0)), .val (.int (own_covers v1_t0 v3_t0 xa xb)), .val (.int v26_t0)] []))
    refine own_by (fun _ => XS.iconst X26.here hx rfl (hb hby at_142)) ?_
    show own_Go p e below _ (T26.setTop (mkF m 143 #[.val (.long xa), .second, .val (.long xb), .second, .val (.long xc), .second, .val (.long xd), .second, .val (.int xe), .val (.long v1_t0), .second, .val (.long v3_t0), .second, .val (.ref b5), .val (.ref b7), .val (.ref b10), .val (.int (own_eq (own_max xa v1_t0) (own_max xb v3_t0) xa xb)), .val (.int (own_covers xa xb v1_t0 v3_t0)), .val (.int (own_covers v1_t0 v3_t0 xa xb)), .val (.int v26_t0)] [(.int (0 : Int32))]))
    exact own_retZ X26 hx hlk e26 (by decide) hret (hb hby at_143) (by decide) (by decide) ⟨(congrArg some (congrArg Value.int (by subst hv26_t0; subst hv3_t0; subst hv1_t0; have own_p := own_plain xa xb xc xd xe; simp only [own_law, if_neg hc123_29] at own_p; exact own_p : (0 : Int32) = (1 : Int32)))), N26⟩

theorem own_comes {Post : Tables → Env → Array Value → State → Outcome → State → Prop} (hpost : ∀ tb e args s v u, (limb_1_1.after args s (.returned v) u = true ∧ limb_1_2.after args s (.returned v) u = true ∧ True) → FrameEnd s (.returned v) u (Jvm.fieldLocs frame_1_writes args s ++ Jvm.arrayLocs frame_1_arrays args s ++ Jvm.staticLocs frame_1_statics s) 16 128 → Post tb e args s (.returned v) u) :
    ArmFor flags0 classFile x code maxLocals ret World_1 tables_1 room_1 Calls_1 rest_1 Pre_1 Post := by
  intro l hfl _ _ p e ha hc hk s m args below hf hA hF happ hP
  obtain ⟨hcalls, hrest, hpre⟩ := hP
  obtain ⟨-, -, -, hnamed, -, -, -, hat⟩ := (Spec.applies_iff hf).mp happ
  obtain ⟨hg, hn⟩ := and_e (Cond.before_iff.mp (show (Jvm.Cond.and given_1 narrow_1).before args s = true from hpre))
  obtain ⟨hg1, hg2⟩ := and_e hg
  obtain ⟨hg3, hg4⟩ := and_e hg2
  obtain ⟨hg5, hg6⟩ := and_e hg4
  obtain ⟨hg7, hg8⟩ := and_e hg6
  obtain ⟨hg9, hg10⟩ := and_e hg8
  obtain ⟨w0, w1, w2, w3, w4, rfl⟩ : ∃ w0 w1 w2 w3 w4 : Value, args = #[w0, w1, w2, w3, w4] := by
    have hs : args.size = 5 := by simpa [Cond.value, given_1] using hg1
    obtain ⟨L⟩ := args
    match L, hs with
    | [w0, w1, w2, w3, w4], _ => exact ⟨w0, w1, w2, w3, w4, rfl⟩
  have hw := fun d (hd : d ∈ tables_1) => atoms_spec (ws := Jvm.Cond.code x code maxLocals ret :: tables_1) hat d (List.mem_cons_of_mem _ hd)
  have hfit : Fit s := fun {y c} hc i hi => by
    obtain ⟨ha, rfl⟩ := Array.getElem?_eq_some_iff.mp hc
    have q := List.all_eq_true.mp ((Array.all_eq_true_iff_forall_mem.mp hF) _ (Array.getElem_mem ha)) i (List.mem_range.mpr hi)
    simpa [Array.getElem?_eq_getElem hi] using q
  obtain ⟨i0, ei0⟩ := isL_v hg3
  obtain rfl : w0 = (.long i0) := Option.some.inj ei0
  obtain ⟨i1, ei1⟩ := isL_v hg5
  obtain rfl : w1 = (.long i1) := Option.some.inj ei1
  obtain ⟨i2, ei2⟩ := isL_v hg7
  obtain rfl : w2 = (.long i2) := Option.some.inj ei2
  obtain ⟨i3, ei3⟩ := isL_v hg9
  obtain rfl : w3 = (.long i3) := Option.some.inj ei3
  obtain ⟨i4, ei4⟩ := is_v hg10
  obtain rfl : w4 = (.int i4) := Option.some.inj ei4
  obtain ⟨n, o, h1, h2, h3, _, L, rfl, ⟨rfl, N⟩, hq⟩ := own_rm0 l s _ hw tables_1 i0 i1 i2 i3 i4 s.heap s.heap.size (Nat.le_refl _) p e ha hc hk s m _ below hf ((Spec.applies_iff_loose hf).mp happ).1 ⟨rfl, State.Warmed39.refl s, rfl⟩ trivial
  refine ⟨n, _, h1, h2, h3, hpost _ _ _ _ _ _ ⟨Cond.after_iff.mpr rfl, Cond.after_iff.mpr (eq_i res_at (Term.int_eval (1)) rfl), trivial⟩ ⟨hq.1, hq.2.1, (hq.2.2.sift fun y hy => Or.inr (N y hy)).mono (by decide) (by decide)⟩⟩
theorem main_1_1 : Claimed_1_1 := own_comes fun _ _ _ _ _ _ h hF => ⟨h.1, hF⟩
theorem main_1_2 : Claimed_1_2 := own_comes fun _ _ _ _ _ _ h hF => ⟨h.2.1, hF⟩
end Jvm.Pilot.@@N@@
namespace Jvm.Pilot.@@N@@
open Jvm Jvm.ClassFile Sem Op Lib Jvm.Free Jvm.Stand Jvm.Pilot.@@N@@.Jvm.D
/-! MADE BY PROGRAM (witnessworld.py) out of the Statement's table words and the real class files: 11 classes; the members and pool entries that the words name. The judged class is class 1, her method 1. -/
namespace start1
open Jvm.ClassFile
def u (s : String) : CpInfo := .utf8 (stringToUtf16 s)
/-- a pool by its gaps: so many unusable entries, then the entry; so many at the end -/
def gap : Nat → List CpInfo → List CpInfo
  | 0, r => r
  | n + 1, r => .unusable :: gap n r
def poolList (es : List (Nat × CpInfo)) (last : Nat) : List CpInfo := es.foldr (fun e r => gap e.1 (e.2 :: r)) (gap last [])
def pool (es : List (Nat × CpInfo)) (last : Nat) : Array CpInfo := ⟨poolList es last⟩
def fileOf (pool : Array CpInfo) (this : Nat) (attrs : Array Attribute := #[]) (ms : Array MethodInfo := #[]) (fl : Nat := 33) (sup : Nat := 0) (ifs : Array Nat := #[]) (fds : Array FieldInfo := #[]) : ClassFile where
  minorVersion := 0
  majorVersion := 65
  constantPool := pool
  accessFlags := fl
  thisClass := this
  superClass := sup
  interfaces := ifs
  fields := fds
  methods := ms
  attributes := attrs
def plain (name : String) (sup : Option ClassId) : Class where
  name := name
  kind := .ordinary
  loader := none
  accessFlags := 33
  super := sup
  interfaces := #[]
  cf := none
  fields := #[]
  methods := #[]
  instanceTypes := #[]
  staticTypes := #[]
  resolved := #[]
  callSites := []
  init := .initialized
  statics := none
  mirror := none

def pool0 : Array CpInfo := pool [(5, u "<init>"), (0, u "()V"), (1, .class_ 10), (1, u "java/lang/Object")] 113

def k0c0 : Code := { maxStack := 0, maxLocals := 1, code := object_method_1_code, exceptionTable := #[], attributes := #[] }
def k0m0 : Method := { name := "<init>", desc := "()V", sig := { parameters := [], returnType := none }, accessFlags := 1, code := some k0c0 }
/-- java/lang/Object -/
def k0 : Class := { plain "java/lang/Object" none with
  accessFlags := 33
  interfaces := #[]
  cf := some (fileOf pool0 8 #[] #[{ accessFlags := 1, nameIndex := 5, descriptorIndex := 6, attributes := #[] }] 33 0 #[] #[])
  fields := #[]
  methods := #[k0m0]
  instanceTypes := #[]
  staticTypes := #[]
  resolved := Array.replicate 124 none
  statics := none }

def pool1 : Array CpInfo := pool [(2, .class_ 4), (1, u "java/lang/Object"), (0, u "<init>"), (0, u "()V"), (0, .class_ 8), (0, u "com/example/mirrorline/mirrorline/store/Head"), (0, .methodref 7 10), (0, .nameAndType 5 11), (0, u "(JJ)V"), (0, .methodref 13 14), (0, .class_ 15), (0, .nameAndType 16 17), (0, u "java/lang/Math"), (0, u "max"), (0, u "(JJ)J"), (0, .methodref 7 19), (0, .nameAndType 20 21), (0, u "equals"), (0, u "(Ljava/lang/Object;)Z"), (0, .methodref 7 23), (0, .nameAndType 24 25), (0, u "covers"), (0, u "(Lcom/example/mirrorline/mirrorline/store/Head;)Z"), (0, .class_ 27), (0, u "com/example/mirrorline/mirrorline/store/HeadCoversPinLaw"), (2, u "law"), (0, u "(JJJJI)Z")] 3

def k1m0 : Method := { name := "<init>", desc := "()V", sig := { parameters := [], returnType := none }, accessFlags := 1, code := none }
def k1c1 : Code := { maxStack := 8, maxLocals := 20, code := code, exceptionTable := #[], attributes := #[] }
def k1m1 : Method := { name := "law", desc := "(JJJJI)Z", sig := { parameters := [.long, .long, .long, .long, .int], returnType := some .boolean }, accessFlags := 9, code := some k1c1 }
/-- com/example/mirrorline/mirrorline/store/HeadCoversPinLaw -/
def k1 : Class := { plain "com/example/mirrorline/mirrorline/store/HeadCoversPinLaw" (some 0) with
  accessFlags := 49
  interfaces := #[]
  cf := some (fileOf pool1 26 #[] #[{ accessFlags := 1, nameIndex := 5, descriptorIndex := 6, attributes := #[] }, { accessFlags := 9, nameIndex := 30, descriptorIndex := 31, attributes := #[] }] 49 2 #[] #[])
  fields := #[]
  methods := #[k1m0, k1m1]
  instanceTypes := #[]
  staticTypes := #[]
  resolved := Array.replicate 35 none
  statics := none }

def pool2 : Array CpInfo := pool [(1, .methodref 2 3), (0, .class_ 4), (0, .nameAndType 5 6), (0, u "java/lang/Object"), (0, u "<init>"), (0, u "()V"), (0, .class_ 8), (0, u "java/lang/Record")] 13

def k2c0 : Code := { maxStack := 1, maxLocals := 1, code := jdk_30_method_1_code, exceptionTable := #[], attributes := #[] }
def k2m0 : Method := { name := "<init>", desc := "()V", sig := { parameters := [], returnType := none }, accessFlags := 4, code := some k2c0 }
/-- java/lang/Record -/
def k2 : Class := { plain "java/lang/Record" (some 0) with
  accessFlags := 1057
  interfaces := #[]
  cf := some (fileOf pool2 7 #[] #[{ accessFlags := 4, nameIndex := 5, descriptorIndex := 6, attributes := #[] }] 1057 2 #[] #[])
  fields := #[]
  methods := #[k2m0]
  instanceTypes := #[]
  staticTypes := #[]
  resolved := Array.replicate 22 none
  statics := none }

def pool3 : Array CpInfo := pool [(1, .methodref 2 3), (0, .class_ 4), (0, .nameAndType 5 6), (0, u "java/lang/Record"), (0, u "<init>"), (0, u "()V"), (0, .fieldref 8 9), (0, .class_ 10), (0, .nameAndType 11 12), (0, u "com/example/mirrorline/mirrorline/store/Head"), (0, u "first"), (0, u "J"), (0, .fieldref 8 14), (0, .nameAndType 15 12), (0, u "resets"), (8, u "(JJ)V"), (12, u "UNMOVED"), (0, u "Lcom/example/mirrorline/mirrorline/store/Head;"), (3, u "covers"), (0, u "(Lcom/example/mirrorline/mirrorline/store/Head;)Z"), (3, u "equals"), (0, u "(Ljava/lang/Object;)Z")] 23

def k3c0 : Code := { maxStack := 3, maxLocals := 5, code := prog_107_method_1_code, exceptionTable := #[], attributes := #[] }
def k3m0 : Method := { name := "<init>", desc := "(JJ)V", sig := { parameters := [.long, .long], returnType := none }, accessFlags := 1, code := some k3c0 }
def k3c1 : Code := { maxStack := 4, maxLocals := 2, code := prog_107_method_2_code, exceptionTable := #[], attributes := #[] }
def k3m1 : Method := { name := "covers", desc := "(Lcom/example/mirrorline/mirrorline/store/Head;)Z", sig := { parameters := [(.object "com/example/mirrorline/mirrorline/store/Head")], returnType := some .boolean }, accessFlags := 1, code := some k3c1 }
def k3c2 : Code := { maxStack := 4, maxLocals := 3, code := prog_107_method_4_code, exceptionTable := #[], attributes := #[] }
def k3m2 : Method := { name := "equals", desc := "(Ljava/lang/Object;)Z", sig := { parameters := [(.object "java/lang/Object")], returnType := some .boolean }, accessFlags := 1, code := some k3c2 }
/-- com/example/mirrorline/mirrorline/store/Head -/
def k3 : Class := { plain "com/example/mirrorline/mirrorline/store/Head" (some 2) with
  accessFlags := 49
  interfaces := #[]
  cf := some (fileOf pool3 8 #[] #[{ accessFlags := 1, nameIndex := 5, descriptorIndex := 24, attributes := #[] }, { accessFlags := 1, nameIndex := 42, descriptorIndex := 43, attributes := #[] }, { accessFlags := 1, nameIndex := 47, descriptorIndex := 48, attributes := #[] }] 49 2 #[] #[{ accessFlags := 18, nameIndex := 11, descriptorIndex := 12, attributes := #[] }, { accessFlags := 18, nameIndex := 15, descriptorIndex := 12, attributes := #[] }, { accessFlags := 25, nameIndex := 37, descriptorIndex := 38, attributes := #[] }])
  fields := #[{ name := "first", type := .long, accessFlags := 18, slot := 0, constantValue := 0 }, { name := "resets", type := .long, accessFlags := 18, slot := 1, constantValue := 0 }, { name := "UNMOVED", type := (.object "com/example/mirrorline/mirrorline/store/Head"), accessFlags := 25, slot := 0, constantValue := 0 }]
  methods := #[k3m0, k3m1, k3m2]
  instanceTypes := #[.long, .long]
  staticTypes := #[(.object "com/example/mirrorline/mirrorline/store/Head")]
  resolved := Array.replicate 72 none
  statics := none }

def pool4 : Array CpInfo := pool [(1, .class_ 2), (0, u "java/lang/Math"), (1, .class_ 6), (1, u "java/lang/Object"), (0, u "<init>"), (0, u "()V"), (89, .class_ 100), (1, u "java/lang/Math$RandomNumberGeneratorHolder"), (20, u "(JJ)J"), (50, u "negativeZeroFloatBits"), (0, u "J"), (2, u "negativeZeroDoubleBits"), (21, u "max"), (46, u "$assertionsDisabled"), (0, u "Z"), (91, u "twoToTheDoubleScaleDown"), (0, u "D"), (4, u "twoToTheDoubleScaleUp"), (9, u "E"), (3, u "PI"), (2, u "TAU"), (2, u "DEGREES_TO_RADIANS"), (0, u "RADIANS_TO_DEGREES")] 94

def k4m0 : Method := { name := "<init>", desc := "()V", sig := { parameters := [], returnType := none }, accessFlags := 2, code := none }
def k4c1 : Code := { maxStack := 4, maxLocals := 4, code := jdk_29_method_66_code, exceptionTable := #[], attributes := #[] }
def k4m1 : Method := { name := "max", desc := "(JJ)J", sig := { parameters := [.long, .long], returnType := some .long }, accessFlags := 9, code := some k4c1 }
/-- java/lang/Math -/
def k4 : Class := { plain "java/lang/Math" (some 0) with
  accessFlags := 49
  interfaces := #[]
  cf := some (fileOf pool4 1 #[.nestMembers #[98]] #[{ accessFlags := 2, nameIndex := 7, descriptorIndex := 8, attributes := #[] }, { accessFlags := 9, nameIndex := 198, descriptorIndex := 121, attributes := #[] }] 49 4 #[] #[{ accessFlags := 25, nameIndex := 354, descriptorIndex := 339, attributes := #[] }, { accessFlags := 25, nameIndex := 358, descriptorIndex := 339, attributes := #[] }, { accessFlags := 25, nameIndex := 361, descriptorIndex := 339, attributes := #[] }, { accessFlags := 26, nameIndex := 364, descriptorIndex := 339, attributes := #[] }, { accessFlags := 26, nameIndex := 365, descriptorIndex := 339, attributes := #[] }, { accessFlags := 26, nameIndex := 172, descriptorIndex := 173, attributes := #[] }, { accessFlags := 26, nameIndex := 176, descriptorIndex := 173, attributes := #[] }, { accessFlags := 8, nameIndex := 344, descriptorIndex := 339, attributes := #[] }, { accessFlags := 8, nameIndex := 338, descriptorIndex := 339, attributes := #[] }, { accessFlags := 4120, nameIndex := 245, descriptorIndex := 246, attributes := #[] }])
  fields := #[{ name := "E", type := .double, accessFlags := 25, slot := 0, constantValue := 0 }, { name := "PI", type := .double, accessFlags := 25, slot := 1, constantValue := 0 }, { name := "TAU", type := .double, accessFlags := 25, slot := 2, constantValue := 0 }, { name := "DEGREES_TO_RADIANS", type := .double, accessFlags := 26, slot := 3, constantValue := 0 }, { name := "RADIANS_TO_DEGREES", type := .double, accessFlags := 26, slot := 4, constantValue := 0 }, { name := "negativeZeroFloatBits", type := .long, accessFlags := 26, slot := 5, constantValue := 0 }, { name := "negativeZeroDoubleBits", type := .long, accessFlags := 26, slot := 6, constantValue := 0 }, { name := "twoToTheDoubleScaleUp", type := .double, accessFlags := 8, slot := 7, constantValue := 0 }, { name := "twoToTheDoubleScaleDown", type := .double, accessFlags := 8, slot := 8, constantValue := 0 }, { name := "$assertionsDisabled", type := .boolean, accessFlags := 4120, slot := 9, constantValue := 0 }]
  methods := #[k4m0, k4m1]
  instanceTypes := #[]
  staticTypes := #[.double, .double, .double, .double, .double, .long, .long, .double, .double, .boolean]
  resolved := Array.replicate 460 none
  statics := none }

def pool5 : Array CpInfo := pool [(1, u "java/lang/Cloneable"), (0, .class_ 1), (0, u "java/lang/Object"), (0, .class_ 3)] 3

/-- java/lang/Cloneable -/
def k5 : Class := { plain "java/lang/Cloneable" (some 0) with
  accessFlags := 1537
  interfaces := #[]
  cf := some (fileOf pool5 2 #[] #[] 1537 4 #[] #[])
  fields := #[]
  methods := #[]
  instanceTypes := #[]
  staticTypes := #[]
  resolved := Array.replicate 8 none
  statics := none }

def pool6 : Array CpInfo := pool [(1, u "java/io/Serializable"), (0, .class_ 1), (0, u "java/lang/Object"), (0, .class_ 3)] 3

/-- java/io/Serializable -/
def k6 : Class := { plain "java/io/Serializable" (some 0) with
  accessFlags := 1537
  interfaces := #[]
  cf := some (fileOf pool6 2 #[] #[] 1537 4 #[] #[])
  fields := #[]
  methods := #[]
  instanceTypes := #[]
  staticTypes := #[]
  resolved := Array.replicate 8 none
  statics := none }

/-- the primitive byte -/
def k7 : Class := { plain "byte" none with kind := .primitive 'B', accessFlags := 0x411 }
/-- [B -/
def k8 : Class := { plain "[B" (some 0) with kind := .array 7 .byte, interfaces := #[5, 6], accessFlags := 1041 }

/-- the primitive int -/
def k9 : Class := { plain "int" none with kind := .primitive 'I', accessFlags := 0x411 }
/-- [I -/
def k10 : Class := { plain "[I" (some 0) with kind := .array 9 .int, interfaces := #[5, 6], accessFlags := 1041 }

def heap : Heap := #[]
def classes : Array Class := #[k0, k1, k2, k3, k4, k5, k6, k7, k8, k9, k10]
def interned : List (Array UInt16 × Addr) := []
def slotsUsed : Nat := 0
def theMethod : MethodId := ⟨1, 1⟩
def args0 : Array Value := #[.long 5, .long 1, .long 13, .long 2, .int 0]
def aboutOver (below : List Frame) : State where
  vm := { classes := classes, interned := interned.toArray }
  heap := heap
  slotsUsed := slotsUsed
  threads := #[{ frames := .invoking theMethod args0 :: below }]
def below0 : List Frame := [.native { method := ⟨0, 0⟩, args := #[] }]
def about1 : State := aboutOver below0
def p0 : Program := .bare "" "" ""
def e0 : Env := launch0.env 0 0 0
theorem w_frames : about1.frames = Frame.invoking theMethod args0 :: below0 := rfl
set_option maxRecDepth 65536 in
theorem w_args : argsFit about1.vm theMethod args0 = true := by decide +kernel
set_option maxRecDepth 65536 in
theorem w_heap : heapFits about1 = true := by decide +kernel
set_option maxRecDepth 65536 in
theorem w_runnable : about1.curStatus? = some .runnable := by decide +kernel
set_option maxRecDepth 65536 in
theorem w_alone : about1.alone = true := by decide +kernel
set_option maxRecDepth 65536 in
theorem w_named : about1.methodNamed? x = some theMethod := by decide +kernel
set_option maxRecDepth 65536 in
theorem w_hears : about1.hears theMethod below0 = true := by decide +kernel
set_option maxRecDepth 65536 in
theorem w_ripe : about1.ripe theMethod args0 below0 = true := by decide +kernel
theorem w_running : about1.status = .running := rfl
set_option maxRecDepth 65536 in
theorem w_room : about1.hasRoom e0.platform room_1 = true :=
  launch0.hasRoom_least _ room_1 (by decide +kernel) (by decide +kernel) (by decide +kernel) (by decide +kernel) (by decide +kernel) (by decide +kernel)
theorem allAtoms_all (ts : List Jvm.Cond) (a : Array Jvm.Value) (st : Jvm.State) : (allAtoms ts).before a st = ts.all (fun c => c.before a st) := by
  induction ts with
  | nil => rfl
  | cons c t ih =>
    show (Jvm.Cond.and c (allAtoms t)).before a st = _
    rw [Jvm.Cond.before_and, ih, List.all_cons]
def words1 : List Jvm.Cond := Jvm.Cond.code x code maxLocals ret :: tables_1
/-- a 'code' word, met by the world's own term for the bytes: nothing is compared byte by byte -/
theorem code_word {y : MethodName} {bytes : ByteArray} {mx : Nat} {rt : Option FieldType} {a : Array Value} {s : State} {m : MethodId} {meth : Method} {c : Code} (h1 : s.methodNamed? y = some m) (h2 : s.vm.method? m = some meth) (h3 : meth.code = some c) (h4 : c.code = bytes)
    (h5 : (c.maxLocals == mx && c.exceptionTable.isEmpty && decide (c.maxStack ≤ mostOperands) && decide (meth.sig.returnType = rt) && !meth.locks && decide (parseMethodDescriptor y.desc = some meth.sig)) = true) : (Jvm.Cond.code y bytes mx rt).before a s = true := by
  simp only [Bool.and_eq_true, beq_iff_eq, Bool.not_eq_true', decide_eq_true_eq] at h5
  obtain ⟨⟨⟨⟨⟨g1, g2⟩, g3⟩, g4⟩, g5⟩, g6⟩ := h5
  simp [Cond.before, Cond.holds, Cond.value, h1, h2, h3, h4, g1, g2, g3, g4, g5, g6]
def isCode : Jvm.Cond → Bool
  | .code _ _ _ _ => true
  | _ => false
theorem all_split {L : List Jvm.Cond} {P : Jvm.Cond → Bool} (h1 : L.all (fun c => isCode c || P c) = true) (h2 : ∀ c ∈ L.filter isCode, P c = true) : L.all P = true := by
  refine List.all_eq_true.mpr fun c hc => ?_
  have h := List.all_eq_true.mp h1 c hc
  rcases Bool.eq_false_or_eq_true (isCode c) with hi | hi
  · exact h2 c (List.mem_filter.mpr ⟨hc, hi⟩)
  · simpa [hi] using h
set_option maxRecDepth 65536 in
theorem w_c0 : (Jvm.Cond.code x code maxLocals ret).before args0 about1 = true := code_word (m := ⟨1, 1⟩) (meth := k1m1) (c := k1c1) (by decide +kernel) rfl rfl rfl (by decide +kernel)
set_option maxRecDepth 65536 in
theorem w_c1 : (Jvm.Cond.code ({ cls := "com/example/mirrorline/mirrorline/store/Head", name := "<init>", desc := "(JJ)V" } : Jvm.MethodName) prog_107_method_1_code (5 : Nat) (Option.none : Option Jvm.ClassFile.FieldType)).before args0 about1 = true := code_word (m := ⟨3, 0⟩) (meth := k3m0) (c := k3c0) (by decide +kernel) rfl rfl rfl (by decide +kernel)
set_option maxRecDepth 65536 in
theorem w_c2 : (Jvm.Cond.code ({ cls := "java/lang/Record", name := "<init>", desc := "()V" } : Jvm.MethodName) jdk_30_method_1_code (1 : Nat) (Option.none : Option Jvm.ClassFile.FieldType)).before args0 about1 = true := code_word (m := ⟨2, 0⟩) (meth := k2m0) (c := k2c0) (by decide +kernel) rfl rfl rfl (by decide +kernel)
set_option maxRecDepth 65536 in
theorem w_c3 : (Jvm.Cond.code ({ cls := "java/lang/Object", name := "<init>", desc := "()V" } : Jvm.MethodName) object_method_1_code (1 : Nat) (Option.none : Option Jvm.ClassFile.FieldType)).before args0 about1 = true := code_word (m := ⟨0, 0⟩) (meth := k0m0) (c := k0c0) (by decide +kernel) rfl rfl rfl (by decide +kernel)
set_option maxRecDepth 65536 in
theorem w_c4 : (Jvm.Cond.code ({ cls := "java/lang/Math", name := "max", desc := "(JJ)J" } : Jvm.MethodName) jdk_29_method_66_code (4 : Nat) (Option.some Jvm.ClassFile.FieldType.long)).before args0 about1 = true := code_word (m := ⟨4, 1⟩) (meth := k4m1) (c := k4c1) (by decide +kernel) rfl rfl rfl (by decide +kernel)
set_option maxRecDepth 65536 in
theorem w_c5 : (Jvm.Cond.code ({ cls := "com/example/mirrorline/mirrorline/store/Head", name := "equals", desc := "(Ljava/lang/Object;)Z" } : Jvm.MethodName) prog_107_method_4_code (3 : Nat) (Option.some Jvm.ClassFile.FieldType.boolean)).before args0 about1 = true := code_word (m := ⟨3, 2⟩) (meth := k3m2) (c := k3c2) (by decide +kernel) rfl rfl rfl (by decide +kernel)
set_option maxRecDepth 65536 in
theorem w_c6 : (Jvm.Cond.code ({ cls := "com/example/mirrorline/mirrorline/store/Head", name := "covers", desc := "(Lcom/example/mirrorline/mirrorline/store/Head;)Z" } : Jvm.MethodName) prog_107_method_2_code (2 : Nat) (Option.some Jvm.ClassFile.FieldType.boolean)).before args0 about1 = true := code_word (m := ⟨3, 1⟩) (meth := k3m1) (c := k3c1) (by decide +kernel) rfl rfl rfl (by decide +kernel)
def codes1 : List Jvm.Cond := [Jvm.Cond.code x code maxLocals ret, Jvm.Cond.code ({ cls := "com/example/mirrorline/mirrorline/store/Head", name := "<init>", desc := "(JJ)V" } : Jvm.MethodName) prog_107_method_1_code (5 : Nat) (Option.none : Option Jvm.ClassFile.FieldType), Jvm.Cond.code ({ cls := "java/lang/Record", name := "<init>", desc := "()V" } : Jvm.MethodName) jdk_30_method_1_code (1 : Nat) (Option.none : Option Jvm.ClassFile.FieldType), Jvm.Cond.code ({ cls := "java/lang/Object", name := "<init>", desc := "()V" } : Jvm.MethodName) object_method_1_code (1 : Nat) (Option.none : Option Jvm.ClassFile.FieldType), Jvm.Cond.code ({ cls := "java/lang/Math", name := "max", desc := "(JJ)J" } : Jvm.MethodName) jdk_29_method_66_code (4 : Nat) (Option.some Jvm.ClassFile.FieldType.long), Jvm.Cond.code ({ cls := "com/example/mirrorline/mirrorline/store/Head", name := "equals", desc := "(Ljava/lang/Object;)Z" } : Jvm.MethodName) prog_107_method_4_code (3 : Nat) (Option.some Jvm.ClassFile.FieldType.boolean), Jvm.Cond.code ({ cls := "com/example/mirrorline/mirrorline/store/Head", name := "covers", desc := "(Lcom/example/mirrorline/mirrorline/store/Head;)Z" } : Jvm.MethodName) prog_107_method_2_code (2 : Nat) (Option.some Jvm.ClassFile.FieldType.boolean)]
set_option maxRecDepth 65536 in
theorem codes_eq : words1.filter isCode = codes1 := rfl
theorem w_codes : ∀ c ∈ words1.filter isCode, c.before args0 about1 = true := by
  rw [codes_eq]
  intro c hc
  simp only [codes1, List.mem_cons, List.not_mem_nil, or_false] at hc
  rcases hc with rfl | rfl | rfl | rfl | rfl | rfl | rfl
  · exact w_c0
  · exact w_c1
  · exact w_c2
  · exact w_c3
  · exact w_c4
  · exact w_c5
  · exact w_c6
set_option maxRecDepth 65536 in
theorem w_t1 : (words1.take 24).all (fun c => isCode c || c.before args0 about1) = true := by decide +kernel
set_option maxRecDepth 65536 in
theorem w_t2 : (words1.drop 24).all (fun c => isCode c || c.before args0 about1) = true := by decide +kernel
theorem w_tables : (allAtoms (Jvm.Cond.code x code maxLocals ret :: tables_1)).before args0 about1 = true := by
  rw [allAtoms_all]
  show words1.all (fun c => c.before args0 about1) = true
  refine all_split ?_ w_codes
  rw [← List.take_append_drop 24 words1, List.all_append, w_t1, w_t2]
  rfl
set_option maxRecDepth 65536 in
theorem w_case : (Jvm.Cond.and given_1 narrow_1).before args0 about1 = true := by decide +kernel
theorem w_applies : (headSpec (Jvm.Cond.code x code maxLocals ret :: tables_1) room_1).applies x e0.platform about1 = true :=
  (Spec.applies_iff w_frames).mpr ⟨w_running, w_runnable, w_alone, w_named, w_hears, w_ripe, w_room, w_tables⟩
theorem atStart : AtStart classFile x code maxLocals ret World_1 tables_1 room_1 Calls_1 rest_1 Pre_1 launch0 p0 e0 about1 theMethod args0 below0 :=
  ⟨lists_1, trivial, launch0.admits_env _ _ _, launch0.least_env, fairChoices_fair.cas, fairChoices_fair.clock, w_frames, w_args, w_heap, w_applies, trivial, trivial, w_case⟩
end start1
theorem witness_1 : WitnessClaimed_1 := ⟨start1.p0, start1.e0, start1.about1, start1.theMethod, start1.args0, start1.below0, start1.atStart⟩
end Jvm.Pilot.@@N@@
