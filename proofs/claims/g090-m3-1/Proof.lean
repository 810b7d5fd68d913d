import JvmDerived
import JvmDerived.Pilot.@@N@@Statement
import JvmDerived.Pilot.@@N@@Code
set_option linter.unusedVariables false
set_option linter.unusedSimpArgs false
set_option maxRecDepth 65536
set_option maxHeartbeats 40000000
namespace Jvm.Pilot.@@N@@
open Jvm Jvm.ClassFile Sem Op Lib Jvm.Free Jvm.Stand Jvm.LawKit Jvm.RoadKit Bundle Jvm.Pilot.@@N@@.Jvm.D
section OwnKit
variable {p : Program} {l : Launch} {e : Env} {R : Room} {s : State} {m : MethodId} {args : Array Value} {below : List Frame} {meth : Method} {c : Code} {T : State} {locs : List Loc} {cells slots : Nat}
/-- from here the run comes to an end that E allows -/
def own_Go (p : Program) (e : Env) (below : List Frame) (E : State → Prop) (S : State) : Prop := ∃ t, Steps p.tables e below S t ∧ E t
/-- the invocation has ended, with a value, a heap and a list of written places that Q allows -/
def own_End (s : State) (below : List Frame) (Q : Option Value → Heap → List Loc → Prop) (C N : Nat) (t : State) : Prop :=
  t.status = .running ∧ ∃ v L, Ended t below (.returned v) ∧ Q v t.heap L ∧ FrameEnd s (.returned v) t L C N
/-- the walk stands here, with this heap, having written only what is new -/
def own_At (p : Program) (l : Launch) (e : Env) (R : Room) (s : State) (m : MethodId) (args : Array Value) (below : List Frame) (meth : Method) (c : Code) (n0 : Nat) (T : State) (h : Heap) (cells slots : Nat) : Prop :=
  ∃ locs, Stand p l e R s m args below meth c T locs cells slots ∧ Fr n0 locs ∧ T.heap = h
theorem own_by {E : State → Prop} {S S' : State} (k : ∀ t, Steps p.tables e below S' t → Steps p.tables e below S t) (h : own_Go p e below E S') : own_Go p e below E S :=
  h.imp fun t q => ⟨k t q.1, q.2⟩
theorem own_tr {E : State → Prop} {S S' : State} (k : Steps p.tables e below S S') (h : own_Go p e below E S') : own_Go p e below E S :=
  h.imp fun t q => ⟨k.trans q.1, q.2⟩
theorem own_mono {E E' : State → Prop} {S : State} (k : ∀ t, E t → E' t) (h : own_Go p e below E S) : own_Go p e below E' S := h.imp fun t q => ⟨q.1, k t q.2⟩
theorem own_monoQ {Q Q' : Option Value → Heap → List Loc → Prop} {C N : Nat} {S : State} (k : ∀ v h L, Q v h L → Q' v h L) (h : own_Go p e below (own_End s below Q C N) S) : own_Go p e below (own_End s below Q' C N) S :=
  own_mono (fun t ⟨a, v, L, b, q, r⟩ => ⟨a, v, L, b, k _ _ _ q, r⟩) h
variable {Q : Option Value → Heap → List Loc → Prop} {C N : Nat} {h : Heap} {pc : Nat} {Ls : Array Slot} {rest : List Value}
theorem own_ret (X : Stand p l e R s m args below meth c T locs cells slots) (hx : p.tables.exec = Jvm.exec) (hlk : meth.locks = false) (eT : T.heap = h) {w : Value} {t : FieldType} {i : Instr} (hret : meth.sig.returnType = some t) (hn : narrow t w = w)
    (hi : (i = .ireturn ∧ (t = .int ∨ t = .boolean ∨ t = .byte ∨ t = .char ∨ t = .short) ∧ ∃ z, w = .int z) ∨ (i = .lreturn ∧ t = .long ∧ ∃ z, w = .long z) ∨ (i = .dreturn ∧ t = .double ∧ ∃ z, w = .double z) ∨ (i = .freturn ∧ t = .float ∧ ∃ z, w = .float z) ∨ (i = .areturn ∧ t.isReference = true ∧ w.isRef = true))
    (hd : decode c.code pc = .ok (i, 1)) (hc : cells ≤ C) (hs : slots ≤ N) (hQ : Q (some w) h locs) : own_Go p e below (own_End s below Q C N) (T.setTop (mkF m pc Ls (w :: rest))) := by
  obtain ⟨fs, hr, hrun, hended, hW, hsame⟩ := X.leave (v := some w) (fun q => by rw [hret] at q; cases q) hlk
  subst eT
  exact ⟨_, retOut X hx hret hn hi hd hr, hrun, _, _, hended, hQ, ⟨_, rfl⟩, hW, hsame.mono hc hs⟩
theorem own_retI (X : Stand p l e R s m args below meth c T locs cells slots) (hx : p.tables.exec = Jvm.exec) (hlk : meth.locks = false) (eT : T.heap = h) {z : Int32} (hret : meth.sig.returnType = some .int) (hd : decode c.code pc = .ok (.ireturn, 1)) (hc : cells ≤ C) (hs : slots ≤ N) (hQ : Q (some (.int z)) h locs) :
    own_Go p e below (own_End s below Q C N) (T.setTop (mkF m pc Ls (.int z :: rest))) := own_ret X hx hlk eT hret rfl (Or.inl ⟨rfl, Or.inl rfl, _, rfl⟩) hd hc hs hQ
theorem own_retZ (X : Stand p l e R s m args below meth c T locs cells slots) (hx : p.tables.exec = Jvm.exec) (hlk : meth.locks = false) (eT : T.heap = h) {z : Int32} (hz : z = 0 ∨ z = 1) (hret : meth.sig.returnType = some .boolean) (hd : decode c.code pc = .ok (.ireturn, 1)) (hc : cells ≤ C) (hs : slots ≤ N) (hQ : Q (some (.int z)) h locs) :
    own_Go p e below (own_End s below Q C N) (T.setTop (mkF m pc Ls (.int z :: rest))) := own_ret X hx hlk eT hret (by rcases hz with rfl | rfl <;> rfl) (Or.inl ⟨rfl, Or.inr (Or.inl rfl), _, rfl⟩) hd hc hs hQ
theorem own_retJ (X : Stand p l e R s m args below meth c T locs cells slots) (hx : p.tables.exec = Jvm.exec) (hlk : meth.locks = false) (eT : T.heap = h) {z : Int64} (hret : meth.sig.returnType = some .long) (hd : decode c.code pc = .ok (.lreturn, 1)) (hc : cells ≤ C) (hs : slots ≤ N) (hQ : Q (some (.long z)) h locs) :
    own_Go p e below (own_End s below Q C N) (T.setTop (mkF m pc Ls (.long z :: rest))) := own_ret X hx hlk eT hret rfl (Or.inr (Or.inl ⟨rfl, rfl, _, rfl⟩)) hd hc hs hQ
theorem own_retD (X : Stand p l e R s m args below meth c T locs cells slots) (hx : p.tables.exec = Jvm.exec) (hlk : meth.locks = false) (eT : T.heap = h) {z : UInt64} (hret : meth.sig.returnType = some .double) (hd : decode c.code pc = .ok (.dreturn, 1)) (hc : cells ≤ C) (hs : slots ≤ N) (hQ : Q (some (.double z)) h locs) :
    own_Go p e below (own_End s below Q C N) (T.setTop (mkF m pc Ls (.double z :: rest))) := own_ret X hx hlk eT hret rfl (Or.inr (Or.inr (Or.inl ⟨rfl, rfl, _, rfl⟩))) hd hc hs hQ
theorem own_retR (X : Stand p l e R s m args below meth c T locs cells slots) (hx : p.tables.exec = Jvm.exec) (hlk : meth.locks = false) (eT : T.heap = h) {w : Value} {t : FieldType} (hw : w.isRef = true) (ht : t.isReference = true) (hret : meth.sig.returnType = some t) (hd : decode c.code pc = .ok (.areturn, 1)) (hc : cells ≤ C) (hs : slots ≤ N) (hQ : Q (some w) h locs) :
    own_Go p e below (own_End s below Q C N) (T.setTop (mkF m pc Ls (w :: rest))) := own_ret X hx hlk eT hret (by cases t <;> first | (cases ht; done) | (cases w <;> first | rfl | cases hw)) (Or.inr (Or.inr (Or.inr (Or.inr ⟨rfl, ht, hw⟩)))) hd hc hs hQ
theorem own_retV (X : Stand p l e R s m args below meth c T locs cells slots) (hx : p.tables.exec = Jvm.exec) (hlk : meth.locks = false) (eT : T.heap = h) (hret : meth.sig.returnType = none) (hd : decode c.code pc = .ok (.return_, 1)) (hc : cells ≤ C) (hs : slots ≤ N) (hQ : Q none h locs) :
    own_Go p e below (own_End s below Q C N) (T.setTop (mkF m pc Ls [])) := by
  obtain ⟨fs, hr, hrun, hended, hW, hsame⟩ := X.leave (v := none) (fun _ => rfl) hlk
  subst eT
  exact ⟨_, X.returnOut hx hret hd hr, hrun, _, _, hended, hQ, ⟨_, rfl⟩, hW, hsame.mono hc hs⟩
end OwnKit

theorem own_pd0 : parseMethodDescriptor "(J)V" = some ⟨[.long], none⟩ := by decide +kernel
theorem own_pd1 : parseMethodDescriptor "()Z" = some ⟨[], some .boolean⟩ := by decide +kernel
theorem own_d1_0 : decode prog_6_method_1_code 0 = .ok (.aload_n 0, 1) := by decide +kernel
theorem own_d1_1 : decode prog_6_method_1_code 1 = .ok (.invokespecial 1, 3) := by decide +kernel
theorem own_d1_4 : decode prog_6_method_1_code 4 = .ok (.aload_n 0, 1) := by decide +kernel
theorem own_d1_5 : decode prog_6_method_1_code 5 = .ok (.lload_n 1, 1) := by decide +kernel
theorem own_d1_6 : decode prog_6_method_1_code 6 = .ok (.putfield 7, 3) := by decide +kernel
theorem own_d1_9 : decode prog_6_method_1_code 9 = .ok (.return_, 1) := by decide +kernel
theorem own_pn1 : plainName "com/example/composiq/composiq/Budget" = true := by first | (simp [plainName, overriddenIn]; done) | decide +kernel
theorem own_ef1 (m : MethodId) (x0 : Addr) (x1 : Int64) : entryFrame m #[(.ref x0), (.long x1)] 3 = mkF m 0 #[.val (.ref x0), .val (.long x1), .second] [] := by first | (simp [entryFrame, mkF, argsToLocals, Value.category]; done) | rfl
def own_Q1 (Z : State) (ax : Addr) (xa : Int64) (ua : Int64) (h0 : Heap) (n0 : Nat) (v : Option Value) (h : Heap) (L : List Loc) : Prop := v = none ∧ Fr n0 L ∧ Keep h0 h [ax] ∧ Fld Z h ax "com/example/composiq/composiq/Budget" "left" "J" (.long xa)
theorem own_rm1 (l : Launch) (Z : State) (a0 : Array Value) (hw : ∀ d ∈ tables_1, d.before a0 Z = true) (ws : List Jvm.Cond) (ax : Addr) (xa : Int64) (ua : Int64) (h0 : Heap) (n0 : Nat) (Z0 : n0 ≤ h0.size) (pf0 : Exa Z h0 ax "com/example/composiq/composiq/Budget") (pf1 : Fld Z h0 ax "com/example/composiq/composiq/Budget" "left" "J" (.long ua)) (pg_ax : n0 ≤ ax) :
    MetFree l (⟨"com/example/composiq/composiq/Budget", "<init>", "(J)V"⟩ : MethodName) (head1 (Jvm.Cond.code (⟨"com/example/composiq/composiq/Budget", "<init>", "(J)V"⟩ : MethodName) prog_6_method_1_code 3 none :: ws) ({ frames := 1, cells := 0, slots := 0, locals := 12 } : Room)) (fun a U => a = #[(.ref ax), (.long xa)] ∧ Z.Warmed39 U.vm ∧ U.heap = h0) (fun _ _ _ _ _ => True) (fun _ U o U' => ∃ v L, o = .returned v ∧ own_Q1 Z ax xa ua h0 n0 v U'.heap L ∧ FrameEnd U o U' L ({ frames := 1, cells := 0, slots := 0, locals := 12 } : Room).cells ({ frames := 1, cells := 0, slots := 0, locals := 12 } : Room).slots) := by
  refine MetFree.of_bodySF (plainFor_of_name own_pn1) hisR ?_
  intro p e s m args below meth c s₁ Bd hml0 hP hK
  obtain ⟨rfl, hZ, hh⟩ := hP
  have hx := Bd.exec
  have hby := Bd.bytes
  have hlk := Bd.notSynchronized
  have hret := Bd.returns
  have hml : c.maxLocals = 3 := hml0
  have hown : s.vm.findClass "com/example/composiq/composiq/Budget" = some m.cls := findClass_of_methodNamed Bd.named
  have hnm := (name_of_methodNamed Bd.named Bd.method).1
  have X0 : Stand p l e ({ frames := 1, cells := 0, slots := 0, locals := 12 } : Room) s m #[(.ref ax), (.long xa)] below meth c s₁ [] 0 0 := Stand.of_body Bd
  have e0 : s₁.heap = h0 := by rw [← hh, Bd.state]; rfl
  have N0 := Fr.nil n0
  suffices key : own_Go p e below (own_End s below (own_Q1 Z ax xa ua h0 n0) ({ frames := 1, cells := 0, slots := 0, locals := 12 } : Room).cells ({ frames := 1, cells := 0, slots := 0, locals := 12 } : Room).slots) (s₁.setTop (mkF m 0 #[.val (.ref ax), .val (.long xa), .second] [])) by
    obtain ⟨t, k1, k2, v, L, k3, k4, k5⟩ := key
    exact ⟨t, _, castTop (own_ef1 m ax xa) k1, k2, k3, v, L, rfl, k4, k5⟩
  show own_Go p e below _ (s₁.setTop (mkF m 0 #[.val (.ref ax), .val (.long xa), .second] []))
  refine own_by (fun _ => XS.aloadN X0.here hx rfl (hb hby own_d1_0) rfl rfl) ?_
  show own_Go p e below _ (s₁.setTop (mkF m 1 #[.val (.ref ax), .val (.long xa), .second] [(.ref ax)]))
  obtain ⟨T1, X1, e1, st1⟩ := initO X0 hx hZ hown (hw _ (List.mem_of_getElem? (i := 6) rfl)) (hw _ (List.mem_of_getElem? (i := 7) rfl)) (hw _ (List.mem_of_getElem? (i := 8) rfl)) e0 (g := (mkF m 1 #[.val (.ref ax), .val (.long xa), .second] [(.ref ax)])) rfl (by rw [hml]; rfl) rfl (hb hby own_d1_1) (by decide) (W := 0) (by show 2 * 0 + _ ≤ _; exact Nat.le_of_eq rfl) (by decide)
  refine own_by st1 ?_
  show own_Go p e below _ (T1.setTop (mkF m 4 #[.val (.ref ax), .val (.long xa), .second] []))
  refine own_by (fun _ => XS.aloadN X1.here hx rfl (hb hby own_d1_4) rfl rfl) ?_
  show own_Go p e below _ (T1.setTop (mkF m 5 #[.val (.ref ax), .val (.long xa), .second] [(.ref ax)]))
  refine own_by (fun _ => XS.lloadN X1.here hx rfl (hb hby own_d1_5) rfl) ?_
  show own_Go p e below _ (T1.setTop (mkF m 6 #[.val (.ref ax), .val (.long xa), .second] [(.long xa), (.ref ax)]))
  obtain ⟨T2, h2, X2, e2, W2, st2⟩ := putF X1 hx hZ hown (host := "") (Or.inl (hw _ (List.mem_of_getElem? (i := 9) rfl))) Via.refl e1 pf1 pf0 (Or.inl (hw _ (List.mem_of_getElem? (i := 10) rfl))) (hw _ (List.mem_of_getElem? (i := 1) rfl)) (ty := .long) (by decide) rfl rfl (g := (mkF m 6 #[.val (.ref ax), .val (.long xa), .second] [(.long xa), (.ref ax)])) rfl rfl (hb hby own_d1_6)
  refine own_by st2 ?_
  have fw2 : Fld Z h2 ax "com/example/composiq/composiq/Budget" "left" "J" (.long xa) := pf1.same W2
  have z2 : n0 ≤ h2.size := Nat.le_trans Z0 (Keep.of_wr W2).1
  have N2 := Fr.snoc X2 N0 pg_ax
  have K2 : Keep h0 h2 [ax] := (Keep.refl h0 [ax]).wr W2 (Or.inl (List.mem_of_getElem? (i := 0) rfl))
  show own_Go p e below _ (T2.setTop (mkF m 9 #[.val (.ref ax), .val (.long xa), .second] []))
  exact own_retV X2 hx hlk e2 hret (hb hby own_d1_9) (by decide) (by decide) ⟨rfl, N2, K2, fw2⟩

theorem own_d3_0 : decode prog_6_method_3_code 0 = .ok (.aload_n 0, 1) := by decide +kernel
theorem own_d3_1 : decode prog_6_method_3_code 1 = .ok (.getfield 7, 3) := by decide +kernel
theorem own_d3_4 : decode prog_6_method_3_code 4 = .ok (.lconst 0, 1) := by decide +kernel
theorem own_d3_5 : decode prog_6_method_3_code 5 = .ok (.lcmp, 1) := by decide +kernel
theorem own_d3_6 : decode prog_6_method_3_code 6 = .ok (.ifCond .ge 7, 3) := by decide +kernel
theorem own_d3_9 : decode prog_6_method_3_code 9 = .ok (.iconst 1, 1) := by decide +kernel
theorem own_d3_10 : decode prog_6_method_3_code 10 = .ok (.goto 4, 3) := by decide +kernel
theorem own_d3_13 : decode prog_6_method_3_code 13 = .ok (.iconst 0, 1) := by decide +kernel
theorem own_d3_14 : decode prog_6_method_3_code 14 = .ok (.ireturn, 1) := by decide +kernel
def own_spent (ua : Int64) : Int32 := (if ua < (0 : Int64) then (1 : Int32) else (0 : Int32))
theorem own_pn3 : plainName "com/example/composiq/composiq/Budget" = true := by first | (simp [plainName, overriddenIn]; done) | decide +kernel
theorem own_ef3 (m : MethodId) (x0 : Addr) : entryFrame m #[(.ref x0)] 1 = mkF m 0 #[.val (.ref x0)] [] := by first | (simp [entryFrame, mkF, argsToLocals, Value.category]; done) | rfl
def own_Q3 (Z : State) (ax : Addr) (ua : Int64) (h0 : Heap) (n0 : Nat) (v : Option Value) (h : Heap) (L : List Loc) : Prop := v = some (.int (own_spent ua)) ∧ Fr n0 L ∧ h = h0
theorem own_rm3 (l : Launch) (Z : State) (a0 : Array Value) (hw : ∀ d ∈ tables_1, d.before a0 Z = true) (ws : List Jvm.Cond) (ax : Addr) (ua : Int64) (h0 : Heap) (n0 : Nat) (Z0 : n0 ≤ h0.size) (pf0 : Fld Z h0 ax "com/example/composiq/composiq/Budget" "left" "J" (.long ua)) :
    MetFree l (⟨"com/example/composiq/composiq/Budget", "spent", "()Z"⟩ : MethodName) (head1 (Jvm.Cond.code (⟨"com/example/composiq/composiq/Budget", "spent", "()Z"⟩ : MethodName) prog_6_method_3_code 1 (some .boolean) :: ws) ({ frames := 0, cells := 0, slots := 0, locals := 0 } : Room)) (fun a U => a = #[(.ref ax)] ∧ Z.Warmed39 U.vm ∧ U.heap = h0) (fun _ _ _ _ _ => True) (fun _ U o U' => ∃ v L, o = .returned v ∧ own_Q3 Z ax ua h0 n0 v U'.heap L ∧ FrameEnd U o U' L ({ frames := 0, cells := 0, slots := 0, locals := 0 } : Room).cells ({ frames := 0, cells := 0, slots := 0, locals := 0 } : Room).slots) := by
  refine MetFree.of_bodySF (plainFor_of_name own_pn3) hisR ?_
  intro p e s m args below meth c s₁ Bd hml0 hP hK
  obtain ⟨rfl, hZ, hh⟩ := hP
  have hx := Bd.exec
  have hby := Bd.bytes
  have hlk := Bd.notSynchronized
  have hret := Bd.returns
  have hml : c.maxLocals = 1 := hml0
  have hown : s.vm.findClass "com/example/composiq/composiq/Budget" = some m.cls := findClass_of_methodNamed Bd.named
  have hnm := (name_of_methodNamed Bd.named Bd.method).1
  have X0 : Stand p l e ({ frames := 0, cells := 0, slots := 0, locals := 0 } : Room) s m #[(.ref ax)] below meth c s₁ [] 0 0 := Stand.of_body Bd
  have e0 : s₁.heap = h0 := by rw [← hh, Bd.state]; rfl
  have N0 := Fr.nil n0
  suffices key : own_Go p e below (own_End s below (own_Q3 Z ax ua h0 n0) ({ frames := 0, cells := 0, slots := 0, locals := 0 } : Room).cells ({ frames := 0, cells := 0, slots := 0, locals := 0 } : Room).slots) (s₁.setTop (mkF m 0 #[.val (.ref ax)] [])) by
    obtain ⟨t, k1, k2, v, L, k3, k4, k5⟩ := key
    exact ⟨t, _, castTop (own_ef3 m ax) k1, k2, k3, v, L, rfl, k4, k5⟩
  show own_Go p e below _ (s₁.setTop (mkF m 0 #[.val (.ref ax)] []))
  refine own_by (fun _ => XS.aloadN X0.here hx rfl (hb hby own_d3_0) rfl rfl) ?_
  show own_Go p e below _ (s₁.setTop (mkF m 1 #[.val (.ref ax)] [(.ref ax)]))
  obtain ⟨T1, X1, e1, st1⟩ := getF X0 hx hZ hown (host := "") (Or.inl (hw _ (List.mem_of_getElem? (i := 9) rfl))) Via.refl e0 pf0 (g := (mkF m 1 #[.val (.ref ax)] [(.ref ax)])) rfl rfl (hb hby own_d3_1)
  refine own_by st1 ?_
  show own_Go p e below _ (T1.setTop (mkF m 4 #[.val (.ref ax)] [(.long ua)]))
  refine own_by (fun _ => XS.lconst X1.here hx rfl (hb hby own_d3_4)) ?_
  show own_Go p e below _ (T1.setTop (mkF m 5 #[.val (.ref ax)] [(.long (0 : Int64)), (.long ua)]))
  refine own_by (fun _ => XS.lcmp X1.here hx rfl (hb hby own_d3_5) rfl) ?_
  show own_Go p e below _ (T1.setTop (mkF m 6 #[.val (.ref ax)] [(.int (lcmpW ua (0 : Int64)))]))
  suffices J2 : ∀ (T' : State) (v2_t0 : Int32), v2_t0 = (if ua < (0 : Int64) then (1 : Int32) else (0 : Int32)) → own_At p l e ({ frames := 0, cells := 0, slots := 0, locals := 0 } : Room) s m #[(.ref ax)] below meth c n0 T' h0 0 0 → own_Go p e below (own_End s below (own_Q3 Z ax ua h0 n0) ({ frames := 0, cells := 0, slots := 0, locals := 0 } : Room).cells ({ frames := 0, cells := 0, slots := 0, locals := 0 } : Room).slots) (T'.setTop (mkF m 14 #[.val (.ref ax)] [(.int v2_t0)])) by
    by_cases hc6_3 : ua < (0 : Int64)
    ·
      skip
      refine own_by (fun _ => XS.ifNo X1.here hx rfl (hb hby own_d3_6) rfl ((if0 _ _).trans (tlt ((lw_lt _ _).mpr hc6_3)).2.1)) ?_
      show own_Go p e below _ (T1.setTop (mkF m 9 #[.val (.ref ax)] []))
      refine own_by (fun _ => XS.iconst X1.here hx rfl (hb hby own_d3_9)) ?_
      show own_Go p e below _ (T1.setTop (mkF m 10 #[.val (.ref ax)] [(.int (1 : Int32))]))
      refine own_by (fun _ => XS.goto X1.here hx rfl (pc0 := 10) (pc' := 14) rfl (hb hby own_d3_10) (by decide) (by decide)) ?_
      show own_Go p e below _ (T1.setTop (mkF m 14 #[.val (.ref ax)] [(.int (1 : Int32))]))
      exact J2 _ _ (by first | rfl | simp only [if_pos hc6_3]) ⟨_, X1, N0, e1⟩
    ·
      skip
      refine own_by (fun _ => XS.ifYes X1.here hx rfl (pc0 := 6) (pc' := 13) rfl (hb hby own_d3_6) rfl ((if0 _ _).trans (flt (mt (lw_lt _ _).mp hc6_3)).2.1) (by decide) (by decide)) ?_
      show own_Go p e below _ (T1.setTop (mkF m 13 #[.val (.ref ax)] []))
      refine own_by (fun _ => XS.iconst X1.here hx rfl (hb hby own_d3_13)) ?_
      show own_Go p e below _ (T1.setTop (mkF m 14 #[.val (.ref ax)] [(.int (0 : Int32))]))
      exact J2 _ _ (by first | rfl | simp only [if_neg hc6_3]) ⟨_, X1, N0, e1⟩
  intro T2 v2_t0 hv2_t0 ⟨locs2, X2, N2, e2⟩
  show own_Go p e below _ (T2.setTop (mkF m 14 #[.val (.ref ax)] [(.int v2_t0)]))
  exact own_retZ X2 hx hlk e2 (by rw [hv2_t0]; (repeat' split) <;> first | exact Or.inl rfl | exact Or.inr rfl) hret (hb hby own_d3_14) (by decide) (by decide) ⟨(by subst hv2_t0; first | rfl | simp only [own_spent]), N2, rfl⟩

theorem own_d4_0 : decode prog_6_method_2_code 0 = .ok (.aload_n 0, 1) := by decide +kernel
theorem own_d4_1 : decode prog_6_method_2_code 1 = .ok (.dup, 1) := by decide +kernel
theorem own_d4_2 : decode prog_6_method_2_code 2 = .ok (.getfield 7, 3) := by decide +kernel
theorem own_d4_5 : decode prog_6_method_2_code 5 = .ok (.lload_n 1, 1) := by decide +kernel
theorem own_d4_6 : decode prog_6_method_2_code 6 = .ok (.lsub, 1) := by decide +kernel
theorem own_d4_7 : decode prog_6_method_2_code 7 = .ok (.putfield 7, 3) := by decide +kernel
theorem own_d4_10 : decode prog_6_method_2_code 10 = .ok (.return_, 1) := by decide +kernel
theorem own_pn4 : plainName "com/example/composiq/composiq/Budget" = true := by first | (simp [plainName, overriddenIn]; done) | decide +kernel
theorem own_ef4 (m : MethodId) (x0 : Addr) (x1 : Int64) : entryFrame m #[(.ref x0), (.long x1)] 3 = mkF m 0 #[.val (.ref x0), .val (.long x1), .second] [] := by first | (simp [entryFrame, mkF, argsToLocals, Value.category]; done) | rfl
def own_Q4 (Z : State) (ax : Addr) (xa : Int64) (ua : Int64) (h0 : Heap) (n0 : Nat) (v : Option Value) (h : Heap) (L : List Loc) : Prop := v = none ∧ Fr n0 L ∧ Keep h0 h [ax] ∧ Fld Z h ax "com/example/composiq/composiq/Budget" "left" "J" (.long (ua - xa))
theorem own_rm4 (l : Launch) (Z : State) (a0 : Array Value) (hw : ∀ d ∈ tables_1, d.before a0 Z = true) (ws : List Jvm.Cond) (ax : Addr) (xa : Int64) (ua : Int64) (h0 : Heap) (n0 : Nat) (Z0 : n0 ≤ h0.size) (pf0 : Exa Z h0 ax "com/example/composiq/composiq/Budget") (pf1 : Fld Z h0 ax "com/example/composiq/composiq/Budget" "left" "J" (.long ua)) (pg_ax : n0 ≤ ax) :
    MetFree l (⟨"com/example/composiq/composiq/Budget", "spend", "(J)V"⟩ : MethodName) (head1 (Jvm.Cond.code (⟨"com/example/composiq/composiq/Budget", "spend", "(J)V"⟩ : MethodName) prog_6_method_2_code 3 none :: ws) ({ frames := 0, cells := 0, slots := 0, locals := 0 } : Room)) (fun a U => a = #[(.ref ax), (.long xa)] ∧ Z.Warmed39 U.vm ∧ U.heap = h0) (fun _ _ _ _ _ => True) (fun _ U o U' => ∃ v L, o = .returned v ∧ own_Q4 Z ax xa ua h0 n0 v U'.heap L ∧ FrameEnd U o U' L ({ frames := 0, cells := 0, slots := 0, locals := 0 } : Room).cells ({ frames := 0, cells := 0, slots := 0, locals := 0 } : Room).slots) := by
  refine MetFree.of_bodySF (plainFor_of_name own_pn4) hisR ?_
  intro p e s m args below meth c s₁ Bd hml0 hP hK
  obtain ⟨rfl, hZ, hh⟩ := hP
  have hx := Bd.exec
  have hby := Bd.bytes
  have hlk := Bd.notSynchronized
  have hret := Bd.returns
  have hml : c.maxLocals = 3 := hml0
  have hown : s.vm.findClass "com/example/composiq/composiq/Budget" = some m.cls := findClass_of_methodNamed Bd.named
  have hnm := (name_of_methodNamed Bd.named Bd.method).1
  have X0 : Stand p l e ({ frames := 0, cells := 0, slots := 0, locals := 0 } : Room) s m #[(.ref ax), (.long xa)] below meth c s₁ [] 0 0 := Stand.of_body Bd
  have e0 : s₁.heap = h0 := by rw [← hh, Bd.state]; rfl
  have N0 := Fr.nil n0
  suffices key : own_Go p e below (own_End s below (own_Q4 Z ax xa ua h0 n0) ({ frames := 0, cells := 0, slots := 0, locals := 0 } : Room).cells ({ frames := 0, cells := 0, slots := 0, locals := 0 } : Room).slots) (s₁.setTop (mkF m 0 #[.val (.ref ax), .val (.long xa), .second] [])) by
    obtain ⟨t, k1, k2, v, L, k3, k4, k5⟩ := key
    exact ⟨t, _, castTop (own_ef4 m ax xa) k1, k2, k3, v, L, rfl, k4, k5⟩
  show own_Go p e below _ (s₁.setTop (mkF m 0 #[.val (.ref ax), .val (.long xa), .second] []))
  refine own_by (fun _ => XS.aloadN X0.here hx rfl (hb hby own_d4_0) rfl rfl) ?_
  show own_Go p e below _ (s₁.setTop (mkF m 1 #[.val (.ref ax), .val (.long xa), .second] [(.ref ax)]))
  refine own_by (fun _ => XS.dup X0.here hx rfl (hb hby own_d4_1) rfl rfl) ?_
  show own_Go p e below _ (s₁.setTop (mkF m 2 #[.val (.ref ax), .val (.long xa), .second] [(.ref ax), (.ref ax)]))
  obtain ⟨T1, X1, e1, st1⟩ := getF X0 hx hZ hown (host := "") (Or.inl (hw _ (List.mem_of_getElem? (i := 9) rfl))) Via.refl e0 pf1 (g := (mkF m 2 #[.val (.ref ax), .val (.long xa), .second] [(.ref ax), (.ref ax)])) rfl rfl (hb hby own_d4_2)
  refine own_by st1 ?_
  show own_Go p e below _ (T1.setTop (mkF m 5 #[.val (.ref ax), .val (.long xa), .second] [(.long ua), (.ref ax)]))
  refine own_by (fun _ => XS.lloadN X1.here hx rfl (hb hby own_d4_5) rfl) ?_
  show own_Go p e below _ (T1.setTop (mkF m 6 #[.val (.ref ax), .val (.long xa), .second] [(.long xa), (.long ua), (.ref ax)]))
  refine own_by (fun _ => XS.lsub X1.here hx rfl (hb hby own_d4_6) rfl) ?_
  show own_Go p e below _ (T1.setTop (mkF m 7 #[.val (.ref ax), .val (.long xa), .second] [(.long (ua - xa)), (.ref ax)]))
  obtain ⟨T2, h2, X2, e2, W2, st2⟩ := putF X1 hx hZ hown (host := "") (Or.inl (hw _ (List.mem_of_getElem? (i := 9) rfl))) Via.refl e1 pf1 pf0 (Or.inl (hw _ (List.mem_of_getElem? (i := 10) rfl))) (hw _ (List.mem_of_getElem? (i := 1) rfl)) (ty := .long) (by decide) rfl rfl (g := (mkF m 7 #[.val (.ref ax), .val (.long xa), .second] [(.long (ua - xa)), (.ref ax)])) rfl rfl (hb hby own_d4_7)
  refine own_by st2 ?_
  have fw2 : Fld Z h2 ax "com/example/composiq/composiq/Budget" "left" "J" (.long (ua - xa)) := pf1.same W2
  have z2 : n0 ≤ h2.size := Nat.le_trans Z0 (Keep.of_wr W2).1
  have N2 := Fr.snoc X2 N0 pg_ax
  have K2 : Keep h0 h2 [ax] := (Keep.refl h0 [ax]).wr W2 (Or.inl (List.mem_of_getElem? (i := 0) rfl))
  show own_Go p e below _ (T2.setTop (mkF m 10 #[.val (.ref ax), .val (.long xa), .second] []))
  exact own_retV X2 hx hlk e2 hret (hb hby own_d4_10) (by decide) (by decide) ⟨rfl, N2, K2, fw2⟩

def own_law (xa : Int32) (xb : Int32) (xc : Int32) : Int32 := (if (own_spent (xa.toInt64)) = (if (xa.toInt64) < (0 : Int64) then (1 : Int32) else (0 : Int32)) then (if (own_spent ((xa.toInt64) - (xb.toInt64))) = (if (xa.toInt64) < (xb.toInt64) then (1 : Int32) else (0 : Int32)) then (if (own_spent (((xa.toInt64) - (xb.toInt64)) - (xc.toInt64))) = (if (xa.toInt64) < ((xb.toInt64) + (xc.toInt64)) then (1 : Int32) else (0 : Int32)) then (1 : Int32) else (0 : Int32)) else (0 : Int32)) else (0 : Int32))
theorem own_plain (xa xb xc : Int32) : own_law xa xb xc = 1 := by
  have r1 := rng32 xa
  have r2 := rng32 xb
  have r3 := rng32 xc
  have e1 := c_i2l xa
  have e2 := c_i2l xb
  have e3 := c_i2l xc
  have e4 := c_lsub xa.toInt64 xb.toInt64
  have e5 := c_lsub (xa.toInt64 - xb.toInt64) xc.toInt64
  have e6 := c_ladd xb.toInt64 xc.toInt64
  have r4 := rng64 (xa.toInt64 - xb.toInt64)
  have r5 := rng64 (xa.toInt64 - xb.toInt64 - xc.toInt64)
  have r6 := rng64 (xb.toInt64 + xc.toInt64)
  have k0 : (0 : Int64).toInt = 0 := by decide
  simp only [own_law, own_spent]
  simp only [Int64.lt_iff_toInt_lt, k0]
  repeat' split
  all_goals first | rfl | (exfalso; omega) | (exfalso; simp_all; done) | (exfalso; simp_all; omega)

theorem own_pn0 : plainName "com/example/composiq/composiq/BudgetSpentPinLaw" = true := by first | (simp [plainName, overriddenIn]; done) | decide +kernel
theorem own_ef0 (m : MethodId) (x0 : Int32) (x1 : Int32) (x2 : Int32) : entryFrame m #[(.int x0), (.int x1), (.int x2)] maxLocals = mkF m 0 #[.val (.int x0), .val (.int x1), .val (.int x2), .unset, .unset, .unset, .unset, .unset, .unset, .unset, .unset, .unset, .unset, .unset, .unset, .unset] [] := by first | (simp [entryFrame, mkF, argsToLocals, Value.category, maxLocals]; done) | rfl
def own_Q0 (Z : State) (xa : Int32) (xb : Int32) (xc : Int32) (h0 : Heap) (n0 : Nat) (v : Option Value) (h : Heap) (L : List Loc) : Prop := v = some (.int (1 : Int32)) ∧ Fr n0 L
theorem own_rm0 (l : Launch) (Z : State) (a0 : Array Value) (hw : ∀ d ∈ tables_1, d.before a0 Z = true) (ws : List Jvm.Cond) (xa : Int32) (xb : Int32) (xc : Int32) (h0 : Heap) (n0 : Nat) (Z0 : n0 ≤ h0.size) :
    MetFree l x (head1 (Jvm.Cond.code x code maxLocals ret :: ws) room_1) (fun a U => a = #[(.int xa), (.int xb), (.int xc)] ∧ Z.Warmed39 U.vm ∧ U.heap = h0) (fun _ _ _ _ _ => True) (fun _ U o U' => ∃ v L, o = .returned v ∧ own_Q0 Z xa xb xc h0 n0 v U'.heap L ∧ FrameEnd U o U' L room_1.cells room_1.slots) := by
  refine MetFree.of_bodySF (plainFor_of_name own_pn0) hisR ?_
  intro p e s m args below meth c s₁ Bd hml0 hP hK
  obtain ⟨rfl, hZ, hh⟩ := hP
  have hx := Bd.exec
  have hby := Bd.bytes
  have hlk := Bd.notSynchronized
  have hret := Bd.returns
  have hml : c.maxLocals = 16 := hml0
  have hown : s.vm.findClass "com/example/composiq/composiq/BudgetSpentPinLaw" = some m.cls := findClass_of_methodNamed Bd.named
  have hnm := (name_of_methodNamed Bd.named Bd.method).1
  have X0 : Stand p l e room_1 s m #[(.int xa), (.int xb), (.int xc)] below meth c s₁ [] 0 0 := Stand.of_body Bd
  have e0 : s₁.heap = h0 := by rw [← hh, Bd.state]; rfl
  have N0 := Fr.nil n0
  suffices key : own_Go p e below (own_End s below (own_Q0 Z xa xb xc h0 n0) room_1.cells room_1.slots) (s₁.setTop (mkF m 0 #[.val (.int xa), .val (.int xb), .val (.int xc), .unset, .unset, .unset, .unset, .unset, .unset, .unset, .unset, .unset, .unset, .unset, .unset, .unset] [])) by
    obtain ⟨t, k1, k2, v, L, k3, k4, k5⟩ := key
    exact ⟨t, _, castTop (own_ef0 m xa xb xc) k1, k2, k3, v, L, rfl, k4, k5⟩
  show own_Go p e below _ (s₁.setTop (mkF m 0 #[.val (.int xa), .val (.int xb), .val (.int xc), .unset, .unset, .unset, .unset, .unset, .unset, .unset, .unset, .unset, .unset, .unset, .unset, .unset] []))
  refine own_by (fun _ => XS.iloadN X0.here hx rfl (hb hby at_0) rfl) ?_
  show own_Go p e below _ (s₁.setTop (mkF m 1 #[.val (.int xa), .val (.int xb), .val (.int xc), .unset, .unset, .unset, .unset, .unset, .unset, .unset, .unset, .unset, .unset, .unset, .unset, .unset] [(.int xa)]))
  refine own_by (fun _ => XS.i2l X0.here hx rfl (hb hby at_1) rfl) ?_
  show own_Go p e below _ (s₁.setTop (mkF m 2 #[.val (.int xa), .val (.int xb), .val (.int xc), .unset, .unset, .unset, .unset, .unset, .unset, .unset, .unset, .unset, .unset, .unset, .unset, .unset] [(.long (xa.toInt64))]))
  refine own_by (fun _ => XS.lstoreN X0.here hx rfl (hb hby at_2) rfl (l' := #[.val (.int xa), .val (.int xb), .val (.int xc), .val (.long (xa.toInt64)), .second, .unset, .unset, .unset, .unset, .unset, .unset, .unset, .unset, .unset, .unset, .unset]) rfl) ?_
  show own_Go p e below _ (s₁.setTop (mkF m 3 #[.val (.int xa), .val (.int xb), .val (.int xc), .val (.long (xa.toInt64)), .second, .unset, .unset, .unset, .unset, .unset, .unset, .unset, .unset, .unset, .unset, .unset] []))
  refine own_by (fun _ => XS.iloadN X0.here hx rfl (hb hby at_3) rfl) ?_
  show own_Go p e below _ (s₁.setTop (mkF m 4 #[.val (.int xa), .val (.int xb), .val (.int xc), .val (.long (xa.toInt64)), .second, .unset, .unset, .unset, .unset, .unset, .unset, .unset, .unset, .unset, .unset, .unset] [(.int xb)]))
  refine own_by (fun _ => XS.i2l X0.here hx rfl (hb hby at_4) rfl) ?_
  show own_Go p e below _ (s₁.setTop (mkF m 5 #[.val (.int xa), .val (.int xb), .val (.int xc), .val (.long (xa.toInt64)), .second, .unset, .unset, .unset, .unset, .unset, .unset, .unset, .unset, .unset, .unset, .unset] [(.long (xb.toInt64))]))
  refine own_by (fun _ => XS.lstore X0.here hx rfl (hb hby at_5) rfl (l' := #[.val (.int xa), .val (.int xb), .val (.int xc), .val (.long (xa.toInt64)), .second, .val (.long (xb.toInt64)), .second, .unset, .unset, .unset, .unset, .unset, .unset, .unset, .unset, .unset]) rfl) ?_
  show own_Go p e below _ (s₁.setTop (mkF m 7 #[.val (.int xa), .val (.int xb), .val (.int xc), .val (.long (xa.toInt64)), .second, .val (.long (xb.toInt64)), .second, .unset, .unset, .unset, .unset, .unset, .unset, .unset, .unset, .unset] []))
  refine own_by (fun _ => XS.iloadN X0.here hx rfl (hb hby at_7) rfl) ?_
  show own_Go p e below _ (s₁.setTop (mkF m 8 #[.val (.int xa), .val (.int xb), .val (.int xc), .val (.long (xa.toInt64)), .second, .val (.long (xb.toInt64)), .second, .unset, .unset, .unset, .unset, .unset, .unset, .unset, .unset, .unset] [(.int xc)]))
  refine own_by (fun _ => XS.i2l X0.here hx rfl (hb hby at_8) rfl) ?_
  show own_Go p e below _ (s₁.setTop (mkF m 9 #[.val (.int xa), .val (.int xb), .val (.int xc), .val (.long (xa.toInt64)), .second, .val (.long (xb.toInt64)), .second, .unset, .unset, .unset, .unset, .unset, .unset, .unset, .unset, .unset] [(.long (xc.toInt64))]))
  refine own_by (fun _ => XS.lstore X0.here hx rfl (hb hby at_9) rfl (l' := #[.val (.int xa), .val (.int xb), .val (.int xc), .val (.long (xa.toInt64)), .second, .val (.long (xb.toInt64)), .second, .val (.long (xc.toInt64)), .second, .unset, .unset, .unset, .unset, .unset, .unset, .unset]) rfl) ?_
  show own_Go p e below _ (s₁.setTop (mkF m 11 #[.val (.int xa), .val (.int xb), .val (.int xc), .val (.long (xa.toInt64)), .second, .val (.long (xb.toInt64)), .second, .val (.long (xc.toInt64)), .second, .unset, .unset, .unset, .unset, .unset, .unset, .unset] []))
  obtain ⟨T1, h1, X1, e1, E1, A1, D1, -, st1⟩ := newO X0 hx hZ hown (hw _ (List.mem_of_getElem? (i := 0) rfl)) (hw _ (List.mem_of_getElem? (i := 1) rfl)) (hw _ (List.mem_of_getElem? (i := 2) rfl)) e0 (g := (mkF m 11 #[.val (.int xa), .val (.int xb), .val (.int xc), .val (.long (xa.toInt64)), .second, .val (.long (xb.toInt64)), .second, .val (.long (xc.toInt64)), .second, .unset, .unset, .unset, .unset, .unset, .unset, .unset] [])) rfl (hb hby at_11) (by decide) (by decide)
  obtain ⟨b1, g1⟩ : ∃ z, z = h0.size := ⟨_, rfl⟩
  rw [← g1] at A1 D1 st1
  refine own_by st1 ?_
  have ge1 : n0 ≤ b1 := Nat.le_trans Z0 (Nat.le_of_eq g1.symm)
  have z1 : n0 ≤ h1.size := Nat.le_trans Z0 E1.1
  have fz1_left : Fld Z h1 b1 "com/example/composiq/composiq/Budget" "left" "J" (.long (0 : Int64)) := D1 (Or.inl (hw _ (List.mem_of_getElem? (i := 10) rfl))) (ty := .long) (by decide)
  show own_Go p e below _ (T1.setTop (mkF m 14 #[.val (.int xa), .val (.int xb), .val (.int xc), .val (.long (xa.toInt64)), .second, .val (.long (xb.toInt64)), .second, .val (.long (xc.toInt64)), .second, .unset, .unset, .unset, .unset, .unset, .unset, .unset] [(.ref b1)]))
  refine own_by (fun _ => XS.dup X1.here hx rfl (hb hby at_14) rfl rfl) ?_
  show own_Go p e below _ (T1.setTop (mkF m 15 #[.val (.int xa), .val (.int xb), .val (.int xc), .val (.long (xa.toInt64)), .second, .val (.long (xb.toInt64)), .second, .val (.long (xc.toInt64)), .second, .unset, .unset, .unset, .unset, .unset, .unset, .unset] [(.ref b1), (.ref b1)]))
  refine own_by (fun _ => XS.lloadN X1.here hx rfl (hb hby at_15) rfl) ?_
  show own_Go p e below _ (T1.setTop (mkF m 16 #[.val (.int xa), .val (.int xb), .val (.int xc), .val (.long (xa.toInt64)), .second, .val (.long (xb.toInt64)), .second, .val (.long (xc.toInt64)), .second, .unset, .unset, .unset, .unset, .unset, .unset, .unset] [(.long (xa.toInt64)), (.ref b1), (.ref b1)]))
  obtain ⟨_, _, ⟨T2, L2, k2, n2⟩, -, X2, ⟨Lc2, hQ2, l2, y2, z2'⟩, st2⟩ := X1.specialBack hx (y := (⟨"com/example/composiq/composiq/Budget", "<init>", "(J)V"⟩ : MethodName)) rfl hown (mvT hZ (hw _ (List.mem_of_getElem? (i := 3) rfl))) (mvT hZ (hw _ (List.mem_of_getElem? (i := 4) rfl))) (mvT hZ (hw _ (List.mem_of_getElem? (i := 5) rfl))) (by decide) (backOf (W := 1) (own_rm1 l Z a0 hw [] b1 (xa.toInt64) (0 : Int64) h1 n0 z1 A1 fz1_left ge1) hZ (hw _ (List.mem_of_getElem? (i := 5) rfl)) (hw _ (List.mem_of_getElem? (i := 2) rfl)) (by decide) (by decide)) (g := (mkF m 16 #[.val (.int xa), .val (.int xb), .val (.int xc), .val (.long (xa.toInt64)), .second, .val (.long (xb.toInt64)), .second, .val (.long (xc.toInt64)), .second, .unset, .unset, .unset, .unset, .unset, .unset, .unset] [(.long (xa.toInt64)), (.ref b1), (.ref b1)])) rfl (by rw [hml]; rfl) (Steps.refl _) (a := b1) (argsL := [(.long (xa.toInt64))]) (rest := [(.ref b1)]) (lenOf own_pd0 rfl) rfl (by show 2 * 0 + _ ≤ _; exact Nat.le_of_eq rfl) (hb hby at_16) (fun _ _ => ⟨rfl, e1, (by decide : 1 + 0 ≤ _), (by decide : 1 + 0 ≤ _)⟩)
  dsimp only [Pt.U, Pt.locs, Pt.cells, Pt.slots] at X2 l2 y2 z2' st2 hQ2
  subst l2 y2 z2'
  obtain ⟨rfl, N2q, Kc2, fc2_0⟩ := hQ2
  have N2 := Fr.app N0 N2q
  refine own_tr st2 ?_
  have z2 : n0 ≤ T2.heap.size := Nat.le_trans z1 Kc2.1
  show own_Go p e below _ (T2.setTop (mkF m 19 #[.val (.int xa), .val (.int xb), .val (.int xc), .val (.long (xa.toInt64)), .second, .val (.long (xb.toInt64)), .second, .val (.long (xc.toInt64)), .second, .unset, .unset, .unset, .unset, .unset, .unset, .unset] [(.ref b1)]))
  refine own_by (fun _ => XS.astore X2.here hx rfl (hb hby at_19) rfl rfl (l' := #[.val (.int xa), .val (.int xb), .val (.int xc), .val (.long (xa.toInt64)), .second, .val (.long (xb.toInt64)), .second, .val (.long (xc.toInt64)), .second, .val (.ref b1), .unset, .unset, .unset, .unset, .unset, .unset]) rfl) ?_
  show own_Go p e below _ (T2.setTop (mkF m 21 #[.val (.int xa), .val (.int xb), .val (.int xc), .val (.long (xa.toInt64)), .second, .val (.long (xb.toInt64)), .second, .val (.long (xc.toInt64)), .second, .val (.ref b1), .unset, .unset, .unset, .unset, .unset, .unset] []))
  refine own_by (fun _ => XS.aload X2.here hx rfl (hb hby at_21) rfl rfl) ?_
  show own_Go p e below _ (T2.setTop (mkF m 23 #[.val (.int xa), .val (.int xb), .val (.int xc), .val (.long (xa.toInt64)), .second, .val (.long (xb.toInt64)), .second, .val (.long (xc.toInt64)), .second, .val (.ref b1), .unset, .unset, .unset, .unset, .unset, .unset] [(.ref b1)]))
  have f4 : Exa Z T2.heap b1 "com/example/composiq/composiq/Budget" := (A1.keep Kc2)
  obtain ⟨cq3, kq3, q3a, q3b, q3c⟩ := isOf hZ rfl f4
  obtain ⟨_, _, ⟨T3, L3, k3, n3⟩, -, X3, ⟨Lc3, hQ3, l3, y3, z3'⟩, st3⟩ := X2.virtualBack hx (y := (⟨"com/example/composiq/composiq/Budget", "spent", "()Z"⟩ : MethodName)) (z := (⟨"com/example/composiq/composiq/Budget", "spent", "()Z"⟩ : MethodName)) hown (mvT hZ (hw _ (List.mem_of_getElem? (i := 11) rfl))) (mvT hZ (hw _ (List.mem_of_getElem? (i := 12) rfl))) (notFace_of_selects (args := #[]) (mvT hZ (hw _ (List.mem_of_getElem? (i := 14) rfl)))) (mvT hZ (hw _ (List.mem_of_getElem? (i := 14) rfl))) (mvT hZ (hw _ (List.mem_of_getElem? (i := 13) rfl))) (by decide) (backOf (W := 0) (own_rm3 l Z a0 hw [] b1 (xa.toInt64) T2.heap n0 z2 fc2_0) hZ (hw _ (List.mem_of_getElem? (i := 15) rfl)) (hw _ (List.mem_of_getElem? (i := 2) rfl)) (by decide) (by decide)) q3a q3c (g := (mkF m 23 #[.val (.int xa), .val (.int xb), .val (.int xc), .val (.long (xa.toInt64)), .second, .val (.long (xb.toInt64)), .second, .val (.long (xc.toInt64)), .second, .val (.ref b1), .unset, .unset, .unset, .unset, .unset, .unset] [(.ref b1)])) rfl (by rw [hml]; rfl) (Steps.refl _) (argsL := []) (rest := []) (lenOf own_pd1 rfl) rfl (by show 2 * 0 + _ ≤ _; exact Nat.le_of_eq rfl) (hb hby at_23) (fun _ _ => ⟨rfl, rfl, (by decide : 1 + 0 ≤ _), (by decide : 1 + 0 ≤ _)⟩)
  dsimp only [Pt.U, Pt.locs, Pt.cells, Pt.slots] at X3 l3 y3 z3' st3 hQ3
  subst l3 y3 z3'
  obtain ⟨rfl, N3q, e3⟩ := hQ3
  have N3 := Fr.app N2 N3q
  refine own_tr st3 ?_
  show own_Go p e below _ (T3.setTop (mkF m 26 #[.val (.int xa), .val (.int xb), .val (.int xc), .val (.long (xa.toInt64)), .second, .val (.long (xb.toInt64)), .second, .val (.long (xc.toInt64)), .second, .val (.ref b1), .unset, .unset, .unset, .unset, .unset, .unset] [(.int (own_spent (xa.toInt64)))]))
  refine own_by (fun _ => XS.istore X3.here hx rfl (hb hby at_26) rfl (l' := #[.val (.int xa), .val (.int xb), .val (.int xc), .val (.long (xa.toInt64)), .second, .val (.long (xb.toInt64)), .second, .val (.long (xc.toInt64)), .second, .val (.ref b1), .val (.int (own_spent (xa.toInt64))), .unset, .unset, .unset, .unset, .unset]) rfl) ?_
  show own_Go p e below _ (T3.setTop (mkF m 28 #[.val (.int xa), .val (.int xb), .val (.int xc), .val (.long (xa.toInt64)), .second, .val (.long (xb.toInt64)), .second, .val (.long (xc.toInt64)), .second, .val (.ref b1), .val (.int (own_spent (xa.toInt64))), .unset, .unset, .unset, .unset, .unset] []))
  refine own_by (fun _ => XS.aload X3.here hx rfl (hb hby at_28) rfl rfl) ?_
  show own_Go p e below _ (T3.setTop (mkF m 30 #[.val (.int xa), .val (.int xb), .val (.int xc), .val (.long (xa.toInt64)), .second, .val (.long (xb.toInt64)), .second, .val (.long (xc.toInt64)), .second, .val (.ref b1), .val (.int (own_spent (xa.toInt64))), .unset, .unset, .unset, .unset, .unset] [(.ref b1)]))
  refine own_by (fun _ => XS.lload X3.here hx rfl (hb hby at_30) rfl) ?_
  show own_Go p e below _ (T3.setTop (mkF m 32 #[.val (.int xa), .val (.int xb), .val (.int xc), .val (.long (xa.toInt64)), .second, .val (.long (xb.toInt64)), .second, .val (.long (xc.toInt64)), .second, .val (.ref b1), .val (.int (own_spent (xa.toInt64))), .unset, .unset, .unset, .unset, .unset] [(.long (xb.toInt64)), (.ref b1)]))
  obtain ⟨cq5, kq5, q5a, q5b, q5c⟩ := isOf hZ e3 f4
  obtain ⟨_, _, ⟨T5, L5, k5, n5⟩, -, X5, ⟨Lc5, hQ5, l5, y5, z5'⟩, st5⟩ := X3.virtualBack hx (y := (⟨"com/example/composiq/composiq/Budget", "spend", "(J)V"⟩ : MethodName)) (z := (⟨"com/example/composiq/composiq/Budget", "spend", "(J)V"⟩ : MethodName)) hown (mvT hZ (hw _ (List.mem_of_getElem? (i := 16) rfl))) (mvT hZ (hw _ (List.mem_of_getElem? (i := 17) rfl))) (notFace_of_selects (args := #[]) (mvT hZ (hw _ (List.mem_of_getElem? (i := 19) rfl)))) (mvT hZ (hw _ (List.mem_of_getElem? (i := 19) rfl))) (mvT hZ (hw _ (List.mem_of_getElem? (i := 18) rfl))) (by decide) (backOf (W := 0) (own_rm4 l Z a0 hw [] b1 (xb.toInt64) (xa.toInt64) T2.heap n0 z2 f4 fc2_0 ge1) hZ (hw _ (List.mem_of_getElem? (i := 20) rfl)) (hw _ (List.mem_of_getElem? (i := 2) rfl)) (by decide) (by decide)) q5a q5c (g := (mkF m 32 #[.val (.int xa), .val (.int xb), .val (.int xc), .val (.long (xa.toInt64)), .second, .val (.long (xb.toInt64)), .second, .val (.long (xc.toInt64)), .second, .val (.ref b1), .val (.int (own_spent (xa.toInt64))), .unset, .unset, .unset, .unset, .unset] [(.long (xb.toInt64)), (.ref b1)])) rfl (by rw [hml]; rfl) (Steps.refl _) (argsL := [(.long (xb.toInt64))]) (rest := []) (lenOf own_pd0 rfl) rfl (by show 2 * 0 + _ ≤ _; exact Nat.le_of_eq rfl) (hb hby at_32) (fun _ _ => ⟨rfl, e3, (by decide : 1 + 0 ≤ _), (by decide : 1 + 0 ≤ _)⟩)
  dsimp only [Pt.U, Pt.locs, Pt.cells, Pt.slots] at X5 l5 y5 z5' st5 hQ5
  subst l5 y5 z5'
  obtain ⟨rfl, N5q, Kc5, fc5_0⟩ := hQ5
  have N5 := Fr.app N3 N5q
  refine own_tr st5 ?_
  have z5 : n0 ≤ T5.heap.size := Nat.le_trans z2 Kc5.1
  show own_Go p e below _ (T5.setTop (mkF m 35 #[.val (.int xa), .val (.int xb), .val (.int xc), .val (.long (xa.toInt64)), .second, .val (.long (xb.toInt64)), .second, .val (.long (xc.toInt64)), .second, .val (.ref b1), .val (.int (own_spent (xa.toInt64))), .unset, .unset, .unset, .unset, .unset] []))
  refine own_by (fun _ => XS.aload X5.here hx rfl (hb hby at_35) rfl rfl) ?_
  show own_Go p e below _ (T5.setTop (mkF m 37 #[.val (.int xa), .val (.int xb), .val (.int xc), .val (.long (xa.toInt64)), .second, .val (.long (xb.toInt64)), .second, .val (.long (xc.toInt64)), .second, .val (.ref b1), .val (.int (own_spent (xa.toInt64))), .unset, .unset, .unset, .unset, .unset] [(.ref b1)]))
  have f7 : Exa Z T5.heap b1 "com/example/composiq/composiq/Budget" := (f4.keep Kc5)
  obtain ⟨cq6, kq6, q6a, q6b, q6c⟩ := isOf hZ rfl f7
  obtain ⟨_, _, ⟨T6, L6, k6, n6⟩, -, X6, ⟨Lc6, hQ6, l6, y6, z6'⟩, st6⟩ := X5.virtualBack hx (y := (⟨"com/example/composiq/composiq/Budget", "spent", "()Z"⟩ : MethodName)) (z := (⟨"com/example/composiq/composiq/Budget", "spent", "()Z"⟩ : MethodName)) hown (mvT hZ (hw _ (List.mem_of_getElem? (i := 11) rfl))) (mvT hZ (hw _ (List.mem_of_getElem? (i := 12) rfl))) (notFace_of_selects (args := #[]) (mvT hZ (hw _ (List.mem_of_getElem? (i := 14) rfl)))) (mvT hZ (hw _ (List.mem_of_getElem? (i := 14) rfl))) (mvT hZ (hw _ (List.mem_of_getElem? (i := 13) rfl))) (by decide) (backOf (W := 0) (own_rm3 l Z a0 hw [] b1 ((xa.toInt64) - (xb.toInt64)) T5.heap n0 z5 fc5_0) hZ (hw _ (List.mem_of_getElem? (i := 15) rfl)) (hw _ (List.mem_of_getElem? (i := 2) rfl)) (by decide) (by decide)) q6a q6c (g := (mkF m 37 #[.val (.int xa), .val (.int xb), .val (.int xc), .val (.long (xa.toInt64)), .second, .val (.long (xb.toInt64)), .second, .val (.long (xc.toInt64)), .second, .val (.ref b1), .val (.int (own_spent (xa.toInt64))), .unset, .unset, .unset, .unset, .unset] [(.ref b1)])) rfl (by rw [hml]; rfl) (Steps.refl _) (argsL := []) (rest := []) (lenOf own_pd1 rfl) rfl (by show 2 * 0 + _ ≤ _; exact Nat.le_of_eq rfl) (hb hby at_37) (fun _ _ => ⟨rfl, rfl, (by decide : 1 + 0 ≤ _), (by decide : 1 + 0 ≤ _)⟩)
  dsimp only [Pt.U, Pt.locs, Pt.cells, Pt.slots] at X6 l6 y6 z6' st6 hQ6
  subst l6 y6 z6'
  obtain ⟨rfl, N6q, e6⟩ := hQ6
  have N6 := Fr.app N5 N6q
  refine own_tr st6 ?_
  show own_Go p e below _ (T6.setTop (mkF m 40 #[.val (.int xa), .val (.int xb), .val (.int xc), .val (.long (xa.toInt64)), .second, .val (.long (xb.toInt64)), .second, .val (.long (xc.toInt64)), .second, .val (.ref b1), .val (.int (own_spent (xa.toInt64))), .unset, .unset, .unset, .unset, .unset] [(.int (own_spent ((xa.toInt64) - (xb.toInt64))))]))
  refine own_by (fun _ => XS.istore X6.here hx rfl (hb hby at_40) rfl (l' := #[.val (.int xa), .val (.int xb), .val (.int xc), .val (.long (xa.toInt64)), .second, .val (.long (xb.toInt64)), .second, .val (.long (xc.toInt64)), .second, .val (.ref b1), .val (.int (own_spent (xa.toInt64))), .val (.int (own_spent ((xa.toInt64) - (xb.toInt64)))), .unset, .unset, .unset, .unset]) rfl) ?_
  show own_Go p e below _ (T6.setTop (mkF m 42 #[.val (.int xa), .val (.int xb), .val (.int xc), .val (.long (xa.toInt64)), .second, .val (.long (xb.toInt64)), .second, .val (.long (xc.toInt64)), .second, .val (.ref b1), .val (.int (own_spent (xa.toInt64))), .val (.int (own_spent ((xa.toInt64) - (xb.toInt64)))), .unset, .unset, .unset, .unset] []))
  refine own_by (fun _ => XS.aload X6.here hx rfl (hb hby at_42) rfl rfl) ?_
  show own_Go p e below _ (T6.setTop (mkF m 44 #[.val (.int xa), .val (.int xb), .val (.int xc), .val (.long (xa.toInt64)), .second, .val (.long (xb.toInt64)), .second, .val (.long (xc.toInt64)), .second, .val (.ref b1), .val (.int (own_spent (xa.toInt64))), .val (.int (own_spent ((xa.toInt64) - (xb.toInt64)))), .unset, .unset, .unset, .unset] [(.ref b1)]))
  refine own_by (fun _ => XS.lload X6.here hx rfl (hb hby at_44) rfl) ?_
  show own_Go p e below _ (T6.setTop (mkF m 46 #[.val (.int xa), .val (.int xb), .val (.int xc), .val (.long (xa.toInt64)), .second, .val (.long (xb.toInt64)), .second, .val (.long (xc.toInt64)), .second, .val (.ref b1), .val (.int (own_spent (xa.toInt64))), .val (.int (own_spent ((xa.toInt64) - (xb.toInt64)))), .unset, .unset, .unset, .unset] [(.long (xc.toInt64)), (.ref b1)]))
  obtain ⟨cq8, kq8, q8a, q8b, q8c⟩ := isOf hZ e6 f7
  obtain ⟨_, _, ⟨T8, L8, k8, n8⟩, -, X8, ⟨Lc8, hQ8, l8, y8, z8'⟩, st8⟩ := X6.virtualBack hx (y := (⟨"com/example/composiq/composiq/Budget", "spend", "(J)V"⟩ : MethodName)) (z := (⟨"com/example/composiq/composiq/Budget", "spend", "(J)V"⟩ : MethodName)) hown (mvT hZ (hw _ (List.mem_of_getElem? (i := 16) rfl))) (mvT hZ (hw _ (List.mem_of_getElem? (i := 17) rfl))) (notFace_of_selects (args := #[]) (mvT hZ (hw _ (List.mem_of_getElem? (i := 19) rfl)))) (mvT hZ (hw _ (List.mem_of_getElem? (i := 19) rfl))) (mvT hZ (hw _ (List.mem_of_getElem? (i := 18) rfl))) (by decide) (backOf (W := 0) (own_rm4 l Z a0 hw [] b1 (xc.toInt64) ((xa.toInt64) - (xb.toInt64)) T5.heap n0 z5 f7 fc5_0 ge1) hZ (hw _ (List.mem_of_getElem? (i := 20) rfl)) (hw _ (List.mem_of_getElem? (i := 2) rfl)) (by decide) (by decide)) q8a q8c (g := (mkF m 46 #[.val (.int xa), .val (.int xb), .val (.int xc), .val (.long (xa.toInt64)), .second, .val (.long (xb.toInt64)), .second, .val (.long (xc.toInt64)), .second, .val (.ref b1), .val (.int (own_spent (xa.toInt64))), .val (.int (own_spent ((xa.toInt64) - (xb.toInt64)))), .unset, .unset, .unset, .unset] [(.long (xc.toInt64)), (.ref b1)])) rfl (by rw [hml]; rfl) (Steps.refl _) (argsL := [(.long (xc.toInt64))]) (rest := []) (lenOf own_pd0 rfl) rfl (by show 2 * 0 + _ ≤ _; exact Nat.le_of_eq rfl) (hb hby at_46) (fun _ _ => ⟨rfl, e6, (by decide : 1 + 0 ≤ _), (by decide : 1 + 0 ≤ _)⟩)
  dsimp only [Pt.U, Pt.locs, Pt.cells, Pt.slots] at X8 l8 y8 z8' st8 hQ8
  subst l8 y8 z8'
  obtain ⟨rfl, N8q, Kc8, fc8_0⟩ := hQ8
  have N8 := Fr.app N6 N8q
  refine own_tr st8 ?_
  have z8 : n0 ≤ T8.heap.size := Nat.le_trans z5 Kc8.1
  show own_Go p e below _ (T8.setTop (mkF m 49 #[.val (.int xa), .val (.int xb), .val (.int xc), .val (.long (xa.toInt64)), .second, .val (.long (xb.toInt64)), .second, .val (.long (xc.toInt64)), .second, .val (.ref b1), .val (.int (own_spent (xa.toInt64))), .val (.int (own_spent ((xa.toInt64) - (xb.toInt64)))), .unset, .unset, .unset, .unset] []))
  refine own_by (fun _ => XS.aload X8.here hx rfl (hb hby at_49) rfl rfl) ?_
  show own_Go p e below _ (T8.setTop (mkF m 51 #[.val (.int xa), .val (.int xb), .val (.int xc), .val (.long (xa.toInt64)), .second, .val (.long (xb.toInt64)), .second, .val (.long (xc.toInt64)), .second, .val (.ref b1), .val (.int (own_spent (xa.toInt64))), .val (.int (own_spent ((xa.toInt64) - (xb.toInt64)))), .unset, .unset, .unset, .unset] [(.ref b1)]))
  have f10 : Exa Z T8.heap b1 "com/example/composiq/composiq/Budget" := (f7.keep Kc8)
  obtain ⟨cq9, kq9, q9a, q9b, q9c⟩ := isOf hZ rfl f10
  obtain ⟨_, _, ⟨T9, L9, k9, n9⟩, -, X9, ⟨Lc9, hQ9, l9, y9, z9'⟩, st9⟩ := X8.virtualBack hx (y := (⟨"com/example/composiq/composiq/Budget", "spent", "()Z"⟩ : MethodName)) (z := (⟨"com/example/composiq/composiq/Budget", "spent", "()Z"⟩ : MethodName)) hown (mvT hZ (hw _ (List.mem_of_getElem? (i := 11) rfl))) (mvT hZ (hw _ (List.mem_of_getElem? (i := 12) rfl))) (notFace_of_selects (args := #[]) (mvT hZ (hw _ (List.mem_of_getElem? (i := 14) rfl)))) (mvT hZ (hw _ (List.mem_of_getElem? (i := 14) rfl))) (mvT hZ (hw _ (List.mem_of_getElem? (i := 13) rfl))) (by decide) (backOf (W := 0) (own_rm3 l Z a0 hw [] b1 (((xa.toInt64) - (xb.toInt64)) - (xc.toInt64)) T8.heap n0 z8 fc8_0) hZ (hw _ (List.mem_of_getElem? (i := 15) rfl)) (hw _ (List.mem_of_getElem? (i := 2) rfl)) (by decide) (by decide)) q9a q9c (g := (mkF m 51 #[.val (.int xa), .val (.int xb), .val (.int xc), .val (.long (xa.toInt64)), .second, .val (.long (xb.toInt64)), .second, .val (.long (xc.toInt64)), .second, .val (.ref b1), .val (.int (own_spent (xa.toInt64))), .val (.int (own_spent ((xa.toInt64) - (xb.toInt64)))), .unset, .unset, .unset, .unset] [(.ref b1)])) rfl (by rw [hml]; rfl) (Steps.refl _) (argsL := []) (rest := []) (lenOf own_pd1 rfl) rfl (by show 2 * 0 + _ ≤ _; exact Nat.le_of_eq rfl) (hb hby at_51) (fun _ _ => ⟨rfl, rfl, (by decide : 1 + 0 ≤ _), (by decide : 1 + 0 ≤ _)⟩)
  dsimp only [Pt.U, Pt.locs, Pt.cells, Pt.slots] at X9 l9 y9 z9' st9 hQ9
  subst l9 y9 z9'
  obtain ⟨rfl, N9q, e9⟩ := hQ9
  have N9 := Fr.app N8 N9q
  refine own_tr st9 ?_
  show own_Go p e below _ (T9.setTop (mkF m 54 #[.val (.int xa), .val (.int xb), .val (.int xc), .val (.long (xa.toInt64)), .second, .val (.long (xb.toInt64)), .second, .val (.long (xc.toInt64)), .second, .val (.ref b1), .val (.int (own_spent (xa.toInt64))), .val (.int (own_spent ((xa.toInt64) - (xb.toInt64)))), .unset, .unset, .unset, .unset] [(.int (own_spent (((xa.toInt64) - (xb.toInt64)) - (xc.toInt64))))]))
  refine own_by (fun _ => XS.istore X9.here hx rfl (hb hby at_54) rfl (l' := #[.val (.int xa), .val (.int xb), .val (.int xc), .val (.long (xa.toInt64)), .second, .val (.long (xb.toInt64)), .second, .val (.long (xc.toInt64)), .second, .val (.ref b1), .val (.int (own_spent (xa.toInt64))), .val (.int (own_spent ((xa.toInt64) - (xb.toInt64)))), .val (.int (own_spent (((xa.toInt64) - (xb.toInt64)) - (xc.toInt64)))), .unset, .unset, .unset]) rfl) ?_
  show own_Go p e below _ (T9.setTop (mkF m 56 #[.val (.int xa), .val (.int xb), .val (.int xc), .val (.long (xa.toInt64)), .second, .val (.long (xb.toInt64)), .second, .val (.long (xc.toInt64)), .second, .val (.ref b1), .val (.int (own_spent (xa.toInt64))), .val (.int (own_spent ((xa.toInt64) - (xb.toInt64)))), .val (.int (own_spent (((xa.toInt64) - (xb.toInt64)) - (xc.toInt64)))), .unset, .unset, .unset] []))
  refine own_by (fun _ => XS.lloadN X9.here hx rfl (hb hby at_56) rfl) ?_
  show own_Go p e below _ (T9.setTop (mkF m 57 #[.val (.int xa), .val (.int xb), .val (.int xc), .val (.long (xa.toInt64)), .second, .val (.long (xb.toInt64)), .second, .val (.long (xc.toInt64)), .second, .val (.ref b1), .val (.int (own_spent (xa.toInt64))), .val (.int (own_spent ((xa.toInt64) - (xb.toInt64)))), .val (.int (own_spent (((xa.toInt64) - (xb.toInt64)) - (xc.toInt64)))), .unset, .unset, .unset] [(.long (xa.toInt64))]))
  refine own_by (fun _ => XS.lconst X9.here hx rfl (hb hby at_57)) ?_
  show own_Go p e below _ (T9.setTop (mkF m 58 #[.val (.int xa), .val (.int xb), .val (.int xc), .val (.long (xa.toInt64)), .second, .val (.long (xb.toInt64)), .second, .val (.long (xc.toInt64)), .second, .val (.ref b1), .val (.int (own_spent (xa.toInt64))), .val (.int (own_spent ((xa.toInt64) - (xb.toInt64)))), .val (.int (own_spent (((xa.toInt64) - (xb.toInt64)) - (xc.toInt64)))), .unset, .unset, .unset] [(.long (0 : Int64)), (.long (xa.toInt64))]))
  refine own_by (fun _ => XS.lcmp X9.here hx rfl (hb hby at_58) rfl) ?_
  show own_Go p e below _ (T9.setTop (mkF m 59 #[.val (.int xa), .val (.int xb), .val (.int xc), .val (.long (xa.toInt64)), .second, .val (.long (xb.toInt64)), .second, .val (.long (xc.toInt64)), .second, .val (.ref b1), .val (.int (own_spent (xa.toInt64))), .val (.int (own_spent ((xa.toInt64) - (xb.toInt64)))), .val (.int (own_spent (((xa.toInt64) - (xb.toInt64)) - (xc.toInt64)))), .unset, .unset, .unset] [(.int (lcmpW (xa.toInt64) (0 : Int64)))]))
  suffices J11 : ∀ (T' : State) (v11_t0 : Int32), v11_t0 = (if (xa.toInt64) < (0 : Int64) then (1 : Int32) else (0 : Int32)) → own_At p l e room_1 s m #[(.int xa), (.int xb), (.int xc)] below meth c n0 T' T8.heap 1 1 → own_Go p e below (own_End s below (own_Q0 Z xa xb xc h0 n0) room_1.cells room_1.slots) (T'.setTop (mkF m 67 #[.val (.int xa), .val (.int xb), .val (.int xc), .val (.long (xa.toInt64)), .second, .val (.long (xb.toInt64)), .second, .val (.long (xc.toInt64)), .second, .val (.ref b1), .val (.int (own_spent (xa.toInt64))), .val (.int (own_spent ((xa.toInt64) - (xb.toInt64)))), .val (.int (own_spent (((xa.toInt64) - (xb.toInt64)) - (xc.toInt64)))), .unset, .unset, .unset] [(.int v11_t0)])) by
    by_cases hc59_12 : (xa.toInt64) < (0 : Int64)
    ·
      skip
      refine own_by (fun _ => XS.ifNo X9.here hx rfl (hb hby at_59) rfl ((if0 _ _).trans (tlt ((lw_lt _ _).mpr hc59_12)).2.1)) ?_
      show own_Go p e below _ (T9.setTop (mkF m 62 #[.val (.int xa), .val (.int xb), .val (.int xc), .val (.long (xa.toInt64)), .second, .val (.long (xb.toInt64)), .second, .val (.long (xc.toInt64)), .second, .val (.ref b1), .val (.int (own_spent (xa.toInt64))), .val (.int (own_spent ((xa.toInt64) - (xb.toInt64)))), .val (.int (own_spent (((xa.toInt64) - (xb.toInt64)) - (xc.toInt64)))), .unset, .unset, .unset] []))
      refine own_by (fun _ => XS.iconst X9.here hx rfl (hb hby at_62)) ?_
      show own_Go p e below _ (T9.setTop (mkF m 63 #[.val (.int xa), .val (.int xb), .val (.int xc), .val (.long (xa.toInt64)), .second, .val (.long (xb.toInt64)), .second, .val (.long (xc.toInt64)), .second, .val (.ref b1), .val (.int (own_spent (xa.toInt64))), .val (.int (own_spent ((xa.toInt64) - (xb.toInt64)))), .val (.int (own_spent (((xa.toInt64) - (xb.toInt64)) - (xc.toInt64)))), .unset, .unset, .unset] [(.int (1 : Int32))]))
      refine own_by (fun _ => XS.goto X9.here hx rfl (pc0 := 63) (pc' := 67) rfl (hb hby at_63) (by decide) (by decide)) ?_
      show own_Go p e below _ (T9.setTop (mkF m 67 #[.val (.int xa), .val (.int xb), .val (.int xc), .val (.long (xa.toInt64)), .second, .val (.long (xb.toInt64)), .second, .val (.long (xc.toInt64)), .second, .val (.ref b1), .val (.int (own_spent (xa.toInt64))), .val (.int (own_spent ((xa.toInt64) - (xb.toInt64)))), .val (.int (own_spent (((xa.toInt64) - (xb.toInt64)) - (xc.toInt64)))), .unset, .unset, .unset] [(.int (1 : Int32))]))
      exact J11 _ _ (by first | rfl | simp only [if_pos hc59_12]) ⟨_, X9, N9, e9⟩
    ·
      skip
      refine own_by (fun _ => XS.ifYes X9.here hx rfl (pc0 := 59) (pc' := 66) rfl (hb hby at_59) rfl ((if0 _ _).trans (flt (mt (lw_lt _ _).mp hc59_12)).2.1) (by decide) (by decide)) ?_
      show own_Go p e below _ (T9.setTop (mkF m 66 #[.val (.int xa), .val (.int xb), .val (.int xc), .val (.long (xa.toInt64)), .second, .val (.long (xb.toInt64)), .second, .val (.long (xc.toInt64)), .second, .val (.ref b1), .val (.int (own_spent (xa.toInt64))), .val (.int (own_spent ((xa.toInt64) - (xb.toInt64)))), .val (.int (own_spent (((xa.toInt64) - (xb.toInt64)) - (xc.toInt64)))), .unset, .unset, .unset] []))
      refine own_by (fun _ => XS.iconst X9.here hx rfl (hb hby at_66)) ?_
      show own_Go p e below _ (T9.setTop (mkF m 67 #[.val (.int xa), .val (.int xb), .val (.int xc), .val (.long (xa.toInt64)), .second, .val (.long (xb.toInt64)), .second, .val (.long (xc.toInt64)), .second, .val (.ref b1), .val (.int (own_spent (xa.toInt64))), .val (.int (own_spent ((xa.toInt64) - (xb.toInt64)))), .val (.int (own_spent (((xa.toInt64) - (xb.toInt64)) - (xc.toInt64)))), .unset, .unset, .unset] [(.int (0 : Int32))]))
      exact J11 _ _ (by first | rfl | simp only [if_neg hc59_12]) ⟨_, X9, N9, e9⟩
  intro T11 v11_t0 hv11_t0 ⟨locs11, X11, N11, e11⟩
  show own_Go p e below _ (T11.setTop (mkF m 67 #[.val (.int xa), .val (.int xb), .val (.int xc), .val (.long (xa.toInt64)), .second, .val (.long (xb.toInt64)), .second, .val (.long (xc.toInt64)), .second, .val (.ref b1), .val (.int (own_spent (xa.toInt64))), .val (.int (own_spent ((xa.toInt64) - (xb.toInt64)))), .val (.int (own_spent (((xa.toInt64) - (xb.toInt64)) - (xc.toInt64)))), .unset, .unset, .unset] [(.int v11_t0)]))
  refine own_by (fun _ => XS.istore X11.here hx rfl (hb hby at_67) rfl (l' := #[.val (.int xa), .val (.int xb), .val (.int xc), .val (.long (xa.toInt64)), .second, .val (.long (xb.toInt64)), .second, .val (.long (xc.toInt64)), .second, .val (.ref b1), .val (.int (own_spent (xa.toInt64))), .val (.int (own_spent ((xa.toInt64) - (xb.toInt64)))), .val (.int (own_spent (((xa.toInt64) - (xb.toInt64)) - (xc.toInt64)))), .val (.int v11_t0), .unset, .unset]) rfl) ?_
  show own_Go p e below _ (T11.setTop (mkF m 69 #[.val (.int xa), .val (.int xb), .val (.int xc), .val (.long (xa.toInt64)), .second, .val (.long (xb.toInt64)), .second, .val (.long (xc.toInt64)), .second, .val (.ref b1), .val (.int (own_spent (xa.toInt64))), .val (.int (own_spent ((xa.toInt64) - (xb.toInt64)))), .val (.int (own_spent (((xa.toInt64) - (xb.toInt64)) - (xc.toInt64)))), .val (.int v11_t0), .unset, .unset] []))
  refine own_by (fun _ => XS.lload X11.here hx rfl (hb hby at_69) rfl) ?_
  show own_Go p e below _ (T11.setTop (mkF m 71 #[.val (.int xa), .val (.int xb), .val (.int xc), .val (.long (xa.toInt64)), .second, .val (.long (xb.toInt64)), .second, .val (.long (xc.toInt64)), .second, .val (.ref b1), .val (.int (own_spent (xa.toInt64))), .val (.int (own_spent ((xa.toInt64) - (xb.toInt64)))), .val (.int (own_spent (((xa.toInt64) - (xb.toInt64)) - (xc.toInt64)))), .val (.int v11_t0), .unset, .unset] [(.long (xb.toInt64))]))
  refine own_by (fun _ => XS.lloadN X11.here hx rfl (hb hby at_71) rfl) ?_
  show own_Go p e below _ (T11.setTop (mkF m 72 #[.val (.int xa), .val (.int xb), .val (.int xc), .val (.long (xa.toInt64)), .second, .val (.long (xb.toInt64)), .second, .val (.long (xc.toInt64)), .second, .val (.ref b1), .val (.int (own_spent (xa.toInt64))), .val (.int (own_spent ((xa.toInt64) - (xb.toInt64)))), .val (.int (own_spent (((xa.toInt64) - (xb.toInt64)) - (xc.toInt64)))), .val (.int v11_t0), .unset, .unset] [(.long (xa.toInt64)), (.long (xb.toInt64))]))
  refine own_by (fun _ => XS.lcmp X11.here hx rfl (hb hby at_72) rfl) ?_
  show own_Go p e below _ (T11.setTop (mkF m 73 #[.val (.int xa), .val (.int xb), .val (.int xc), .val (.long (xa.toInt64)), .second, .val (.long (xb.toInt64)), .second, .val (.long (xc.toInt64)), .second, .val (.ref b1), .val (.int (own_spent (xa.toInt64))), .val (.int (own_spent ((xa.toInt64) - (xb.toInt64)))), .val (.int (own_spent (((xa.toInt64) - (xb.toInt64)) - (xc.toInt64)))), .val (.int v11_t0), .unset, .unset] [(.int (lcmpW (xb.toInt64) (xa.toInt64)))]))
  suffices J13 : ∀ (T' : State) (v13_t0 : Int32), v13_t0 = (if (xa.toInt64) < (xb.toInt64) then (1 : Int32) else (0 : Int32)) → own_At p l e room_1 s m #[(.int xa), (.int xb), (.int xc)] below meth c n0 T' T8.heap 1 1 → own_Go p e below (own_End s below (own_Q0 Z xa xb xc h0 n0) room_1.cells room_1.slots) (T'.setTop (mkF m 81 #[.val (.int xa), .val (.int xb), .val (.int xc), .val (.long (xa.toInt64)), .second, .val (.long (xb.toInt64)), .second, .val (.long (xc.toInt64)), .second, .val (.ref b1), .val (.int (own_spent (xa.toInt64))), .val (.int (own_spent ((xa.toInt64) - (xb.toInt64)))), .val (.int (own_spent (((xa.toInt64) - (xb.toInt64)) - (xc.toInt64)))), .val (.int v11_t0), .unset, .unset] [(.int v13_t0)])) by
    by_cases hc73_14 : (xa.toInt64) < (xb.toInt64)
    ·
      skip
      refine own_by (fun _ => XS.ifNo X11.here hx rfl (hb hby at_73) rfl ((if0 _ _).trans (tlt ((lw_gt _ _).mpr hc73_14)).2.2.2)) ?_
      show own_Go p e below _ (T11.setTop (mkF m 76 #[.val (.int xa), .val (.int xb), .val (.int xc), .val (.long (xa.toInt64)), .second, .val (.long (xb.toInt64)), .second, .val (.long (xc.toInt64)), .second, .val (.ref b1), .val (.int (own_spent (xa.toInt64))), .val (.int (own_spent ((xa.toInt64) - (xb.toInt64)))), .val (.int (own_spent (((xa.toInt64) - (xb.toInt64)) - (xc.toInt64)))), .val (.int v11_t0), .unset, .unset] []))
      refine own_by (fun _ => XS.iconst X11.here hx rfl (hb hby at_76)) ?_
      show own_Go p e below _ (T11.setTop (mkF m 77 #[.val (.int xa), .val (.int xb), .val (.int xc), .val (.long (xa.toInt64)), .second, .val (.long (xb.toInt64)), .second, .val (.long (xc.toInt64)), .second, .val (.ref b1), .val (.int (own_spent (xa.toInt64))), .val (.int (own_spent ((xa.toInt64) - (xb.toInt64)))), .val (.int (own_spent (((xa.toInt64) - (xb.toInt64)) - (xc.toInt64)))), .val (.int v11_t0), .unset, .unset] [(.int (1 : Int32))]))
      refine own_by (fun _ => XS.goto X11.here hx rfl (pc0 := 77) (pc' := 81) rfl (hb hby at_77) (by decide) (by decide)) ?_
      show own_Go p e below _ (T11.setTop (mkF m 81 #[.val (.int xa), .val (.int xb), .val (.int xc), .val (.long (xa.toInt64)), .second, .val (.long (xb.toInt64)), .second, .val (.long (xc.toInt64)), .second, .val (.ref b1), .val (.int (own_spent (xa.toInt64))), .val (.int (own_spent ((xa.toInt64) - (xb.toInt64)))), .val (.int (own_spent (((xa.toInt64) - (xb.toInt64)) - (xc.toInt64)))), .val (.int v11_t0), .unset, .unset] [(.int (1 : Int32))]))
      exact J13 _ _ (by first | rfl | simp only [if_pos hc73_14]) ⟨_, X11, N11, e11⟩
    ·
      skip
      refine own_by (fun _ => XS.ifYes X11.here hx rfl (pc0 := 73) (pc' := 80) rfl (hb hby at_73) rfl ((if0 _ _).trans (flt (mt (lw_gt _ _).mp hc73_14)).2.2.2) (by decide) (by decide)) ?_
      show own_Go p e below _ (T11.setTop (mkF m 80 #[.val (.int xa), .val (.int xb), .val (.int xc), .val (.long (xa.toInt64)), .second, .val (.long (xb.toInt64)), .second, .val (.long (xc.toInt64)), .second, .val (.ref b1), .val (.int (own_spent (xa.toInt64))), .val (.int (own_spent ((xa.toInt64) - (xb.toInt64)))), .val (.int (own_spent (((xa.toInt64) - (xb.toInt64)) - (xc.toInt64)))), .val (.int v11_t0), .unset, .unset] []))
      refine own_by (fun _ => XS.iconst X11.here hx rfl (hb hby at_80)) ?_
      show own_Go p e below _ (T11.setTop (mkF m 81 #[.val (.int xa), .val (.int xb), .val (.int xc), .val (.long (xa.toInt64)), .second, .val (.long (xb.toInt64)), .second, .val (.long (xc.toInt64)), .second, .val (.ref b1), .val (.int (own_spent (xa.toInt64))), .val (.int (own_spent ((xa.toInt64) - (xb.toInt64)))), .val (.int (own_spent (((xa.toInt64) - (xb.toInt64)) - (xc.toInt64)))), .val (.int v11_t0), .unset, .unset] [(.int (0 : Int32))]))
      exact J13 _ _ (by first | rfl | simp only [if_neg hc73_14]) ⟨_, X11, N11, e11⟩
  intro T13 v13_t0 hv13_t0 ⟨locs13, X13, N13, e13⟩
  show own_Go p e below _ (T13.setTop (mkF m 81 #[.val (.int xa), .val (.int xb), .val (.int xc), .val (.long (xa.toInt64)), .second, .val (.long (xb.toInt64)), .second, .val (.long (xc.toInt64)), .second, .val (.ref b1), .val (.int (own_spent (xa.toInt64))), .val (.int (own_spent ((xa.toInt64) - (xb.toInt64)))), .val (.int (own_spent (((xa.toInt64) - (xb.toInt64)) - (xc.toInt64)))), .val (.int v11_t0), .unset, .unset] [(.int v13_t0)]))
  refine own_by (fun _ => XS.istore X13.here hx rfl (hb hby at_81) rfl (l' := #[.val (.int xa), .val (.int xb), .val (.int xc), .val (.long (xa.toInt64)), .second, .val (.long (xb.toInt64)), .second, .val (.long (xc.toInt64)), .second, .val (.ref b1), .val (.int (own_spent (xa.toInt64))), .val (.int (own_spent ((xa.toInt64) - (xb.toInt64)))), .val (.int (own_spent (((xa.toInt64) - (xb.toInt64)) - (xc.toInt64)))), .val (.int v11_t0), .val (.int v13_t0), .unset]) rfl) ?_
  show own_Go p e below _ (T13.setTop (mkF m 83 #[.val (.int xa), .val (.int xb), .val (.int xc), .val (.long (xa.toInt64)), .second, .val (.long (xb.toInt64)), .second, .val (.long (xc.toInt64)), .second, .val (.ref b1), .val (.int (own_spent (xa.toInt64))), .val (.int (own_spent ((xa.toInt64) - (xb.toInt64)))), .val (.int (own_spent (((xa.toInt64) - (xb.toInt64)) - (xc.toInt64)))), .val (.int v11_t0), .val (.int v13_t0), .unset] []))
  refine own_by (fun _ => XS.lload X13.here hx rfl (hb hby at_83) rfl) ?_
  show own_Go p e below _ (T13.setTop (mkF m 85 #[.val (.int xa), .val (.int xb), .val (.int xc), .val (.long (xa.toInt64)), .second, .val (.long (xb.toInt64)), .second, .val (.long (xc.toInt64)), .second, .val (.ref b1), .val (.int (own_spent (xa.toInt64))), .val (.int (own_spent ((xa.toInt64) - (xb.toInt64)))), .val (.int (own_spent (((xa.toInt64) - (xb.toInt64)) - (xc.toInt64)))), .val (.int v11_t0), .val (.int v13_t0), .unset] [(.long (xb.toInt64))]))
  refine own_by (fun _ => XS.lload X13.here hx rfl (hb hby at_85) rfl) ?_
  show own_Go p e below _ (T13.setTop (mkF m 87 #[.val (.int xa), .val (.int xb), .val (.int xc), .val (.long (xa.toInt64)), .second, .val (.long (xb.toInt64)), .second, .val (.long (xc.toInt64)), .second, .val (.ref b1), .val (.int (own_spent (xa.toInt64))), .val (.int (own_spent ((xa.toInt64) - (xb.toInt64)))), .val (.int (own_spent (((xa.toInt64) - (xb.toInt64)) - (xc.toInt64)))), .val (.int v11_t0), .val (.int v13_t0), .unset] [(.long (xc.toInt64)), (.long (xb.toInt64))]))
  refine own_by (fun _ => XS.ladd X13.here hx rfl (hb hby at_87) rfl) ?_
  show own_Go p e below _ (T13.setTop (mkF m 88 #[.val (.int xa), .val (.int xb), .val (.int xc), .val (.long (xa.toInt64)), .second, .val (.long (xb.toInt64)), .second, .val (.long (xc.toInt64)), .second, .val (.ref b1), .val (.int (own_spent (xa.toInt64))), .val (.int (own_spent ((xa.toInt64) - (xb.toInt64)))), .val (.int (own_spent (((xa.toInt64) - (xb.toInt64)) - (xc.toInt64)))), .val (.int v11_t0), .val (.int v13_t0), .unset] [(.long ((xb.toInt64) + (xc.toInt64)))]))
  refine own_by (fun _ => XS.lloadN X13.here hx rfl (hb hby at_88) rfl) ?_
  show own_Go p e below _ (T13.setTop (mkF m 89 #[.val (.int xa), .val (.int xb), .val (.int xc), .val (.long (xa.toInt64)), .second, .val (.long (xb.toInt64)), .second, .val (.long (xc.toInt64)), .second, .val (.ref b1), .val (.int (own_spent (xa.toInt64))), .val (.int (own_spent ((xa.toInt64) - (xb.toInt64)))), .val (.int (own_spent (((xa.toInt64) - (xb.toInt64)) - (xc.toInt64)))), .val (.int v11_t0), .val (.int v13_t0), .unset] [(.long (xa.toInt64)), (.long ((xb.toInt64) + (xc.toInt64)))]))
  refine own_by (fun _ => XS.lcmp X13.here hx rfl (hb hby at_89) rfl) ?_
  show own_Go p e below _ (T13.setTop (mkF m 90 #[.val (.int xa), .val (.int xb), .val (.int xc), .val (.long (xa.toInt64)), .second, .val (.long (xb.toInt64)), .second, .val (.long (xc.toInt64)), .second, .val (.ref b1), .val (.int (own_spent (xa.toInt64))), .val (.int (own_spent ((xa.toInt64) - (xb.toInt64)))), .val (.int (own_spent (((xa.toInt64) - (xb.toInt64)) - (xc.toInt64)))), .val (.int v11_t0), .val (.int v13_t0), .unset] [(.int (lcmpW ((xb.toInt64) + (xc.toInt64)) (xa.toInt64)))]))
  suffices J15 : ∀ (T' : State) (v15_t0 : Int32), v15_t0 = (if (xa.toInt64) < ((xb.toInt64) + (xc.toInt64)) then (1 : Int32) else (0 : Int32)) → own_At p l e room_1 s m #[(.int xa), (.int xb), (.int xc)] below meth c n0 T' T8.heap 1 1 → own_Go p e below (own_End s below (own_Q0 Z xa xb xc h0 n0) room_1.cells room_1.slots) (T'.setTop (mkF m 98 #[.val (.int xa), .val (.int xb), .val (.int xc), .val (.long (xa.toInt64)), .second, .val (.long (xb.toInt64)), .second, .val (.long (xc.toInt64)), .second, .val (.ref b1), .val (.int (own_spent (xa.toInt64))), .val (.int (own_spent ((xa.toInt64) - (xb.toInt64)))), .val (.int (own_spent (((xa.toInt64) - (xb.toInt64)) - (xc.toInt64)))), .val (.int v11_t0), .val (.int v13_t0), .unset] [(.int v15_t0)])) by
    by_cases hc90_16 : (xa.toInt64) < ((xb.toInt64) + (xc.toInt64))
    ·
      skip
      refine own_by (fun _ => XS.ifNo X13.here hx rfl (hb hby at_90) rfl ((if0 _ _).trans (tlt ((lw_gt _ _).mpr hc90_16)).2.2.2)) ?_
      show own_Go p e below _ (T13.setTop (mkF m 93 #[.val (.int xa), .val (.int xb), .val (.int xc), .val (.long (xa.toInt64)), .second, .val (.long (xb.toInt64)), .second, .val (.long (xc.toInt64)), .second, .val (.ref b1), .val (.int (own_spent (xa.toInt64))), .val (.int (own_spent ((xa.toInt64) - (xb.toInt64)))), .val (.int (own_spent (((xa.toInt64) - (xb.toInt64)) - (xc.toInt64)))), .val (.int v11_t0), .val (.int v13_t0), .unset] []))
      refine own_by (fun _ => XS.iconst X13.here hx rfl (hb hby at_93)) ?_
      show own_Go p e below _ (T13.setTop (mkF m 94 #[.val (.int xa), .val (.int xb), .val (.int xc), .val (.long (xa.toInt64)), .second, .val (.long (xb.toInt64)), .second, .val (.long (xc.toInt64)), .second, .val (.ref b1), .val (.int (own_spent (xa.toInt64))), .val (.int (own_spent ((xa.toInt64) - (xb.toInt64)))), .val (.int (own_spent (((xa.toInt64) - (xb.toInt64)) - (xc.toInt64)))), .val (.int v11_t0), .val (.int v13_t0), .unset] [(.int (1 : Int32))]))
      refine own_by (fun _ => XS.goto X13.here hx rfl (pc0 := 94) (pc' := 98) rfl (hb hby at_94) (by decide) (by decide)) ?_
      show own_Go p e below _ (T13.setTop (mkF m 98 #[.val (.int xa), .val (.int xb), .val (.int xc), .val (.long (xa.toInt64)), .second, .val (.long (xb.toInt64)), .second, .val (.long (xc.toInt64)), .second, .val (.ref b1), .val (.int (own_spent (xa.toInt64))), .val (.int (own_spent ((xa.toInt64) - (xb.toInt64)))), .val (.int (own_spent (((xa.toInt64) - (xb.toInt64)) - (xc.toInt64)))), .val (.int v11_t0), .val (.int v13_t0), .unset] [(.int (1 : Int32))]))
      exact J15 _ _ (by first | rfl | simp only [if_pos hc90_16]) ⟨_, X13, N13, e13⟩
    ·
      skip
      refine own_by (fun _ => XS.ifYes X13.here hx rfl (pc0 := 90) (pc' := 97) rfl (hb hby at_90) rfl ((if0 _ _).trans (flt (mt (lw_gt _ _).mp hc90_16)).2.2.2) (by decide) (by decide)) ?_
      show own_Go p e below _ (T13.setTop (mkF m 97 #[.val (.int xa), .val (.int xb), .val (.int xc), .val (.long (xa.toInt64)), .second, .val (.long (xb.toInt64)), .second, .val (.long (xc.toInt64)), .second, .val (.ref b1), .val (.int (own_spent (xa.toInt64))), .val (.int (own_spent ((xa.toInt64) - (xb.toInt64)))), .val (.int (own_spent (((xa.toInt64) - (xb.toInt64)) - (xc.toInt64)))), .val (.int v11_t0), .val (.int v13_t0), .unset] []))
      refine own_by (fun _ => XS.iconst X13.here hx rfl (hb hby at_97)) ?_
      show own_Go p e below _ (T13.setTop (mkF m 98 #[.val (.int xa), .val (.int xb), .val (.int xc), .val (.long (xa.toInt64)), .second, .val (.long (xb.toInt64)), .second, .val (.long (xc.toInt64)), .second, .val (.ref b1), .val (.int (own_spent (xa.toInt64))), .val (.int (own_spent ((xa.toInt64) - (xb.toInt64)))), .val (.int (own_spent (((xa.toInt64) - (xb.toInt64)) - (xc.toInt64)))), .val (.int v11_t0), .val (.int v13_t0), .unset] [(.int (0 : Int32))]))
      exact J15 _ _ (by first | rfl | simp only [if_neg hc90_16]) ⟨_, X13, N13, e13⟩
  intro T15 v15_t0 hv15_t0 ⟨locs15, X15, N15, e15⟩
  show own_Go p e below _ (T15.setTop (mkF m 98 #[.val (.int xa), .val (.int xb), .val (.int xc), .val (.long (xa.toInt64)), .second, .val (.long (xb.toInt64)), .second, .val (.long (xc.toInt64)), .second, .val (.ref b1), .val (.int (own_spent (xa.toInt64))), .val (.int (own_spent ((xa.toInt64) - (xb.toInt64)))), .val (.int (own_spent (((xa.toInt64) - (xb.toInt64)) - (xc.toInt64)))), .val (.int v11_t0), .val (.int v13_t0), .unset] [(.int v15_t0)]))
  refine own_by (fun _ => XS.istore X15.here hx rfl (hb hby at_98) rfl (l' := #[.val (.int xa), .val (.int xb), .val (.int xc), .val (.long (xa.toInt64)), .second, .val (.long (xb.toInt64)), .second, .val (.long (xc.toInt64)), .second, .val (.ref b1), .val (.int (own_spent (xa.toInt64))), .val (.int (own_spent ((xa.toInt64) - (xb.toInt64)))), .val (.int (own_spent (((xa.toInt64) - (xb.toInt64)) - (xc.toInt64)))), .val (.int v11_t0), .val (.int v13_t0), .val (.int v15_t0)]) rfl) ?_
  show own_Go p e below _ (T15.setTop (mkF m 100 #[.val (.int xa), .val (.int xb), .val (.int xc), .val (.long (xa.toInt64)), .second, .val (.long (xb.toInt64)), .second, .val (.long (xc.toInt64)), .second, .val (.ref b1), .val (.int (own_spent (xa.toInt64))), .val (.int (own_spent ((xa.toInt64) - (xb.toInt64)))), .val (.int (own_spent (((xa.toInt64) - (xb.toInt64)) - (xc.toInt64)))), .val (.int v11_t0), .val (.int v13_t0), .val (.int v15_t0)] []))
  refine own_by (fun _ => XS.iload X15.here hx rfl (hb hby at_100) rfl) ?_
  show own_Go p e below _ (T15.setTop (mkF m 102 #[.val (.int xa), .val (.int xb), .val (.int xc), .val (.long (xa.toInt64)), .second, .val (.long (xb.toInt64)), .second, .val (.long (xc.toInt64)), .second, .val (.ref b1), .val (.int (own_spent (xa.toInt64))), .val (.int (own_spent ((xa.toInt64) - (xb.toInt64)))), .val (.int (own_spent (((xa.toInt64) - (xb.toInt64)) - (xc.toInt64)))), .val (.int v11_t0), .val (.int v13_t0), .val (.int v15_t0)] [(.int (own_spent (xa.toInt64)))]))
  refine own_by (fun _ => XS.iload X15.here hx rfl (hb hby at_102) rfl) ?_
  show own_Go p e below _ (T15.setTop (mkF m 104 #[.val (.int xa), .val (.int xb), .val (.int xc), .val (.long (xa.toInt64)), .second, .val (.long (xb.toInt64)), .second, .val (.long (xc.toInt64)), .second, .val (.ref b1), .val (.int (own_spent (xa.toInt64))), .val (.int (own_spent ((xa.toInt64) - (xb.toInt64)))), .val (.int (own_spent (((xa.toInt64) - (xb.toInt64)) - (xc.toInt64)))), .val (.int v11_t0), .val (.int v13_t0), .val (.int v15_t0)] [(.int v11_t0), (.int (own_spent (xa.toInt64)))]))
  suffices J17 : ∀ (T' : State) (v17_t0 : Int32), v17_t0 = (if (own_spent (xa.toInt64)) = v11_t0 then (if (own_spent ((xa.toInt64) - (xb.toInt64))) = v13_t0 then (if (own_spent (((xa.toInt64) - (xb.toInt64)) - (xc.toInt64))) = v15_t0 then (1 : Int32) else (0 : Int32)) else (0 : Int32)) else (0 : Int32)) → own_At p l e room_1 s m #[(.int xa), (.int xb), (.int xc)] below meth c n0 T' T8.heap 1 1 → own_Go p e below (own_End s below (own_Q0 Z xa xb xc h0 n0) room_1.cells room_1.slots) (T'.setTop (mkF m 126 #[.val (.int xa), .val (.int xb), .val (.int xc), .val (.long (xa.toInt64)), .second, .val (.long (xb.toInt64)), .second, .val (.long (xc.toInt64)), .second, .val (.ref b1), .val (.int (own_spent (xa.toInt64))), .val (.int (own_spent ((xa.toInt64) - (xb.toInt64)))), .val (.int (own_spent (((xa.toInt64) - (xb.toInt64)) - (xc.toInt64)))), .val (.int v11_t0), .val (.int v13_t0), .val (.int v15_t0)] [(.int v17_t0)])) by
    by_cases hc104_18 : (own_spent (xa.toInt64)) = v11_t0
    ·
      skip
      refine own_by (fun _ => XS.icmpNo X15.here hx rfl (hb hby at_104) rfl (teq hc104_18).2) ?_
      show own_Go p e below _ (T15.setTop (mkF m 107 #[.val (.int xa), .val (.int xb), .val (.int xc), .val (.long (xa.toInt64)), .second, .val (.long (xb.toInt64)), .second, .val (.long (xc.toInt64)), .second, .val (.ref b1), .val (.int (own_spent (xa.toInt64))), .val (.int (own_spent ((xa.toInt64) - (xb.toInt64)))), .val (.int (own_spent (((xa.toInt64) - (xb.toInt64)) - (xc.toInt64)))), .val (.int v11_t0), .val (.int v13_t0), .val (.int v15_t0)] []))
      refine own_by (fun _ => XS.iload X15.here hx rfl (hb hby at_107) rfl) ?_
      show own_Go p e below _ (T15.setTop (mkF m 109 #[.val (.int xa), .val (.int xb), .val (.int xc), .val (.long (xa.toInt64)), .second, .val (.long (xb.toInt64)), .second, .val (.long (xc.toInt64)), .second, .val (.ref b1), .val (.int (own_spent (xa.toInt64))), .val (.int (own_spent ((xa.toInt64) - (xb.toInt64)))), .val (.int (own_spent (((xa.toInt64) - (xb.toInt64)) - (xc.toInt64)))), .val (.int v11_t0), .val (.int v13_t0), .val (.int v15_t0)] [(.int (own_spent ((xa.toInt64) - (xb.toInt64))))]))
      refine own_by (fun _ => XS.iload X15.here hx rfl (hb hby at_109) rfl) ?_
      show own_Go p e below _ (T15.setTop (mkF m 111 #[.val (.int xa), .val (.int xb), .val (.int xc), .val (.long (xa.toInt64)), .second, .val (.long (xb.toInt64)), .second, .val (.long (xc.toInt64)), .second, .val (.ref b1), .val (.int (own_spent (xa.toInt64))), .val (.int (own_spent ((xa.toInt64) - (xb.toInt64)))), .val (.int (own_spent (((xa.toInt64) - (xb.toInt64)) - (xc.toInt64)))), .val (.int v11_t0), .val (.int v13_t0), .val (.int v15_t0)] [(.int v13_t0), (.int (own_spent ((xa.toInt64) - (xb.toInt64))))]))
      by_cases hc111_19 : (own_spent ((xa.toInt64) - (xb.toInt64))) = v13_t0
      ·
        skip
        refine own_by (fun _ => XS.icmpNo X15.here hx rfl (hb hby at_111) rfl (teq hc111_19).2) ?_
        show own_Go p e below _ (T15.setTop (mkF m 114 #[.val (.int xa), .val (.int xb), .val (.int xc), .val (.long (xa.toInt64)), .second, .val (.long (xb.toInt64)), .second, .val (.long (xc.toInt64)), .second, .val (.ref b1), .val (.int (own_spent (xa.toInt64))), .val (.int (own_spent ((xa.toInt64) - (xb.toInt64)))), .val (.int (own_spent (((xa.toInt64) - (xb.toInt64)) - (xc.toInt64)))), .val (.int v11_t0), .val (.int v13_t0), .val (.int v15_t0)] []))
        refine own_by (fun _ => XS.iload X15.here hx rfl (hb hby at_114) rfl) ?_
        show own_Go p e below _ (T15.setTop (mkF m 116 #[.val (.int xa), .val (.int xb), .val (.int xc), .val (.long (xa.toInt64)), .second, .val (.long (xb.toInt64)), .second, .val (.long (xc.toInt64)), .second, .val (.ref b1), .val (.int (own_spent (xa.toInt64))), .val (.int (own_spent ((xa.toInt64) - (xb.toInt64)))), .val (.int (own_spent (((xa.toInt64) - (xb.toInt64)) - (xc.toInt64)))), .val (.int v11_t0), .val (.int v13_t0), .val (.int v15_t0)] [(.int (own_spent (((xa.toInt64) - (xb.toInt64)) - (xc.toInt64))))]))
        refine own_by (fun _ => XS.iload X15.here hx rfl (hb hby at_116) rfl) ?_
        show own_Go p e below _ (T15.setTop (mkF m 118 #[.val (.int xa), .val (.int xb), .val (.int xc), .val (.long (xa.toInt64)), .second, .val (.long (xb.toInt64)), .second, .val (.long (xc.toInt64)), .second, .val (.ref b1), .val (.int (own_spent (xa.toInt64))), .val (.int (own_spent ((xa.toInt64) - (xb.toInt64)))), .val (.int (own_spent (((xa.toInt64) - (xb.toInt64)) - (xc.toInt64)))), .val (.int v11_t0), .val (.int v13_t0), .val (.int v15_t0)] [(.int v15_t0), (.int (own_spent (((xa.toInt64) - (xb.toInt64)) - (xc.toInt64))))]))
        by_cases hc118_20 : (own_spent (((xa.toInt64) - (xb.toInt64)) - (xc.toInt64))) = v15_t0
        ·
          skip
          refine own_by (fun _ => XS.icmpNo X15.here hx rfl (hb hby at_118) rfl (teq hc118_20).2) ?_
          show own_Go p e below _ (T15.setTop (mkF m 121 #[.val (.int xa), .val (.int xb), .val (.int xc), .val (.long (xa.toInt64)), .second, .val (.long (xb.toInt64)), .second, .val (.long (xc.toInt64)), .second, .val (.ref b1), .val (.int (own_spent (xa.toInt64))), .val (.int (own_spent ((xa.toInt64) - (xb.toInt64)))), .val (.int (own_spent (((xa.toInt64) - (xb.toInt64)) - (xc.toInt64)))), .val (.int v11_t0), .val (.int v13_t0), .val (.int v15_t0)] []))
          refine own_by (fun _ => XS.iconst X15.here hx rfl (hb hby at_121)) ?_
          show own_Go p e below _ (T15.setTop (mkF m 122 #[.val (.int xa), .val (.int xb), .val (.int xc), .val (.long (xa.toInt64)), .second, .val (.long (xb.toInt64)), .second, .val (.long (xc.toInt64)), .second, .val (.ref b1), .val (.int (own_spent (xa.toInt64))), .val (.int (own_spent ((xa.toInt64) - (xb.toInt64)))), .val (.int (own_spent (((xa.toInt64) - (xb.toInt64)) - (xc.toInt64)))), .val (.int v11_t0), .val (.int v13_t0), .val (.int v15_t0)] [(.int (1 : Int32))]))
          refine own_by (fun _ => XS.goto X15.here hx rfl (pc0 := 122) (pc' := 126) rfl (hb hby at_122) (by decide) (by decide)) ?_
          show own_Go p e below _ (T15.setTop (mkF m 126 #[.val (.int xa), .val (.int xb), .val (.int xc), .val (.long (xa.toInt64)), .second, .val (.long (xb.toInt64)), .second, .val (.long (xc.toInt64)), .second, .val (.ref b1), .val (.int (own_spent (xa.toInt64))), .val (.int (own_spent ((xa.toInt64) - (xb.toInt64)))), .val (.int (own_spent (((xa.toInt64) - (xb.toInt64)) - (xc.toInt64)))), .val (.int v11_t0), .val (.int v13_t0), .val (.int v15_t0)] [(.int (1 : Int32))]))
          exact J17 _ _ (by first | rfl | simp only [if_pos hc104_18, if_pos hc111_19, if_pos hc118_20]) ⟨_, X15, N15, e15⟩
        ·
          skip
          refine own_by (fun _ => XS.icmpYes X15.here hx rfl (pc0 := 118) (pc' := 125) rfl (hb hby at_118) rfl (feq hc118_20).2 (by decide) (by decide)) ?_
          show own_Go p e below _ (T15.setTop (mkF m 125 #[.val (.int xa), .val (.int xb), .val (.int xc), .val (.long (xa.toInt64)), .second, .val (.long (xb.toInt64)), .second, .val (.long (xc.toInt64)), .second, .val (.ref b1), .val (.int (own_spent (xa.toInt64))), .val (.int (own_spent ((xa.toInt64) - (xb.toInt64)))), .val (.int (own_spent (((xa.toInt64) - (xb.toInt64)) - (xc.toInt64)))), .val (.int v11_t0), .val (.int v13_t0), .val (.int v15_t0)] []))
          refine own_by (fun _ => XS.iconst X15.here hx rfl (hb hby at_125)) ?_
          show own_Go p e below _ (T15.setTop (mkF m 126 #[.val (.int xa), .val (.int xb), .val (.int xc), .val (.long (xa.toInt64)), .second, .val (.long (xb.toInt64)), .second, .val (.long (xc.toInt64)), .second, .val (.ref b1), .val (.int (own_spent (xa.toInt64))), .val (.int (own_spent ((xa.toInt64) - (xb.toInt64)))), .val (.int (own_spent (((xa.toInt64) - (xb.toInt64)) - (xc.toInt64)))), .val (.int v11_t0), .val (.int v13_t0), .val (.int v15_t0)] [(.int (0 : Int32))]))
          exact J17 _ _ (by first | rfl | simp only [if_pos hc104_18, if_pos hc111_19, if_neg hc118_20]) ⟨_, X15, N15, e15⟩
      ·
        skip
        refine own_by (fun _ => XS.icmpYes X15.here hx rfl (pc0 := 111) (pc' := 125) rfl (hb hby at_111) rfl (feq hc111_19).2 (by decide) (by decide)) ?_
        show own_Go p e below _ (T15.setTop (mkF m 125 #[.val (.int xa), .val (.int xb), .val (.int xc), .val (.long (xa.toInt64)), .second, .val (.long (xb.toInt64)), .second, .val (.long (xc.toInt64)), .second, .val (.ref b1), .val (.int (own_spent (xa.toInt64))), .val (.int (own_spent ((xa.toInt64) - (xb.toInt64)))), .val (.int (own_spent (((xa.toInt64) - (xb.toInt64)) - (xc.toInt64)))), .val (.int v11_t0), .val (.int v13_t0), .val (.int v15_t0)] []))
        refine own_by (fun _ => XS.iconst X15.here hx rfl (hb hby at_125)) ?_
        show own_Go p e below _ (T15.setTop (mkF m 126 #[.val (.int xa), .val (.int xb), .val (.int xc), .val (.long (xa.toInt64)), .second, .val (.long (xb.toInt64)), .second, .val (.long (xc.toInt64)), .second, .val (.ref b1), .val (.int (own_spent (xa.toInt64))), .val (.int (own_spent ((xa.toInt64) - (xb.toInt64)))), .val (.int (own_spent (((xa.toInt64) - (xb.toInt64)) - (xc.toInt64)))), .val (.int v11_t0), .val (.int v13_t0), .val (.int v15_t0)] [(.int (0 : Int32))]))
        exact J17 _ _ (by first | rfl | simp only [if_pos hc104_18, if_neg hc111_19]) ⟨_, X15, N15, e15⟩
    ·
      skip
      refine own_by (fun _ => XS.icmpYes X15.here hx rfl (pc0 := 104) (pc' := 125) rfl (hb hby at_104) rfl (feq hc104_18).2 (by decide) (by decide)) ?_
      show own_Go p e below _ (T15.setTop (mkF m 125 #[.val (.int xa), .val (.int xb), .val (.int xc), .val (.long (xa.toInt64)), .second, .val (.long (xb.toInt64)), .second, .val (.long (xc.toInt64)), .second, .val (.ref b1), .val (.int (own_spent (xa.toInt64))), .val (.int (own_spent ((xa.toInt64) - (xb.toInt64)))), .val (.int (own_spent (((xa.toInt64) - (xb.toInt64)) - (xc.toInt64)))), .val (.int v11_t0), .val (.int v13_t0), .val (.int v15_t0)] []))
      refine own_by (fun _ => XS.iconst X15.here hx rfl (hb hby at_125)) ?_
      show own_Go p e below _ (T15.setTop (mkF m 126 #[.val (.int xa), .val (.int xb), .val (.int xc), .val (.long (xa.toInt64)), .second, .val (.long (xb.toInt64)), .second, .val (.long (xc.toInt64)), .second, .val (.ref b1), .val (.int (own_spent (xa.toInt64))), .val (.int (own_spent ((xa.toInt64) - (xb.toInt64)))), .val (.int (own_spent (((xa.toInt64) - (xb.toInt64)) - (xc.toInt64)))), .val (.int v11_t0), .val (.int v13_t0), .val (.int v15_t0)] [(.int (0 : Int32))]))
      exact J17 _ _ (by first | rfl | simp only [if_neg hc104_18]) ⟨_, X15, N15, e15⟩
  intro T17 v17_t0 hv17_t0 ⟨locs17, X17, N17, e17⟩
  show own_Go p e below _ (T17.setTop (mkF m 126 #[.val (.int xa), .val (.int xb), .val (.int xc), .val (.long (xa.toInt64)), .second, .val (.long (xb.toInt64)), .second, .val (.long (xc.toInt64)), .second, .val (.ref b1), .val (.int (own_spent (xa.toInt64))), .val (.int (own_spent ((xa.toInt64) - (xb.toInt64)))), .val (.int (own_spent (((xa.toInt64) - (xb.toInt64)) - (xc.toInt64)))), .val (.int v11_t0), .val (.int v13_t0), .val (.int v15_t0)] [(.int v17_t0)]))
  exact own_retZ X17 hx hlk e17 (by rw [hv17_t0]; (repeat' split) <;> first | exact Or.inl rfl | exact Or.inr rfl) hret (hb hby at_126) (by decide) (by decide) ⟨(congrArg some (congrArg Value.int (by subst hv17_t0; subst hv15_t0; subst hv13_t0; subst hv11_t0; exact own_plain xa xb xc : v17_t0 = (1 : Int32)))), N17⟩

theorem own_comes {Post : Tables → Env → Array Value → State → Outcome → State → Prop} (hpost : ∀ tb e args s v u, (limb_1_1.after args s (.returned v) u = true ∧ limb_1_2.after args s (.returned v) u = true ∧ True) → FrameEnd s (.returned v) u (Jvm.fieldLocs frame_1_writes args s ++ Jvm.arrayLocs frame_1_arrays args s ++ Jvm.staticLocs frame_1_statics s) 16 128 → Post tb e args s (.returned v) u) :
    ArmFor flags0 classFile x code maxLocals ret World_1 tables_1 room_1 Calls_1 rest_1 Pre_1 Post := by
  intro l hfl _ _ p e ha hc hk s m args below hf hA hF happ hP
  obtain ⟨hcalls, hrest, hpre⟩ := hP
  obtain ⟨-, -, -, hnamed, -, -, -, hat⟩ := (Spec.applies_iff hf).mp happ
  obtain ⟨hg, hn⟩ := and_e (Cond.before_iff.mp (show (Jvm.Cond.and given_1 narrow_1).before args s = true from hpre))
  obtain ⟨hg1, hg2⟩ := and_e hg
  obtain ⟨hg3, hg4⟩ := and_e hg2
  obtain ⟨hg5, hg6⟩ := and_e hg4
  obtain ⟨w0, w1, w2, rfl⟩ : ∃ w0 w1 w2 : Value, args = #[w0, w1, w2] := by
    have hs : args.size = 3 := by simpa [Cond.value, given_1] using hg1
    obtain ⟨L⟩ := args
    match L, hs with
    | [w0, w1, w2], _ => exact ⟨w0, w1, w2, rfl⟩
  have hw := fun d (hd : d ∈ tables_1) => atoms_spec (ws := Jvm.Cond.code x code maxLocals ret :: tables_1) hat d (List.mem_cons_of_mem _ hd)
  have hfit : Fit s := fun {y c} hc i hi => by
    obtain ⟨ha, rfl⟩ := Array.getElem?_eq_some_iff.mp hc
    have q := List.all_eq_true.mp ((Array.all_eq_true_iff_forall_mem.mp hF) _ (Array.getElem_mem ha)) i (List.mem_range.mpr hi)
    simpa [Array.getElem?_eq_getElem hi] using q
  obtain ⟨i0, ei0⟩ := is_v hg3
  obtain rfl : w0 = (.int i0) := Option.some.inj ei0
  obtain ⟨i1, ei1⟩ := is_v hg5
  obtain rfl : w1 = (.int i1) := Option.some.inj ei1
  obtain ⟨i2, ei2⟩ := is_v hg6
  obtain rfl : w2 = (.int i2) := Option.some.inj ei2
  obtain ⟨n, o, h1, h2, h3, _, L, rfl, ⟨rfl, N⟩, hq⟩ := own_rm0 l s _ hw tables_1 i0 i1 i2 s.heap s.heap.size (Nat.le_refl _) p e ha hc hk s m _ below hf ((Spec.applies_iff_loose hf).mp happ).1 ⟨rfl, State.Warmed39.refl s, rfl⟩ trivial
  refine ⟨n, _, h1, h2, h3, hpost _ _ _ _ _ _ ⟨Cond.after_iff.mpr rfl, Cond.after_iff.mpr (eq_i res_at (Term.int_eval (1)) rfl), trivial⟩ ⟨hq.1, hq.2.1, (hq.2.2.sift fun y hy => Or.inr (N y hy)).mono (by decide) (by decide)⟩⟩
theorem main_1_1 : Claimed_1_1 := own_comes fun _ _ _ _ _ _ h hF => ⟨h.1, hF⟩
theorem main_1_2 : Claimed_1_2 := own_comes fun _ _ _ _ _ _ h hF => ⟨h.2.1, hF⟩
end Jvm.Pilot.@@N@@
namespace Jvm.Pilot.@@N@@
open Jvm Jvm.ClassFile Sem Op Lib Jvm.Free Jvm.Stand Jvm.Pilot.@@N@@.Jvm.D
/-! MADE BY PROGRAM (witnessworld.py) out of the Statement's table words and the real class files: 9 classes; the members and pool entries that the words name. The judged class is class 1, her method 1. -/
namespace start1
open Jvm.ClassFile
def u (s : String) : CpInfo := .utf8 (stringToUtf16 s)
/-- a pool by its gaps: so many unusable entries, then the entry; so many at the end -/
def gap : Nat → List CpInfo → List CpInfo
  | 0, r => r
  | n + 1, r => .unusable :: gap n r
def poolList (es : List (Nat × CpInfo)) (last : Nat) : List CpInfo := es.foldr (fun e r => gap e.1 (e.2 :: r)) (gap last [])
def pool (es : List (Nat × CpInfo)) (last : Nat) : Array CpInfo := ⟨poolList es last⟩
def fileOf (pool : Array CpInfo) (this : Nat) (attrs : Array Attribute := #[]) (ms : Array MethodInfo := #[]) (fl : Nat := 33) (sup : Nat := 0) (ifs : Array Nat := #[]) (fds : Array FieldInfo := #[]) : ClassFile where
  minorVersion := 0
  majorVersion := 65
  constantPool := pool
  accessFlags := fl
  thisClass := this
  superClass := sup
  interfaces := ifs
  fields := fds
  methods := ms
  attributes := attrs
def plain (name : String) (sup : Option ClassId) : Class where
  name := name
  kind := .ordinary
  loader := none
  accessFlags := 33
  super := sup
  interfaces := #[]
  cf := none
  fields := #[]
  methods := #[]
  instanceTypes := #[]
  staticTypes := #[]
  resolved := #[]
  callSites := []
  init := .initialized
  statics := none
  mirror := none

def pool0 : Array CpInfo := pool [(5, u "<init>"), (0, u "()V"), (1, .class_ 10), (1, u "java/lang/Object")] 113

def k0c0 : Code := { maxStack := 0, maxLocals := 1, code := object_method_1_code, exceptionTable := #[], attributes := #[] }
def k0m0 : Method := { name := "<init>", desc := "()V", sig := { parameters := [], returnType := none }, accessFlags := 1, code := some k0c0 }
/-- java/lang/Object -/
def k0 : Class := { plain "java/lang/Object" none with
  accessFlags := 33
  interfaces := #[]
  cf := some (fileOf pool0 8 #[] #[{ accessFlags := 1, nameIndex := 5, descriptorIndex := 6, attributes := #[] }] 33 0 #[] #[])
  fields := #[]
  methods := #[k0m0]
  instanceTypes := #[]
  staticTypes := #[]
  resolved := Array.replicate 124 none
  statics := none }

def pool1 : Array CpInfo := pool [(2, .class_ 4), (1, u "java/lang/Object"), (0, u "<init>"), (0, u "()V"), (0, .class_ 8), (0, u "com/example/composiq/composiq/Budget"), (0, .methodref 7 10), (0, .nameAndType 5 11), (0, u "(J)V"), (0, .methodref 7 13), (0, .nameAndType 14 15), (0, u "spent"), (0, u "()Z"), (0, .methodref 7 17), (0, .nameAndType 18 11), (0, u "spend"), (0, .class_ 20), (0, u "com/example/composiq/composiq/BudgetSpentPinLaw"), (2, u "law"), (0, u "(III)Z")] 3

def k1m0 : Method := { name := "<init>", desc := "()V", sig := { parameters := [], returnType := none }, accessFlags := 1, code := none }
def k1c1 : Code := { maxStack := 4, maxLocals := 16, code := code, exceptionTable := #[], attributes := #[] }
def k1m1 : Method := { name := "law", desc := "(III)Z", sig := { parameters := [.int, .int, .int], returnType := some .boolean }, accessFlags := 9, code := some k1c1 }
/-- com/example/composiq/composiq/BudgetSpentPinLaw -/
def k1 : Class := { plain "com/example/composiq/composiq/BudgetSpentPinLaw" (some 0) with
  accessFlags := 49
  interfaces := #[]
  cf := some (fileOf pool1 19 #[] #[{ accessFlags := 1, nameIndex := 5, descriptorIndex := 6, attributes := #[] }, { accessFlags := 9, nameIndex := 23, descriptorIndex := 24, attributes := #[] }] 49 2 #[] #[])
  fields := #[]
  methods := #[k1m0, k1m1]
  instanceTypes := #[]
  staticTypes := #[]
  resolved := Array.replicate 28 none
  statics := none }

def pool2 : Array CpInfo := pool [(1, .methodref 2 3), (0, .class_ 4), (0, .nameAndType 5 6), (0, u "java/lang/Object"), (0, u "<init>"), (0, u "()V"), (0, .fieldref 8 9), (0, .class_ 10), (0, .nameAndType 11 12), (0, u "com/example/composiq/composiq/Budget"), (0, u "left"), (0, u "J"), (0, u "(J)V"), (2, u "spend"), (0, u "spent"), (0, u "()Z")] 3

def k2c0 : Code := { maxStack := 3, maxLocals := 3, code := prog_6_method_1_code, exceptionTable := #[], attributes := #[] }
def k2m0 : Method := { name := "<init>", desc := "(J)V", sig := { parameters := [.long], returnType := none }, accessFlags := 0, code := some k2c0 }
def k2c1 : Code := { maxStack := 5, maxLocals := 3, code := prog_6_method_2_code, exceptionTable := #[], attributes := #[] }
def k2m1 : Method := { name := "spend", desc := "(J)V", sig := { parameters := [.long], returnType := none }, accessFlags := 0, code := some k2c1 }
def k2c2 : Code := { maxStack := 4, maxLocals := 1, code := prog_6_method_3_code, exceptionTable := #[], attributes := #[] }
def k2m2 : Method := { name := "spent", desc := "()Z", sig := { parameters := [], returnType := some .boolean }, accessFlags := 0, code := some k2c2 }
/-- com/example/composiq/composiq/Budget -/
def k2 : Class := { plain "com/example/composiq/composiq/Budget" (some 0) with
  accessFlags := 48
  interfaces := #[]
  cf := some (fileOf pool2 8 #[] #[{ accessFlags := 0, nameIndex := 5, descriptorIndex := 13, attributes := #[] }, { accessFlags := 0, nameIndex := 16, descriptorIndex := 13, attributes := #[] }, { accessFlags := 0, nameIndex := 17, descriptorIndex := 18, attributes := #[] }] 48 2 #[] #[{ accessFlags := 2, nameIndex := 11, descriptorIndex := 12, attributes := #[] }])
  fields := #[{ name := "left", type := .long, accessFlags := 2, slot := 0, constantValue := 0 }]
  methods := #[k2m0, k2m1, k2m2]
  instanceTypes := #[.long]
  staticTypes := #[]
  resolved := Array.replicate 22 none
  statics := none }

def pool3 : Array CpInfo := pool [(1, u "java/lang/Cloneable"), (0, .class_ 1), (0, u "java/lang/Object"), (0, .class_ 3)] 3

/-- java/lang/Cloneable -/
def k3 : Class := { plain "java/lang/Cloneable" (some 0) with
  accessFlags := 1537
  interfaces := #[]
  cf := some (fileOf pool3 2 #[] #[] 1537 4 #[] #[])
  fields := #[]
  methods := #[]
  instanceTypes := #[]
  staticTypes := #[]
  resolved := Array.replicate 8 none
  statics := none }

def pool4 : Array CpInfo := pool [(1, u "java/io/Serializable"), (0, .class_ 1), (0, u "java/lang/Object"), (0, .class_ 3)] 3

/-- java/io/Serializable -/
def k4 : Class := { plain "java/io/Serializable" (some 0) with
  accessFlags := 1537
  interfaces := #[]
  cf := some (fileOf pool4 2 #[] #[] 1537 4 #[] #[])
  fields := #[]
  methods := #[]
  instanceTypes := #[]
  staticTypes := #[]
  resolved := Array.replicate 8 none
  statics := none }

/-- the primitive byte -/
def k5 : Class := { plain "byte" none with kind := .primitive 'B', accessFlags := 0x411 }
/-- [B -/
def k6 : Class := { plain "[B" (some 0) with kind := .array 5 .byte, interfaces := #[3, 4], accessFlags := 1041 }

/-- the primitive int -/
def k7 : Class := { plain "int" none with kind := .primitive 'I', accessFlags := 0x411 }
/-- [I -/
def k8 : Class := { plain "[I" (some 0) with kind := .array 7 .int, interfaces := #[3, 4], accessFlags := 1041 }

def heap : Heap := #[]
def classes : Array Class := #[k0, k1, k2, k3, k4, k5, k6, k7, k8]
def interned : List (Array UInt16 × Addr) := []
def slotsUsed : Nat := 0
def theMethod : MethodId := ⟨1, 1⟩
def args0 : Array Value := #[.int 5, .int 3, .int 2]
def aboutOver (below : List Frame) : State where
  vm := { classes := classes, interned := interned.toArray }
  heap := heap
  slotsUsed := slotsUsed
  threads := #[{ frames := .invoking theMethod args0 :: below }]
def below0 : List Frame := [.native { method := ⟨0, 0⟩, args := #[] }]
def about1 : State := aboutOver below0
def p0 : Program := .bare "" "" ""
def e0 : Env := launch0.env 0 0 0
theorem w_frames : about1.frames = Frame.invoking theMethod args0 :: below0 := rfl
set_option maxRecDepth 65536 in
theorem w_args : argsFit about1.vm theMethod args0 = true := by decide +kernel
set_option maxRecDepth 65536 in
theorem w_heap : heapFits about1 = true := by decide +kernel
set_option maxRecDepth 65536 in
theorem w_runnable : about1.curStatus? = some .runnable := by decide +kernel
set_option maxRecDepth 65536 in
theorem w_alone : about1.alone = true := by decide +kernel
set_option maxRecDepth 65536 in
theorem w_named : about1.methodNamed? x = some theMethod := by decide +kernel
set_option maxRecDepth 65536 in
theorem w_hears : about1.hears theMethod below0 = true := by decide +kernel
set_option maxRecDepth 65536 in
theorem w_ripe : about1.ripe theMethod args0 below0 = true := by decide +kernel
theorem w_running : about1.status = .running := rfl
set_option maxRecDepth 65536 in
theorem w_room : about1.hasRoom e0.platform room_1 = true :=
  launch0.hasRoom_least _ room_1 (by decide +kernel) (by decide +kernel) (by decide +kernel) (by decide +kernel) (by decide +kernel) (by decide +kernel)
theorem allAtoms_all (ts : List Jvm.Cond) (a : Array Jvm.Value) (st : Jvm.State) : (allAtoms ts).before a st = ts.all (fun c => c.before a st) := by
  induction ts with
  | nil => rfl
  | cons c t ih =>
    show (Jvm.Cond.and c (allAtoms t)).before a st = _
    rw [Jvm.Cond.before_and, ih, List.all_cons]
def words1 : List Jvm.Cond := Jvm.Cond.code x code maxLocals ret :: tables_1
/-- a 'code' word, met by the world's own term for the bytes: nothing is compared byte by byte -/
theorem code_word {y : MethodName} {bytes : ByteArray} {mx : Nat} {rt : Option FieldType} {a : Array Value} {s : State} {m : MethodId} {meth : Method} {c : Code} (h1 : s.methodNamed? y = some m) (h2 : s.vm.method? m = some meth) (h3 : meth.code = some c) (h4 : c.code = bytes)
    (h5 : (c.maxLocals == mx && c.exceptionTable.isEmpty && decide (c.maxStack ≤ mostOperands) && decide (meth.sig.returnType = rt) && !meth.locks && decide (parseMethodDescriptor y.desc = some meth.sig)) = true) : (Jvm.Cond.code y bytes mx rt).before a s = true := by
  simp only [Bool.and_eq_true, beq_iff_eq, Bool.not_eq_true', decide_eq_true_eq] at h5
  obtain ⟨⟨⟨⟨⟨g1, g2⟩, g3⟩, g4⟩, g5⟩, g6⟩ := h5
  simp [Cond.before, Cond.holds, Cond.value, h1, h2, h3, h4, g1, g2, g3, g4, g5, g6]
def isCode : Jvm.Cond → Bool
  | .code _ _ _ _ => true
  | _ => false
theorem all_split {L : List Jvm.Cond} {P : Jvm.Cond → Bool} (h1 : L.all (fun c => isCode c || P c) = true) (h2 : ∀ c ∈ L.filter isCode, P c = true) : L.all P = true := by
  refine List.all_eq_true.mpr fun c hc => ?_
  have h := List.all_eq_true.mp h1 c hc
  rcases Bool.eq_false_or_eq_true (isCode c) with hi | hi
  · exact h2 c (List.mem_filter.mpr ⟨hc, hi⟩)
  · simpa [hi] using h
set_option maxRecDepth 65536 in
theorem w_c0 : (Jvm.Cond.code x code maxLocals ret).before args0 about1 = true := code_word (m := ⟨1, 1⟩) (meth := k1m1) (c := k1c1) (by decide +kernel) rfl rfl rfl (by decide +kernel)
set_option maxRecDepth 65536 in
theorem w_c1 : (Jvm.Cond.code ({ cls := "com/example/composiq/composiq/Budget", name := "<init>", desc := "(J)V" } : Jvm.MethodName) prog_6_method_1_code (3 : Nat) (Option.none : Option Jvm.ClassFile.FieldType)).before args0 about1 = true := code_word (m := ⟨2, 0⟩) (meth := k2m0) (c := k2c0) (by decide +kernel) rfl rfl rfl (by decide +kernel)
set_option maxRecDepth 65536 in
theorem w_c2 : (Jvm.Cond.code ({ cls := "java/lang/Object", name := "<init>", desc := "()V" } : Jvm.MethodName) object_method_1_code (1 : Nat) (Option.none : Option Jvm.ClassFile.FieldType)).before args0 about1 = true := code_word (m := ⟨0, 0⟩) (meth := k0m0) (c := k0c0) (by decide +kernel) rfl rfl rfl (by decide +kernel)
set_option maxRecDepth 65536 in
theorem w_c3 : (Jvm.Cond.code ({ cls := "com/example/composiq/composiq/Budget", name := "spent", desc := "()Z" } : Jvm.MethodName) prog_6_method_3_code (1 : Nat) (Option.some Jvm.ClassFile.FieldType.boolean)).before args0 about1 = true := code_word (m := ⟨2, 2⟩) (meth := k2m2) (c := k2c2) (by decide +kernel) rfl rfl rfl (by decide +kernel)
set_option maxRecDepth 65536 in
theorem w_c4 : (Jvm.Cond.code ({ cls := "com/example/composiq/composiq/Budget", name := "spend", desc := "(J)V" } : Jvm.MethodName) prog_6_method_2_code (3 : Nat) (Option.none : Option Jvm.ClassFile.FieldType)).before args0 about1 = true := code_word (m := ⟨2, 1⟩) (meth := k2m1) (c := k2c1) (by decide +kernel) rfl rfl rfl (by decide +kernel)
def codes1 : List Jvm.Cond := [Jvm.Cond.code x code maxLocals ret, Jvm.Cond.code ({ cls := "com/example/composiq/composiq/Budget", name := "<init>", desc := "(J)V" } : Jvm.MethodName) prog_6_method_1_code (3 : Nat) (Option.none : Option Jvm.ClassFile.FieldType), Jvm.Cond.code ({ cls := "java/lang/Object", name := "<init>", desc := "()V" } : Jvm.MethodName) object_method_1_code (1 : Nat) (Option.none : Option Jvm.ClassFile.FieldType), Jvm.Cond.code ({ cls := "com/example/composiq/composiq/Budget", name := "spent", desc := "()Z" } : Jvm.MethodName) prog_6_method_3_code (1 : Nat) (Option.some Jvm.ClassFile.FieldType.boolean), Jvm.Cond.code ({ cls := "com/example/composiq/composiq/Budget", name := "spend", desc := "(J)V" } : Jvm.MethodName) prog_6_method_2_code (3 : Nat) (Option.none : Option Jvm.ClassFile.FieldType)]
set_option maxRecDepth 65536 in
theorem codes_eq : words1.filter isCode = codes1 := rfl
theorem w_codes : ∀ c ∈ words1.filter isCode, c.before args0 about1 = true := by
  rw [codes_eq]
  intro c hc
  simp only [codes1, List.mem_cons, List.not_mem_nil, or_false] at hc
  rcases hc with rfl | rfl | rfl | rfl | rfl
  · exact w_c0
  · exact w_c1
  · exact w_c2
  · exact w_c3
  · exact w_c4
set_option maxRecDepth 65536 in
theorem w_t1 : words1.all (fun c => isCode c || c.before args0 about1) = true := by decide +kernel
theorem w_tables : (allAtoms (Jvm.Cond.code x code maxLocals ret :: tables_1)).before args0 about1 = true := by
  rw [allAtoms_all]
  show words1.all (fun c => c.before args0 about1) = true
  refine all_split ?_ w_codes
  rw [w_t1]
set_option maxRecDepth 65536 in
theorem w_case : (Jvm.Cond.and given_1 narrow_1).before args0 about1 = true := by decide +kernel
theorem w_applies : (headSpec (Jvm.Cond.code x code maxLocals ret :: tables_1) room_1).applies x e0.platform about1 = true :=
  (Spec.applies_iff w_frames).mpr ⟨w_running, w_runnable, w_alone, w_named, w_hears, w_ripe, w_room, w_tables⟩
theorem atStart : AtStart classFile x code maxLocals ret World_1 tables_1 room_1 Calls_1 rest_1 Pre_1 launch0 p0 e0 about1 theMethod args0 below0 :=
  ⟨lists_1, trivial, launch0.admits_env _ _ _, launch0.least_env, fairChoices_fair.cas, fairChoices_fair.clock, w_frames, w_args, w_heap, w_applies, trivial, trivial, w_case⟩
end start1
theorem witness_1 : WitnessClaimed_1 := ⟨start1.p0, start1.e0, start1.about1, start1.theMethod, start1.args0, start1.below0, start1.atStart⟩
end Jvm.Pilot.@@N@@
