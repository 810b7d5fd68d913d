import JvmDerived
import JvmDerived.Pilot.@@N@@Statement
import JvmDerived.Pilot.@@N@@Code
set_option linter.unusedVariables false
set_option linter.unusedSimpArgs false
set_option maxRecDepth 65536
set_option maxHeartbeats 40000000
namespace Jvm.Pilot.@@N@@
open Jvm Jvm.ClassFile Sem Op Lib Jvm.Free Jvm.Stand Jvm.LawKit Jvm.RoadKit Bundle Jvm.Pilot.@@N@@.Jvm.D
section OwnKit
variable {p : Program} {l : Launch} {e : Env} {R : Room} {s : State} {m : MethodId} {args : Array Value} {below : List Frame} {meth : Method} {c : Code} {T : State} {locs : List Loc} {cells slots : Nat}
/-- from here the run comes to an end that E allows -/
def own_Go (p : Program) (e : Env) (below : List Frame) (E : State → Prop) (S : State) : Prop := ∃ t, Steps p.tables e below S t ∧ E t
/-- the invocation has ended, with a value, a heap and a list of written places that Q allows -/
def own_End (s : State) (below : List Frame) (Q : Option Value → Heap → List Loc → Prop) (C N : Nat) (t : State) : Prop :=
  t.status = .running ∧ ∃ v L, Ended t below (.returned v) ∧ Q v t.heap L ∧ FrameEnd s (.returned v) t L C N
/-- the walk stands here, with this heap, having written only what is new -/
def own_At (p : Program) (l : Launch) (e : Env) (R : Room) (s : State) (m : MethodId) (args : Array Value) (below : List Frame) (meth : Method) (c : Code) (n0 : Nat) (T : State) (h : Heap) (cells slots : Nat) : Prop :=
  ∃ locs, Stand p l e R s m args below meth c T locs cells slots ∧ Fr n0 locs ∧ T.heap = h
theorem own_by {E : State → Prop} {S S' : State} (k : ∀ t, Steps p.tables e below S' t → Steps p.tables e below S t) (h : own_Go p e below E S') : own_Go p e below E S :=
  h.imp fun t q => ⟨k t q.1, q.2⟩
theorem own_tr {E : State → Prop} {S S' : State} (k : Steps p.tables e below S S') (h : own_Go p e below E S') : own_Go p e below E S :=
  h.imp fun t q => ⟨k.trans q.1, q.2⟩
theorem own_mono {E E' : State → Prop} {S : State} (k : ∀ t, E t → E' t) (h : own_Go p e below E S) : own_Go p e below E' S := h.imp fun t q => ⟨q.1, k t q.2⟩
theorem own_monoQ {Q Q' : Option Value → Heap → List Loc → Prop} {C N : Nat} {S : State} (k : ∀ v h L, Q v h L → Q' v h L) (h : own_Go p e below (own_End s below Q C N) S) : own_Go p e below (own_End s below Q' C N) S :=
  own_mono (fun t ⟨a, v, L, b, q, r⟩ => ⟨a, v, L, b, k _ _ _ q, r⟩) h
variable {Q : Option Value → Heap → List Loc → Prop} {C N : Nat} {h : Heap} {pc : Nat} {Ls : Array Slot} {rest : List Value}
theorem own_ret (X : Stand p l e R s m args below meth c T locs cells slots) (hx : p.tables.exec = Jvm.exec) (hlk : meth.locks = false) (eT : T.heap = h) {w : Value} {t : FieldType} {i : Instr} (hret : meth.sig.returnType = some t) (hn : narrow t w = w)
    (hi : (i = .ireturn ∧ (t = .int ∨ t = .boolean ∨ t = .byte ∨ t = .char ∨ t = .short) ∧ ∃ z, w = .int z) ∨ (i = .lreturn ∧ t = .long ∧ ∃ z, w = .long z) ∨ (i = .dreturn ∧ t = .double ∧ ∃ z, w = .double z) ∨ (i = .freturn ∧ t = .float ∧ ∃ z, w = .float z) ∨ (i = .areturn ∧ t.isReference = true ∧ w.isRef = true))
    (hd : decode c.code pc = .ok (i, 1)) (hc : cells ≤ C) (hs : slots ≤ N) (hQ : Q (some w) h locs) : own_Go p e below (own_End s below Q C N) (T.setTop (mkF m pc Ls (w :: rest))) := by
  obtain ⟨fs, hr, hrun, hended, hW, hsame⟩ := X.leave (v := some w) (fun q => by rw [hret] at q; cases q) hlk
  subst eT
  exact ⟨_, retOut X hx hret hn hi hd hr, hrun, _, _, hended, hQ, ⟨_, rfl⟩, hW, hsame.mono hc hs⟩
theorem own_retI (X : Stand p l e R s m args below meth c T locs cells slots) (hx : p.tables.exec = Jvm.exec) (hlk : meth.locks = false) (eT : T.heap = h) {z : Int32} (hret : meth.sig.returnType = some .int) (hd : decode c.code pc = .ok (.ireturn, 1)) (hc : cells ≤ C) (hs : slots ≤ N) (hQ : Q (some (.int z)) h locs) :
    own_Go p e below (own_End s below Q C N) (T.setTop (mkF m pc Ls (.int z :: rest))) := own_ret X hx hlk eT hret rfl (Or.inl ⟨rfl, Or.inl rfl, _, rfl⟩) hd hc hs hQ
theorem own_retZ (X : Stand p l e R s m args below meth c T locs cells slots) (hx : p.tables.exec = Jvm.exec) (hlk : meth.locks = false) (eT : T.heap = h) {z : Int32} (hz : z = 0 ∨ z = 1) (hret : meth.sig.returnType = some .boolean) (hd : decode c.code pc = .ok (.ireturn, 1)) (hc : cells ≤ C) (hs : slots ≤ N) (hQ : Q (some (.int z)) h locs) :
    own_Go p e below (own_End s below Q C N) (T.setTop (mkF m pc Ls (.int z :: rest))) := own_ret X hx hlk eT hret (by rcases hz with rfl | rfl <;> rfl) (Or.inl ⟨rfl, Or.inr (Or.inl rfl), _, rfl⟩) hd hc hs hQ
theorem own_retJ (X : Stand p l e R s m args below meth c T locs cells slots) (hx : p.tables.exec = Jvm.exec) (hlk : meth.locks = false) (eT : T.heap = h) {z : Int64} (hret : meth.sig.returnType = some .long) (hd : decode c.code pc = .ok (.lreturn, 1)) (hc : cells ≤ C) (hs : slots ≤ N) (hQ : Q (some (.long z)) h locs) :
    own_Go p e below (own_End s below Q C N) (T.setTop (mkF m pc Ls (.long z :: rest))) := own_ret X hx hlk eT hret rfl (Or.inr (Or.inl ⟨rfl, rfl, _, rfl⟩)) hd hc hs hQ
theorem own_retD (X : Stand p l e R s m args below meth c T locs cells slots) (hx : p.tables.exec = Jvm.exec) (hlk : meth.locks = false) (eT : T.heap = h) {z : UInt64} (hret : meth.sig.returnType = some .double) (hd : decode c.code pc = .ok (.dreturn, 1)) (hc : cells ≤ C) (hs : slots ≤ N) (hQ : Q (some (.double z)) h locs) :
    own_Go p e below (own_End s below Q C N) (T.setTop (mkF m pc Ls (.double z :: rest))) := own_ret X hx hlk eT hret rfl (Or.inr (Or.inr (Or.inl ⟨rfl, rfl, _, rfl⟩))) hd hc hs hQ
theorem own_retR (X : Stand p l e R s m args below meth c T locs cells slots) (hx : p.tables.exec = Jvm.exec) (hlk : meth.locks = false) (eT : T.heap = h) {w : Value} {t : FieldType} (hw : w.isRef = true) (ht : t.isReference = true) (hret : meth.sig.returnType = some t) (hd : decode c.code pc = .ok (.areturn, 1)) (hc : cells ≤ C) (hs : slots ≤ N) (hQ : Q (some w) h locs) :
    own_Go p e below (own_End s below Q C N) (T.setTop (mkF m pc Ls (w :: rest))) := own_ret X hx hlk eT hret (by cases t <;> first | (cases ht; done) | (cases w <;> first | rfl | cases hw)) (Or.inr (Or.inr (Or.inr (Or.inr ⟨rfl, ht, hw⟩)))) hd hc hs hQ
theorem own_retV (X : Stand p l e R s m args below meth c T locs cells slots) (hx : p.tables.exec = Jvm.exec) (hlk : meth.locks = false) (eT : T.heap = h) (hret : meth.sig.returnType = none) (hd : decode c.code pc = .ok (.return_, 1)) (hc : cells ≤ C) (hs : slots ≤ N) (hQ : Q none h locs) :
    own_Go p e below (own_End s below Q C N) (T.setTop (mkF m pc Ls [])) := by
  obtain ⟨fs, hr, hrun, hended, hW, hsame⟩ := X.leave (v := none) (fun _ => rfl) hlk
  subst eT
  exact ⟨_, X.returnOut hx hret hd hr, hrun, _, _, hended, hQ, ⟨_, rfl⟩, hW, hsame.mono hc hs⟩
end OwnKit

theorem own_pd0 : parseMethodDescriptor "(II)I" = some ⟨[.int, .int], some .int⟩ := by decide +kernel
theorem own_pd1 : parseMethodDescriptor "(III)Lcom/example/delivery_queue/deliveryqueue/core/Change$ContentsForm;" = some ⟨[.int, .int, .int], some (.object "com/example/delivery_queue/deliveryqueue/core/Change$ContentsForm")⟩ := by decide +kernel
theorem own_pd2 : parseMethodDescriptor "(Lcom/example/delivery_queue/deliveryqueue/core/Change$ContentsForm;)I" = some ⟨[(.object "com/example/delivery_queue/deliveryqueue/core/Change$ContentsForm")], some .int⟩ := by decide +kernel
theorem own_d1_0 : decode jdk_29_method_69_code 0 = .ok (.iload_n 0, 1) := by decide +kernel
theorem own_d1_1 : decode jdk_29_method_69_code 1 = .ok (.iload_n 1, 1) := by decide +kernel
theorem own_d1_2 : decode jdk_29_method_69_code 2 = .ok (.if_icmp .gt 7, 3) := by decide +kernel
theorem own_d1_5 : decode jdk_29_method_69_code 5 = .ok (.iload_n 0, 1) := by decide +kernel
theorem own_d1_6 : decode jdk_29_method_69_code 6 = .ok (.goto 4, 3) := by decide +kernel
theorem own_d1_9 : decode jdk_29_method_69_code 9 = .ok (.iload_n 1, 1) := by decide +kernel
theorem own_d1_10 : decode jdk_29_method_69_code 10 = .ok (.ireturn, 1) := by decide +kernel
def own_min (xa : Int32) (xb : Int32) : Int32 := (if xb < xa then xb else xa)
theorem own_ef1 (m : MethodId) (x0 : Int32) (x1 : Int32) : entryFrame m #[(.int x0), (.int x1)] 2 = mkF m 0 #[.val (.int x0), .val (.int x1)] [] := by first | (simp [entryFrame, mkF, argsToLocals, Value.category]; done) | rfl
def own_Q1 (Z : State) (xa : Int32) (xb : Int32) (h0 : Heap) (n0 : Nat) (v : Option Value) (h : Heap) (L : List Loc) : Prop := v = some (.int (own_min xa xb)) ∧ Fr n0 L ∧ h = h0
theorem own_rm1 (l : Launch) (Z : State) (a0 : Array Value) (hw : ∀ d ∈ tables_1, d.before a0 Z = true) (ws : List Jvm.Cond) (xa : Int32) (xb : Int32) (h0 : Heap) (n0 : Nat) (Z0 : n0 ≤ h0.size) :
    MetFree l (⟨"java/lang/Math", "min", "(II)I"⟩ : MethodName) (head1 (Jvm.Cond.code (⟨"java/lang/Math", "min", "(II)I"⟩ : MethodName) jdk_29_method_69_code 2 (some .int) :: ws) ({ frames := 0, cells := 0, slots := 0, locals := 0 } : Room)) (fun a U => a = #[(.int xa), (.int xb)] ∧ Z.Warmed39 U.vm ∧ U.heap = h0) (fun _ _ _ _ _ => True) (fun _ U o U' => ∃ v L, o = .returned v ∧ own_Q1 Z xa xb h0 n0 v U'.heap L ∧ FrameEnd U o U' L ({ frames := 0, cells := 0, slots := 0, locals := 0 } : Room).cells ({ frames := 0, cells := 0, slots := 0, locals := 0 } : Room).slots) := by
  refine MetFree.of_bodySF (Jvm.Free.JP.mathPlain rfl (by decide +kernel)) hisR ?_
  intro p e s m args below meth c s₁ Bd hml0 hP hK
  obtain ⟨rfl, hZ, hh⟩ := hP
  have hx := Bd.exec
  have hby := Bd.bytes
  have hlk := Bd.notSynchronized
  have hret := Bd.returns
  have hml : c.maxLocals = 2 := hml0
  have hown : s.vm.findClass "java/lang/Math" = some m.cls := findClass_of_methodNamed Bd.named
  have hnm := (name_of_methodNamed Bd.named Bd.method).1
  have X0 : Stand p l e ({ frames := 0, cells := 0, slots := 0, locals := 0 } : Room) s m #[(.int xa), (.int xb)] below meth c s₁ [] 0 0 := Stand.of_body Bd
  have e0 : s₁.heap = h0 := by rw [← hh, Bd.state]; rfl
  have N0 := Fr.nil n0
  suffices key : own_Go p e below (own_End s below (own_Q1 Z xa xb h0 n0) ({ frames := 0, cells := 0, slots := 0, locals := 0 } : Room).cells ({ frames := 0, cells := 0, slots := 0, locals := 0 } : Room).slots) (s₁.setTop (mkF m 0 #[.val (.int xa), .val (.int xb)] [])) by
    obtain ⟨t, k1, k2, v, L, k3, k4, k5⟩ := key
    exact ⟨t, _, castTop (own_ef1 m xa xb) k1, k2, k3, v, L, rfl, k4, k5⟩
  show own_Go p e below _ (s₁.setTop (mkF m 0 #[.val (.int xa), .val (.int xb)] []))
  refine own_by (fun _ => XS.iloadN X0.here hx rfl (hb hby own_d1_0) rfl) ?_
  show own_Go p e below _ (s₁.setTop (mkF m 1 #[.val (.int xa), .val (.int xb)] [(.int xa)]))
  refine own_by (fun _ => XS.iloadN X0.here hx rfl (hb hby own_d1_1) rfl) ?_
  show own_Go p e below _ (s₁.setTop (mkF m 2 #[.val (.int xa), .val (.int xb)] [(.int xb), (.int xa)]))
  suffices J1 : ∀ (T' : State) (v1_t0 : Int32), v1_t0 = (if xb < xa then xb else xa) → own_At p l e ({ frames := 0, cells := 0, slots := 0, locals := 0 } : Room) s m #[(.int xa), (.int xb)] below meth c n0 T' h0 0 0 → own_Go p e below (own_End s below (own_Q1 Z xa xb h0 n0) ({ frames := 0, cells := 0, slots := 0, locals := 0 } : Room).cells ({ frames := 0, cells := 0, slots := 0, locals := 0 } : Room).slots) (T'.setTop (mkF m 10 #[.val (.int xa), .val (.int xb)] [(.int v1_t0)])) by
    by_cases hc2_2 : xb < xa
    ·
      skip
      refine own_by (fun _ => XS.icmpYes X0.here hx rfl (pc0 := 2) (pc' := 9) rfl (hb hby own_d1_2) rfl (tlt hc2_2).2.2.1 (by decide) (by decide)) ?_
      show own_Go p e below _ (s₁.setTop (mkF m 9 #[.val (.int xa), .val (.int xb)] []))
      refine own_by (fun _ => XS.iloadN X0.here hx rfl (hb hby own_d1_9) rfl) ?_
      show own_Go p e below _ (s₁.setTop (mkF m 10 #[.val (.int xa), .val (.int xb)] [(.int xb)]))
      exact J1 _ _ (by first | with_reducible rfl | simp only [if_pos hc2_2] | rfl) ⟨_, X0, N0, e0⟩
    ·
      skip
      refine own_by (fun _ => XS.icmpNo X0.here hx rfl (hb hby own_d1_2) rfl (flt hc2_2).2.2.1) ?_
      show own_Go p e below _ (s₁.setTop (mkF m 5 #[.val (.int xa), .val (.int xb)] []))
      refine own_by (fun _ => XS.iloadN X0.here hx rfl (hb hby own_d1_5) rfl) ?_
      show own_Go p e below _ (s₁.setTop (mkF m 6 #[.val (.int xa), .val (.int xb)] [(.int xa)]))
      refine own_by (fun _ => XS.goto X0.here hx rfl (pc0 := 6) (pc' := 10) rfl (hb hby own_d1_6) (by decide) (by decide)) ?_
      show own_Go p e below _ (s₁.setTop (mkF m 10 #[.val (.int xa), .val (.int xb)] [(.int xa)]))
      exact J1 _ _ (by first | with_reducible rfl | simp only [if_neg hc2_2] | rfl) ⟨_, X0, N0, e0⟩
  intro T1 v1_t0 hv1_t0 ⟨locs1, X1, N1, e1⟩
  show own_Go p e below _ (T1.setTop (mkF m 10 #[.val (.int xa), .val (.int xb)] [(.int v1_t0)]))
  exact own_retI X1 hx hlk e1 hret (hb hby own_d1_10) (by decide) (by decide) ⟨(by subst hv1_t0; first | with_reducible rfl | simp only [own_min] | rfl), N1, rfl⟩

theorem own_d2_0 : decode jdk_29_method_65_code 0 = .ok (.iload_n 0, 1) := by decide +kernel
theorem own_d2_1 : decode jdk_29_method_65_code 1 = .ok (.iload_n 1, 1) := by decide +kernel
theorem own_d2_2 : decode jdk_29_method_65_code 2 = .ok (.if_icmp .lt 7, 3) := by decide +kernel
theorem own_d2_5 : decode jdk_29_method_65_code 5 = .ok (.iload_n 0, 1) := by decide +kernel
theorem own_d2_6 : decode jdk_29_method_65_code 6 = .ok (.goto 4, 3) := by decide +kernel
theorem own_d2_9 : decode jdk_29_method_65_code 9 = .ok (.iload_n 1, 1) := by decide +kernel
theorem own_d2_10 : decode jdk_29_method_65_code 10 = .ok (.ireturn, 1) := by decide +kernel
def own_max (xa : Int32) (xb : Int32) : Int32 := (if xa < xb then xb else xa)
theorem own_ef2 (m : MethodId) (x0 : Int32) (x1 : Int32) : entryFrame m #[(.int x0), (.int x1)] 2 = mkF m 0 #[.val (.int x0), .val (.int x1)] [] := by first | (simp [entryFrame, mkF, argsToLocals, Value.category]; done) | rfl
def own_Q2 (Z : State) (xa : Int32) (xb : Int32) (h0 : Heap) (n0 : Nat) (v : Option Value) (h : Heap) (L : List Loc) : Prop := v = some (.int (own_max xa xb)) ∧ Fr n0 L ∧ h = h0
theorem own_rm2 (l : Launch) (Z : State) (a0 : Array Value) (hw : ∀ d ∈ tables_1, d.before a0 Z = true) (ws : List Jvm.Cond) (xa : Int32) (xb : Int32) (h0 : Heap) (n0 : Nat) (Z0 : n0 ≤ h0.size) :
    MetFree l (⟨"java/lang/Math", "max", "(II)I"⟩ : MethodName) (head1 (Jvm.Cond.code (⟨"java/lang/Math", "max", "(II)I"⟩ : MethodName) jdk_29_method_65_code 2 (some .int) :: ws) ({ frames := 0, cells := 0, slots := 0, locals := 0 } : Room)) (fun a U => a = #[(.int xa), (.int xb)] ∧ Z.Warmed39 U.vm ∧ U.heap = h0) (fun _ _ _ _ _ => True) (fun _ U o U' => ∃ v L, o = .returned v ∧ own_Q2 Z xa xb h0 n0 v U'.heap L ∧ FrameEnd U o U' L ({ frames := 0, cells := 0, slots := 0, locals := 0 } : Room).cells ({ frames := 0, cells := 0, slots := 0, locals := 0 } : Room).slots) := by
  refine MetFree.of_bodySF (Jvm.Free.JP.mathPlain rfl (by decide +kernel)) hisR ?_
  intro p e s m args below meth c s₁ Bd hml0 hP hK
  obtain ⟨rfl, hZ, hh⟩ := hP
  have hx := Bd.exec
  have hby := Bd.bytes
  have hlk := Bd.notSynchronized
  have hret := Bd.returns
  have hml : c.maxLocals = 2 := hml0
  have hown : s.vm.findClass "java/lang/Math" = some m.cls := findClass_of_methodNamed Bd.named
  have hnm := (name_of_methodNamed Bd.named Bd.method).1
  have X0 : Stand p l e ({ frames := 0, cells := 0, slots := 0, locals := 0 } : Room) s m #[(.int xa), (.int xb)] below meth c s₁ [] 0 0 := Stand.of_body Bd
  have e0 : s₁.heap = h0 := by rw [← hh, Bd.state]; rfl
  have N0 := Fr.nil n0
  suffices key : own_Go p e below (own_End s below (own_Q2 Z xa xb h0 n0) ({ frames := 0, cells := 0, slots := 0, locals := 0 } : Room).cells ({ frames := 0, cells := 0, slots := 0, locals := 0 } : Room).slots) (s₁.setTop (mkF m 0 #[.val (.int xa), .val (.int xb)] [])) by
    obtain ⟨t, k1, k2, v, L, k3, k4, k5⟩ := key
    exact ⟨t, _, castTop (own_ef2 m xa xb) k1, k2, k3, v, L, rfl, k4, k5⟩
  show own_Go p e below _ (s₁.setTop (mkF m 0 #[.val (.int xa), .val (.int xb)] []))
  refine own_by (fun _ => XS.iloadN X0.here hx rfl (hb hby own_d2_0) rfl) ?_
  show own_Go p e below _ (s₁.setTop (mkF m 1 #[.val (.int xa), .val (.int xb)] [(.int xa)]))
  refine own_by (fun _ => XS.iloadN X0.here hx rfl (hb hby own_d2_1) rfl) ?_
  show own_Go p e below _ (s₁.setTop (mkF m 2 #[.val (.int xa), .val (.int xb)] [(.int xb), (.int xa)]))
  suffices J1 : ∀ (T' : State) (v1_t0 : Int32), v1_t0 = (if xa < xb then xb else xa) → own_At p l e ({ frames := 0, cells := 0, slots := 0, locals := 0 } : Room) s m #[(.int xa), (.int xb)] below meth c n0 T' h0 0 0 → own_Go p e below (own_End s below (own_Q2 Z xa xb h0 n0) ({ frames := 0, cells := 0, slots := 0, locals := 0 } : Room).cells ({ frames := 0, cells := 0, slots := 0, locals := 0 } : Room).slots) (T'.setTop (mkF m 10 #[.val (.int xa), .val (.int xb)] [(.int v1_t0)])) by
    by_cases hc2_2 : xa < xb
    ·
      skip
      refine own_by (fun _ => XS.icmpYes X0.here hx rfl (pc0 := 2) (pc' := 9) rfl (hb hby own_d2_2) rfl (tlt hc2_2).1 (by decide) (by decide)) ?_
      show own_Go p e below _ (s₁.setTop (mkF m 9 #[.val (.int xa), .val (.int xb)] []))
      refine own_by (fun _ => XS.iloadN X0.here hx rfl (hb hby own_d2_9) rfl) ?_
      show own_Go p e below _ (s₁.setTop (mkF m 10 #[.val (.int xa), .val (.int xb)] [(.int xb)]))
      exact J1 _ _ (by first | with_reducible rfl | simp only [if_pos hc2_2] | rfl) ⟨_, X0, N0, e0⟩
    ·
      skip
      refine own_by (fun _ => XS.icmpNo X0.here hx rfl (hb hby own_d2_2) rfl (flt hc2_2).1) ?_
      show own_Go p e below _ (s₁.setTop (mkF m 5 #[.val (.int xa), .val (.int xb)] []))
      refine own_by (fun _ => XS.iloadN X0.here hx rfl (hb hby own_d2_5) rfl) ?_
      show own_Go p e below _ (s₁.setTop (mkF m 6 #[.val (.int xa), .val (.int xb)] [(.int xa)]))
      refine own_by (fun _ => XS.goto X0.here hx rfl (pc0 := 6) (pc' := 10) rfl (hb hby own_d2_6) (by decide) (by decide)) ?_
      show own_Go p e below _ (s₁.setTop (mkF m 10 #[.val (.int xa), .val (.int xb)] [(.int xa)]))
      exact J1 _ _ (by first | with_reducible rfl | simp only [if_neg hc2_2] | rfl) ⟨_, X0, N0, e0⟩
  intro T1 v1_t0 hv1_t0 ⟨locs1, X1, N1, e1⟩
  show own_Go p e below _ (T1.setTop (mkF m 10 #[.val (.int xa), .val (.int xb)] [(.int v1_t0)]))
  exact own_retI X1 hx hlk e1 hret (hb hby own_d2_10) (by decide) (by decide) ⟨(by subst hv1_t0; first | with_reducible rfl | simp only [own_max] | rfl), N1, rfl⟩

theorem own_mm {a b t : Int32} (h : ¬ ((own_min a b) < t)) : ¬ ((own_max a b) < t) := by
  simp only [own_min, own_max, Int32.lt_iff_toInt_lt] at *
  by_cases q : b.toInt < a.toInt
  · rw [if_pos q] at h
    rw [if_neg (by omega)]
    omega
  · rw [if_neg q] at h
    by_cases q2 : a.toInt < b.toInt
    · rw [if_pos q2]; omega
    · rw [if_neg q2]; omega

theorem own_d3_0 : decode prog_4_method_4_code 0 = .ok (.iload_n 0, 1) := by decide +kernel
theorem own_d3_1 : decode prog_4_method_4_code 1 = .ok (.iload_n 1, 1) := by decide +kernel
theorem own_d3_2 : decode prog_4_method_4_code 2 = .ok (.if_icmp .gt 7, 3) := by decide +kernel
theorem own_d3_5 : decode prog_4_method_4_code 5 = .ok (.getstatic 3, 3) := by decide +kernel
theorem own_d3_8 : decode prog_4_method_4_code 8 = .ok (.areturn, 1) := by decide +kernel
theorem own_pn3 : plainName "com/example/delivery_queue/deliveryqueue/core/Change$ContentsForm" = true := by first | (simp [plainName, overriddenIn]; done) | decide +kernel
theorem own_ef3_0 (m : MethodId) (x0 : Int32) (x1 : Int32) (x2 : Int32) : entryFrame m #[(.int x0), (.int x1), (.int x2)] 3 = mkF m 0 #[.val (.int x0), .val (.int x1), .val (.int x2)] [] := by first | (simp [entryFrame, mkF, argsToLocals, Value.category]; done) | rfl
def own_Q3_0 (Z : State) (xa : Int32) (xb : Int32) (xc : Int32) (u0 : Addr) (h0 : Heap) (n0 : Nat) (v : Option Value) (h : Heap) (L : List Loc) : Prop := v = some (.ref u0) ∧ Fr n0 L ∧ h = h0
theorem own_rm3_0 (l : Launch) (Z : State) (a0 : Array Value) (hw : ∀ d ∈ tables_1, d.before a0 Z = true) (ws : List Jvm.Cond) (xa : Int32) (xb : Int32) (xc : Int32) (u0 : Addr) (h0 : Heap) (n0 : Nat) (Z0 : n0 ≤ h0.size) (pf0 : Sta Z h0 "com/example/delivery_queue/deliveryqueue/core/Change$ContentsForm" "UNATTRIBUTED" "Lcom/example/delivery_queue/deliveryqueue/core/Change$ContentsForm;" (.ref u0)) (h1 : ¬ (xb < xa)) :
    MetFree l (⟨"com/example/delivery_queue/deliveryqueue/core/Change$ContentsForm", "of", "(III)Lcom/example/delivery_queue/deliveryqueue/core/Change$ContentsForm;"⟩ : MethodName) (head1 (Jvm.Cond.code (⟨"com/example/delivery_queue/deliveryqueue/core/Change$ContentsForm", "of", "(III)Lcom/example/delivery_queue/deliveryqueue/core/Change$ContentsForm;"⟩ : MethodName) prog_4_method_4_code 3 (some (.object "com/example/delivery_queue/deliveryqueue/core/Change$ContentsForm")) :: ws) ({ frames := 0, cells := 0, slots := 0, locals := 0 } : Room)) (fun a U => a = #[(.int xa), (.int xb), (.int xc)] ∧ Z.Warmed39 U.vm ∧ U.heap = h0) (fun _ _ _ _ _ => True) (fun _ U o U' => ∃ v L, o = .returned v ∧ own_Q3_0 Z xa xb xc u0 h0 n0 v U'.heap L ∧ FrameEnd U o U' L ({ frames := 0, cells := 0, slots := 0, locals := 0 } : Room).cells ({ frames := 0, cells := 0, slots := 0, locals := 0 } : Room).slots) := by
  refine MetFree.of_bodySF (plainFor_of_name own_pn3) hisR ?_
  intro p e s m args below meth c s₁ Bd hml0 hP hK
  obtain ⟨rfl, hZ, hh⟩ := hP
  have hx := Bd.exec
  have hby := Bd.bytes
  have hlk := Bd.notSynchronized
  have hret := Bd.returns
  have hml : c.maxLocals = 3 := hml0
  have hown : s.vm.findClass "com/example/delivery_queue/deliveryqueue/core/Change$ContentsForm" = some m.cls := findClass_of_methodNamed Bd.named
  have hnm := (name_of_methodNamed Bd.named Bd.method).1
  have X0 : Stand p l e ({ frames := 0, cells := 0, slots := 0, locals := 0 } : Room) s m #[(.int xa), (.int xb), (.int xc)] below meth c s₁ [] 0 0 := Stand.of_body Bd
  have e0 : s₁.heap = h0 := by rw [← hh, Bd.state]; rfl
  have N0 := Fr.nil n0
  suffices key : own_Go p e below (own_End s below (own_Q3_0 Z xa xb xc u0 h0 n0) ({ frames := 0, cells := 0, slots := 0, locals := 0 } : Room).cells ({ frames := 0, cells := 0, slots := 0, locals := 0 } : Room).slots) (s₁.setTop (mkF m 0 #[.val (.int xa), .val (.int xb), .val (.int xc)] [])) by
    obtain ⟨t, k1, k2, v, L, k3, k4, k5⟩ := key
    exact ⟨t, _, castTop (own_ef3_0 m xa xb xc) k1, k2, k3, v, L, rfl, k4, k5⟩
  show own_Go p e below _ (s₁.setTop (mkF m 0 #[.val (.int xa), .val (.int xb), .val (.int xc)] []))
  refine own_by (fun _ => XS.iloadN X0.here hx rfl (hb hby own_d3_0) rfl) ?_
  show own_Go p e below _ (s₁.setTop (mkF m 1 #[.val (.int xa), .val (.int xb), .val (.int xc)] [(.int xa)]))
  refine own_by (fun _ => XS.iloadN X0.here hx rfl (hb hby own_d3_1) rfl) ?_
  show own_Go p e below _ (s₁.setTop (mkF m 2 #[.val (.int xa), .val (.int xb), .val (.int xc)] [(.int xb), (.int xa)]))
  refine own_by (fun _ => XS.icmpNo X0.here hx rfl (hb hby own_d3_2) rfl (flt h1).2.2.1) ?_
  show own_Go p e below _ (s₁.setTop (mkF m 5 #[.val (.int xa), .val (.int xb), .val (.int xc)] []))
  obtain ⟨T1, X1, e1, st1⟩ := getS2 X0 hx hZ hown (host := "") (Or.inl (hw _ (List.mem_of_getElem? (i := 11) rfl))) Via.refl e0 pf0 (g := (mkF m 5 #[.val (.int xa), .val (.int xb), .val (.int xc)] [])) rfl (hb hby own_d3_5)
  refine own_by st1 ?_
  show own_Go p e below _ (T1.setTop (mkF m 8 #[.val (.int xa), .val (.int xb), .val (.int xc)] [(.ref u0)]))
  exact own_retR X1 hx hlk e1 rfl rfl hret (hb hby own_d3_8) (by decide) (by decide) ⟨rfl, N0, rfl⟩

theorem own_d3_9 : decode prog_4_method_4_code 9 = .ok (.iload_n 0, 1) := by decide +kernel
theorem own_d3_10 : decode prog_4_method_4_code 10 = .ok (.iload_n 2, 1) := by decide +kernel
theorem own_d3_11 : decode prog_4_method_4_code 11 = .ok (.if_icmp .gt 7, 3) := by decide +kernel
theorem own_d3_14 : decode prog_4_method_4_code 14 = .ok (.getstatic 7, 3) := by decide +kernel
theorem own_d3_17 : decode prog_4_method_4_code 17 = .ok (.areturn, 1) := by decide +kernel
theorem own_ef3_1 (m : MethodId) (x0 : Int32) (x1 : Int32) (x2 : Int32) : entryFrame m #[(.int x0), (.int x1), (.int x2)] 3 = mkF m 0 #[.val (.int x0), .val (.int x1), .val (.int x2)] [] := by first | (simp [entryFrame, mkF, argsToLocals, Value.category]; done) | rfl
def own_Q3_1 (Z : State) (xa : Int32) (xb : Int32) (xc : Int32) (u1 : Addr) (h0 : Heap) (n0 : Nat) (v : Option Value) (h : Heap) (L : List Loc) : Prop := v = some (.ref u1) ∧ Fr n0 L ∧ h = h0
theorem own_rm3_1 (l : Launch) (Z : State) (a0 : Array Value) (hw : ∀ d ∈ tables_1, d.before a0 Z = true) (ws : List Jvm.Cond) (xa : Int32) (xb : Int32) (xc : Int32) (u1 : Addr) (h0 : Heap) (n0 : Nat) (Z0 : n0 ≤ h0.size) (pf0 : Sta Z h0 "com/example/delivery_queue/deliveryqueue/core/Change$ContentsForm" "UNTRACED" "Lcom/example/delivery_queue/deliveryqueue/core/Change$ContentsForm;" (.ref u1)) (h1 : xb < xa) (h2 : ¬ (xc < xa)) :
    MetFree l (⟨"com/example/delivery_queue/deliveryqueue/core/Change$ContentsForm", "of", "(III)Lcom/example/delivery_queue/deliveryqueue/core/Change$ContentsForm;"⟩ : MethodName) (head1 (Jvm.Cond.code (⟨"com/example/delivery_queue/deliveryqueue/core/Change$ContentsForm", "of", "(III)Lcom/example/delivery_queue/deliveryqueue/core/Change$ContentsForm;"⟩ : MethodName) prog_4_method_4_code 3 (some (.object "com/example/delivery_queue/deliveryqueue/core/Change$ContentsForm")) :: ws) ({ frames := 0, cells := 0, slots := 0, locals := 0 } : Room)) (fun a U => a = #[(.int xa), (.int xb), (.int xc)] ∧ Z.Warmed39 U.vm ∧ U.heap = h0) (fun _ _ _ _ _ => True) (fun _ U o U' => ∃ v L, o = .returned v ∧ own_Q3_1 Z xa xb xc u1 h0 n0 v U'.heap L ∧ FrameEnd U o U' L ({ frames := 0, cells := 0, slots := 0, locals := 0 } : Room).cells ({ frames := 0, cells := 0, slots := 0, locals := 0 } : Room).slots) := by
  refine MetFree.of_bodySF (plainFor_of_name own_pn3) hisR ?_
  intro p e s m args below meth c s₁ Bd hml0 hP hK
  obtain ⟨rfl, hZ, hh⟩ := hP
  have hx := Bd.exec
  have hby := Bd.bytes
  have hlk := Bd.notSynchronized
  have hret := Bd.returns
  have hml : c.maxLocals = 3 := hml0
  have hown : s.vm.findClass "com/example/delivery_queue/deliveryqueue/core/Change$ContentsForm" = some m.cls := findClass_of_methodNamed Bd.named
  have hnm := (name_of_methodNamed Bd.named Bd.method).1
  have X0 : Stand p l e ({ frames := 0, cells := 0, slots := 0, locals := 0 } : Room) s m #[(.int xa), (.int xb), (.int xc)] below meth c s₁ [] 0 0 := Stand.of_body Bd
  have e0 : s₁.heap = h0 := by rw [← hh, Bd.state]; rfl
  have N0 := Fr.nil n0
  suffices key : own_Go p e below (own_End s below (own_Q3_1 Z xa xb xc u1 h0 n0) ({ frames := 0, cells := 0, slots := 0, locals := 0 } : Room).cells ({ frames := 0, cells := 0, slots := 0, locals := 0 } : Room).slots) (s₁.setTop (mkF m 0 #[.val (.int xa), .val (.int xb), .val (.int xc)] [])) by
    obtain ⟨t, k1, k2, v, L, k3, k4, k5⟩ := key
    exact ⟨t, _, castTop (own_ef3_1 m xa xb xc) k1, k2, k3, v, L, rfl, k4, k5⟩
  show own_Go p e below _ (s₁.setTop (mkF m 0 #[.val (.int xa), .val (.int xb), .val (.int xc)] []))
  refine own_by (fun _ => XS.iloadN X0.here hx rfl (hb hby own_d3_0) rfl) ?_
  show own_Go p e below _ (s₁.setTop (mkF m 1 #[.val (.int xa), .val (.int xb), .val (.int xc)] [(.int xa)]))
  refine own_by (fun _ => XS.iloadN X0.here hx rfl (hb hby own_d3_1) rfl) ?_
  show own_Go p e below _ (s₁.setTop (mkF m 2 #[.val (.int xa), .val (.int xb), .val (.int xc)] [(.int xb), (.int xa)]))
  refine own_by (fun _ => XS.icmpYes X0.here hx rfl (pc0 := 2) (pc' := 9) rfl (hb hby own_d3_2) rfl (tlt h1).2.2.1 (by decide) (by decide)) ?_
  show own_Go p e below _ (s₁.setTop (mkF m 9 #[.val (.int xa), .val (.int xb), .val (.int xc)] []))
  refine own_by (fun _ => XS.iloadN X0.here hx rfl (hb hby own_d3_9) rfl) ?_
  show own_Go p e below _ (s₁.setTop (mkF m 10 #[.val (.int xa), .val (.int xb), .val (.int xc)] [(.int xa)]))
  refine own_by (fun _ => XS.iloadN X0.here hx rfl (hb hby own_d3_10) rfl) ?_
  show own_Go p e below _ (s₁.setTop (mkF m 11 #[.val (.int xa), .val (.int xb), .val (.int xc)] [(.int xc), (.int xa)]))
  refine own_by (fun _ => XS.icmpNo X0.here hx rfl (hb hby own_d3_11) rfl (flt h2).2.2.1) ?_
  show own_Go p e below _ (s₁.setTop (mkF m 14 #[.val (.int xa), .val (.int xb), .val (.int xc)] []))
  obtain ⟨T1, X1, e1, st1⟩ := getS2 X0 hx hZ hown (host := "") (Or.inl (hw _ (List.mem_of_getElem? (i := 23) rfl))) Via.refl e0 pf0 (g := (mkF m 14 #[.val (.int xa), .val (.int xb), .val (.int xc)] [])) rfl (hb hby own_d3_14)
  refine own_by st1 ?_
  show own_Go p e below _ (T1.setTop (mkF m 17 #[.val (.int xa), .val (.int xb), .val (.int xc)] [(.ref u1)]))
  exact own_retR X1 hx hlk e1 rfl rfl hret (hb hby own_d3_17) (by decide) (by decide) ⟨rfl, N0, rfl⟩

theorem own_d3_18 : decode prog_4_method_4_code 18 = .ok (.getstatic 10, 3) := by decide +kernel
theorem own_d3_21 : decode prog_4_method_4_code 21 = .ok (.areturn, 1) := by decide +kernel
theorem own_ef3_2 (m : MethodId) (x0 : Int32) (x1 : Int32) (x2 : Int32) : entryFrame m #[(.int x0), (.int x1), (.int x2)] 3 = mkF m 0 #[.val (.int x0), .val (.int x1), .val (.int x2)] [] := by first | (simp [entryFrame, mkF, argsToLocals, Value.category]; done) | rfl
def own_Q3_2 (Z : State) (xa : Int32) (xb : Int32) (xc : Int32) (u2 : Addr) (h0 : Heap) (n0 : Nat) (v : Option Value) (h : Heap) (L : List Loc) : Prop := v = some (.ref u2) ∧ Fr n0 L ∧ h = h0
theorem own_rm3_2 (l : Launch) (Z : State) (a0 : Array Value) (hw : ∀ d ∈ tables_1, d.before a0 Z = true) (ws : List Jvm.Cond) (xa : Int32) (xb : Int32) (xc : Int32) (u2 : Addr) (h0 : Heap) (n0 : Nat) (Z0 : n0 ≤ h0.size) (pf0 : Sta Z h0 "com/example/delivery_queue/deliveryqueue/core/Change$ContentsForm" "WHOLE" "Lcom/example/delivery_queue/deliveryqueue/core/Change$ContentsForm;" (.ref u2)) (h1 : xb < xa) (h2 : xc < xa) :
    MetFree l (⟨"com/example/delivery_queue/deliveryqueue/core/Change$ContentsForm", "of", "(III)Lcom/example/delivery_queue/deliveryqueue/core/Change$ContentsForm;"⟩ : MethodName) (head1 (Jvm.Cond.code (⟨"com/example/delivery_queue/deliveryqueue/core/Change$ContentsForm", "of", "(III)Lcom/example/delivery_queue/deliveryqueue/core/Change$ContentsForm;"⟩ : MethodName) prog_4_method_4_code 3 (some (.object "com/example/delivery_queue/deliveryqueue/core/Change$ContentsForm")) :: ws) ({ frames := 0, cells := 0, slots := 0, locals := 0 } : Room)) (fun a U => a = #[(.int xa), (.int xb), (.int xc)] ∧ Z.Warmed39 U.vm ∧ U.heap = h0) (fun _ _ _ _ _ => True) (fun _ U o U' => ∃ v L, o = .returned v ∧ own_Q3_2 Z xa xb xc u2 h0 n0 v U'.heap L ∧ FrameEnd U o U' L ({ frames := 0, cells := 0, slots := 0, locals := 0 } : Room).cells ({ frames := 0, cells := 0, slots := 0, locals := 0 } : Room).slots) := by
  refine MetFree.of_bodySF (plainFor_of_name own_pn3) hisR ?_
  intro p e s m args below meth c s₁ Bd hml0 hP hK
  obtain ⟨rfl, hZ, hh⟩ := hP
  have hx := Bd.exec
  have hby := Bd.bytes
  have hlk := Bd.notSynchronized
  have hret := Bd.returns
  have hml : c.maxLocals = 3 := hml0
  have hown : s.vm.findClass "com/example/delivery_queue/deliveryqueue/core/Change$ContentsForm" = some m.cls := findClass_of_methodNamed Bd.named
  have hnm := (name_of_methodNamed Bd.named Bd.method).1
  have X0 : Stand p l e ({ frames := 0, cells := 0, slots := 0, locals := 0 } : Room) s m #[(.int xa), (.int xb), (.int xc)] below meth c s₁ [] 0 0 := Stand.of_body Bd
  have e0 : s₁.heap = h0 := by rw [← hh, Bd.state]; rfl
  have N0 := Fr.nil n0
  suffices key : own_Go p e below (own_End s below (own_Q3_2 Z xa xb xc u2 h0 n0) ({ frames := 0, cells := 0, slots := 0, locals := 0 } : Room).cells ({ frames := 0, cells := 0, slots := 0, locals := 0 } : Room).slots) (s₁.setTop (mkF m 0 #[.val (.int xa), .val (.int xb), .val (.int xc)] [])) by
    obtain ⟨t, k1, k2, v, L, k3, k4, k5⟩ := key
    exact ⟨t, _, castTop (own_ef3_2 m xa xb xc) k1, k2, k3, v, L, rfl, k4, k5⟩
  show own_Go p e below _ (s₁.setTop (mkF m 0 #[.val (.int xa), .val (.int xb), .val (.int xc)] []))
  refine own_by (fun _ => XS.iloadN X0.here hx rfl (hb hby own_d3_0) rfl) ?_
  show own_Go p e below _ (s₁.setTop (mkF m 1 #[.val (.int xa), .val (.int xb), .val (.int xc)] [(.int xa)]))
  refine own_by (fun _ => XS.iloadN X0.here hx rfl (hb hby own_d3_1) rfl) ?_
  show own_Go p e below _ (s₁.setTop (mkF m 2 #[.val (.int xa), .val (.int xb), .val (.int xc)] [(.int xb), (.int xa)]))
  refine own_by (fun _ => XS.icmpYes X0.here hx rfl (pc0 := 2) (pc' := 9) rfl (hb hby own_d3_2) rfl (tlt h1).2.2.1 (by decide) (by decide)) ?_
  show own_Go p e below _ (s₁.setTop (mkF m 9 #[.val (.int xa), .val (.int xb), .val (.int xc)] []))
  refine own_by (fun _ => XS.iloadN X0.here hx rfl (hb hby own_d3_9) rfl) ?_
  show own_Go p e below _ (s₁.setTop (mkF m 10 #[.val (.int xa), .val (.int xb), .val (.int xc)] [(.int xa)]))
  refine own_by (fun _ => XS.iloadN X0.here hx rfl (hb hby own_d3_10) rfl) ?_
  show own_Go p e below _ (s₁.setTop (mkF m 11 #[.val (.int xa), .val (.int xb), .val (.int xc)] [(.int xc), (.int xa)]))
  refine own_by (fun _ => XS.icmpYes X0.here hx rfl (pc0 := 11) (pc' := 18) rfl (hb hby own_d3_11) rfl (tlt h2).2.2.1 (by decide) (by decide)) ?_
  show own_Go p e below _ (s₁.setTop (mkF m 18 #[.val (.int xa), .val (.int xb), .val (.int xc)] []))
  obtain ⟨T1, X1, e1, st1⟩ := getS2 X0 hx hZ hown (host := "") (Or.inl (hw _ (List.mem_of_getElem? (i := 18) rfl))) Via.refl e0 pf0 (g := (mkF m 18 #[.val (.int xa), .val (.int xb), .val (.int xc)] [])) rfl (hb hby own_d3_18)
  refine own_by st1 ?_
  show own_Go p e below _ (T1.setTop (mkF m 21 #[.val (.int xa), .val (.int xb), .val (.int xc)] [(.ref u2)]))
  exact own_retR X1 hx hlk e1 rfl rfl hret (hb hby own_d3_21) (by decide) (by decide) ⟨rfl, N0, rfl⟩

theorem own_d4_0 : decode method_2_code 0 = .ok (.aload_n 0, 1) := by decide +kernel
theorem own_d4_1 : decode method_2_code 1 = .ok (.getstatic 7, 3) := by decide +kernel
theorem own_d4_4 : decode method_2_code 4 = .ok (.if_acmp .ne 5, 3) := by decide +kernel
theorem own_d4_7 : decode method_2_code 7 = .ok (.iconst 0, 1) := by decide +kernel
theorem own_d4_8 : decode method_2_code 8 = .ok (.ireturn, 1) := by decide +kernel
theorem own_pn4 : plainName "com/example/delivery_queue/deliveryqueue/core/ContentsFormOfPinLaw" = true := by first | (simp [plainName, overriddenIn]; done) | decide +kernel
theorem own_ef4_0 (m : MethodId) (x0 : Addr) : entryFrame m #[(.ref x0)] 1 = mkF m 0 #[.val (.ref x0)] [] := by first | (simp [entryFrame, mkF, argsToLocals, Value.category]; done) | rfl
def own_Q4_0 (Z : State) (u0 : Addr) (h0 : Heap) (n0 : Nat) (v : Option Value) (h : Heap) (L : List Loc) : Prop := v = some (.int (0 : Int32)) ∧ Fr n0 L ∧ h = h0
theorem own_rm4_0 (l : Launch) (Z : State) (a0 : Array Value) (hw : ∀ d ∈ tables_1, d.before a0 Z = true) (ws : List Jvm.Cond) (u0 : Addr) (h0 : Heap) (n0 : Nat) (Z0 : n0 ≤ h0.size) (pf0 : Sta Z h0 "com/example/delivery_queue/deliveryqueue/core/Change$ContentsForm" "UNATTRIBUTED" "Lcom/example/delivery_queue/deliveryqueue/core/Change$ContentsForm;" (.ref u0)) :
    MetFree l (⟨"com/example/delivery_queue/deliveryqueue/core/ContentsFormOfPinLaw", "rank", "(Lcom/example/delivery_queue/deliveryqueue/core/Change$ContentsForm;)I"⟩ : MethodName) (head1 (Jvm.Cond.code (⟨"com/example/delivery_queue/deliveryqueue/core/ContentsFormOfPinLaw", "rank", "(Lcom/example/delivery_queue/deliveryqueue/core/Change$ContentsForm;)I"⟩ : MethodName) method_2_code 1 (some .int) :: ws) ({ frames := 0, cells := 0, slots := 0, locals := 0 } : Room)) (fun a U => a = #[(.ref u0)] ∧ Z.Warmed39 U.vm ∧ U.heap = h0) (fun _ _ _ _ _ => True) (fun _ U o U' => ∃ v L, o = .returned v ∧ own_Q4_0 Z u0 h0 n0 v U'.heap L ∧ FrameEnd U o U' L ({ frames := 0, cells := 0, slots := 0, locals := 0 } : Room).cells ({ frames := 0, cells := 0, slots := 0, locals := 0 } : Room).slots) := by
  refine MetFree.of_bodySF (plainFor_of_name own_pn4) hisR ?_
  intro p e s m args below meth c s₁ Bd hml0 hP hK
  obtain ⟨rfl, hZ, hh⟩ := hP
  have hx := Bd.exec
  have hby := Bd.bytes
  have hlk := Bd.notSynchronized
  have hret := Bd.returns
  have hml : c.maxLocals = 1 := hml0
  have hown : s.vm.findClass "com/example/delivery_queue/deliveryqueue/core/ContentsFormOfPinLaw" = some m.cls := findClass_of_methodNamed Bd.named
  have hnm := (name_of_methodNamed Bd.named Bd.method).1
  have X0 : Stand p l e ({ frames := 0, cells := 0, slots := 0, locals := 0 } : Room) s m #[(.ref u0)] below meth c s₁ [] 0 0 := Stand.of_body Bd
  have e0 : s₁.heap = h0 := by rw [← hh, Bd.state]; rfl
  have N0 := Fr.nil n0
  suffices key : own_Go p e below (own_End s below (own_Q4_0 Z u0 h0 n0) ({ frames := 0, cells := 0, slots := 0, locals := 0 } : Room).cells ({ frames := 0, cells := 0, slots := 0, locals := 0 } : Room).slots) (s₁.setTop (mkF m 0 #[.val (.ref u0)] [])) by
    obtain ⟨t, k1, k2, v, L, k3, k4, k5⟩ := key
    exact ⟨t, _, castTop (own_ef4_0 m u0) k1, k2, k3, v, L, rfl, k4, k5⟩
  show own_Go p e below _ (s₁.setTop (mkF m 0 #[.val (.ref u0)] []))
  refine own_by (fun _ => XS.aloadN X0.here hx rfl (hb hby own_d4_0) rfl rfl) ?_
  show own_Go p e below _ (s₁.setTop (mkF m 1 #[.val (.ref u0)] [(.ref u0)]))
  obtain ⟨T1, X1, e1, st1⟩ := getS2 X0 hx hZ hown (host := "") (Or.inl (hw _ (List.mem_of_getElem? (i := 17) rfl))) Via.refl e0 pf0 (g := (mkF m 1 #[.val (.ref u0)] [(.ref u0)])) rfl (hb hby own_d4_1)
  refine own_by st1 ?_
  show own_Go p e below _ (T1.setTop (mkF m 4 #[.val (.ref u0)] [(.ref u0), (.ref u0)]))
  refine own_by (fun _ => Jvm.RoadKit.acmp (g := (mkF m 4 #[.val (.ref u0)] [(.ref u0), (.ref u0)])) X1 hx rfl rfl rfl (pc0 := 4) (pc' := 7) (same := true) rfl (hb hby own_d4_4) rfl (decide_eq_true rfl) (by decide) (by decide)) ?_
  show own_Go p e below _ (T1.setTop (mkF m 7 #[.val (.ref u0)] []))
  refine own_by (fun _ => XS.iconst X1.here hx rfl (hb hby own_d4_7)) ?_
  show own_Go p e below _ (T1.setTop (mkF m 8 #[.val (.ref u0)] [(.int (0 : Int32))]))
  exact own_retI X1 hx hlk e1 hret (hb hby own_d4_8) (by decide) (by decide) ⟨rfl, N0, rfl⟩

theorem own_d4_9 : decode method_2_code 9 = .ok (.aload_n 0, 1) := by decide +kernel
theorem own_d4_10 : decode method_2_code 10 = .ok (.getstatic 13, 3) := by decide +kernel
theorem own_d4_13 : decode method_2_code 13 = .ok (.if_acmp .ne 5, 3) := by decide +kernel
theorem own_d4_16 : decode method_2_code 16 = .ok (.iconst 1, 1) := by decide +kernel
theorem own_d4_17 : decode method_2_code 17 = .ok (.ireturn, 1) := by decide +kernel
theorem own_ef4_1 (m : MethodId) (x0 : Addr) : entryFrame m #[(.ref x0)] 1 = mkF m 0 #[.val (.ref x0)] [] := by first | (simp [entryFrame, mkF, argsToLocals, Value.category]; done) | rfl
def own_Q4_1 (Z : State) (u0 : Addr) (u1 : Addr) (h0 : Heap) (n0 : Nat) (v : Option Value) (h : Heap) (L : List Loc) : Prop := v = some (.int (1 : Int32)) ∧ Fr n0 L ∧ h = h0
theorem own_rm4_1 (l : Launch) (Z : State) (a0 : Array Value) (hw : ∀ d ∈ tables_1, d.before a0 Z = true) (ws : List Jvm.Cond) (u0 : Addr) (u1 : Addr) (h0 : Heap) (n0 : Nat) (Z0 : n0 ≤ h0.size) (pf0 : Sta Z h0 "com/example/delivery_queue/deliveryqueue/core/Change$ContentsForm" "UNATTRIBUTED" "Lcom/example/delivery_queue/deliveryqueue/core/Change$ContentsForm;" (.ref u0)) (pf1 : Sta Z h0 "com/example/delivery_queue/deliveryqueue/core/Change$ContentsForm" "UNTRACED" "Lcom/example/delivery_queue/deliveryqueue/core/Change$ContentsForm;" (.ref u1)) (pn0 : u1 ≠ u0) :
    MetFree l (⟨"com/example/delivery_queue/deliveryqueue/core/ContentsFormOfPinLaw", "rank", "(Lcom/example/delivery_queue/deliveryqueue/core/Change$ContentsForm;)I"⟩ : MethodName) (head1 (Jvm.Cond.code (⟨"com/example/delivery_queue/deliveryqueue/core/ContentsFormOfPinLaw", "rank", "(Lcom/example/delivery_queue/deliveryqueue/core/Change$ContentsForm;)I"⟩ : MethodName) method_2_code 1 (some .int) :: ws) ({ frames := 0, cells := 0, slots := 0, locals := 0 } : Room)) (fun a U => a = #[(.ref u1)] ∧ Z.Warmed39 U.vm ∧ U.heap = h0) (fun _ _ _ _ _ => True) (fun _ U o U' => ∃ v L, o = .returned v ∧ own_Q4_1 Z u0 u1 h0 n0 v U'.heap L ∧ FrameEnd U o U' L ({ frames := 0, cells := 0, slots := 0, locals := 0 } : Room).cells ({ frames := 0, cells := 0, slots := 0, locals := 0 } : Room).slots) := by
  refine MetFree.of_bodySF (plainFor_of_name own_pn4) hisR ?_
  intro p e s m args below meth c s₁ Bd hml0 hP hK
  obtain ⟨rfl, hZ, hh⟩ := hP
  have hx := Bd.exec
  have hby := Bd.bytes
  have hlk := Bd.notSynchronized
  have hret := Bd.returns
  have hml : c.maxLocals = 1 := hml0
  have hown : s.vm.findClass "com/example/delivery_queue/deliveryqueue/core/ContentsFormOfPinLaw" = some m.cls := findClass_of_methodNamed Bd.named
  have hnm := (name_of_methodNamed Bd.named Bd.method).1
  have X0 : Stand p l e ({ frames := 0, cells := 0, slots := 0, locals := 0 } : Room) s m #[(.ref u1)] below meth c s₁ [] 0 0 := Stand.of_body Bd
  have e0 : s₁.heap = h0 := by rw [← hh, Bd.state]; rfl
  have N0 := Fr.nil n0
  suffices key : own_Go p e below (own_End s below (own_Q4_1 Z u0 u1 h0 n0) ({ frames := 0, cells := 0, slots := 0, locals := 0 } : Room).cells ({ frames := 0, cells := 0, slots := 0, locals := 0 } : Room).slots) (s₁.setTop (mkF m 0 #[.val (.ref u1)] [])) by
    obtain ⟨t, k1, k2, v, L, k3, k4, k5⟩ := key
    exact ⟨t, _, castTop (own_ef4_1 m u1) k1, k2, k3, v, L, rfl, k4, k5⟩
  show own_Go p e below _ (s₁.setTop (mkF m 0 #[.val (.ref u1)] []))
  refine own_by (fun _ => XS.aloadN X0.here hx rfl (hb hby own_d4_0) rfl rfl) ?_
  show own_Go p e below _ (s₁.setTop (mkF m 1 #[.val (.ref u1)] [(.ref u1)]))
  obtain ⟨T1, X1, e1, st1⟩ := getS2 X0 hx hZ hown (host := "") (Or.inl (hw _ (List.mem_of_getElem? (i := 17) rfl))) Via.refl e0 pf0 (g := (mkF m 1 #[.val (.ref u1)] [(.ref u1)])) rfl (hb hby own_d4_1)
  refine own_by st1 ?_
  show own_Go p e below _ (T1.setTop (mkF m 4 #[.val (.ref u1)] [(.ref u0), (.ref u1)]))
  refine own_by (fun _ => Jvm.RoadKit.acmp (g := (mkF m 4 #[.val (.ref u1)] [(.ref u0), (.ref u1)])) X1 hx rfl rfl rfl (pc0 := 4) (pc' := 9) (same := false) rfl (hb hby own_d4_4) rfl (decide_eq_false fun q => pn0 (Value.ref.inj q)) (by decide) (by decide)) ?_
  show own_Go p e below _ (T1.setTop (mkF m 9 #[.val (.ref u1)] []))
  refine own_by (fun _ => XS.aloadN X1.here hx rfl (hb hby own_d4_9) rfl rfl) ?_
  show own_Go p e below _ (T1.setTop (mkF m 10 #[.val (.ref u1)] [(.ref u1)]))
  obtain ⟨T2, X2, e2, st2⟩ := getS2 X1 hx hZ hown (host := "") (Or.inl (hw _ (List.mem_of_getElem? (i := 20) rfl))) Via.refl e1 pf1 (g := (mkF m 10 #[.val (.ref u1)] [(.ref u1)])) rfl (hb hby own_d4_10)
  refine own_by st2 ?_
  show own_Go p e below _ (T2.setTop (mkF m 13 #[.val (.ref u1)] [(.ref u1), (.ref u1)]))
  refine own_by (fun _ => Jvm.RoadKit.acmp (g := (mkF m 13 #[.val (.ref u1)] [(.ref u1), (.ref u1)])) X2 hx rfl rfl rfl (pc0 := 13) (pc' := 16) (same := true) rfl (hb hby own_d4_13) rfl (decide_eq_true rfl) (by decide) (by decide)) ?_
  show own_Go p e below _ (T2.setTop (mkF m 16 #[.val (.ref u1)] []))
  refine own_by (fun _ => XS.iconst X2.here hx rfl (hb hby own_d4_16)) ?_
  show own_Go p e below _ (T2.setTop (mkF m 17 #[.val (.ref u1)] [(.int (1 : Int32))]))
  exact own_retI X2 hx hlk e2 hret (hb hby own_d4_17) (by decide) (by decide) ⟨rfl, N0, rfl⟩

theorem own_d4_18 : decode method_2_code 18 = .ok (.aload_n 0, 1) := by decide +kernel
theorem own_d4_19 : decode method_2_code 19 = .ok (.getstatic 16, 3) := by decide +kernel
theorem own_d4_22 : decode method_2_code 22 = .ok (.if_acmp .ne 5, 3) := by decide +kernel
theorem own_d4_25 : decode method_2_code 25 = .ok (.iconst 2, 1) := by decide +kernel
theorem own_d4_26 : decode method_2_code 26 = .ok (.ireturn, 1) := by decide +kernel
theorem own_ef4_2 (m : MethodId) (x0 : Addr) : entryFrame m #[(.ref x0)] 1 = mkF m 0 #[.val (.ref x0)] [] := by first | (simp [entryFrame, mkF, argsToLocals, Value.category]; done) | rfl
def own_Q4_2 (Z : State) (u0 : Addr) (u1 : Addr) (u2 : Addr) (h0 : Heap) (n0 : Nat) (v : Option Value) (h : Heap) (L : List Loc) : Prop := v = some (.int (2 : Int32)) ∧ Fr n0 L ∧ h = h0
theorem own_rm4_2 (l : Launch) (Z : State) (a0 : Array Value) (hw : ∀ d ∈ tables_1, d.before a0 Z = true) (ws : List Jvm.Cond) (u0 : Addr) (u1 : Addr) (u2 : Addr) (h0 : Heap) (n0 : Nat) (Z0 : n0 ≤ h0.size) (pf0 : Sta Z h0 "com/example/delivery_queue/deliveryqueue/core/Change$ContentsForm" "UNATTRIBUTED" "Lcom/example/delivery_queue/deliveryqueue/core/Change$ContentsForm;" (.ref u0)) (pf1 : Sta Z h0 "com/example/delivery_queue/deliveryqueue/core/Change$ContentsForm" "UNTRACED" "Lcom/example/delivery_queue/deliveryqueue/core/Change$ContentsForm;" (.ref u1)) (pf2 : Sta Z h0 "com/example/delivery_queue/deliveryqueue/core/Change$ContentsForm" "WHOLE" "Lcom/example/delivery_queue/deliveryqueue/core/Change$ContentsForm;" (.ref u2)) (pn0 : u2 ≠ u0) (pn1 : u2 ≠ u1) :
    MetFree l (⟨"com/example/delivery_queue/deliveryqueue/core/ContentsFormOfPinLaw", "rank", "(Lcom/example/delivery_queue/deliveryqueue/core/Change$ContentsForm;)I"⟩ : MethodName) (head1 (Jvm.Cond.code (⟨"com/example/delivery_queue/deliveryqueue/core/ContentsFormOfPinLaw", "rank", "(Lcom/example/delivery_queue/deliveryqueue/core/Change$ContentsForm;)I"⟩ : MethodName) method_2_code 1 (some .int) :: ws) ({ frames := 0, cells := 0, slots := 0, locals := 0 } : Room)) (fun a U => a = #[(.ref u2)] ∧ Z.Warmed39 U.vm ∧ U.heap = h0) (fun _ _ _ _ _ => True) (fun _ U o U' => ∃ v L, o = .returned v ∧ own_Q4_2 Z u0 u1 u2 h0 n0 v U'.heap L ∧ FrameEnd U o U' L ({ frames := 0, cells := 0, slots := 0, locals := 0 } : Room).cells ({ frames := 0, cells := 0, slots := 0, locals := 0 } : Room).slots) := by
  refine MetFree.of_bodySF (plainFor_of_name own_pn4) hisR ?_
  intro p e s m args below meth c s₁ Bd hml0 hP hK
  obtain ⟨rfl, hZ, hh⟩ := hP
  have hx := Bd.exec
  have hby := Bd.bytes
  have hlk := Bd.notSynchronized
  have hret := Bd.returns
  have hml : c.maxLocals = 1 := hml0
  have hown : s.vm.findClass "com/example/delivery_queue/deliveryqueue/core/ContentsFormOfPinLaw" = some m.cls := findClass_of_methodNamed Bd.named
  have hnm := (name_of_methodNamed Bd.named Bd.method).1
  have X0 : Stand p l e ({ frames := 0, cells := 0, slots := 0, locals := 0 } : Room) s m #[(.ref u2)] below meth c s₁ [] 0 0 := Stand.of_body Bd
  have e0 : s₁.heap = h0 := by rw [← hh, Bd.state]; rfl
  have N0 := Fr.nil n0
  suffices key : own_Go p e below (own_End s below (own_Q4_2 Z u0 u1 u2 h0 n0) ({ frames := 0, cells := 0, slots := 0, locals := 0 } : Room).cells ({ frames := 0, cells := 0, slots := 0, locals := 0 } : Room).slots) (s₁.setTop (mkF m 0 #[.val (.ref u2)] [])) by
    obtain ⟨t, k1, k2, v, L, k3, k4, k5⟩ := key
    exact ⟨t, _, castTop (own_ef4_2 m u2) k1, k2, k3, v, L, rfl, k4, k5⟩
  show own_Go p e below _ (s₁.setTop (mkF m 0 #[.val (.ref u2)] []))
  refine own_by (fun _ => XS.aloadN X0.here hx rfl (hb hby own_d4_0) rfl rfl) ?_
  show own_Go p e below _ (s₁.setTop (mkF m 1 #[.val (.ref u2)] [(.ref u2)]))
  obtain ⟨T1, X1, e1, st1⟩ := getS2 X0 hx hZ hown (host := "") (Or.inl (hw _ (List.mem_of_getElem? (i := 17) rfl))) Via.refl e0 pf0 (g := (mkF m 1 #[.val (.ref u2)] [(.ref u2)])) rfl (hb hby own_d4_1)
  refine own_by st1 ?_
  show own_Go p e below _ (T1.setTop (mkF m 4 #[.val (.ref u2)] [(.ref u0), (.ref u2)]))
  refine own_by (fun _ => Jvm.RoadKit.acmp (g := (mkF m 4 #[.val (.ref u2)] [(.ref u0), (.ref u2)])) X1 hx rfl rfl rfl (pc0 := 4) (pc' := 9) (same := false) rfl (hb hby own_d4_4) rfl (decide_eq_false fun q => pn0 (Value.ref.inj q)) (by decide) (by decide)) ?_
  show own_Go p e below _ (T1.setTop (mkF m 9 #[.val (.ref u2)] []))
  refine own_by (fun _ => XS.aloadN X1.here hx rfl (hb hby own_d4_9) rfl rfl) ?_
  show own_Go p e below _ (T1.setTop (mkF m 10 #[.val (.ref u2)] [(.ref u2)]))
  obtain ⟨T2, X2, e2, st2⟩ := getS2 X1 hx hZ hown (host := "") (Or.inl (hw _ (List.mem_of_getElem? (i := 20) rfl))) Via.refl e1 pf1 (g := (mkF m 10 #[.val (.ref u2)] [(.ref u2)])) rfl (hb hby own_d4_10)
  refine own_by st2 ?_
  show own_Go p e below _ (T2.setTop (mkF m 13 #[.val (.ref u2)] [(.ref u1), (.ref u2)]))
  refine own_by (fun _ => Jvm.RoadKit.acmp (g := (mkF m 13 #[.val (.ref u2)] [(.ref u1), (.ref u2)])) X2 hx rfl rfl rfl (pc0 := 13) (pc' := 18) (same := false) rfl (hb hby own_d4_13) rfl (decide_eq_false fun q => pn1 (Value.ref.inj q)) (by decide) (by decide)) ?_
  show own_Go p e below _ (T2.setTop (mkF m 18 #[.val (.ref u2)] []))
  refine own_by (fun _ => XS.aloadN X2.here hx rfl (hb hby own_d4_18) rfl rfl) ?_
  show own_Go p e below _ (T2.setTop (mkF m 19 #[.val (.ref u2)] [(.ref u2)]))
  obtain ⟨T3, X3, e3, st3⟩ := getS2 X2 hx hZ hown (host := "") (Or.inl (hw _ (List.mem_of_getElem? (i := 22) rfl))) Via.refl e2 pf2 (g := (mkF m 19 #[.val (.ref u2)] [(.ref u2)])) rfl (hb hby own_d4_19)
  refine own_by st3 ?_
  show own_Go p e below _ (T3.setTop (mkF m 22 #[.val (.ref u2)] [(.ref u2), (.ref u2)]))
  refine own_by (fun _ => Jvm.RoadKit.acmp (g := (mkF m 22 #[.val (.ref u2)] [(.ref u2), (.ref u2)])) X3 hx rfl rfl rfl (pc0 := 22) (pc' := 25) (same := true) rfl (hb hby own_d4_22) rfl (decide_eq_true rfl) (by decide) (by decide)) ?_
  show own_Go p e below _ (T3.setTop (mkF m 25 #[.val (.ref u2)] []))
  refine own_by (fun _ => XS.iconst X3.here hx rfl (hb hby own_d4_25)) ?_
  show own_Go p e below _ (T3.setTop (mkF m 26 #[.val (.ref u2)] [(.int (2 : Int32))]))
  exact own_retI X3 hx hlk e3 hret (hb hby own_d4_26) (by decide) (by decide) ⟨rfl, N0, rfl⟩

theorem own_pn0 : plainName "com/example/delivery_queue/deliveryqueue/core/ContentsFormOfPinLaw" = true := by first | (simp [plainName, overriddenIn]; done) | decide +kernel
theorem own_ef0 (m : MethodId) (x0 : Int32) (x1 : Int32) (x2 : Int32) (x3 : Int32) : entryFrame m #[(.int x0), (.int x1), (.int x2), (.int x3)] maxLocals = mkF m 0 #[.val (.int x0), .val (.int x1), .val (.int x2), .val (.int x3), .unset, .unset, .unset, .unset, .unset, .unset] [] := by first | (simp [entryFrame, mkF, argsToLocals, Value.category, maxLocals]; done) | rfl
def own_Q0 (Z : State) (xa : Int32) (xb : Int32) (xc : Int32) (xd : Int32) (u0 : Addr) (u1 : Addr) (u2 : Addr) (h0 : Heap) (n0 : Nat) (v : Option Value) (h : Heap) (L : List Loc) : Prop := v = some (.int (1 : Int32)) ∧ Fr n0 L
theorem own_rm0 (l : Launch) (Z : State) (a0 : Array Value) (hw : ∀ d ∈ tables_1, d.before a0 Z = true) (ws : List Jvm.Cond) (xa : Int32) (xb : Int32) (xc : Int32) (xd : Int32) (u0 : Addr) (u1 : Addr) (u2 : Addr) (h0 : Heap) (n0 : Nat) (Z0 : n0 ≤ h0.size) (pf0 : Sta Z h0 "com/example/delivery_queue/deliveryqueue/core/Change$ContentsForm" "UNATTRIBUTED" "Lcom/example/delivery_queue/deliveryqueue/core/Change$ContentsForm;" (.ref u0)) (pf1 : Sta Z h0 "com/example/delivery_queue/deliveryqueue/core/Change$ContentsForm" "UNTRACED" "Lcom/example/delivery_queue/deliveryqueue/core/Change$ContentsForm;" (.ref u1)) (pf2 : Sta Z h0 "com/example/delivery_queue/deliveryqueue/core/Change$ContentsForm" "WHOLE" "Lcom/example/delivery_queue/deliveryqueue/core/Change$ContentsForm;" (.ref u2)) (pn0 : u0 ≠ u1) (pn1 : u0 ≠ u2) (pn2 : u1 ≠ u2) :
    MetFree l x (head1 (Jvm.Cond.code x code maxLocals ret :: ws) room_1) (fun a U => a = #[(.int xa), (.int xb), (.int xc), (.int xd)] ∧ Z.Warmed39 U.vm ∧ U.heap = h0) (fun _ _ _ _ _ => True) (fun _ U o U' => ∃ v L, o = .returned v ∧ own_Q0 Z xa xb xc xd u0 u1 u2 h0 n0 v U'.heap L ∧ FrameEnd U o U' L room_1.cells room_1.slots) := by
  refine MetFree.of_bodySF (plainFor_of_name own_pn0) hisR ?_
  intro p e s m args below meth c s₁ Bd hml0 hP hK
  obtain ⟨rfl, hZ, hh⟩ := hP
  have hx := Bd.exec
  have hby := Bd.bytes
  have hlk := Bd.notSynchronized
  have hret := Bd.returns
  have hml : c.maxLocals = 10 := hml0
  have hown : s.vm.findClass "com/example/delivery_queue/deliveryqueue/core/ContentsFormOfPinLaw" = some m.cls := findClass_of_methodNamed Bd.named
  have hnm := (name_of_methodNamed Bd.named Bd.method).1
  have X0 : Stand p l e room_1 s m #[(.int xa), (.int xb), (.int xc), (.int xd)] below meth c s₁ [] 0 0 := Stand.of_body Bd
  have e0 : s₁.heap = h0 := by rw [← hh, Bd.state]; rfl
  have N0 := Fr.nil n0
  suffices key : own_Go p e below (own_End s below (own_Q0 Z xa xb xc xd u0 u1 u2 h0 n0) room_1.cells room_1.slots) (s₁.setTop (mkF m 0 #[.val (.int xa), .val (.int xb), .val (.int xc), .val (.int xd), .unset, .unset, .unset, .unset, .unset, .unset] [])) by
    obtain ⟨t, k1, k2, v, L, k3, k4, k5⟩ := key
    exact ⟨t, _, castTop (own_ef0 m xa xb xc xd) k1, k2, k3, v, L, rfl, k4, k5⟩
  show own_Go p e below _ (s₁.setTop (mkF m 0 #[.val (.int xa), .val (.int xb), .val (.int xc), .val (.int xd), .unset, .unset, .unset, .unset, .unset, .unset] []))
  refine own_by (fun _ => XS.iloadN X0.here hx rfl (hb hby at_0) rfl) ?_
  show own_Go p e below _ (s₁.setTop (mkF m 1 #[.val (.int xa), .val (.int xb), .val (.int xc), .val (.int xd), .unset, .unset, .unset, .unset, .unset, .unset] [(.int xb)]))
  refine own_by (fun _ => XS.iloadN X0.here hx rfl (hb hby at_1) rfl) ?_
  show own_Go p e below _ (s₁.setTop (mkF m 2 #[.val (.int xa), .val (.int xb), .val (.int xc), .val (.int xd), .unset, .unset, .unset, .unset, .unset, .unset] [(.int xc), (.int xb)]))
  obtain ⟨_, _, ⟨T1, L1, k1, n1⟩, -, X1, ⟨Lc1, hQ1, l1, y1, z1'⟩, st1⟩ := Jvm.LawKit.callS X0 hx (y := (⟨"java/lang/Math", "min", "(II)I"⟩ : MethodName)) hown (mvT hZ (hw _ (List.mem_of_getElem? (i := 0) rfl))) (mvT hZ (hw _ (List.mem_of_getElem? (i := 1) rfl))) (mvT hZ (hw _ (List.mem_of_getElem? (i := 2) rfl))) (mvT hZ (hw _ (List.mem_of_getElem? (i := 3) rfl))) (by decide) (backOf (W := 0) (own_rm1 l Z a0 hw [] xb xc h0 n0 Z0 ) hZ (hw _ (List.mem_of_getElem? (i := 3) rfl)) (hw _ (List.mem_of_getElem? (i := 2) rfl)) (by decide) (by decide)) (g := (mkF m 2 #[.val (.int xa), .val (.int xb), .val (.int xc), .val (.int xd), .unset, .unset, .unset, .unset, .unset, .unset] [(.int xc), (.int xb)])) rfl (by rw [hml]; rfl) (argsL := [(.int xb), (.int xc)]) (rest := []) (lenOf own_pd0 rfl) rfl (by show 2 * 0 + _ ≤ _; exact Nat.le_of_eq rfl) (hb hby at_2) (fun _ _ => ⟨rfl, e0, (by decide : 0 + 0 ≤ _), (by decide : 0 + 0 ≤ _)⟩)
  dsimp only [Pt.U, Pt.locs, Pt.cells, Pt.slots] at X1 l1 y1 z1' st1 hQ1
  subst l1 y1 z1'
  obtain ⟨rfl, N1q, e1⟩ := hQ1
  have N1 := Fr.app N0 N1q
  refine own_by st1 ?_
  show own_Go p e below _ (T1.setTop (mkF m 5 #[.val (.int xa), .val (.int xb), .val (.int xc), .val (.int xd), .unset, .unset, .unset, .unset, .unset, .unset] [(.int (own_min xb xc))]))
  refine own_by (fun _ => XS.istore X1.here hx rfl (hb hby at_5) rfl (l' := #[.val (.int xa), .val (.int xb), .val (.int xc), .val (.int xd), .val (.int (own_min xb xc)), .unset, .unset, .unset, .unset, .unset]) rfl) ?_
  show own_Go p e below _ (T1.setTop (mkF m 7 #[.val (.int xa), .val (.int xb), .val (.int xc), .val (.int xd), .val (.int (own_min xb xc)), .unset, .unset, .unset, .unset, .unset] []))
  refine own_by (fun _ => XS.iloadN X1.here hx rfl (hb hby at_7) rfl) ?_
  show own_Go p e below _ (T1.setTop (mkF m 8 #[.val (.int xa), .val (.int xb), .val (.int xc), .val (.int xd), .val (.int (own_min xb xc)), .unset, .unset, .unset, .unset, .unset] [(.int xb)]))
  refine own_by (fun _ => XS.iloadN X1.here hx rfl (hb hby at_8) rfl) ?_
  show own_Go p e below _ (T1.setTop (mkF m 9 #[.val (.int xa), .val (.int xb), .val (.int xc), .val (.int xd), .val (.int (own_min xb xc)), .unset, .unset, .unset, .unset, .unset] [(.int xc), (.int xb)]))
  obtain ⟨_, _, ⟨T2, L2, k2, n2⟩, -, X2, ⟨Lc2, hQ2, l2, y2, z2'⟩, st2⟩ := Jvm.LawKit.callS X1 hx (y := (⟨"java/lang/Math", "max", "(II)I"⟩ : MethodName)) hown (mvT hZ (hw _ (List.mem_of_getElem? (i := 4) rfl))) (mvT hZ (hw _ (List.mem_of_getElem? (i := 5) rfl))) (mvT hZ (hw _ (List.mem_of_getElem? (i := 2) rfl))) (mvT hZ (hw _ (List.mem_of_getElem? (i := 6) rfl))) (by decide) (backOf (W := 0) (own_rm2 l Z a0 hw [] xb xc h0 n0 Z0 ) hZ (hw _ (List.mem_of_getElem? (i := 6) rfl)) (hw _ (List.mem_of_getElem? (i := 2) rfl)) (by decide) (by decide)) (g := (mkF m 9 #[.val (.int xa), .val (.int xb), .val (.int xc), .val (.int xd), .val (.int (own_min xb xc)), .unset, .unset, .unset, .unset, .unset] [(.int xc), (.int xb)])) rfl (by rw [hml]; rfl) (argsL := [(.int xb), (.int xc)]) (rest := []) (lenOf own_pd0 rfl) rfl (by show 2 * 0 + _ ≤ _; exact Nat.le_of_eq rfl) (hb hby at_9) (fun _ _ => ⟨rfl, e1, (by decide : 0 + 0 ≤ _), (by decide : 0 + 0 ≤ _)⟩)
  dsimp only [Pt.U, Pt.locs, Pt.cells, Pt.slots] at X2 l2 y2 z2' st2 hQ2
  subst l2 y2 z2'
  obtain ⟨rfl, N2q, e2⟩ := hQ2
  have N2 := Fr.app N1 N2q
  refine own_by st2 ?_
  show own_Go p e below _ (T2.setTop (mkF m 12 #[.val (.int xa), .val (.int xb), .val (.int xc), .val (.int xd), .val (.int (own_min xb xc)), .unset, .unset, .unset, .unset, .unset] [(.int (own_max xb xc))]))
  refine own_by (fun _ => XS.istore X2.here hx rfl (hb hby at_12) rfl (l' := #[.val (.int xa), .val (.int xb), .val (.int xc), .val (.int xd), .val (.int (own_min xb xc)), .val (.int (own_max xb xc)), .unset, .unset, .unset, .unset]) rfl) ?_
  show own_Go p e below _ (T2.setTop (mkF m 14 #[.val (.int xa), .val (.int xb), .val (.int xc), .val (.int xd), .val (.int (own_min xb xc)), .val (.int (own_max xb xc)), .unset, .unset, .unset, .unset] []))
  refine own_by (fun _ => XS.iloadN X2.here hx rfl (hb hby at_14) rfl) ?_
  show own_Go p e below _ (T2.setTop (mkF m 15 #[.val (.int xa), .val (.int xb), .val (.int xc), .val (.int xd), .val (.int (own_min xb xc)), .val (.int (own_max xb xc)), .unset, .unset, .unset, .unset] [(.int xd)]))
  refine own_by (fun _ => XS.iconst X2.here hx rfl (hb hby at_15)) ?_
  show own_Go p e below _ (T2.setTop (mkF m 16 #[.val (.int xa), .val (.int xb), .val (.int xc), .val (.int xd), .val (.int (own_min xb xc)), .val (.int (own_max xb xc)), .unset, .unset, .unset, .unset] [(.int (3 : Int32)), (.int xd)]))
  refine own_by (fun _ => XS.iand X2.here hx rfl (hb hby at_16) rfl) ?_
  show own_Go p e below _ (T2.setTop (mkF m 17 #[.val (.int xa), .val (.int xb), .val (.int xc), .val (.int xd), .val (.int (own_min xb xc)), .val (.int (own_max xb xc)), .unset, .unset, .unset, .unset] [(.int (xd &&& (3 : Int32)))]))
  refine own_by (fun _ => XS.istore X2.here hx rfl (hb hby at_17) rfl (l' := #[.val (.int xa), .val (.int xb), .val (.int xc), .val (.int xd), .val (.int (own_min xb xc)), .val (.int (own_max xb xc)), .val (.int (xd &&& (3 : Int32))), .unset, .unset, .unset]) rfl) ?_
  show own_Go p e below _ (T2.setTop (mkF m 19 #[.val (.int xa), .val (.int xb), .val (.int xc), .val (.int xd), .val (.int (own_min xb xc)), .val (.int (own_max xb xc)), .val (.int (xd &&& (3 : Int32))), .unset, .unset, .unset] []))
  refine own_by (fun _ => XS.iload X2.here hx rfl (hb hby at_19) rfl) ?_
  show own_Go p e below _ (T2.setTop (mkF m 21 #[.val (.int xa), .val (.int xb), .val (.int xc), .val (.int xd), .val (.int (own_min xb xc)), .val (.int (own_max xb xc)), .val (.int (xd &&& (3 : Int32))), .unset, .unset, .unset] [(.int (xd &&& (3 : Int32)))]))
  refine own_by (fun _ => XS.iconst X2.here hx rfl (hb hby at_21)) ?_
  show own_Go p e below _ (T2.setTop (mkF m 22 #[.val (.int xa), .val (.int xb), .val (.int xc), .val (.int xd), .val (.int (own_min xb xc)), .val (.int (own_max xb xc)), .val (.int (xd &&& (3 : Int32))), .unset, .unset, .unset] [(.int (1 : Int32)), (.int (xd &&& (3 : Int32)))]))
  suffices J3 : ∀ (T' : State) (v3_7 : Int32), v3_7 = (if (xd &&& (3 : Int32)) = (1 : Int32) then ((own_min xb xc) + ((xa &&& (3 : Int32)) - (1 : Int32))) else (if (xd &&& (3 : Int32)) = (2 : Int32) then ((own_max xb xc) + ((xa &&& (3 : Int32)) - (1 : Int32))) else xa)) → own_At p l e room_1 s m #[(.int xa), (.int xb), (.int xc), (.int xd)] below meth c n0 T' h0 0 0 → own_Go p e below (own_End s below (own_Q0 Z xa xb xc xd u0 u1 u2 h0 n0) room_1.cells room_1.slots) (T'.setTop (mkF m 60 #[.val (.int xa), .val (.int xb), .val (.int xc), .val (.int xd), .val (.int (own_min xb xc)), .val (.int (own_max xb xc)), .val (.int (xd &&& (3 : Int32))), .val (.int v3_7), .unset, .unset] [])) by
    by_cases hc22_4 : (xd &&& (3 : Int32)) = (1 : Int32)
    ·
      skip
      refine own_by (fun _ => XS.icmpNo X2.here hx rfl (hb hby at_22) rfl (teq hc22_4).2) ?_
      show own_Go p e below _ (T2.setTop (mkF m 25 #[.val (.int xa), .val (.int xb), .val (.int xc), .val (.int xd), .val (.int (own_min xb xc)), .val (.int (own_max xb xc)), .val (.int (xd &&& (3 : Int32))), .unset, .unset, .unset] []))
      refine own_by (fun _ => XS.iload X2.here hx rfl (hb hby at_25) rfl) ?_
      show own_Go p e below _ (T2.setTop (mkF m 27 #[.val (.int xa), .val (.int xb), .val (.int xc), .val (.int xd), .val (.int (own_min xb xc)), .val (.int (own_max xb xc)), .val (.int (xd &&& (3 : Int32))), .unset, .unset, .unset] [(.int (own_min xb xc))]))
      refine own_by (fun _ => XS.iloadN X2.here hx rfl (hb hby at_27) rfl) ?_
      show own_Go p e below _ (T2.setTop (mkF m 28 #[.val (.int xa), .val (.int xb), .val (.int xc), .val (.int xd), .val (.int (own_min xb xc)), .val (.int (own_max xb xc)), .val (.int (xd &&& (3 : Int32))), .unset, .unset, .unset] [(.int xa), (.int (own_min xb xc))]))
      refine own_by (fun _ => XS.iconst X2.here hx rfl (hb hby at_28)) ?_
      show own_Go p e below _ (T2.setTop (mkF m 29 #[.val (.int xa), .val (.int xb), .val (.int xc), .val (.int xd), .val (.int (own_min xb xc)), .val (.int (own_max xb xc)), .val (.int (xd &&& (3 : Int32))), .unset, .unset, .unset] [(.int (3 : Int32)), (.int xa), (.int (own_min xb xc))]))
      refine own_by (fun _ => XS.iand X2.here hx rfl (hb hby at_29) rfl) ?_
      show own_Go p e below _ (T2.setTop (mkF m 30 #[.val (.int xa), .val (.int xb), .val (.int xc), .val (.int xd), .val (.int (own_min xb xc)), .val (.int (own_max xb xc)), .val (.int (xd &&& (3 : Int32))), .unset, .unset, .unset] [(.int (xa &&& (3 : Int32))), (.int (own_min xb xc))]))
      refine own_by (fun _ => XS.iconst X2.here hx rfl (hb hby at_30)) ?_
      show own_Go p e below _ (T2.setTop (mkF m 31 #[.val (.int xa), .val (.int xb), .val (.int xc), .val (.int xd), .val (.int (own_min xb xc)), .val (.int (own_max xb xc)), .val (.int (xd &&& (3 : Int32))), .unset, .unset, .unset] [(.int (1 : Int32)), (.int (xa &&& (3 : Int32))), (.int (own_min xb xc))]))
      refine own_by (fun _ => XS.isub X2.here hx rfl (hb hby at_31) rfl) ?_
      show own_Go p e below _ (T2.setTop (mkF m 32 #[.val (.int xa), .val (.int xb), .val (.int xc), .val (.int xd), .val (.int (own_min xb xc)), .val (.int (own_max xb xc)), .val (.int (xd &&& (3 : Int32))), .unset, .unset, .unset] [(.int ((xa &&& (3 : Int32)) - (1 : Int32))), (.int (own_min xb xc))]))
      refine own_by (fun _ => XS.iadd X2.here hx rfl (hb hby at_32) rfl) ?_
      show own_Go p e below _ (T2.setTop (mkF m 33 #[.val (.int xa), .val (.int xb), .val (.int xc), .val (.int xd), .val (.int (own_min xb xc)), .val (.int (own_max xb xc)), .val (.int (xd &&& (3 : Int32))), .unset, .unset, .unset] [(.int ((own_min xb xc) + ((xa &&& (3 : Int32)) - (1 : Int32))))]))
      refine own_by (fun _ => XS.istore X2.here hx rfl (hb hby at_33) rfl (l' := #[.val (.int xa), .val (.int xb), .val (.int xc), .val (.int xd), .val (.int (own_min xb xc)), .val (.int (own_max xb xc)), .val (.int (xd &&& (3 : Int32))), .val (.int ((own_min xb xc) + ((xa &&& (3 : Int32)) - (1 : Int32)))), .unset, .unset]) rfl) ?_
      show own_Go p e below _ (T2.setTop (mkF m 35 #[.val (.int xa), .val (.int xb), .val (.int xc), .val (.int xd), .val (.int (own_min xb xc)), .val (.int (own_max xb xc)), .val (.int (xd &&& (3 : Int32))), .val (.int ((own_min xb xc) + ((xa &&& (3 : Int32)) - (1 : Int32)))), .unset, .unset] []))
      refine own_by (fun _ => XS.goto X2.here hx rfl (pc0 := 35) (pc' := 60) rfl (hb hby at_35) (by decide) (by decide)) ?_
      show own_Go p e below _ (T2.setTop (mkF m 60 #[.val (.int xa), .val (.int xb), .val (.int xc), .val (.int xd), .val (.int (own_min xb xc)), .val (.int (own_max xb xc)), .val (.int (xd &&& (3 : Int32))), .val (.int ((own_min xb xc) + ((xa &&& (3 : Int32)) - (1 : Int32)))), .unset, .unset] []))
      exact J3 _ _ (by first | with_reducible rfl | simp only [if_pos hc22_4] | rfl) ⟨_, X2, N2, e2⟩
    ·
      skip
      refine own_by (fun _ => XS.icmpYes X2.here hx rfl (pc0 := 22) (pc' := 38) rfl (hb hby at_22) rfl (feq hc22_4).2 (by decide) (by decide)) ?_
      show own_Go p e below _ (T2.setTop (mkF m 38 #[.val (.int xa), .val (.int xb), .val (.int xc), .val (.int xd), .val (.int (own_min xb xc)), .val (.int (own_max xb xc)), .val (.int (xd &&& (3 : Int32))), .unset, .unset, .unset] []))
      refine own_by (fun _ => XS.iload X2.here hx rfl (hb hby at_38) rfl) ?_
      show own_Go p e below _ (T2.setTop (mkF m 40 #[.val (.int xa), .val (.int xb), .val (.int xc), .val (.int xd), .val (.int (own_min xb xc)), .val (.int (own_max xb xc)), .val (.int (xd &&& (3 : Int32))), .unset, .unset, .unset] [(.int (xd &&& (3 : Int32)))]))
      refine own_by (fun _ => XS.iconst X2.here hx rfl (hb hby at_40)) ?_
      show own_Go p e below _ (T2.setTop (mkF m 41 #[.val (.int xa), .val (.int xb), .val (.int xc), .val (.int xd), .val (.int (own_min xb xc)), .val (.int (own_max xb xc)), .val (.int (xd &&& (3 : Int32))), .unset, .unset, .unset] [(.int (2 : Int32)), (.int (xd &&& (3 : Int32)))]))
      by_cases hc41_5 : (xd &&& (3 : Int32)) = (2 : Int32)
      ·
        skip
        refine own_by (fun _ => XS.icmpNo X2.here hx rfl (hb hby at_41) rfl (teq hc41_5).2) ?_
        show own_Go p e below _ (T2.setTop (mkF m 44 #[.val (.int xa), .val (.int xb), .val (.int xc), .val (.int xd), .val (.int (own_min xb xc)), .val (.int (own_max xb xc)), .val (.int (xd &&& (3 : Int32))), .unset, .unset, .unset] []))
        refine own_by (fun _ => XS.iload X2.here hx rfl (hb hby at_44) rfl) ?_
        show own_Go p e below _ (T2.setTop (mkF m 46 #[.val (.int xa), .val (.int xb), .val (.int xc), .val (.int xd), .val (.int (own_min xb xc)), .val (.int (own_max xb xc)), .val (.int (xd &&& (3 : Int32))), .unset, .unset, .unset] [(.int (own_max xb xc))]))
        refine own_by (fun _ => XS.iloadN X2.here hx rfl (hb hby at_46) rfl) ?_
        show own_Go p e below _ (T2.setTop (mkF m 47 #[.val (.int xa), .val (.int xb), .val (.int xc), .val (.int xd), .val (.int (own_min xb xc)), .val (.int (own_max xb xc)), .val (.int (xd &&& (3 : Int32))), .unset, .unset, .unset] [(.int xa), (.int (own_max xb xc))]))
        refine own_by (fun _ => XS.iconst X2.here hx rfl (hb hby at_47)) ?_
        show own_Go p e below _ (T2.setTop (mkF m 48 #[.val (.int xa), .val (.int xb), .val (.int xc), .val (.int xd), .val (.int (own_min xb xc)), .val (.int (own_max xb xc)), .val (.int (xd &&& (3 : Int32))), .unset, .unset, .unset] [(.int (3 : Int32)), (.int xa), (.int (own_max xb xc))]))
        refine own_by (fun _ => XS.iand X2.here hx rfl (hb hby at_48) rfl) ?_
        show own_Go p e below _ (T2.setTop (mkF m 49 #[.val (.int xa), .val (.int xb), .val (.int xc), .val (.int xd), .val (.int (own_min xb xc)), .val (.int (own_max xb xc)), .val (.int (xd &&& (3 : Int32))), .unset, .unset, .unset] [(.int (xa &&& (3 : Int32))), (.int (own_max xb xc))]))
        refine own_by (fun _ => XS.iconst X2.here hx rfl (hb hby at_49)) ?_
        show own_Go p e below _ (T2.setTop (mkF m 50 #[.val (.int xa), .val (.int xb), .val (.int xc), .val (.int xd), .val (.int (own_min xb xc)), .val (.int (own_max xb xc)), .val (.int (xd &&& (3 : Int32))), .unset, .unset, .unset] [(.int (1 : Int32)), (.int (xa &&& (3 : Int32))), (.int (own_max xb xc))]))
        refine own_by (fun _ => XS.isub X2.here hx rfl (hb hby at_50) rfl) ?_
        show own_Go p e below _ (T2.setTop (mkF m 51 #[.val (.int xa), .val (.int xb), .val (.int xc), .val (.int xd), .val (.int (own_min xb xc)), .val (.int (own_max xb xc)), .val (.int (xd &&& (3 : Int32))), .unset, .unset, .unset] [(.int ((xa &&& (3 : Int32)) - (1 : Int32))), (.int (own_max xb xc))]))
        refine own_by (fun _ => XS.iadd X2.here hx rfl (hb hby at_51) rfl) ?_
        show own_Go p e below _ (T2.setTop (mkF m 52 #[.val (.int xa), .val (.int xb), .val (.int xc), .val (.int xd), .val (.int (own_min xb xc)), .val (.int (own_max xb xc)), .val (.int (xd &&& (3 : Int32))), .unset, .unset, .unset] [(.int ((own_max xb xc) + ((xa &&& (3 : Int32)) - (1 : Int32))))]))
        refine own_by (fun _ => XS.istore X2.here hx rfl (hb hby at_52) rfl (l' := #[.val (.int xa), .val (.int xb), .val (.int xc), .val (.int xd), .val (.int (own_min xb xc)), .val (.int (own_max xb xc)), .val (.int (xd &&& (3 : Int32))), .val (.int ((own_max xb xc) + ((xa &&& (3 : Int32)) - (1 : Int32)))), .unset, .unset]) rfl) ?_
        show own_Go p e below _ (T2.setTop (mkF m 54 #[.val (.int xa), .val (.int xb), .val (.int xc), .val (.int xd), .val (.int (own_min xb xc)), .val (.int (own_max xb xc)), .val (.int (xd &&& (3 : Int32))), .val (.int ((own_max xb xc) + ((xa &&& (3 : Int32)) - (1 : Int32)))), .unset, .unset] []))
        refine own_by (fun _ => XS.goto X2.here hx rfl (pc0 := 54) (pc' := 60) rfl (hb hby at_54) (by decide) (by decide)) ?_
        show own_Go p e below _ (T2.setTop (mkF m 60 #[.val (.int xa), .val (.int xb), .val (.int xc), .val (.int xd), .val (.int (own_min xb xc)), .val (.int (own_max xb xc)), .val (.int (xd &&& (3 : Int32))), .val (.int ((own_max xb xc) + ((xa &&& (3 : Int32)) - (1 : Int32)))), .unset, .unset] []))
        exact J3 _ _ (by first | with_reducible rfl | simp only [if_neg hc22_4, if_pos hc41_5] | rfl) ⟨_, X2, N2, e2⟩
      ·
        skip
        refine own_by (fun _ => XS.icmpYes X2.here hx rfl (pc0 := 41) (pc' := 57) rfl (hb hby at_41) rfl (feq hc41_5).2 (by decide) (by decide)) ?_
        show own_Go p e below _ (T2.setTop (mkF m 57 #[.val (.int xa), .val (.int xb), .val (.int xc), .val (.int xd), .val (.int (own_min xb xc)), .val (.int (own_max xb xc)), .val (.int (xd &&& (3 : Int32))), .unset, .unset, .unset] []))
        refine own_by (fun _ => XS.iloadN X2.here hx rfl (hb hby at_57) rfl) ?_
        show own_Go p e below _ (T2.setTop (mkF m 58 #[.val (.int xa), .val (.int xb), .val (.int xc), .val (.int xd), .val (.int (own_min xb xc)), .val (.int (own_max xb xc)), .val (.int (xd &&& (3 : Int32))), .unset, .unset, .unset] [(.int xa)]))
        refine own_by (fun _ => XS.istore X2.here hx rfl (hb hby at_58) rfl (l' := #[.val (.int xa), .val (.int xb), .val (.int xc), .val (.int xd), .val (.int (own_min xb xc)), .val (.int (own_max xb xc)), .val (.int (xd &&& (3 : Int32))), .val (.int xa), .unset, .unset]) rfl) ?_
        show own_Go p e below _ (T2.setTop (mkF m 60 #[.val (.int xa), .val (.int xb), .val (.int xc), .val (.int xd), .val (.int (own_min xb xc)), .val (.int (own_max xb xc)), .val (.int (xd &&& (3 : Int32))), .val (.int xa), .unset, .unset] []))
        exact J3 _ _ (by first | with_reducible rfl | simp only [if_neg hc22_4, if_neg hc41_5] | rfl) ⟨_, X2, N2, e2⟩
  intro T3 v3_7 hv3_7 ⟨locs3, X3, N3, e3⟩
  show own_Go p e below _ (T3.setTop (mkF m 60 #[.val (.int xa), .val (.int xb), .val (.int xc), .val (.int xd), .val (.int (own_min xb xc)), .val (.int (own_max xb xc)), .val (.int (xd &&& (3 : Int32))), .val (.int v3_7), .unset, .unset] []))
  refine own_by (fun _ => XS.iload X3.here hx rfl (hb hby at_60) rfl) ?_
  show own_Go p e below _ (T3.setTop (mkF m 62 #[.val (.int xa), .val (.int xb), .val (.int xc), .val (.int xd), .val (.int (own_min xb xc)), .val (.int (own_max xb xc)), .val (.int (xd &&& (3 : Int32))), .val (.int v3_7), .unset, .unset] [(.int v3_7)]))
  refine own_by (fun _ => XS.iload X3.here hx rfl (hb hby at_62) rfl) ?_
  show own_Go p e below _ (T3.setTop (mkF m 64 #[.val (.int xa), .val (.int xb), .val (.int xc), .val (.int xd), .val (.int (own_min xb xc)), .val (.int (own_max xb xc)), .val (.int (xd &&& (3 : Int32))), .val (.int v3_7), .unset, .unset] [(.int (own_min xb xc)), (.int v3_7)]))
  by_cases hc64_6 : (own_min xb xc) < v3_7
  ·
    skip
    refine own_by (fun _ => XS.icmpNo X3.here hx rfl (hb hby at_64) rfl (tlt hc64_6).2.2.2) ?_
    show own_Go p e below _ (T3.setTop (mkF m 67 #[.val (.int xa), .val (.int xb), .val (.int xc), .val (.int xd), .val (.int (own_min xb xc)), .val (.int (own_max xb xc)), .val (.int (xd &&& (3 : Int32))), .val (.int v3_7), .unset, .unset] []))
    refine own_by (fun _ => XS.iconst X3.here hx rfl (hb hby at_67)) ?_
    show own_Go p e below _ (T3.setTop (mkF m 68 #[.val (.int xa), .val (.int xb), .val (.int xc), .val (.int xd), .val (.int (own_min xb xc)), .val (.int (own_max xb xc)), .val (.int (xd &&& (3 : Int32))), .val (.int v3_7), .unset, .unset] [(.int (1 : Int32))]))
    refine own_by (fun _ => XS.goto X3.here hx rfl (pc0 := 68) (pc' := 72) rfl (hb hby at_68) (by decide) (by decide)) ?_
    show own_Go p e below _ (T3.setTop (mkF m 72 #[.val (.int xa), .val (.int xb), .val (.int xc), .val (.int xd), .val (.int (own_min xb xc)), .val (.int (own_max xb xc)), .val (.int (xd &&& (3 : Int32))), .val (.int v3_7), .unset, .unset] [(.int (1 : Int32))]))
    refine own_by (fun _ => XS.iload X3.here hx rfl (hb hby at_72) rfl) ?_
    show own_Go p e below _ (T3.setTop (mkF m 74 #[.val (.int xa), .val (.int xb), .val (.int xc), .val (.int xd), .val (.int (own_min xb xc)), .val (.int (own_max xb xc)), .val (.int (xd &&& (3 : Int32))), .val (.int v3_7), .unset, .unset] [(.int v3_7), (.int (1 : Int32))]))
    refine own_by (fun _ => XS.iload X3.here hx rfl (hb hby at_74) rfl) ?_
    show own_Go p e below _ (T3.setTop (mkF m 76 #[.val (.int xa), .val (.int xb), .val (.int xc), .val (.int xd), .val (.int (own_min xb xc)), .val (.int (own_max xb xc)), .val (.int (xd &&& (3 : Int32))), .val (.int v3_7), .unset, .unset] [(.int (own_max xb xc)), (.int v3_7), (.int (1 : Int32))]))
    by_cases hc76_7 : (own_max xb xc) < v3_7
    ·
      skip
      refine own_by (fun _ => XS.icmpNo X3.here hx rfl (hb hby at_76) rfl (tlt hc76_7).2.2.2) ?_
      show own_Go p e below _ (T3.setTop (mkF m 79 #[.val (.int xa), .val (.int xb), .val (.int xc), .val (.int xd), .val (.int (own_min xb xc)), .val (.int (own_max xb xc)), .val (.int (xd &&& (3 : Int32))), .val (.int v3_7), .unset, .unset] [(.int (1 : Int32))]))
      refine own_by (fun _ => XS.iconst X3.here hx rfl (hb hby at_79)) ?_
      show own_Go p e below _ (T3.setTop (mkF m 80 #[.val (.int xa), .val (.int xb), .val (.int xc), .val (.int xd), .val (.int (own_min xb xc)), .val (.int (own_max xb xc)), .val (.int (xd &&& (3 : Int32))), .val (.int v3_7), .unset, .unset] [(.int (1 : Int32)), (.int (1 : Int32))]))
      refine own_by (fun _ => XS.goto X3.here hx rfl (pc0 := 80) (pc' := 84) rfl (hb hby at_80) (by decide) (by decide)) ?_
      show own_Go p e below _ (T3.setTop (mkF m 84 #[.val (.int xa), .val (.int xb), .val (.int xc), .val (.int xd), .val (.int (own_min xb xc)), .val (.int (own_max xb xc)), .val (.int (xd &&& (3 : Int32))), .val (.int v3_7), .unset, .unset] [(.int (1 : Int32)), (.int (1 : Int32))]))
      refine own_by (fun _ => XS.iadd X3.here hx rfl (hb hby at_84) rfl) ?_
      show own_Go p e below _ (T3.setTop (mkF m 85 #[.val (.int xa), .val (.int xb), .val (.int xc), .val (.int xd), .val (.int (own_min xb xc)), .val (.int (own_max xb xc)), .val (.int (xd &&& (3 : Int32))), .val (.int v3_7), .unset, .unset] [(.int (2 : Int32))]))
      refine own_by (fun _ => XS.istore X3.here hx rfl (hb hby at_85) rfl (l' := #[.val (.int xa), .val (.int xb), .val (.int xc), .val (.int xd), .val (.int (own_min xb xc)), .val (.int (own_max xb xc)), .val (.int (xd &&& (3 : Int32))), .val (.int v3_7), .val (.int (2 : Int32)), .unset]) rfl) ?_
      show own_Go p e below _ (T3.setTop (mkF m 87 #[.val (.int xa), .val (.int xb), .val (.int xc), .val (.int xd), .val (.int (own_min xb xc)), .val (.int (own_max xb xc)), .val (.int (xd &&& (3 : Int32))), .val (.int v3_7), .val (.int (2 : Int32)), .unset] []))
      refine own_by (fun _ => XS.iload X3.here hx rfl (hb hby at_87) rfl) ?_
      show own_Go p e below _ (T3.setTop (mkF m 89 #[.val (.int xa), .val (.int xb), .val (.int xc), .val (.int xd), .val (.int (own_min xb xc)), .val (.int (own_max xb xc)), .val (.int (xd &&& (3 : Int32))), .val (.int v3_7), .val (.int (2 : Int32)), .unset] [(.int v3_7)]))
      refine own_by (fun _ => XS.iload X3.here hx rfl (hb hby at_89) rfl) ?_
      show own_Go p e below _ (T3.setTop (mkF m 91 #[.val (.int xa), .val (.int xb), .val (.int xc), .val (.int xd), .val (.int (own_min xb xc)), .val (.int (own_max xb xc)), .val (.int (xd &&& (3 : Int32))), .val (.int v3_7), .val (.int (2 : Int32)), .unset] [(.int (own_min xb xc)), (.int v3_7)]))
      refine own_by (fun _ => XS.iload X3.here hx rfl (hb hby at_91) rfl) ?_
      show own_Go p e below _ (T3.setTop (mkF m 93 #[.val (.int xa), .val (.int xb), .val (.int xc), .val (.int xd), .val (.int (own_min xb xc)), .val (.int (own_max xb xc)), .val (.int (xd &&& (3 : Int32))), .val (.int v3_7), .val (.int (2 : Int32)), .unset] [(.int (own_max xb xc)), (.int (own_min xb xc)), (.int v3_7)]))
      obtain ⟨_, _, ⟨T8, L8, k8, n8⟩, -, X8, ⟨Lc8, hQ8, l8, y8, z8'⟩, st8⟩ := Jvm.LawKit.callS X3 hx (y := (⟨"com/example/delivery_queue/deliveryqueue/core/Change$ContentsForm", "of", "(III)Lcom/example/delivery_queue/deliveryqueue/core/Change$ContentsForm;"⟩ : MethodName)) hown (mvT hZ (hw _ (List.mem_of_getElem? (i := 7) rfl))) (mvT hZ (hw _ (List.mem_of_getElem? (i := 8) rfl))) (mvT hZ (hw _ (List.mem_of_getElem? (i := 9) rfl))) (mvT hZ (hw _ (List.mem_of_getElem? (i := 10) rfl))) (by decide) (backOf (W := 0) (own_rm3_2 l Z a0 hw [] v3_7 (own_min xb xc) (own_max xb xc) u2 h0 n0 Z0 pf2 hc64_6 hc76_7) hZ (hw _ (List.mem_of_getElem? (i := 10) rfl)) (hw _ (List.mem_of_getElem? (i := 9) rfl)) (by decide) (by decide)) (g := (mkF m 93 #[.val (.int xa), .val (.int xb), .val (.int xc), .val (.int xd), .val (.int (own_min xb xc)), .val (.int (own_max xb xc)), .val (.int (xd &&& (3 : Int32))), .val (.int v3_7), .val (.int (2 : Int32)), .unset] [(.int (own_max xb xc)), (.int (own_min xb xc)), (.int v3_7)])) rfl (by rw [hml]; rfl) (argsL := [(.int v3_7), (.int (own_min xb xc)), (.int (own_max xb xc))]) (rest := []) (lenOf own_pd1 rfl) rfl (by show 2 * 0 + _ ≤ _; exact Nat.le_of_eq rfl) (hb hby at_93) (fun _ _ => ⟨rfl, e3, (by decide : 0 + 0 ≤ _), (by decide : 0 + 0 ≤ _)⟩)
      dsimp only [Pt.U, Pt.locs, Pt.cells, Pt.slots] at X8 l8 y8 z8' st8 hQ8
      subst l8 y8 z8'
      obtain ⟨rfl, N8q, e8⟩ := hQ8
      have N8 := Fr.app N3 N8q
      refine own_by st8 ?_
      show own_Go p e below _ (T8.setTop (mkF m 96 #[.val (.int xa), .val (.int xb), .val (.int xc), .val (.int xd), .val (.int (own_min xb xc)), .val (.int (own_max xb xc)), .val (.int (xd &&& (3 : Int32))), .val (.int v3_7), .val (.int (2 : Int32)), .unset] [(.ref u2)]))
      refine own_by (fun _ => XS.astore X8.here hx rfl (hb hby at_96) rfl rfl (l' := #[.val (.int xa), .val (.int xb), .val (.int xc), .val (.int xd), .val (.int (own_min xb xc)), .val (.int (own_max xb xc)), .val (.int (xd &&& (3 : Int32))), .val (.int v3_7), .val (.int (2 : Int32)), .val (.ref u2)]) rfl) ?_
      show own_Go p e below _ (T8.setTop (mkF m 98 #[.val (.int xa), .val (.int xb), .val (.int xc), .val (.int xd), .val (.int (own_min xb xc)), .val (.int (own_max xb xc)), .val (.int (xd &&& (3 : Int32))), .val (.int v3_7), .val (.int (2 : Int32)), .val (.ref u2)] []))
      refine own_by (fun _ => XS.aload X8.here hx rfl (hb hby at_98) rfl rfl) ?_
      show own_Go p e below _ (T8.setTop (mkF m 100 #[.val (.int xa), .val (.int xb), .val (.int xc), .val (.int xd), .val (.int (own_min xb xc)), .val (.int (own_max xb xc)), .val (.int (xd &&& (3 : Int32))), .val (.int v3_7), .val (.int (2 : Int32)), .val (.ref u2)] [(.ref u2)]))
      obtain ⟨_, _, ⟨T9, L9, k9, n9⟩, -, X9, ⟨Lc9, hQ9, l9, y9, z9'⟩, st9⟩ := Jvm.LawKit.callS X8 hx (y := (⟨"com/example/delivery_queue/deliveryqueue/core/ContentsFormOfPinLaw", "rank", "(Lcom/example/delivery_queue/deliveryqueue/core/Change$ContentsForm;)I"⟩ : MethodName)) hown (mvT hZ (hw _ (List.mem_of_getElem? (i := 13) rfl))) (mvT hZ (hw _ (List.mem_of_getElem? (i := 14) rfl))) (mvT hZ (hw _ (List.mem_of_getElem? (i := 15) rfl))) (mvT hZ (hw _ (List.mem_of_getElem? (i := 16) rfl))) (by decide) (backOf (W := 0) (own_rm4_2 l Z a0 hw [] u0 u1 u2 h0 n0 Z0 pf0 pf1 pf2 (Ne.symm pn1) (Ne.symm pn2)) hZ (hw _ (List.mem_of_getElem? (i := 16) rfl)) (hw _ (List.mem_of_getElem? (i := 15) rfl)) (by decide) (by decide)) (g := (mkF m 100 #[.val (.int xa), .val (.int xb), .val (.int xc), .val (.int xd), .val (.int (own_min xb xc)), .val (.int (own_max xb xc)), .val (.int (xd &&& (3 : Int32))), .val (.int v3_7), .val (.int (2 : Int32)), .val (.ref u2)] [(.ref u2)])) rfl (by rw [hml]; rfl) (argsL := [(.ref u2)]) (rest := []) (lenOf own_pd2 rfl) rfl (by show 2 * 0 + _ ≤ _; exact Nat.le_of_eq rfl) (hb hby at_100) (fun _ _ => ⟨rfl, e8, (by decide : 0 + 0 ≤ _), (by decide : 0 + 0 ≤ _)⟩)
      dsimp only [Pt.U, Pt.locs, Pt.cells, Pt.slots] at X9 l9 y9 z9' st9 hQ9
      subst l9 y9 z9'
      obtain ⟨rfl, N9q, e9⟩ := hQ9
      have N9 := Fr.app N8 N9q
      refine own_by st9 ?_
      show own_Go p e below _ (T9.setTop (mkF m 103 #[.val (.int xa), .val (.int xb), .val (.int xc), .val (.int xd), .val (.int (own_min xb xc)), .val (.int (own_max xb xc)), .val (.int (xd &&& (3 : Int32))), .val (.int v3_7), .val (.int (2 : Int32)), .val (.ref u2)] [(.int (2 : Int32))]))
      refine own_by (fun _ => XS.iload X9.here hx rfl (hb hby at_103) rfl) ?_
      show own_Go p e below _ (T9.setTop (mkF m 105 #[.val (.int xa), .val (.int xb), .val (.int xc), .val (.int xd), .val (.int (own_min xb xc)), .val (.int (own_max xb xc)), .val (.int (xd &&& (3 : Int32))), .val (.int v3_7), .val (.int (2 : Int32)), .val (.ref u2)] [(.int (2 : Int32)), (.int (2 : Int32))]))
      refine own_by (fun _ => XS.icmpNo X9.here hx rfl (hb hby at_105) rfl (teq (by decide : (2 : Int32) = (2 : Int32))).2) ?_
      show own_Go p e below _ (T9.setTop (mkF m 108 #[.val (.int xa), .val (.int xb), .val (.int xc), .val (.int xd), .val (.int (own_min xb xc)), .val (.int (own_max xb xc)), .val (.int (xd &&& (3 : Int32))), .val (.int v3_7), .val (.int (2 : Int32)), .val (.ref u2)] []))
      refine own_by (fun _ => XS.iconst X9.here hx rfl (hb hby at_108)) ?_
      show own_Go p e below _ (T9.setTop (mkF m 109 #[.val (.int xa), .val (.int xb), .val (.int xc), .val (.int xd), .val (.int (own_min xb xc)), .val (.int (own_max xb xc)), .val (.int (xd &&& (3 : Int32))), .val (.int v3_7), .val (.int (2 : Int32)), .val (.ref u2)] [(.int (1 : Int32))]))
      refine own_by (fun _ => XS.goto X9.here hx rfl (pc0 := 109) (pc' := 113) rfl (hb hby at_109) (by decide) (by decide)) ?_
      show own_Go p e below _ (T9.setTop (mkF m 113 #[.val (.int xa), .val (.int xb), .val (.int xc), .val (.int xd), .val (.int (own_min xb xc)), .val (.int (own_max xb xc)), .val (.int (xd &&& (3 : Int32))), .val (.int v3_7), .val (.int (2 : Int32)), .val (.ref u2)] [(.int (1 : Int32))]))
      exact own_retZ X9 hx hlk e9 (by decide) hret (hb hby at_113) (by decide) (by decide) ⟨rfl, N9⟩
    ·
      skip
      refine own_by (fun _ => XS.icmpYes X3.here hx rfl (pc0 := 76) (pc' := 83) rfl (hb hby at_76) rfl (flt hc76_7).2.2.2 (by decide) (by decide)) ?_
      show own_Go p e below _ (T3.setTop (mkF m 83 #[.val (.int xa), .val (.int xb), .val (.int xc), .val (.int xd), .val (.int (own_min xb xc)), .val (.int (own_max xb xc)), .val (.int (xd &&& (3 : Int32))), .val (.int v3_7), .unset, .unset] [(.int (1 : Int32))]))
      refine own_by (fun _ => XS.iconst X3.here hx rfl (hb hby at_83)) ?_
      show own_Go p e below _ (T3.setTop (mkF m 84 #[.val (.int xa), .val (.int xb), .val (.int xc), .val (.int xd), .val (.int (own_min xb xc)), .val (.int (own_max xb xc)), .val (.int (xd &&& (3 : Int32))), .val (.int v3_7), .unset, .unset] [(.int (0 : Int32)), (.int (1 : Int32))]))
      refine own_by (fun _ => XS.iadd X3.here hx rfl (hb hby at_84) rfl) ?_
      show own_Go p e below _ (T3.setTop (mkF m 85 #[.val (.int xa), .val (.int xb), .val (.int xc), .val (.int xd), .val (.int (own_min xb xc)), .val (.int (own_max xb xc)), .val (.int (xd &&& (3 : Int32))), .val (.int v3_7), .unset, .unset] [(.int (1 : Int32))]))
      refine own_by (fun _ => XS.istore X3.here hx rfl (hb hby at_85) rfl (l' := #[.val (.int xa), .val (.int xb), .val (.int xc), .val (.int xd), .val (.int (own_min xb xc)), .val (.int (own_max xb xc)), .val (.int (xd &&& (3 : Int32))), .val (.int v3_7), .val (.int (1 : Int32)), .unset]) rfl) ?_
      show own_Go p e below _ (T3.setTop (mkF m 87 #[.val (.int xa), .val (.int xb), .val (.int xc), .val (.int xd), .val (.int (own_min xb xc)), .val (.int (own_max xb xc)), .val (.int (xd &&& (3 : Int32))), .val (.int v3_7), .val (.int (1 : Int32)), .unset] []))
      refine own_by (fun _ => XS.iload X3.here hx rfl (hb hby at_87) rfl) ?_
      show own_Go p e below _ (T3.setTop (mkF m 89 #[.val (.int xa), .val (.int xb), .val (.int xc), .val (.int xd), .val (.int (own_min xb xc)), .val (.int (own_max xb xc)), .val (.int (xd &&& (3 : Int32))), .val (.int v3_7), .val (.int (1 : Int32)), .unset] [(.int v3_7)]))
      refine own_by (fun _ => XS.iload X3.here hx rfl (hb hby at_89) rfl) ?_
      show own_Go p e below _ (T3.setTop (mkF m 91 #[.val (.int xa), .val (.int xb), .val (.int xc), .val (.int xd), .val (.int (own_min xb xc)), .val (.int (own_max xb xc)), .val (.int (xd &&& (3 : Int32))), .val (.int v3_7), .val (.int (1 : Int32)), .unset] [(.int (own_min xb xc)), (.int v3_7)]))
      refine own_by (fun _ => XS.iload X3.here hx rfl (hb hby at_91) rfl) ?_
      show own_Go p e below _ (T3.setTop (mkF m 93 #[.val (.int xa), .val (.int xb), .val (.int xc), .val (.int xd), .val (.int (own_min xb xc)), .val (.int (own_max xb xc)), .val (.int (xd &&& (3 : Int32))), .val (.int v3_7), .val (.int (1 : Int32)), .unset] [(.int (own_max xb xc)), (.int (own_min xb xc)), (.int v3_7)]))
      obtain ⟨_, _, ⟨T10, L10, k10, n10⟩, -, X10, ⟨Lc10, hQ10, l10, y10, z10'⟩, st10⟩ := Jvm.LawKit.callS X3 hx (y := (⟨"com/example/delivery_queue/deliveryqueue/core/Change$ContentsForm", "of", "(III)Lcom/example/delivery_queue/deliveryqueue/core/Change$ContentsForm;"⟩ : MethodName)) hown (mvT hZ (hw _ (List.mem_of_getElem? (i := 7) rfl))) (mvT hZ (hw _ (List.mem_of_getElem? (i := 8) rfl))) (mvT hZ (hw _ (List.mem_of_getElem? (i := 9) rfl))) (mvT hZ (hw _ (List.mem_of_getElem? (i := 10) rfl))) (by decide) (backOf (W := 0) (own_rm3_1 l Z a0 hw [] v3_7 (own_min xb xc) (own_max xb xc) u1 h0 n0 Z0 pf1 hc64_6 hc76_7) hZ (hw _ (List.mem_of_getElem? (i := 10) rfl)) (hw _ (List.mem_of_getElem? (i := 9) rfl)) (by decide) (by decide)) (g := (mkF m 93 #[.val (.int xa), .val (.int xb), .val (.int xc), .val (.int xd), .val (.int (own_min xb xc)), .val (.int (own_max xb xc)), .val (.int (xd &&& (3 : Int32))), .val (.int v3_7), .val (.int (1 : Int32)), .unset] [(.int (own_max xb xc)), (.int (own_min xb xc)), (.int v3_7)])) rfl (by rw [hml]; rfl) (argsL := [(.int v3_7), (.int (own_min xb xc)), (.int (own_max xb xc))]) (rest := []) (lenOf own_pd1 rfl) rfl (by show 2 * 0 + _ ≤ _; exact Nat.le_of_eq rfl) (hb hby at_93) (fun _ _ => ⟨rfl, e3, (by decide : 0 + 0 ≤ _), (by decide : 0 + 0 ≤ _)⟩)
      dsimp only [Pt.U, Pt.locs, Pt.cells, Pt.slots] at X10 l10 y10 z10' st10 hQ10
      subst l10 y10 z10'
      obtain ⟨rfl, N10q, e10⟩ := hQ10
      have N10 := Fr.app N3 N10q
      refine own_by st10 ?_
      show own_Go p e below _ (T10.setTop (mkF m 96 #[.val (.int xa), .val (.int xb), .val (.int xc), .val (.int xd), .val (.int (own_min xb xc)), .val (.int (own_max xb xc)), .val (.int (xd &&& (3 : Int32))), .val (.int v3_7), .val (.int (1 : Int32)), .unset] [(.ref u1)]))
      refine own_by (fun _ => XS.astore X10.here hx rfl (hb hby at_96) rfl rfl (l' := #[.val (.int xa), .val (.int xb), .val (.int xc), .val (.int xd), .val (.int (own_min xb xc)), .val (.int (own_max xb xc)), .val (.int (xd &&& (3 : Int32))), .val (.int v3_7), .val (.int (1 : Int32)), .val (.ref u1)]) rfl) ?_
      show own_Go p e below _ (T10.setTop (mkF m 98 #[.val (.int xa), .val (.int xb), .val (.int xc), .val (.int xd), .val (.int (own_min xb xc)), .val (.int (own_max xb xc)), .val (.int (xd &&& (3 : Int32))), .val (.int v3_7), .val (.int (1 : Int32)), .val (.ref u1)] []))
      refine own_by (fun _ => XS.aload X10.here hx rfl (hb hby at_98) rfl rfl) ?_
      show own_Go p e below _ (T10.setTop (mkF m 100 #[.val (.int xa), .val (.int xb), .val (.int xc), .val (.int xd), .val (.int (own_min xb xc)), .val (.int (own_max xb xc)), .val (.int (xd &&& (3 : Int32))), .val (.int v3_7), .val (.int (1 : Int32)), .val (.ref u1)] [(.ref u1)]))
      obtain ⟨_, _, ⟨T11, L11, k11, n11⟩, -, X11, ⟨Lc11, hQ11, l11, y11, z11'⟩, st11⟩ := Jvm.LawKit.callS X10 hx (y := (⟨"com/example/delivery_queue/deliveryqueue/core/ContentsFormOfPinLaw", "rank", "(Lcom/example/delivery_queue/deliveryqueue/core/Change$ContentsForm;)I"⟩ : MethodName)) hown (mvT hZ (hw _ (List.mem_of_getElem? (i := 13) rfl))) (mvT hZ (hw _ (List.mem_of_getElem? (i := 14) rfl))) (mvT hZ (hw _ (List.mem_of_getElem? (i := 15) rfl))) (mvT hZ (hw _ (List.mem_of_getElem? (i := 16) rfl))) (by decide) (backOf (W := 0) (own_rm4_1 l Z a0 hw [] u0 u1 h0 n0 Z0 pf0 pf1 (Ne.symm pn0)) hZ (hw _ (List.mem_of_getElem? (i := 16) rfl)) (hw _ (List.mem_of_getElem? (i := 15) rfl)) (by decide) (by decide)) (g := (mkF m 100 #[.val (.int xa), .val (.int xb), .val (.int xc), .val (.int xd), .val (.int (own_min xb xc)), .val (.int (own_max xb xc)), .val (.int (xd &&& (3 : Int32))), .val (.int v3_7), .val (.int (1 : Int32)), .val (.ref u1)] [(.ref u1)])) rfl (by rw [hml]; rfl) (argsL := [(.ref u1)]) (rest := []) (lenOf own_pd2 rfl) rfl (by show 2 * 0 + _ ≤ _; exact Nat.le_of_eq rfl) (hb hby at_100) (fun _ _ => ⟨rfl, e10, (by decide : 0 + 0 ≤ _), (by decide : 0 + 0 ≤ _)⟩)
      dsimp only [Pt.U, Pt.locs, Pt.cells, Pt.slots] at X11 l11 y11 z11' st11 hQ11
      subst l11 y11 z11'
      obtain ⟨rfl, N11q, e11⟩ := hQ11
      have N11 := Fr.app N10 N11q
      refine own_by st11 ?_
      show own_Go p e below _ (T11.setTop (mkF m 103 #[.val (.int xa), .val (.int xb), .val (.int xc), .val (.int xd), .val (.int (own_min xb xc)), .val (.int (own_max xb xc)), .val (.int (xd &&& (3 : Int32))), .val (.int v3_7), .val (.int (1 : Int32)), .val (.ref u1)] [(.int (1 : Int32))]))
      refine own_by (fun _ => XS.iload X11.here hx rfl (hb hby at_103) rfl) ?_
      show own_Go p e below _ (T11.setTop (mkF m 105 #[.val (.int xa), .val (.int xb), .val (.int xc), .val (.int xd), .val (.int (own_min xb xc)), .val (.int (own_max xb xc)), .val (.int (xd &&& (3 : Int32))), .val (.int v3_7), .val (.int (1 : Int32)), .val (.ref u1)] [(.int (1 : Int32)), (.int (1 : Int32))]))
      refine own_by (fun _ => XS.icmpNo X11.here hx rfl (hb hby at_105) rfl (teq (by decide : (1 : Int32) = (1 : Int32))).2) ?_
      show own_Go p e below _ (T11.setTop (mkF m 108 #[.val (.int xa), .val (.int xb), .val (.int xc), .val (.int xd), .val (.int (own_min xb xc)), .val (.int (own_max xb xc)), .val (.int (xd &&& (3 : Int32))), .val (.int v3_7), .val (.int (1 : Int32)), .val (.ref u1)] []))
      refine own_by (fun _ => XS.iconst X11.here hx rfl (hb hby at_108)) ?_
      show own_Go p e below _ (T11.setTop (mkF m 109 #[.val (.int xa), .val (.int xb), .val (.int xc), .val (.int xd), .val (.int (own_min xb xc)), .val (.int (own_max xb xc)), .val (.int (xd &&& (3 : Int32))), .val (.int v3_7), .val (.int (1 : Int32)), .val (.ref u1)] [(.int (1 : Int32))]))
      refine own_by (fun _ => XS.goto X11.here hx rfl (pc0 := 109) (pc' := 113) rfl (hb hby at_109) (by decide) (by decide)) ?_
      show own_Go p e below _ (T11.setTop (mkF m 113 #[.val (.int xa), .val (.int xb), .val (.int xc), .val (.int xd), .val (.int (own_min xb xc)), .val (.int (own_max xb xc)), .val (.int (xd &&& (3 : Int32))), .val (.int v3_7), .val (.int (1 : Int32)), .val (.ref u1)] [(.int (1 : Int32))]))
      exact own_retZ X11 hx hlk e11 (by decide) hret (hb hby at_113) (by decide) (by decide) ⟨rfl, N11⟩
  ·
    skip
    refine own_by (fun _ => XS.icmpYes X3.here hx rfl (pc0 := 64) (pc' := 71) rfl (hb hby at_64) rfl (flt hc64_6).2.2.2 (by decide) (by decide)) ?_
    show own_Go p e below _ (T3.setTop (mkF m 71 #[.val (.int xa), .val (.int xb), .val (.int xc), .val (.int xd), .val (.int (own_min xb xc)), .val (.int (own_max xb xc)), .val (.int (xd &&& (3 : Int32))), .val (.int v3_7), .unset, .unset] []))
    refine own_by (fun _ => XS.iconst X3.here hx rfl (hb hby at_71)) ?_
    show own_Go p e below _ (T3.setTop (mkF m 72 #[.val (.int xa), .val (.int xb), .val (.int xc), .val (.int xd), .val (.int (own_min xb xc)), .val (.int (own_max xb xc)), .val (.int (xd &&& (3 : Int32))), .val (.int v3_7), .unset, .unset] [(.int (0 : Int32))]))
    refine own_by (fun _ => XS.iload X3.here hx rfl (hb hby at_72) rfl) ?_
    show own_Go p e below _ (T3.setTop (mkF m 74 #[.val (.int xa), .val (.int xb), .val (.int xc), .val (.int xd), .val (.int (own_min xb xc)), .val (.int (own_max xb xc)), .val (.int (xd &&& (3 : Int32))), .val (.int v3_7), .unset, .unset] [(.int v3_7), (.int (0 : Int32))]))
    refine own_by (fun _ => XS.iload X3.here hx rfl (hb hby at_74) rfl) ?_
    show own_Go p e below _ (T3.setTop (mkF m 76 #[.val (.int xa), .val (.int xb), .val (.int xc), .val (.int xd), .val (.int (own_min xb xc)), .val (.int (own_max xb xc)), .val (.int (xd &&& (3 : Int32))), .val (.int v3_7), .unset, .unset] [(.int (own_max xb xc)), (.int v3_7), (.int (0 : Int32))]))
    refine own_by (fun _ => XS.icmpYes X3.here hx rfl (pc0 := 76) (pc' := 83) rfl (hb hby at_76) rfl (flt (own_mm hc64_6)).2.2.2 (by decide) (by decide)) ?_
    show own_Go p e below _ (T3.setTop (mkF m 83 #[.val (.int xa), .val (.int xb), .val (.int xc), .val (.int xd), .val (.int (own_min xb xc)), .val (.int (own_max xb xc)), .val (.int (xd &&& (3 : Int32))), .val (.int v3_7), .unset, .unset] [(.int (0 : Int32))]))
    refine own_by (fun _ => XS.iconst X3.here hx rfl (hb hby at_83)) ?_
    show own_Go p e below _ (T3.setTop (mkF m 84 #[.val (.int xa), .val (.int xb), .val (.int xc), .val (.int xd), .val (.int (own_min xb xc)), .val (.int (own_max xb xc)), .val (.int (xd &&& (3 : Int32))), .val (.int v3_7), .unset, .unset] [(.int (0 : Int32)), (.int (0 : Int32))]))
    refine own_by (fun _ => XS.iadd X3.here hx rfl (hb hby at_84) rfl) ?_
    show own_Go p e below _ (T3.setTop (mkF m 85 #[.val (.int xa), .val (.int xb), .val (.int xc), .val (.int xd), .val (.int (own_min xb xc)), .val (.int (own_max xb xc)), .val (.int (xd &&& (3 : Int32))), .val (.int v3_7), .unset, .unset] [(.int (0 : Int32))]))
    refine own_by (fun _ => XS.istore X3.here hx rfl (hb hby at_85) rfl (l' := #[.val (.int xa), .val (.int xb), .val (.int xc), .val (.int xd), .val (.int (own_min xb xc)), .val (.int (own_max xb xc)), .val (.int (xd &&& (3 : Int32))), .val (.int v3_7), .val (.int (0 : Int32)), .unset]) rfl) ?_
    show own_Go p e below _ (T3.setTop (mkF m 87 #[.val (.int xa), .val (.int xb), .val (.int xc), .val (.int xd), .val (.int (own_min xb xc)), .val (.int (own_max xb xc)), .val (.int (xd &&& (3 : Int32))), .val (.int v3_7), .val (.int (0 : Int32)), .unset] []))
    refine own_by (fun _ => XS.iload X3.here hx rfl (hb hby at_87) rfl) ?_
    show own_Go p e below _ (T3.setTop (mkF m 89 #[.val (.int xa), .val (.int xb), .val (.int xc), .val (.int xd), .val (.int (own_min xb xc)), .val (.int (own_max xb xc)), .val (.int (xd &&& (3 : Int32))), .val (.int v3_7), .val (.int (0 : Int32)), .unset] [(.int v3_7)]))
    refine own_by (fun _ => XS.iload X3.here hx rfl (hb hby at_89) rfl) ?_
    show own_Go p e below _ (T3.setTop (mkF m 91 #[.val (.int xa), .val (.int xb), .val (.int xc), .val (.int xd), .val (.int (own_min xb xc)), .val (.int (own_max xb xc)), .val (.int (xd &&& (3 : Int32))), .val (.int v3_7), .val (.int (0 : Int32)), .unset] [(.int (own_min xb xc)), (.int v3_7)]))
    refine own_by (fun _ => XS.iload X3.here hx rfl (hb hby at_91) rfl) ?_
    show own_Go p e below _ (T3.setTop (mkF m 93 #[.val (.int xa), .val (.int xb), .val (.int xc), .val (.int xd), .val (.int (own_min xb xc)), .val (.int (own_max xb xc)), .val (.int (xd &&& (3 : Int32))), .val (.int v3_7), .val (.int (0 : Int32)), .unset] [(.int (own_max xb xc)), (.int (own_min xb xc)), (.int v3_7)]))
    obtain ⟨_, _, ⟨T12, L12, k12, n12⟩, -, X12, ⟨Lc12, hQ12, l12, y12, z12'⟩, st12⟩ := Jvm.LawKit.callS X3 hx (y := (⟨"com/example/delivery_queue/deliveryqueue/core/Change$ContentsForm", "of", "(III)Lcom/example/delivery_queue/deliveryqueue/core/Change$ContentsForm;"⟩ : MethodName)) hown (mvT hZ (hw _ (List.mem_of_getElem? (i := 7) rfl))) (mvT hZ (hw _ (List.mem_of_getElem? (i := 8) rfl))) (mvT hZ (hw _ (List.mem_of_getElem? (i := 9) rfl))) (mvT hZ (hw _ (List.mem_of_getElem? (i := 10) rfl))) (by decide) (backOf (W := 0) (own_rm3_0 l Z a0 hw [] v3_7 (own_min xb xc) (own_max xb xc) u0 h0 n0 Z0 pf0 hc64_6) hZ (hw _ (List.mem_of_getElem? (i := 10) rfl)) (hw _ (List.mem_of_getElem? (i := 9) rfl)) (by decide) (by decide)) (g := (mkF m 93 #[.val (.int xa), .val (.int xb), .val (.int xc), .val (.int xd), .val (.int (own_min xb xc)), .val (.int (own_max xb xc)), .val (.int (xd &&& (3 : Int32))), .val (.int v3_7), .val (.int (0 : Int32)), .unset] [(.int (own_max xb xc)), (.int (own_min xb xc)), (.int v3_7)])) rfl (by rw [hml]; rfl) (argsL := [(.int v3_7), (.int (own_min xb xc)), (.int (own_max xb xc))]) (rest := []) (lenOf own_pd1 rfl) rfl (by show 2 * 0 + _ ≤ _; exact Nat.le_of_eq rfl) (hb hby at_93) (fun _ _ => ⟨rfl, e3, (by decide : 0 + 0 ≤ _), (by decide : 0 + 0 ≤ _)⟩)
    dsimp only [Pt.U, Pt.locs, Pt.cells, Pt.slots] at X12 l12 y12 z12' st12 hQ12
    subst l12 y12 z12'
    obtain ⟨rfl, N12q, e12⟩ := hQ12
    have N12 := Fr.app N3 N12q
    refine own_by st12 ?_
    show own_Go p e below _ (T12.setTop (mkF m 96 #[.val (.int xa), .val (.int xb), .val (.int xc), .val (.int xd), .val (.int (own_min xb xc)), .val (.int (own_max xb xc)), .val (.int (xd &&& (3 : Int32))), .val (.int v3_7), .val (.int (0 : Int32)), .unset] [(.ref u0)]))
    refine own_by (fun _ => XS.astore X12.here hx rfl (hb hby at_96) rfl rfl (l' := #[.val (.int xa), .val (.int xb), .val (.int xc), .val (.int xd), .val (.int (own_min xb xc)), .val (.int (own_max xb xc)), .val (.int (xd &&& (3 : Int32))), .val (.int v3_7), .val (.int (0 : Int32)), .val (.ref u0)]) rfl) ?_
    show own_Go p e below _ (T12.setTop (mkF m 98 #[.val (.int xa), .val (.int xb), .val (.int xc), .val (.int xd), .val (.int (own_min xb xc)), .val (.int (own_max xb xc)), .val (.int (xd &&& (3 : Int32))), .val (.int v3_7), .val (.int (0 : Int32)), .val (.ref u0)] []))
    refine own_by (fun _ => XS.aload X12.here hx rfl (hb hby at_98) rfl rfl) ?_
    show own_Go p e below _ (T12.setTop (mkF m 100 #[.val (.int xa), .val (.int xb), .val (.int xc), .val (.int xd), .val (.int (own_min xb xc)), .val (.int (own_max xb xc)), .val (.int (xd &&& (3 : Int32))), .val (.int v3_7), .val (.int (0 : Int32)), .val (.ref u0)] [(.ref u0)]))
    obtain ⟨_, _, ⟨T13, L13, k13, n13⟩, -, X13, ⟨Lc13, hQ13, l13, y13, z13'⟩, st13⟩ := Jvm.LawKit.callS X12 hx (y := (⟨"com/example/delivery_queue/deliveryqueue/core/ContentsFormOfPinLaw", "rank", "(Lcom/example/delivery_queue/deliveryqueue/core/Change$ContentsForm;)I"⟩ : MethodName)) hown (mvT hZ (hw _ (List.mem_of_getElem? (i := 13) rfl))) (mvT hZ (hw _ (List.mem_of_getElem? (i := 14) rfl))) (mvT hZ (hw _ (List.mem_of_getElem? (i := 15) rfl))) (mvT hZ (hw _ (List.mem_of_getElem? (i := 16) rfl))) (by decide) (backOf (W := 0) (own_rm4_0 l Z a0 hw [] u0 h0 n0 Z0 pf0) hZ (hw _ (List.mem_of_getElem? (i := 16) rfl)) (hw _ (List.mem_of_getElem? (i := 15) rfl)) (by decide) (by decide)) (g := (mkF m 100 #[.val (.int xa), .val (.int xb), .val (.int xc), .val (.int xd), .val (.int (own_min xb xc)), .val (.int (own_max xb xc)), .val (.int (xd &&& (3 : Int32))), .val (.int v3_7), .val (.int (0 : Int32)), .val (.ref u0)] [(.ref u0)])) rfl (by rw [hml]; rfl) (argsL := [(.ref u0)]) (rest := []) (lenOf own_pd2 rfl) rfl (by show 2 * 0 + _ ≤ _; exact Nat.le_of_eq rfl) (hb hby at_100) (fun _ _ => ⟨rfl, e12, (by decide : 0 + 0 ≤ _), (by decide : 0 + 0 ≤ _)⟩)
    dsimp only [Pt.U, Pt.locs, Pt.cells, Pt.slots] at X13 l13 y13 z13' st13 hQ13
    subst l13 y13 z13'
    obtain ⟨rfl, N13q, e13⟩ := hQ13
    have N13 := Fr.app N12 N13q
    refine own_by st13 ?_
    show own_Go p e below _ (T13.setTop (mkF m 103 #[.val (.int xa), .val (.int xb), .val (.int xc), .val (.int xd), .val (.int (own_min xb xc)), .val (.int (own_max xb xc)), .val (.int (xd &&& (3 : Int32))), .val (.int v3_7), .val (.int (0 : Int32)), .val (.ref u0)] [(.int (0 : Int32))]))
    refine own_by (fun _ => XS.iload X13.here hx rfl (hb hby at_103) rfl) ?_
    show own_Go p e below _ (T13.setTop (mkF m 105 #[.val (.int xa), .val (.int xb), .val (.int xc), .val (.int xd), .val (.int (own_min xb xc)), .val (.int (own_max xb xc)), .val (.int (xd &&& (3 : Int32))), .val (.int v3_7), .val (.int (0 : Int32)), .val (.ref u0)] [(.int (0 : Int32)), (.int (0 : Int32))]))
    refine own_by (fun _ => XS.icmpNo X13.here hx rfl (hb hby at_105) rfl (teq (by decide : (0 : Int32) = (0 : Int32))).2) ?_
    show own_Go p e below _ (T13.setTop (mkF m 108 #[.val (.int xa), .val (.int xb), .val (.int xc), .val (.int xd), .val (.int (own_min xb xc)), .val (.int (own_max xb xc)), .val (.int (xd &&& (3 : Int32))), .val (.int v3_7), .val (.int (0 : Int32)), .val (.ref u0)] []))
    refine own_by (fun _ => XS.iconst X13.here hx rfl (hb hby at_108)) ?_
    show own_Go p e below _ (T13.setTop (mkF m 109 #[.val (.int xa), .val (.int xb), .val (.int xc), .val (.int xd), .val (.int (own_min xb xc)), .val (.int (own_max xb xc)), .val (.int (xd &&& (3 : Int32))), .val (.int v3_7), .val (.int (0 : Int32)), .val (.ref u0)] [(.int (1 : Int32))]))
    refine own_by (fun _ => XS.goto X13.here hx rfl (pc0 := 109) (pc' := 113) rfl (hb hby at_109) (by decide) (by decide)) ?_
    show own_Go p e below _ (T13.setTop (mkF m 113 #[.val (.int xa), .val (.int xb), .val (.int xc), .val (.int xd), .val (.int (own_min xb xc)), .val (.int (own_max xb xc)), .val (.int (xd &&& (3 : Int32))), .val (.int v3_7), .val (.int (0 : Int32)), .val (.ref u0)] [(.int (1 : Int32))]))
    exact own_retZ X13 hx hlk e13 (by decide) hret (hb hby at_113) (by decide) (by decide) ⟨rfl, N13⟩

theorem own_eqi {args : Array Value} {s : State} {A : Jvm.Term} {k : Int32} (h : (Jvm.Cond.eq A (Jvm.Term.int k)).value args s none s [] = some true) : A.eval args s none [] s = some (.int k) := by
  have e : (Jvm.Term.int k).eval args s none [] s = some (.int k) := rfl
  obtain ⟨v, y, ha, hb, kin, -⟩ := cmp_v (Or.inl h)
  cases e.symm.trans hb
  simp only [Cond.value, ha, e] at h
  cases v <;> simp_all [Kin, Value.isRef]
theorem own_start {args : Array Value} {s : State} (hw : ∀ d ∈ tables_1, d.before args s = true) (hn : narrow_1.value args s none s [] = some true) :
    ∃ u0 u1 u2 : Addr, Sta s s.heap "com/example/delivery_queue/deliveryqueue/core/Change$ContentsForm" "UNATTRIBUTED" "Lcom/example/delivery_queue/deliveryqueue/core/Change$ContentsForm;" (.ref u0) ∧ Sta s s.heap "com/example/delivery_queue/deliveryqueue/core/Change$ContentsForm" "UNTRACED" "Lcom/example/delivery_queue/deliveryqueue/core/Change$ContentsForm;" (.ref u1) ∧ Sta s s.heap "com/example/delivery_queue/deliveryqueue/core/Change$ContentsForm" "WHOLE" "Lcom/example/delivery_queue/deliveryqueue/core/Change$ContentsForm;" (.ref u2) ∧ u0 ≠ u1 ∧ u0 ≠ u2 ∧ u1 ≠ u2 := by
  obtain ⟨e0, r1⟩ := and_e hn
  obtain ⟨e2, r2⟩ := and_e r1
  obtain ⟨o2, r3⟩ := and_e r2
  obtain ⟨o0, r4⟩ := and_e r3
  obtain ⟨e1, o1⟩ := and_e r4
  obtain ⟨u0, ev0⟩ := exa_v e0
  obtain ⟨u1, ev1⟩ := exa_v e1
  obtain ⟨u2, ev2⟩ := exa_v e2
  have f0 := Fld.start ((fld_at ev0).symm.trans (own_eqi o0))
  have f1 := Fld.start ((fld_at ev1).symm.trans (own_eqi o1))
  have f2 := Fld.start ((fld_at ev2).symm.trans (own_eqi o2))
  exact ⟨u0, u1, u2, Sta.start ev0 (Or.inr ⟨(hw _ (List.mem_of_getElem? (i := 9) rfl)), (hw _ (List.mem_of_getElem? (i := 12) rfl))⟩), Sta.start ev1 (Or.inr ⟨(hw _ (List.mem_of_getElem? (i := 9) rfl)), (hw _ (List.mem_of_getElem? (i := 21) rfl))⟩), Sta.start ev2 (Or.inr ⟨(hw _ (List.mem_of_getElem? (i := 9) rfl)), (hw _ (List.mem_of_getElem? (i := 19) rfl))⟩), Fld.ne f0 f1 (by decide), Fld.ne f0 f2 (by decide), Fld.ne f1 f2 (by decide)⟩

theorem own_comes {Post : Tables → Env → Array Value → State → Outcome → State → Prop} (hpost : ∀ tb e args s v u, (limb_1_1.after args s (.returned v) u = true ∧ limb_1_2.after args s (.returned v) u = true ∧ True) → FrameEnd s (.returned v) u (Jvm.fieldLocs frame_1_writes args s ++ Jvm.arrayLocs frame_1_arrays args s ++ Jvm.staticLocs frame_1_statics s) 0 0 → Post tb e args s (.returned v) u) :
    ArmFor flags0 classFile x code maxLocals ret World_1 tables_1 room_1 Calls_1 rest_1 Pre_1 Post := by
  intro l hfl _ _ p e ha hc hk s m args below hf hA hF happ hP
  obtain ⟨hcalls, hrest, hpre⟩ := hP
  obtain ⟨-, -, -, hnamed, -, -, -, hat⟩ := (Spec.applies_iff hf).mp happ
  obtain ⟨hg, hn⟩ := and_e (Cond.before_iff.mp (show (Jvm.Cond.and given_1 narrow_1).before args s = true from hpre))
  obtain ⟨hg1, hg2⟩ := and_e hg
  obtain ⟨hg3, hg4⟩ := and_e hg2
  obtain ⟨hg5, hg6⟩ := and_e hg4
  obtain ⟨hg7, hg8⟩ := and_e hg6
  obtain ⟨w0, w1, w2, w3, rfl⟩ : ∃ w0 w1 w2 w3 : Value, args = #[w0, w1, w2, w3] := by
    have hs : args.size = 4 := by simpa [Cond.value, given_1] using hg1
    obtain ⟨L⟩ := args
    match L, hs with
    | [w0, w1, w2, w3], _ => exact ⟨w0, w1, w2, w3, rfl⟩
  have hw := fun d (hd : d ∈ tables_1) => atoms_spec (ws := Jvm.Cond.code x code maxLocals ret :: tables_1) hat d (List.mem_cons_of_mem _ hd)
  have hfit : Fit s := fun {y c} hc i hi => by
    obtain ⟨ha, rfl⟩ := Array.getElem?_eq_some_iff.mp hc
    have q := List.all_eq_true.mp ((Array.all_eq_true_iff_forall_mem.mp hF) _ (Array.getElem_mem ha)) i (List.mem_range.mpr hi)
    simpa [Array.getElem?_eq_getElem hi] using q
  obtain ⟨i0, ei0⟩ := is_v hg3
  obtain rfl : w0 = (.int i0) := Option.some.inj ei0
  obtain ⟨i1, ei1⟩ := is_v hg5
  obtain rfl : w1 = (.int i1) := Option.some.inj ei1
  obtain ⟨i2, ei2⟩ := is_v hg7
  obtain rfl : w2 = (.int i2) := Option.some.inj ei2
  obtain ⟨i3, ei3⟩ := is_v hg8
  obtain rfl : w3 = (.int i3) := Option.some.inj ei3
  obtain ⟨u0, u1, u2, t0, t1, t2, n1, n2, n3⟩ := own_start hw hn
  obtain ⟨n, o, h1, h2, h3, _, L, rfl, ⟨rfl, N⟩, hq⟩ := own_rm0 l s _ hw tables_1 i0 i1 i2 i3 u0 u1 u2 s.heap s.heap.size (Nat.le_refl _) t0 t1 t2 n1 n2 n3 p e ha hc hk s m _ below hf ((Spec.applies_iff_loose hf).mp happ).1 ⟨rfl, State.Warmed39.refl s, rfl⟩ trivial
  refine ⟨n, _, h1, h2, h3, hpost _ _ _ _ _ _ ⟨Cond.after_iff.mpr rfl, Cond.after_iff.mpr (eq_i res_at (Term.int_eval (1)) rfl), trivial⟩ ⟨hq.1, hq.2.1, (hq.2.2.sift fun y hy => Or.inr (N y hy)).mono (by decide) (by decide)⟩⟩
theorem main_1_1 : Claimed_1_1 := own_comes fun _ _ _ _ _ _ h hF => ⟨h.1, hF⟩
theorem main_1_2 : Claimed_1_2 := own_comes fun _ _ _ _ _ _ h hF => ⟨h.2.1, hF⟩
end Jvm.Pilot.@@N@@
namespace Jvm.Pilot.@@N@@
open Jvm Jvm.ClassFile Sem Op Lib Jvm.Free Jvm.Stand Jvm.Pilot.@@N@@.Jvm.D
/-! MADE BY PROGRAM (witnessworld.py) out of the Statement's table words and the real class files: 13 classes; the members and pool entries that the words name. The judged class is class 1, her method 2. -/
namespace start1
open Jvm.ClassFile
def u (s : String) : CpInfo := .utf8 (stringToUtf16 s)
/-- a pool by its gaps: so many unusable entries, then the entry; so many at the end -/
def gap : Nat → List CpInfo → List CpInfo
  | 0, r => r
  | n + 1, r => .unusable :: gap n r
def poolList (es : List (Nat × CpInfo)) (last : Nat) : List CpInfo := es.foldr (fun e r => gap e.1 (e.2 :: r)) (gap last [])
def pool (es : List (Nat × CpInfo)) (last : Nat) : Array CpInfo := ⟨poolList es last⟩
def fileOf (pool : Array CpInfo) (this : Nat) (attrs : Array Attribute := #[]) (ms : Array MethodInfo := #[]) (fl : Nat := 33) (sup : Nat := 0) (ifs : Array Nat := #[]) (fds : Array FieldInfo := #[]) : ClassFile where
  minorVersion := 0
  majorVersion := 65
  constantPool := pool
  accessFlags := fl
  thisClass := this
  superClass := sup
  interfaces := ifs
  fields := fds
  methods := ms
  attributes := attrs
def plain (name : String) (sup : Option ClassId) : Class where
  name := name
  kind := .ordinary
  loader := none
  accessFlags := 33
  super := sup
  interfaces := #[]
  cf := none
  fields := #[]
  methods := #[]
  instanceTypes := #[]
  staticTypes := #[]
  resolved := #[]
  callSites := []
  init := .initialized
  statics := none
  mirror := none

def pool0 : Array CpInfo := pool [(5, u "<init>"), (0, u "()V"), (1, .class_ 10), (1, u "java/lang/Object")] 113

def k0m0 : Method := { name := "<init>", desc := "()V", sig := { parameters := [], returnType := none }, accessFlags := 1, code := none }
/-- java/lang/Object -/
def k0 : Class := { plain "java/lang/Object" none with
  accessFlags := 33
  interfaces := #[]
  cf := some (fileOf pool0 8 #[] #[{ accessFlags := 1, nameIndex := 5, descriptorIndex := 6, attributes := #[] }] 33 0 #[] #[])
  fields := #[]
  methods := #[k0m0]
  instanceTypes := #[]
  staticTypes := #[]
  resolved := Array.replicate 124 none
  statics := none }

def pool1 : Array CpInfo := pool [(2, .class_ 4), (1, u "java/lang/Object"), (0, u "<init>"), (0, u "()V"), (0, .fieldref 8 9), (0, .class_ 10), (0, .nameAndType 11 12), (0, u "com/example/delivery_queue/deliveryqueue/core/Change$ContentsForm"), (0, u "UNATTRIBUTED"), (0, u "Lcom/example/delivery_queue/deliveryqueue/core/Change$ContentsForm;"), (0, .fieldref 8 14), (0, .nameAndType 15 12), (0, u "UNTRACED"), (0, .fieldref 8 17), (0, .nameAndType 18 12), (0, u "WHOLE"), (0, .methodref 20 21), (0, .class_ 22), (0, .nameAndType 23 24), (0, u "java/lang/Math"), (0, u "min"), (0, u "(II)I"), (0, .methodref 20 26), (0, .nameAndType 27 24), (0, u "max"), (0, .methodref 8 29), (0, .nameAndType 30 31), (0, u "of"), (0, u "(III)Lcom/example/delivery_queue/deliveryqueue/core/Change$ContentsForm;"), (0, .methodref 33 34), (0, .class_ 35), (0, .nameAndType 36 37), (0, u "com/example/delivery_queue/deliveryqueue/core/ContentsFormOfPinLaw"), (0, u "rank"), (0, u "(Lcom/example/delivery_queue/deliveryqueue/core/Change$ContentsForm;)I"), (3, u "law"), (0, u "(IIII)Z")] 6

def k1m0 : Method := { name := "<init>", desc := "()V", sig := { parameters := [], returnType := none }, accessFlags := 2, code := none }
def k1c1 : Code := { maxStack := 2, maxLocals := 1, code := method_2_code, exceptionTable := #[], attributes := #[] }
def k1m1 : Method := { name := "rank", desc := "(Lcom/example/delivery_queue/deliveryqueue/core/Change$ContentsForm;)I", sig := { parameters := [(.object "com/example/delivery_queue/deliveryqueue/core/Change$ContentsForm")], returnType := some .int }, accessFlags := 10, code := some k1c1 }
def k1c2 : Code := { maxStack := 3, maxLocals := 10, code := code, exceptionTable := #[], attributes := #[] }
def k1m2 : Method := { name := "law", desc := "(IIII)Z", sig := { parameters := [.int, .int, .int, .int], returnType := some .boolean }, accessFlags := 9, code := some k1c2 }
/-- com/example/delivery_queue/deliveryqueue/core/ContentsFormOfPinLaw -/
def k1 : Class := { plain "com/example/delivery_queue/deliveryqueue/core/ContentsFormOfPinLaw" (some 0) with
  accessFlags := 49
  interfaces := #[]
  cf := some (fileOf pool1 33 #[] #[{ accessFlags := 2, nameIndex := 5, descriptorIndex := 6, attributes := #[] }, { accessFlags := 10, nameIndex := 36, descriptorIndex := 37, attributes := #[] }, { accessFlags := 9, nameIndex := 41, descriptorIndex := 42, attributes := #[] }] 49 2 #[] #[])
  fields := #[]
  methods := #[k1m0, k1m1, k1m2]
  instanceTypes := #[]
  staticTypes := #[]
  resolved := Array.replicate 49 none
  statics := none }

def pool2 : Array CpInfo := pool [(1, .class_ 2), (0, u "java/lang/Math"), (1, .class_ 6), (1, u "java/lang/Object"), (0, u "<init>"), (0, u "()V"), (89, .class_ 100), (1, u "java/lang/Math$RandomNumberGeneratorHolder"), (71, u "negativeZeroFloatBits"), (0, u "J"), (2, u "negativeZeroDoubleBits"), (21, u "max"), (2, u "min"), (43, u "$assertionsDisabled"), (0, u "Z"), (88, u "(II)I"), (2, u "twoToTheDoubleScaleDown"), (0, u "D"), (4, u "twoToTheDoubleScaleUp"), (9, u "E"), (3, u "PI"), (2, u "TAU"), (2, u "DEGREES_TO_RADIANS"), (0, u "RADIANS_TO_DEGREES")] 94

def k2m0 : Method := { name := "<init>", desc := "()V", sig := { parameters := [], returnType := none }, accessFlags := 2, code := none }
def k2c1 : Code := { maxStack := 2, maxLocals := 2, code := jdk_29_method_65_code, exceptionTable := #[], attributes := #[] }
def k2m1 : Method := { name := "max", desc := "(II)I", sig := { parameters := [.int, .int], returnType := some .int }, accessFlags := 9, code := some k2c1 }
def k2c2 : Code := { maxStack := 2, maxLocals := 2, code := jdk_29_method_69_code, exceptionTable := #[], attributes := #[] }
def k2m2 : Method := { name := "min", desc := "(II)I", sig := { parameters := [.int, .int], returnType := some .int }, accessFlags := 9, code := some k2c2 }
/-- java/lang/Math -/
def k2 : Class := { plain "java/lang/Math" (some 0) with
  accessFlags := 49
  interfaces := #[]
  cf := some (fileOf pool2 1 #[.nestMembers #[98]] #[{ accessFlags := 2, nameIndex := 7, descriptorIndex := 8, attributes := #[] }, { accessFlags := 9, nameIndex := 198, descriptorIndex := 335, attributes := #[] }, { accessFlags := 9, nameIndex := 201, descriptorIndex := 335, attributes := #[] }] 49 4 #[] #[{ accessFlags := 25, nameIndex := 354, descriptorIndex := 339, attributes := #[] }, { accessFlags := 25, nameIndex := 358, descriptorIndex := 339, attributes := #[] }, { accessFlags := 25, nameIndex := 361, descriptorIndex := 339, attributes := #[] }, { accessFlags := 26, nameIndex := 364, descriptorIndex := 339, attributes := #[] }, { accessFlags := 26, nameIndex := 365, descriptorIndex := 339, attributes := #[] }, { accessFlags := 26, nameIndex := 172, descriptorIndex := 173, attributes := #[] }, { accessFlags := 26, nameIndex := 176, descriptorIndex := 173, attributes := #[] }, { accessFlags := 8, nameIndex := 344, descriptorIndex := 339, attributes := #[] }, { accessFlags := 8, nameIndex := 338, descriptorIndex := 339, attributes := #[] }, { accessFlags := 4120, nameIndex := 245, descriptorIndex := 246, attributes := #[] }])
  fields := #[{ name := "E", type := .double, accessFlags := 25, slot := 0, constantValue := 0 }, { name := "PI", type := .double, accessFlags := 25, slot := 1, constantValue := 0 }, { name := "TAU", type := .double, accessFlags := 25, slot := 2, constantValue := 0 }, { name := "DEGREES_TO_RADIANS", type := .double, accessFlags := 26, slot := 3, constantValue := 0 }, { name := "RADIANS_TO_DEGREES", type := .double, accessFlags := 26, slot := 4, constantValue := 0 }, { name := "negativeZeroFloatBits", type := .long, accessFlags := 26, slot := 5, constantValue := 0 }, { name := "negativeZeroDoubleBits", type := .long, accessFlags := 26, slot := 6, constantValue := 0 }, { name := "twoToTheDoubleScaleUp", type := .double, accessFlags := 8, slot := 7, constantValue := 0 }, { name := "twoToTheDoubleScaleDown", type := .double, accessFlags := 8, slot := 8, constantValue := 0 }, { name := "$assertionsDisabled", type := .boolean, accessFlags := 4120, slot := 9, constantValue := 0 }]
  methods := #[k2m0, k2m1, k2m2]
  instanceTypes := #[]
  staticTypes := #[.double, .double, .double, .double, .double, .long, .long, .double, .double, .boolean]
  resolved := Array.replicate 460 none
  statics := none }

def pool3 : Array CpInfo := pool [(1, .class_ 2), (0, u "java/lang/constant/Constable"), (0, .class_ 4), (0, u "java/lang/Object")] 6

/-- java/lang/constant/Constable -/
def k3 : Class := { plain "java/lang/constant/Constable" (some 0) with
  accessFlags := 1537
  interfaces := #[]
  cf := some (fileOf pool3 1 #[] #[] 1537 3 #[] #[])
  fields := #[]
  methods := #[]
  instanceTypes := #[]
  staticTypes := #[]
  resolved := Array.replicate 11 none
  statics := none }

def pool4 : Array CpInfo := pool [(1, .class_ 2), (0, u "java/lang/Comparable"), (0, .class_ 4), (0, u "java/lang/Object")] 7

/-- java/lang/Comparable -/
def k4 : Class := { plain "java/lang/Comparable" (some 0) with
  accessFlags := 1537
  interfaces := #[]
  cf := some (fileOf pool4 1 #[] #[] 1537 3 #[] #[])
  fields := #[]
  methods := #[]
  instanceTypes := #[]
  staticTypes := #[]
  resolved := Array.replicate 12 none
  statics := none }

def pool5 : Array CpInfo := pool [(1, .class_ 2), (0, u "java/io/Serializable"), (0, .class_ 4), (0, u "java/lang/Object")] 2

/-- java/io/Serializable -/
def k5 : Class := { plain "java/io/Serializable" (some 0) with
  accessFlags := 1537
  interfaces := #[]
  cf := some (fileOf pool5 1 #[] #[] 1537 3 #[] #[])
  fields := #[]
  methods := #[]
  instanceTypes := #[]
  staticTypes := #[]
  resolved := Array.replicate 7 none
  statics := none }

def pool6 : Array CpInfo := pool [(2, .class_ 4), (1, u "java/lang/Enum"), (0, u "name"), (0, u "Ljava/lang/String;"), (2, u "ordinal"), (0, u "I"), (1, .class_ 14), (1, u "java/lang/Object"), (4, u "hash"), (86, .class_ 108), (1, u "java/lang/Enum$EnumDesc"), (2, .class_ 112), (0, u "java/lang/constant/Constable"), (0, .class_ 114), (0, u "java/lang/Comparable"), (0, .class_ 116), (0, u "java/io/Serializable")] 87

/-- java/lang/Enum -/
def k6 : Class := { plain "java/lang/Enum" (some 0) with
  accessFlags := 1057
  interfaces := #[3, 4, 5]
  cf := some (fileOf pool6 2 #[.nestMembers #[106]] #[] 1057 12 #[111, 113, 115] #[{ accessFlags := 18, nameIndex := 5, descriptorIndex := 6, attributes := #[] }, { accessFlags := 18, nameIndex := 9, descriptorIndex := 10, attributes := #[] }, { accessFlags := 2, nameIndex := 19, descriptorIndex := 10, attributes := #[] }])
  fields := #[{ name := "name", type := (.object "java/lang/String"), accessFlags := 18, slot := 0, constantValue := 0 }, { name := "ordinal", type := .int, accessFlags := 18, slot := 1, constantValue := 0 }, { name := "hash", type := .int, accessFlags := 2, slot := 2, constantValue := 0 }]
  methods := #[]
  instanceTypes := #[(.object "java/lang/String"), .int, .int]
  staticTypes := #[]
  resolved := Array.replicate 204 none
  statics := none }

def pool7 : Array CpInfo := pool [(1, .class_ 2), (0, u "com/example/delivery_queue/deliveryqueue/core/Change$ContentsForm"), (0, .fieldref 1 4), (0, .nameAndType 5 6), (0, u "UNATTRIBUTED"), (0, u "Lcom/example/delivery_queue/deliveryqueue/core/Change$ContentsForm;"), (0, .fieldref 1 8), (0, .nameAndType 9 6), (0, u "UNTRACED"), (0, .fieldref 1 11), (0, .nameAndType 12 6), (0, u "WHOLE"), (2, u "$VALUES"), (0, u "[Lcom/example/delivery_queue/deliveryqueue/core/Change$ContentsForm;"), (6, .class_ 25), (1, u "java/lang/Enum"), (21, u "of"), (0, u "(III)Lcom/example/delivery_queue/deliveryqueue/core/Change$ContentsForm;"), (6, .class_ 56), (0, u "com/example/delivery_queue/deliveryqueue/core/Change")] 2

def k7c0 : Code := { maxStack := 2, maxLocals := 3, code := prog_4_method_4_code, exceptionTable := #[], attributes := #[] }
def k7m0 : Method := { name := "of", desc := "(III)Lcom/example/delivery_queue/deliveryqueue/core/Change$ContentsForm;", sig := { parameters := [.int, .int, .int], returnType := some (.object "com/example/delivery_queue/deliveryqueue/core/Change$ContentsForm") }, accessFlags := 8, code := some k7c0 }
/-- com/example/delivery_queue/deliveryqueue/core/Change$ContentsForm -/
def k7 : Class := { plain "com/example/delivery_queue/deliveryqueue/core/Change$ContentsForm" (some 6) with
  accessFlags := 16433
  interfaces := #[]
  cf := some (fileOf pool7 1 #[.nestHost 55] #[{ accessFlags := 8, nameIndex := 47, descriptorIndex := 48, attributes := #[] }] 16433 23 #[] #[{ accessFlags := 16409, nameIndex := 5, descriptorIndex := 6, attributes := #[] }, { accessFlags := 16409, nameIndex := 9, descriptorIndex := 6, attributes := #[] }, { accessFlags := 16409, nameIndex := 12, descriptorIndex := 6, attributes := #[] }, { accessFlags := 4122, nameIndex := 15, descriptorIndex := 16, attributes := #[] }])
  fields := #[{ name := "UNATTRIBUTED", type := (.object "com/example/delivery_queue/deliveryqueue/core/Change$ContentsForm"), accessFlags := 16409, slot := 0, constantValue := 0 }, { name := "UNTRACED", type := (.object "com/example/delivery_queue/deliveryqueue/core/Change$ContentsForm"), accessFlags := 16409, slot := 1, constantValue := 0 }, { name := "WHOLE", type := (.object "com/example/delivery_queue/deliveryqueue/core/Change$ContentsForm"), accessFlags := 16409, slot := 2, constantValue := 0 }, { name := "$VALUES", type := (.array (.object "com/example/delivery_queue/deliveryqueue/core/Change$ContentsForm")), accessFlags := 4122, slot := 3, constantValue := 0 }]
  methods := #[k7m0]
  instanceTypes := #[(.object "java/lang/String"), .int, .int]
  staticTypes := #[(.object "com/example/delivery_queue/deliveryqueue/core/Change$ContentsForm"), (.object "com/example/delivery_queue/deliveryqueue/core/Change$ContentsForm"), (.object "com/example/delivery_queue/deliveryqueue/core/Change$ContentsForm"), (.array (.object "com/example/delivery_queue/deliveryqueue/core/Change$ContentsForm"))]
  resolved := Array.replicate 59 none
  statics := some 0 }

def pool8 : Array CpInfo := pool [(1, u "java/lang/Cloneable"), (0, .class_ 1), (0, u "java/lang/Object"), (0, .class_ 3)] 3

/-- java/lang/Cloneable -/
def k8 : Class := { plain "java/lang/Cloneable" (some 0) with
  accessFlags := 1537
  interfaces := #[]
  cf := some (fileOf pool8 2 #[] #[] 1537 4 #[] #[])
  fields := #[]
  methods := #[]
  instanceTypes := #[]
  staticTypes := #[]
  resolved := Array.replicate 8 none
  statics := none }

/-- the primitive byte -/
def k9 : Class := { plain "byte" none with kind := .primitive 'B', accessFlags := 0x411 }
/-- [B -/
def k10 : Class := { plain "[B" (some 0) with kind := .array 9 .byte, interfaces := #[8, 5], accessFlags := 1041 }

/-- the primitive int -/
def k11 : Class := { plain "int" none with kind := .primitive 'I', accessFlags := 0x411 }
/-- [I -/
def k12 : Class := { plain "[I" (some 0) with kind := .array 11 .int, interfaces := #[8, 5], accessFlags := 1041 }

def heap : Heap := #[{ cls := 7, slots := #[.ref 1, .ref 2, .ref 3, .null], vm := .statics 7 },
  { cls := 7, slots := #[.null, .int 0, .int 0], vm := .none },
  { cls := 7, slots := #[.null, .int 1, .int 0], vm := .none },
  { cls := 7, slots := #[.null, .int 2, .int 0], vm := .none }]
def classes : Array Class := #[k0, k1, k2, k3, k4, k5, k6, k7, k8, k9, k10, k11, k12]
def interned : List (Array UInt16 × Addr) := []
def slotsUsed : Nat := 13
def theMethod : MethodId := ⟨1, 2⟩
def args0 : Array Value := #[.int 1, .int 0, .int 5, .int 0]
def aboutOver (below : List Frame) : State where
  vm := { classes := classes, interned := interned.toArray }
  heap := heap
  slotsUsed := slotsUsed
  threads := #[{ frames := .invoking theMethod args0 :: below }]
def below0 : List Frame := [.native { method := ⟨0, 0⟩, args := #[] }]
def about1 : State := aboutOver below0
def p0 : Program := .bare "" "" ""
def e0 : Env := launch0.env 0 0 0
theorem w_frames : about1.frames = Frame.invoking theMethod args0 :: below0 := rfl
set_option maxRecDepth 65536 in
theorem w_args : argsFit about1.vm theMethod args0 = true := by decide +kernel
set_option maxRecDepth 65536 in
theorem w_heap : heapFits about1 = true := by decide +kernel
set_option maxRecDepth 65536 in
theorem w_runnable : about1.curStatus? = some .runnable := by decide +kernel
set_option maxRecDepth 65536 in
theorem w_alone : about1.alone = true := by decide +kernel
set_option maxRecDepth 65536 in
theorem w_named : about1.methodNamed? x = some theMethod := by decide +kernel
set_option maxRecDepth 65536 in
theorem w_hears : about1.hears theMethod below0 = true := by decide +kernel
set_option maxRecDepth 65536 in
theorem w_ripe : about1.ripe theMethod args0 below0 = true := by decide +kernel
theorem w_running : about1.status = .running := rfl
set_option maxRecDepth 65536 in
theorem w_room : about1.hasRoom e0.platform room_1 = true :=
  launch0.hasRoom_least _ room_1 (by decide +kernel) (by decide +kernel) (by decide +kernel) (by decide +kernel) (by decide +kernel) (by decide +kernel)
theorem allAtoms_all (ts : List Jvm.Cond) (a : Array Jvm.Value) (st : Jvm.State) : (allAtoms ts).before a st = ts.all (fun c => c.before a st) := by
  induction ts with
  | nil => rfl
  | cons c t ih =>
    show (Jvm.Cond.and c (allAtoms t)).before a st = _
    rw [Jvm.Cond.before_and, ih, List.all_cons]
def words1 : List Jvm.Cond := Jvm.Cond.code x code maxLocals ret :: tables_1
/-- a 'code' word, met by the world's own term for the bytes: nothing is compared byte by byte -/
theorem code_word {y : MethodName} {bytes : ByteArray} {mx : Nat} {rt : Option FieldType} {a : Array Value} {s : State} {m : MethodId} {meth : Method} {c : Code} (h1 : s.methodNamed? y = some m) (h2 : s.vm.method? m = some meth) (h3 : meth.code = some c) (h4 : c.code = bytes)
    (h5 : (c.maxLocals == mx && c.exceptionTable.isEmpty && decide (c.maxStack ≤ mostOperands) && decide (meth.sig.returnType = rt) && !meth.locks && decide (parseMethodDescriptor y.desc = some meth.sig)) = true) : (Jvm.Cond.code y bytes mx rt).before a s = true := by
  simp only [Bool.and_eq_true, beq_iff_eq, Bool.not_eq_true', decide_eq_true_eq] at h5
  obtain ⟨⟨⟨⟨⟨g1, g2⟩, g3⟩, g4⟩, g5⟩, g6⟩ := h5
  simp [Cond.before, Cond.holds, Cond.value, h1, h2, h3, h4, g1, g2, g3, g4, g5, g6]
def isCode : Jvm.Cond → Bool
  | .code _ _ _ _ => true
  | _ => false
theorem all_split {L : List Jvm.Cond} {P : Jvm.Cond → Bool} (h1 : L.all (fun c => isCode c || P c) = true) (h2 : ∀ c ∈ L.filter isCode, P c = true) : L.all P = true := by
  refine List.all_eq_true.mpr fun c hc => ?_
  have h := List.all_eq_true.mp h1 c hc
  rcases Bool.eq_false_or_eq_true (isCode c) with hi | hi
  · exact h2 c (List.mem_filter.mpr ⟨hc, hi⟩)
  · simpa [hi] using h
set_option maxRecDepth 65536 in
theorem w_c0 : (Jvm.Cond.code x code maxLocals ret).before args0 about1 = true := code_word (m := ⟨1, 2⟩) (meth := k1m2) (c := k1c2) (by decide +kernel) rfl rfl rfl (by decide +kernel)
set_option maxRecDepth 65536 in
theorem w_c1 : (Jvm.Cond.code ({ cls := "java/lang/Math", name := "min", desc := "(II)I" } : Jvm.MethodName) jdk_29_method_69_code (2 : Nat) (Option.some Jvm.ClassFile.FieldType.int)).before args0 about1 = true := code_word (m := ⟨2, 2⟩) (meth := k2m2) (c := k2c2) (by decide +kernel) rfl rfl rfl (by decide +kernel)
set_option maxRecDepth 65536 in
theorem w_c2 : (Jvm.Cond.code ({ cls := "java/lang/Math", name := "max", desc := "(II)I" } : Jvm.MethodName) jdk_29_method_65_code (2 : Nat) (Option.some Jvm.ClassFile.FieldType.int)).before args0 about1 = true := code_word (m := ⟨2, 1⟩) (meth := k2m1) (c := k2c1) (by decide +kernel) rfl rfl rfl (by decide +kernel)
set_option maxRecDepth 65536 in
theorem w_c3 : (Jvm.Cond.code ({ cls := "com/example/delivery_queue/deliveryqueue/core/Change$ContentsForm", name := "of", desc := "(III)Lcom/example/delivery_queue/deliveryqueue/core/Change$ContentsForm;" } : Jvm.MethodName) prog_4_method_4_code (3 : Nat) (Option.some (Jvm.ClassFile.FieldType.object "com/example/delivery_queue/deliveryqueue/core/Change$ContentsForm"))).before args0 about1 = true := code_word (m := ⟨7, 0⟩) (meth := k7m0) (c := k7c0) (by decide +kernel) rfl rfl rfl (by decide +kernel)
set_option maxRecDepth 65536 in
theorem w_c4 : (Jvm.Cond.code ({ cls := "com/example/delivery_queue/deliveryqueue/core/ContentsFormOfPinLaw", name := "rank", desc := "(Lcom/example/delivery_queue/deliveryqueue/core/Change$ContentsForm;)I" } : Jvm.MethodName) method_2_code (1 : Nat) (Option.some Jvm.ClassFile.FieldType.int)).before args0 about1 = true := code_word (m := ⟨1, 1⟩) (meth := k1m1) (c := k1c1) (by decide +kernel) rfl rfl rfl (by decide +kernel)
def codes1 : List Jvm.Cond := [Jvm.Cond.code x code maxLocals ret, Jvm.Cond.code ({ cls := "java/lang/Math", name := "min", desc := "(II)I" } : Jvm.MethodName) jdk_29_method_69_code (2 : Nat) (Option.some Jvm.ClassFile.FieldType.int), Jvm.Cond.code ({ cls := "java/lang/Math", name := "max", desc := "(II)I" } : Jvm.MethodName) jdk_29_method_65_code (2 : Nat) (Option.some Jvm.ClassFile.FieldType.int), Jvm.Cond.code ({ cls := "com/example/delivery_queue/deliveryqueue/core/Change$ContentsForm", name := "of", desc := "(III)Lcom/example/delivery_queue/deliveryqueue/core/Change$ContentsForm;" } : Jvm.MethodName) prog_4_method_4_code (3 : Nat) (Option.some (Jvm.ClassFile.FieldType.object "com/example/delivery_queue/deliveryqueue/core/Change$ContentsForm")), Jvm.Cond.code ({ cls := "com/example/delivery_queue/deliveryqueue/core/ContentsFormOfPinLaw", name := "rank", desc := "(Lcom/example/delivery_queue/deliveryqueue/core/Change$ContentsForm;)I" } : Jvm.MethodName) method_2_code (1 : Nat) (Option.some Jvm.ClassFile.FieldType.int)]
set_option maxRecDepth 65536 in
theorem codes_eq : words1.filter isCode = codes1 := rfl
theorem w_codes : ∀ c ∈ words1.filter isCode, c.before args0 about1 = true := by
  rw [codes_eq]
  intro c hc
  simp only [codes1, List.mem_cons, List.not_mem_nil, or_false] at hc
  rcases hc with rfl | rfl | rfl | rfl | rfl
  · exact w_c0
  · exact w_c1
  · exact w_c2
  · exact w_c3
  · exact w_c4
set_option maxRecDepth 65536 in
theorem w_t1 : (words1.take 24).all (fun c => isCode c || c.before args0 about1) = true := by decide +kernel
set_option maxRecDepth 65536 in
theorem w_t2 : (words1.drop 24).all (fun c => isCode c || c.before args0 about1) = true := by decide +kernel
theorem w_tables : (allAtoms (Jvm.Cond.code x code maxLocals ret :: tables_1)).before args0 about1 = true := by
  rw [allAtoms_all]
  show words1.all (fun c => c.before args0 about1) = true
  refine all_split ?_ w_codes
  rw [← List.take_append_drop 24 words1, List.all_append, w_t1, w_t2]
  rfl
set_option maxRecDepth 65536 in
theorem w_case : (Jvm.Cond.and given_1 narrow_1).before args0 about1 = true := by decide +kernel
theorem w_applies : (headSpec (Jvm.Cond.code x code maxLocals ret :: tables_1) room_1).applies x e0.platform about1 = true :=
  (Spec.applies_iff w_frames).mpr ⟨w_running, w_runnable, w_alone, w_named, w_hears, w_ripe, w_room, w_tables⟩
theorem atStart : AtStart classFile x code maxLocals ret World_1 tables_1 room_1 Calls_1 rest_1 Pre_1 launch0 p0 e0 about1 theMethod args0 below0 :=
  ⟨lists_1, trivial, launch0.admits_env _ _ _, launch0.least_env, fairChoices_fair.cas, fairChoices_fair.clock, w_frames, w_args, w_heap, w_applies, trivial, trivial, w_case⟩
end start1
theorem witness_1 : WitnessClaimed_1 := ⟨start1.p0, start1.e0, start1.about1, start1.theMethod, start1.args0, start1.below0, start1.atStart⟩
end Jvm.Pilot.@@N@@
