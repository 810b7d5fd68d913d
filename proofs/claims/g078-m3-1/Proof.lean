import JvmDerived
import JvmDerived.Pilot.@@N@@Statement
import JvmDerived.Pilot.@@N@@Code
set_option linter.unusedVariables false
set_option linter.unusedSimpArgs false
set_option maxRecDepth 65536
set_option maxHeartbeats 40000000
namespace Jvm.Pilot.@@N@@
open Jvm Jvm.ClassFile Sem Op Lib Jvm.Free Jvm.Stand Jvm.LawKit Jvm.RoadKit Bundle Jvm.Pilot.@@N@@.Jvm.D
section OwnKit
variable {p : Program} {l : Launch} {e : Env} {R : Room} {s : State} {m : MethodId} {args : Array Value} {below : List Frame} {meth : Method} {c : Code} {T : State} {locs : List Loc} {cells slots : Nat}
/-- from here the run comes to an end that E allows -/
def own_Go (p : Program) (e : Env) (below : List Frame) (E : State → Prop) (S : State) : Prop := ∃ t, Steps p.tables e below S t ∧ E t
/-- the invocation has ended, with a value, a heap and a list of written places that Q allows -/
def own_End (s : State) (below : List Frame) (Q : Option Value → Heap → List Loc → Prop) (C N : Nat) (t : State) : Prop :=
  t.status = .running ∧ ∃ v L, Ended t below (.returned v) ∧ Q v t.heap L ∧ FrameEnd s (.returned v) t L C N
/-- the walk stands here, with this heap, having written only what is new -/
def own_At (p : Program) (l : Launch) (e : Env) (R : Room) (s : State) (m : MethodId) (args : Array Value) (below : List Frame) (meth : Method) (c : Code) (n0 : Nat) (T : State) (h : Heap) (cells slots : Nat) : Prop :=
  ∃ locs, Stand p l e R s m args below meth c T locs cells slots ∧ Fr n0 locs ∧ T.heap = h
theorem own_by {E : State → Prop} {S S' : State} (k : ∀ t, Steps p.tables e below S' t → Steps p.tables e below S t) (h : own_Go p e below E S') : own_Go p e below E S :=
  h.imp fun t q => ⟨k t q.1, q.2⟩
theorem own_tr {E : State → Prop} {S S' : State} (k : Steps p.tables e below S S') (h : own_Go p e below E S') : own_Go p e below E S :=
  h.imp fun t q => ⟨k.trans q.1, q.2⟩
theorem own_mono {E E' : State → Prop} {S : State} (k : ∀ t, E t → E' t) (h : own_Go p e below E S) : own_Go p e below E' S := h.imp fun t q => ⟨q.1, k t q.2⟩
theorem own_monoQ {Q Q' : Option Value → Heap → List Loc → Prop} {C N : Nat} {S : State} (k : ∀ v h L, Q v h L → Q' v h L) (h : own_Go p e below (own_End s below Q C N) S) : own_Go p e below (own_End s below Q' C N) S :=
  own_mono (fun t ⟨a, v, L, b, q, r⟩ => ⟨a, v, L, b, k _ _ _ q, r⟩) h
variable {Q : Option Value → Heap → List Loc → Prop} {C N : Nat} {h : Heap} {pc : Nat} {Ls : Array Slot} {rest : List Value}
theorem own_ret (X : Stand p l e R s m args below meth c T locs cells slots) (hx : p.tables.exec = Jvm.exec) (hlk : meth.locks = false) (eT : T.heap = h) {w : Value} {t : FieldType} {i : Instr} (hret : meth.sig.returnType = some t) (hn : narrow t w = w)
    (hi : (i = .ireturn ∧ (t = .int ∨ t = .boolean ∨ t = .byte ∨ t = .char ∨ t = .short) ∧ ∃ z, w = .int z) ∨ (i = .lreturn ∧ t = .long ∧ ∃ z, w = .long z) ∨ (i = .dreturn ∧ t = .double ∧ ∃ z, w = .double z) ∨ (i = .freturn ∧ t = .float ∧ ∃ z, w = .float z) ∨ (i = .areturn ∧ t.isReference = true ∧ w.isRef = true))
    (hd : decode c.code pc = .ok (i, 1)) (hc : cells ≤ C) (hs : slots ≤ N) (hQ : Q (some w) h locs) : own_Go p e below (own_End s below Q C N) (T.setTop (mkF m pc Ls (w :: rest))) := by
  obtain ⟨fs, hr, hrun, hended, hW, hsame⟩ := X.leave (v := some w) (fun q => by rw [hret] at q; cases q) hlk
  subst eT
  exact ⟨_, retOut X hx hret hn hi hd hr, hrun, _, _, hended, hQ, ⟨_, rfl⟩, hW, hsame.mono hc hs⟩
theorem own_retI (X : Stand p l e R s m args below meth c T locs cells slots) (hx : p.tables.exec = Jvm.exec) (hlk : meth.locks = false) (eT : T.heap = h) {z : Int32} (hret : meth.sig.returnType = some .int) (hd : decode c.code pc = .ok (.ireturn, 1)) (hc : cells ≤ C) (hs : slots ≤ N) (hQ : Q (some (.int z)) h locs) :
    own_Go p e below (own_End s below Q C N) (T.setTop (mkF m pc Ls (.int z :: rest))) := own_ret X hx hlk eT hret rfl (Or.inl ⟨rfl, Or.inl rfl, _, rfl⟩) hd hc hs hQ
theorem own_retZ (X : Stand p l e R s m args below meth c T locs cells slots) (hx : p.tables.exec = Jvm.exec) (hlk : meth.locks = false) (eT : T.heap = h) {z : Int32} (hz : z = 0 ∨ z = 1) (hret : meth.sig.returnType = some .boolean) (hd : decode c.code pc = .ok (.ireturn, 1)) (hc : cells ≤ C) (hs : slots ≤ N) (hQ : Q (some (.int z)) h locs) :
    own_Go p e below (own_End s below Q C N) (T.setTop (mkF m pc Ls (.int z :: rest))) := own_ret X hx hlk eT hret (by rcases hz with rfl | rfl <;> rfl) (Or.inl ⟨rfl, Or.inr (Or.inl rfl), _, rfl⟩) hd hc hs hQ
theorem own_retJ (X : Stand p l e R s m args below meth c T locs cells slots) (hx : p.tables.exec = Jvm.exec) (hlk : meth.locks = false) (eT : T.heap = h) {z : Int64} (hret : meth.sig.returnType = some .long) (hd : decode c.code pc = .ok (.lreturn, 1)) (hc : cells ≤ C) (hs : slots ≤ N) (hQ : Q (some (.long z)) h locs) :
    own_Go p e below (own_End s below Q C N) (T.setTop (mkF m pc Ls (.long z :: rest))) := own_ret X hx hlk eT hret rfl (Or.inr (Or.inl ⟨rfl, rfl, _, rfl⟩)) hd hc hs hQ
theorem own_retD (X : Stand p l e R s m args below meth c T locs cells slots) (hx : p.tables.exec = Jvm.exec) (hlk : meth.locks = false) (eT : T.heap = h) {z : UInt64} (hret : meth.sig.returnType = some .double) (hd : decode c.code pc = .ok (.dreturn, 1)) (hc : cells ≤ C) (hs : slots ≤ N) (hQ : Q (some (.double z)) h locs) :
    own_Go p e below (own_End s below Q C N) (T.setTop (mkF m pc Ls (.double z :: rest))) := own_ret X hx hlk eT hret rfl (Or.inr (Or.inr (Or.inl ⟨rfl, rfl, _, rfl⟩))) hd hc hs hQ
theorem own_retR (X : Stand p l e R s m args below meth c T locs cells slots) (hx : p.tables.exec = Jvm.exec) (hlk : meth.locks = false) (eT : T.heap = h) {w : Value} {t : FieldType} (hw : w.isRef = true) (ht : t.isReference = true) (hret : meth.sig.returnType = some t) (hd : decode c.code pc = .ok (.areturn, 1)) (hc : cells ≤ C) (hs : slots ≤ N) (hQ : Q (some w) h locs) :
    own_Go p e below (own_End s below Q C N) (T.setTop (mkF m pc Ls (w :: rest))) := own_ret X hx hlk eT hret (by cases t <;> first | (cases ht; done) | (cases w <;> first | rfl | cases hw)) (Or.inr (Or.inr (Or.inr (Or.inr ⟨rfl, ht, hw⟩)))) hd hc hs hQ
theorem own_retV (X : Stand p l e R s m args below meth c T locs cells slots) (hx : p.tables.exec = Jvm.exec) (hlk : meth.locks = false) (eT : T.heap = h) (hret : meth.sig.returnType = none) (hd : decode c.code pc = .ok (.return_, 1)) (hc : cells ≤ C) (hs : slots ≤ N) (hQ : Q none h locs) :
    own_Go p e below (own_End s below Q C N) (T.setTop (mkF m pc Ls [])) := by
  obtain ⟨fs, hr, hrun, hended, hW, hsame⟩ := X.leave (v := none) (fun _ => rfl) hlk
  subst eT
  exact ⟨_, X.returnOut hx hret hd hr, hrun, _, _, hended, hQ, ⟨_, rfl⟩, hW, hsame.mono hc hs⟩
end OwnKit

theorem own_pd0 : parseMethodDescriptor "(Lcom/example/airtight_graph/airtightgraph/automorphism/Verification$Failure;I)V" = some ⟨[(.object "com/example/airtight_graph/airtightgraph/automorphism/Verification$Failure"), .int], none⟩ := by decide +kernel
theorem own_pd1 : parseMethodDescriptor "()Z" = some ⟨[], some .boolean⟩ := by decide +kernel
theorem own_pd2 : parseMethodDescriptor "()Lcom/example/airtight_graph/airtightgraph/automorphism/Verification$Failure;" = some ⟨[], some (.object "com/example/airtight_graph/airtightgraph/automorphism/Verification$Failure")⟩ := by decide +kernel
theorem own_pd3 : parseMethodDescriptor "()I" = some ⟨[], some .int⟩ := by decide +kernel
theorem own_d1_0 : decode prog_8_method_1_code 0 = .ok (.aload_n 0, 1) := by decide +kernel
theorem own_d1_1 : decode prog_8_method_1_code 1 = .ok (.invokespecial 1, 3) := by decide +kernel
theorem own_d1_4 : decode prog_8_method_1_code 4 = .ok (.aload_n 0, 1) := by decide +kernel
theorem own_d1_5 : decode prog_8_method_1_code 5 = .ok (.aload_n 1, 1) := by decide +kernel
theorem own_d1_6 : decode prog_8_method_1_code 6 = .ok (.putfield 7, 3) := by decide +kernel
theorem own_d1_9 : decode prog_8_method_1_code 9 = .ok (.aload_n 0, 1) := by decide +kernel
theorem own_d1_10 : decode prog_8_method_1_code 10 = .ok (.iload_n 2, 1) := by decide +kernel
theorem own_d1_11 : decode prog_8_method_1_code 11 = .ok (.putfield 13, 3) := by decide +kernel
theorem own_d1_14 : decode prog_8_method_1_code 14 = .ok (.return_, 1) := by decide +kernel
theorem own_pn1 : plainName "com/example/airtight_graph/airtightgraph/automorphism/Verification" = true := by first | (simp [plainName, overriddenIn]; done) | decide +kernel
theorem own_ef1_n (m : MethodId) (x0 : Addr) (x2 : Int32) : entryFrame m #[(.ref x0), .null, (.int x2)] 3 = mkF m 0 #[.val (.ref x0), .val .null, .val (.int x2)] [] := by first | (simp [entryFrame, mkF, argsToLocals, Value.category]; done) | rfl
def own_Q1_n (Z : State) (ax : Addr) (xa : Int32) (uv : Value) (ua : Int32) (h0 : Heap) (n0 : Nat) (v : Option Value) (h : Heap) (L : List Loc) : Prop := v = none ∧ Fr n0 L ∧ Keep h0 h [ax] ∧ Fld Z h ax "com/example/airtight_graph/airtightgraph/automorphism/Verification" "failure" "Lcom/example/airtight_graph/airtightgraph/automorphism/Verification$Failure;" .null ∧ Fld Z h ax "com/example/airtight_graph/airtightgraph/automorphism/Verification" "count" "I" (.int xa)
theorem own_rm1_n (l : Launch) (Z : State) (a0 : Array Value) (hw : ∀ d ∈ tables_1, d.before a0 Z = true) (ws : List Jvm.Cond) (ax : Addr) (xa : Int32) (uv : Value) (ua : Int32) (h0 : Heap) (n0 : Nat) (Z0 : n0 ≤ h0.size) (pf0 : Exa Z h0 ax "com/example/airtight_graph/airtightgraph/automorphism/Verification") (pf1 : Fld Z h0 ax "com/example/airtight_graph/airtightgraph/automorphism/Verification" "failure" "Lcom/example/airtight_graph/airtightgraph/automorphism/Verification$Failure;" uv) (pf2 : Fld Z h0 ax "com/example/airtight_graph/airtightgraph/automorphism/Verification" "count" "I" (.int ua)) (pg_ax : n0 ≤ ax) :
    MetFree l (⟨"com/example/airtight_graph/airtightgraph/automorphism/Verification", "<init>", "(Lcom/example/airtight_graph/airtightgraph/automorphism/Verification$Failure;I)V"⟩ : MethodName) (head1 (Jvm.Cond.code (⟨"com/example/airtight_graph/airtightgraph/automorphism/Verification", "<init>", "(Lcom/example/airtight_graph/airtightgraph/automorphism/Verification$Failure;I)V"⟩ : MethodName) prog_8_method_1_code 3 none :: ws) ({ frames := 1, cells := 0, slots := 0, locals := 12 } : Room)) (fun a U => a = #[(.ref ax), .null, (.int xa)] ∧ Z.Warmed39 U.vm ∧ U.heap = h0) (fun _ _ _ _ _ => True) (fun _ U o U' => ∃ v L, o = .returned v ∧ own_Q1_n Z ax xa uv ua h0 n0 v U'.heap L ∧ FrameEnd U o U' L ({ frames := 1, cells := 0, slots := 0, locals := 12 } : Room).cells ({ frames := 1, cells := 0, slots := 0, locals := 12 } : Room).slots) := by
  refine MetFree.of_bodySF (plainFor_of_name own_pn1) hisR ?_
  intro p e s m args below meth c s₁ Bd hml0 hP hK
  obtain ⟨rfl, hZ, hh⟩ := hP
  have hx := Bd.exec
  have hby := Bd.bytes
  have hlk := Bd.notSynchronized
  have hret := Bd.returns
  have hml : c.maxLocals = 3 := hml0
  have hown : s.vm.findClass "com/example/airtight_graph/airtightgraph/automorphism/Verification" = some m.cls := findClass_of_methodNamed Bd.named
  have hnm := (name_of_methodNamed Bd.named Bd.method).1
  have X0 : Stand p l e ({ frames := 1, cells := 0, slots := 0, locals := 12 } : Room) s m #[(.ref ax), .null, (.int xa)] below meth c s₁ [] 0 0 := Stand.of_body Bd
  have e0 : s₁.heap = h0 := by rw [← hh, Bd.state]; rfl
  have N0 := Fr.nil n0
  suffices key : own_Go p e below (own_End s below (own_Q1_n Z ax xa uv ua h0 n0) ({ frames := 1, cells := 0, slots := 0, locals := 12 } : Room).cells ({ frames := 1, cells := 0, slots := 0, locals := 12 } : Room).slots) (s₁.setTop (mkF m 0 #[.val (.ref ax), .val .null, .val (.int xa)] [])) by
    obtain ⟨t, k1, k2, v, L, k3, k4, k5⟩ := key
    exact ⟨t, _, castTop (own_ef1_n m ax xa) k1, k2, k3, v, L, rfl, k4, k5⟩
  show own_Go p e below _ (s₁.setTop (mkF m 0 #[.val (.ref ax), .val .null, .val (.int xa)] []))
  refine own_by (fun _ => XS.aloadN X0.here hx rfl (hb hby own_d1_0) rfl rfl) ?_
  show own_Go p e below _ (s₁.setTop (mkF m 1 #[.val (.ref ax), .val .null, .val (.int xa)] [(.ref ax)]))
  obtain ⟨T1, X1, e1, st1⟩ := initO X0 hx hZ hown (hw _ (List.mem_of_getElem? (i := 6) rfl)) (hw _ (List.mem_of_getElem? (i := 7) rfl)) (hw _ (List.mem_of_getElem? (i := 8) rfl)) e0 (g := (mkF m 1 #[.val (.ref ax), .val .null, .val (.int xa)] [(.ref ax)])) rfl (by rw [hml]; rfl) rfl (hb hby own_d1_1) (by decide) (W := 0) (by show 2 * 0 + _ ≤ _; exact Nat.le_of_eq rfl) (by decide)
  refine own_by st1 ?_
  show own_Go p e below _ (T1.setTop (mkF m 4 #[.val (.ref ax), .val .null, .val (.int xa)] []))
  refine own_by (fun _ => XS.aloadN X1.here hx rfl (hb hby own_d1_4) rfl rfl) ?_
  show own_Go p e below _ (T1.setTop (mkF m 5 #[.val (.ref ax), .val .null, .val (.int xa)] [(.ref ax)]))
  refine own_by (fun _ => XS.aloadN X1.here hx rfl (hb hby own_d1_5) rfl rfl) ?_
  show own_Go p e below _ (T1.setTop (mkF m 6 #[.val (.ref ax), .val .null, .val (.int xa)] [.null, (.ref ax)]))
  obtain ⟨T2, h2, X2, e2, W2, st2⟩ := putF X1 hx hZ hown (host := "") (Or.inl (hw _ (List.mem_of_getElem? (i := 9) rfl))) Via.refl e1 pf1 pf0 (Or.inr ⟨(hw _ (List.mem_of_getElem? (i := 10) rfl)), rfl, hnm⟩) (hw _ (List.mem_of_getElem? (i := 1) rfl)) (ty := (.object "com/example/airtight_graph/airtightgraph/automorphism/Verification$Failure")) (by decide) rfl rfl (g := (mkF m 6 #[.val (.ref ax), .val .null, .val (.int xa)] [.null, (.ref ax)])) rfl rfl (hb hby own_d1_6)
  refine own_by st2 ?_
  have fw2 : Fld Z h2 ax "com/example/airtight_graph/airtightgraph/automorphism/Verification" "failure" "Lcom/example/airtight_graph/airtightgraph/automorphism/Verification$Failure;" .null := pf1.same W2
  have z2 : n0 ≤ h2.size := Nat.le_trans Z0 (Keep.of_wr W2).1
  have N2 := Fr.snoc X2 N0 pg_ax
  have K2 : Keep h0 h2 [ax] := (Keep.refl h0 [ax]).wr W2 (Or.inl (List.mem_of_getElem? (i := 0) rfl))
  show own_Go p e below _ (T2.setTop (mkF m 9 #[.val (.ref ax), .val .null, .val (.int xa)] []))
  refine own_by (fun _ => XS.aloadN X2.here hx rfl (hb hby own_d1_9) rfl rfl) ?_
  show own_Go p e below _ (T2.setTop (mkF m 10 #[.val (.ref ax), .val .null, .val (.int xa)] [(.ref ax)]))
  refine own_by (fun _ => XS.iloadN X2.here hx rfl (hb hby own_d1_10) rfl) ?_
  show own_Go p e below _ (T2.setTop (mkF m 11 #[.val (.ref ax), .val .null, .val (.int xa)] [(.int xa), (.ref ax)]))
  have f3 : Exa Z h2 ax "com/example/airtight_graph/airtightgraph/automorphism/Verification" := (pf0.wr W2)
  have f4 : Fld Z h2 ax "com/example/airtight_graph/airtightgraph/automorphism/Verification" "count" "I" (.int ua) := (pf2.other W2 (Or.inr (slot_ne (Or.inr (hw _ (List.mem_of_getElem? (i := 12) rfl))) (Or.inr (hw _ (List.mem_of_getElem? (i := 10) rfl))) (by decide) (t := .int) (t' := (.object "com/example/airtight_graph/airtightgraph/automorphism/Verification$Failure")) (by decide) (by decide))))
  obtain ⟨T5, h5, X5, e5, W5, st5⟩ := putF X2 hx hZ hown (host := "") (Or.inl (hw _ (List.mem_of_getElem? (i := 11) rfl))) Via.refl e2 f4 f3 (Or.inr ⟨(hw _ (List.mem_of_getElem? (i := 12) rfl)), rfl, hnm⟩) (hw _ (List.mem_of_getElem? (i := 1) rfl)) (ty := .int) (by decide) rfl rfl (g := (mkF m 11 #[.val (.ref ax), .val .null, .val (.int xa)] [(.int xa), (.ref ax)])) rfl rfl (hb hby own_d1_11)
  refine own_by st5 ?_
  have fw5 : Fld Z h5 ax "com/example/airtight_graph/airtightgraph/automorphism/Verification" "count" "I" (.int xa) := f4.same W5
  have z5 : n0 ≤ h5.size := Nat.le_trans z2 (Keep.of_wr W5).1
  have N5 := Fr.snoc X5 N2 pg_ax
  have K5 : Keep h0 h5 [ax] := K2.wr W5 (Or.inl (List.mem_of_getElem? (i := 0) rfl))
  show own_Go p e below _ (T5.setTop (mkF m 14 #[.val (.ref ax), .val .null, .val (.int xa)] []))
  have f6 : Fld Z h5 ax "com/example/airtight_graph/airtightgraph/automorphism/Verification" "failure" "Lcom/example/airtight_graph/airtightgraph/automorphism/Verification$Failure;" .null := (fw2.other W5 (Or.inr (slot_ne (Or.inr (hw _ (List.mem_of_getElem? (i := 10) rfl))) (Or.inr (hw _ (List.mem_of_getElem? (i := 12) rfl))) (by decide) (t := (.object "com/example/airtight_graph/airtightgraph/automorphism/Verification$Failure")) (t' := .int) (by decide) (by decide))))
  exact own_retV X5 hx hlk e5 hret (hb hby own_d1_14) (by decide) (by decide) ⟨rfl, N5, K5, f6, fw5⟩

theorem own_d3_0 : decode prog_8_method_2_code 0 = .ok (.aload_n 0, 1) := by decide +kernel
theorem own_d3_1 : decode prog_8_method_2_code 1 = .ok (.getfield 7, 3) := by decide +kernel
theorem own_d3_4 : decode prog_8_method_2_code 4 = .ok (.ifnonnull 7, 3) := by decide +kernel
theorem own_d3_7 : decode prog_8_method_2_code 7 = .ok (.iconst 1, 1) := by decide +kernel
theorem own_d3_8 : decode prog_8_method_2_code 8 = .ok (.goto 4, 3) := by decide +kernel
theorem own_d3_12 : decode prog_8_method_2_code 12 = .ok (.ireturn, 1) := by decide +kernel
theorem own_pn3 : plainName "com/example/airtight_graph/airtightgraph/automorphism/Verification" = true := by first | (simp [plainName, overriddenIn]; done) | decide +kernel
theorem own_ef3_n (m : MethodId) (x0 : Addr) : entryFrame m #[(.ref x0)] 1 = mkF m 0 #[.val (.ref x0)] [] := by first | (simp [entryFrame, mkF, argsToLocals, Value.category]; done) | rfl
def own_Q3_n (Z : State) (ax : Addr) (h0 : Heap) (n0 : Nat) (v : Option Value) (h : Heap) (L : List Loc) : Prop := v = some (.int (1 : Int32)) ∧ Fr n0 L ∧ h = h0
theorem own_rm3_n (l : Launch) (Z : State) (a0 : Array Value) (hw : ∀ d ∈ tables_1, d.before a0 Z = true) (ws : List Jvm.Cond) (ax : Addr) (h0 : Heap) (n0 : Nat) (Z0 : n0 ≤ h0.size) (pf0 : Fld Z h0 ax "com/example/airtight_graph/airtightgraph/automorphism/Verification" "failure" "Lcom/example/airtight_graph/airtightgraph/automorphism/Verification$Failure;" .null) :
    MetFree l (⟨"com/example/airtight_graph/airtightgraph/automorphism/Verification", "isProof", "()Z"⟩ : MethodName) (head1 (Jvm.Cond.code (⟨"com/example/airtight_graph/airtightgraph/automorphism/Verification", "isProof", "()Z"⟩ : MethodName) prog_8_method_2_code 1 (some .boolean) :: ws) ({ frames := 0, cells := 0, slots := 0, locals := 0 } : Room)) (fun a U => a = #[(.ref ax)] ∧ Z.Warmed39 U.vm ∧ U.heap = h0) (fun _ _ _ _ _ => True) (fun _ U o U' => ∃ v L, o = .returned v ∧ own_Q3_n Z ax h0 n0 v U'.heap L ∧ FrameEnd U o U' L ({ frames := 0, cells := 0, slots := 0, locals := 0 } : Room).cells ({ frames := 0, cells := 0, slots := 0, locals := 0 } : Room).slots) := by
  refine MetFree.of_bodySF (plainFor_of_name own_pn3) hisR ?_
  intro p e s m args below meth c s₁ Bd hml0 hP hK
  obtain ⟨rfl, hZ, hh⟩ := hP
  have hx := Bd.exec
  have hby := Bd.bytes
  have hlk := Bd.notSynchronized
  have hret := Bd.returns
  have hml : c.maxLocals = 1 := hml0
  have hown : s.vm.findClass "com/example/airtight_graph/airtightgraph/automorphism/Verification" = some m.cls := findClass_of_methodNamed Bd.named
  have hnm := (name_of_methodNamed Bd.named Bd.method).1
  have X0 : Stand p l e ({ frames := 0, cells := 0, slots := 0, locals := 0 } : Room) s m #[(.ref ax)] below meth c s₁ [] 0 0 := Stand.of_body Bd
  have e0 : s₁.heap = h0 := by rw [← hh, Bd.state]; rfl
  have N0 := Fr.nil n0
  suffices key : own_Go p e below (own_End s below (own_Q3_n Z ax h0 n0) ({ frames := 0, cells := 0, slots := 0, locals := 0 } : Room).cells ({ frames := 0, cells := 0, slots := 0, locals := 0 } : Room).slots) (s₁.setTop (mkF m 0 #[.val (.ref ax)] [])) by
    obtain ⟨t, k1, k2, v, L, k3, k4, k5⟩ := key
    exact ⟨t, _, castTop (own_ef3_n m ax) k1, k2, k3, v, L, rfl, k4, k5⟩
  show own_Go p e below _ (s₁.setTop (mkF m 0 #[.val (.ref ax)] []))
  refine own_by (fun _ => XS.aloadN X0.here hx rfl (hb hby own_d3_0) rfl rfl) ?_
  show own_Go p e below _ (s₁.setTop (mkF m 1 #[.val (.ref ax)] [(.ref ax)]))
  obtain ⟨T1, X1, e1, st1⟩ := getF X0 hx hZ hown (host := "") (Or.inl (hw _ (List.mem_of_getElem? (i := 9) rfl))) Via.refl e0 pf0 (g := (mkF m 1 #[.val (.ref ax)] [(.ref ax)])) rfl rfl (hb hby own_d3_1)
  refine own_by st1 ?_
  show own_Go p e below _ (T1.setTop (mkF m 4 #[.val (.ref ax)] [.null]))
  refine own_by (fun _ => XS.ifnonnullNo X1.here hx rfl (hb hby own_d3_4) rfl) ?_
  show own_Go p e below _ (T1.setTop (mkF m 7 #[.val (.ref ax)] []))
  refine own_by (fun _ => XS.iconst X1.here hx rfl (hb hby own_d3_7)) ?_
  show own_Go p e below _ (T1.setTop (mkF m 8 #[.val (.ref ax)] [(.int (1 : Int32))]))
  refine own_by (fun _ => XS.goto X1.here hx rfl (pc0 := 8) (pc' := 12) rfl (hb hby own_d3_8) (by decide) (by decide)) ?_
  show own_Go p e below _ (T1.setTop (mkF m 12 #[.val (.ref ax)] [(.int (1 : Int32))]))
  exact own_retZ X1 hx hlk e1 (by decide) hret (hb hby own_d3_12) (by decide) (by decide) ⟨rfl, N0, rfl⟩

theorem own_d4_0 : decode prog_8_method_3_code 0 = .ok (.aload_n 0, 1) := by decide +kernel
theorem own_d4_1 : decode prog_8_method_3_code 1 = .ok (.getfield 7, 3) := by decide +kernel
theorem own_d4_4 : decode prog_8_method_3_code 4 = .ok (.areturn, 1) := by decide +kernel
theorem own_pn4 : plainName "com/example/airtight_graph/airtightgraph/automorphism/Verification" = true := by first | (simp [plainName, overriddenIn]; done) | decide +kernel
theorem own_ef4_n (m : MethodId) (x0 : Addr) : entryFrame m #[(.ref x0)] 1 = mkF m 0 #[.val (.ref x0)] [] := by first | (simp [entryFrame, mkF, argsToLocals, Value.category]; done) | rfl
def own_Q4_n (Z : State) (ax : Addr) (h0 : Heap) (n0 : Nat) (v : Option Value) (h : Heap) (L : List Loc) : Prop := v = some .null ∧ Fr n0 L ∧ h = h0
theorem own_rm4_n (l : Launch) (Z : State) (a0 : Array Value) (hw : ∀ d ∈ tables_1, d.before a0 Z = true) (ws : List Jvm.Cond) (ax : Addr) (h0 : Heap) (n0 : Nat) (Z0 : n0 ≤ h0.size) (pf0 : Fld Z h0 ax "com/example/airtight_graph/airtightgraph/automorphism/Verification" "failure" "Lcom/example/airtight_graph/airtightgraph/automorphism/Verification$Failure;" .null) :
    MetFree l (⟨"com/example/airtight_graph/airtightgraph/automorphism/Verification", "failure", "()Lcom/example/airtight_graph/airtightgraph/automorphism/Verification$Failure;"⟩ : MethodName) (head1 (Jvm.Cond.code (⟨"com/example/airtight_graph/airtightgraph/automorphism/Verification", "failure", "()Lcom/example/airtight_graph/airtightgraph/automorphism/Verification$Failure;"⟩ : MethodName) prog_8_method_3_code 1 (some (.object "com/example/airtight_graph/airtightgraph/automorphism/Verification$Failure")) :: ws) ({ frames := 0, cells := 0, slots := 0, locals := 0 } : Room)) (fun a U => a = #[(.ref ax)] ∧ Z.Warmed39 U.vm ∧ U.heap = h0) (fun _ _ _ _ _ => True) (fun _ U o U' => ∃ v L, o = .returned v ∧ own_Q4_n Z ax h0 n0 v U'.heap L ∧ FrameEnd U o U' L ({ frames := 0, cells := 0, slots := 0, locals := 0 } : Room).cells ({ frames := 0, cells := 0, slots := 0, locals := 0 } : Room).slots) := by
  refine MetFree.of_bodySF (plainFor_of_name own_pn4) hisR ?_
  intro p e s m args below meth c s₁ Bd hml0 hP hK
  obtain ⟨rfl, hZ, hh⟩ := hP
  have hx := Bd.exec
  have hby := Bd.bytes
  have hlk := Bd.notSynchronized
  have hret := Bd.returns
  have hml : c.maxLocals = 1 := hml0
  have hown : s.vm.findClass "com/example/airtight_graph/airtightgraph/automorphism/Verification" = some m.cls := findClass_of_methodNamed Bd.named
  have hnm := (name_of_methodNamed Bd.named Bd.method).1
  have X0 : Stand p l e ({ frames := 0, cells := 0, slots := 0, locals := 0 } : Room) s m #[(.ref ax)] below meth c s₁ [] 0 0 := Stand.of_body Bd
  have e0 : s₁.heap = h0 := by rw [← hh, Bd.state]; rfl
  have N0 := Fr.nil n0
  suffices key : own_Go p e below (own_End s below (own_Q4_n Z ax h0 n0) ({ frames := 0, cells := 0, slots := 0, locals := 0 } : Room).cells ({ frames := 0, cells := 0, slots := 0, locals := 0 } : Room).slots) (s₁.setTop (mkF m 0 #[.val (.ref ax)] [])) by
    obtain ⟨t, k1, k2, v, L, k3, k4, k5⟩ := key
    exact ⟨t, _, castTop (own_ef4_n m ax) k1, k2, k3, v, L, rfl, k4, k5⟩
  show own_Go p e below _ (s₁.setTop (mkF m 0 #[.val (.ref ax)] []))
  refine own_by (fun _ => XS.aloadN X0.here hx rfl (hb hby own_d4_0) rfl rfl) ?_
  show own_Go p e below _ (s₁.setTop (mkF m 1 #[.val (.ref ax)] [(.ref ax)]))
  obtain ⟨T1, X1, e1, st1⟩ := getF X0 hx hZ hown (host := "") (Or.inl (hw _ (List.mem_of_getElem? (i := 9) rfl))) Via.refl e0 pf0 (g := (mkF m 1 #[.val (.ref ax)] [(.ref ax)])) rfl rfl (hb hby own_d4_1)
  refine own_by st1 ?_
  show own_Go p e below _ (T1.setTop (mkF m 4 #[.val (.ref ax)] [.null]))
  exact own_retR X1 hx hlk e1 rfl rfl hret (hb hby own_d4_4) (by decide) (by decide) ⟨rfl, N0, rfl⟩

theorem own_ef1_r (m : MethodId) (x0 : Addr) (x1 : Addr) (x2 : Int32) : entryFrame m #[(.ref x0), (.ref x1), (.int x2)] 3 = mkF m 0 #[.val (.ref x0), .val (.ref x1), .val (.int x2)] [] := by first | (simp [entryFrame, mkF, argsToLocals, Value.category]; done) | rfl
def own_Q1_r (Z : State) (ax : Addr) (fx : Addr) (xa : Int32) (uv : Value) (ua : Int32) (h0 : Heap) (n0 : Nat) (v : Option Value) (h : Heap) (L : List Loc) : Prop := v = none ∧ Fr n0 L ∧ Keep h0 h [ax] ∧ Fld Z h ax "com/example/airtight_graph/airtightgraph/automorphism/Verification" "failure" "Lcom/example/airtight_graph/airtightgraph/automorphism/Verification$Failure;" (.ref fx) ∧ Fld Z h ax "com/example/airtight_graph/airtightgraph/automorphism/Verification" "count" "I" (.int xa)
theorem own_rm1_r (l : Launch) (Z : State) (a0 : Array Value) (hw : ∀ d ∈ tables_1, d.before a0 Z = true) (ws : List Jvm.Cond) (ax : Addr) (fx : Addr) (xa : Int32) (uv : Value) (ua : Int32) (h0 : Heap) (n0 : Nat) (Z0 : n0 ≤ h0.size) (pf0 : Exa Z h0 ax "com/example/airtight_graph/airtightgraph/automorphism/Verification") (pf1 : Fld Z h0 ax "com/example/airtight_graph/airtightgraph/automorphism/Verification" "failure" "Lcom/example/airtight_graph/airtightgraph/automorphism/Verification$Failure;" uv) (pf2 : Fld Z h0 ax "com/example/airtight_graph/airtightgraph/automorphism/Verification" "count" "I" (.int ua)) (pg_ax : n0 ≤ ax) :
    MetFree l (⟨"com/example/airtight_graph/airtightgraph/automorphism/Verification", "<init>", "(Lcom/example/airtight_graph/airtightgraph/automorphism/Verification$Failure;I)V"⟩ : MethodName) (head1 (Jvm.Cond.code (⟨"com/example/airtight_graph/airtightgraph/automorphism/Verification", "<init>", "(Lcom/example/airtight_graph/airtightgraph/automorphism/Verification$Failure;I)V"⟩ : MethodName) prog_8_method_1_code 3 none :: ws) ({ frames := 1, cells := 0, slots := 0, locals := 12 } : Room)) (fun a U => a = #[(.ref ax), (.ref fx), (.int xa)] ∧ Z.Warmed39 U.vm ∧ U.heap = h0) (fun _ _ _ _ _ => True) (fun _ U o U' => ∃ v L, o = .returned v ∧ own_Q1_r Z ax fx xa uv ua h0 n0 v U'.heap L ∧ FrameEnd U o U' L ({ frames := 1, cells := 0, slots := 0, locals := 12 } : Room).cells ({ frames := 1, cells := 0, slots := 0, locals := 12 } : Room).slots) := by
  refine MetFree.of_bodySF (plainFor_of_name own_pn1) hisR ?_
  intro p e s m args below meth c s₁ Bd hml0 hP hK
  obtain ⟨rfl, hZ, hh⟩ := hP
  have hx := Bd.exec
  have hby := Bd.bytes
  have hlk := Bd.notSynchronized
  have hret := Bd.returns
  have hml : c.maxLocals = 3 := hml0
  have hown : s.vm.findClass "com/example/airtight_graph/airtightgraph/automorphism/Verification" = some m.cls := findClass_of_methodNamed Bd.named
  have hnm := (name_of_methodNamed Bd.named Bd.method).1
  have X0 : Stand p l e ({ frames := 1, cells := 0, slots := 0, locals := 12 } : Room) s m #[(.ref ax), (.ref fx), (.int xa)] below meth c s₁ [] 0 0 := Stand.of_body Bd
  have e0 : s₁.heap = h0 := by rw [← hh, Bd.state]; rfl
  have N0 := Fr.nil n0
  suffices key : own_Go p e below (own_End s below (own_Q1_r Z ax fx xa uv ua h0 n0) ({ frames := 1, cells := 0, slots := 0, locals := 12 } : Room).cells ({ frames := 1, cells := 0, slots := 0, locals := 12 } : Room).slots) (s₁.setTop (mkF m 0 #[.val (.ref ax), .val (.ref fx), .val (.int xa)] [])) by
    obtain ⟨t, k1, k2, v, L, k3, k4, k5⟩ := key
    exact ⟨t, _, castTop (own_ef1_r m ax fx xa) k1, k2, k3, v, L, rfl, k4, k5⟩
  show own_Go p e below _ (s₁.setTop (mkF m 0 #[.val (.ref ax), .val (.ref fx), .val (.int xa)] []))
  refine own_by (fun _ => XS.aloadN X0.here hx rfl (hb hby own_d1_0) rfl rfl) ?_
  show own_Go p e below _ (s₁.setTop (mkF m 1 #[.val (.ref ax), .val (.ref fx), .val (.int xa)] [(.ref ax)]))
  obtain ⟨T1, X1, e1, st1⟩ := initO X0 hx hZ hown (hw _ (List.mem_of_getElem? (i := 6) rfl)) (hw _ (List.mem_of_getElem? (i := 7) rfl)) (hw _ (List.mem_of_getElem? (i := 8) rfl)) e0 (g := (mkF m 1 #[.val (.ref ax), .val (.ref fx), .val (.int xa)] [(.ref ax)])) rfl (by rw [hml]; rfl) rfl (hb hby own_d1_1) (by decide) (W := 0) (by show 2 * 0 + _ ≤ _; exact Nat.le_of_eq rfl) (by decide)
  refine own_by st1 ?_
  show own_Go p e below _ (T1.setTop (mkF m 4 #[.val (.ref ax), .val (.ref fx), .val (.int xa)] []))
  refine own_by (fun _ => XS.aloadN X1.here hx rfl (hb hby own_d1_4) rfl rfl) ?_
  show own_Go p e below _ (T1.setTop (mkF m 5 #[.val (.ref ax), .val (.ref fx), .val (.int xa)] [(.ref ax)]))
  refine own_by (fun _ => XS.aloadN X1.here hx rfl (hb hby own_d1_5) rfl rfl) ?_
  show own_Go p e below _ (T1.setTop (mkF m 6 #[.val (.ref ax), .val (.ref fx), .val (.int xa)] [(.ref fx), (.ref ax)]))
  obtain ⟨T2, h2, X2, e2, W2, st2⟩ := putF X1 hx hZ hown (host := "") (Or.inl (hw _ (List.mem_of_getElem? (i := 9) rfl))) Via.refl e1 pf1 pf0 (Or.inr ⟨(hw _ (List.mem_of_getElem? (i := 10) rfl)), rfl, hnm⟩) (hw _ (List.mem_of_getElem? (i := 1) rfl)) (ty := (.object "com/example/airtight_graph/airtightgraph/automorphism/Verification$Failure")) (by decide) rfl rfl (g := (mkF m 6 #[.val (.ref ax), .val (.ref fx), .val (.int xa)] [(.ref fx), (.ref ax)])) rfl rfl (hb hby own_d1_6)
  refine own_by st2 ?_
  have fw2 : Fld Z h2 ax "com/example/airtight_graph/airtightgraph/automorphism/Verification" "failure" "Lcom/example/airtight_graph/airtightgraph/automorphism/Verification$Failure;" (.ref fx) := pf1.same W2
  have z2 : n0 ≤ h2.size := Nat.le_trans Z0 (Keep.of_wr W2).1
  have N2 := Fr.snoc X2 N0 pg_ax
  have K2 : Keep h0 h2 [ax] := (Keep.refl h0 [ax]).wr W2 (Or.inl (List.mem_of_getElem? (i := 0) rfl))
  show own_Go p e below _ (T2.setTop (mkF m 9 #[.val (.ref ax), .val (.ref fx), .val (.int xa)] []))
  refine own_by (fun _ => XS.aloadN X2.here hx rfl (hb hby own_d1_9) rfl rfl) ?_
  show own_Go p e below _ (T2.setTop (mkF m 10 #[.val (.ref ax), .val (.ref fx), .val (.int xa)] [(.ref ax)]))
  refine own_by (fun _ => XS.iloadN X2.here hx rfl (hb hby own_d1_10) rfl) ?_
  show own_Go p e below _ (T2.setTop (mkF m 11 #[.val (.ref ax), .val (.ref fx), .val (.int xa)] [(.int xa), (.ref ax)]))
  have f3 : Exa Z h2 ax "com/example/airtight_graph/airtightgraph/automorphism/Verification" := (pf0.wr W2)
  have f4 : Fld Z h2 ax "com/example/airtight_graph/airtightgraph/automorphism/Verification" "count" "I" (.int ua) := (pf2.other W2 (Or.inr (slot_ne (Or.inr (hw _ (List.mem_of_getElem? (i := 12) rfl))) (Or.inr (hw _ (List.mem_of_getElem? (i := 10) rfl))) (by decide) (t := .int) (t' := (.object "com/example/airtight_graph/airtightgraph/automorphism/Verification$Failure")) (by decide) (by decide))))
  obtain ⟨T5, h5, X5, e5, W5, st5⟩ := putF X2 hx hZ hown (host := "") (Or.inl (hw _ (List.mem_of_getElem? (i := 11) rfl))) Via.refl e2 f4 f3 (Or.inr ⟨(hw _ (List.mem_of_getElem? (i := 12) rfl)), rfl, hnm⟩) (hw _ (List.mem_of_getElem? (i := 1) rfl)) (ty := .int) (by decide) rfl rfl (g := (mkF m 11 #[.val (.ref ax), .val (.ref fx), .val (.int xa)] [(.int xa), (.ref ax)])) rfl rfl (hb hby own_d1_11)
  refine own_by st5 ?_
  have fw5 : Fld Z h5 ax "com/example/airtight_graph/airtightgraph/automorphism/Verification" "count" "I" (.int xa) := f4.same W5
  have z5 : n0 ≤ h5.size := Nat.le_trans z2 (Keep.of_wr W5).1
  have N5 := Fr.snoc X5 N2 pg_ax
  have K5 : Keep h0 h5 [ax] := K2.wr W5 (Or.inl (List.mem_of_getElem? (i := 0) rfl))
  show own_Go p e below _ (T5.setTop (mkF m 14 #[.val (.ref ax), .val (.ref fx), .val (.int xa)] []))
  have f6 : Fld Z h5 ax "com/example/airtight_graph/airtightgraph/automorphism/Verification" "failure" "Lcom/example/airtight_graph/airtightgraph/automorphism/Verification$Failure;" (.ref fx) := (fw2.other W5 (Or.inr (slot_ne (Or.inr (hw _ (List.mem_of_getElem? (i := 10) rfl))) (Or.inr (hw _ (List.mem_of_getElem? (i := 12) rfl))) (by decide) (t := (.object "com/example/airtight_graph/airtightgraph/automorphism/Verification$Failure")) (t' := .int) (by decide) (by decide))))
  exact own_retV X5 hx hlk e5 hret (hb hby own_d1_14) (by decide) (by decide) ⟨rfl, N5, K5, f6, fw5⟩

theorem own_d3_11 : decode prog_8_method_2_code 11 = .ok (.iconst 0, 1) := by decide +kernel
theorem own_ef3_r (m : MethodId) (x0 : Addr) : entryFrame m #[(.ref x0)] 1 = mkF m 0 #[.val (.ref x0)] [] := by first | (simp [entryFrame, mkF, argsToLocals, Value.category]; done) | rfl
def own_Q3_r (Z : State) (ax : Addr) (fx : Addr) (h0 : Heap) (n0 : Nat) (v : Option Value) (h : Heap) (L : List Loc) : Prop := v = some (.int (0 : Int32)) ∧ Fr n0 L ∧ h = h0
theorem own_rm3_r (l : Launch) (Z : State) (a0 : Array Value) (hw : ∀ d ∈ tables_1, d.before a0 Z = true) (ws : List Jvm.Cond) (ax : Addr) (fx : Addr) (h0 : Heap) (n0 : Nat) (Z0 : n0 ≤ h0.size) (pf0 : Fld Z h0 ax "com/example/airtight_graph/airtightgraph/automorphism/Verification" "failure" "Lcom/example/airtight_graph/airtightgraph/automorphism/Verification$Failure;" (.ref fx)) :
    MetFree l (⟨"com/example/airtight_graph/airtightgraph/automorphism/Verification", "isProof", "()Z"⟩ : MethodName) (head1 (Jvm.Cond.code (⟨"com/example/airtight_graph/airtightgraph/automorphism/Verification", "isProof", "()Z"⟩ : MethodName) prog_8_method_2_code 1 (some .boolean) :: ws) ({ frames := 0, cells := 0, slots := 0, locals := 0 } : Room)) (fun a U => a = #[(.ref ax)] ∧ Z.Warmed39 U.vm ∧ U.heap = h0) (fun _ _ _ _ _ => True) (fun _ U o U' => ∃ v L, o = .returned v ∧ own_Q3_r Z ax fx h0 n0 v U'.heap L ∧ FrameEnd U o U' L ({ frames := 0, cells := 0, slots := 0, locals := 0 } : Room).cells ({ frames := 0, cells := 0, slots := 0, locals := 0 } : Room).slots) := by
  refine MetFree.of_bodySF (plainFor_of_name own_pn3) hisR ?_
  intro p e s m args below meth c s₁ Bd hml0 hP hK
  obtain ⟨rfl, hZ, hh⟩ := hP
  have hx := Bd.exec
  have hby := Bd.bytes
  have hlk := Bd.notSynchronized
  have hret := Bd.returns
  have hml : c.maxLocals = 1 := hml0
  have hown : s.vm.findClass "com/example/airtight_graph/airtightgraph/automorphism/Verification" = some m.cls := findClass_of_methodNamed Bd.named
  have hnm := (name_of_methodNamed Bd.named Bd.method).1
  have X0 : Stand p l e ({ frames := 0, cells := 0, slots := 0, locals := 0 } : Room) s m #[(.ref ax)] below meth c s₁ [] 0 0 := Stand.of_body Bd
  have e0 : s₁.heap = h0 := by rw [← hh, Bd.state]; rfl
  have N0 := Fr.nil n0
  suffices key : own_Go p e below (own_End s below (own_Q3_r Z ax fx h0 n0) ({ frames := 0, cells := 0, slots := 0, locals := 0 } : Room).cells ({ frames := 0, cells := 0, slots := 0, locals := 0 } : Room).slots) (s₁.setTop (mkF m 0 #[.val (.ref ax)] [])) by
    obtain ⟨t, k1, k2, v, L, k3, k4, k5⟩ := key
    exact ⟨t, _, castTop (own_ef3_r m ax) k1, k2, k3, v, L, rfl, k4, k5⟩
  show own_Go p e below _ (s₁.setTop (mkF m 0 #[.val (.ref ax)] []))
  refine own_by (fun _ => XS.aloadN X0.here hx rfl (hb hby own_d3_0) rfl rfl) ?_
  show own_Go p e below _ (s₁.setTop (mkF m 1 #[.val (.ref ax)] [(.ref ax)]))
  obtain ⟨T1, X1, e1, st1⟩ := getF X0 hx hZ hown (host := "") (Or.inl (hw _ (List.mem_of_getElem? (i := 9) rfl))) Via.refl e0 pf0 (g := (mkF m 1 #[.val (.ref ax)] [(.ref ax)])) rfl rfl (hb hby own_d3_1)
  refine own_by st1 ?_
  show own_Go p e below _ (T1.setTop (mkF m 4 #[.val (.ref ax)] [(.ref fx)]))
  refine own_by (fun _ => XS.ifnonnullYes X1.here hx rfl (pc0 := 4) (pc' := 11) rfl (hb hby own_d3_4) rfl (by decide) (by decide)) ?_
  show own_Go p e below _ (T1.setTop (mkF m 11 #[.val (.ref ax)] []))
  refine own_by (fun _ => XS.iconst X1.here hx rfl (hb hby own_d3_11)) ?_
  show own_Go p e below _ (T1.setTop (mkF m 12 #[.val (.ref ax)] [(.int (0 : Int32))]))
  exact own_retZ X1 hx hlk e1 (by decide) hret (hb hby own_d3_12) (by decide) (by decide) ⟨rfl, N0, rfl⟩

theorem own_ef4_r (m : MethodId) (x0 : Addr) : entryFrame m #[(.ref x0)] 1 = mkF m 0 #[.val (.ref x0)] [] := by first | (simp [entryFrame, mkF, argsToLocals, Value.category]; done) | rfl
def own_Q4_r (Z : State) (ax : Addr) (fx : Addr) (h0 : Heap) (n0 : Nat) (v : Option Value) (h : Heap) (L : List Loc) : Prop := v = some (.ref fx) ∧ Fr n0 L ∧ h = h0
theorem own_rm4_r (l : Launch) (Z : State) (a0 : Array Value) (hw : ∀ d ∈ tables_1, d.before a0 Z = true) (ws : List Jvm.Cond) (ax : Addr) (fx : Addr) (h0 : Heap) (n0 : Nat) (Z0 : n0 ≤ h0.size) (pf0 : Fld Z h0 ax "com/example/airtight_graph/airtightgraph/automorphism/Verification" "failure" "Lcom/example/airtight_graph/airtightgraph/automorphism/Verification$Failure;" (.ref fx)) :
    MetFree l (⟨"com/example/airtight_graph/airtightgraph/automorphism/Verification", "failure", "()Lcom/example/airtight_graph/airtightgraph/automorphism/Verification$Failure;"⟩ : MethodName) (head1 (Jvm.Cond.code (⟨"com/example/airtight_graph/airtightgraph/automorphism/Verification", "failure", "()Lcom/example/airtight_graph/airtightgraph/automorphism/Verification$Failure;"⟩ : MethodName) prog_8_method_3_code 1 (some (.object "com/example/airtight_graph/airtightgraph/automorphism/Verification$Failure")) :: ws) ({ frames := 0, cells := 0, slots := 0, locals := 0 } : Room)) (fun a U => a = #[(.ref ax)] ∧ Z.Warmed39 U.vm ∧ U.heap = h0) (fun _ _ _ _ _ => True) (fun _ U o U' => ∃ v L, o = .returned v ∧ own_Q4_r Z ax fx h0 n0 v U'.heap L ∧ FrameEnd U o U' L ({ frames := 0, cells := 0, slots := 0, locals := 0 } : Room).cells ({ frames := 0, cells := 0, slots := 0, locals := 0 } : Room).slots) := by
  refine MetFree.of_bodySF (plainFor_of_name own_pn4) hisR ?_
  intro p e s m args below meth c s₁ Bd hml0 hP hK
  obtain ⟨rfl, hZ, hh⟩ := hP
  have hx := Bd.exec
  have hby := Bd.bytes
  have hlk := Bd.notSynchronized
  have hret := Bd.returns
  have hml : c.maxLocals = 1 := hml0
  have hown : s.vm.findClass "com/example/airtight_graph/airtightgraph/automorphism/Verification" = some m.cls := findClass_of_methodNamed Bd.named
  have hnm := (name_of_methodNamed Bd.named Bd.method).1
  have X0 : Stand p l e ({ frames := 0, cells := 0, slots := 0, locals := 0 } : Room) s m #[(.ref ax)] below meth c s₁ [] 0 0 := Stand.of_body Bd
  have e0 : s₁.heap = h0 := by rw [← hh, Bd.state]; rfl
  have N0 := Fr.nil n0
  suffices key : own_Go p e below (own_End s below (own_Q4_r Z ax fx h0 n0) ({ frames := 0, cells := 0, slots := 0, locals := 0 } : Room).cells ({ frames := 0, cells := 0, slots := 0, locals := 0 } : Room).slots) (s₁.setTop (mkF m 0 #[.val (.ref ax)] [])) by
    obtain ⟨t, k1, k2, v, L, k3, k4, k5⟩ := key
    exact ⟨t, _, castTop (own_ef4_r m ax) k1, k2, k3, v, L, rfl, k4, k5⟩
  show own_Go p e below _ (s₁.setTop (mkF m 0 #[.val (.ref ax)] []))
  refine own_by (fun _ => XS.aloadN X0.here hx rfl (hb hby own_d4_0) rfl rfl) ?_
  show own_Go p e below _ (s₁.setTop (mkF m 1 #[.val (.ref ax)] [(.ref ax)]))
  obtain ⟨T1, X1, e1, st1⟩ := getF X0 hx hZ hown (host := "") (Or.inl (hw _ (List.mem_of_getElem? (i := 9) rfl))) Via.refl e0 pf0 (g := (mkF m 1 #[.val (.ref ax)] [(.ref ax)])) rfl rfl (hb hby own_d4_1)
  refine own_by st1 ?_
  show own_Go p e below _ (T1.setTop (mkF m 4 #[.val (.ref ax)] [(.ref fx)]))
  exact own_retR X1 hx hlk e1 rfl rfl hret (hb hby own_d4_4) (by decide) (by decide) ⟨rfl, N0, rfl⟩

theorem own_d5_0 : decode prog_8_method_4_code 0 = .ok (.aload_n 0, 1) := by decide +kernel
theorem own_d5_1 : decode prog_8_method_4_code 1 = .ok (.getfield 13, 3) := by decide +kernel
theorem own_d5_4 : decode prog_8_method_4_code 4 = .ok (.ireturn, 1) := by decide +kernel
theorem own_pn5 : plainName "com/example/airtight_graph/airtightgraph/automorphism/Verification" = true := by first | (simp [plainName, overriddenIn]; done) | decide +kernel
theorem own_ef5 (m : MethodId) (x0 : Addr) : entryFrame m #[(.ref x0)] 1 = mkF m 0 #[.val (.ref x0)] [] := by first | (simp [entryFrame, mkF, argsToLocals, Value.category]; done) | rfl
def own_Q5 (Z : State) (ax : Addr) (ua : Int32) (h0 : Heap) (n0 : Nat) (v : Option Value) (h : Heap) (L : List Loc) : Prop := v = some (.int ua) ∧ Fr n0 L ∧ h = h0
theorem own_rm5 (l : Launch) (Z : State) (a0 : Array Value) (hw : ∀ d ∈ tables_1, d.before a0 Z = true) (ws : List Jvm.Cond) (ax : Addr) (ua : Int32) (h0 : Heap) (n0 : Nat) (Z0 : n0 ≤ h0.size) (pf0 : Fld Z h0 ax "com/example/airtight_graph/airtightgraph/automorphism/Verification" "count" "I" (.int ua)) :
    MetFree l (⟨"com/example/airtight_graph/airtightgraph/automorphism/Verification", "count", "()I"⟩ : MethodName) (head1 (Jvm.Cond.code (⟨"com/example/airtight_graph/airtightgraph/automorphism/Verification", "count", "()I"⟩ : MethodName) prog_8_method_4_code 1 (some .int) :: ws) ({ frames := 0, cells := 0, slots := 0, locals := 0 } : Room)) (fun a U => a = #[(.ref ax)] ∧ Z.Warmed39 U.vm ∧ U.heap = h0) (fun _ _ _ _ _ => True) (fun _ U o U' => ∃ v L, o = .returned v ∧ own_Q5 Z ax ua h0 n0 v U'.heap L ∧ FrameEnd U o U' L ({ frames := 0, cells := 0, slots := 0, locals := 0 } : Room).cells ({ frames := 0, cells := 0, slots := 0, locals := 0 } : Room).slots) := by
  refine MetFree.of_bodySF (plainFor_of_name own_pn5) hisR ?_
  intro p e s m args below meth c s₁ Bd hml0 hP hK
  obtain ⟨rfl, hZ, hh⟩ := hP
  have hx := Bd.exec
  have hby := Bd.bytes
  have hlk := Bd.notSynchronized
  have hret := Bd.returns
  have hml : c.maxLocals = 1 := hml0
  have hown : s.vm.findClass "com/example/airtight_graph/airtightgraph/automorphism/Verification" = some m.cls := findClass_of_methodNamed Bd.named
  have hnm := (name_of_methodNamed Bd.named Bd.method).1
  have X0 : Stand p l e ({ frames := 0, cells := 0, slots := 0, locals := 0 } : Room) s m #[(.ref ax)] below meth c s₁ [] 0 0 := Stand.of_body Bd
  have e0 : s₁.heap = h0 := by rw [← hh, Bd.state]; rfl
  have N0 := Fr.nil n0
  suffices key : own_Go p e below (own_End s below (own_Q5 Z ax ua h0 n0) ({ frames := 0, cells := 0, slots := 0, locals := 0 } : Room).cells ({ frames := 0, cells := 0, slots := 0, locals := 0 } : Room).slots) (s₁.setTop (mkF m 0 #[.val (.ref ax)] [])) by
    obtain ⟨t, k1, k2, v, L, k3, k4, k5⟩ := key
    exact ⟨t, _, castTop (own_ef5 m ax) k1, k2, k3, v, L, rfl, k4, k5⟩
  show own_Go p e below _ (s₁.setTop (mkF m 0 #[.val (.ref ax)] []))
  refine own_by (fun _ => XS.aloadN X0.here hx rfl (hb hby own_d5_0) rfl rfl) ?_
  show own_Go p e below _ (s₁.setTop (mkF m 1 #[.val (.ref ax)] [(.ref ax)]))
  obtain ⟨T1, X1, e1, st1⟩ := getF X0 hx hZ hown (host := "") (Or.inl (hw _ (List.mem_of_getElem? (i := 11) rfl))) Via.refl e0 pf0 (g := (mkF m 1 #[.val (.ref ax)] [(.ref ax)])) rfl rfl (hb hby own_d5_1)
  refine own_by st1 ?_
  show own_Go p e below _ (T1.setTop (mkF m 4 #[.val (.ref ax)] [(.int ua)]))
  exact own_retI X1 hx hlk e1 hret (hb hby own_d5_4) (by decide) (by decide) ⟨rfl, N0, rfl⟩

theorem own_pn0 : plainName "com/example/airtight_graph/airtightgraph/automorphism/VerificationIsProofPinLaw" = true := by first | (simp [plainName, overriddenIn]; done) | decide +kernel
theorem own_ef0 (m : MethodId) (x0 : Int32) (x1 : Int32) : entryFrame m #[(.int x0), (.int x1)] maxLocals = mkF m 0 #[.val (.int x0), .val (.int x1), .unset, .unset, .unset, .unset, .unset] [] := by first | (simp [entryFrame, mkF, argsToLocals, Value.category, maxLocals]; done) | rfl
def own_Q0 (Z : State) (xa : Int32) (xb : Int32) (u0 : Addr) (u1 : Addr) (u2 : Addr) (h0 : Heap) (n0 : Nat) (v : Option Value) (h : Heap) (L : List Loc) : Prop := v = some (.int (1 : Int32)) ∧ Fr n0 L
theorem own_rm0 (l : Launch) (Z : State) (a0 : Array Value) (hw : ∀ d ∈ tables_1, d.before a0 Z = true) (ws : List Jvm.Cond) (xa : Int32) (xb : Int32) (u0 : Addr) (u1 : Addr) (u2 : Addr) (h0 : Heap) (n0 : Nat) (Z0 : n0 ≤ h0.size) (pf0 : Sta Z h0 "com/example/airtight_graph/airtightgraph/automorphism/Verification$Failure" "VERTICES_MISSING" "Lcom/example/airtight_graph/airtightgraph/automorphism/Verification$Failure;" (.ref u0)) (pf1 : Sta Z h0 "com/example/airtight_graph/airtightgraph/automorphism/Verification$Failure" "NAMES_NOT_IN_GRAPH" "Lcom/example/airtight_graph/airtightgraph/automorphism/Verification$Failure;" (.ref u1)) (pf2 : Sta Z h0 "com/example/airtight_graph/airtightgraph/automorphism/Verification$Failure" "EDGES_NOT_PRESERVED" "Lcom/example/airtight_graph/airtightgraph/automorphism/Verification$Failure;" (.ref u2)) :
    MetFree l x (head1 (Jvm.Cond.code x code maxLocals ret :: ws) room_1) (fun a U => a = #[(.int xa), (.int xb)] ∧ Z.Warmed39 U.vm ∧ U.heap = h0) (fun _ _ _ _ _ => True) (fun _ U o U' => ∃ v L, o = .returned v ∧ own_Q0 Z xa xb u0 u1 u2 h0 n0 v U'.heap L ∧ FrameEnd U o U' L room_1.cells room_1.slots) := by
  refine MetFree.of_bodySF (plainFor_of_name own_pn0) hisR ?_
  intro p e s m args below meth c s₁ Bd hml0 hP hK
  obtain ⟨rfl, hZ, hh⟩ := hP
  have hx := Bd.exec
  have hby := Bd.bytes
  have hlk := Bd.notSynchronized
  have hret := Bd.returns
  have hml : c.maxLocals = 7 := hml0
  have hown : s.vm.findClass "com/example/airtight_graph/airtightgraph/automorphism/VerificationIsProofPinLaw" = some m.cls := findClass_of_methodNamed Bd.named
  have hnm := (name_of_methodNamed Bd.named Bd.method).1
  have X0 : Stand p l e room_1 s m #[(.int xa), (.int xb)] below meth c s₁ [] 0 0 := Stand.of_body Bd
  have e0 : s₁.heap = h0 := by rw [← hh, Bd.state]; rfl
  have N0 := Fr.nil n0
  suffices key : own_Go p e below (own_End s below (own_Q0 Z xa xb u0 u1 u2 h0 n0) room_1.cells room_1.slots) (s₁.setTop (mkF m 0 #[.val (.int xa), .val (.int xb), .unset, .unset, .unset, .unset, .unset] [])) by
    obtain ⟨t, k1, k2, v, L, k3, k4, k5⟩ := key
    exact ⟨t, _, castTop (own_ef0 m xa xb) k1, k2, k3, v, L, rfl, k4, k5⟩
  show own_Go p e below _ (s₁.setTop (mkF m 0 #[.val (.int xa), .val (.int xb), .unset, .unset, .unset, .unset, .unset] []))
  refine own_by (fun _ => XS.iloadN X0.here hx rfl (hb hby at_0) rfl) ?_
  show own_Go p e below _ (s₁.setTop (mkF m 1 #[.val (.int xa), .val (.int xb), .unset, .unset, .unset, .unset, .unset] [(.int xa)]))
  refine own_by (fun _ => XS.iconst X0.here hx rfl (hb hby at_1)) ?_
  show own_Go p e below _ (s₁.setTop (mkF m 2 #[.val (.int xa), .val (.int xb), .unset, .unset, .unset, .unset, .unset] [(.int (3 : Int32)), (.int xa)]))
  refine own_by (fun _ => XS.iand X0.here hx rfl (hb hby at_2) rfl) ?_
  show own_Go p e below _ (s₁.setTop (mkF m 3 #[.val (.int xa), .val (.int xb), .unset, .unset, .unset, .unset, .unset] [(.int (xa &&& (3 : Int32)))]))
  refine own_by (fun _ => XS.istoreN X0.here hx rfl (hb hby at_3) rfl (l' := #[.val (.int xa), .val (.int xb), .val (.int (xa &&& (3 : Int32))), .unset, .unset, .unset, .unset]) rfl) ?_
  show own_Go p e below _ (s₁.setTop (mkF m 4 #[.val (.int xa), .val (.int xb), .val (.int (xa &&& (3 : Int32))), .unset, .unset, .unset, .unset] []))
  refine own_by (fun _ => XS.iloadN X0.here hx rfl (hb hby at_4) rfl) ?_
  show own_Go p e below _ (s₁.setTop (mkF m 5 #[.val (.int xa), .val (.int xb), .val (.int (xa &&& (3 : Int32))), .unset, .unset, .unset, .unset] [(.int (xa &&& (3 : Int32)))]))
  by_cases hc5_1 : (xa &&& (3 : Int32)) = (0 : Int32)
  ·
    skip
    refine own_by (fun _ => XS.ifNo X0.here hx rfl (hb hby at_5) rfl ((if0 _ _).trans (teq hc5_1).2)) ?_
    show own_Go p e below _ (s₁.setTop (mkF m 8 #[.val (.int xa), .val (.int xb), .val (.int (xa &&& (3 : Int32))), .unset, .unset, .unset, .unset] []))
    refine own_by (fun _ => XS.aconstNull X0.here hx rfl (hb hby at_8)) ?_
    show own_Go p e below _ (s₁.setTop (mkF m 9 #[.val (.int xa), .val (.int xb), .val (.int (xa &&& (3 : Int32))), .unset, .unset, .unset, .unset] [.null]))
    refine own_by (fun _ => XS.astoreN X0.here hx rfl (hb hby at_9) rfl rfl (l' := #[.val (.int xa), .val (.int xb), .val (.int (xa &&& (3 : Int32))), .val .null, .unset, .unset, .unset]) rfl) ?_
    show own_Go p e below _ (s₁.setTop (mkF m 10 #[.val (.int xa), .val (.int xb), .val (.int (xa &&& (3 : Int32))), .val .null, .unset, .unset, .unset] []))
    refine own_by (fun _ => XS.goto X0.here hx rfl (pc0 := 10) (pc' := 41) rfl (hb hby at_10) (by decide) (by decide)) ?_
    show own_Go p e below _ (s₁.setTop (mkF m 41 #[.val (.int xa), .val (.int xb), .val (.int (xa &&& (3 : Int32))), .val .null, .unset, .unset, .unset] []))
    obtain ⟨T2, h2, X2, e2, E2, A2, D2, -, st2⟩ := newO X0 hx hZ hown (hw _ (List.mem_of_getElem? (i := 0) rfl)) (hw _ (List.mem_of_getElem? (i := 1) rfl)) (hw _ (List.mem_of_getElem? (i := 2) rfl)) e0 (g := (mkF m 41 #[.val (.int xa), .val (.int xb), .val (.int (xa &&& (3 : Int32))), .val .null, .unset, .unset, .unset] [])) rfl (hb hby at_41) (by decide) (by decide)
    obtain ⟨b2, g2⟩ : ∃ z, z = h0.size := ⟨_, rfl⟩
    rw [← g2] at A2 D2 st2
    refine own_by st2 ?_
    have ge2 : n0 ≤ b2 := Nat.le_trans Z0 (Nat.le_of_eq g2.symm)
    have z2 : n0 ≤ h2.size := Nat.le_trans Z0 E2.1
    have fz2_failure : Fld Z h2 b2 "com/example/airtight_graph/airtightgraph/automorphism/Verification" "failure" "Lcom/example/airtight_graph/airtightgraph/automorphism/Verification$Failure;" .null := D2 (Or.inr (hw _ (List.mem_of_getElem? (i := 10) rfl))) (ty := (.object "com/example/airtight_graph/airtightgraph/automorphism/Verification$Failure")) (by decide)
    have fz2_count : Fld Z h2 b2 "com/example/airtight_graph/airtightgraph/automorphism/Verification" "count" "I" (.int (0 : Int32)) := D2 (Or.inr (hw _ (List.mem_of_getElem? (i := 12) rfl))) (ty := .int) (by decide)
    show own_Go p e below _ (T2.setTop (mkF m 44 #[.val (.int xa), .val (.int xb), .val (.int (xa &&& (3 : Int32))), .val .null, .unset, .unset, .unset] [(.ref b2)]))
    refine own_by (fun _ => XS.dup X2.here hx rfl (hb hby at_44) rfl rfl) ?_
    show own_Go p e below _ (T2.setTop (mkF m 45 #[.val (.int xa), .val (.int xb), .val (.int (xa &&& (3 : Int32))), .val .null, .unset, .unset, .unset] [(.ref b2), (.ref b2)]))
    refine own_by (fun _ => XS.aloadN X2.here hx rfl (hb hby at_45) rfl rfl) ?_
    show own_Go p e below _ (T2.setTop (mkF m 46 #[.val (.int xa), .val (.int xb), .val (.int (xa &&& (3 : Int32))), .val .null, .unset, .unset, .unset] [.null, (.ref b2), (.ref b2)]))
    refine own_by (fun _ => XS.iloadN X2.here hx rfl (hb hby at_46) rfl) ?_
    show own_Go p e below _ (T2.setTop (mkF m 47 #[.val (.int xa), .val (.int xb), .val (.int (xa &&& (3 : Int32))), .val .null, .unset, .unset, .unset] [(.int xb), .null, (.ref b2), (.ref b2)]))
    obtain ⟨_, _, ⟨T3, L3, k3, n3⟩, -, X3, ⟨Lc3, hQ3, l3, y3, z3'⟩, st3⟩ := X2.specialBack hx (y := (⟨"com/example/airtight_graph/airtightgraph/automorphism/Verification", "<init>", "(Lcom/example/airtight_graph/airtightgraph/automorphism/Verification$Failure;I)V"⟩ : MethodName)) rfl hown (mvT hZ (hw _ (List.mem_of_getElem? (i := 3) rfl))) (mvT hZ (hw _ (List.mem_of_getElem? (i := 4) rfl))) (mvT hZ (hw _ (List.mem_of_getElem? (i := 5) rfl))) (by decide) (backOf (W := 1) (own_rm1_n l Z a0 hw [] b2 xb .null (0 : Int32) h2 n0 z2 A2 fz2_failure fz2_count ge2) hZ (hw _ (List.mem_of_getElem? (i := 5) rfl)) (hw _ (List.mem_of_getElem? (i := 2) rfl)) (by decide) (by decide)) (g := (mkF m 47 #[.val (.int xa), .val (.int xb), .val (.int (xa &&& (3 : Int32))), .val .null, .unset, .unset, .unset] [(.int xb), .null, (.ref b2), (.ref b2)])) rfl (by rw [hml]; rfl) (Steps.refl _) (a := b2) (argsL := [.null, (.int xb)]) (rest := [(.ref b2)]) (lenOf own_pd0 rfl) rfl (by show 2 * 0 + _ ≤ _; exact Nat.le_of_eq rfl) (hb hby at_47) (fun _ _ => ⟨rfl, e2, (by decide : 1 + 0 ≤ _), (by decide : 2 + 0 ≤ _)⟩)
    dsimp only [Pt.U, Pt.locs, Pt.cells, Pt.slots] at X3 l3 y3 z3' st3 hQ3
    subst l3 y3 z3'
    obtain ⟨rfl, N3q, Kc3, fc3_0, fc3_1⟩ := hQ3
    have N3 := Fr.app N0 N3q
    refine own_tr st3 ?_
    have z3 : n0 ≤ T3.heap.size := Nat.le_trans z2 Kc3.1
    show own_Go p e below _ (T3.setTop (mkF m 50 #[.val (.int xa), .val (.int xb), .val (.int (xa &&& (3 : Int32))), .val .null, .unset, .unset, .unset] [(.ref b2)]))
    refine own_by (fun _ => XS.astore X3.here hx rfl (hb hby at_50) rfl rfl (l' := #[.val (.int xa), .val (.int xb), .val (.int (xa &&& (3 : Int32))), .val .null, .val (.ref b2), .unset, .unset]) rfl) ?_
    show own_Go p e below _ (T3.setTop (mkF m 52 #[.val (.int xa), .val (.int xb), .val (.int (xa &&& (3 : Int32))), .val .null, .val (.ref b2), .unset, .unset] []))
    refine own_by (fun _ => XS.aload X3.here hx rfl (hb hby at_52) rfl rfl) ?_
    show own_Go p e below _ (T3.setTop (mkF m 54 #[.val (.int xa), .val (.int xb), .val (.int (xa &&& (3 : Int32))), .val .null, .val (.ref b2), .unset, .unset] [(.ref b2)]))
    have f5 : Exa Z T3.heap b2 "com/example/airtight_graph/airtightgraph/automorphism/Verification" := (A2.keep Kc3)
    obtain ⟨cq4, kq4, q4a, q4b, q4c⟩ := isOf hZ rfl f5
    obtain ⟨_, _, ⟨T4, L4, k4, n4⟩, -, X4, ⟨Lc4, hQ4, l4, y4, z4'⟩, st4⟩ := X3.virtualBack hx (y := (⟨"com/example/airtight_graph/airtightgraph/automorphism/Verification", "isProof", "()Z"⟩ : MethodName)) (z := (⟨"com/example/airtight_graph/airtightgraph/automorphism/Verification", "isProof", "()Z"⟩ : MethodName)) hown (mvT hZ (hw _ (List.mem_of_getElem? (i := 13) rfl))) (mvT hZ (hw _ (List.mem_of_getElem? (i := 14) rfl))) (notFace_of_selects (args := #[]) (mvT hZ (hw _ (List.mem_of_getElem? (i := 16) rfl)))) (mvT hZ (hw _ (List.mem_of_getElem? (i := 16) rfl))) (mvT hZ (hw _ (List.mem_of_getElem? (i := 15) rfl))) (by decide) (backOf (W := 0) (own_rm3_n l Z a0 hw [] b2 T3.heap n0 z3 fc3_0) hZ (hw _ (List.mem_of_getElem? (i := 17) rfl)) (hw _ (List.mem_of_getElem? (i := 2) rfl)) (by decide) (by decide)) q4a q4c (g := (mkF m 54 #[.val (.int xa), .val (.int xb), .val (.int (xa &&& (3 : Int32))), .val .null, .val (.ref b2), .unset, .unset] [(.ref b2)])) rfl (by rw [hml]; rfl) (Steps.refl _) (argsL := []) (rest := []) (lenOf own_pd1 rfl) rfl (by show 2 * 0 + _ ≤ _; exact Nat.le_of_eq rfl) (hb hby at_54) (fun _ _ => ⟨rfl, rfl, (by decide : 1 + 0 ≤ _), (by decide : 2 + 0 ≤ _)⟩)
    dsimp only [Pt.U, Pt.locs, Pt.cells, Pt.slots] at X4 l4 y4 z4' st4 hQ4
    subst l4 y4 z4'
    obtain ⟨rfl, N4q, e4⟩ := hQ4
    have N4 := Fr.app N3 N4q
    refine own_tr st4 ?_
    show own_Go p e below _ (T4.setTop (mkF m 57 #[.val (.int xa), .val (.int xb), .val (.int (xa &&& (3 : Int32))), .val .null, .val (.ref b2), .unset, .unset] [(.int (1 : Int32))]))
    refine own_by (fun _ => XS.istore X4.here hx rfl (hb hby at_57) rfl (l' := #[.val (.int xa), .val (.int xb), .val (.int (xa &&& (3 : Int32))), .val .null, .val (.ref b2), .val (.int (1 : Int32)), .unset]) rfl) ?_
    show own_Go p e below _ (T4.setTop (mkF m 59 #[.val (.int xa), .val (.int xb), .val (.int (xa &&& (3 : Int32))), .val .null, .val (.ref b2), .val (.int (1 : Int32)), .unset] []))
    refine own_by (fun _ => XS.iloadN X4.here hx rfl (hb hby at_59) rfl) ?_
    show own_Go p e below _ (T4.setTop (mkF m 60 #[.val (.int xa), .val (.int xb), .val (.int (xa &&& (3 : Int32))), .val .null, .val (.ref b2), .val (.int (1 : Int32)), .unset] [(.int (xa &&& (3 : Int32)))]))
    refine own_by (fun _ => XS.ifNo X4.here hx rfl (hb hby at_60) rfl ((if0 _ _).trans (teq hc5_1).2)) ?_
    show own_Go p e below _ (T4.setTop (mkF m 63 #[.val (.int xa), .val (.int xb), .val (.int (xa &&& (3 : Int32))), .val .null, .val (.ref b2), .val (.int (1 : Int32)), .unset] []))
    refine own_by (fun _ => XS.iconst X4.here hx rfl (hb hby at_63)) ?_
    show own_Go p e below _ (T4.setTop (mkF m 64 #[.val (.int xa), .val (.int xb), .val (.int (xa &&& (3 : Int32))), .val .null, .val (.ref b2), .val (.int (1 : Int32)), .unset] [(.int (1 : Int32))]))
    refine own_by (fun _ => XS.goto X4.here hx rfl (pc0 := 64) (pc' := 68) rfl (hb hby at_64) (by decide) (by decide)) ?_
    show own_Go p e below _ (T4.setTop (mkF m 68 #[.val (.int xa), .val (.int xb), .val (.int (xa &&& (3 : Int32))), .val .null, .val (.ref b2), .val (.int (1 : Int32)), .unset] [(.int (1 : Int32))]))
    refine own_by (fun _ => XS.istore X4.here hx rfl (hb hby at_68) rfl (l' := #[.val (.int xa), .val (.int xb), .val (.int (xa &&& (3 : Int32))), .val .null, .val (.ref b2), .val (.int (1 : Int32)), .val (.int (1 : Int32))]) rfl) ?_
    show own_Go p e below _ (T4.setTop (mkF m 70 #[.val (.int xa), .val (.int xb), .val (.int (xa &&& (3 : Int32))), .val .null, .val (.ref b2), .val (.int (1 : Int32)), .val (.int (1 : Int32))] []))
    refine own_by (fun _ => XS.iload X4.here hx rfl (hb hby at_70) rfl) ?_
    show own_Go p e below _ (T4.setTop (mkF m 72 #[.val (.int xa), .val (.int xb), .val (.int (xa &&& (3 : Int32))), .val .null, .val (.ref b2), .val (.int (1 : Int32)), .val (.int (1 : Int32))] [(.int (1 : Int32))]))
    refine own_by (fun _ => XS.iload X4.here hx rfl (hb hby at_72) rfl) ?_
    show own_Go p e below _ (T4.setTop (mkF m 74 #[.val (.int xa), .val (.int xb), .val (.int (xa &&& (3 : Int32))), .val .null, .val (.ref b2), .val (.int (1 : Int32)), .val (.int (1 : Int32))] [(.int (1 : Int32)), (.int (1 : Int32))]))
    refine own_by (fun _ => XS.icmpNo X4.here hx rfl (hb hby at_74) rfl (teq (by decide : (1 : Int32) = (1 : Int32))).2) ?_
    show own_Go p e below _ (T4.setTop (mkF m 77 #[.val (.int xa), .val (.int xb), .val (.int (xa &&& (3 : Int32))), .val .null, .val (.ref b2), .val (.int (1 : Int32)), .val (.int (1 : Int32))] []))
    refine own_by (fun _ => XS.aload X4.here hx rfl (hb hby at_77) rfl rfl) ?_
    show own_Go p e below _ (T4.setTop (mkF m 79 #[.val (.int xa), .val (.int xb), .val (.int (xa &&& (3 : Int32))), .val .null, .val (.ref b2), .val (.int (1 : Int32)), .val (.int (1 : Int32))] [(.ref b2)]))
    obtain ⟨cq6, kq6, q6a, q6b, q6c⟩ := isOf hZ e4 f5
    obtain ⟨_, _, ⟨T6, L6, k6, n6⟩, -, X6, ⟨Lc6, hQ6, l6, y6, z6'⟩, st6⟩ := X4.virtualBack hx (y := (⟨"com/example/airtight_graph/airtightgraph/automorphism/Verification", "failure", "()Lcom/example/airtight_graph/airtightgraph/automorphism/Verification$Failure;"⟩ : MethodName)) (z := (⟨"com/example/airtight_graph/airtightgraph/automorphism/Verification", "failure", "()Lcom/example/airtight_graph/airtightgraph/automorphism/Verification$Failure;"⟩ : MethodName)) hown (mvT hZ (hw _ (List.mem_of_getElem? (i := 18) rfl))) (mvT hZ (hw _ (List.mem_of_getElem? (i := 19) rfl))) (notFace_of_selects (args := #[]) (mvT hZ (hw _ (List.mem_of_getElem? (i := 21) rfl)))) (mvT hZ (hw _ (List.mem_of_getElem? (i := 21) rfl))) (mvT hZ (hw _ (List.mem_of_getElem? (i := 20) rfl))) (by decide) (backOf (W := 0) (own_rm4_n l Z a0 hw [] b2 T3.heap n0 z3 fc3_0) hZ (hw _ (List.mem_of_getElem? (i := 22) rfl)) (hw _ (List.mem_of_getElem? (i := 2) rfl)) (by decide) (by decide)) q6a q6c (g := (mkF m 79 #[.val (.int xa), .val (.int xb), .val (.int (xa &&& (3 : Int32))), .val .null, .val (.ref b2), .val (.int (1 : Int32)), .val (.int (1 : Int32))] [(.ref b2)])) rfl (by rw [hml]; rfl) (Steps.refl _) (argsL := []) (rest := []) (lenOf own_pd2 rfl) rfl (by show 2 * 0 + _ ≤ _; exact Nat.le_of_eq rfl) (hb hby at_79) (fun _ _ => ⟨rfl, e4, (by decide : 1 + 0 ≤ _), (by decide : 2 + 0 ≤ _)⟩)
    dsimp only [Pt.U, Pt.locs, Pt.cells, Pt.slots] at X6 l6 y6 z6' st6 hQ6
    subst l6 y6 z6'
    obtain ⟨rfl, N6q, e6⟩ := hQ6
    have N6 := Fr.app N4 N6q
    refine own_tr st6 ?_
    show own_Go p e below _ (T6.setTop (mkF m 82 #[.val (.int xa), .val (.int xb), .val (.int (xa &&& (3 : Int32))), .val .null, .val (.ref b2), .val (.int (1 : Int32)), .val (.int (1 : Int32))] [.null]))
    refine own_by (fun _ => XS.aloadN X6.here hx rfl (hb hby at_82) rfl rfl) ?_
    show own_Go p e below _ (T6.setTop (mkF m 83 #[.val (.int xa), .val (.int xb), .val (.int (xa &&& (3 : Int32))), .val .null, .val (.ref b2), .val (.int (1 : Int32)), .val (.int (1 : Int32))] [.null, .null]))
    refine own_by (fun _ => Jvm.RoadKit.acmp (g := (mkF m 83 #[.val (.int xa), .val (.int xb), .val (.int (xa &&& (3 : Int32))), .val .null, .val (.ref b2), .val (.int (1 : Int32)), .val (.int (1 : Int32))] [.null, .null])) X6 hx rfl rfl rfl (pc0 := 83) (pc' := 86) (same := true) rfl (hb hby at_83) rfl (decide_eq_true rfl) (by decide) (by decide)) ?_
    show own_Go p e below _ (T6.setTop (mkF m 86 #[.val (.int xa), .val (.int xb), .val (.int (xa &&& (3 : Int32))), .val .null, .val (.ref b2), .val (.int (1 : Int32)), .val (.int (1 : Int32))] []))
    refine own_by (fun _ => XS.iload X6.here hx rfl (hb hby at_86) rfl) ?_
    show own_Go p e below _ (T6.setTop (mkF m 88 #[.val (.int xa), .val (.int xb), .val (.int (xa &&& (3 : Int32))), .val .null, .val (.ref b2), .val (.int (1 : Int32)), .val (.int (1 : Int32))] [(.int (1 : Int32))]))
    refine own_by (fun _ => XS.aload X6.here hx rfl (hb hby at_88) rfl rfl) ?_
    show own_Go p e below _ (T6.setTop (mkF m 90 #[.val (.int xa), .val (.int xb), .val (.int (xa &&& (3 : Int32))), .val .null, .val (.ref b2), .val (.int (1 : Int32)), .val (.int (1 : Int32))] [(.ref b2), (.int (1 : Int32))]))
    obtain ⟨cq7, kq7, q7a, q7b, q7c⟩ := isOf hZ e6 f5
    obtain ⟨_, _, ⟨T7, L7, k7, n7⟩, -, X7, ⟨Lc7, hQ7, l7, y7, z7'⟩, st7⟩ := X6.virtualBack hx (y := (⟨"com/example/airtight_graph/airtightgraph/automorphism/Verification", "failure", "()Lcom/example/airtight_graph/airtightgraph/automorphism/Verification$Failure;"⟩ : MethodName)) (z := (⟨"com/example/airtight_graph/airtightgraph/automorphism/Verification", "failure", "()Lcom/example/airtight_graph/airtightgraph/automorphism/Verification$Failure;"⟩ : MethodName)) hown (mvT hZ (hw _ (List.mem_of_getElem? (i := 18) rfl))) (mvT hZ (hw _ (List.mem_of_getElem? (i := 19) rfl))) (notFace_of_selects (args := #[]) (mvT hZ (hw _ (List.mem_of_getElem? (i := 21) rfl)))) (mvT hZ (hw _ (List.mem_of_getElem? (i := 21) rfl))) (mvT hZ (hw _ (List.mem_of_getElem? (i := 20) rfl))) (by decide) (backOf (W := 1) (own_rm4_n l Z a0 hw [] b2 T3.heap n0 z3 fc3_0) hZ (hw _ (List.mem_of_getElem? (i := 22) rfl)) (hw _ (List.mem_of_getElem? (i := 2) rfl)) (by decide) (by decide)) q7a q7c (g := (mkF m 90 #[.val (.int xa), .val (.int xb), .val (.int (xa &&& (3 : Int32))), .val .null, .val (.ref b2), .val (.int (1 : Int32)), .val (.int (1 : Int32))] [(.ref b2), (.int (1 : Int32))])) rfl (by rw [hml]; rfl) (Steps.refl _) (argsL := []) (rest := [(.int (1 : Int32))]) (lenOf own_pd2 rfl) rfl (by show 2 * 0 + _ ≤ _; exact Nat.le_of_eq rfl) (hb hby at_90) (fun _ _ => ⟨rfl, e6, (by decide : 1 + 0 ≤ _), (by decide : 2 + 0 ≤ _)⟩)
    dsimp only [Pt.U, Pt.locs, Pt.cells, Pt.slots] at X7 l7 y7 z7' st7 hQ7
    subst l7 y7 z7'
    obtain ⟨rfl, N7q, e7⟩ := hQ7
    have N7 := Fr.app N6 N7q
    refine own_tr st7 ?_
    show own_Go p e below _ (T7.setTop (mkF m 93 #[.val (.int xa), .val (.int xb), .val (.int (xa &&& (3 : Int32))), .val .null, .val (.ref b2), .val (.int (1 : Int32)), .val (.int (1 : Int32))] [.null, (.int (1 : Int32))]))
    refine own_by (fun _ => XS.ifnonnullNo X7.here hx rfl (hb hby at_93) rfl) ?_
    show own_Go p e below _ (T7.setTop (mkF m 96 #[.val (.int xa), .val (.int xb), .val (.int (xa &&& (3 : Int32))), .val .null, .val (.ref b2), .val (.int (1 : Int32)), .val (.int (1 : Int32))] [(.int (1 : Int32))]))
    refine own_by (fun _ => XS.iconst X7.here hx rfl (hb hby at_96)) ?_
    show own_Go p e below _ (T7.setTop (mkF m 97 #[.val (.int xa), .val (.int xb), .val (.int (xa &&& (3 : Int32))), .val .null, .val (.ref b2), .val (.int (1 : Int32)), .val (.int (1 : Int32))] [(.int (1 : Int32)), (.int (1 : Int32))]))
    refine own_by (fun _ => XS.goto X7.here hx rfl (pc0 := 97) (pc' := 101) rfl (hb hby at_97) (by decide) (by decide)) ?_
    show own_Go p e below _ (T7.setTop (mkF m 101 #[.val (.int xa), .val (.int xb), .val (.int (xa &&& (3 : Int32))), .val .null, .val (.ref b2), .val (.int (1 : Int32)), .val (.int (1 : Int32))] [(.int (1 : Int32)), (.int (1 : Int32))]))
    refine own_by (fun _ => XS.icmpNo X7.here hx rfl (hb hby at_101) rfl (teq (by decide : (1 : Int32) = (1 : Int32))).2) ?_
    show own_Go p e below _ (T7.setTop (mkF m 104 #[.val (.int xa), .val (.int xb), .val (.int (xa &&& (3 : Int32))), .val .null, .val (.ref b2), .val (.int (1 : Int32)), .val (.int (1 : Int32))] []))
    refine own_by (fun _ => XS.aload X7.here hx rfl (hb hby at_104) rfl rfl) ?_
    show own_Go p e below _ (T7.setTop (mkF m 106 #[.val (.int xa), .val (.int xb), .val (.int (xa &&& (3 : Int32))), .val .null, .val (.ref b2), .val (.int (1 : Int32)), .val (.int (1 : Int32))] [(.ref b2)]))
    obtain ⟨cq8, kq8, q8a, q8b, q8c⟩ := isOf hZ e7 f5
    obtain ⟨_, _, ⟨T8, L8, k8, n8⟩, -, X8, ⟨Lc8, hQ8, l8, y8, z8'⟩, st8⟩ := X7.virtualBack hx (y := (⟨"com/example/airtight_graph/airtightgraph/automorphism/Verification", "count", "()I"⟩ : MethodName)) (z := (⟨"com/example/airtight_graph/airtightgraph/automorphism/Verification", "count", "()I"⟩ : MethodName)) hown (mvT hZ (hw _ (List.mem_of_getElem? (i := 23) rfl))) (mvT hZ (hw _ (List.mem_of_getElem? (i := 24) rfl))) (notFace_of_selects (args := #[]) (mvT hZ (hw _ (List.mem_of_getElem? (i := 26) rfl)))) (mvT hZ (hw _ (List.mem_of_getElem? (i := 26) rfl))) (mvT hZ (hw _ (List.mem_of_getElem? (i := 25) rfl))) (by decide) (backOf (W := 0) (own_rm5 l Z a0 hw [] b2 xb T3.heap n0 z3 fc3_1) hZ (hw _ (List.mem_of_getElem? (i := 27) rfl)) (hw _ (List.mem_of_getElem? (i := 2) rfl)) (by decide) (by decide)) q8a q8c (g := (mkF m 106 #[.val (.int xa), .val (.int xb), .val (.int (xa &&& (3 : Int32))), .val .null, .val (.ref b2), .val (.int (1 : Int32)), .val (.int (1 : Int32))] [(.ref b2)])) rfl (by rw [hml]; rfl) (Steps.refl _) (argsL := []) (rest := []) (lenOf own_pd3 rfl) rfl (by show 2 * 0 + _ ≤ _; exact Nat.le_of_eq rfl) (hb hby at_106) (fun _ _ => ⟨rfl, e7, (by decide : 1 + 0 ≤ _), (by decide : 2 + 0 ≤ _)⟩)
    dsimp only [Pt.U, Pt.locs, Pt.cells, Pt.slots] at X8 l8 y8 z8' st8 hQ8
    subst l8 y8 z8'
    obtain ⟨rfl, N8q, e8⟩ := hQ8
    have N8 := Fr.app N7 N8q
    refine own_tr st8 ?_
    show own_Go p e below _ (T8.setTop (mkF m 109 #[.val (.int xa), .val (.int xb), .val (.int (xa &&& (3 : Int32))), .val .null, .val (.ref b2), .val (.int (1 : Int32)), .val (.int (1 : Int32))] [(.int xb)]))
    refine own_by (fun _ => XS.iloadN X8.here hx rfl (hb hby at_109) rfl) ?_
    show own_Go p e below _ (T8.setTop (mkF m 110 #[.val (.int xa), .val (.int xb), .val (.int (xa &&& (3 : Int32))), .val .null, .val (.ref b2), .val (.int (1 : Int32)), .val (.int (1 : Int32))] [(.int xb), (.int xb)]))
    refine own_by (fun _ => XS.icmpNo X8.here hx rfl (hb hby at_110) rfl (teq (rfl : xb = xb)).2) ?_
    show own_Go p e below _ (T8.setTop (mkF m 113 #[.val (.int xa), .val (.int xb), .val (.int (xa &&& (3 : Int32))), .val .null, .val (.ref b2), .val (.int (1 : Int32)), .val (.int (1 : Int32))] []))
    refine own_by (fun _ => XS.iconst X8.here hx rfl (hb hby at_113)) ?_
    show own_Go p e below _ (T8.setTop (mkF m 114 #[.val (.int xa), .val (.int xb), .val (.int (xa &&& (3 : Int32))), .val .null, .val (.ref b2), .val (.int (1 : Int32)), .val (.int (1 : Int32))] [(.int (1 : Int32))]))
    refine own_by (fun _ => XS.goto X8.here hx rfl (pc0 := 114) (pc' := 118) rfl (hb hby at_114) (by decide) (by decide)) ?_
    show own_Go p e below _ (T8.setTop (mkF m 118 #[.val (.int xa), .val (.int xb), .val (.int (xa &&& (3 : Int32))), .val .null, .val (.ref b2), .val (.int (1 : Int32)), .val (.int (1 : Int32))] [(.int (1 : Int32))]))
    exact own_retZ X8 hx hlk e8 (by decide) hret (hb hby at_118) (by decide) (by decide) ⟨rfl, N8⟩
  ·
    skip
    refine own_by (fun _ => XS.ifYes X0.here hx rfl (pc0 := 5) (pc' := 13) rfl (hb hby at_5) rfl ((if0 _ _).trans (feq hc5_1).2) (by decide) (by decide)) ?_
    show own_Go p e below _ (s₁.setTop (mkF m 13 #[.val (.int xa), .val (.int xb), .val (.int (xa &&& (3 : Int32))), .unset, .unset, .unset, .unset] []))
    refine own_by (fun _ => XS.iloadN X0.here hx rfl (hb hby at_13) rfl) ?_
    show own_Go p e below _ (s₁.setTop (mkF m 14 #[.val (.int xa), .val (.int xb), .val (.int (xa &&& (3 : Int32))), .unset, .unset, .unset, .unset] [(.int (xa &&& (3 : Int32)))]))
    refine own_by (fun _ => XS.iconst X0.here hx rfl (hb hby at_14)) ?_
    show own_Go p e below _ (s₁.setTop (mkF m 15 #[.val (.int xa), .val (.int xb), .val (.int (xa &&& (3 : Int32))), .unset, .unset, .unset, .unset] [(.int (1 : Int32)), (.int (xa &&& (3 : Int32)))]))
    by_cases hc15_9 : (xa &&& (3 : Int32)) = (1 : Int32)
    ·
      skip
      refine own_by (fun _ => XS.icmpNo X0.here hx rfl (hb hby at_15) rfl (teq hc15_9).2) ?_
      show own_Go p e below _ (s₁.setTop (mkF m 18 #[.val (.int xa), .val (.int xb), .val (.int (xa &&& (3 : Int32))), .unset, .unset, .unset, .unset] []))
      obtain ⟨T10, X10, e10, st10⟩ := getS2 X0 hx hZ hown (host := "") (Or.inl (hw _ (List.mem_of_getElem? (i := 31) rfl))) Via.refl e0 pf1 (g := (mkF m 18 #[.val (.int xa), .val (.int xb), .val (.int (xa &&& (3 : Int32))), .unset, .unset, .unset, .unset] [])) rfl (hb hby at_18)
      refine own_by st10 ?_
      show own_Go p e below _ (T10.setTop (mkF m 21 #[.val (.int xa), .val (.int xb), .val (.int (xa &&& (3 : Int32))), .unset, .unset, .unset, .unset] [(.ref u1)]))
      refine own_by (fun _ => XS.astoreN X10.here hx rfl (hb hby at_21) rfl rfl (l' := #[.val (.int xa), .val (.int xb), .val (.int (xa &&& (3 : Int32))), .val (.ref u1), .unset, .unset, .unset]) rfl) ?_
      show own_Go p e below _ (T10.setTop (mkF m 22 #[.val (.int xa), .val (.int xb), .val (.int (xa &&& (3 : Int32))), .val (.ref u1), .unset, .unset, .unset] []))
      refine own_by (fun _ => XS.goto X10.here hx rfl (pc0 := 22) (pc' := 41) rfl (hb hby at_22) (by decide) (by decide)) ?_
      show own_Go p e below _ (T10.setTop (mkF m 41 #[.val (.int xa), .val (.int xb), .val (.int (xa &&& (3 : Int32))), .val (.ref u1), .unset, .unset, .unset] []))
      obtain ⟨T11, h11, X11, e11, E11, A11, D11, -, st11⟩ := newO X10 hx hZ hown (hw _ (List.mem_of_getElem? (i := 0) rfl)) (hw _ (List.mem_of_getElem? (i := 1) rfl)) (hw _ (List.mem_of_getElem? (i := 2) rfl)) e10 (g := (mkF m 41 #[.val (.int xa), .val (.int xb), .val (.int (xa &&& (3 : Int32))), .val (.ref u1), .unset, .unset, .unset] [])) rfl (hb hby at_41) (by decide) (by decide)
      obtain ⟨b11, g11⟩ : ∃ z, z = h0.size := ⟨_, rfl⟩
      rw [← g11] at A11 D11 st11
      refine own_by st11 ?_
      have ge11 : n0 ≤ b11 := Nat.le_trans Z0 (Nat.le_of_eq g11.symm)
      have z11 : n0 ≤ h11.size := Nat.le_trans Z0 E11.1
      have fz11_failure : Fld Z h11 b11 "com/example/airtight_graph/airtightgraph/automorphism/Verification" "failure" "Lcom/example/airtight_graph/airtightgraph/automorphism/Verification$Failure;" .null := D11 (Or.inr (hw _ (List.mem_of_getElem? (i := 10) rfl))) (ty := (.object "com/example/airtight_graph/airtightgraph/automorphism/Verification$Failure")) (by decide)
      have fz11_count : Fld Z h11 b11 "com/example/airtight_graph/airtightgraph/automorphism/Verification" "count" "I" (.int (0 : Int32)) := D11 (Or.inr (hw _ (List.mem_of_getElem? (i := 12) rfl))) (ty := .int) (by decide)
      show own_Go p e below _ (T11.setTop (mkF m 44 #[.val (.int xa), .val (.int xb), .val (.int (xa &&& (3 : Int32))), .val (.ref u1), .unset, .unset, .unset] [(.ref b11)]))
      refine own_by (fun _ => XS.dup X11.here hx rfl (hb hby at_44) rfl rfl) ?_
      show own_Go p e below _ (T11.setTop (mkF m 45 #[.val (.int xa), .val (.int xb), .val (.int (xa &&& (3 : Int32))), .val (.ref u1), .unset, .unset, .unset] [(.ref b11), (.ref b11)]))
      refine own_by (fun _ => XS.aloadN X11.here hx rfl (hb hby at_45) rfl rfl) ?_
      show own_Go p e below _ (T11.setTop (mkF m 46 #[.val (.int xa), .val (.int xb), .val (.int (xa &&& (3 : Int32))), .val (.ref u1), .unset, .unset, .unset] [(.ref u1), (.ref b11), (.ref b11)]))
      refine own_by (fun _ => XS.iloadN X11.here hx rfl (hb hby at_46) rfl) ?_
      show own_Go p e below _ (T11.setTop (mkF m 47 #[.val (.int xa), .val (.int xb), .val (.int (xa &&& (3 : Int32))), .val (.ref u1), .unset, .unset, .unset] [(.int xb), (.ref u1), (.ref b11), (.ref b11)]))
      obtain ⟨_, _, ⟨T12, L12, k12, n12⟩, -, X12, ⟨Lc12, hQ12, l12, y12, z12'⟩, st12⟩ := X11.specialBack hx (y := (⟨"com/example/airtight_graph/airtightgraph/automorphism/Verification", "<init>", "(Lcom/example/airtight_graph/airtightgraph/automorphism/Verification$Failure;I)V"⟩ : MethodName)) rfl hown (mvT hZ (hw _ (List.mem_of_getElem? (i := 3) rfl))) (mvT hZ (hw _ (List.mem_of_getElem? (i := 4) rfl))) (mvT hZ (hw _ (List.mem_of_getElem? (i := 5) rfl))) (by decide) (backOf (W := 1) (own_rm1_r l Z a0 hw [] b11 u1 xb .null (0 : Int32) h11 n0 z11 A11 fz11_failure fz11_count ge11) hZ (hw _ (List.mem_of_getElem? (i := 5) rfl)) (hw _ (List.mem_of_getElem? (i := 2) rfl)) (by decide) (by decide)) (g := (mkF m 47 #[.val (.int xa), .val (.int xb), .val (.int (xa &&& (3 : Int32))), .val (.ref u1), .unset, .unset, .unset] [(.int xb), (.ref u1), (.ref b11), (.ref b11)])) rfl (by rw [hml]; rfl) (Steps.refl _) (a := b11) (argsL := [(.ref u1), (.int xb)]) (rest := [(.ref b11)]) (lenOf own_pd0 rfl) rfl (by show 2 * 0 + _ ≤ _; exact Nat.le_of_eq rfl) (hb hby at_47) (fun _ _ => ⟨rfl, e11, (by decide : 1 + 0 ≤ _), (by decide : 2 + 0 ≤ _)⟩)
      dsimp only [Pt.U, Pt.locs, Pt.cells, Pt.slots] at X12 l12 y12 z12' st12 hQ12
      subst l12 y12 z12'
      obtain ⟨rfl, N12q, Kc12, fc12_0, fc12_1⟩ := hQ12
      have N12 := Fr.app N0 N12q
      refine own_tr st12 ?_
      have z12 : n0 ≤ T12.heap.size := Nat.le_trans z11 Kc12.1
      show own_Go p e below _ (T12.setTop (mkF m 50 #[.val (.int xa), .val (.int xb), .val (.int (xa &&& (3 : Int32))), .val (.ref u1), .unset, .unset, .unset] [(.ref b11)]))
      refine own_by (fun _ => XS.astore X12.here hx rfl (hb hby at_50) rfl rfl (l' := #[.val (.int xa), .val (.int xb), .val (.int (xa &&& (3 : Int32))), .val (.ref u1), .val (.ref b11), .unset, .unset]) rfl) ?_
      show own_Go p e below _ (T12.setTop (mkF m 52 #[.val (.int xa), .val (.int xb), .val (.int (xa &&& (3 : Int32))), .val (.ref u1), .val (.ref b11), .unset, .unset] []))
      refine own_by (fun _ => XS.aload X12.here hx rfl (hb hby at_52) rfl rfl) ?_
      show own_Go p e below _ (T12.setTop (mkF m 54 #[.val (.int xa), .val (.int xb), .val (.int (xa &&& (3 : Int32))), .val (.ref u1), .val (.ref b11), .unset, .unset] [(.ref b11)]))
      have f14 : Exa Z T12.heap b11 "com/example/airtight_graph/airtightgraph/automorphism/Verification" := (A11.keep Kc12)
      obtain ⟨cq13, kq13, q13a, q13b, q13c⟩ := isOf hZ rfl f14
      obtain ⟨_, _, ⟨T13, L13, k13, n13⟩, -, X13, ⟨Lc13, hQ13, l13, y13, z13'⟩, st13⟩ := X12.virtualBack hx (y := (⟨"com/example/airtight_graph/airtightgraph/automorphism/Verification", "isProof", "()Z"⟩ : MethodName)) (z := (⟨"com/example/airtight_graph/airtightgraph/automorphism/Verification", "isProof", "()Z"⟩ : MethodName)) hown (mvT hZ (hw _ (List.mem_of_getElem? (i := 13) rfl))) (mvT hZ (hw _ (List.mem_of_getElem? (i := 14) rfl))) (notFace_of_selects (args := #[]) (mvT hZ (hw _ (List.mem_of_getElem? (i := 16) rfl)))) (mvT hZ (hw _ (List.mem_of_getElem? (i := 16) rfl))) (mvT hZ (hw _ (List.mem_of_getElem? (i := 15) rfl))) (by decide) (backOf (W := 0) (own_rm3_r l Z a0 hw [] b11 u1 T12.heap n0 z12 fc12_0) hZ (hw _ (List.mem_of_getElem? (i := 17) rfl)) (hw _ (List.mem_of_getElem? (i := 2) rfl)) (by decide) (by decide)) q13a q13c (g := (mkF m 54 #[.val (.int xa), .val (.int xb), .val (.int (xa &&& (3 : Int32))), .val (.ref u1), .val (.ref b11), .unset, .unset] [(.ref b11)])) rfl (by rw [hml]; rfl) (Steps.refl _) (argsL := []) (rest := []) (lenOf own_pd1 rfl) rfl (by show 2 * 0 + _ ≤ _; exact Nat.le_of_eq rfl) (hb hby at_54) (fun _ _ => ⟨rfl, rfl, (by decide : 1 + 0 ≤ _), (by decide : 2 + 0 ≤ _)⟩)
      dsimp only [Pt.U, Pt.locs, Pt.cells, Pt.slots] at X13 l13 y13 z13' st13 hQ13
      subst l13 y13 z13'
      obtain ⟨rfl, N13q, e13⟩ := hQ13
      have N13 := Fr.app N12 N13q
      refine own_tr st13 ?_
      show own_Go p e below _ (T13.setTop (mkF m 57 #[.val (.int xa), .val (.int xb), .val (.int (xa &&& (3 : Int32))), .val (.ref u1), .val (.ref b11), .unset, .unset] [(.int (0 : Int32))]))
      refine own_by (fun _ => XS.istore X13.here hx rfl (hb hby at_57) rfl (l' := #[.val (.int xa), .val (.int xb), .val (.int (xa &&& (3 : Int32))), .val (.ref u1), .val (.ref b11), .val (.int (0 : Int32)), .unset]) rfl) ?_
      show own_Go p e below _ (T13.setTop (mkF m 59 #[.val (.int xa), .val (.int xb), .val (.int (xa &&& (3 : Int32))), .val (.ref u1), .val (.ref b11), .val (.int (0 : Int32)), .unset] []))
      refine own_by (fun _ => XS.iloadN X13.here hx rfl (hb hby at_59) rfl) ?_
      show own_Go p e below _ (T13.setTop (mkF m 60 #[.val (.int xa), .val (.int xb), .val (.int (xa &&& (3 : Int32))), .val (.ref u1), .val (.ref b11), .val (.int (0 : Int32)), .unset] [(.int (xa &&& (3 : Int32)))]))
      refine own_by (fun _ => XS.ifYes X13.here hx rfl (pc0 := 60) (pc' := 67) rfl (hb hby at_60) rfl ((if0 _ _).trans (feq hc5_1).2) (by decide) (by decide)) ?_
      show own_Go p e below _ (T13.setTop (mkF m 67 #[.val (.int xa), .val (.int xb), .val (.int (xa &&& (3 : Int32))), .val (.ref u1), .val (.ref b11), .val (.int (0 : Int32)), .unset] []))
      refine own_by (fun _ => XS.iconst X13.here hx rfl (hb hby at_67)) ?_
      show own_Go p e below _ (T13.setTop (mkF m 68 #[.val (.int xa), .val (.int xb), .val (.int (xa &&& (3 : Int32))), .val (.ref u1), .val (.ref b11), .val (.int (0 : Int32)), .unset] [(.int (0 : Int32))]))
      refine own_by (fun _ => XS.istore X13.here hx rfl (hb hby at_68) rfl (l' := #[.val (.int xa), .val (.int xb), .val (.int (xa &&& (3 : Int32))), .val (.ref u1), .val (.ref b11), .val (.int (0 : Int32)), .val (.int (0 : Int32))]) rfl) ?_
      show own_Go p e below _ (T13.setTop (mkF m 70 #[.val (.int xa), .val (.int xb), .val (.int (xa &&& (3 : Int32))), .val (.ref u1), .val (.ref b11), .val (.int (0 : Int32)), .val (.int (0 : Int32))] []))
      refine own_by (fun _ => XS.iload X13.here hx rfl (hb hby at_70) rfl) ?_
      show own_Go p e below _ (T13.setTop (mkF m 72 #[.val (.int xa), .val (.int xb), .val (.int (xa &&& (3 : Int32))), .val (.ref u1), .val (.ref b11), .val (.int (0 : Int32)), .val (.int (0 : Int32))] [(.int (0 : Int32))]))
      refine own_by (fun _ => XS.iload X13.here hx rfl (hb hby at_72) rfl) ?_
      show own_Go p e below _ (T13.setTop (mkF m 74 #[.val (.int xa), .val (.int xb), .val (.int (xa &&& (3 : Int32))), .val (.ref u1), .val (.ref b11), .val (.int (0 : Int32)), .val (.int (0 : Int32))] [(.int (0 : Int32)), (.int (0 : Int32))]))
      refine own_by (fun _ => XS.icmpNo X13.here hx rfl (hb hby at_74) rfl (teq (by decide : (0 : Int32) = (0 : Int32))).2) ?_
      show own_Go p e below _ (T13.setTop (mkF m 77 #[.val (.int xa), .val (.int xb), .val (.int (xa &&& (3 : Int32))), .val (.ref u1), .val (.ref b11), .val (.int (0 : Int32)), .val (.int (0 : Int32))] []))
      refine own_by (fun _ => XS.aload X13.here hx rfl (hb hby at_77) rfl rfl) ?_
      show own_Go p e below _ (T13.setTop (mkF m 79 #[.val (.int xa), .val (.int xb), .val (.int (xa &&& (3 : Int32))), .val (.ref u1), .val (.ref b11), .val (.int (0 : Int32)), .val (.int (0 : Int32))] [(.ref b11)]))
      obtain ⟨cq15, kq15, q15a, q15b, q15c⟩ := isOf hZ e13 f14
      obtain ⟨_, _, ⟨T15, L15, k15, n15⟩, -, X15, ⟨Lc15, hQ15, l15, y15, z15'⟩, st15⟩ := X13.virtualBack hx (y := (⟨"com/example/airtight_graph/airtightgraph/automorphism/Verification", "failure", "()Lcom/example/airtight_graph/airtightgraph/automorphism/Verification$Failure;"⟩ : MethodName)) (z := (⟨"com/example/airtight_graph/airtightgraph/automorphism/Verification", "failure", "()Lcom/example/airtight_graph/airtightgraph/automorphism/Verification$Failure;"⟩ : MethodName)) hown (mvT hZ (hw _ (List.mem_of_getElem? (i := 18) rfl))) (mvT hZ (hw _ (List.mem_of_getElem? (i := 19) rfl))) (notFace_of_selects (args := #[]) (mvT hZ (hw _ (List.mem_of_getElem? (i := 21) rfl)))) (mvT hZ (hw _ (List.mem_of_getElem? (i := 21) rfl))) (mvT hZ (hw _ (List.mem_of_getElem? (i := 20) rfl))) (by decide) (backOf (W := 0) (own_rm4_r l Z a0 hw [] b11 u1 T12.heap n0 z12 fc12_0) hZ (hw _ (List.mem_of_getElem? (i := 22) rfl)) (hw _ (List.mem_of_getElem? (i := 2) rfl)) (by decide) (by decide)) q15a q15c (g := (mkF m 79 #[.val (.int xa), .val (.int xb), .val (.int (xa &&& (3 : Int32))), .val (.ref u1), .val (.ref b11), .val (.int (0 : Int32)), .val (.int (0 : Int32))] [(.ref b11)])) rfl (by rw [hml]; rfl) (Steps.refl _) (argsL := []) (rest := []) (lenOf own_pd2 rfl) rfl (by show 2 * 0 + _ ≤ _; exact Nat.le_of_eq rfl) (hb hby at_79) (fun _ _ => ⟨rfl, e13, (by decide : 1 + 0 ≤ _), (by decide : 2 + 0 ≤ _)⟩)
      dsimp only [Pt.U, Pt.locs, Pt.cells, Pt.slots] at X15 l15 y15 z15' st15 hQ15
      subst l15 y15 z15'
      obtain ⟨rfl, N15q, e15⟩ := hQ15
      have N15 := Fr.app N13 N15q
      refine own_tr st15 ?_
      show own_Go p e below _ (T15.setTop (mkF m 82 #[.val (.int xa), .val (.int xb), .val (.int (xa &&& (3 : Int32))), .val (.ref u1), .val (.ref b11), .val (.int (0 : Int32)), .val (.int (0 : Int32))] [(.ref u1)]))
      refine own_by (fun _ => XS.aloadN X15.here hx rfl (hb hby at_82) rfl rfl) ?_
      show own_Go p e below _ (T15.setTop (mkF m 83 #[.val (.int xa), .val (.int xb), .val (.int (xa &&& (3 : Int32))), .val (.ref u1), .val (.ref b11), .val (.int (0 : Int32)), .val (.int (0 : Int32))] [(.ref u1), (.ref u1)]))
      refine own_by (fun _ => Jvm.RoadKit.acmp (g := (mkF m 83 #[.val (.int xa), .val (.int xb), .val (.int (xa &&& (3 : Int32))), .val (.ref u1), .val (.ref b11), .val (.int (0 : Int32)), .val (.int (0 : Int32))] [(.ref u1), (.ref u1)])) X15 hx rfl rfl rfl (pc0 := 83) (pc' := 86) (same := true) rfl (hb hby at_83) rfl (decide_eq_true rfl) (by decide) (by decide)) ?_
      show own_Go p e below _ (T15.setTop (mkF m 86 #[.val (.int xa), .val (.int xb), .val (.int (xa &&& (3 : Int32))), .val (.ref u1), .val (.ref b11), .val (.int (0 : Int32)), .val (.int (0 : Int32))] []))
      refine own_by (fun _ => XS.iload X15.here hx rfl (hb hby at_86) rfl) ?_
      show own_Go p e below _ (T15.setTop (mkF m 88 #[.val (.int xa), .val (.int xb), .val (.int (xa &&& (3 : Int32))), .val (.ref u1), .val (.ref b11), .val (.int (0 : Int32)), .val (.int (0 : Int32))] [(.int (0 : Int32))]))
      refine own_by (fun _ => XS.aload X15.here hx rfl (hb hby at_88) rfl rfl) ?_
      show own_Go p e below _ (T15.setTop (mkF m 90 #[.val (.int xa), .val (.int xb), .val (.int (xa &&& (3 : Int32))), .val (.ref u1), .val (.ref b11), .val (.int (0 : Int32)), .val (.int (0 : Int32))] [(.ref b11), (.int (0 : Int32))]))
      obtain ⟨cq16, kq16, q16a, q16b, q16c⟩ := isOf hZ e15 f14
      obtain ⟨_, _, ⟨T16, L16, k16, n16⟩, -, X16, ⟨Lc16, hQ16, l16, y16, z16'⟩, st16⟩ := X15.virtualBack hx (y := (⟨"com/example/airtight_graph/airtightgraph/automorphism/Verification", "failure", "()Lcom/example/airtight_graph/airtightgraph/automorphism/Verification$Failure;"⟩ : MethodName)) (z := (⟨"com/example/airtight_graph/airtightgraph/automorphism/Verification", "failure", "()Lcom/example/airtight_graph/airtightgraph/automorphism/Verification$Failure;"⟩ : MethodName)) hown (mvT hZ (hw _ (List.mem_of_getElem? (i := 18) rfl))) (mvT hZ (hw _ (List.mem_of_getElem? (i := 19) rfl))) (notFace_of_selects (args := #[]) (mvT hZ (hw _ (List.mem_of_getElem? (i := 21) rfl)))) (mvT hZ (hw _ (List.mem_of_getElem? (i := 21) rfl))) (mvT hZ (hw _ (List.mem_of_getElem? (i := 20) rfl))) (by decide) (backOf (W := 1) (own_rm4_r l Z a0 hw [] b11 u1 T12.heap n0 z12 fc12_0) hZ (hw _ (List.mem_of_getElem? (i := 22) rfl)) (hw _ (List.mem_of_getElem? (i := 2) rfl)) (by decide) (by decide)) q16a q16c (g := (mkF m 90 #[.val (.int xa), .val (.int xb), .val (.int (xa &&& (3 : Int32))), .val (.ref u1), .val (.ref b11), .val (.int (0 : Int32)), .val (.int (0 : Int32))] [(.ref b11), (.int (0 : Int32))])) rfl (by rw [hml]; rfl) (Steps.refl _) (argsL := []) (rest := [(.int (0 : Int32))]) (lenOf own_pd2 rfl) rfl (by show 2 * 0 + _ ≤ _; exact Nat.le_of_eq rfl) (hb hby at_90) (fun _ _ => ⟨rfl, e15, (by decide : 1 + 0 ≤ _), (by decide : 2 + 0 ≤ _)⟩)
      dsimp only [Pt.U, Pt.locs, Pt.cells, Pt.slots] at X16 l16 y16 z16' st16 hQ16
      subst l16 y16 z16'
      obtain ⟨rfl, N16q, e16⟩ := hQ16
      have N16 := Fr.app N15 N16q
      refine own_tr st16 ?_
      show own_Go p e below _ (T16.setTop (mkF m 93 #[.val (.int xa), .val (.int xb), .val (.int (xa &&& (3 : Int32))), .val (.ref u1), .val (.ref b11), .val (.int (0 : Int32)), .val (.int (0 : Int32))] [(.ref u1), (.int (0 : Int32))]))
      refine own_by (fun _ => XS.ifnonnullYes X16.here hx rfl (pc0 := 93) (pc' := 100) rfl (hb hby at_93) rfl (by decide) (by decide)) ?_
      show own_Go p e below _ (T16.setTop (mkF m 100 #[.val (.int xa), .val (.int xb), .val (.int (xa &&& (3 : Int32))), .val (.ref u1), .val (.ref b11), .val (.int (0 : Int32)), .val (.int (0 : Int32))] [(.int (0 : Int32))]))
      refine own_by (fun _ => XS.iconst X16.here hx rfl (hb hby at_100)) ?_
      show own_Go p e below _ (T16.setTop (mkF m 101 #[.val (.int xa), .val (.int xb), .val (.int (xa &&& (3 : Int32))), .val (.ref u1), .val (.ref b11), .val (.int (0 : Int32)), .val (.int (0 : Int32))] [(.int (0 : Int32)), (.int (0 : Int32))]))
      refine own_by (fun _ => XS.icmpNo X16.here hx rfl (hb hby at_101) rfl (teq (by decide : (0 : Int32) = (0 : Int32))).2) ?_
      show own_Go p e below _ (T16.setTop (mkF m 104 #[.val (.int xa), .val (.int xb), .val (.int (xa &&& (3 : Int32))), .val (.ref u1), .val (.ref b11), .val (.int (0 : Int32)), .val (.int (0 : Int32))] []))
      refine own_by (fun _ => XS.aload X16.here hx rfl (hb hby at_104) rfl rfl) ?_
      show own_Go p e below _ (T16.setTop (mkF m 106 #[.val (.int xa), .val (.int xb), .val (.int (xa &&& (3 : Int32))), .val (.ref u1), .val (.ref b11), .val (.int (0 : Int32)), .val (.int (0 : Int32))] [(.ref b11)]))
      obtain ⟨cq17, kq17, q17a, q17b, q17c⟩ := isOf hZ e16 f14
      obtain ⟨_, _, ⟨T17, L17, k17, n17⟩, -, X17, ⟨Lc17, hQ17, l17, y17, z17'⟩, st17⟩ := X16.virtualBack hx (y := (⟨"com/example/airtight_graph/airtightgraph/automorphism/Verification", "count", "()I"⟩ : MethodName)) (z := (⟨"com/example/airtight_graph/airtightgraph/automorphism/Verification", "count", "()I"⟩ : MethodName)) hown (mvT hZ (hw _ (List.mem_of_getElem? (i := 23) rfl))) (mvT hZ (hw _ (List.mem_of_getElem? (i := 24) rfl))) (notFace_of_selects (args := #[]) (mvT hZ (hw _ (List.mem_of_getElem? (i := 26) rfl)))) (mvT hZ (hw _ (List.mem_of_getElem? (i := 26) rfl))) (mvT hZ (hw _ (List.mem_of_getElem? (i := 25) rfl))) (by decide) (backOf (W := 0) (own_rm5 l Z a0 hw [] b11 xb T12.heap n0 z12 fc12_1) hZ (hw _ (List.mem_of_getElem? (i := 27) rfl)) (hw _ (List.mem_of_getElem? (i := 2) rfl)) (by decide) (by decide)) q17a q17c (g := (mkF m 106 #[.val (.int xa), .val (.int xb), .val (.int (xa &&& (3 : Int32))), .val (.ref u1), .val (.ref b11), .val (.int (0 : Int32)), .val (.int (0 : Int32))] [(.ref b11)])) rfl (by rw [hml]; rfl) (Steps.refl _) (argsL := []) (rest := []) (lenOf own_pd3 rfl) rfl (by show 2 * 0 + _ ≤ _; exact Nat.le_of_eq rfl) (hb hby at_106) (fun _ _ => ⟨rfl, e16, (by decide : 1 + 0 ≤ _), (by decide : 2 + 0 ≤ _)⟩)
      dsimp only [Pt.U, Pt.locs, Pt.cells, Pt.slots] at X17 l17 y17 z17' st17 hQ17
      subst l17 y17 z17'
      obtain ⟨rfl, N17q, e17⟩ := hQ17
      have N17 := Fr.app N16 N17q
      refine own_tr st17 ?_
      show own_Go p e below _ (T17.setTop (mkF m 109 #[.val (.int xa), .val (.int xb), .val (.int (xa &&& (3 : Int32))), .val (.ref u1), .val (.ref b11), .val (.int (0 : Int32)), .val (.int (0 : Int32))] [(.int xb)]))
      refine own_by (fun _ => XS.iloadN X17.here hx rfl (hb hby at_109) rfl) ?_
      show own_Go p e below _ (T17.setTop (mkF m 110 #[.val (.int xa), .val (.int xb), .val (.int (xa &&& (3 : Int32))), .val (.ref u1), .val (.ref b11), .val (.int (0 : Int32)), .val (.int (0 : Int32))] [(.int xb), (.int xb)]))
      refine own_by (fun _ => XS.icmpNo X17.here hx rfl (hb hby at_110) rfl (teq (rfl : xb = xb)).2) ?_
      show own_Go p e below _ (T17.setTop (mkF m 113 #[.val (.int xa), .val (.int xb), .val (.int (xa &&& (3 : Int32))), .val (.ref u1), .val (.ref b11), .val (.int (0 : Int32)), .val (.int (0 : Int32))] []))
      refine own_by (fun _ => XS.iconst X17.here hx rfl (hb hby at_113)) ?_
      show own_Go p e below _ (T17.setTop (mkF m 114 #[.val (.int xa), .val (.int xb), .val (.int (xa &&& (3 : Int32))), .val (.ref u1), .val (.ref b11), .val (.int (0 : Int32)), .val (.int (0 : Int32))] [(.int (1 : Int32))]))
      refine own_by (fun _ => XS.goto X17.here hx rfl (pc0 := 114) (pc' := 118) rfl (hb hby at_114) (by decide) (by decide)) ?_
      show own_Go p e below _ (T17.setTop (mkF m 118 #[.val (.int xa), .val (.int xb), .val (.int (xa &&& (3 : Int32))), .val (.ref u1), .val (.ref b11), .val (.int (0 : Int32)), .val (.int (0 : Int32))] [(.int (1 : Int32))]))
      exact own_retZ X17 hx hlk e17 (by decide) hret (hb hby at_118) (by decide) (by decide) ⟨rfl, N17⟩
    ·
      skip
      refine own_by (fun _ => XS.icmpYes X0.here hx rfl (pc0 := 15) (pc' := 25) rfl (hb hby at_15) rfl (feq hc15_9).2 (by decide) (by decide)) ?_
      show own_Go p e below _ (s₁.setTop (mkF m 25 #[.val (.int xa), .val (.int xb), .val (.int (xa &&& (3 : Int32))), .unset, .unset, .unset, .unset] []))
      refine own_by (fun _ => XS.iloadN X0.here hx rfl (hb hby at_25) rfl) ?_
      show own_Go p e below _ (s₁.setTop (mkF m 26 #[.val (.int xa), .val (.int xb), .val (.int (xa &&& (3 : Int32))), .unset, .unset, .unset, .unset] [(.int (xa &&& (3 : Int32)))]))
      refine own_by (fun _ => XS.iconst X0.here hx rfl (hb hby at_26)) ?_
      show own_Go p e below _ (s₁.setTop (mkF m 27 #[.val (.int xa), .val (.int xb), .val (.int (xa &&& (3 : Int32))), .unset, .unset, .unset, .unset] [(.int (2 : Int32)), (.int (xa &&& (3 : Int32)))]))
      by_cases hc27_18 : (xa &&& (3 : Int32)) = (2 : Int32)
      ·
        skip
        refine own_by (fun _ => XS.icmpNo X0.here hx rfl (hb hby at_27) rfl (teq hc27_18).2) ?_
        show own_Go p e below _ (s₁.setTop (mkF m 30 #[.val (.int xa), .val (.int xb), .val (.int (xa &&& (3 : Int32))), .unset, .unset, .unset, .unset] []))
        obtain ⟨T19, X19, e19, st19⟩ := getS2 X0 hx hZ hown (host := "") (Or.inl (hw _ (List.mem_of_getElem? (i := 28) rfl))) Via.refl e0 pf0 (g := (mkF m 30 #[.val (.int xa), .val (.int xb), .val (.int (xa &&& (3 : Int32))), .unset, .unset, .unset, .unset] [])) rfl (hb hby at_30)
        refine own_by st19 ?_
        show own_Go p e below _ (T19.setTop (mkF m 33 #[.val (.int xa), .val (.int xb), .val (.int (xa &&& (3 : Int32))), .unset, .unset, .unset, .unset] [(.ref u0)]))
        refine own_by (fun _ => XS.astoreN X19.here hx rfl (hb hby at_33) rfl rfl (l' := #[.val (.int xa), .val (.int xb), .val (.int (xa &&& (3 : Int32))), .val (.ref u0), .unset, .unset, .unset]) rfl) ?_
        show own_Go p e below _ (T19.setTop (mkF m 34 #[.val (.int xa), .val (.int xb), .val (.int (xa &&& (3 : Int32))), .val (.ref u0), .unset, .unset, .unset] []))
        refine own_by (fun _ => XS.goto X19.here hx rfl (pc0 := 34) (pc' := 41) rfl (hb hby at_34) (by decide) (by decide)) ?_
        show own_Go p e below _ (T19.setTop (mkF m 41 #[.val (.int xa), .val (.int xb), .val (.int (xa &&& (3 : Int32))), .val (.ref u0), .unset, .unset, .unset] []))
        obtain ⟨T20, h20, X20, e20, E20, A20, D20, -, st20⟩ := newO X19 hx hZ hown (hw _ (List.mem_of_getElem? (i := 0) rfl)) (hw _ (List.mem_of_getElem? (i := 1) rfl)) (hw _ (List.mem_of_getElem? (i := 2) rfl)) e19 (g := (mkF m 41 #[.val (.int xa), .val (.int xb), .val (.int (xa &&& (3 : Int32))), .val (.ref u0), .unset, .unset, .unset] [])) rfl (hb hby at_41) (by decide) (by decide)
        obtain ⟨b20, g20⟩ : ∃ z, z = h0.size := ⟨_, rfl⟩
        rw [← g20] at A20 D20 st20
        refine own_by st20 ?_
        have ge20 : n0 ≤ b20 := Nat.le_trans Z0 (Nat.le_of_eq g20.symm)
        have z20 : n0 ≤ h20.size := Nat.le_trans Z0 E20.1
        have fz20_failure : Fld Z h20 b20 "com/example/airtight_graph/airtightgraph/automorphism/Verification" "failure" "Lcom/example/airtight_graph/airtightgraph/automorphism/Verification$Failure;" .null := D20 (Or.inr (hw _ (List.mem_of_getElem? (i := 10) rfl))) (ty := (.object "com/example/airtight_graph/airtightgraph/automorphism/Verification$Failure")) (by decide)
        have fz20_count : Fld Z h20 b20 "com/example/airtight_graph/airtightgraph/automorphism/Verification" "count" "I" (.int (0 : Int32)) := D20 (Or.inr (hw _ (List.mem_of_getElem? (i := 12) rfl))) (ty := .int) (by decide)
        show own_Go p e below _ (T20.setTop (mkF m 44 #[.val (.int xa), .val (.int xb), .val (.int (xa &&& (3 : Int32))), .val (.ref u0), .unset, .unset, .unset] [(.ref b20)]))
        refine own_by (fun _ => XS.dup X20.here hx rfl (hb hby at_44) rfl rfl) ?_
        show own_Go p e below _ (T20.setTop (mkF m 45 #[.val (.int xa), .val (.int xb), .val (.int (xa &&& (3 : Int32))), .val (.ref u0), .unset, .unset, .unset] [(.ref b20), (.ref b20)]))
        refine own_by (fun _ => XS.aloadN X20.here hx rfl (hb hby at_45) rfl rfl) ?_
        show own_Go p e below _ (T20.setTop (mkF m 46 #[.val (.int xa), .val (.int xb), .val (.int (xa &&& (3 : Int32))), .val (.ref u0), .unset, .unset, .unset] [(.ref u0), (.ref b20), (.ref b20)]))
        refine own_by (fun _ => XS.iloadN X20.here hx rfl (hb hby at_46) rfl) ?_
        show own_Go p e below _ (T20.setTop (mkF m 47 #[.val (.int xa), .val (.int xb), .val (.int (xa &&& (3 : Int32))), .val (.ref u0), .unset, .unset, .unset] [(.int xb), (.ref u0), (.ref b20), (.ref b20)]))
        obtain ⟨_, _, ⟨T21, L21, k21, n21⟩, -, X21, ⟨Lc21, hQ21, l21, y21, z21'⟩, st21⟩ := X20.specialBack hx (y := (⟨"com/example/airtight_graph/airtightgraph/automorphism/Verification", "<init>", "(Lcom/example/airtight_graph/airtightgraph/automorphism/Verification$Failure;I)V"⟩ : MethodName)) rfl hown (mvT hZ (hw _ (List.mem_of_getElem? (i := 3) rfl))) (mvT hZ (hw _ (List.mem_of_getElem? (i := 4) rfl))) (mvT hZ (hw _ (List.mem_of_getElem? (i := 5) rfl))) (by decide) (backOf (W := 1) (own_rm1_r l Z a0 hw [] b20 u0 xb .null (0 : Int32) h20 n0 z20 A20 fz20_failure fz20_count ge20) hZ (hw _ (List.mem_of_getElem? (i := 5) rfl)) (hw _ (List.mem_of_getElem? (i := 2) rfl)) (by decide) (by decide)) (g := (mkF m 47 #[.val (.int xa), .val (.int xb), .val (.int (xa &&& (3 : Int32))), .val (.ref u0), .unset, .unset, .unset] [(.int xb), (.ref u0), (.ref b20), (.ref b20)])) rfl (by rw [hml]; rfl) (Steps.refl _) (a := b20) (argsL := [(.ref u0), (.int xb)]) (rest := [(.ref b20)]) (lenOf own_pd0 rfl) rfl (by show 2 * 0 + _ ≤ _; exact Nat.le_of_eq rfl) (hb hby at_47) (fun _ _ => ⟨rfl, e20, (by decide : 1 + 0 ≤ _), (by decide : 2 + 0 ≤ _)⟩)
        dsimp only [Pt.U, Pt.locs, Pt.cells, Pt.slots] at X21 l21 y21 z21' st21 hQ21
        subst l21 y21 z21'
        obtain ⟨rfl, N21q, Kc21, fc21_0, fc21_1⟩ := hQ21
        have N21 := Fr.app N0 N21q
        refine own_tr st21 ?_
        have z21 : n0 ≤ T21.heap.size := Nat.le_trans z20 Kc21.1
        show own_Go p e below _ (T21.setTop (mkF m 50 #[.val (.int xa), .val (.int xb), .val (.int (xa &&& (3 : Int32))), .val (.ref u0), .unset, .unset, .unset] [(.ref b20)]))
        refine own_by (fun _ => XS.astore X21.here hx rfl (hb hby at_50) rfl rfl (l' := #[.val (.int xa), .val (.int xb), .val (.int (xa &&& (3 : Int32))), .val (.ref u0), .val (.ref b20), .unset, .unset]) rfl) ?_
        show own_Go p e below _ (T21.setTop (mkF m 52 #[.val (.int xa), .val (.int xb), .val (.int (xa &&& (3 : Int32))), .val (.ref u0), .val (.ref b20), .unset, .unset] []))
        refine own_by (fun _ => XS.aload X21.here hx rfl (hb hby at_52) rfl rfl) ?_
        show own_Go p e below _ (T21.setTop (mkF m 54 #[.val (.int xa), .val (.int xb), .val (.int (xa &&& (3 : Int32))), .val (.ref u0), .val (.ref b20), .unset, .unset] [(.ref b20)]))
        have f23 : Exa Z T21.heap b20 "com/example/airtight_graph/airtightgraph/automorphism/Verification" := (A20.keep Kc21)
        obtain ⟨cq22, kq22, q22a, q22b, q22c⟩ := isOf hZ rfl f23
        obtain ⟨_, _, ⟨T22, L22, k22, n22⟩, -, X22, ⟨Lc22, hQ22, l22, y22, z22'⟩, st22⟩ := X21.virtualBack hx (y := (⟨"com/example/airtight_graph/airtightgraph/automorphism/Verification", "isProof", "()Z"⟩ : MethodName)) (z := (⟨"com/example/airtight_graph/airtightgraph/automorphism/Verification", "isProof", "()Z"⟩ : MethodName)) hown (mvT hZ (hw _ (List.mem_of_getElem? (i := 13) rfl))) (mvT hZ (hw _ (List.mem_of_getElem? (i := 14) rfl))) (notFace_of_selects (args := #[]) (mvT hZ (hw _ (List.mem_of_getElem? (i := 16) rfl)))) (mvT hZ (hw _ (List.mem_of_getElem? (i := 16) rfl))) (mvT hZ (hw _ (List.mem_of_getElem? (i := 15) rfl))) (by decide) (backOf (W := 0) (own_rm3_r l Z a0 hw [] b20 u0 T21.heap n0 z21 fc21_0) hZ (hw _ (List.mem_of_getElem? (i := 17) rfl)) (hw _ (List.mem_of_getElem? (i := 2) rfl)) (by decide) (by decide)) q22a q22c (g := (mkF m 54 #[.val (.int xa), .val (.int xb), .val (.int (xa &&& (3 : Int32))), .val (.ref u0), .val (.ref b20), .unset, .unset] [(.ref b20)])) rfl (by rw [hml]; rfl) (Steps.refl _) (argsL := []) (rest := []) (lenOf own_pd1 rfl) rfl (by show 2 * 0 + _ ≤ _; exact Nat.le_of_eq rfl) (hb hby at_54) (fun _ _ => ⟨rfl, rfl, (by decide : 1 + 0 ≤ _), (by decide : 2 + 0 ≤ _)⟩)
        dsimp only [Pt.U, Pt.locs, Pt.cells, Pt.slots] at X22 l22 y22 z22' st22 hQ22
        subst l22 y22 z22'
        obtain ⟨rfl, N22q, e22⟩ := hQ22
        have N22 := Fr.app N21 N22q
        refine own_tr st22 ?_
        show own_Go p e below _ (T22.setTop (mkF m 57 #[.val (.int xa), .val (.int xb), .val (.int (xa &&& (3 : Int32))), .val (.ref u0), .val (.ref b20), .unset, .unset] [(.int (0 : Int32))]))
        refine own_by (fun _ => XS.istore X22.here hx rfl (hb hby at_57) rfl (l' := #[.val (.int xa), .val (.int xb), .val (.int (xa &&& (3 : Int32))), .val (.ref u0), .val (.ref b20), .val (.int (0 : Int32)), .unset]) rfl) ?_
        show own_Go p e below _ (T22.setTop (mkF m 59 #[.val (.int xa), .val (.int xb), .val (.int (xa &&& (3 : Int32))), .val (.ref u0), .val (.ref b20), .val (.int (0 : Int32)), .unset] []))
        refine own_by (fun _ => XS.iloadN X22.here hx rfl (hb hby at_59) rfl) ?_
        show own_Go p e below _ (T22.setTop (mkF m 60 #[.val (.int xa), .val (.int xb), .val (.int (xa &&& (3 : Int32))), .val (.ref u0), .val (.ref b20), .val (.int (0 : Int32)), .unset] [(.int (xa &&& (3 : Int32)))]))
        refine own_by (fun _ => XS.ifYes X22.here hx rfl (pc0 := 60) (pc' := 67) rfl (hb hby at_60) rfl ((if0 _ _).trans (feq hc5_1).2) (by decide) (by decide)) ?_
        show own_Go p e below _ (T22.setTop (mkF m 67 #[.val (.int xa), .val (.int xb), .val (.int (xa &&& (3 : Int32))), .val (.ref u0), .val (.ref b20), .val (.int (0 : Int32)), .unset] []))
        refine own_by (fun _ => XS.iconst X22.here hx rfl (hb hby at_67)) ?_
        show own_Go p e below _ (T22.setTop (mkF m 68 #[.val (.int xa), .val (.int xb), .val (.int (xa &&& (3 : Int32))), .val (.ref u0), .val (.ref b20), .val (.int (0 : Int32)), .unset] [(.int (0 : Int32))]))
        refine own_by (fun _ => XS.istore X22.here hx rfl (hb hby at_68) rfl (l' := #[.val (.int xa), .val (.int xb), .val (.int (xa &&& (3 : Int32))), .val (.ref u0), .val (.ref b20), .val (.int (0 : Int32)), .val (.int (0 : Int32))]) rfl) ?_
        show own_Go p e below _ (T22.setTop (mkF m 70 #[.val (.int xa), .val (.int xb), .val (.int (xa &&& (3 : Int32))), .val (.ref u0), .val (.ref b20), .val (.int (0 : Int32)), .val (.int (0 : Int32))] []))
        refine own_by (fun _ => XS.iload X22.here hx rfl (hb hby at_70) rfl) ?_
        show own_Go p e below _ (T22.setTop (mkF m 72 #[.val (.int xa), .val (.int xb), .val (.int (xa &&& (3 : Int32))), .val (.ref u0), .val (.ref b20), .val (.int (0 : Int32)), .val (.int (0 : Int32))] [(.int (0 : Int32))]))
        refine own_by (fun _ => XS.iload X22.here hx rfl (hb hby at_72) rfl) ?_
        show own_Go p e below _ (T22.setTop (mkF m 74 #[.val (.int xa), .val (.int xb), .val (.int (xa &&& (3 : Int32))), .val (.ref u0), .val (.ref b20), .val (.int (0 : Int32)), .val (.int (0 : Int32))] [(.int (0 : Int32)), (.int (0 : Int32))]))
        refine own_by (fun _ => XS.icmpNo X22.here hx rfl (hb hby at_74) rfl (teq (by decide : (0 : Int32) = (0 : Int32))).2) ?_
        show own_Go p e below _ (T22.setTop (mkF m 77 #[.val (.int xa), .val (.int xb), .val (.int (xa &&& (3 : Int32))), .val (.ref u0), .val (.ref b20), .val (.int (0 : Int32)), .val (.int (0 : Int32))] []))
        refine own_by (fun _ => XS.aload X22.here hx rfl (hb hby at_77) rfl rfl) ?_
        show own_Go p e below _ (T22.setTop (mkF m 79 #[.val (.int xa), .val (.int xb), .val (.int (xa &&& (3 : Int32))), .val (.ref u0), .val (.ref b20), .val (.int (0 : Int32)), .val (.int (0 : Int32))] [(.ref b20)]))
        obtain ⟨cq24, kq24, q24a, q24b, q24c⟩ := isOf hZ e22 f23
        obtain ⟨_, _, ⟨T24, L24, k24, n24⟩, -, X24, ⟨Lc24, hQ24, l24, y24, z24'⟩, st24⟩ := X22.virtualBack hx (y := (⟨"com/example/airtight_graph/airtightgraph/automorphism/Verification", "failure", "()Lcom/example/airtight_graph/airtightgraph/automorphism/Verification$Failure;"⟩ : MethodName)) (z := (⟨"com/example/airtight_graph/airtightgraph/automorphism/Verification", "failure", "()Lcom/example/airtight_graph/airtightgraph/automorphism/Verification$Failure;"⟩ : MethodName)) hown (mvT hZ (hw _ (List.mem_of_getElem? (i := 18) rfl))) (mvT hZ (hw _ (List.mem_of_getElem? (i := 19) rfl))) (notFace_of_selects (args := #[]) (mvT hZ (hw _ (List.mem_of_getElem? (i := 21) rfl)))) (mvT hZ (hw _ (List.mem_of_getElem? (i := 21) rfl))) (mvT hZ (hw _ (List.mem_of_getElem? (i := 20) rfl))) (by decide) (backOf (W := 0) (own_rm4_r l Z a0 hw [] b20 u0 T21.heap n0 z21 fc21_0) hZ (hw _ (List.mem_of_getElem? (i := 22) rfl)) (hw _ (List.mem_of_getElem? (i := 2) rfl)) (by decide) (by decide)) q24a q24c (g := (mkF m 79 #[.val (.int xa), .val (.int xb), .val (.int (xa &&& (3 : Int32))), .val (.ref u0), .val (.ref b20), .val (.int (0 : Int32)), .val (.int (0 : Int32))] [(.ref b20)])) rfl (by rw [hml]; rfl) (Steps.refl _) (argsL := []) (rest := []) (lenOf own_pd2 rfl) rfl (by show 2 * 0 + _ ≤ _; exact Nat.le_of_eq rfl) (hb hby at_79) (fun _ _ => ⟨rfl, e22, (by decide : 1 + 0 ≤ _), (by decide : 2 + 0 ≤ _)⟩)
        dsimp only [Pt.U, Pt.locs, Pt.cells, Pt.slots] at X24 l24 y24 z24' st24 hQ24
        subst l24 y24 z24'
        obtain ⟨rfl, N24q, e24⟩ := hQ24
        have N24 := Fr.app N22 N24q
        refine own_tr st24 ?_
        show own_Go p e below _ (T24.setTop (mkF m 82 #[.val (.int xa), .val (.int xb), .val (.int (xa &&& (3 : Int32))), .val (.ref u0), .val (.ref b20), .val (.int (0 : Int32)), .val (.int (0 : Int32))] [(.ref u0)]))
        refine own_by (fun _ => XS.aloadN X24.here hx rfl (hb hby at_82) rfl rfl) ?_
        show own_Go p e below _ (T24.setTop (mkF m 83 #[.val (.int xa), .val (.int xb), .val (.int (xa &&& (3 : Int32))), .val (.ref u0), .val (.ref b20), .val (.int (0 : Int32)), .val (.int (0 : Int32))] [(.ref u0), (.ref u0)]))
        refine own_by (fun _ => Jvm.RoadKit.acmp (g := (mkF m 83 #[.val (.int xa), .val (.int xb), .val (.int (xa &&& (3 : Int32))), .val (.ref u0), .val (.ref b20), .val (.int (0 : Int32)), .val (.int (0 : Int32))] [(.ref u0), (.ref u0)])) X24 hx rfl rfl rfl (pc0 := 83) (pc' := 86) (same := true) rfl (hb hby at_83) rfl (decide_eq_true rfl) (by decide) (by decide)) ?_
        show own_Go p e below _ (T24.setTop (mkF m 86 #[.val (.int xa), .val (.int xb), .val (.int (xa &&& (3 : Int32))), .val (.ref u0), .val (.ref b20), .val (.int (0 : Int32)), .val (.int (0 : Int32))] []))
        refine own_by (fun _ => XS.iload X24.here hx rfl (hb hby at_86) rfl) ?_
        show own_Go p e below _ (T24.setTop (mkF m 88 #[.val (.int xa), .val (.int xb), .val (.int (xa &&& (3 : Int32))), .val (.ref u0), .val (.ref b20), .val (.int (0 : Int32)), .val (.int (0 : Int32))] [(.int (0 : Int32))]))
        refine own_by (fun _ => XS.aload X24.here hx rfl (hb hby at_88) rfl rfl) ?_
        show own_Go p e below _ (T24.setTop (mkF m 90 #[.val (.int xa), .val (.int xb), .val (.int (xa &&& (3 : Int32))), .val (.ref u0), .val (.ref b20), .val (.int (0 : Int32)), .val (.int (0 : Int32))] [(.ref b20), (.int (0 : Int32))]))
        obtain ⟨cq25, kq25, q25a, q25b, q25c⟩ := isOf hZ e24 f23
        obtain ⟨_, _, ⟨T25, L25, k25, n25⟩, -, X25, ⟨Lc25, hQ25, l25, y25, z25'⟩, st25⟩ := X24.virtualBack hx (y := (⟨"com/example/airtight_graph/airtightgraph/automorphism/Verification", "failure", "()Lcom/example/airtight_graph/airtightgraph/automorphism/Verification$Failure;"⟩ : MethodName)) (z := (⟨"com/example/airtight_graph/airtightgraph/automorphism/Verification", "failure", "()Lcom/example/airtight_graph/airtightgraph/automorphism/Verification$Failure;"⟩ : MethodName)) hown (mvT hZ (hw _ (List.mem_of_getElem? (i := 18) rfl))) (mvT hZ (hw _ (List.mem_of_getElem? (i := 19) rfl))) (notFace_of_selects (args := #[]) (mvT hZ (hw _ (List.mem_of_getElem? (i := 21) rfl)))) (mvT hZ (hw _ (List.mem_of_getElem? (i := 21) rfl))) (mvT hZ (hw _ (List.mem_of_getElem? (i := 20) rfl))) (by decide) (backOf (W := 1) (own_rm4_r l Z a0 hw [] b20 u0 T21.heap n0 z21 fc21_0) hZ (hw _ (List.mem_of_getElem? (i := 22) rfl)) (hw _ (List.mem_of_getElem? (i := 2) rfl)) (by decide) (by decide)) q25a q25c (g := (mkF m 90 #[.val (.int xa), .val (.int xb), .val (.int (xa &&& (3 : Int32))), .val (.ref u0), .val (.ref b20), .val (.int (0 : Int32)), .val (.int (0 : Int32))] [(.ref b20), (.int (0 : Int32))])) rfl (by rw [hml]; rfl) (Steps.refl _) (argsL := []) (rest := [(.int (0 : Int32))]) (lenOf own_pd2 rfl) rfl (by show 2 * 0 + _ ≤ _; exact Nat.le_of_eq rfl) (hb hby at_90) (fun _ _ => ⟨rfl, e24, (by decide : 1 + 0 ≤ _), (by decide : 2 + 0 ≤ _)⟩)
        dsimp only [Pt.U, Pt.locs, Pt.cells, Pt.slots] at X25 l25 y25 z25' st25 hQ25
        subst l25 y25 z25'
        obtain ⟨rfl, N25q, e25⟩ := hQ25
        have N25 := Fr.app N24 N25q
        refine own_tr st25 ?_
        show own_Go p e below _ (T25.setTop (mkF m 93 #[.val (.int xa), .val (.int xb), .val (.int (xa &&& (3 : Int32))), .val (.ref u0), .val (.ref b20), .val (.int (0 : Int32)), .val (.int (0 : Int32))] [(.ref u0), (.int (0 : Int32))]))
        refine own_by (fun _ => XS.ifnonnullYes X25.here hx rfl (pc0 := 93) (pc' := 100) rfl (hb hby at_93) rfl (by decide) (by decide)) ?_
        show own_Go p e below _ (T25.setTop (mkF m 100 #[.val (.int xa), .val (.int xb), .val (.int (xa &&& (3 : Int32))), .val (.ref u0), .val (.ref b20), .val (.int (0 : Int32)), .val (.int (0 : Int32))] [(.int (0 : Int32))]))
        refine own_by (fun _ => XS.iconst X25.here hx rfl (hb hby at_100)) ?_
        show own_Go p e below _ (T25.setTop (mkF m 101 #[.val (.int xa), .val (.int xb), .val (.int (xa &&& (3 : Int32))), .val (.ref u0), .val (.ref b20), .val (.int (0 : Int32)), .val (.int (0 : Int32))] [(.int (0 : Int32)), (.int (0 : Int32))]))
        refine own_by (fun _ => XS.icmpNo X25.here hx rfl (hb hby at_101) rfl (teq (by decide : (0 : Int32) = (0 : Int32))).2) ?_
        show own_Go p e below _ (T25.setTop (mkF m 104 #[.val (.int xa), .val (.int xb), .val (.int (xa &&& (3 : Int32))), .val (.ref u0), .val (.ref b20), .val (.int (0 : Int32)), .val (.int (0 : Int32))] []))
        refine own_by (fun _ => XS.aload X25.here hx rfl (hb hby at_104) rfl rfl) ?_
        show own_Go p e below _ (T25.setTop (mkF m 106 #[.val (.int xa), .val (.int xb), .val (.int (xa &&& (3 : Int32))), .val (.ref u0), .val (.ref b20), .val (.int (0 : Int32)), .val (.int (0 : Int32))] [(.ref b20)]))
        obtain ⟨cq26, kq26, q26a, q26b, q26c⟩ := isOf hZ e25 f23
        obtain ⟨_, _, ⟨T26, L26, k26, n26⟩, -, X26, ⟨Lc26, hQ26, l26, y26, z26'⟩, st26⟩ := X25.virtualBack hx (y := (⟨"com/example/airtight_graph/airtightgraph/automorphism/Verification", "count", "()I"⟩ : MethodName)) (z := (⟨"com/example/airtight_graph/airtightgraph/automorphism/Verification", "count", "()I"⟩ : MethodName)) hown (mvT hZ (hw _ (List.mem_of_getElem? (i := 23) rfl))) (mvT hZ (hw _ (List.mem_of_getElem? (i := 24) rfl))) (notFace_of_selects (args := #[]) (mvT hZ (hw _ (List.mem_of_getElem? (i := 26) rfl)))) (mvT hZ (hw _ (List.mem_of_getElem? (i := 26) rfl))) (mvT hZ (hw _ (List.mem_of_getElem? (i := 25) rfl))) (by decide) (backOf (W := 0) (own_rm5 l Z a0 hw [] b20 xb T21.heap n0 z21 fc21_1) hZ (hw _ (List.mem_of_getElem? (i := 27) rfl)) (hw _ (List.mem_of_getElem? (i := 2) rfl)) (by decide) (by decide)) q26a q26c (g := (mkF m 106 #[.val (.int xa), .val (.int xb), .val (.int (xa &&& (3 : Int32))), .val (.ref u0), .val (.ref b20), .val (.int (0 : Int32)), .val (.int (0 : Int32))] [(.ref b20)])) rfl (by rw [hml]; rfl) (Steps.refl _) (argsL := []) (rest := []) (lenOf own_pd3 rfl) rfl (by show 2 * 0 + _ ≤ _; exact Nat.le_of_eq rfl) (hb hby at_106) (fun _ _ => ⟨rfl, e25, (by decide : 1 + 0 ≤ _), (by decide : 2 + 0 ≤ _)⟩)
        dsimp only [Pt.U, Pt.locs, Pt.cells, Pt.slots] at X26 l26 y26 z26' st26 hQ26
        subst l26 y26 z26'
        obtain ⟨rfl, N26q, e26⟩ := hQ26
        have N26 := Fr.app N25 N26q
        refine own_tr st26 ?_
        show own_Go p e below _ (T26.setTop (mkF m 109 #[.val (.int xa), .val (.int xb), .val (.int (xa &&& (3 : Int32))), .val (.ref u0), .val (.ref b20), .val (.int (0 : Int32)), .val (.int (0 : Int32))] [(.int xb)]))
        refine own_by (fun _ => XS.iloadN X26.here hx rfl (hb hby at_109) rfl) ?_
        show own_Go p e below _ (T26.setTop (mkF m 110 #[.val (.int xa), .val (.int xb), .val (.int (xa &&& (3 : Int32))), .val (.ref u0), .val (.ref b20), .val (.int (0 : Int32)), .val (.int (0 : Int32))] [(.int xb), (.int xb)]))
        refine own_by (fun _ => XS.icmpNo X26.here hx rfl (hb hby at_110) rfl (teq (rfl : xb = xb)).2) ?_
        show own_Go p e below _ (T26.setTop (mkF m 113 #[.val (.int xa), .val (.int xb), .val (.int (xa &&& (3 : Int32))), .val (.ref u0), .val (.ref b20), .val (.int (0 : Int32)), .val (.int (0 : Int32))] []))
        refine own_by (fun _ => XS.iconst X26.here hx rfl (hb hby at_113)) ?_
        show own_Go p e below _ (T26.setTop (mkF m 114 #[.val (.int xa), .val (.int xb), .val (.int (xa &&& (3 : Int32))), .val (.ref u0), .val (.ref b20), .val (.int (0 : Int32)), .val (.int (0 : Int32))] [(.int (1 : Int32))]))
        refine own_by (fun _ => XS.goto X26.here hx rfl (pc0 := 114) (pc' := 118) rfl (hb hby at_114) (by decide) (by decide)) ?_
        show own_Go p e below _ (T26.setTop (mkF m 118 #[.val (.int xa), .val (.int xb), .val (.int (xa &&& (3 : Int32))), .val (.ref u0), .val (.ref b20), .val (.int (0 : Int32)), .val (.int (0 : Int32))] [(.int (1 : Int32))]))
        exact own_retZ X26 hx hlk e26 (by decide) hret (hb hby at_118) (by decide) (by decide) ⟨rfl, N26⟩
      ·
        skip
        refine own_by (fun _ => XS.icmpYes X0.here hx rfl (pc0 := 27) (pc' := 37) rfl (hb hby at_27) rfl (feq hc27_18).2 (by decide) (by decide)) ?_
        show own_Go p e below _ (s₁.setTop (mkF m 37 #[.val (.int xa), .val (.int xb), .val (.int (xa &&& (3 : Int32))), .unset, .unset, .unset, .unset] []))
        obtain ⟨T27, X27, e27, st27⟩ := getS2 X0 hx hZ hown (host := "") (Or.inl (hw _ (List.mem_of_getElem? (i := 33) rfl))) Via.refl e0 pf2 (g := (mkF m 37 #[.val (.int xa), .val (.int xb), .val (.int (xa &&& (3 : Int32))), .unset, .unset, .unset, .unset] [])) rfl (hb hby at_37)
        refine own_by st27 ?_
        show own_Go p e below _ (T27.setTop (mkF m 40 #[.val (.int xa), .val (.int xb), .val (.int (xa &&& (3 : Int32))), .unset, .unset, .unset, .unset] [(.ref u2)]))
        refine own_by (fun _ => XS.astoreN X27.here hx rfl (hb hby at_40) rfl rfl (l' := #[.val (.int xa), .val (.int xb), .val (.int (xa &&& (3 : Int32))), .val (.ref u2), .unset, .unset, .unset]) rfl) ?_
        show own_Go p e below _ (T27.setTop (mkF m 41 #[.val (.int xa), .val (.int xb), .val (.int (xa &&& (3 : Int32))), .val (.ref u2), .unset, .unset, .unset] []))
        obtain ⟨T28, h28, X28, e28, E28, A28, D28, -, st28⟩ := newO X27 hx hZ hown (hw _ (List.mem_of_getElem? (i := 0) rfl)) (hw _ (List.mem_of_getElem? (i := 1) rfl)) (hw _ (List.mem_of_getElem? (i := 2) rfl)) e27 (g := (mkF m 41 #[.val (.int xa), .val (.int xb), .val (.int (xa &&& (3 : Int32))), .val (.ref u2), .unset, .unset, .unset] [])) rfl (hb hby at_41) (by decide) (by decide)
        obtain ⟨b28, g28⟩ : ∃ z, z = h0.size := ⟨_, rfl⟩
        rw [← g28] at A28 D28 st28
        refine own_by st28 ?_
        have ge28 : n0 ≤ b28 := Nat.le_trans Z0 (Nat.le_of_eq g28.symm)
        have z28 : n0 ≤ h28.size := Nat.le_trans Z0 E28.1
        have fz28_failure : Fld Z h28 b28 "com/example/airtight_graph/airtightgraph/automorphism/Verification" "failure" "Lcom/example/airtight_graph/airtightgraph/automorphism/Verification$Failure;" .null := D28 (Or.inr (hw _ (List.mem_of_getElem? (i := 10) rfl))) (ty := (.object "com/example/airtight_graph/airtightgraph/automorphism/Verification$Failure")) (by decide)
        have fz28_count : Fld Z h28 b28 "com/example/airtight_graph/airtightgraph/automorphism/Verification" "count" "I" (.int (0 : Int32)) := D28 (Or.inr (hw _ (List.mem_of_getElem? (i := 12) rfl))) (ty := .int) (by decide)
        show own_Go p e below _ (T28.setTop (mkF m 44 #[.val (.int xa), .val (.int xb), .val (.int (xa &&& (3 : Int32))), .val (.ref u2), .unset, .unset, .unset] [(.ref b28)]))
        refine own_by (fun _ => XS.dup X28.here hx rfl (hb hby at_44) rfl rfl) ?_
        show own_Go p e below _ (T28.setTop (mkF m 45 #[.val (.int xa), .val (.int xb), .val (.int (xa &&& (3 : Int32))), .val (.ref u2), .unset, .unset, .unset] [(.ref b28), (.ref b28)]))
        refine own_by (fun _ => XS.aloadN X28.here hx rfl (hb hby at_45) rfl rfl) ?_
        show own_Go p e below _ (T28.setTop (mkF m 46 #[.val (.int xa), .val (.int xb), .val (.int (xa &&& (3 : Int32))), .val (.ref u2), .unset, .unset, .unset] [(.ref u2), (.ref b28), (.ref b28)]))
        refine own_by (fun _ => XS.iloadN X28.here hx rfl (hb hby at_46) rfl) ?_
        show own_Go p e below _ (T28.setTop (mkF m 47 #[.val (.int xa), .val (.int xb), .val (.int (xa &&& (3 : Int32))), .val (.ref u2), .unset, .unset, .unset] [(.int xb), (.ref u2), (.ref b28), (.ref b28)]))
        obtain ⟨_, _, ⟨T29, L29, k29, n29⟩, -, X29, ⟨Lc29, hQ29, l29, y29, z29'⟩, st29⟩ := X28.specialBack hx (y := (⟨"com/example/airtight_graph/airtightgraph/automorphism/Verification", "<init>", "(Lcom/example/airtight_graph/airtightgraph/automorphism/Verification$Failure;I)V"⟩ : MethodName)) rfl hown (mvT hZ (hw _ (List.mem_of_getElem? (i := 3) rfl))) (mvT hZ (hw _ (List.mem_of_getElem? (i := 4) rfl))) (mvT hZ (hw _ (List.mem_of_getElem? (i := 5) rfl))) (by decide) (backOf (W := 1) (own_rm1_r l Z a0 hw [] b28 u2 xb .null (0 : Int32) h28 n0 z28 A28 fz28_failure fz28_count ge28) hZ (hw _ (List.mem_of_getElem? (i := 5) rfl)) (hw _ (List.mem_of_getElem? (i := 2) rfl)) (by decide) (by decide)) (g := (mkF m 47 #[.val (.int xa), .val (.int xb), .val (.int (xa &&& (3 : Int32))), .val (.ref u2), .unset, .unset, .unset] [(.int xb), (.ref u2), (.ref b28), (.ref b28)])) rfl (by rw [hml]; rfl) (Steps.refl _) (a := b28) (argsL := [(.ref u2), (.int xb)]) (rest := [(.ref b28)]) (lenOf own_pd0 rfl) rfl (by show 2 * 0 + _ ≤ _; exact Nat.le_of_eq rfl) (hb hby at_47) (fun _ _ => ⟨rfl, e28, (by decide : 1 + 0 ≤ _), (by decide : 2 + 0 ≤ _)⟩)
        dsimp only [Pt.U, Pt.locs, Pt.cells, Pt.slots] at X29 l29 y29 z29' st29 hQ29
        subst l29 y29 z29'
        obtain ⟨rfl, N29q, Kc29, fc29_0, fc29_1⟩ := hQ29
        have N29 := Fr.app N0 N29q
        refine own_tr st29 ?_
        have z29 : n0 ≤ T29.heap.size := Nat.le_trans z28 Kc29.1
        show own_Go p e below _ (T29.setTop (mkF m 50 #[.val (.int xa), .val (.int xb), .val (.int (xa &&& (3 : Int32))), .val (.ref u2), .unset, .unset, .unset] [(.ref b28)]))
        refine own_by (fun _ => XS.astore X29.here hx rfl (hb hby at_50) rfl rfl (l' := #[.val (.int xa), .val (.int xb), .val (.int (xa &&& (3 : Int32))), .val (.ref u2), .val (.ref b28), .unset, .unset]) rfl) ?_
        show own_Go p e below _ (T29.setTop (mkF m 52 #[.val (.int xa), .val (.int xb), .val (.int (xa &&& (3 : Int32))), .val (.ref u2), .val (.ref b28), .unset, .unset] []))
        refine own_by (fun _ => XS.aload X29.here hx rfl (hb hby at_52) rfl rfl) ?_
        show own_Go p e below _ (T29.setTop (mkF m 54 #[.val (.int xa), .val (.int xb), .val (.int (xa &&& (3 : Int32))), .val (.ref u2), .val (.ref b28), .unset, .unset] [(.ref b28)]))
        have f31 : Exa Z T29.heap b28 "com/example/airtight_graph/airtightgraph/automorphism/Verification" := (A28.keep Kc29)
        obtain ⟨cq30, kq30, q30a, q30b, q30c⟩ := isOf hZ rfl f31
        obtain ⟨_, _, ⟨T30, L30, k30, n30⟩, -, X30, ⟨Lc30, hQ30, l30, y30, z30'⟩, st30⟩ := X29.virtualBack hx (y := (⟨"com/example/airtight_graph/airtightgraph/automorphism/Verification", "isProof", "()Z"⟩ : MethodName)) (z := (⟨"com/example/airtight_graph/airtightgraph/automorphism/Verification", "isProof", "()Z"⟩ : MethodName)) hown (mvT hZ (hw _ (List.mem_of_getElem? (i := 13) rfl))) (mvT hZ (hw _ (List.mem_of_getElem? (i := 14) rfl))) (notFace_of_selects (args := #[]) (mvT hZ (hw _ (List.mem_of_getElem? (i := 16) rfl)))) (mvT hZ (hw _ (List.mem_of_getElem? (i := 16) rfl))) (mvT hZ (hw _ (List.mem_of_getElem? (i := 15) rfl))) (by decide) (backOf (W := 0) (own_rm3_r l Z a0 hw [] b28 u2 T29.heap n0 z29 fc29_0) hZ (hw _ (List.mem_of_getElem? (i := 17) rfl)) (hw _ (List.mem_of_getElem? (i := 2) rfl)) (by decide) (by decide)) q30a q30c (g := (mkF m 54 #[.val (.int xa), .val (.int xb), .val (.int (xa &&& (3 : Int32))), .val (.ref u2), .val (.ref b28), .unset, .unset] [(.ref b28)])) rfl (by rw [hml]; rfl) (Steps.refl _) (argsL := []) (rest := []) (lenOf own_pd1 rfl) rfl (by show 2 * 0 + _ ≤ _; exact Nat.le_of_eq rfl) (hb hby at_54) (fun _ _ => ⟨rfl, rfl, (by decide : 1 + 0 ≤ _), (by decide : 2 + 0 ≤ _)⟩)
        dsimp only [Pt.U, Pt.locs, Pt.cells, Pt.slots] at X30 l30 y30 z30' st30 hQ30
        subst l30 y30 z30'
        obtain ⟨rfl, N30q, e30⟩ := hQ30
        have N30 := Fr.app N29 N30q
        refine own_tr st30 ?_
        show own_Go p e below _ (T30.setTop (mkF m 57 #[.val (.int xa), .val (.int xb), .val (.int (xa &&& (3 : Int32))), .val (.ref u2), .val (.ref b28), .unset, .unset] [(.int (0 : Int32))]))
        refine own_by (fun _ => XS.istore X30.here hx rfl (hb hby at_57) rfl (l' := #[.val (.int xa), .val (.int xb), .val (.int (xa &&& (3 : Int32))), .val (.ref u2), .val (.ref b28), .val (.int (0 : Int32)), .unset]) rfl) ?_
        show own_Go p e below _ (T30.setTop (mkF m 59 #[.val (.int xa), .val (.int xb), .val (.int (xa &&& (3 : Int32))), .val (.ref u2), .val (.ref b28), .val (.int (0 : Int32)), .unset] []))
        refine own_by (fun _ => XS.iloadN X30.here hx rfl (hb hby at_59) rfl) ?_
        show own_Go p e below _ (T30.setTop (mkF m 60 #[.val (.int xa), .val (.int xb), .val (.int (xa &&& (3 : Int32))), .val (.ref u2), .val (.ref b28), .val (.int (0 : Int32)), .unset] [(.int (xa &&& (3 : Int32)))]))
        refine own_by (fun _ => XS.ifYes X30.here hx rfl (pc0 := 60) (pc' := 67) rfl (hb hby at_60) rfl ((if0 _ _).trans (feq hc5_1).2) (by decide) (by decide)) ?_
        show own_Go p e below _ (T30.setTop (mkF m 67 #[.val (.int xa), .val (.int xb), .val (.int (xa &&& (3 : Int32))), .val (.ref u2), .val (.ref b28), .val (.int (0 : Int32)), .unset] []))
        refine own_by (fun _ => XS.iconst X30.here hx rfl (hb hby at_67)) ?_
        show own_Go p e below _ (T30.setTop (mkF m 68 #[.val (.int xa), .val (.int xb), .val (.int (xa &&& (3 : Int32))), .val (.ref u2), .val (.ref b28), .val (.int (0 : Int32)), .unset] [(.int (0 : Int32))]))
        refine own_by (fun _ => XS.istore X30.here hx rfl (hb hby at_68) rfl (l' := #[.val (.int xa), .val (.int xb), .val (.int (xa &&& (3 : Int32))), .val (.ref u2), .val (.ref b28), .val (.int (0 : Int32)), .val (.int (0 : Int32))]) rfl) ?_
        show own_Go p e below _ (T30.setTop (mkF m 70 #[.val (.int xa), .val (.int xb), .val (.int (xa &&& (3 : Int32))), .val (.ref u2), .val (.ref b28), .val (.int (0 : Int32)), .val (.int (0 : Int32))] []))
        refine own_by (fun _ => XS.iload X30.here hx rfl (hb hby at_70) rfl) ?_
        show own_Go p e below _ (T30.setTop (mkF m 72 #[.val (.int xa), .val (.int xb), .val (.int (xa &&& (3 : Int32))), .val (.ref u2), .val (.ref b28), .val (.int (0 : Int32)), .val (.int (0 : Int32))] [(.int (0 : Int32))]))
        refine own_by (fun _ => XS.iload X30.here hx rfl (hb hby at_72) rfl) ?_
        show own_Go p e below _ (T30.setTop (mkF m 74 #[.val (.int xa), .val (.int xb), .val (.int (xa &&& (3 : Int32))), .val (.ref u2), .val (.ref b28), .val (.int (0 : Int32)), .val (.int (0 : Int32))] [(.int (0 : Int32)), (.int (0 : Int32))]))
        refine own_by (fun _ => XS.icmpNo X30.here hx rfl (hb hby at_74) rfl (teq (by decide : (0 : Int32) = (0 : Int32))).2) ?_
        show own_Go p e below _ (T30.setTop (mkF m 77 #[.val (.int xa), .val (.int xb), .val (.int (xa &&& (3 : Int32))), .val (.ref u2), .val (.ref b28), .val (.int (0 : Int32)), .val (.int (0 : Int32))] []))
        refine own_by (fun _ => XS.aload X30.here hx rfl (hb hby at_77) rfl rfl) ?_
        show own_Go p e below _ (T30.setTop (mkF m 79 #[.val (.int xa), .val (.int xb), .val (.int (xa &&& (3 : Int32))), .val (.ref u2), .val (.ref b28), .val (.int (0 : Int32)), .val (.int (0 : Int32))] [(.ref b28)]))
        obtain ⟨cq32, kq32, q32a, q32b, q32c⟩ := isOf hZ e30 f31
        obtain ⟨_, _, ⟨T32, L32, k32, n32⟩, -, X32, ⟨Lc32, hQ32, l32, y32, z32'⟩, st32⟩ := X30.virtualBack hx (y := (⟨"com/example/airtight_graph/airtightgraph/automorphism/Verification", "failure", "()Lcom/example/airtight_graph/airtightgraph/automorphism/Verification$Failure;"⟩ : MethodName)) (z := (⟨"com/example/airtight_graph/airtightgraph/automorphism/Verification", "failure", "()Lcom/example/airtight_graph/airtightgraph/automorphism/Verification$Failure;"⟩ : MethodName)) hown (mvT hZ (hw _ (List.mem_of_getElem? (i := 18) rfl))) (mvT hZ (hw _ (List.mem_of_getElem? (i := 19) rfl))) (notFace_of_selects (args := #[]) (mvT hZ (hw _ (List.mem_of_getElem? (i := 21) rfl)))) (mvT hZ (hw _ (List.mem_of_getElem? (i := 21) rfl))) (mvT hZ (hw _ (List.mem_of_getElem? (i := 20) rfl))) (by decide) (backOf (W := 0) (own_rm4_r l Z a0 hw [] b28 u2 T29.heap n0 z29 fc29_0) hZ (hw _ (List.mem_of_getElem? (i := 22) rfl)) (hw _ (List.mem_of_getElem? (i := 2) rfl)) (by decide) (by decide)) q32a q32c (g := (mkF m 79 #[.val (.int xa), .val (.int xb), .val (.int (xa &&& (3 : Int32))), .val (.ref u2), .val (.ref b28), .val (.int (0 : Int32)), .val (.int (0 : Int32))] [(.ref b28)])) rfl (by rw [hml]; rfl) (Steps.refl _) (argsL := []) (rest := []) (lenOf own_pd2 rfl) rfl (by show 2 * 0 + _ ≤ _; exact Nat.le_of_eq rfl) (hb hby at_79) (fun _ _ => ⟨rfl, e30, (by decide : 1 + 0 ≤ _), (by decide : 2 + 0 ≤ _)⟩)
        dsimp only [Pt.U, Pt.locs, Pt.cells, Pt.slots] at X32 l32 y32 z32' st32 hQ32
        subst l32 y32 z32'
        obtain ⟨rfl, N32q, e32⟩ := hQ32
        have N32 := Fr.app N30 N32q
        refine own_tr st32 ?_
        show own_Go p e below _ (T32.setTop (mkF m 82 #[.val (.int xa), .val (.int xb), .val (.int (xa &&& (3 : Int32))), .val (.ref u2), .val (.ref b28), .val (.int (0 : Int32)), .val (.int (0 : Int32))] [(.ref u2)]))
        refine own_by (fun _ => XS.aloadN X32.here hx rfl (hb hby at_82) rfl rfl) ?_
        show own_Go p e below _ (T32.setTop (mkF m 83 #[.val (.int xa), .val (.int xb), .val (.int (xa &&& (3 : Int32))), .val (.ref u2), .val (.ref b28), .val (.int (0 : Int32)), .val (.int (0 : Int32))] [(.ref u2), (.ref u2)]))
        refine own_by (fun _ => Jvm.RoadKit.acmp (g := (mkF m 83 #[.val (.int xa), .val (.int xb), .val (.int (xa &&& (3 : Int32))), .val (.ref u2), .val (.ref b28), .val (.int (0 : Int32)), .val (.int (0 : Int32))] [(.ref u2), (.ref u2)])) X32 hx rfl rfl rfl (pc0 := 83) (pc' := 86) (same := true) rfl (hb hby at_83) rfl (decide_eq_true rfl) (by decide) (by decide)) ?_
        show own_Go p e below _ (T32.setTop (mkF m 86 #[.val (.int xa), .val (.int xb), .val (.int (xa &&& (3 : Int32))), .val (.ref u2), .val (.ref b28), .val (.int (0 : Int32)), .val (.int (0 : Int32))] []))
        refine own_by (fun _ => XS.iload X32.here hx rfl (hb hby at_86) rfl) ?_
        show own_Go p e below _ (T32.setTop (mkF m 88 #[.val (.int xa), .val (.int xb), .val (.int (xa &&& (3 : Int32))), .val (.ref u2), .val (.ref b28), .val (.int (0 : Int32)), .val (.int (0 : Int32))] [(.int (0 : Int32))]))
        refine own_by (fun _ => XS.aload X32.here hx rfl (hb hby at_88) rfl rfl) ?_
        show own_Go p e below _ (T32.setTop (mkF m 90 #[.val (.int xa), .val (.int xb), .val (.int (xa &&& (3 : Int32))), .val (.ref u2), .val (.ref b28), .val (.int (0 : Int32)), .val (.int (0 : Int32))] [(.ref b28), (.int (0 : Int32))]))
        obtain ⟨cq33, kq33, q33a, q33b, q33c⟩ := isOf hZ e32 f31
        obtain ⟨_, _, ⟨T33, L33, k33, n33⟩, -, X33, ⟨Lc33, hQ33, l33, y33, z33'⟩, st33⟩ := X32.virtualBack hx (y := (⟨"com/example/airtight_graph/airtightgraph/automorphism/Verification", "failure", "()Lcom/example/airtight_graph/airtightgraph/automorphism/Verification$Failure;"⟩ : MethodName)) (z := (⟨"com/example/airtight_graph/airtightgraph/automorphism/Verification", "failure", "()Lcom/example/airtight_graph/airtightgraph/automorphism/Verification$Failure;"⟩ : MethodName)) hown (mvT hZ (hw _ (List.mem_of_getElem? (i := 18) rfl))) (mvT hZ (hw _ (List.mem_of_getElem? (i := 19) rfl))) (notFace_of_selects (args := #[]) (mvT hZ (hw _ (List.mem_of_getElem? (i := 21) rfl)))) (mvT hZ (hw _ (List.mem_of_getElem? (i := 21) rfl))) (mvT hZ (hw _ (List.mem_of_getElem? (i := 20) rfl))) (by decide) (backOf (W := 1) (own_rm4_r l Z a0 hw [] b28 u2 T29.heap n0 z29 fc29_0) hZ (hw _ (List.mem_of_getElem? (i := 22) rfl)) (hw _ (List.mem_of_getElem? (i := 2) rfl)) (by decide) (by decide)) q33a q33c (g := (mkF m 90 #[.val (.int xa), .val (.int xb), .val (.int (xa &&& (3 : Int32))), .val (.ref u2), .val (.ref b28), .val (.int (0 : Int32)), .val (.int (0 : Int32))] [(.ref b28), (.int (0 : Int32))])) rfl (by rw [hml]; rfl) (Steps.refl _) (argsL := []) (rest := [(.int (0 : Int32))]) (lenOf own_pd2 rfl) rfl (by show 2 * 0 + _ ≤ _; exact Nat.le_of_eq rfl) (hb hby at_90) (fun _ _ => ⟨rfl, e32, (by decide : 1 + 0 ≤ _), (by decide : 2 + 0 ≤ _)⟩)
        dsimp only [Pt.U, Pt.locs, Pt.cells, Pt.slots] at X33 l33 y33 z33' st33 hQ33
        subst l33 y33 z33'
        obtain ⟨rfl, N33q, e33⟩ := hQ33
        have N33 := Fr.app N32 N33q
        refine own_tr st33 ?_
        show own_Go p e below _ (T33.setTop (mkF m 93 #[.val (.int xa), .val (.int xb), .val (.int (xa &&& (3 : Int32))), .val (.ref u2), .val (.ref b28), .val (.int (0 : Int32)), .val (.int (0 : Int32))] [(.ref u2), (.int (0 : Int32))]))
        refine own_by (fun _ => XS.ifnonnullYes X33.here hx rfl (pc0 := 93) (pc' := 100) rfl (hb hby at_93) rfl (by decide) (by decide)) ?_
        show own_Go p e below _ (T33.setTop (mkF m 100 #[.val (.int xa), .val (.int xb), .val (.int (xa &&& (3 : Int32))), .val (.ref u2), .val (.ref b28), .val (.int (0 : Int32)), .val (.int (0 : Int32))] [(.int (0 : Int32))]))
        refine own_by (fun _ => XS.iconst X33.here hx rfl (hb hby at_100)) ?_
        show own_Go p e below _ (T33.setTop (mkF m 101 #[.val (.int xa), .val (.int xb), .val (.int (xa &&& (3 : Int32))), .val (.ref u2), .val (.ref b28), .val (.int (0 : Int32)), .val (.int (0 : Int32))] [(.int (0 : Int32)), (.int (0 : Int32))]))
        refine own_by (fun _ => XS.icmpNo X33.here hx rfl (hb hby at_101) rfl (teq (by decide : (0 : Int32) = (0 : Int32))).2) ?_
        show own_Go p e below _ (T33.setTop (mkF m 104 #[.val (.int xa), .val (.int xb), .val (.int (xa &&& (3 : Int32))), .val (.ref u2), .val (.ref b28), .val (.int (0 : Int32)), .val (.int (0 : Int32))] []))
        refine own_by (fun _ => XS.aload X33.here hx rfl (hb hby at_104) rfl rfl) ?_
        show own_Go p e below _ (T33.setTop (mkF m 106 #[.val (.int xa), .val (.int xb), .val (.int (xa &&& (3 : Int32))), .val (.ref u2), .val (.ref b28), .val (.int (0 : Int32)), .val (.int (0 : Int32))] [(.ref b28)]))
        obtain ⟨cq34, kq34, q34a, q34b, q34c⟩ := isOf hZ e33 f31
        obtain ⟨_, _, ⟨T34, L34, k34, n34⟩, -, X34, ⟨Lc34, hQ34, l34, y34, z34'⟩, st34⟩ := X33.virtualBack hx (y := (⟨"com/example/airtight_graph/airtightgraph/automorphism/Verification", "count", "()I"⟩ : MethodName)) (z := (⟨"com/example/airtight_graph/airtightgraph/automorphism/Verification", "count", "()I"⟩ : MethodName)) hown (mvT hZ (hw _ (List.mem_of_getElem? (i := 23) rfl))) (mvT hZ (hw _ (List.mem_of_getElem? (i := 24) rfl))) (notFace_of_selects (args := #[]) (mvT hZ (hw _ (List.mem_of_getElem? (i := 26) rfl)))) (mvT hZ (hw _ (List.mem_of_getElem? (i := 26) rfl))) (mvT hZ (hw _ (List.mem_of_getElem? (i := 25) rfl))) (by decide) (backOf (W := 0) (own_rm5 l Z a0 hw [] b28 xb T29.heap n0 z29 fc29_1) hZ (hw _ (List.mem_of_getElem? (i := 27) rfl)) (hw _ (List.mem_of_getElem? (i := 2) rfl)) (by decide) (by decide)) q34a q34c (g := (mkF m 106 #[.val (.int xa), .val (.int xb), .val (.int (xa &&& (3 : Int32))), .val (.ref u2), .val (.ref b28), .val (.int (0 : Int32)), .val (.int (0 : Int32))] [(.ref b28)])) rfl (by rw [hml]; rfl) (Steps.refl _) (argsL := []) (rest := []) (lenOf own_pd3 rfl) rfl (by show 2 * 0 + _ ≤ _; exact Nat.le_of_eq rfl) (hb hby at_106) (fun _ _ => ⟨rfl, e33, (by decide : 1 + 0 ≤ _), (by decide : 2 + 0 ≤ _)⟩)
        dsimp only [Pt.U, Pt.locs, Pt.cells, Pt.slots] at X34 l34 y34 z34' st34 hQ34
        subst l34 y34 z34'
        obtain ⟨rfl, N34q, e34⟩ := hQ34
        have N34 := Fr.app N33 N34q
        refine own_tr st34 ?_
        show own_Go p e below _ (T34.setTop (mkF m 109 #[.val (.int xa), .val (.int xb), .val (.int (xa &&& (3 : Int32))), .val (.ref u2), .val (.ref b28), .val (.int (0 : Int32)), .val (.int (0 : Int32))] [(.int xb)]))
        refine own_by (fun _ => XS.iloadN X34.here hx rfl (hb hby at_109) rfl) ?_
        show own_Go p e below _ (T34.setTop (mkF m 110 #[.val (.int xa), .val (.int xb), .val (.int (xa &&& (3 : Int32))), .val (.ref u2), .val (.ref b28), .val (.int (0 : Int32)), .val (.int (0 : Int32))] [(.int xb), (.int xb)]))
        refine own_by (fun _ => XS.icmpNo X34.here hx rfl (hb hby at_110) rfl (teq (rfl : xb = xb)).2) ?_
        show own_Go p e below _ (T34.setTop (mkF m 113 #[.val (.int xa), .val (.int xb), .val (.int (xa &&& (3 : Int32))), .val (.ref u2), .val (.ref b28), .val (.int (0 : Int32)), .val (.int (0 : Int32))] []))
        refine own_by (fun _ => XS.iconst X34.here hx rfl (hb hby at_113)) ?_
        show own_Go p e below _ (T34.setTop (mkF m 114 #[.val (.int xa), .val (.int xb), .val (.int (xa &&& (3 : Int32))), .val (.ref u2), .val (.ref b28), .val (.int (0 : Int32)), .val (.int (0 : Int32))] [(.int (1 : Int32))]))
        refine own_by (fun _ => XS.goto X34.here hx rfl (pc0 := 114) (pc' := 118) rfl (hb hby at_114) (by decide) (by decide)) ?_
        show own_Go p e below _ (T34.setTop (mkF m 118 #[.val (.int xa), .val (.int xb), .val (.int (xa &&& (3 : Int32))), .val (.ref u2), .val (.ref b28), .val (.int (0 : Int32)), .val (.int (0 : Int32))] [(.int (1 : Int32))]))
        exact own_retZ X34 hx hlk e34 (by decide) hret (hb hby at_118) (by decide) (by decide) ⟨rfl, N34⟩

theorem own_start {args : Array Value} {s : State} (hw : ∀ d ∈ tables_1, d.before args s = true) (hn : narrow_1.value args s none s [] = some true) :
    ∃ u0 u1 u2 : Addr, Sta s s.heap "com/example/airtight_graph/airtightgraph/automorphism/Verification$Failure" "VERTICES_MISSING" "Lcom/example/airtight_graph/airtightgraph/automorphism/Verification$Failure;" (.ref u0) ∧ Sta s s.heap "com/example/airtight_graph/airtightgraph/automorphism/Verification$Failure" "NAMES_NOT_IN_GRAPH" "Lcom/example/airtight_graph/airtightgraph/automorphism/Verification$Failure;" (.ref u1) ∧ Sta s s.heap "com/example/airtight_graph/airtightgraph/automorphism/Verification$Failure" "EDGES_NOT_PRESERVED" "Lcom/example/airtight_graph/airtightgraph/automorphism/Verification$Failure;" (.ref u2) := by
  obtain ⟨e0, r1⟩ := and_e hn
  obtain ⟨e1, e2⟩ := and_e r1
  obtain ⟨u0, ev0⟩ := exa_v e0
  obtain ⟨u1, ev1⟩ := exa_v e1
  obtain ⟨u2, ev2⟩ := exa_v e2
  exact ⟨u0, u1, u2, Sta.start ev0 (Or.inr ⟨(hw _ (List.mem_of_getElem? (i := 29) rfl)), (hw _ (List.mem_of_getElem? (i := 30) rfl))⟩), Sta.start ev1 (Or.inr ⟨(hw _ (List.mem_of_getElem? (i := 29) rfl)), (hw _ (List.mem_of_getElem? (i := 32) rfl))⟩), Sta.start ev2 (Or.inr ⟨(hw _ (List.mem_of_getElem? (i := 29) rfl)), (hw _ (List.mem_of_getElem? (i := 34) rfl))⟩)⟩

theorem own_comes {Post : Tables → Env → Array Value → State → Outcome → State → Prop} (hpost : ∀ tb e args s v u, (limb_1_1.after args s (.returned v) u = true ∧ limb_1_2.after args s (.returned v) u = true ∧ True) → FrameEnd s (.returned v) u (Jvm.fieldLocs frame_1_writes args s ++ Jvm.arrayLocs frame_1_arrays args s ++ Jvm.staticLocs frame_1_statics s) 16 128 → Post tb e args s (.returned v) u) :
    ArmFor flags0 classFile x code maxLocals ret World_1 tables_1 room_1 Calls_1 rest_1 Pre_1 Post := by
  intro l hfl _ _ p e ha hc hk s m args below hf hA hF happ hP
  obtain ⟨hcalls, hrest, hpre⟩ := hP
  obtain ⟨-, -, -, hnamed, -, -, -, hat⟩ := (Spec.applies_iff hf).mp happ
  obtain ⟨hg, hn⟩ := and_e (Cond.before_iff.mp (show (Jvm.Cond.and given_1 narrow_1).before args s = true from hpre))
  obtain ⟨hg1, hg2⟩ := and_e hg
  obtain ⟨hg3, hg4⟩ := and_e hg2
  obtain ⟨w0, w1, rfl⟩ : ∃ w0 w1 : Value, args = #[w0, w1] := by
    have hs : args.size = 2 := by simpa [Cond.value, given_1] using hg1
    obtain ⟨L⟩ := args
    match L, hs with
    | [w0, w1], _ => exact ⟨w0, w1, rfl⟩
  have hw := fun d (hd : d ∈ tables_1) => atoms_spec (ws := Jvm.Cond.code x code maxLocals ret :: tables_1) hat d (List.mem_cons_of_mem _ hd)
  have hfit : Fit s := fun {y c} hc i hi => by
    obtain ⟨ha, rfl⟩ := Array.getElem?_eq_some_iff.mp hc
    have q := List.all_eq_true.mp ((Array.all_eq_true_iff_forall_mem.mp hF) _ (Array.getElem_mem ha)) i (List.mem_range.mpr hi)
    simpa [Array.getElem?_eq_getElem hi] using q
  obtain ⟨i0, ei0⟩ := is_v hg3
  obtain rfl : w0 = (.int i0) := Option.some.inj ei0
  obtain ⟨i1, ei1⟩ := is_v hg4
  obtain rfl : w1 = (.int i1) := Option.some.inj ei1
  obtain ⟨u0, u1, u2, t0, t1, t2⟩ := own_start hw hn
  obtain ⟨n, o, h1, h2, h3, _, L, rfl, ⟨rfl, N⟩, hq⟩ := own_rm0 l s _ hw tables_1 i0 i1 u0 u1 u2 s.heap s.heap.size (Nat.le_refl _) t0 t1 t2 p e ha hc hk s m _ below hf ((Spec.applies_iff_loose hf).mp happ).1 ⟨rfl, State.Warmed39.refl s, rfl⟩ trivial
  refine ⟨n, _, h1, h2, h3, hpost _ _ _ _ _ _ ⟨Cond.after_iff.mpr rfl, Cond.after_iff.mpr (eq_i res_at (Term.int_eval (1)) rfl), trivial⟩ ⟨hq.1, hq.2.1, (hq.2.2.sift fun y hy => Or.inr (N y hy)).mono (by decide) (by decide)⟩⟩
theorem main_1_1 : Claimed_1_1 := own_comes fun _ _ _ _ _ _ h hF => ⟨h.1, hF⟩
theorem main_1_2 : Claimed_1_2 := own_comes fun _ _ _ _ _ _ h hF => ⟨h.2.1, hF⟩
end Jvm.Pilot.@@N@@
namespace Jvm.Pilot.@@N@@
open Jvm Jvm.ClassFile Sem Op Lib Jvm.Free Jvm.Stand Jvm.Pilot.@@N@@.Jvm.D
/-! MADE BY PROGRAM (witnessworld.py) out of the Statement's table words and the real class files: 13 classes; the members and pool entries that the words name. The judged class is class 1, her method 1. -/
namespace start1
open Jvm.ClassFile
def u (s : String) : CpInfo := .utf8 (stringToUtf16 s)
/-- a pool by its gaps: so many unusable entries, then the entry; so many at the end -/
def gap : Nat → List CpInfo → List CpInfo
  | 0, r => r
  | n + 1, r => .unusable :: gap n r
def poolList (es : List (Nat × CpInfo)) (last : Nat) : List CpInfo := es.foldr (fun e r => gap e.1 (e.2 :: r)) (gap last [])
def pool (es : List (Nat × CpInfo)) (last : Nat) : Array CpInfo := ⟨poolList es last⟩
def fileOf (pool : Array CpInfo) (this : Nat) (attrs : Array Attribute := #[]) (ms : Array MethodInfo := #[]) (fl : Nat := 33) (sup : Nat := 0) (ifs : Array Nat := #[]) (fds : Array FieldInfo := #[]) : ClassFile where
  minorVersion := 0
  majorVersion := 65
  constantPool := pool
  accessFlags := fl
  thisClass := this
  superClass := sup
  interfaces := ifs
  fields := fds
  methods := ms
  attributes := attrs
def plain (name : String) (sup : Option ClassId) : Class where
  name := name
  kind := .ordinary
  loader := none
  accessFlags := 33
  super := sup
  interfaces := #[]
  cf := none
  fields := #[]
  methods := #[]
  instanceTypes := #[]
  staticTypes := #[]
  resolved := #[]
  callSites := []
  init := .initialized
  statics := none
  mirror := none

def pool0 : Array CpInfo := pool [(5, u "<init>"), (0, u "()V"), (1, .class_ 10), (1, u "java/lang/Object")] 113

def k0c0 : Code := { maxStack := 0, maxLocals := 1, code := object_method_1_code, exceptionTable := #[], attributes := #[] }
def k0m0 : Method := { name := "<init>", desc := "()V", sig := { parameters := [], returnType := none }, accessFlags := 1, code := some k0c0 }
/-- java/lang/Object -/
def k0 : Class := { plain "java/lang/Object" none with
  accessFlags := 33
  interfaces := #[]
  cf := some (fileOf pool0 8 #[] #[{ accessFlags := 1, nameIndex := 5, descriptorIndex := 6, attributes := #[] }] 33 0 #[] #[])
  fields := #[]
  methods := #[k0m0]
  instanceTypes := #[]
  staticTypes := #[]
  resolved := Array.replicate 124 none
  statics := none }

def pool1 : Array CpInfo := pool [(2, .class_ 4), (1, u "java/lang/Object"), (0, u "<init>"), (0, u "()V"), (0, .fieldref 8 9), (0, .class_ 10), (0, .nameAndType 11 12), (0, u "com/example/airtight_graph/airtightgraph/automorphism/Verification$Failure"), (0, u "NAMES_NOT_IN_GRAPH"), (0, u "Lcom/example/airtight_graph/airtightgraph/automorphism/Verification$Failure;"), (0, .fieldref 8 14), (0, .nameAndType 15 12), (0, u "VERTICES_MISSING"), (0, .fieldref 8 17), (0, .nameAndType 18 12), (0, u "EDGES_NOT_PRESERVED"), (0, .class_ 20), (0, u "com/example/airtight_graph/airtightgraph/automorphism/Verification"), (0, .methodref 19 22), (0, .nameAndType 5 23), (0, u "(Lcom/example/airtight_graph/airtightgraph/automorphism/Verification$Failure;I)V"), (0, .methodref 19 25), (0, .nameAndType 26 27), (0, u "isProof"), (0, u "()Z"), (0, .methodref 19 29), (0, .nameAndType 30 31), (0, u "failure"), (0, u "()Lcom/example/airtight_graph/airtightgraph/automorphism/Verification$Failure;"), (0, .methodref 19 33), (0, .nameAndType 34 35), (0, u "count"), (0, u "()I"), (0, .class_ 37), (0, u "com/example/airtight_graph/airtightgraph/automorphism/VerificationIsProofPinLaw"), (2, u "law"), (0, u "(II)Z")] 5

def k1m0 : Method := { name := "<init>", desc := "()V", sig := { parameters := [], returnType := none }, accessFlags := 2, code := none }
def k1c1 : Code := { maxStack := 4, maxLocals := 7, code := code, exceptionTable := #[], attributes := #[] }
def k1m1 : Method := { name := "law", desc := "(II)Z", sig := { parameters := [.int, .int], returnType := some .boolean }, accessFlags := 9, code := some k1c1 }
/-- com/example/airtight_graph/airtightgraph/automorphism/VerificationIsProofPinLaw -/
def k1 : Class := { plain "com/example/airtight_graph/airtightgraph/automorphism/VerificationIsProofPinLaw" (some 0) with
  accessFlags := 49
  interfaces := #[]
  cf := some (fileOf pool1 36 #[] #[{ accessFlags := 2, nameIndex := 5, descriptorIndex := 6, attributes := #[] }, { accessFlags := 9, nameIndex := 40, descriptorIndex := 41, attributes := #[] }] 49 2 #[] #[])
  fields := #[]
  methods := #[k1m0, k1m1]
  instanceTypes := #[]
  staticTypes := #[]
  resolved := Array.replicate 47 none
  statics := none }

def pool2 : Array CpInfo := pool [(1, .methodref 2 3), (0, .class_ 4), (0, .nameAndType 5 6), (0, u "java/lang/Object"), (0, u "<init>"), (0, u "()V"), (0, .fieldref 8 9), (0, .class_ 10), (0, .nameAndType 11 12), (0, u "com/example/airtight_graph/airtightgraph/automorphism/Verification"), (0, u "failure"), (0, u "Lcom/example/airtight_graph/airtightgraph/automorphism/Verification$Failure;"), (0, .fieldref 8 14), (0, .nameAndType 15 16), (0, u "count"), (0, u "I"), (2, u "(Lcom/example/airtight_graph/airtightgraph/automorphism/Verification$Failure;I)V"), (2, u "PROOF"), (0, u "Lcom/example/airtight_graph/airtightgraph/automorphism/Verification;"), (2, u "isProof"), (0, u "()Z"), (1, u "()Lcom/example/airtight_graph/airtightgraph/automorphism/Verification$Failure;"), (0, u "()I"), (4, .class_ 36), (0, u "com/example/airtight_graph/airtightgraph/automorphism/Verification$Failure")] 2

def k2c0 : Code := { maxStack := 2, maxLocals := 3, code := prog_8_method_1_code, exceptionTable := #[], attributes := #[] }
def k2m0 : Method := { name := "<init>", desc := "(Lcom/example/airtight_graph/airtightgraph/automorphism/Verification$Failure;I)V", sig := { parameters := [(.object "com/example/airtight_graph/airtightgraph/automorphism/Verification$Failure"), .int], returnType := none }, accessFlags := 0, code := some k2c0 }
def k2c1 : Code := { maxStack := 1, maxLocals := 1, code := prog_8_method_2_code, exceptionTable := #[], attributes := #[] }
def k2m1 : Method := { name := "isProof", desc := "()Z", sig := { parameters := [], returnType := some .boolean }, accessFlags := 1, code := some k2c1 }
def k2c2 : Code := { maxStack := 1, maxLocals := 1, code := prog_8_method_3_code, exceptionTable := #[], attributes := #[] }
def k2m2 : Method := { name := "failure", desc := "()Lcom/example/airtight_graph/airtightgraph/automorphism/Verification$Failure;", sig := { parameters := [], returnType := some (.object "com/example/airtight_graph/airtightgraph/automorphism/Verification$Failure") }, accessFlags := 1, code := some k2c2 }
def k2c3 : Code := { maxStack := 1, maxLocals := 1, code := prog_8_method_4_code, exceptionTable := #[], attributes := #[] }
def k2m3 : Method := { name := "count", desc := "()I", sig := { parameters := [], returnType := some .int }, accessFlags := 1, code := some k2c3 }
/-- com/example/airtight_graph/airtightgraph/automorphism/Verification -/
def k2 : Class := { plain "com/example/airtight_graph/airtightgraph/automorphism/Verification" (some 0) with
  accessFlags := 49
  interfaces := #[]
  cf := some (fileOf pool2 8 #[.nestMembers #[35]] #[{ accessFlags := 0, nameIndex := 5, descriptorIndex := 19, attributes := #[] }, { accessFlags := 1, nameIndex := 26, descriptorIndex := 27, attributes := #[] }, { accessFlags := 1, nameIndex := 11, descriptorIndex := 29, attributes := #[] }, { accessFlags := 1, nameIndex := 15, descriptorIndex := 30, attributes := #[] }] 49 2 #[] #[{ accessFlags := 24, nameIndex := 22, descriptorIndex := 23, attributes := #[] }, { accessFlags := 18, nameIndex := 11, descriptorIndex := 12, attributes := #[] }, { accessFlags := 18, nameIndex := 15, descriptorIndex := 16, attributes := #[] }])
  fields := #[{ name := "PROOF", type := (.object "com/example/airtight_graph/airtightgraph/automorphism/Verification"), accessFlags := 24, slot := 0, constantValue := 0 }, { name := "failure", type := (.object "com/example/airtight_graph/airtightgraph/automorphism/Verification$Failure"), accessFlags := 18, slot := 0, constantValue := 0 }, { name := "count", type := .int, accessFlags := 18, slot := 1, constantValue := 0 }]
  methods := #[k2m0, k2m1, k2m2, k2m3]
  instanceTypes := #[(.object "com/example/airtight_graph/airtightgraph/automorphism/Verification$Failure"), .int]
  staticTypes := #[(.object "com/example/airtight_graph/airtightgraph/automorphism/Verification")]
  resolved := Array.replicate 39 none
  statics := none }

def pool3 : Array CpInfo := pool [(1, .class_ 2), (0, u "java/lang/constant/Constable"), (0, .class_ 4), (0, u "java/lang/Object")] 6

/-- java/lang/constant/Constable -/
def k3 : Class := { plain "java/lang/constant/Constable" (some 0) with
  accessFlags := 1537
  interfaces := #[]
  cf := some (fileOf pool3 1 #[] #[] 1537 3 #[] #[])
  fields := #[]
  methods := #[]
  instanceTypes := #[]
  staticTypes := #[]
  resolved := Array.replicate 11 none
  statics := none }

def pool4 : Array CpInfo := pool [(1, .class_ 2), (0, u "java/lang/Comparable"), (0, .class_ 4), (0, u "java/lang/Object")] 7

/-- java/lang/Comparable -/
def k4 : Class := { plain "java/lang/Comparable" (some 0) with
  accessFlags := 1537
  interfaces := #[]
  cf := some (fileOf pool4 1 #[] #[] 1537 3 #[] #[])
  fields := #[]
  methods := #[]
  instanceTypes := #[]
  staticTypes := #[]
  resolved := Array.replicate 12 none
  statics := none }

def pool5 : Array CpInfo := pool [(1, .class_ 2), (0, u "java/io/Serializable"), (0, .class_ 4), (0, u "java/lang/Object")] 2

/-- java/io/Serializable -/
def k5 : Class := { plain "java/io/Serializable" (some 0) with
  accessFlags := 1537
  interfaces := #[]
  cf := some (fileOf pool5 1 #[] #[] 1537 3 #[] #[])
  fields := #[]
  methods := #[]
  instanceTypes := #[]
  staticTypes := #[]
  resolved := Array.replicate 7 none
  statics := none }

def pool6 : Array CpInfo := pool [(2, .class_ 4), (1, u "java/lang/Enum"), (0, u "name"), (0, u "Ljava/lang/String;"), (2, u "ordinal"), (0, u "I"), (1, .class_ 14), (1, u "java/lang/Object"), (4, u "hash"), (86, .class_ 108), (1, u "java/lang/Enum$EnumDesc"), (2, .class_ 112), (0, u "java/lang/constant/Constable"), (0, .class_ 114), (0, u "java/lang/Comparable"), (0, .class_ 116), (0, u "java/io/Serializable")] 87

/-- java/lang/Enum -/
def k6 : Class := { plain "java/lang/Enum" (some 0) with
  accessFlags := 1057
  interfaces := #[3, 4, 5]
  cf := some (fileOf pool6 2 #[.nestMembers #[106]] #[] 1057 12 #[111, 113, 115] #[{ accessFlags := 18, nameIndex := 5, descriptorIndex := 6, attributes := #[] }, { accessFlags := 18, nameIndex := 9, descriptorIndex := 10, attributes := #[] }, { accessFlags := 2, nameIndex := 19, descriptorIndex := 10, attributes := #[] }])
  fields := #[{ name := "name", type := (.object "java/lang/String"), accessFlags := 18, slot := 0, constantValue := 0 }, { name := "ordinal", type := .int, accessFlags := 18, slot := 1, constantValue := 0 }, { name := "hash", type := .int, accessFlags := 2, slot := 2, constantValue := 0 }]
  methods := #[]
  instanceTypes := #[(.object "java/lang/String"), .int, .int]
  staticTypes := #[]
  resolved := Array.replicate 204 none
  statics := none }

def pool7 : Array CpInfo := pool [(1, .class_ 2), (0, u "com/example/airtight_graph/airtightgraph/automorphism/Verification$Failure"), (2, u "NAMES_NOT_IN_GRAPH"), (0, u "Lcom/example/airtight_graph/airtightgraph/automorphism/Verification$Failure;"), (2, u "VERTICES_MISSING"), (2, u "EDGES_NOT_PRESERVED"), (2, u "$VALUES"), (0, u "[Lcom/example/airtight_graph/airtightgraph/automorphism/Verification$Failure;"), (6, .class_ 25), (1, u "java/lang/Enum"), (26, .class_ 53), (0, u "com/example/airtight_graph/airtightgraph/automorphism/Verification")] 2

/-- com/example/airtight_graph/airtightgraph/automorphism/Verification$Failure -/
def k7 : Class := { plain "com/example/airtight_graph/airtightgraph/automorphism/Verification$Failure" (some 6) with
  accessFlags := 16433
  interfaces := #[]
  cf := some (fileOf pool7 1 #[.nestHost 52] #[] 16433 23 #[] #[{ accessFlags := 16409, nameIndex := 5, descriptorIndex := 6, attributes := #[] }, { accessFlags := 16409, nameIndex := 9, descriptorIndex := 6, attributes := #[] }, { accessFlags := 16409, nameIndex := 12, descriptorIndex := 6, attributes := #[] }, { accessFlags := 4122, nameIndex := 15, descriptorIndex := 16, attributes := #[] }])
  fields := #[{ name := "NAMES_NOT_IN_GRAPH", type := (.object "com/example/airtight_graph/airtightgraph/automorphism/Verification$Failure"), accessFlags := 16409, slot := 0, constantValue := 0 }, { name := "VERTICES_MISSING", type := (.object "com/example/airtight_graph/airtightgraph/automorphism/Verification$Failure"), accessFlags := 16409, slot := 1, constantValue := 0 }, { name := "EDGES_NOT_PRESERVED", type := (.object "com/example/airtight_graph/airtightgraph/automorphism/Verification$Failure"), accessFlags := 16409, slot := 2, constantValue := 0 }, { name := "$VALUES", type := (.array (.object "com/example/airtight_graph/airtightgraph/automorphism/Verification$Failure")), accessFlags := 4122, slot := 3, constantValue := 0 }]
  methods := #[]
  instanceTypes := #[(.object "java/lang/String"), .int, .int]
  staticTypes := #[(.object "com/example/airtight_graph/airtightgraph/automorphism/Verification$Failure"), (.object "com/example/airtight_graph/airtightgraph/automorphism/Verification$Failure"), (.object "com/example/airtight_graph/airtightgraph/automorphism/Verification$Failure"), (.array (.object "com/example/airtight_graph/airtightgraph/automorphism/Verification$Failure"))]
  resolved := Array.replicate 56 none
  statics := some 0 }

def pool8 : Array CpInfo := pool [(1, u "java/lang/Cloneable"), (0, .class_ 1), (0, u "java/lang/Object"), (0, .class_ 3)] 3

/-- java/lang/Cloneable -/
def k8 : Class := { plain "java/lang/Cloneable" (some 0) with
  accessFlags := 1537
  interfaces := #[]
  cf := some (fileOf pool8 2 #[] #[] 1537 4 #[] #[])
  fields := #[]
  methods := #[]
  instanceTypes := #[]
  staticTypes := #[]
  resolved := Array.replicate 8 none
  statics := none }

/-- the primitive byte -/
def k9 : Class := { plain "byte" none with kind := .primitive 'B', accessFlags := 0x411 }
/-- [B -/
def k10 : Class := { plain "[B" (some 0) with kind := .array 9 .byte, interfaces := #[8, 5], accessFlags := 1041 }

/-- the primitive int -/
def k11 : Class := { plain "int" none with kind := .primitive 'I', accessFlags := 0x411 }
/-- [I -/
def k12 : Class := { plain "[I" (some 0) with kind := .array 11 .int, interfaces := #[8, 5], accessFlags := 1041 }

def heap : Heap := #[{ cls := 7, slots := #[.ref 1, .ref 2, .ref 3, .null], vm := .statics 7 },
  { cls := 7, slots := #[.null, .int 0, .int 0], vm := .none },
  { cls := 7, slots := #[.null, .int 1, .int 0], vm := .none },
  { cls := 7, slots := #[.null, .int 2, .int 0], vm := .none }]
def classes : Array Class := #[k0, k1, k2, k3, k4, k5, k6, k7, k8, k9, k10, k11, k12]
def interned : List (Array UInt16 × Addr) := []
def slotsUsed : Nat := 13
def theMethod : MethodId := ⟨1, 1⟩
def args0 : Array Value := #[.int 1, .int 7]
def aboutOver (below : List Frame) : State where
  vm := { classes := classes, interned := interned.toArray }
  heap := heap
  slotsUsed := slotsUsed
  threads := #[{ frames := .invoking theMethod args0 :: below }]
def below0 : List Frame := [.native { method := ⟨0, 0⟩, args := #[] }]
def about1 : State := aboutOver below0
def p0 : Program := .bare "" "" ""
def e0 : Env := launch0.env 0 0 0
theorem w_frames : about1.frames = Frame.invoking theMethod args0 :: below0 := rfl
set_option maxRecDepth 65536 in
theorem w_args : argsFit about1.vm theMethod args0 = true := by decide +kernel
set_option maxRecDepth 65536 in
theorem w_heap : heapFits about1 = true := by decide +kernel
set_option maxRecDepth 65536 in
theorem w_runnable : about1.curStatus? = some .runnable := by decide +kernel
set_option maxRecDepth 65536 in
theorem w_alone : about1.alone = true := by decide +kernel
set_option maxRecDepth 65536 in
theorem w_named : about1.methodNamed? x = some theMethod := by decide +kernel
set_option maxRecDepth 65536 in
theorem w_hears : about1.hears theMethod below0 = true := by decide +kernel
set_option maxRecDepth 65536 in
theorem w_ripe : about1.ripe theMethod args0 below0 = true := by decide +kernel
theorem w_running : about1.status = .running := rfl
set_option maxRecDepth 65536 in
theorem w_room : about1.hasRoom e0.platform room_1 = true :=
  launch0.hasRoom_least _ room_1 (by decide +kernel) (by decide +kernel) (by decide +kernel) (by decide +kernel) (by decide +kernel) (by decide +kernel)
theorem allAtoms_all (ts : List Jvm.Cond) (a : Array Jvm.Value) (st : Jvm.State) : (allAtoms ts).before a st = ts.all (fun c => c.before a st) := by
  induction ts with
  | nil => rfl
  | cons c t ih =>
    show (Jvm.Cond.and c (allAtoms t)).before a st = _
    rw [Jvm.Cond.before_and, ih, List.all_cons]
def words1 : List Jvm.Cond := Jvm.Cond.code x code maxLocals ret :: tables_1
/-- a 'code' word, met by the world's own term for the bytes: nothing is compared byte by byte -/
theorem code_word {y : MethodName} {bytes : ByteArray} {mx : Nat} {rt : Option FieldType} {a : Array Value} {s : State} {m : MethodId} {meth : Method} {c : Code} (h1 : s.methodNamed? y = some m) (h2 : s.vm.method? m = some meth) (h3 : meth.code = some c) (h4 : c.code = bytes)
    (h5 : (c.maxLocals == mx && c.exceptionTable.isEmpty && decide (c.maxStack ≤ mostOperands) && decide (meth.sig.returnType = rt) && !meth.locks && decide (parseMethodDescriptor y.desc = some meth.sig)) = true) : (Jvm.Cond.code y bytes mx rt).before a s = true := by
  simp only [Bool.and_eq_true, beq_iff_eq, Bool.not_eq_true', decide_eq_true_eq] at h5
  obtain ⟨⟨⟨⟨⟨g1, g2⟩, g3⟩, g4⟩, g5⟩, g6⟩ := h5
  simp [Cond.before, Cond.holds, Cond.value, h1, h2, h3, h4, g1, g2, g3, g4, g5, g6]
def isCode : Jvm.Cond → Bool
  | .code _ _ _ _ => true
  | _ => false
theorem all_split {L : List Jvm.Cond} {P : Jvm.Cond → Bool} (h1 : L.all (fun c => isCode c || P c) = true) (h2 : ∀ c ∈ L.filter isCode, P c = true) : L.all P = true := by
  refine List.all_eq_true.mpr fun c hc => ?_
  have h := List.all_eq_true.mp h1 c hc
  rcases Bool.eq_false_or_eq_true (isCode c) with hi | hi
  · exact h2 c (List.mem_filter.mpr ⟨hc, hi⟩)
  · simpa [hi] using h
set_option maxRecDepth 65536 in
theorem w_c0 : (Jvm.Cond.code x code maxLocals ret).before args0 about1 = true := code_word (m := ⟨1, 1⟩) (meth := k1m1) (c := k1c1) (by decide +kernel) rfl rfl rfl (by decide +kernel)
set_option maxRecDepth 65536 in
theorem w_c1 : (Jvm.Cond.code ({ cls := "com/example/airtight_graph/airtightgraph/automorphism/Verification", name := "<init>", desc := "(Lcom/example/airtight_graph/airtightgraph/automorphism/Verification$Failure;I)V" } : Jvm.MethodName) prog_8_method_1_code (3 : Nat) (Option.none : Option Jvm.ClassFile.FieldType)).before args0 about1 = true := code_word (m := ⟨2, 0⟩) (meth := k2m0) (c := k2c0) (by decide +kernel) rfl rfl rfl (by decide +kernel)
set_option maxRecDepth 65536 in
theorem w_c2 : (Jvm.Cond.code ({ cls := "java/lang/Object", name := "<init>", desc := "()V" } : Jvm.MethodName) object_method_1_code (1 : Nat) (Option.none : Option Jvm.ClassFile.FieldType)).before args0 about1 = true := code_word (m := ⟨0, 0⟩) (meth := k0m0) (c := k0c0) (by decide +kernel) rfl rfl rfl (by decide +kernel)
set_option maxRecDepth 65536 in
theorem w_c3 : (Jvm.Cond.code ({ cls := "com/example/airtight_graph/airtightgraph/automorphism/Verification", name := "isProof", desc := "()Z" } : Jvm.MethodName) prog_8_method_2_code (1 : Nat) (Option.some Jvm.ClassFile.FieldType.boolean)).before args0 about1 = true := code_word (m := ⟨2, 1⟩) (meth := k2m1) (c := k2c1) (by decide +kernel) rfl rfl rfl (by decide +kernel)
set_option maxRecDepth 65536 in
theorem w_c4 : (Jvm.Cond.code ({ cls := "com/example/airtight_graph/airtightgraph/automorphism/Verification", name := "failure", desc := "()Lcom/example/airtight_graph/airtightgraph/automorphism/Verification$Failure;" } : Jvm.MethodName) prog_8_method_3_code (1 : Nat) (Option.some (Jvm.ClassFile.FieldType.object "com/example/airtight_graph/airtightgraph/automorphism/Verification$Failure"))).before args0 about1 = true := code_word (m := ⟨2, 2⟩) (meth := k2m2) (c := k2c2) (by decide +kernel) rfl rfl rfl (by decide +kernel)
set_option maxRecDepth 65536 in
theorem w_c5 : (Jvm.Cond.code ({ cls := "com/example/airtight_graph/airtightgraph/automorphism/Verification", name := "count", desc := "()I" } : Jvm.MethodName) prog_8_method_4_code (1 : Nat) (Option.some Jvm.ClassFile.FieldType.int)).before args0 about1 = true := code_word (m := ⟨2, 3⟩) (meth := k2m3) (c := k2c3) (by decide +kernel) rfl rfl rfl (by decide +kernel)
def codes1 : List Jvm.Cond := [Jvm.Cond.code x code maxLocals ret, Jvm.Cond.code ({ cls := "com/example/airtight_graph/airtightgraph/automorphism/Verification", name := "<init>", desc := "(Lcom/example/airtight_graph/airtightgraph/automorphism/Verification$Failure;I)V" } : Jvm.MethodName) prog_8_method_1_code (3 : Nat) (Option.none : Option Jvm.ClassFile.FieldType), Jvm.Cond.code ({ cls := "java/lang/Object", name := "<init>", desc := "()V" } : Jvm.MethodName) object_method_1_code (1 : Nat) (Option.none : Option Jvm.ClassFile.FieldType), Jvm.Cond.code ({ cls := "com/example/airtight_graph/airtightgraph/automorphism/Verification", name := "isProof", desc := "()Z" } : Jvm.MethodName) prog_8_method_2_code (1 : Nat) (Option.some Jvm.ClassFile.FieldType.boolean), Jvm.Cond.code ({ cls := "com/example/airtight_graph/airtightgraph/automorphism/Verification", name := "failure", desc := "()Lcom/example/airtight_graph/airtightgraph/automorphism/Verification$Failure;" } : Jvm.MethodName) prog_8_method_3_code (1 : Nat) (Option.some (Jvm.ClassFile.FieldType.object "com/example/airtight_graph/airtightgraph/automorphism/Verification$Failure")), Jvm.Cond.code ({ cls := "com/example/airtight_graph/airtightgraph/automorphism/Verification", name := "count", desc := "()I" } : Jvm.MethodName) prog_8_method_4_code (1 : Nat) (Option.some Jvm.ClassFile.FieldType.int)]
set_option maxRecDepth 65536 in
theorem codes_eq : words1.filter isCode = codes1 := rfl
theorem w_codes : ∀ c ∈ words1.filter isCode, c.before args0 about1 = true := by
  rw [codes_eq]
  intro c hc
  simp only [codes1, List.mem_cons, List.not_mem_nil, or_false] at hc
  rcases hc with rfl | rfl | rfl | rfl | rfl | rfl
  · exact w_c0
  · exact w_c1
  · exact w_c2
  · exact w_c3
  · exact w_c4
  · exact w_c5
set_option maxRecDepth 65536 in
theorem w_t1 : (words1.take 24).all (fun c => isCode c || c.before args0 about1) = true := by decide +kernel
set_option maxRecDepth 65536 in
theorem w_t2 : (words1.drop 24).all (fun c => isCode c || c.before args0 about1) = true := by decide +kernel
theorem w_tables : (allAtoms (Jvm.Cond.code x code maxLocals ret :: tables_1)).before args0 about1 = true := by
  rw [allAtoms_all]
  show words1.all (fun c => c.before args0 about1) = true
  refine all_split ?_ w_codes
  rw [← List.take_append_drop 24 words1, List.all_append, w_t1, w_t2]
  rfl
set_option maxRecDepth 65536 in
theorem w_case : (Jvm.Cond.and given_1 narrow_1).before args0 about1 = true := by decide +kernel
theorem w_applies : (headSpec (Jvm.Cond.code x code maxLocals ret :: tables_1) room_1).applies x e0.platform about1 = true :=
  (Spec.applies_iff w_frames).mpr ⟨w_running, w_runnable, w_alone, w_named, w_hears, w_ripe, w_room, w_tables⟩
theorem atStart : AtStart classFile x code maxLocals ret World_1 tables_1 room_1 Calls_1 rest_1 Pre_1 launch0 p0 e0 about1 theMethod args0 below0 :=
  ⟨lists_1, trivial, launch0.admits_env _ _ _, launch0.least_env, fairChoices_fair.cas, fairChoices_fair.clock, w_frames, w_args, w_heap, w_applies, trivial, trivial, w_case⟩
end start1
theorem witness_1 : WitnessClaimed_1 := ⟨start1.p0, start1.e0, start1.about1, start1.theMethod, start1.args0, start1.below0, start1.atStart⟩
end Jvm.Pilot.@@N@@
