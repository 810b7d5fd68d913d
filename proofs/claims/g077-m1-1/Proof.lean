import JvmDerived
import JvmDerived.Pilot.@@N@@Statement
import JvmDerived.Pilot.@@N@@Code
set_option linter.unusedVariables false
set_option linter.unusedSimpArgs false
set_option maxRecDepth 65536
set_option maxHeartbeats 40000000
namespace Jvm.Pilot.@@N@@
open Jvm Jvm.ClassFile Sem Op Lib Jvm.Free Jvm.Stand Jvm.LawKit Jvm.RoadKit Bundle Jvm.Pilot.@@N@@.Jvm.D
section OwnKit
variable {p : Program} {l : Launch} {e : Env} {R : Room} {s : State} {m : MethodId} {args : Array Value} {below : List Frame} {meth : Method} {c : Code} {T : State} {locs : List Loc} {cells slots : Nat}
/-- from here the run comes to an end that E allows -/
def own_Go (p : Program) (e : Env) (below : List Frame) (E : State → Prop) (S : State) : Prop := ∃ t, Steps p.tables e below S t ∧ E t
/-- the invocation has ended, with a value, a heap and a list of written places that Q allows -/
def own_End (s : State) (below : List Frame) (Q : Option Value → Heap → List Loc → Prop) (C N : Nat) (t : State) : Prop :=
  t.status = .running ∧ ∃ v L, Ended t below (.returned v) ∧ Q v t.heap L ∧ FrameEnd s (.returned v) t L C N
/-- the walk stands here, with this heap, having written only what is new -/
def own_At (p : Program) (l : Launch) (e : Env) (R : Room) (s : State) (m : MethodId) (args : Array Value) (below : List Frame) (meth : Method) (c : Code) (n0 : Nat) (T : State) (h : Heap) (cells slots : Nat) : Prop :=
  ∃ locs, Stand p l e R s m args below meth c T locs cells slots ∧ Fr n0 locs ∧ T.heap = h
theorem own_by {E : State → Prop} {S S' : State} (k : ∀ t, Steps p.tables e below S' t → Steps p.tables e below S t) (h : own_Go p e below E S') : own_Go p e below E S :=
  h.imp fun t q => ⟨k t q.1, q.2⟩
theorem own_tr {E : State → Prop} {S S' : State} (k : Steps p.tables e below S S') (h : own_Go p e below E S') : own_Go p e below E S :=
  h.imp fun t q => ⟨k.trans q.1, q.2⟩
theorem own_mono {E E' : State → Prop} {S : State} (k : ∀ t, E t → E' t) (h : own_Go p e below E S) : own_Go p e below E' S := h.imp fun t q => ⟨q.1, k t q.2⟩
theorem own_monoQ {Q Q' : Option Value → Heap → List Loc → Prop} {C N : Nat} {S : State} (k : ∀ v h L, Q v h L → Q' v h L) (h : own_Go p e below (own_End s below Q C N) S) : own_Go p e below (own_End s below Q' C N) S :=
  own_mono (fun t ⟨a, v, L, b, q, r⟩ => ⟨a, v, L, b, k _ _ _ q, r⟩) h
variable {Q : Option Value → Heap → List Loc → Prop} {C N : Nat} {h : Heap} {pc : Nat} {Ls : Array Slot} {rest : List Value}
theorem own_ret (X : Stand p l e R s m args below meth c T locs cells slots) (hx : p.tables.exec = Jvm.exec) (hlk : meth.locks = false) (eT : T.heap = h) {w : Value} {t : FieldType} {i : Instr} (hret : meth.sig.returnType = some t) (hn : narrow t w = w)
    (hi : (i = .ireturn ∧ (t = .int ∨ t = .boolean ∨ t = .byte ∨ t = .char ∨ t = .short) ∧ ∃ z, w = .int z) ∨ (i = .lreturn ∧ t = .long ∧ ∃ z, w = .long z) ∨ (i = .dreturn ∧ t = .double ∧ ∃ z, w = .double z) ∨ (i = .freturn ∧ t = .float ∧ ∃ z, w = .float z) ∨ (i = .areturn ∧ t.isReference = true ∧ w.isRef = true))
    (hd : decode c.code pc = .ok (i, 1)) (hc : cells ≤ C) (hs : slots ≤ N) (hQ : Q (some w) h locs) : own_Go p e below (own_End s below Q C N) (T.setTop (mkF m pc Ls (w :: rest))) := by
  obtain ⟨fs, hr, hrun, hended, hW, hsame⟩ := X.leave (v := some w) (fun q => by rw [hret] at q; cases q) hlk
  subst eT
  exact ⟨_, retOut X hx hret hn hi hd hr, hrun, _, _, hended, hQ, ⟨_, rfl⟩, hW, hsame.mono hc hs⟩
theorem own_retI (X : Stand p l e R s m args below meth c T locs cells slots) (hx : p.tables.exec = Jvm.exec) (hlk : meth.locks = false) (eT : T.heap = h) {z : Int32} (hret : meth.sig.returnType = some .int) (hd : decode c.code pc = .ok (.ireturn, 1)) (hc : cells ≤ C) (hs : slots ≤ N) (hQ : Q (some (.int z)) h locs) :
    own_Go p e below (own_End s below Q C N) (T.setTop (mkF m pc Ls (.int z :: rest))) := own_ret X hx hlk eT hret rfl (Or.inl ⟨rfl, Or.inl rfl, _, rfl⟩) hd hc hs hQ
theorem own_retZ (X : Stand p l e R s m args below meth c T locs cells slots) (hx : p.tables.exec = Jvm.exec) (hlk : meth.locks = false) (eT : T.heap = h) {z : Int32} (hz : z = 0 ∨ z = 1) (hret : meth.sig.returnType = some .boolean) (hd : decode c.code pc = .ok (.ireturn, 1)) (hc : cells ≤ C) (hs : slots ≤ N) (hQ : Q (some (.int z)) h locs) :
    own_Go p e below (own_End s below Q C N) (T.setTop (mkF m pc Ls (.int z :: rest))) := own_ret X hx hlk eT hret (by rcases hz with rfl | rfl <;> rfl) (Or.inl ⟨rfl, Or.inr (Or.inl rfl), _, rfl⟩) hd hc hs hQ
theorem own_retJ (X : Stand p l e R s m args below meth c T locs cells slots) (hx : p.tables.exec = Jvm.exec) (hlk : meth.locks = false) (eT : T.heap = h) {z : Int64} (hret : meth.sig.returnType = some .long) (hd : decode c.code pc = .ok (.lreturn, 1)) (hc : cells ≤ C) (hs : slots ≤ N) (hQ : Q (some (.long z)) h locs) :
    own_Go p e below (own_End s below Q C N) (T.setTop (mkF m pc Ls (.long z :: rest))) := own_ret X hx hlk eT hret rfl (Or.inr (Or.inl ⟨rfl, rfl, _, rfl⟩)) hd hc hs hQ
theorem own_retD (X : Stand p l e R s m args below meth c T locs cells slots) (hx : p.tables.exec = Jvm.exec) (hlk : meth.locks = false) (eT : T.heap = h) {z : UInt64} (hret : meth.sig.returnType = some .double) (hd : decode c.code pc = .ok (.dreturn, 1)) (hc : cells ≤ C) (hs : slots ≤ N) (hQ : Q (some (.double z)) h locs) :
    own_Go p e below (own_End s below Q C N) (T.setTop (mkF m pc Ls (.double z :: rest))) := own_ret X hx hlk eT hret rfl (Or.inr (Or.inr (Or.inl ⟨rfl, rfl, _, rfl⟩))) hd hc hs hQ
theorem own_retR (X : Stand p l e R s m args below meth c T locs cells slots) (hx : p.tables.exec = Jvm.exec) (hlk : meth.locks = false) (eT : T.heap = h) {w : Value} {t : FieldType} (hw : w.isRef = true) (ht : t.isReference = true) (hret : meth.sig.returnType = some t) (hd : decode c.code pc = .ok (.areturn, 1)) (hc : cells ≤ C) (hs : slots ≤ N) (hQ : Q (some w) h locs) :
    own_Go p e below (own_End s below Q C N) (T.setTop (mkF m pc Ls (w :: rest))) := own_ret X hx hlk eT hret (by cases t <;> first | (cases ht; done) | (cases w <;> first | rfl | cases hw)) (Or.inr (Or.inr (Or.inr (Or.inr ⟨rfl, ht, hw⟩)))) hd hc hs hQ
theorem own_retV (X : Stand p l e R s m args below meth c T locs cells slots) (hx : p.tables.exec = Jvm.exec) (hlk : meth.locks = false) (eT : T.heap = h) (hret : meth.sig.returnType = none) (hd : decode c.code pc = .ok (.return_, 1)) (hc : cells ≤ C) (hs : slots ≤ N) (hQ : Q none h locs) :
    own_Go p e below (own_End s below Q C N) (T.setTop (mkF m pc Ls [])) := by
  obtain ⟨fs, hr, hrun, hended, hW, hsame⟩ := X.leave (v := none) (fun _ => rfl) hlk
  subst eT
  exact ⟨_, X.returnOut hx hret hd hr, hrun, _, _, hended, hQ, ⟨_, rfl⟩, hW, hsame.mono hc hs⟩
end OwnKit
theorem own_neq {α : Type} {a b c : α} (h : a = b) (q : ¬ b = c) : ¬ a = c := h ▸ q
def own_g (bs : List Int32) (j : Int32) : Int32 := bs.getD j.toNatClampNeg 0
theorem own_g_eq (bs : List Int32) (j : Int32) : (bs.map Value.int).getD j.toNatClampNeg (.int (0 : Int32)) = .int (own_g bs j) := by
  simp only [own_g, List.getD_eq_getElem?_getD, List.getElem?_map]
  cases bs[j.toNatClampNeg]? <;> rfl
theorem own_and3 (x : Int32) : (x &&& (3 : Int32)) = (0 : Int32) ∨ (x &&& (3 : Int32)) = (1 : Int32) ∨ (x &&& (3 : Int32)) = (2 : Int32) ∨ (x &&& (3 : Int32)) = (3 : Int32) := by
  have e := c_mask x 3 2 (by decide) (by decide)
  have k : (0 : Int32).toInt = 0 ∧ (1 : Int32).toInt = 1 ∧ (2 : Int32).toInt = 2 ∧ (3 : Int32).toInt = 3 := by decide
  obtain ⟨k0, k1, k2, k3⟩ := k
  simp only [← Int32.toInt_inj, k0, k1, k2, k3]
  omega
theorem own_inK (xi k : Int32) (n : Int) (hk : k.toInt = n) (h0 : 0 ≤ n) (h3 : n ≤ 3) (hlo : ¬ (xi < (0 : Int32))) (hhi : xi < (5 : Int32)) : ¬ (xi + k < 0) ∧ xi + k < (8 : Int32) := by
  have e := c_iadd xi k
  have r := rng32 (xi + k)
  have c0 : (0 : Int32).toInt = 0 ∧ (5 : Int32).toInt = 5 ∧ (8 : Int32).toInt = 8 := by decide
  obtain ⟨k0, k5, k8⟩ := c0
  simp only [Int32.lt_iff_toInt_lt, k0, k5, k8] at *
  omega
theorem own_in0 (xi : Int32) (hlo : ¬ (xi < (0 : Int32))) (hhi : xi < (5 : Int32)) : ¬ (xi < 0) ∧ xi < (8 : Int32) := by
  have c0 : (0 : Int32).toInt = 0 ∧ (5 : Int32).toInt = 5 ∧ (8 : Int32).toInt = 8 := by decide
  obtain ⟨k0, k5, k8⟩ := c0
  simp only [Int32.lt_iff_toInt_lt, k0, k5, k8] at *
  omega
theorem own_in1 (xi : Int32) (hlo : ¬ (xi < (0 : Int32))) (hhi : xi < (5 : Int32)) : ¬ (xi + (1 : Int32) < 0) ∧ xi + (1 : Int32) < (8 : Int32) := own_inK xi 1 1 (by decide) (by decide) (by decide) hlo hhi
theorem own_in2 (xi : Int32) (hlo : ¬ (xi < (0 : Int32))) (hhi : xi < (5 : Int32)) : ¬ (xi + (2 : Int32) < 0) ∧ xi + (2 : Int32) < (8 : Int32) := own_inK xi 2 2 (by decide) (by decide) (by decide) hlo hhi
theorem own_in3 (xi : Int32) (hlo : ¬ (xi < (0 : Int32))) (hhi : xi < (5 : Int32)) : ¬ (xi + (3 : Int32) < 0) ∧ xi + (3 : Int32) < (8 : Int32) := own_inK xi 3 3 (by decide) (by decide) (by decide) hlo hhi

theorem own_pd0 : parseMethodDescriptor "([BI)I" = some ⟨[(.array .byte), .int], some .int⟩ := by decide +kernel
theorem own_d1_0 : decode prog_120_method_9_code 0 = .ok (.aload_n 0, 1) := by decide +kernel
theorem own_d1_1 : decode prog_120_method_9_code 1 = .ok (.iload_n 1, 1) := by decide +kernel
theorem own_d1_2 : decode prog_120_method_9_code 2 = .ok (.baload, 1) := by decide +kernel
theorem own_d1_3 : decode prog_120_method_9_code 3 = .ok (.bipush 24, 2) := by decide +kernel
theorem own_d1_5 : decode prog_120_method_9_code 5 = .ok (.ishl, 1) := by decide +kernel
theorem own_d1_6 : decode prog_120_method_9_code 6 = .ok (.aload_n 0, 1) := by decide +kernel
theorem own_d1_7 : decode prog_120_method_9_code 7 = .ok (.iload_n 1, 1) := by decide +kernel
theorem own_d1_8 : decode prog_120_method_9_code 8 = .ok (.iconst 1, 1) := by decide +kernel
theorem own_d1_9 : decode prog_120_method_9_code 9 = .ok (.iadd, 1) := by decide +kernel
theorem own_d1_10 : decode prog_120_method_9_code 10 = .ok (.baload, 1) := by decide +kernel
theorem own_d1_11 : decode prog_120_method_9_code 11 = .ok (.sipush 255, 3) := by decide +kernel
theorem own_d1_14 : decode prog_120_method_9_code 14 = .ok (.iand, 1) := by decide +kernel
theorem own_d1_15 : decode prog_120_method_9_code 15 = .ok (.bipush 16, 2) := by decide +kernel
theorem own_d1_17 : decode prog_120_method_9_code 17 = .ok (.ishl, 1) := by decide +kernel
theorem own_d1_18 : decode prog_120_method_9_code 18 = .ok (.ior, 1) := by decide +kernel
theorem own_d1_19 : decode prog_120_method_9_code 19 = .ok (.aload_n 0, 1) := by decide +kernel
theorem own_d1_20 : decode prog_120_method_9_code 20 = .ok (.iload_n 1, 1) := by decide +kernel
theorem own_d1_21 : decode prog_120_method_9_code 21 = .ok (.iconst 2, 1) := by decide +kernel
theorem own_d1_22 : decode prog_120_method_9_code 22 = .ok (.iadd, 1) := by decide +kernel
theorem own_d1_23 : decode prog_120_method_9_code 23 = .ok (.baload, 1) := by decide +kernel
theorem own_d1_24 : decode prog_120_method_9_code 24 = .ok (.sipush 255, 3) := by decide +kernel
theorem own_d1_27 : decode prog_120_method_9_code 27 = .ok (.iand, 1) := by decide +kernel
theorem own_d1_28 : decode prog_120_method_9_code 28 = .ok (.bipush 8, 2) := by decide +kernel
theorem own_d1_30 : decode prog_120_method_9_code 30 = .ok (.ishl, 1) := by decide +kernel
theorem own_d1_31 : decode prog_120_method_9_code 31 = .ok (.ior, 1) := by decide +kernel
theorem own_d1_32 : decode prog_120_method_9_code 32 = .ok (.aload_n 0, 1) := by decide +kernel
theorem own_d1_33 : decode prog_120_method_9_code 33 = .ok (.iload_n 1, 1) := by decide +kernel
theorem own_d1_34 : decode prog_120_method_9_code 34 = .ok (.iconst 3, 1) := by decide +kernel
theorem own_d1_35 : decode prog_120_method_9_code 35 = .ok (.iadd, 1) := by decide +kernel
theorem own_d1_36 : decode prog_120_method_9_code 36 = .ok (.baload, 1) := by decide +kernel
theorem own_d1_37 : decode prog_120_method_9_code 37 = .ok (.sipush 255, 3) := by decide +kernel
theorem own_d1_40 : decode prog_120_method_9_code 40 = .ok (.iand, 1) := by decide +kernel
theorem own_d1_41 : decode prog_120_method_9_code 41 = .ok (.ior, 1) := by decide +kernel
theorem own_d1_42 : decode prog_120_method_9_code 42 = .ok (.ireturn, 1) := by decide +kernel
def own_intAt (xi : Int32) (bs : List Int32) : Int32 := (((((own_g bs xi) <<< ((24 : Int32) &&& 31)) ||| (((own_g bs (xi + (1 : Int32))) &&& (255 : Int32)) <<< ((16 : Int32) &&& 31))) ||| (((own_g bs (xi + (2 : Int32))) &&& (255 : Int32)) <<< ((8 : Int32) &&& 31))) ||| ((own_g bs (xi + (3 : Int32))) &&& (255 : Int32)))
theorem own_pn1 : plainName "com/example/mirrorline/mirrorline/store/RecordFormat" = true := by first | (simp [plainName, overriddenIn]; done) | decide +kernel
theorem own_ef1 (m : MethodId) (x0 : Addr) (x1 : Int32) : entryFrame m #[(.ref x0), (.int x1)] 2 = mkF m 0 #[.val (.ref x0), .val (.int x1)] [] := by first | (simp [entryFrame, mkF, argsToLocals, Value.category]; done) | rfl
def own_Q1 (Z : State) (ax : Addr) (xi : Int32) (ck : ClassId) (bs : List Int32) (h0 : Heap) (n0 : Nat) (v : Option Value) (h : Heap) (L : List Loc) : Prop := v = some (.int (own_intAt xi bs)) ∧ Fr n0 L ∧ h = h0
theorem own_rm1 (l : Launch) (Z : State) (a0 : Array Value) (hw : ∀ d ∈ tables_1, d.before a0 Z = true) (ws : List Jvm.Cond) (ax : Addr) (xi : Int32) (ck : ClassId) (bs : List Int32) (h0 : Heap) (n0 : Nat) (Z0 : n0 ≤ h0.size) (pf0 : Arv Z h0 ax ck .byte (8 : Int32) (bs.map Value.int) (.int (0 : Int32))) (hlo : ¬ (xi < (0 : Int32))) (hhi : xi < (5 : Int32)) :
    MetFree l (⟨"com/example/mirrorline/mirrorline/store/RecordFormat", "intAt", "([BI)I"⟩ : MethodName) (head1 (Jvm.Cond.code (⟨"com/example/mirrorline/mirrorline/store/RecordFormat", "intAt", "([BI)I"⟩ : MethodName) prog_120_method_9_code 2 (some .int) :: ws) ({ frames := 0, cells := 0, slots := 0, locals := 0 } : Room)) (fun a U => a = #[(.ref ax), (.int xi)] ∧ Z.Warmed39 U.vm ∧ U.heap = h0) (fun _ _ _ _ _ => True) (fun _ U o U' => ∃ v L, o = .returned v ∧ own_Q1 Z ax xi ck bs h0 n0 v U'.heap L ∧ FrameEnd U o U' L ({ frames := 0, cells := 0, slots := 0, locals := 0 } : Room).cells ({ frames := 0, cells := 0, slots := 0, locals := 0 } : Room).slots) := by
  refine MetFree.of_bodySF (plainFor_of_name own_pn1) hisR ?_
  intro p e s m args below meth c s₁ Bd hml0 hP hK
  obtain ⟨rfl, hZ, hh⟩ := hP
  have hx := Bd.exec
  have hby := Bd.bytes
  have hlk := Bd.notSynchronized
  have hret := Bd.returns
  have hml : c.maxLocals = 2 := hml0
  have hown : s.vm.findClass "com/example/mirrorline/mirrorline/store/RecordFormat" = some m.cls := findClass_of_methodNamed Bd.named
  have hnm := (name_of_methodNamed Bd.named Bd.method).1
  have X0 : Stand p l e ({ frames := 0, cells := 0, slots := 0, locals := 0 } : Room) s m #[(.ref ax), (.int xi)] below meth c s₁ [] 0 0 := Stand.of_body Bd
  have e0 : s₁.heap = h0 := by rw [← hh, Bd.state]; rfl
  have N0 := Fr.nil n0
  suffices key : own_Go p e below (own_End s below (own_Q1 Z ax xi ck bs h0 n0) ({ frames := 0, cells := 0, slots := 0, locals := 0 } : Room).cells ({ frames := 0, cells := 0, slots := 0, locals := 0 } : Room).slots) (s₁.setTop (mkF m 0 #[.val (.ref ax), .val (.int xi)] [])) by
    obtain ⟨t, k1, k2, v, L, k3, k4, k5⟩ := key
    exact ⟨t, _, castTop (own_ef1 m ax xi) k1, k2, k3, v, L, rfl, k4, k5⟩
  show own_Go p e below _ (s₁.setTop (mkF m 0 #[.val (.ref ax), .val (.int xi)] []))
  refine own_by (fun _ => XS.aloadN X0.here hx rfl (hb hby own_d1_0) rfl rfl) ?_
  show own_Go p e below _ (s₁.setTop (mkF m 1 #[.val (.ref ax), .val (.int xi)] [(.ref ax)]))
  refine own_by (fun _ => XS.iloadN X0.here hx rfl (hb hby own_d1_1) rfl) ?_
  show own_Go p e below _ (s₁.setTop (mkF m 2 #[.val (.ref ax), .val (.int xi)] [(.int xi), (.ref ax)]))
  obtain ⟨cl1, ar1, q1, sz1, nn1, hs1, gs1⟩ := id pf0
  have hin1 : ¬ (xi < 0 ∨ cl1.slots.size ≤ (xi).toNatClampNeg) := inb_of sz1 (own_in0 xi hlo hhi)
  refine own_by (X0.baloadBytes hx (j := xi) (v := (.int (own_g bs xi))) (by rw [e0]; exact ar1.1) (State.isArrayOf_alike hZ.alike ar1.2.1) ar1.2.2 hin1 (hs1.at hin1 (own_g_eq bs xi)) (g := (mkF m 2 #[.val (.ref ax), .val (.int xi)] [(.int xi), (.ref ax)])) rfl rfl (hb hby own_d1_2)) ?_
  show own_Go p e below _ (s₁.setTop (mkF m 3 #[.val (.ref ax), .val (.int xi)] [(.int (own_g bs xi))]))
  refine own_by (fun _ => XS.bipush X0.here hx rfl (hb hby own_d1_3)) ?_
  show own_Go p e below _ (s₁.setTop (mkF m 5 #[.val (.ref ax), .val (.int xi)] [(.int (24 : Int32)), (.int (own_g bs xi))]))
  refine own_by (fun _ => XS.ishl X0.here hx rfl (hb hby own_d1_5) rfl) ?_
  show own_Go p e below _ (s₁.setTop (mkF m 6 #[.val (.ref ax), .val (.int xi)] [(.int ((own_g bs xi) <<< ((24 : Int32) &&& 31)))]))
  refine own_by (fun _ => XS.aloadN X0.here hx rfl (hb hby own_d1_6) rfl rfl) ?_
  show own_Go p e below _ (s₁.setTop (mkF m 7 #[.val (.ref ax), .val (.int xi)] [(.ref ax), (.int ((own_g bs xi) <<< ((24 : Int32) &&& 31)))]))
  refine own_by (fun _ => XS.iloadN X0.here hx rfl (hb hby own_d1_7) rfl) ?_
  show own_Go p e below _ (s₁.setTop (mkF m 8 #[.val (.ref ax), .val (.int xi)] [(.int xi), (.ref ax), (.int ((own_g bs xi) <<< ((24 : Int32) &&& 31)))]))
  refine own_by (fun _ => XS.iconst X0.here hx rfl (hb hby own_d1_8)) ?_
  show own_Go p e below _ (s₁.setTop (mkF m 9 #[.val (.ref ax), .val (.int xi)] [(.int (1 : Int32)), (.int xi), (.ref ax), (.int ((own_g bs xi) <<< ((24 : Int32) &&& 31)))]))
  refine own_by (fun _ => XS.iadd X0.here hx rfl (hb hby own_d1_9) rfl) ?_
  show own_Go p e below _ (s₁.setTop (mkF m 10 #[.val (.ref ax), .val (.int xi)] [(.int (xi + (1 : Int32))), (.ref ax), (.int ((own_g bs xi) <<< ((24 : Int32) &&& 31)))]))
  obtain ⟨cl2, ar2, q2, sz2, nn2, hs2, gs2⟩ := id pf0
  have hin2 : ¬ ((xi + (1 : Int32)) < 0 ∨ cl2.slots.size ≤ ((xi + (1 : Int32))).toNatClampNeg) := inb_of sz2 (own_in1 xi hlo hhi)
  refine own_by (X0.baloadBytes hx (j := (xi + (1 : Int32))) (v := (.int (own_g bs (xi + (1 : Int32))))) (by rw [e0]; exact ar2.1) (State.isArrayOf_alike hZ.alike ar2.2.1) ar2.2.2 hin2 (hs2.at hin2 (own_g_eq bs (xi + (1 : Int32)))) (g := (mkF m 10 #[.val (.ref ax), .val (.int xi)] [(.int (xi + (1 : Int32))), (.ref ax), (.int ((own_g bs xi) <<< ((24 : Int32) &&& 31)))])) rfl rfl (hb hby own_d1_10)) ?_
  show own_Go p e below _ (s₁.setTop (mkF m 11 #[.val (.ref ax), .val (.int xi)] [(.int (own_g bs (xi + (1 : Int32)))), (.int ((own_g bs xi) <<< ((24 : Int32) &&& 31)))]))
  refine own_by (fun _ => XS.sipush X0.here hx rfl (hb hby own_d1_11)) ?_
  show own_Go p e below _ (s₁.setTop (mkF m 14 #[.val (.ref ax), .val (.int xi)] [(.int (255 : Int32)), (.int (own_g bs (xi + (1 : Int32)))), (.int ((own_g bs xi) <<< ((24 : Int32) &&& 31)))]))
  refine own_by (fun _ => XS.iand X0.here hx rfl (hb hby own_d1_14) rfl) ?_
  show own_Go p e below _ (s₁.setTop (mkF m 15 #[.val (.ref ax), .val (.int xi)] [(.int ((own_g bs (xi + (1 : Int32))) &&& (255 : Int32))), (.int ((own_g bs xi) <<< ((24 : Int32) &&& 31)))]))
  refine own_by (fun _ => XS.bipush X0.here hx rfl (hb hby own_d1_15)) ?_
  show own_Go p e below _ (s₁.setTop (mkF m 17 #[.val (.ref ax), .val (.int xi)] [(.int (16 : Int32)), (.int ((own_g bs (xi + (1 : Int32))) &&& (255 : Int32))), (.int ((own_g bs xi) <<< ((24 : Int32) &&& 31)))]))
  refine own_by (fun _ => XS.ishl X0.here hx rfl (hb hby own_d1_17) rfl) ?_
  show own_Go p e below _ (s₁.setTop (mkF m 18 #[.val (.ref ax), .val (.int xi)] [(.int (((own_g bs (xi + (1 : Int32))) &&& (255 : Int32)) <<< ((16 : Int32) &&& 31))), (.int ((own_g bs xi) <<< ((24 : Int32) &&& 31)))]))
  refine own_by (fun _ => XS.ior X0.here hx rfl (hb hby own_d1_18) rfl) ?_
  show own_Go p e below _ (s₁.setTop (mkF m 19 #[.val (.ref ax), .val (.int xi)] [(.int (((own_g bs xi) <<< ((24 : Int32) &&& 31)) ||| (((own_g bs (xi + (1 : Int32))) &&& (255 : Int32)) <<< ((16 : Int32) &&& 31))))]))
  refine own_by (fun _ => XS.aloadN X0.here hx rfl (hb hby own_d1_19) rfl rfl) ?_
  show own_Go p e below _ (s₁.setTop (mkF m 20 #[.val (.ref ax), .val (.int xi)] [(.ref ax), (.int (((own_g bs xi) <<< ((24 : Int32) &&& 31)) ||| (((own_g bs (xi + (1 : Int32))) &&& (255 : Int32)) <<< ((16 : Int32) &&& 31))))]))
  refine own_by (fun _ => XS.iloadN X0.here hx rfl (hb hby own_d1_20) rfl) ?_
  show own_Go p e below _ (s₁.setTop (mkF m 21 #[.val (.ref ax), .val (.int xi)] [(.int xi), (.ref ax), (.int (((own_g bs xi) <<< ((24 : Int32) &&& 31)) ||| (((own_g bs (xi + (1 : Int32))) &&& (255 : Int32)) <<< ((16 : Int32) &&& 31))))]))
  refine own_by (fun _ => XS.iconst X0.here hx rfl (hb hby own_d1_21)) ?_
  show own_Go p e below _ (s₁.setTop (mkF m 22 #[.val (.ref ax), .val (.int xi)] [(.int (2 : Int32)), (.int xi), (.ref ax), (.int (((own_g bs xi) <<< ((24 : Int32) &&& 31)) ||| (((own_g bs (xi + (1 : Int32))) &&& (255 : Int32)) <<< ((16 : Int32) &&& 31))))]))
  refine own_by (fun _ => XS.iadd X0.here hx rfl (hb hby own_d1_22) rfl) ?_
  show own_Go p e below _ (s₁.setTop (mkF m 23 #[.val (.ref ax), .val (.int xi)] [(.int (xi + (2 : Int32))), (.ref ax), (.int (((own_g bs xi) <<< ((24 : Int32) &&& 31)) ||| (((own_g bs (xi + (1 : Int32))) &&& (255 : Int32)) <<< ((16 : Int32) &&& 31))))]))
  obtain ⟨cl3, ar3, q3, sz3, nn3, hs3, gs3⟩ := id pf0
  have hin3 : ¬ ((xi + (2 : Int32)) < 0 ∨ cl3.slots.size ≤ ((xi + (2 : Int32))).toNatClampNeg) := inb_of sz3 (own_in2 xi hlo hhi)
  refine own_by (X0.baloadBytes hx (j := (xi + (2 : Int32))) (v := (.int (own_g bs (xi + (2 : Int32))))) (by rw [e0]; exact ar3.1) (State.isArrayOf_alike hZ.alike ar3.2.1) ar3.2.2 hin3 (hs3.at hin3 (own_g_eq bs (xi + (2 : Int32)))) (g := (mkF m 23 #[.val (.ref ax), .val (.int xi)] [(.int (xi + (2 : Int32))), (.ref ax), (.int (((own_g bs xi) <<< ((24 : Int32) &&& 31)) ||| (((own_g bs (xi + (1 : Int32))) &&& (255 : Int32)) <<< ((16 : Int32) &&& 31))))])) rfl rfl (hb hby own_d1_23)) ?_
  show own_Go p e below _ (s₁.setTop (mkF m 24 #[.val (.ref ax), .val (.int xi)] [(.int (own_g bs (xi + (2 : Int32)))), (.int (((own_g bs xi) <<< ((24 : Int32) &&& 31)) ||| (((own_g bs (xi + (1 : Int32))) &&& (255 : Int32)) <<< ((16 : Int32) &&& 31))))]))
  refine own_by (fun _ => XS.sipush X0.here hx rfl (hb hby own_d1_24)) ?_
  show own_Go p e below _ (s₁.setTop (mkF m 27 #[.val (.ref ax), .val (.int xi)] [(.int (255 : Int32)), (.int (own_g bs (xi + (2 : Int32)))), (.int (((own_g bs xi) <<< ((24 : Int32) &&& 31)) ||| (((own_g bs (xi + (1 : Int32))) &&& (255 : Int32)) <<< ((16 : Int32) &&& 31))))]))
  refine own_by (fun _ => XS.iand X0.here hx rfl (hb hby own_d1_27) rfl) ?_
  show own_Go p e below _ (s₁.setTop (mkF m 28 #[.val (.ref ax), .val (.int xi)] [(.int ((own_g bs (xi + (2 : Int32))) &&& (255 : Int32))), (.int (((own_g bs xi) <<< ((24 : Int32) &&& 31)) ||| (((own_g bs (xi + (1 : Int32))) &&& (255 : Int32)) <<< ((16 : Int32) &&& 31))))]))
  refine own_by (fun _ => XS.bipush X0.here hx rfl (hb hby own_d1_28)) ?_
  show own_Go p e below _ (s₁.setTop (mkF m 30 #[.val (.ref ax), .val (.int xi)] [(.int (8 : Int32)), (.int ((own_g bs (xi + (2 : Int32))) &&& (255 : Int32))), (.int (((own_g bs xi) <<< ((24 : Int32) &&& 31)) ||| (((own_g bs (xi + (1 : Int32))) &&& (255 : Int32)) <<< ((16 : Int32) &&& 31))))]))
  refine own_by (fun _ => XS.ishl X0.here hx rfl (hb hby own_d1_30) rfl) ?_
  show own_Go p e below _ (s₁.setTop (mkF m 31 #[.val (.ref ax), .val (.int xi)] [(.int (((own_g bs (xi + (2 : Int32))) &&& (255 : Int32)) <<< ((8 : Int32) &&& 31))), (.int (((own_g bs xi) <<< ((24 : Int32) &&& 31)) ||| (((own_g bs (xi + (1 : Int32))) &&& (255 : Int32)) <<< ((16 : Int32) &&& 31))))]))
  refine own_by (fun _ => XS.ior X0.here hx rfl (hb hby own_d1_31) rfl) ?_
  show own_Go p e below _ (s₁.setTop (mkF m 32 #[.val (.ref ax), .val (.int xi)] [(.int ((((own_g bs xi) <<< ((24 : Int32) &&& 31)) ||| (((own_g bs (xi + (1 : Int32))) &&& (255 : Int32)) <<< ((16 : Int32) &&& 31))) ||| (((own_g bs (xi + (2 : Int32))) &&& (255 : Int32)) <<< ((8 : Int32) &&& 31))))]))
  refine own_by (fun _ => XS.aloadN X0.here hx rfl (hb hby own_d1_32) rfl rfl) ?_
  show own_Go p e below _ (s₁.setTop (mkF m 33 #[.val (.ref ax), .val (.int xi)] [(.ref ax), (.int ((((own_g bs xi) <<< ((24 : Int32) &&& 31)) ||| (((own_g bs (xi + (1 : Int32))) &&& (255 : Int32)) <<< ((16 : Int32) &&& 31))) ||| (((own_g bs (xi + (2 : Int32))) &&& (255 : Int32)) <<< ((8 : Int32) &&& 31))))]))
  refine own_by (fun _ => XS.iloadN X0.here hx rfl (hb hby own_d1_33) rfl) ?_
  show own_Go p e below _ (s₁.setTop (mkF m 34 #[.val (.ref ax), .val (.int xi)] [(.int xi), (.ref ax), (.int ((((own_g bs xi) <<< ((24 : Int32) &&& 31)) ||| (((own_g bs (xi + (1 : Int32))) &&& (255 : Int32)) <<< ((16 : Int32) &&& 31))) ||| (((own_g bs (xi + (2 : Int32))) &&& (255 : Int32)) <<< ((8 : Int32) &&& 31))))]))
  refine own_by (fun _ => XS.iconst X0.here hx rfl (hb hby own_d1_34)) ?_
  show own_Go p e below _ (s₁.setTop (mkF m 35 #[.val (.ref ax), .val (.int xi)] [(.int (3 : Int32)), (.int xi), (.ref ax), (.int ((((own_g bs xi) <<< ((24 : Int32) &&& 31)) ||| (((own_g bs (xi + (1 : Int32))) &&& (255 : Int32)) <<< ((16 : Int32) &&& 31))) ||| (((own_g bs (xi + (2 : Int32))) &&& (255 : Int32)) <<< ((8 : Int32) &&& 31))))]))
  refine own_by (fun _ => XS.iadd X0.here hx rfl (hb hby own_d1_35) rfl) ?_
  show own_Go p e below _ (s₁.setTop (mkF m 36 #[.val (.ref ax), .val (.int xi)] [(.int (xi + (3 : Int32))), (.ref ax), (.int ((((own_g bs xi) <<< ((24 : Int32) &&& 31)) ||| (((own_g bs (xi + (1 : Int32))) &&& (255 : Int32)) <<< ((16 : Int32) &&& 31))) ||| (((own_g bs (xi + (2 : Int32))) &&& (255 : Int32)) <<< ((8 : Int32) &&& 31))))]))
  obtain ⟨cl4, ar4, q4, sz4, nn4, hs4, gs4⟩ := id pf0
  have hin4 : ¬ ((xi + (3 : Int32)) < 0 ∨ cl4.slots.size ≤ ((xi + (3 : Int32))).toNatClampNeg) := inb_of sz4 (own_in3 xi hlo hhi)
  refine own_by (X0.baloadBytes hx (j := (xi + (3 : Int32))) (v := (.int (own_g bs (xi + (3 : Int32))))) (by rw [e0]; exact ar4.1) (State.isArrayOf_alike hZ.alike ar4.2.1) ar4.2.2 hin4 (hs4.at hin4 (own_g_eq bs (xi + (3 : Int32)))) (g := (mkF m 36 #[.val (.ref ax), .val (.int xi)] [(.int (xi + (3 : Int32))), (.ref ax), (.int ((((own_g bs xi) <<< ((24 : Int32) &&& 31)) ||| (((own_g bs (xi + (1 : Int32))) &&& (255 : Int32)) <<< ((16 : Int32) &&& 31))) ||| (((own_g bs (xi + (2 : Int32))) &&& (255 : Int32)) <<< ((8 : Int32) &&& 31))))])) rfl rfl (hb hby own_d1_36)) ?_
  show own_Go p e below _ (s₁.setTop (mkF m 37 #[.val (.ref ax), .val (.int xi)] [(.int (own_g bs (xi + (3 : Int32)))), (.int ((((own_g bs xi) <<< ((24 : Int32) &&& 31)) ||| (((own_g bs (xi + (1 : Int32))) &&& (255 : Int32)) <<< ((16 : Int32) &&& 31))) ||| (((own_g bs (xi + (2 : Int32))) &&& (255 : Int32)) <<< ((8 : Int32) &&& 31))))]))
  refine own_by (fun _ => XS.sipush X0.here hx rfl (hb hby own_d1_37)) ?_
  show own_Go p e below _ (s₁.setTop (mkF m 40 #[.val (.ref ax), .val (.int xi)] [(.int (255 : Int32)), (.int (own_g bs (xi + (3 : Int32)))), (.int ((((own_g bs xi) <<< ((24 : Int32) &&& 31)) ||| (((own_g bs (xi + (1 : Int32))) &&& (255 : Int32)) <<< ((16 : Int32) &&& 31))) ||| (((own_g bs (xi + (2 : Int32))) &&& (255 : Int32)) <<< ((8 : Int32) &&& 31))))]))
  refine own_by (fun _ => XS.iand X0.here hx rfl (hb hby own_d1_40) rfl) ?_
  show own_Go p e below _ (s₁.setTop (mkF m 41 #[.val (.ref ax), .val (.int xi)] [(.int ((own_g bs (xi + (3 : Int32))) &&& (255 : Int32))), (.int ((((own_g bs xi) <<< ((24 : Int32) &&& 31)) ||| (((own_g bs (xi + (1 : Int32))) &&& (255 : Int32)) <<< ((16 : Int32) &&& 31))) ||| (((own_g bs (xi + (2 : Int32))) &&& (255 : Int32)) <<< ((8 : Int32) &&& 31))))]))
  refine own_by (fun _ => XS.ior X0.here hx rfl (hb hby own_d1_41) rfl) ?_
  show own_Go p e below _ (s₁.setTop (mkF m 42 #[.val (.ref ax), .val (.int xi)] [(.int (((((own_g bs xi) <<< ((24 : Int32) &&& 31)) ||| (((own_g bs (xi + (1 : Int32))) &&& (255 : Int32)) <<< ((16 : Int32) &&& 31))) ||| (((own_g bs (xi + (2 : Int32))) &&& (255 : Int32)) <<< ((8 : Int32) &&& 31))) ||| ((own_g bs (xi + (3 : Int32))) &&& (255 : Int32))))]))
  exact own_retI X0 hx hlk e0 hret (hb hby own_d1_42) (by decide) (by decide) ⟨(by first | rfl | simp only [own_intAt, if_neg hlo, if_pos hhi]), N0, rfl⟩

def own_law (xa : Int32) (xb : Int32) (xc : Int32) (xd : Int32) : Int32 := (if (xb &&& (3 : Int32)) = (0 : Int32) then (if (own_intAt (0 : Int32) [(nar .byte (((xa.toUInt32 >>> ((24 : Int32) &&& 31).toUInt32).toInt32).toInt8.toInt32)), (nar .byte (((xa.toUInt32 >>> ((16 : Int32) &&& 31).toUInt32).toInt32).toInt8.toInt32)), (nar .byte (((xa.toUInt32 >>> ((8 : Int32) &&& 31).toUInt32).toInt32).toInt8.toInt32)), (nar .byte (xa.toInt8.toInt32)), (nar .byte (xd.toInt8.toInt32)), (nar .byte (((xd.toUInt32 >>> ((8 : Int32) &&& 31).toUInt32).toInt32).toInt8.toInt32)), (nar .byte (((xd.toUInt32 >>> ((16 : Int32) &&& 31).toUInt32).toInt32).toInt8.toInt32)), (nar .byte (((xd.toUInt32 >>> ((24 : Int32) &&& 31).toUInt32).toInt32).toInt8.toInt32))]) = xa then (1 : Int32) else (0 : Int32)) else (if (xb &&& (3 : Int32)) = (1 : Int32) then (if (own_intAt (1 : Int32) [(nar .byte (xc.toInt8.toInt32)), (nar .byte (((xa.toUInt32 >>> ((24 : Int32) &&& 31).toUInt32).toInt32).toInt8.toInt32)), (nar .byte (((xa.toUInt32 >>> ((16 : Int32) &&& 31).toUInt32).toInt32).toInt8.toInt32)), (nar .byte (((xa.toUInt32 >>> ((8 : Int32) &&& 31).toUInt32).toInt32).toInt8.toInt32)), (nar .byte (xa.toInt8.toInt32)), (nar .byte (((xd.toUInt32 >>> ((8 : Int32) &&& 31).toUInt32).toInt32).toInt8.toInt32)), (nar .byte (((xd.toUInt32 >>> ((16 : Int32) &&& 31).toUInt32).toInt32).toInt8.toInt32)), (nar .byte (((xd.toUInt32 >>> ((24 : Int32) &&& 31).toUInt32).toInt32).toInt8.toInt32))]) = xa then (1 : Int32) else (0 : Int32)) else (if (xb &&& (3 : Int32)) = (2 : Int32) then (if (own_intAt (2 : Int32) [(nar .byte (xc.toInt8.toInt32)), (nar .byte (((xc.toUInt32 >>> ((8 : Int32) &&& 31).toUInt32).toInt32).toInt8.toInt32)), (nar .byte (((xa.toUInt32 >>> ((24 : Int32) &&& 31).toUInt32).toInt32).toInt8.toInt32)), (nar .byte (((xa.toUInt32 >>> ((16 : Int32) &&& 31).toUInt32).toInt32).toInt8.toInt32)), (nar .byte (((xa.toUInt32 >>> ((8 : Int32) &&& 31).toUInt32).toInt32).toInt8.toInt32)), (nar .byte (xa.toInt8.toInt32)), (nar .byte (((xd.toUInt32 >>> ((16 : Int32) &&& 31).toUInt32).toInt32).toInt8.toInt32)), (nar .byte (((xd.toUInt32 >>> ((24 : Int32) &&& 31).toUInt32).toInt32).toInt8.toInt32))]) = xa then (1 : Int32) else (0 : Int32)) else (if (own_intAt (3 : Int32) [(nar .byte (xc.toInt8.toInt32)), (nar .byte (((xc.toUInt32 >>> ((8 : Int32) &&& 31).toUInt32).toInt32).toInt8.toInt32)), (nar .byte (((xc.toUInt32 >>> ((16 : Int32) &&& 31).toUInt32).toInt32).toInt8.toInt32)), (nar .byte (((xa.toUInt32 >>> ((24 : Int32) &&& 31).toUInt32).toInt32).toInt8.toInt32)), (nar .byte (((xa.toUInt32 >>> ((16 : Int32) &&& 31).toUInt32).toInt32).toInt8.toInt32)), (nar .byte (((xa.toUInt32 >>> ((8 : Int32) &&& 31).toUInt32).toInt32).toInt8.toInt32)), (nar .byte (xa.toInt8.toInt32)), (nar .byte (((xd.toUInt32 >>> ((24 : Int32) &&& 31).toUInt32).toInt32).toInt8.toInt32))]) = xa then (1 : Int32) else (0 : Int32)))))
theorem own_bb (x : Int32) : x.toInt8.toInt32.toInt8.toInt32 = x.toInt8.toInt32 := by simp
theorem own_nb (x : Int32) : nar .byte x = x.toInt8.toInt32 := rfl
theorem own_toNat (a : Int32) : (a.toBitVec.toNat : Int) = a.toInt % 4294967296 := by
  have h := BitVec.toInt_eq_toNat_bmod a.toBitVec
  have e : a.toInt = a.toBitVec.toInt := rfl
  rw [e, h]
  have := Int.bmod_emod (x := (a.toBitVec.toNat : Int)) (m := 2 ^ 32)
  have l := a.toBitVec.isLt
  omega
theorem own_or (a b : Int32) (k : Nat) (hk : k ≤ 31) (ha : a.toInt % (2 ^ k : Nat) = 0) (hb : 0 ≤ b.toInt) (hb2 : b.toInt < (2 ^ k : Nat)) : (a ||| b).toInt = (a + b).toInt := by
  have hand : a.toBitVec &&& b.toBitVec = 0#32 := by
    apply BitVec.eq_of_getLsbD_eq
    intro i hi
    rw [BitVec.getLsbD_and]
    by_cases q : i < k
    · have : a.toBitVec.getLsbD i = false := by
        have e := own_toNat a
        have d : a.toBitVec.toNat % 2 ^ k = 0 := by
          have d1 : ((2 ^ k : Nat) : Int) ∣ 4294967296 := by
            have : (2 : Nat) ^ k ∣ 2 ^ 32 := Nat.pow_dvd_pow 2 (by omega)
            exact Int.natCast_dvd_natCast.mpr this
          have d2 := Int.emod_emod_of_dvd a.toInt d1
          rw [← e, ha] at d2
          exact_mod_cast d2
        have t := Nat.testBit_mod_two_pow a.toBitVec.toNat k i
        rw [d, Nat.zero_testBit] at t
        show a.toBitVec.toNat.testBit i = false
        simpa [q] using t.symm
      rw [this]; simp
    · have : b.toBitVec.getLsbD i = false := by
        have e := own_toNat b
        have lt : b.toBitVec.toNat < 2 ^ k := by
          have p : (2 ^ k : Nat) ≤ 2 ^ 31 := Nat.pow_le_pow_right (by decide) hk
          have z : b.toInt % 4294967296 = b.toInt := Int.emod_eq_of_lt hb (by omega)
          omega
        show b.toBitVec.toNat.testBit i = false
        exact Nat.testBit_lt_two_pow (Nat.lt_of_lt_of_le lt (Nat.pow_le_pow_right (by decide) (by omega)))
      rw [this]; simp
  have : a ||| b = a + b := by
    apply Int32.toBitVec_inj.mp
    rw [Int32.toBitVec_or, Int32.toBitVec_add]
    exact (BitVec.add_eq_or_of_and_eq_zero _ _ hand).symm
  rw [this]
def own_join (b0 b1 b2 b3 : Int32) : Int32 := ((((b0 <<< ((24 : Int32) &&& 31)) ||| ((b1 &&& (255 : Int32)) <<< ((16 : Int32) &&& 31))) ||| ((b2 &&& (255 : Int32)) <<< ((8 : Int32) &&& 31))) ||| (b3 &&& (255 : Int32)))
theorem own_rebuild (v : Int32) : own_join (nar .byte (((v.toUInt32 >>> ((24 : Int32) &&& 31).toUInt32).toInt32).toInt8.toInt32)) (nar .byte (((v.toUInt32 >>> ((16 : Int32) &&& 31).toUInt32).toInt32).toInt8.toInt32)) (nar .byte (((v.toUInt32 >>> ((8 : Int32) &&& 31).toUInt32).toInt32).toInt8.toInt32)) (nar .byte (v.toInt8.toInt32)) = v := by
  simp only [own_nb, own_bb]
  have rv := rng32 v
  have s1 := c_iushr v 24 24 (by decide) (by decide)
  have s2 := c_iushr v 16 16 (by decide) (by decide)
  have s3 := c_iushr v 8 8 (by decide) (by decide)
  have t1 := c_i2b ((v.toUInt32 >>> ((24 : Int32) &&& 31).toUInt32).toInt32)
  have t2 := c_i2b ((v.toUInt32 >>> ((16 : Int32) &&& 31).toUInt32).toInt32)
  have t3 := c_i2b ((v.toUInt32 >>> ((8 : Int32) &&& 31).toUInt32).toInt32)
  have t4 := c_i2b v
  generalize ((v.toUInt32 >>> ((24 : Int32) &&& 31).toUInt32).toInt32).toInt8.toInt32 = b0 at *
  generalize ((v.toUInt32 >>> ((16 : Int32) &&& 31).toUInt32).toInt32).toInt8.toInt32 = b1 at *
  generalize ((v.toUInt32 >>> ((8 : Int32) &&& 31).toUInt32).toInt32).toInt8.toInt32 = b2 at *
  generalize v.toInt8.toInt32 = b3 at *
  rw [s1] at t1
  rw [s2] at t2
  rw [s3] at t3
  have m1 := c_mask b1 255 8 (by decide) (by decide)
  have m2 := c_mask b2 255 8 (by decide) (by decide)
  have m3 := c_mask b3 255 8 (by decide) (by decide)
  have a0 := c_ishl b0 24 24 (by decide)
  have a1 := c_ishl (b1 &&& 255) 16 16 (by decide)
  have a2 := c_ishl (b2 &&& 255) 8 8 (by decide)
  have q0 := rng32 (b0 <<< ((24 : Int32) &&& 31))
  have q1 := rng32 ((b1 &&& (255 : Int32)) <<< ((16 : Int32) &&& 31))
  have q2 := rng32 ((b2 &&& (255 : Int32)) <<< ((8 : Int32) &&& 31))
  simp only [own_join]
  generalize b0 <<< ((24 : Int32) &&& 31) = A at *
  generalize (b1 &&& (255 : Int32)) <<< ((16 : Int32) &&& 31) = B at *
  generalize (b2 &&& (255 : Int32)) <<< ((8 : Int32) &&& 31) = D at *
  generalize b3 &&& (255 : Int32) = G at *
  have x1 : (A ||| B).toInt = (A + B).toInt := own_or A B 24 (by decide) (by omega) (by omega) (by omega)
  have y1 := c_iadd A B
  have z1 := rng32 (A + B)
  have x2 : ((A ||| B) ||| D).toInt = ((A ||| B) + D).toInt := own_or _ D 16 (by decide) (by omega) (by omega) (by omega)
  have y2 := c_iadd (A ||| B) D
  have z2 := rng32 ((A ||| B) + D)
  have x3 : (((A ||| B) ||| D) ||| G).toInt = (((A ||| B) ||| D) + G).toInt := own_or _ G 8 (by decide) (by omega) (by omega) (by omega)
  have y3 := c_iadd ((A ||| B) ||| D) G
  have z3 := rng32 (((A ||| B) ||| D) + G)
  apply Int32.toInt_inj.mp
  omega
theorem own_plain (xa xb xc xd : Int32) : own_law xa xb xc xd = 1 := by
  simp only [own_law]
  (repeat' split) <;> first | rfl | (exfalso; rename_i h; exact h (own_rebuild xa))

theorem own_pn0 : plainName "com/example/mirrorline/mirrorline/store/RecordFormatIntAtPinLaw" = true := by first | (simp [plainName, overriddenIn]; done) | decide +kernel
theorem own_ef0 (m : MethodId) (x0 : Int32) (x1 : Int32) (x2 : Int32) (x3 : Int32) : entryFrame m #[(.int x0), (.int x1), (.int x2), (.int x3)] maxLocals = mkF m 0 #[.val (.int x0), .val (.int x1), .val (.int x2), .val (.int x3), .unset, .unset] [] := by first | (simp [entryFrame, mkF, argsToLocals, Value.category, maxLocals]; done) | rfl
def own_Q0 (Z : State) (xa : Int32) (xb : Int32) (xc : Int32) (xd : Int32) (h0 : Heap) (n0 : Nat) (v : Option Value) (h : Heap) (L : List Loc) : Prop := v = some (.int (1 : Int32)) ∧ Fr n0 L
theorem own_rm0 (l : Launch) (Z : State) (a0 : Array Value) (hw : ∀ d ∈ tables_1, d.before a0 Z = true) (ws : List Jvm.Cond) (xa : Int32) (xb : Int32) (xc : Int32) (xd : Int32) (h0 : Heap) (n0 : Nat) (Z0 : n0 ≤ h0.size) :
    MetFree l x (head1 (Jvm.Cond.code x code maxLocals ret :: ws) room_1) (fun a U => a = #[(.int xa), (.int xb), (.int xc), (.int xd)] ∧ Z.Warmed39 U.vm ∧ U.heap = h0) (fun _ _ _ _ _ => True) (fun _ U o U' => ∃ v L, o = .returned v ∧ own_Q0 Z xa xb xc xd h0 n0 v U'.heap L ∧ FrameEnd U o U' L room_1.cells room_1.slots) := by
  refine MetFree.of_bodySF (plainFor_of_name own_pn0) hisR ?_
  intro p e s m args below meth c s₁ Bd hml0 hP hK
  obtain ⟨rfl, hZ, hh⟩ := hP
  have hx := Bd.exec
  have hby := Bd.bytes
  have hlk := Bd.notSynchronized
  have hret := Bd.returns
  have hml : c.maxLocals = 6 := hml0
  have hown : s.vm.findClass "com/example/mirrorline/mirrorline/store/RecordFormatIntAtPinLaw" = some m.cls := findClass_of_methodNamed Bd.named
  have hnm := (name_of_methodNamed Bd.named Bd.method).1
  have X0 : Stand p l e room_1 s m #[(.int xa), (.int xb), (.int xc), (.int xd)] below meth c s₁ [] 0 0 := Stand.of_body Bd
  have e0 : s₁.heap = h0 := by rw [← hh, Bd.state]; rfl
  have N0 := Fr.nil n0
  suffices key : own_Go p e below (own_End s below (own_Q0 Z xa xb xc xd h0 n0) room_1.cells room_1.slots) (s₁.setTop (mkF m 0 #[.val (.int xa), .val (.int xb), .val (.int xc), .val (.int xd), .unset, .unset] [])) by
    obtain ⟨t, k1, k2, v, L, k3, k4, k5⟩ := key
    exact ⟨t, _, castTop (own_ef0 m xa xb xc xd) k1, k2, k3, v, L, rfl, k4, k5⟩
  show own_Go p e below _ (s₁.setTop (mkF m 0 #[.val (.int xa), .val (.int xb), .val (.int xc), .val (.int xd), .unset, .unset] []))
  refine own_by (fun _ => XS.iloadN X0.here hx rfl (hb hby at_0) rfl) ?_
  show own_Go p e below _ (s₁.setTop (mkF m 1 #[.val (.int xa), .val (.int xb), .val (.int xc), .val (.int xd), .unset, .unset] [(.int xb)]))
  refine own_by (fun _ => XS.iconst X0.here hx rfl (hb hby at_1)) ?_
  show own_Go p e below _ (s₁.setTop (mkF m 2 #[.val (.int xa), .val (.int xb), .val (.int xc), .val (.int xd), .unset, .unset] [(.int (3 : Int32)), (.int xb)]))
  refine own_by (fun _ => XS.iand X0.here hx rfl (hb hby at_2) rfl) ?_
  show own_Go p e below _ (s₁.setTop (mkF m 3 #[.val (.int xa), .val (.int xb), .val (.int xc), .val (.int xd), .unset, .unset] [(.int (xb &&& (3 : Int32)))]))
  refine own_by (fun _ => XS.istore X0.here hx rfl (hb hby at_3) rfl (l' := #[.val (.int xa), .val (.int xb), .val (.int xc), .val (.int xd), .val (.int (xb &&& (3 : Int32))), .unset]) rfl) ?_
  show own_Go p e below _ (s₁.setTop (mkF m 5 #[.val (.int xa), .val (.int xb), .val (.int xc), .val (.int xd), .val (.int (xb &&& (3 : Int32))), .unset] []))
  rcases own_and3 xb with hs1 | hs1 | hs1 | hs1
  ·
    skip
    rw [hs1]
    show own_Go p e below _ (s₁.setTop (mkF m 5 #[.val (.int xa), .val (.int xb), .val (.int xc), .val (.int xd), .val (.int (0 : Int32)), .unset] []))
    refine own_by (fun _ => XS.bipush X0.here hx rfl (hb hby at_5)) ?_
    show own_Go p e below _ (s₁.setTop (mkF m 7 #[.val (.int xa), .val (.int xb), .val (.int xc), .val (.int xd), .val (.int (0 : Int32)), .unset] [(.int (8 : Int32))]))
    obtain ⟨T2, h2, k2, X2, e2, E2, A2, st2⟩ := newP X0 hx hZ (hw _ (List.mem_of_getElem? (i := 0) rfl)) e0 (g := (mkF m 7 #[.val (.int xa), .val (.int xb), .val (.int xc), .val (.int xd), .val (.int (0 : Int32)), .unset] [(.int (8 : Int32))])) rfl (hb hby at_7) rfl (by decide) (cap := 8) (by decide) (by decide) (by decide) (by decide)
    obtain ⟨b2, g2⟩ : ∃ z, z = h0.size := ⟨_, rfl⟩
    rw [← g2] at A2 st2
    refine own_by st2 ?_
    have ge2 : n0 ≤ b2 := Nat.le_trans Z0 (Nat.le_of_eq g2.symm)
    have z2 : n0 ≤ h2.size := Nat.le_trans Z0 E2.1
    have va2 : Arv Z h2 b2 k2 .byte (8 : Int32) [(.int (0 : Int32)), (.int (0 : Int32)), (.int (0 : Int32)), (.int (0 : Int32)), (.int (0 : Int32)), (.int (0 : Int32)), (.int (0 : Int32)), (.int (0 : Int32))] (.int (0 : Int32)) := (Arv.new A2 (by decide)).pad (pad_rep [] (.int (0 : Int32)) 8)
    show own_Go p e below _ (T2.setTop (mkF m 9 #[.val (.int xa), .val (.int xb), .val (.int xc), .val (.int xd), .val (.int (0 : Int32)), .unset] [(.ref b2)]))
    refine own_by (fun _ => XS.astore X2.here hx rfl (hb hby at_9) rfl rfl (l' := #[.val (.int xa), .val (.int xb), .val (.int xc), .val (.int xd), .val (.int (0 : Int32)), .val (.ref b2)]) rfl) ?_
    show own_Go p e below _ (T2.setTop (mkF m 11 #[.val (.int xa), .val (.int xb), .val (.int xc), .val (.int xd), .val (.int (0 : Int32)), .val (.ref b2)] []))
    refine own_by (fun _ => XS.aload X2.here hx rfl (hb hby at_11) rfl rfl) ?_
    show own_Go p e below _ (T2.setTop (mkF m 13 #[.val (.int xa), .val (.int xb), .val (.int xc), .val (.int xd), .val (.int (0 : Int32)), .val (.ref b2)] [(.ref b2)]))
    refine own_by (fun _ => XS.iconst X2.here hx rfl (hb hby at_13)) ?_
    show own_Go p e below _ (T2.setTop (mkF m 14 #[.val (.int xa), .val (.int xb), .val (.int xc), .val (.int xd), .val (.int (0 : Int32)), .val (.ref b2)] [(.int (0 : Int32)), (.ref b2)]))
    refine own_by (fun _ => XS.iloadN X2.here hx rfl (hb hby at_14) rfl) ?_
    show own_Go p e below _ (T2.setTop (mkF m 15 #[.val (.int xa), .val (.int xb), .val (.int xc), .val (.int xd), .val (.int (0 : Int32)), .val (.ref b2)] [(.int xc), (.int (0 : Int32)), (.ref b2)]))
    refine own_by (fun _ => XS.i2b X2.here hx rfl (hb hby at_15) rfl) ?_
    show own_Go p e below _ (T2.setTop (mkF m 16 #[.val (.int xa), .val (.int xb), .val (.int xc), .val (.int xd), .val (.int (0 : Int32)), .val (.ref b2)] [(.int (xc.toInt8.toInt32)), (.int (0 : Int32)), (.ref b2)]))
    obtain ⟨cl3, ar3, q3, sz3, nn3, hs3, gs3⟩ := id va2
    have hin3 : ¬ ((0 : Int32) < 0 ∨ cl3.slots.size ≤ ((0 : Int32)).toNatClampNeg) := inb_of sz3 ⟨by decide, by decide⟩
    obtain ⟨T4, h4, X4, e4, W4, st4⟩ := stB X2 hx hZ e2 ar3 (j := (0 : Int32)) hin3 (g := (mkF m 16 #[.val (.int xa), .val (.int xb), .val (.int xc), .val (.int xd), .val (.int (0 : Int32)), .val (.ref b2)] [(.int (xc.toInt8.toInt32)), (.int (0 : Int32)), (.ref b2)])) rfl rfl (hb hby at_16)
    refine own_by st4 ?_
    have va4 : Arv Z h4 b2 k2 .byte (8 : Int32) [(.int (nar .byte (xc.toInt8.toInt32))), (.int (0 : Int32)), (.int (0 : Int32)), (.int (0 : Int32)), (.int (0 : Int32)), (.int (0 : Int32)), (.int (0 : Int32)), (.int (0 : Int32))] (.int (0 : Int32)) := Arv.set ar3 q3 sz3 nn3 hs3 gs3 (fits_nar_byte _) W4 0 rfl (Nat.le_of_ble_eq_true rfl)
    have z4 : n0 ≤ h4.size := Nat.le_trans z2 (Keep.of_wr W4).1
    have N4 := Fr.snoc X4 N0 ge2
    show own_Go p e below _ (T4.setTop (mkF m 17 #[.val (.int xa), .val (.int xb), .val (.int xc), .val (.int xd), .val (.int (0 : Int32)), .val (.ref b2)] []))
    refine own_by (fun _ => XS.aload X4.here hx rfl (hb hby at_17) rfl rfl) ?_
    show own_Go p e below _ (T4.setTop (mkF m 19 #[.val (.int xa), .val (.int xb), .val (.int xc), .val (.int xd), .val (.int (0 : Int32)), .val (.ref b2)] [(.ref b2)]))
    refine own_by (fun _ => XS.iconst X4.here hx rfl (hb hby at_19)) ?_
    show own_Go p e below _ (T4.setTop (mkF m 20 #[.val (.int xa), .val (.int xb), .val (.int xc), .val (.int xd), .val (.int (0 : Int32)), .val (.ref b2)] [(.int (1 : Int32)), (.ref b2)]))
    refine own_by (fun _ => XS.iloadN X4.here hx rfl (hb hby at_20) rfl) ?_
    show own_Go p e below _ (T4.setTop (mkF m 21 #[.val (.int xa), .val (.int xb), .val (.int xc), .val (.int xd), .val (.int (0 : Int32)), .val (.ref b2)] [(.int xc), (.int (1 : Int32)), (.ref b2)]))
    refine own_by (fun _ => XS.bipush X4.here hx rfl (hb hby at_21)) ?_
    show own_Go p e below _ (T4.setTop (mkF m 23 #[.val (.int xa), .val (.int xb), .val (.int xc), .val (.int xd), .val (.int (0 : Int32)), .val (.ref b2)] [(.int (8 : Int32)), (.int xc), (.int (1 : Int32)), (.ref b2)]))
    refine own_by (fun _ => XS.iushr X4.here hx rfl (hb hby at_23) rfl) ?_
    show own_Go p e below _ (T4.setTop (mkF m 24 #[.val (.int xa), .val (.int xb), .val (.int xc), .val (.int xd), .val (.int (0 : Int32)), .val (.ref b2)] [(.int ((xc.toUInt32 >>> ((8 : Int32) &&& 31).toUInt32).toInt32)), (.int (1 : Int32)), (.ref b2)]))
    refine own_by (fun _ => XS.i2b X4.here hx rfl (hb hby at_24) rfl) ?_
    show own_Go p e below _ (T4.setTop (mkF m 25 #[.val (.int xa), .val (.int xb), .val (.int xc), .val (.int xd), .val (.int (0 : Int32)), .val (.ref b2)] [(.int (((xc.toUInt32 >>> ((8 : Int32) &&& 31).toUInt32).toInt32).toInt8.toInt32)), (.int (1 : Int32)), (.ref b2)]))
    obtain ⟨cl5, ar5, q5, sz5, nn5, hs5, gs5⟩ := id va4
    have hin5 : ¬ ((1 : Int32) < 0 ∨ cl5.slots.size ≤ ((1 : Int32)).toNatClampNeg) := inb_of sz5 ⟨by decide, by decide⟩
    obtain ⟨T6, h6, X6, e6, W6, st6⟩ := stB X4 hx hZ e4 ar5 (j := (1 : Int32)) hin5 (g := (mkF m 25 #[.val (.int xa), .val (.int xb), .val (.int xc), .val (.int xd), .val (.int (0 : Int32)), .val (.ref b2)] [(.int (((xc.toUInt32 >>> ((8 : Int32) &&& 31).toUInt32).toInt32).toInt8.toInt32)), (.int (1 : Int32)), (.ref b2)])) rfl rfl (hb hby at_25)
    refine own_by st6 ?_
    have va6 : Arv Z h6 b2 k2 .byte (8 : Int32) [(.int (nar .byte (xc.toInt8.toInt32))), (.int (nar .byte (((xc.toUInt32 >>> ((8 : Int32) &&& 31).toUInt32).toInt32).toInt8.toInt32))), (.int (0 : Int32)), (.int (0 : Int32)), (.int (0 : Int32)), (.int (0 : Int32)), (.int (0 : Int32)), (.int (0 : Int32))] (.int (0 : Int32)) := Arv.set ar5 q5 sz5 nn5 hs5 gs5 (fits_nar_byte _) W6 1 rfl (Nat.le_of_ble_eq_true rfl)
    have z6 : n0 ≤ h6.size := Nat.le_trans z4 (Keep.of_wr W6).1
    have N6 := Fr.snoc X6 N4 ge2
    show own_Go p e below _ (T6.setTop (mkF m 26 #[.val (.int xa), .val (.int xb), .val (.int xc), .val (.int xd), .val (.int (0 : Int32)), .val (.ref b2)] []))
    refine own_by (fun _ => XS.aload X6.here hx rfl (hb hby at_26) rfl rfl) ?_
    show own_Go p e below _ (T6.setTop (mkF m 28 #[.val (.int xa), .val (.int xb), .val (.int xc), .val (.int xd), .val (.int (0 : Int32)), .val (.ref b2)] [(.ref b2)]))
    refine own_by (fun _ => XS.iconst X6.here hx rfl (hb hby at_28)) ?_
    show own_Go p e below _ (T6.setTop (mkF m 29 #[.val (.int xa), .val (.int xb), .val (.int xc), .val (.int xd), .val (.int (0 : Int32)), .val (.ref b2)] [(.int (2 : Int32)), (.ref b2)]))
    refine own_by (fun _ => XS.iloadN X6.here hx rfl (hb hby at_29) rfl) ?_
    show own_Go p e below _ (T6.setTop (mkF m 30 #[.val (.int xa), .val (.int xb), .val (.int xc), .val (.int xd), .val (.int (0 : Int32)), .val (.ref b2)] [(.int xc), (.int (2 : Int32)), (.ref b2)]))
    refine own_by (fun _ => XS.bipush X6.here hx rfl (hb hby at_30)) ?_
    show own_Go p e below _ (T6.setTop (mkF m 32 #[.val (.int xa), .val (.int xb), .val (.int xc), .val (.int xd), .val (.int (0 : Int32)), .val (.ref b2)] [(.int (16 : Int32)), (.int xc), (.int (2 : Int32)), (.ref b2)]))
    refine own_by (fun _ => XS.iushr X6.here hx rfl (hb hby at_32) rfl) ?_
    show own_Go p e below _ (T6.setTop (mkF m 33 #[.val (.int xa), .val (.int xb), .val (.int xc), .val (.int xd), .val (.int (0 : Int32)), .val (.ref b2)] [(.int ((xc.toUInt32 >>> ((16 : Int32) &&& 31).toUInt32).toInt32)), (.int (2 : Int32)), (.ref b2)]))
    refine own_by (fun _ => XS.i2b X6.here hx rfl (hb hby at_33) rfl) ?_
    show own_Go p e below _ (T6.setTop (mkF m 34 #[.val (.int xa), .val (.int xb), .val (.int xc), .val (.int xd), .val (.int (0 : Int32)), .val (.ref b2)] [(.int (((xc.toUInt32 >>> ((16 : Int32) &&& 31).toUInt32).toInt32).toInt8.toInt32)), (.int (2 : Int32)), (.ref b2)]))
    obtain ⟨cl7, ar7, q7, sz7, nn7, hs7, gs7⟩ := id va6
    have hin7 : ¬ ((2 : Int32) < 0 ∨ cl7.slots.size ≤ ((2 : Int32)).toNatClampNeg) := inb_of sz7 ⟨by decide, by decide⟩
    obtain ⟨T8, h8, X8, e8, W8, st8⟩ := stB X6 hx hZ e6 ar7 (j := (2 : Int32)) hin7 (g := (mkF m 34 #[.val (.int xa), .val (.int xb), .val (.int xc), .val (.int xd), .val (.int (0 : Int32)), .val (.ref b2)] [(.int (((xc.toUInt32 >>> ((16 : Int32) &&& 31).toUInt32).toInt32).toInt8.toInt32)), (.int (2 : Int32)), (.ref b2)])) rfl rfl (hb hby at_34)
    refine own_by st8 ?_
    have va8 : Arv Z h8 b2 k2 .byte (8 : Int32) [(.int (nar .byte (xc.toInt8.toInt32))), (.int (nar .byte (((xc.toUInt32 >>> ((8 : Int32) &&& 31).toUInt32).toInt32).toInt8.toInt32))), (.int (nar .byte (((xc.toUInt32 >>> ((16 : Int32) &&& 31).toUInt32).toInt32).toInt8.toInt32))), (.int (0 : Int32)), (.int (0 : Int32)), (.int (0 : Int32)), (.int (0 : Int32)), (.int (0 : Int32))] (.int (0 : Int32)) := Arv.set ar7 q7 sz7 nn7 hs7 gs7 (fits_nar_byte _) W8 2 rfl (Nat.le_of_ble_eq_true rfl)
    have z8 : n0 ≤ h8.size := Nat.le_trans z6 (Keep.of_wr W8).1
    have N8 := Fr.snoc X8 N6 ge2
    show own_Go p e below _ (T8.setTop (mkF m 35 #[.val (.int xa), .val (.int xb), .val (.int xc), .val (.int xd), .val (.int (0 : Int32)), .val (.ref b2)] []))
    refine own_by (fun _ => XS.aload X8.here hx rfl (hb hby at_35) rfl rfl) ?_
    show own_Go p e below _ (T8.setTop (mkF m 37 #[.val (.int xa), .val (.int xb), .val (.int xc), .val (.int xd), .val (.int (0 : Int32)), .val (.ref b2)] [(.ref b2)]))
    refine own_by (fun _ => XS.iconst X8.here hx rfl (hb hby at_37)) ?_
    show own_Go p e below _ (T8.setTop (mkF m 38 #[.val (.int xa), .val (.int xb), .val (.int xc), .val (.int xd), .val (.int (0 : Int32)), .val (.ref b2)] [(.int (3 : Int32)), (.ref b2)]))
    refine own_by (fun _ => XS.iloadN X8.here hx rfl (hb hby at_38) rfl) ?_
    show own_Go p e below _ (T8.setTop (mkF m 39 #[.val (.int xa), .val (.int xb), .val (.int xc), .val (.int xd), .val (.int (0 : Int32)), .val (.ref b2)] [(.int xc), (.int (3 : Int32)), (.ref b2)]))
    refine own_by (fun _ => XS.bipush X8.here hx rfl (hb hby at_39)) ?_
    show own_Go p e below _ (T8.setTop (mkF m 41 #[.val (.int xa), .val (.int xb), .val (.int xc), .val (.int xd), .val (.int (0 : Int32)), .val (.ref b2)] [(.int (24 : Int32)), (.int xc), (.int (3 : Int32)), (.ref b2)]))
    refine own_by (fun _ => XS.iushr X8.here hx rfl (hb hby at_41) rfl) ?_
    show own_Go p e below _ (T8.setTop (mkF m 42 #[.val (.int xa), .val (.int xb), .val (.int xc), .val (.int xd), .val (.int (0 : Int32)), .val (.ref b2)] [(.int ((xc.toUInt32 >>> ((24 : Int32) &&& 31).toUInt32).toInt32)), (.int (3 : Int32)), (.ref b2)]))
    refine own_by (fun _ => XS.i2b X8.here hx rfl (hb hby at_42) rfl) ?_
    show own_Go p e below _ (T8.setTop (mkF m 43 #[.val (.int xa), .val (.int xb), .val (.int xc), .val (.int xd), .val (.int (0 : Int32)), .val (.ref b2)] [(.int (((xc.toUInt32 >>> ((24 : Int32) &&& 31).toUInt32).toInt32).toInt8.toInt32)), (.int (3 : Int32)), (.ref b2)]))
    obtain ⟨cl9, ar9, q9, sz9, nn9, hs9, gs9⟩ := id va8
    have hin9 : ¬ ((3 : Int32) < 0 ∨ cl9.slots.size ≤ ((3 : Int32)).toNatClampNeg) := inb_of sz9 ⟨by decide, by decide⟩
    obtain ⟨T10, h10, X10, e10, W10, st10⟩ := stB X8 hx hZ e8 ar9 (j := (3 : Int32)) hin9 (g := (mkF m 43 #[.val (.int xa), .val (.int xb), .val (.int xc), .val (.int xd), .val (.int (0 : Int32)), .val (.ref b2)] [(.int (((xc.toUInt32 >>> ((24 : Int32) &&& 31).toUInt32).toInt32).toInt8.toInt32)), (.int (3 : Int32)), (.ref b2)])) rfl rfl (hb hby at_43)
    refine own_by st10 ?_
    have va10 : Arv Z h10 b2 k2 .byte (8 : Int32) [(.int (nar .byte (xc.toInt8.toInt32))), (.int (nar .byte (((xc.toUInt32 >>> ((8 : Int32) &&& 31).toUInt32).toInt32).toInt8.toInt32))), (.int (nar .byte (((xc.toUInt32 >>> ((16 : Int32) &&& 31).toUInt32).toInt32).toInt8.toInt32))), (.int (nar .byte (((xc.toUInt32 >>> ((24 : Int32) &&& 31).toUInt32).toInt32).toInt8.toInt32))), (.int (0 : Int32)), (.int (0 : Int32)), (.int (0 : Int32)), (.int (0 : Int32))] (.int (0 : Int32)) := Arv.set ar9 q9 sz9 nn9 hs9 gs9 (fits_nar_byte _) W10 3 rfl (Nat.le_of_ble_eq_true rfl)
    have z10 : n0 ≤ h10.size := Nat.le_trans z8 (Keep.of_wr W10).1
    have N10 := Fr.snoc X10 N8 ge2
    show own_Go p e below _ (T10.setTop (mkF m 44 #[.val (.int xa), .val (.int xb), .val (.int xc), .val (.int xd), .val (.int (0 : Int32)), .val (.ref b2)] []))
    refine own_by (fun _ => XS.aload X10.here hx rfl (hb hby at_44) rfl rfl) ?_
    show own_Go p e below _ (T10.setTop (mkF m 46 #[.val (.int xa), .val (.int xb), .val (.int xc), .val (.int xd), .val (.int (0 : Int32)), .val (.ref b2)] [(.ref b2)]))
    refine own_by (fun _ => XS.iconst X10.here hx rfl (hb hby at_46)) ?_
    show own_Go p e below _ (T10.setTop (mkF m 47 #[.val (.int xa), .val (.int xb), .val (.int xc), .val (.int xd), .val (.int (0 : Int32)), .val (.ref b2)] [(.int (4 : Int32)), (.ref b2)]))
    refine own_by (fun _ => XS.iloadN X10.here hx rfl (hb hby at_47) rfl) ?_
    show own_Go p e below _ (T10.setTop (mkF m 48 #[.val (.int xa), .val (.int xb), .val (.int xc), .val (.int xd), .val (.int (0 : Int32)), .val (.ref b2)] [(.int xd), (.int (4 : Int32)), (.ref b2)]))
    refine own_by (fun _ => XS.i2b X10.here hx rfl (hb hby at_48) rfl) ?_
    show own_Go p e below _ (T10.setTop (mkF m 49 #[.val (.int xa), .val (.int xb), .val (.int xc), .val (.int xd), .val (.int (0 : Int32)), .val (.ref b2)] [(.int (xd.toInt8.toInt32)), (.int (4 : Int32)), (.ref b2)]))
    obtain ⟨cl11, ar11, q11, sz11, nn11, hs11, gs11⟩ := id va10
    have hin11 : ¬ ((4 : Int32) < 0 ∨ cl11.slots.size ≤ ((4 : Int32)).toNatClampNeg) := inb_of sz11 ⟨by decide, by decide⟩
    obtain ⟨T12, h12, X12, e12, W12, st12⟩ := stB X10 hx hZ e10 ar11 (j := (4 : Int32)) hin11 (g := (mkF m 49 #[.val (.int xa), .val (.int xb), .val (.int xc), .val (.int xd), .val (.int (0 : Int32)), .val (.ref b2)] [(.int (xd.toInt8.toInt32)), (.int (4 : Int32)), (.ref b2)])) rfl rfl (hb hby at_49)
    refine own_by st12 ?_
    have va12 : Arv Z h12 b2 k2 .byte (8 : Int32) [(.int (nar .byte (xc.toInt8.toInt32))), (.int (nar .byte (((xc.toUInt32 >>> ((8 : Int32) &&& 31).toUInt32).toInt32).toInt8.toInt32))), (.int (nar .byte (((xc.toUInt32 >>> ((16 : Int32) &&& 31).toUInt32).toInt32).toInt8.toInt32))), (.int (nar .byte (((xc.toUInt32 >>> ((24 : Int32) &&& 31).toUInt32).toInt32).toInt8.toInt32))), (.int (nar .byte (xd.toInt8.toInt32))), (.int (0 : Int32)), (.int (0 : Int32)), (.int (0 : Int32))] (.int (0 : Int32)) := Arv.set ar11 q11 sz11 nn11 hs11 gs11 (fits_nar_byte _) W12 4 rfl (Nat.le_of_ble_eq_true rfl)
    have z12 : n0 ≤ h12.size := Nat.le_trans z10 (Keep.of_wr W12).1
    have N12 := Fr.snoc X12 N10 ge2
    show own_Go p e below _ (T12.setTop (mkF m 50 #[.val (.int xa), .val (.int xb), .val (.int xc), .val (.int xd), .val (.int (0 : Int32)), .val (.ref b2)] []))
    refine own_by (fun _ => XS.aload X12.here hx rfl (hb hby at_50) rfl rfl) ?_
    show own_Go p e below _ (T12.setTop (mkF m 52 #[.val (.int xa), .val (.int xb), .val (.int xc), .val (.int xd), .val (.int (0 : Int32)), .val (.ref b2)] [(.ref b2)]))
    refine own_by (fun _ => XS.iconst X12.here hx rfl (hb hby at_52)) ?_
    show own_Go p e below _ (T12.setTop (mkF m 53 #[.val (.int xa), .val (.int xb), .val (.int xc), .val (.int xd), .val (.int (0 : Int32)), .val (.ref b2)] [(.int (5 : Int32)), (.ref b2)]))
    refine own_by (fun _ => XS.iloadN X12.here hx rfl (hb hby at_53) rfl) ?_
    show own_Go p e below _ (T12.setTop (mkF m 54 #[.val (.int xa), .val (.int xb), .val (.int xc), .val (.int xd), .val (.int (0 : Int32)), .val (.ref b2)] [(.int xd), (.int (5 : Int32)), (.ref b2)]))
    refine own_by (fun _ => XS.bipush X12.here hx rfl (hb hby at_54)) ?_
    show own_Go p e below _ (T12.setTop (mkF m 56 #[.val (.int xa), .val (.int xb), .val (.int xc), .val (.int xd), .val (.int (0 : Int32)), .val (.ref b2)] [(.int (8 : Int32)), (.int xd), (.int (5 : Int32)), (.ref b2)]))
    refine own_by (fun _ => XS.iushr X12.here hx rfl (hb hby at_56) rfl) ?_
    show own_Go p e below _ (T12.setTop (mkF m 57 #[.val (.int xa), .val (.int xb), .val (.int xc), .val (.int xd), .val (.int (0 : Int32)), .val (.ref b2)] [(.int ((xd.toUInt32 >>> ((8 : Int32) &&& 31).toUInt32).toInt32)), (.int (5 : Int32)), (.ref b2)]))
    refine own_by (fun _ => XS.i2b X12.here hx rfl (hb hby at_57) rfl) ?_
    show own_Go p e below _ (T12.setTop (mkF m 58 #[.val (.int xa), .val (.int xb), .val (.int xc), .val (.int xd), .val (.int (0 : Int32)), .val (.ref b2)] [(.int (((xd.toUInt32 >>> ((8 : Int32) &&& 31).toUInt32).toInt32).toInt8.toInt32)), (.int (5 : Int32)), (.ref b2)]))
    obtain ⟨cl13, ar13, q13, sz13, nn13, hs13, gs13⟩ := id va12
    have hin13 : ¬ ((5 : Int32) < 0 ∨ cl13.slots.size ≤ ((5 : Int32)).toNatClampNeg) := inb_of sz13 ⟨by decide, by decide⟩
    obtain ⟨T14, h14, X14, e14, W14, st14⟩ := stB X12 hx hZ e12 ar13 (j := (5 : Int32)) hin13 (g := (mkF m 58 #[.val (.int xa), .val (.int xb), .val (.int xc), .val (.int xd), .val (.int (0 : Int32)), .val (.ref b2)] [(.int (((xd.toUInt32 >>> ((8 : Int32) &&& 31).toUInt32).toInt32).toInt8.toInt32)), (.int (5 : Int32)), (.ref b2)])) rfl rfl (hb hby at_58)
    refine own_by st14 ?_
    have va14 : Arv Z h14 b2 k2 .byte (8 : Int32) [(.int (nar .byte (xc.toInt8.toInt32))), (.int (nar .byte (((xc.toUInt32 >>> ((8 : Int32) &&& 31).toUInt32).toInt32).toInt8.toInt32))), (.int (nar .byte (((xc.toUInt32 >>> ((16 : Int32) &&& 31).toUInt32).toInt32).toInt8.toInt32))), (.int (nar .byte (((xc.toUInt32 >>> ((24 : Int32) &&& 31).toUInt32).toInt32).toInt8.toInt32))), (.int (nar .byte (xd.toInt8.toInt32))), (.int (nar .byte (((xd.toUInt32 >>> ((8 : Int32) &&& 31).toUInt32).toInt32).toInt8.toInt32))), (.int (0 : Int32)), (.int (0 : Int32))] (.int (0 : Int32)) := Arv.set ar13 q13 sz13 nn13 hs13 gs13 (fits_nar_byte _) W14 5 rfl (Nat.le_of_ble_eq_true rfl)
    have z14 : n0 ≤ h14.size := Nat.le_trans z12 (Keep.of_wr W14).1
    have N14 := Fr.snoc X14 N12 ge2
    show own_Go p e below _ (T14.setTop (mkF m 59 #[.val (.int xa), .val (.int xb), .val (.int xc), .val (.int xd), .val (.int (0 : Int32)), .val (.ref b2)] []))
    refine own_by (fun _ => XS.aload X14.here hx rfl (hb hby at_59) rfl rfl) ?_
    show own_Go p e below _ (T14.setTop (mkF m 61 #[.val (.int xa), .val (.int xb), .val (.int xc), .val (.int xd), .val (.int (0 : Int32)), .val (.ref b2)] [(.ref b2)]))
    refine own_by (fun _ => XS.bipush X14.here hx rfl (hb hby at_61)) ?_
    show own_Go p e below _ (T14.setTop (mkF m 63 #[.val (.int xa), .val (.int xb), .val (.int xc), .val (.int xd), .val (.int (0 : Int32)), .val (.ref b2)] [(.int (6 : Int32)), (.ref b2)]))
    refine own_by (fun _ => XS.iloadN X14.here hx rfl (hb hby at_63) rfl) ?_
    show own_Go p e below _ (T14.setTop (mkF m 64 #[.val (.int xa), .val (.int xb), .val (.int xc), .val (.int xd), .val (.int (0 : Int32)), .val (.ref b2)] [(.int xd), (.int (6 : Int32)), (.ref b2)]))
    refine own_by (fun _ => XS.bipush X14.here hx rfl (hb hby at_64)) ?_
    show own_Go p e below _ (T14.setTop (mkF m 66 #[.val (.int xa), .val (.int xb), .val (.int xc), .val (.int xd), .val (.int (0 : Int32)), .val (.ref b2)] [(.int (16 : Int32)), (.int xd), (.int (6 : Int32)), (.ref b2)]))
    refine own_by (fun _ => XS.iushr X14.here hx rfl (hb hby at_66) rfl) ?_
    show own_Go p e below _ (T14.setTop (mkF m 67 #[.val (.int xa), .val (.int xb), .val (.int xc), .val (.int xd), .val (.int (0 : Int32)), .val (.ref b2)] [(.int ((xd.toUInt32 >>> ((16 : Int32) &&& 31).toUInt32).toInt32)), (.int (6 : Int32)), (.ref b2)]))
    refine own_by (fun _ => XS.i2b X14.here hx rfl (hb hby at_67) rfl) ?_
    show own_Go p e below _ (T14.setTop (mkF m 68 #[.val (.int xa), .val (.int xb), .val (.int xc), .val (.int xd), .val (.int (0 : Int32)), .val (.ref b2)] [(.int (((xd.toUInt32 >>> ((16 : Int32) &&& 31).toUInt32).toInt32).toInt8.toInt32)), (.int (6 : Int32)), (.ref b2)]))
    obtain ⟨cl15, ar15, q15, sz15, nn15, hs15, gs15⟩ := id va14
    have hin15 : ¬ ((6 : Int32) < 0 ∨ cl15.slots.size ≤ ((6 : Int32)).toNatClampNeg) := inb_of sz15 ⟨by decide, by decide⟩
    obtain ⟨T16, h16, X16, e16, W16, st16⟩ := stB X14 hx hZ e14 ar15 (j := (6 : Int32)) hin15 (g := (mkF m 68 #[.val (.int xa), .val (.int xb), .val (.int xc), .val (.int xd), .val (.int (0 : Int32)), .val (.ref b2)] [(.int (((xd.toUInt32 >>> ((16 : Int32) &&& 31).toUInt32).toInt32).toInt8.toInt32)), (.int (6 : Int32)), (.ref b2)])) rfl rfl (hb hby at_68)
    refine own_by st16 ?_
    have va16 : Arv Z h16 b2 k2 .byte (8 : Int32) [(.int (nar .byte (xc.toInt8.toInt32))), (.int (nar .byte (((xc.toUInt32 >>> ((8 : Int32) &&& 31).toUInt32).toInt32).toInt8.toInt32))), (.int (nar .byte (((xc.toUInt32 >>> ((16 : Int32) &&& 31).toUInt32).toInt32).toInt8.toInt32))), (.int (nar .byte (((xc.toUInt32 >>> ((24 : Int32) &&& 31).toUInt32).toInt32).toInt8.toInt32))), (.int (nar .byte (xd.toInt8.toInt32))), (.int (nar .byte (((xd.toUInt32 >>> ((8 : Int32) &&& 31).toUInt32).toInt32).toInt8.toInt32))), (.int (nar .byte (((xd.toUInt32 >>> ((16 : Int32) &&& 31).toUInt32).toInt32).toInt8.toInt32))), (.int (0 : Int32))] (.int (0 : Int32)) := Arv.set ar15 q15 sz15 nn15 hs15 gs15 (fits_nar_byte _) W16 6 rfl (Nat.le_of_ble_eq_true rfl)
    have z16 : n0 ≤ h16.size := Nat.le_trans z14 (Keep.of_wr W16).1
    have N16 := Fr.snoc X16 N14 ge2
    show own_Go p e below _ (T16.setTop (mkF m 69 #[.val (.int xa), .val (.int xb), .val (.int xc), .val (.int xd), .val (.int (0 : Int32)), .val (.ref b2)] []))
    refine own_by (fun _ => XS.aload X16.here hx rfl (hb hby at_69) rfl rfl) ?_
    show own_Go p e below _ (T16.setTop (mkF m 71 #[.val (.int xa), .val (.int xb), .val (.int xc), .val (.int xd), .val (.int (0 : Int32)), .val (.ref b2)] [(.ref b2)]))
    refine own_by (fun _ => XS.bipush X16.here hx rfl (hb hby at_71)) ?_
    show own_Go p e below _ (T16.setTop (mkF m 73 #[.val (.int xa), .val (.int xb), .val (.int xc), .val (.int xd), .val (.int (0 : Int32)), .val (.ref b2)] [(.int (7 : Int32)), (.ref b2)]))
    refine own_by (fun _ => XS.iloadN X16.here hx rfl (hb hby at_73) rfl) ?_
    show own_Go p e below _ (T16.setTop (mkF m 74 #[.val (.int xa), .val (.int xb), .val (.int xc), .val (.int xd), .val (.int (0 : Int32)), .val (.ref b2)] [(.int xd), (.int (7 : Int32)), (.ref b2)]))
    refine own_by (fun _ => XS.bipush X16.here hx rfl (hb hby at_74)) ?_
    show own_Go p e below _ (T16.setTop (mkF m 76 #[.val (.int xa), .val (.int xb), .val (.int xc), .val (.int xd), .val (.int (0 : Int32)), .val (.ref b2)] [(.int (24 : Int32)), (.int xd), (.int (7 : Int32)), (.ref b2)]))
    refine own_by (fun _ => XS.iushr X16.here hx rfl (hb hby at_76) rfl) ?_
    show own_Go p e below _ (T16.setTop (mkF m 77 #[.val (.int xa), .val (.int xb), .val (.int xc), .val (.int xd), .val (.int (0 : Int32)), .val (.ref b2)] [(.int ((xd.toUInt32 >>> ((24 : Int32) &&& 31).toUInt32).toInt32)), (.int (7 : Int32)), (.ref b2)]))
    refine own_by (fun _ => XS.i2b X16.here hx rfl (hb hby at_77) rfl) ?_
    show own_Go p e below _ (T16.setTop (mkF m 78 #[.val (.int xa), .val (.int xb), .val (.int xc), .val (.int xd), .val (.int (0 : Int32)), .val (.ref b2)] [(.int (((xd.toUInt32 >>> ((24 : Int32) &&& 31).toUInt32).toInt32).toInt8.toInt32)), (.int (7 : Int32)), (.ref b2)]))
    obtain ⟨cl17, ar17, q17, sz17, nn17, hs17, gs17⟩ := id va16
    have hin17 : ¬ ((7 : Int32) < 0 ∨ cl17.slots.size ≤ ((7 : Int32)).toNatClampNeg) := inb_of sz17 ⟨by decide, by decide⟩
    obtain ⟨T18, h18, X18, e18, W18, st18⟩ := stB X16 hx hZ e16 ar17 (j := (7 : Int32)) hin17 (g := (mkF m 78 #[.val (.int xa), .val (.int xb), .val (.int xc), .val (.int xd), .val (.int (0 : Int32)), .val (.ref b2)] [(.int (((xd.toUInt32 >>> ((24 : Int32) &&& 31).toUInt32).toInt32).toInt8.toInt32)), (.int (7 : Int32)), (.ref b2)])) rfl rfl (hb hby at_78)
    refine own_by st18 ?_
    have va18 : Arv Z h18 b2 k2 .byte (8 : Int32) [(.int (nar .byte (xc.toInt8.toInt32))), (.int (nar .byte (((xc.toUInt32 >>> ((8 : Int32) &&& 31).toUInt32).toInt32).toInt8.toInt32))), (.int (nar .byte (((xc.toUInt32 >>> ((16 : Int32) &&& 31).toUInt32).toInt32).toInt8.toInt32))), (.int (nar .byte (((xc.toUInt32 >>> ((24 : Int32) &&& 31).toUInt32).toInt32).toInt8.toInt32))), (.int (nar .byte (xd.toInt8.toInt32))), (.int (nar .byte (((xd.toUInt32 >>> ((8 : Int32) &&& 31).toUInt32).toInt32).toInt8.toInt32))), (.int (nar .byte (((xd.toUInt32 >>> ((16 : Int32) &&& 31).toUInt32).toInt32).toInt8.toInt32))), (.int (nar .byte (((xd.toUInt32 >>> ((24 : Int32) &&& 31).toUInt32).toInt32).toInt8.toInt32)))] (.int (0 : Int32)) := Arv.set ar17 q17 sz17 nn17 hs17 gs17 (fits_nar_byte _) W18 7 rfl (Nat.le_of_ble_eq_true rfl)
    have z18 : n0 ≤ h18.size := Nat.le_trans z16 (Keep.of_wr W18).1
    have N18 := Fr.snoc X18 N16 ge2
    show own_Go p e below _ (T18.setTop (mkF m 79 #[.val (.int xa), .val (.int xb), .val (.int xc), .val (.int xd), .val (.int (0 : Int32)), .val (.ref b2)] []))
    refine own_by (fun _ => XS.aload X18.here hx rfl (hb hby at_79) rfl rfl) ?_
    show own_Go p e below _ (T18.setTop (mkF m 81 #[.val (.int xa), .val (.int xb), .val (.int xc), .val (.int xd), .val (.int (0 : Int32)), .val (.ref b2)] [(.ref b2)]))
    refine own_by (fun _ => XS.iload X18.here hx rfl (hb hby at_81) rfl) ?_
    show own_Go p e below _ (T18.setTop (mkF m 83 #[.val (.int xa), .val (.int xb), .val (.int xc), .val (.int xd), .val (.int (0 : Int32)), .val (.ref b2)] [(.int (0 : Int32)), (.ref b2)]))
    refine own_by (fun _ => XS.iloadN X18.here hx rfl (hb hby at_83) rfl) ?_
    show own_Go p e below _ (T18.setTop (mkF m 84 #[.val (.int xa), .val (.int xb), .val (.int xc), .val (.int xd), .val (.int (0 : Int32)), .val (.ref b2)] [(.int xa), (.int (0 : Int32)), (.ref b2)]))
    refine own_by (fun _ => XS.bipush X18.here hx rfl (hb hby at_84)) ?_
    show own_Go p e below _ (T18.setTop (mkF m 86 #[.val (.int xa), .val (.int xb), .val (.int xc), .val (.int xd), .val (.int (0 : Int32)), .val (.ref b2)] [(.int (24 : Int32)), (.int xa), (.int (0 : Int32)), (.ref b2)]))
    refine own_by (fun _ => XS.iushr X18.here hx rfl (hb hby at_86) rfl) ?_
    show own_Go p e below _ (T18.setTop (mkF m 87 #[.val (.int xa), .val (.int xb), .val (.int xc), .val (.int xd), .val (.int (0 : Int32)), .val (.ref b2)] [(.int ((xa.toUInt32 >>> ((24 : Int32) &&& 31).toUInt32).toInt32)), (.int (0 : Int32)), (.ref b2)]))
    refine own_by (fun _ => XS.i2b X18.here hx rfl (hb hby at_87) rfl) ?_
    show own_Go p e below _ (T18.setTop (mkF m 88 #[.val (.int xa), .val (.int xb), .val (.int xc), .val (.int xd), .val (.int (0 : Int32)), .val (.ref b2)] [(.int (((xa.toUInt32 >>> ((24 : Int32) &&& 31).toUInt32).toInt32).toInt8.toInt32)), (.int (0 : Int32)), (.ref b2)]))
    obtain ⟨cl19, ar19, q19, sz19, nn19, hs19, gs19⟩ := id va18
    have hin19 : ¬ ((0 : Int32) < 0 ∨ cl19.slots.size ≤ ((0 : Int32)).toNatClampNeg) := inb_of sz19 ⟨by decide, by decide⟩
    obtain ⟨T20, h20, X20, e20, W20, st20⟩ := stB X18 hx hZ e18 ar19 (j := (0 : Int32)) hin19 (g := (mkF m 88 #[.val (.int xa), .val (.int xb), .val (.int xc), .val (.int xd), .val (.int (0 : Int32)), .val (.ref b2)] [(.int (((xa.toUInt32 >>> ((24 : Int32) &&& 31).toUInt32).toInt32).toInt8.toInt32)), (.int (0 : Int32)), (.ref b2)])) rfl rfl (hb hby at_88)
    refine own_by st20 ?_
    have va20 : Arv Z h20 b2 k2 .byte (8 : Int32) [(.int (nar .byte (((xa.toUInt32 >>> ((24 : Int32) &&& 31).toUInt32).toInt32).toInt8.toInt32))), (.int (nar .byte (((xc.toUInt32 >>> ((8 : Int32) &&& 31).toUInt32).toInt32).toInt8.toInt32))), (.int (nar .byte (((xc.toUInt32 >>> ((16 : Int32) &&& 31).toUInt32).toInt32).toInt8.toInt32))), (.int (nar .byte (((xc.toUInt32 >>> ((24 : Int32) &&& 31).toUInt32).toInt32).toInt8.toInt32))), (.int (nar .byte (xd.toInt8.toInt32))), (.int (nar .byte (((xd.toUInt32 >>> ((8 : Int32) &&& 31).toUInt32).toInt32).toInt8.toInt32))), (.int (nar .byte (((xd.toUInt32 >>> ((16 : Int32) &&& 31).toUInt32).toInt32).toInt8.toInt32))), (.int (nar .byte (((xd.toUInt32 >>> ((24 : Int32) &&& 31).toUInt32).toInt32).toInt8.toInt32)))] (.int (0 : Int32)) := Arv.set ar19 q19 sz19 nn19 hs19 gs19 (fits_nar_byte _) W20 0 rfl (Nat.le_of_ble_eq_true rfl)
    have z20 : n0 ≤ h20.size := Nat.le_trans z18 (Keep.of_wr W20).1
    have N20 := Fr.snoc X20 N18 ge2
    show own_Go p e below _ (T20.setTop (mkF m 89 #[.val (.int xa), .val (.int xb), .val (.int xc), .val (.int xd), .val (.int (0 : Int32)), .val (.ref b2)] []))
    refine own_by (fun _ => XS.aload X20.here hx rfl (hb hby at_89) rfl rfl) ?_
    show own_Go p e below _ (T20.setTop (mkF m 91 #[.val (.int xa), .val (.int xb), .val (.int xc), .val (.int xd), .val (.int (0 : Int32)), .val (.ref b2)] [(.ref b2)]))
    refine own_by (fun _ => XS.iload X20.here hx rfl (hb hby at_91) rfl) ?_
    show own_Go p e below _ (T20.setTop (mkF m 93 #[.val (.int xa), .val (.int xb), .val (.int xc), .val (.int xd), .val (.int (0 : Int32)), .val (.ref b2)] [(.int (0 : Int32)), (.ref b2)]))
    refine own_by (fun _ => XS.iconst X20.here hx rfl (hb hby at_93)) ?_
    show own_Go p e below _ (T20.setTop (mkF m 94 #[.val (.int xa), .val (.int xb), .val (.int xc), .val (.int xd), .val (.int (0 : Int32)), .val (.ref b2)] [(.int (1 : Int32)), (.int (0 : Int32)), (.ref b2)]))
    refine own_by (fun _ => XS.iadd X20.here hx rfl (hb hby at_94) rfl) ?_
    show own_Go p e below _ (T20.setTop (mkF m 95 #[.val (.int xa), .val (.int xb), .val (.int xc), .val (.int xd), .val (.int (0 : Int32)), .val (.ref b2)] [(.int (1 : Int32)), (.ref b2)]))
    refine own_by (fun _ => XS.iloadN X20.here hx rfl (hb hby at_95) rfl) ?_
    show own_Go p e below _ (T20.setTop (mkF m 96 #[.val (.int xa), .val (.int xb), .val (.int xc), .val (.int xd), .val (.int (0 : Int32)), .val (.ref b2)] [(.int xa), (.int (1 : Int32)), (.ref b2)]))
    refine own_by (fun _ => XS.bipush X20.here hx rfl (hb hby at_96)) ?_
    show own_Go p e below _ (T20.setTop (mkF m 98 #[.val (.int xa), .val (.int xb), .val (.int xc), .val (.int xd), .val (.int (0 : Int32)), .val (.ref b2)] [(.int (16 : Int32)), (.int xa), (.int (1 : Int32)), (.ref b2)]))
    refine own_by (fun _ => XS.iushr X20.here hx rfl (hb hby at_98) rfl) ?_
    show own_Go p e below _ (T20.setTop (mkF m 99 #[.val (.int xa), .val (.int xb), .val (.int xc), .val (.int xd), .val (.int (0 : Int32)), .val (.ref b2)] [(.int ((xa.toUInt32 >>> ((16 : Int32) &&& 31).toUInt32).toInt32)), (.int (1 : Int32)), (.ref b2)]))
    refine own_by (fun _ => XS.i2b X20.here hx rfl (hb hby at_99) rfl) ?_
    show own_Go p e below _ (T20.setTop (mkF m 100 #[.val (.int xa), .val (.int xb), .val (.int xc), .val (.int xd), .val (.int (0 : Int32)), .val (.ref b2)] [(.int (((xa.toUInt32 >>> ((16 : Int32) &&& 31).toUInt32).toInt32).toInt8.toInt32)), (.int (1 : Int32)), (.ref b2)]))
    obtain ⟨cl21, ar21, q21, sz21, nn21, hs21, gs21⟩ := id va20
    have hin21 : ¬ ((1 : Int32) < 0 ∨ cl21.slots.size ≤ ((1 : Int32)).toNatClampNeg) := inb_of sz21 ⟨by decide, by decide⟩
    obtain ⟨T22, h22, X22, e22, W22, st22⟩ := stB X20 hx hZ e20 ar21 (j := (1 : Int32)) hin21 (g := (mkF m 100 #[.val (.int xa), .val (.int xb), .val (.int xc), .val (.int xd), .val (.int (0 : Int32)), .val (.ref b2)] [(.int (((xa.toUInt32 >>> ((16 : Int32) &&& 31).toUInt32).toInt32).toInt8.toInt32)), (.int (1 : Int32)), (.ref b2)])) rfl rfl (hb hby at_100)
    refine own_by st22 ?_
    have va22 : Arv Z h22 b2 k2 .byte (8 : Int32) [(.int (nar .byte (((xa.toUInt32 >>> ((24 : Int32) &&& 31).toUInt32).toInt32).toInt8.toInt32))), (.int (nar .byte (((xa.toUInt32 >>> ((16 : Int32) &&& 31).toUInt32).toInt32).toInt8.toInt32))), (.int (nar .byte (((xc.toUInt32 >>> ((16 : Int32) &&& 31).toUInt32).toInt32).toInt8.toInt32))), (.int (nar .byte (((xc.toUInt32 >>> ((24 : Int32) &&& 31).toUInt32).toInt32).toInt8.toInt32))), (.int (nar .byte (xd.toInt8.toInt32))), (.int (nar .byte (((xd.toUInt32 >>> ((8 : Int32) &&& 31).toUInt32).toInt32).toInt8.toInt32))), (.int (nar .byte (((xd.toUInt32 >>> ((16 : Int32) &&& 31).toUInt32).toInt32).toInt8.toInt32))), (.int (nar .byte (((xd.toUInt32 >>> ((24 : Int32) &&& 31).toUInt32).toInt32).toInt8.toInt32)))] (.int (0 : Int32)) := Arv.set ar21 q21 sz21 nn21 hs21 gs21 (fits_nar_byte _) W22 1 rfl (Nat.le_of_ble_eq_true rfl)
    have z22 : n0 ≤ h22.size := Nat.le_trans z20 (Keep.of_wr W22).1
    have N22 := Fr.snoc X22 N20 ge2
    show own_Go p e below _ (T22.setTop (mkF m 101 #[.val (.int xa), .val (.int xb), .val (.int xc), .val (.int xd), .val (.int (0 : Int32)), .val (.ref b2)] []))
    refine own_by (fun _ => XS.aload X22.here hx rfl (hb hby at_101) rfl rfl) ?_
    show own_Go p e below _ (T22.setTop (mkF m 103 #[.val (.int xa), .val (.int xb), .val (.int xc), .val (.int xd), .val (.int (0 : Int32)), .val (.ref b2)] [(.ref b2)]))
    refine own_by (fun _ => XS.iload X22.here hx rfl (hb hby at_103) rfl) ?_
    show own_Go p e below _ (T22.setTop (mkF m 105 #[.val (.int xa), .val (.int xb), .val (.int xc), .val (.int xd), .val (.int (0 : Int32)), .val (.ref b2)] [(.int (0 : Int32)), (.ref b2)]))
    refine own_by (fun _ => XS.iconst X22.here hx rfl (hb hby at_105)) ?_
    show own_Go p e below _ (T22.setTop (mkF m 106 #[.val (.int xa), .val (.int xb), .val (.int xc), .val (.int xd), .val (.int (0 : Int32)), .val (.ref b2)] [(.int (2 : Int32)), (.int (0 : Int32)), (.ref b2)]))
    refine own_by (fun _ => XS.iadd X22.here hx rfl (hb hby at_106) rfl) ?_
    show own_Go p e below _ (T22.setTop (mkF m 107 #[.val (.int xa), .val (.int xb), .val (.int xc), .val (.int xd), .val (.int (0 : Int32)), .val (.ref b2)] [(.int (2 : Int32)), (.ref b2)]))
    refine own_by (fun _ => XS.iloadN X22.here hx rfl (hb hby at_107) rfl) ?_
    show own_Go p e below _ (T22.setTop (mkF m 108 #[.val (.int xa), .val (.int xb), .val (.int xc), .val (.int xd), .val (.int (0 : Int32)), .val (.ref b2)] [(.int xa), (.int (2 : Int32)), (.ref b2)]))
    refine own_by (fun _ => XS.bipush X22.here hx rfl (hb hby at_108)) ?_
    show own_Go p e below _ (T22.setTop (mkF m 110 #[.val (.int xa), .val (.int xb), .val (.int xc), .val (.int xd), .val (.int (0 : Int32)), .val (.ref b2)] [(.int (8 : Int32)), (.int xa), (.int (2 : Int32)), (.ref b2)]))
    refine own_by (fun _ => XS.iushr X22.here hx rfl (hb hby at_110) rfl) ?_
    show own_Go p e below _ (T22.setTop (mkF m 111 #[.val (.int xa), .val (.int xb), .val (.int xc), .val (.int xd), .val (.int (0 : Int32)), .val (.ref b2)] [(.int ((xa.toUInt32 >>> ((8 : Int32) &&& 31).toUInt32).toInt32)), (.int (2 : Int32)), (.ref b2)]))
    refine own_by (fun _ => XS.i2b X22.here hx rfl (hb hby at_111) rfl) ?_
    show own_Go p e below _ (T22.setTop (mkF m 112 #[.val (.int xa), .val (.int xb), .val (.int xc), .val (.int xd), .val (.int (0 : Int32)), .val (.ref b2)] [(.int (((xa.toUInt32 >>> ((8 : Int32) &&& 31).toUInt32).toInt32).toInt8.toInt32)), (.int (2 : Int32)), (.ref b2)]))
    obtain ⟨cl23, ar23, q23, sz23, nn23, hs23, gs23⟩ := id va22
    have hin23 : ¬ ((2 : Int32) < 0 ∨ cl23.slots.size ≤ ((2 : Int32)).toNatClampNeg) := inb_of sz23 ⟨by decide, by decide⟩
    obtain ⟨T24, h24, X24, e24, W24, st24⟩ := stB X22 hx hZ e22 ar23 (j := (2 : Int32)) hin23 (g := (mkF m 112 #[.val (.int xa), .val (.int xb), .val (.int xc), .val (.int xd), .val (.int (0 : Int32)), .val (.ref b2)] [(.int (((xa.toUInt32 >>> ((8 : Int32) &&& 31).toUInt32).toInt32).toInt8.toInt32)), (.int (2 : Int32)), (.ref b2)])) rfl rfl (hb hby at_112)
    refine own_by st24 ?_
    have va24 : Arv Z h24 b2 k2 .byte (8 : Int32) [(.int (nar .byte (((xa.toUInt32 >>> ((24 : Int32) &&& 31).toUInt32).toInt32).toInt8.toInt32))), (.int (nar .byte (((xa.toUInt32 >>> ((16 : Int32) &&& 31).toUInt32).toInt32).toInt8.toInt32))), (.int (nar .byte (((xa.toUInt32 >>> ((8 : Int32) &&& 31).toUInt32).toInt32).toInt8.toInt32))), (.int (nar .byte (((xc.toUInt32 >>> ((24 : Int32) &&& 31).toUInt32).toInt32).toInt8.toInt32))), (.int (nar .byte (xd.toInt8.toInt32))), (.int (nar .byte (((xd.toUInt32 >>> ((8 : Int32) &&& 31).toUInt32).toInt32).toInt8.toInt32))), (.int (nar .byte (((xd.toUInt32 >>> ((16 : Int32) &&& 31).toUInt32).toInt32).toInt8.toInt32))), (.int (nar .byte (((xd.toUInt32 >>> ((24 : Int32) &&& 31).toUInt32).toInt32).toInt8.toInt32)))] (.int (0 : Int32)) := Arv.set ar23 q23 sz23 nn23 hs23 gs23 (fits_nar_byte _) W24 2 rfl (Nat.le_of_ble_eq_true rfl)
    have z24 : n0 ≤ h24.size := Nat.le_trans z22 (Keep.of_wr W24).1
    have N24 := Fr.snoc X24 N22 ge2
    show own_Go p e below _ (T24.setTop (mkF m 113 #[.val (.int xa), .val (.int xb), .val (.int xc), .val (.int xd), .val (.int (0 : Int32)), .val (.ref b2)] []))
    refine own_by (fun _ => XS.aload X24.here hx rfl (hb hby at_113) rfl rfl) ?_
    show own_Go p e below _ (T24.setTop (mkF m 115 #[.val (.int xa), .val (.int xb), .val (.int xc), .val (.int xd), .val (.int (0 : Int32)), .val (.ref b2)] [(.ref b2)]))
    refine own_by (fun _ => XS.iload X24.here hx rfl (hb hby at_115) rfl) ?_
    show own_Go p e below _ (T24.setTop (mkF m 117 #[.val (.int xa), .val (.int xb), .val (.int xc), .val (.int xd), .val (.int (0 : Int32)), .val (.ref b2)] [(.int (0 : Int32)), (.ref b2)]))
    refine own_by (fun _ => XS.iconst X24.here hx rfl (hb hby at_117)) ?_
    show own_Go p e below _ (T24.setTop (mkF m 118 #[.val (.int xa), .val (.int xb), .val (.int xc), .val (.int xd), .val (.int (0 : Int32)), .val (.ref b2)] [(.int (3 : Int32)), (.int (0 : Int32)), (.ref b2)]))
    refine own_by (fun _ => XS.iadd X24.here hx rfl (hb hby at_118) rfl) ?_
    show own_Go p e below _ (T24.setTop (mkF m 119 #[.val (.int xa), .val (.int xb), .val (.int xc), .val (.int xd), .val (.int (0 : Int32)), .val (.ref b2)] [(.int (3 : Int32)), (.ref b2)]))
    refine own_by (fun _ => XS.iloadN X24.here hx rfl (hb hby at_119) rfl) ?_
    show own_Go p e below _ (T24.setTop (mkF m 120 #[.val (.int xa), .val (.int xb), .val (.int xc), .val (.int xd), .val (.int (0 : Int32)), .val (.ref b2)] [(.int xa), (.int (3 : Int32)), (.ref b2)]))
    refine own_by (fun _ => XS.i2b X24.here hx rfl (hb hby at_120) rfl) ?_
    show own_Go p e below _ (T24.setTop (mkF m 121 #[.val (.int xa), .val (.int xb), .val (.int xc), .val (.int xd), .val (.int (0 : Int32)), .val (.ref b2)] [(.int (xa.toInt8.toInt32)), (.int (3 : Int32)), (.ref b2)]))
    obtain ⟨cl25, ar25, q25, sz25, nn25, hs25, gs25⟩ := id va24
    have hin25 : ¬ ((3 : Int32) < 0 ∨ cl25.slots.size ≤ ((3 : Int32)).toNatClampNeg) := inb_of sz25 ⟨by decide, by decide⟩
    obtain ⟨T26, h26, X26, e26, W26, st26⟩ := stB X24 hx hZ e24 ar25 (j := (3 : Int32)) hin25 (g := (mkF m 121 #[.val (.int xa), .val (.int xb), .val (.int xc), .val (.int xd), .val (.int (0 : Int32)), .val (.ref b2)] [(.int (xa.toInt8.toInt32)), (.int (3 : Int32)), (.ref b2)])) rfl rfl (hb hby at_121)
    refine own_by st26 ?_
    have va26 : Arv Z h26 b2 k2 .byte (8 : Int32) [(.int (nar .byte (((xa.toUInt32 >>> ((24 : Int32) &&& 31).toUInt32).toInt32).toInt8.toInt32))), (.int (nar .byte (((xa.toUInt32 >>> ((16 : Int32) &&& 31).toUInt32).toInt32).toInt8.toInt32))), (.int (nar .byte (((xa.toUInt32 >>> ((8 : Int32) &&& 31).toUInt32).toInt32).toInt8.toInt32))), (.int (nar .byte (xa.toInt8.toInt32))), (.int (nar .byte (xd.toInt8.toInt32))), (.int (nar .byte (((xd.toUInt32 >>> ((8 : Int32) &&& 31).toUInt32).toInt32).toInt8.toInt32))), (.int (nar .byte (((xd.toUInt32 >>> ((16 : Int32) &&& 31).toUInt32).toInt32).toInt8.toInt32))), (.int (nar .byte (((xd.toUInt32 >>> ((24 : Int32) &&& 31).toUInt32).toInt32).toInt8.toInt32)))] (.int (0 : Int32)) := Arv.set ar25 q25 sz25 nn25 hs25 gs25 (fits_nar_byte _) W26 3 rfl (Nat.le_of_ble_eq_true rfl)
    have z26 : n0 ≤ h26.size := Nat.le_trans z24 (Keep.of_wr W26).1
    have N26 := Fr.snoc X26 N24 ge2
    show own_Go p e below _ (T26.setTop (mkF m 122 #[.val (.int xa), .val (.int xb), .val (.int xc), .val (.int xd), .val (.int (0 : Int32)), .val (.ref b2)] []))
    refine own_by (fun _ => XS.aload X26.here hx rfl (hb hby at_122) rfl rfl) ?_
    show own_Go p e below _ (T26.setTop (mkF m 124 #[.val (.int xa), .val (.int xb), .val (.int xc), .val (.int xd), .val (.int (0 : Int32)), .val (.ref b2)] [(.ref b2)]))
    refine own_by (fun _ => XS.iload X26.here hx rfl (hb hby at_124) rfl) ?_
    show own_Go p e below _ (T26.setTop (mkF m 126 #[.val (.int xa), .val (.int xb), .val (.int xc), .val (.int xd), .val (.int (0 : Int32)), .val (.ref b2)] [(.int (0 : Int32)), (.ref b2)]))
    obtain ⟨_, _, ⟨T27, L27, k27, n27⟩, -, X27, ⟨Lc27, hQ27, l27, y27, z27'⟩, st27⟩ := Jvm.LawKit.callS X26 hx (y := (⟨"com/example/mirrorline/mirrorline/store/RecordFormat", "intAt", "([BI)I"⟩ : MethodName)) hown (mvT hZ (hw _ (List.mem_of_getElem? (i := 1) rfl))) (mvT hZ (hw _ (List.mem_of_getElem? (i := 2) rfl))) (mvT hZ (hw _ (List.mem_of_getElem? (i := 3) rfl))) (mvT hZ (hw _ (List.mem_of_getElem? (i := 4) rfl))) (by decide) (backOf (W := 0) (own_rm1 l Z a0 hw [] b2 (0 : Int32) k2 [(nar .byte (((xa.toUInt32 >>> ((24 : Int32) &&& 31).toUInt32).toInt32).toInt8.toInt32)), (nar .byte (((xa.toUInt32 >>> ((16 : Int32) &&& 31).toUInt32).toInt32).toInt8.toInt32)), (nar .byte (((xa.toUInt32 >>> ((8 : Int32) &&& 31).toUInt32).toInt32).toInt8.toInt32)), (nar .byte (xa.toInt8.toInt32)), (nar .byte (xd.toInt8.toInt32)), (nar .byte (((xd.toUInt32 >>> ((8 : Int32) &&& 31).toUInt32).toInt32).toInt8.toInt32)), (nar .byte (((xd.toUInt32 >>> ((16 : Int32) &&& 31).toUInt32).toInt32).toInt8.toInt32)), (nar .byte (((xd.toUInt32 >>> ((24 : Int32) &&& 31).toUInt32).toInt32).toInt8.toInt32))] h26 n0 z26 va26 (by decide : ¬ ((0 : Int32) < (0 : Int32))) (by decide : (0 : Int32) < (5 : Int32))) hZ (hw _ (List.mem_of_getElem? (i := 4) rfl)) (hw _ (List.mem_of_getElem? (i := 3) rfl)) (by decide) (by decide)) (g := (mkF m 126 #[.val (.int xa), .val (.int xb), .val (.int xc), .val (.int xd), .val (.int (0 : Int32)), .val (.ref b2)] [(.int (0 : Int32)), (.ref b2)])) rfl (by rw [hml]; rfl) (argsL := [(.ref b2), (.int (0 : Int32))]) (rest := []) (lenOf own_pd0 rfl) rfl (by show 2 * 0 + _ ≤ _; exact Nat.le_of_eq rfl) (hb hby at_126) (fun _ _ => ⟨rfl, e26, (by decide : 1 + 0 ≤ _), (by decide : 8 + 0 ≤ _)⟩)
    dsimp only [Pt.U, Pt.locs, Pt.cells, Pt.slots] at X27 l27 y27 z27' st27 hQ27
    subst l27 y27 z27'
    obtain ⟨rfl, N27q, e27⟩ := hQ27
    have N27 := Fr.app N26 N27q
    refine own_by st27 ?_
    show own_Go p e below _ (T27.setTop (mkF m 129 #[.val (.int xa), .val (.int xb), .val (.int xc), .val (.int xd), .val (.int (0 : Int32)), .val (.ref b2)] [(.int (own_intAt (0 : Int32) [(nar .byte (((xa.toUInt32 >>> ((24 : Int32) &&& 31).toUInt32).toInt32).toInt8.toInt32)), (nar .byte (((xa.toUInt32 >>> ((16 : Int32) &&& 31).toUInt32).toInt32).toInt8.toInt32)), (nar .byte (((xa.toUInt32 >>> ((8 : Int32) &&& 31).toUInt32).toInt32).toInt8.toInt32)), (nar .byte (xa.toInt8.toInt32)), (nar .byte (xd.toInt8.toInt32)), (nar .byte (((xd.toUInt32 >>> ((8 : Int32) &&& 31).toUInt32).toInt32).toInt8.toInt32)), (nar .byte (((xd.toUInt32 >>> ((16 : Int32) &&& 31).toUInt32).toInt32).toInt8.toInt32)), (nar .byte (((xd.toUInt32 >>> ((24 : Int32) &&& 31).toUInt32).toInt32).toInt8.toInt32))]))]))
    refine own_by (fun _ => XS.iloadN X27.here hx rfl (hb hby at_129) rfl) ?_
    show own_Go p e below _ (T27.setTop (mkF m 130 #[.val (.int xa), .val (.int xb), .val (.int xc), .val (.int xd), .val (.int (0 : Int32)), .val (.ref b2)] [(.int xa), (.int (own_intAt (0 : Int32) [(nar .byte (((xa.toUInt32 >>> ((24 : Int32) &&& 31).toUInt32).toInt32).toInt8.toInt32)), (nar .byte (((xa.toUInt32 >>> ((16 : Int32) &&& 31).toUInt32).toInt32).toInt8.toInt32)), (nar .byte (((xa.toUInt32 >>> ((8 : Int32) &&& 31).toUInt32).toInt32).toInt8.toInt32)), (nar .byte (xa.toInt8.toInt32)), (nar .byte (xd.toInt8.toInt32)), (nar .byte (((xd.toUInt32 >>> ((8 : Int32) &&& 31).toUInt32).toInt32).toInt8.toInt32)), (nar .byte (((xd.toUInt32 >>> ((16 : Int32) &&& 31).toUInt32).toInt32).toInt8.toInt32)), (nar .byte (((xd.toUInt32 >>> ((24 : Int32) &&& 31).toUInt32).toInt32).toInt8.toInt32))]))]))
    suffices J28 : ∀ (T' : State) (v28_t0 : Int32), v28_t0 = (if (own_intAt (0 : Int32) [(nar .byte (((xa.toUInt32 >>> ((24 : Int32) &&& 31).toUInt32).toInt32).toInt8.toInt32)), (nar .byte (((xa.toUInt32 >>> ((16 : Int32) &&& 31).toUInt32).toInt32).toInt8.toInt32)), (nar .byte (((xa.toUInt32 >>> ((8 : Int32) &&& 31).toUInt32).toInt32).toInt8.toInt32)), (nar .byte (xa.toInt8.toInt32)), (nar .byte (xd.toInt8.toInt32)), (nar .byte (((xd.toUInt32 >>> ((8 : Int32) &&& 31).toUInt32).toInt32).toInt8.toInt32)), (nar .byte (((xd.toUInt32 >>> ((16 : Int32) &&& 31).toUInt32).toInt32).toInt8.toInt32)), (nar .byte (((xd.toUInt32 >>> ((24 : Int32) &&& 31).toUInt32).toInt32).toInt8.toInt32))]) = xa then (1 : Int32) else (0 : Int32)) → own_At p l e room_1 s m #[(.int xa), (.int xb), (.int xc), (.int xd)] below meth c n0 T' h26 1 8 → own_Go p e below (own_End s below (own_Q0 Z xa xb xc xd h0 n0) room_1.cells room_1.slots) (T'.setTop (mkF m 138 #[.val (.int xa), .val (.int xb), .val (.int xc), .val (.int xd), .val (.int (0 : Int32)), .val (.ref b2)] [(.int v28_t0)])) by
      by_cases hc130_29 : (own_intAt (0 : Int32) [(nar .byte (((xa.toUInt32 >>> ((24 : Int32) &&& 31).toUInt32).toInt32).toInt8.toInt32)), (nar .byte (((xa.toUInt32 >>> ((16 : Int32) &&& 31).toUInt32).toInt32).toInt8.toInt32)), (nar .byte (((xa.toUInt32 >>> ((8 : Int32) &&& 31).toUInt32).toInt32).toInt8.toInt32)), (nar .byte (xa.toInt8.toInt32)), (nar .byte (xd.toInt8.toInt32)), (nar .byte (((xd.toUInt32 >>> ((8 : Int32) &&& 31).toUInt32).toInt32).toInt8.toInt32)), (nar .byte (((xd.toUInt32 >>> ((16 : Int32) &&& 31).toUInt32).toInt32).toInt8.toInt32)), (nar .byte (((xd.toUInt32 >>> ((24 : Int32) &&& 31).toUInt32).toInt32).toInt8.toInt32))]) = xa
      ·
        skip
        refine own_by (fun _ => XS.icmpNo X27.here hx rfl (hb hby at_130) rfl (teq hc130_29).2) ?_
        show own_Go p e below _ (T27.setTop (mkF m 133 #[.val (.int xa), .val (.int xb), .val (.int xc), .val (.int xd), .val (.int (0 : Int32)), .val (.ref b2)] []))
        refine own_by (fun _ => XS.iconst X27.here hx rfl (hb hby at_133)) ?_
        show own_Go p e below _ (T27.setTop (mkF m 134 #[.val (.int xa), .val (.int xb), .val (.int xc), .val (.int xd), .val (.int (0 : Int32)), .val (.ref b2)] [(.int (1 : Int32))]))
        refine own_by (fun _ => XS.goto X27.here hx rfl (pc0 := 134) (pc' := 138) rfl (hb hby at_134) (by decide) (by decide)) ?_
        show own_Go p e below _ (T27.setTop (mkF m 138 #[.val (.int xa), .val (.int xb), .val (.int xc), .val (.int xd), .val (.int (0 : Int32)), .val (.ref b2)] [(.int (1 : Int32))]))
        exact J28 _ _ (by first | rfl | simp only [if_pos hc130_29]) ⟨_, X27, N27, e27⟩
      ·
        skip
        refine own_by (fun _ => XS.icmpYes X27.here hx rfl (pc0 := 130) (pc' := 137) rfl (hb hby at_130) rfl (feq hc130_29).2 (by decide) (by decide)) ?_
        show own_Go p e below _ (T27.setTop (mkF m 137 #[.val (.int xa), .val (.int xb), .val (.int xc), .val (.int xd), .val (.int (0 : Int32)), .val (.ref b2)] []))
        refine own_by (fun _ => XS.iconst X27.here hx rfl (hb hby at_137)) ?_
        show own_Go p e below _ (T27.setTop (mkF m 138 #[.val (.int xa), .val (.int xb), .val (.int xc), .val (.int xd), .val (.int (0 : Int32)), .val (.ref b2)] [(.int (0 : Int32))]))
        exact J28 _ _ (by first | rfl | simp only [if_neg hc130_29]) ⟨_, X27, N27, e27⟩
    intro T28 v28_t0 hv28_t0 ⟨locs28, X28, N28, e28⟩
    show own_Go p e below _ (T28.setTop (mkF m 138 #[.val (.int xa), .val (.int xb), .val (.int xc), .val (.int xd), .val (.int (0 : Int32)), .val (.ref b2)] [(.int v28_t0)]))
    exact own_retZ X28 hx hlk e28 (by rw [hv28_t0]; (repeat' split) <;> first | exact Or.inl rfl | exact Or.inr rfl) hret (hb hby at_138) (by decide) (by decide) ⟨(congrArg some (congrArg Value.int (by subst hv28_t0; have own_p := own_plain xa xb xc xd; simp only [own_law, if_pos hs1] at own_p; exact own_p : v28_t0 = (1 : Int32)))), N28⟩
  ·
    skip
    rw [hs1]
    show own_Go p e below _ (s₁.setTop (mkF m 5 #[.val (.int xa), .val (.int xb), .val (.int xc), .val (.int xd), .val (.int (1 : Int32)), .unset] []))
    refine own_by (fun _ => XS.bipush X0.here hx rfl (hb hby at_5)) ?_
    show own_Go p e below _ (s₁.setTop (mkF m 7 #[.val (.int xa), .val (.int xb), .val (.int xc), .val (.int xd), .val (.int (1 : Int32)), .unset] [(.int (8 : Int32))]))
    obtain ⟨T30, h30, k30, X30, e30, E30, A30, st30⟩ := newP X0 hx hZ (hw _ (List.mem_of_getElem? (i := 0) rfl)) e0 (g := (mkF m 7 #[.val (.int xa), .val (.int xb), .val (.int xc), .val (.int xd), .val (.int (1 : Int32)), .unset] [(.int (8 : Int32))])) rfl (hb hby at_7) rfl (by decide) (cap := 8) (by decide) (by decide) (by decide) (by decide)
    obtain ⟨b30, g30⟩ : ∃ z, z = h0.size := ⟨_, rfl⟩
    rw [← g30] at A30 st30
    refine own_by st30 ?_
    have ge30 : n0 ≤ b30 := Nat.le_trans Z0 (Nat.le_of_eq g30.symm)
    have z30 : n0 ≤ h30.size := Nat.le_trans Z0 E30.1
    have va30 : Arv Z h30 b30 k30 .byte (8 : Int32) [(.int (0 : Int32)), (.int (0 : Int32)), (.int (0 : Int32)), (.int (0 : Int32)), (.int (0 : Int32)), (.int (0 : Int32)), (.int (0 : Int32)), (.int (0 : Int32))] (.int (0 : Int32)) := (Arv.new A30 (by decide)).pad (pad_rep [] (.int (0 : Int32)) 8)
    show own_Go p e below _ (T30.setTop (mkF m 9 #[.val (.int xa), .val (.int xb), .val (.int xc), .val (.int xd), .val (.int (1 : Int32)), .unset] [(.ref b30)]))
    refine own_by (fun _ => XS.astore X30.here hx rfl (hb hby at_9) rfl rfl (l' := #[.val (.int xa), .val (.int xb), .val (.int xc), .val (.int xd), .val (.int (1 : Int32)), .val (.ref b30)]) rfl) ?_
    show own_Go p e below _ (T30.setTop (mkF m 11 #[.val (.int xa), .val (.int xb), .val (.int xc), .val (.int xd), .val (.int (1 : Int32)), .val (.ref b30)] []))
    refine own_by (fun _ => XS.aload X30.here hx rfl (hb hby at_11) rfl rfl) ?_
    show own_Go p e below _ (T30.setTop (mkF m 13 #[.val (.int xa), .val (.int xb), .val (.int xc), .val (.int xd), .val (.int (1 : Int32)), .val (.ref b30)] [(.ref b30)]))
    refine own_by (fun _ => XS.iconst X30.here hx rfl (hb hby at_13)) ?_
    show own_Go p e below _ (T30.setTop (mkF m 14 #[.val (.int xa), .val (.int xb), .val (.int xc), .val (.int xd), .val (.int (1 : Int32)), .val (.ref b30)] [(.int (0 : Int32)), (.ref b30)]))
    refine own_by (fun _ => XS.iloadN X30.here hx rfl (hb hby at_14) rfl) ?_
    show own_Go p e below _ (T30.setTop (mkF m 15 #[.val (.int xa), .val (.int xb), .val (.int xc), .val (.int xd), .val (.int (1 : Int32)), .val (.ref b30)] [(.int xc), (.int (0 : Int32)), (.ref b30)]))
    refine own_by (fun _ => XS.i2b X30.here hx rfl (hb hby at_15) rfl) ?_
    show own_Go p e below _ (T30.setTop (mkF m 16 #[.val (.int xa), .val (.int xb), .val (.int xc), .val (.int xd), .val (.int (1 : Int32)), .val (.ref b30)] [(.int (xc.toInt8.toInt32)), (.int (0 : Int32)), (.ref b30)]))
    obtain ⟨cl31, ar31, q31, sz31, nn31, hs31, gs31⟩ := id va30
    have hin31 : ¬ ((0 : Int32) < 0 ∨ cl31.slots.size ≤ ((0 : Int32)).toNatClampNeg) := inb_of sz31 ⟨by decide, by decide⟩
    obtain ⟨T32, h32, X32, e32, W32, st32⟩ := stB X30 hx hZ e30 ar31 (j := (0 : Int32)) hin31 (g := (mkF m 16 #[.val (.int xa), .val (.int xb), .val (.int xc), .val (.int xd), .val (.int (1 : Int32)), .val (.ref b30)] [(.int (xc.toInt8.toInt32)), (.int (0 : Int32)), (.ref b30)])) rfl rfl (hb hby at_16)
    refine own_by st32 ?_
    have va32 : Arv Z h32 b30 k30 .byte (8 : Int32) [(.int (nar .byte (xc.toInt8.toInt32))), (.int (0 : Int32)), (.int (0 : Int32)), (.int (0 : Int32)), (.int (0 : Int32)), (.int (0 : Int32)), (.int (0 : Int32)), (.int (0 : Int32))] (.int (0 : Int32)) := Arv.set ar31 q31 sz31 nn31 hs31 gs31 (fits_nar_byte _) W32 0 rfl (Nat.le_of_ble_eq_true rfl)
    have z32 : n0 ≤ h32.size := Nat.le_trans z30 (Keep.of_wr W32).1
    have N32 := Fr.snoc X32 N0 ge30
    show own_Go p e below _ (T32.setTop (mkF m 17 #[.val (.int xa), .val (.int xb), .val (.int xc), .val (.int xd), .val (.int (1 : Int32)), .val (.ref b30)] []))
    refine own_by (fun _ => XS.aload X32.here hx rfl (hb hby at_17) rfl rfl) ?_
    show own_Go p e below _ (T32.setTop (mkF m 19 #[.val (.int xa), .val (.int xb), .val (.int xc), .val (.int xd), .val (.int (1 : Int32)), .val (.ref b30)] [(.ref b30)]))
    refine own_by (fun _ => XS.iconst X32.here hx rfl (hb hby at_19)) ?_
    show own_Go p e below _ (T32.setTop (mkF m 20 #[.val (.int xa), .val (.int xb), .val (.int xc), .val (.int xd), .val (.int (1 : Int32)), .val (.ref b30)] [(.int (1 : Int32)), (.ref b30)]))
    refine own_by (fun _ => XS.iloadN X32.here hx rfl (hb hby at_20) rfl) ?_
    show own_Go p e below _ (T32.setTop (mkF m 21 #[.val (.int xa), .val (.int xb), .val (.int xc), .val (.int xd), .val (.int (1 : Int32)), .val (.ref b30)] [(.int xc), (.int (1 : Int32)), (.ref b30)]))
    refine own_by (fun _ => XS.bipush X32.here hx rfl (hb hby at_21)) ?_
    show own_Go p e below _ (T32.setTop (mkF m 23 #[.val (.int xa), .val (.int xb), .val (.int xc), .val (.int xd), .val (.int (1 : Int32)), .val (.ref b30)] [(.int (8 : Int32)), (.int xc), (.int (1 : Int32)), (.ref b30)]))
    refine own_by (fun _ => XS.iushr X32.here hx rfl (hb hby at_23) rfl) ?_
    show own_Go p e below _ (T32.setTop (mkF m 24 #[.val (.int xa), .val (.int xb), .val (.int xc), .val (.int xd), .val (.int (1 : Int32)), .val (.ref b30)] [(.int ((xc.toUInt32 >>> ((8 : Int32) &&& 31).toUInt32).toInt32)), (.int (1 : Int32)), (.ref b30)]))
    refine own_by (fun _ => XS.i2b X32.here hx rfl (hb hby at_24) rfl) ?_
    show own_Go p e below _ (T32.setTop (mkF m 25 #[.val (.int xa), .val (.int xb), .val (.int xc), .val (.int xd), .val (.int (1 : Int32)), .val (.ref b30)] [(.int (((xc.toUInt32 >>> ((8 : Int32) &&& 31).toUInt32).toInt32).toInt8.toInt32)), (.int (1 : Int32)), (.ref b30)]))
    obtain ⟨cl33, ar33, q33, sz33, nn33, hs33, gs33⟩ := id va32
    have hin33 : ¬ ((1 : Int32) < 0 ∨ cl33.slots.size ≤ ((1 : Int32)).toNatClampNeg) := inb_of sz33 ⟨by decide, by decide⟩
    obtain ⟨T34, h34, X34, e34, W34, st34⟩ := stB X32 hx hZ e32 ar33 (j := (1 : Int32)) hin33 (g := (mkF m 25 #[.val (.int xa), .val (.int xb), .val (.int xc), .val (.int xd), .val (.int (1 : Int32)), .val (.ref b30)] [(.int (((xc.toUInt32 >>> ((8 : Int32) &&& 31).toUInt32).toInt32).toInt8.toInt32)), (.int (1 : Int32)), (.ref b30)])) rfl rfl (hb hby at_25)
    refine own_by st34 ?_
    have va34 : Arv Z h34 b30 k30 .byte (8 : Int32) [(.int (nar .byte (xc.toInt8.toInt32))), (.int (nar .byte (((xc.toUInt32 >>> ((8 : Int32) &&& 31).toUInt32).toInt32).toInt8.toInt32))), (.int (0 : Int32)), (.int (0 : Int32)), (.int (0 : Int32)), (.int (0 : Int32)), (.int (0 : Int32)), (.int (0 : Int32))] (.int (0 : Int32)) := Arv.set ar33 q33 sz33 nn33 hs33 gs33 (fits_nar_byte _) W34 1 rfl (Nat.le_of_ble_eq_true rfl)
    have z34 : n0 ≤ h34.size := Nat.le_trans z32 (Keep.of_wr W34).1
    have N34 := Fr.snoc X34 N32 ge30
    show own_Go p e below _ (T34.setTop (mkF m 26 #[.val (.int xa), .val (.int xb), .val (.int xc), .val (.int xd), .val (.int (1 : Int32)), .val (.ref b30)] []))
    refine own_by (fun _ => XS.aload X34.here hx rfl (hb hby at_26) rfl rfl) ?_
    show own_Go p e below _ (T34.setTop (mkF m 28 #[.val (.int xa), .val (.int xb), .val (.int xc), .val (.int xd), .val (.int (1 : Int32)), .val (.ref b30)] [(.ref b30)]))
    refine own_by (fun _ => XS.iconst X34.here hx rfl (hb hby at_28)) ?_
    show own_Go p e below _ (T34.setTop (mkF m 29 #[.val (.int xa), .val (.int xb), .val (.int xc), .val (.int xd), .val (.int (1 : Int32)), .val (.ref b30)] [(.int (2 : Int32)), (.ref b30)]))
    refine own_by (fun _ => XS.iloadN X34.here hx rfl (hb hby at_29) rfl) ?_
    show own_Go p e below _ (T34.setTop (mkF m 30 #[.val (.int xa), .val (.int xb), .val (.int xc), .val (.int xd), .val (.int (1 : Int32)), .val (.ref b30)] [(.int xc), (.int (2 : Int32)), (.ref b30)]))
    refine own_by (fun _ => XS.bipush X34.here hx rfl (hb hby at_30)) ?_
    show own_Go p e below _ (T34.setTop (mkF m 32 #[.val (.int xa), .val (.int xb), .val (.int xc), .val (.int xd), .val (.int (1 : Int32)), .val (.ref b30)] [(.int (16 : Int32)), (.int xc), (.int (2 : Int32)), (.ref b30)]))
    refine own_by (fun _ => XS.iushr X34.here hx rfl (hb hby at_32) rfl) ?_
    show own_Go p e below _ (T34.setTop (mkF m 33 #[.val (.int xa), .val (.int xb), .val (.int xc), .val (.int xd), .val (.int (1 : Int32)), .val (.ref b30)] [(.int ((xc.toUInt32 >>> ((16 : Int32) &&& 31).toUInt32).toInt32)), (.int (2 : Int32)), (.ref b30)]))
    refine own_by (fun _ => XS.i2b X34.here hx rfl (hb hby at_33) rfl) ?_
    show own_Go p e below _ (T34.setTop (mkF m 34 #[.val (.int xa), .val (.int xb), .val (.int xc), .val (.int xd), .val (.int (1 : Int32)), .val (.ref b30)] [(.int (((xc.toUInt32 >>> ((16 : Int32) &&& 31).toUInt32).toInt32).toInt8.toInt32)), (.int (2 : Int32)), (.ref b30)]))
    obtain ⟨cl35, ar35, q35, sz35, nn35, hs35, gs35⟩ := id va34
    have hin35 : ¬ ((2 : Int32) < 0 ∨ cl35.slots.size ≤ ((2 : Int32)).toNatClampNeg) := inb_of sz35 ⟨by decide, by decide⟩
    obtain ⟨T36, h36, X36, e36, W36, st36⟩ := stB X34 hx hZ e34 ar35 (j := (2 : Int32)) hin35 (g := (mkF m 34 #[.val (.int xa), .val (.int xb), .val (.int xc), .val (.int xd), .val (.int (1 : Int32)), .val (.ref b30)] [(.int (((xc.toUInt32 >>> ((16 : Int32) &&& 31).toUInt32).toInt32).toInt8.toInt32)), (.int (2 : Int32)), (.ref b30)])) rfl rfl (hb hby at_34)
    refine own_by st36 ?_
    have va36 : Arv Z h36 b30 k30 .byte (8 : Int32) [(.int (nar .byte (xc.toInt8.toInt32))), (.int (nar .byte (((xc.toUInt32 >>> ((8 : Int32) &&& 31).toUInt32).toInt32).toInt8.toInt32))), (.int (nar .byte (((xc.toUInt32 >>> ((16 : Int32) &&& 31).toUInt32).toInt32).toInt8.toInt32))), (.int (0 : Int32)), (.int (0 : Int32)), (.int (0 : Int32)), (.int (0 : Int32)), (.int (0 : Int32))] (.int (0 : Int32)) := Arv.set ar35 q35 sz35 nn35 hs35 gs35 (fits_nar_byte _) W36 2 rfl (Nat.le_of_ble_eq_true rfl)
    have z36 : n0 ≤ h36.size := Nat.le_trans z34 (Keep.of_wr W36).1
    have N36 := Fr.snoc X36 N34 ge30
    show own_Go p e below _ (T36.setTop (mkF m 35 #[.val (.int xa), .val (.int xb), .val (.int xc), .val (.int xd), .val (.int (1 : Int32)), .val (.ref b30)] []))
    refine own_by (fun _ => XS.aload X36.here hx rfl (hb hby at_35) rfl rfl) ?_
    show own_Go p e below _ (T36.setTop (mkF m 37 #[.val (.int xa), .val (.int xb), .val (.int xc), .val (.int xd), .val (.int (1 : Int32)), .val (.ref b30)] [(.ref b30)]))
    refine own_by (fun _ => XS.iconst X36.here hx rfl (hb hby at_37)) ?_
    show own_Go p e below _ (T36.setTop (mkF m 38 #[.val (.int xa), .val (.int xb), .val (.int xc), .val (.int xd), .val (.int (1 : Int32)), .val (.ref b30)] [(.int (3 : Int32)), (.ref b30)]))
    refine own_by (fun _ => XS.iloadN X36.here hx rfl (hb hby at_38) rfl) ?_
    show own_Go p e below _ (T36.setTop (mkF m 39 #[.val (.int xa), .val (.int xb), .val (.int xc), .val (.int xd), .val (.int (1 : Int32)), .val (.ref b30)] [(.int xc), (.int (3 : Int32)), (.ref b30)]))
    refine own_by (fun _ => XS.bipush X36.here hx rfl (hb hby at_39)) ?_
    show own_Go p e below _ (T36.setTop (mkF m 41 #[.val (.int xa), .val (.int xb), .val (.int xc), .val (.int xd), .val (.int (1 : Int32)), .val (.ref b30)] [(.int (24 : Int32)), (.int xc), (.int (3 : Int32)), (.ref b30)]))
    refine own_by (fun _ => XS.iushr X36.here hx rfl (hb hby at_41) rfl) ?_
    show own_Go p e below _ (T36.setTop (mkF m 42 #[.val (.int xa), .val (.int xb), .val (.int xc), .val (.int xd), .val (.int (1 : Int32)), .val (.ref b30)] [(.int ((xc.toUInt32 >>> ((24 : Int32) &&& 31).toUInt32).toInt32)), (.int (3 : Int32)), (.ref b30)]))
    refine own_by (fun _ => XS.i2b X36.here hx rfl (hb hby at_42) rfl) ?_
    show own_Go p e below _ (T36.setTop (mkF m 43 #[.val (.int xa), .val (.int xb), .val (.int xc), .val (.int xd), .val (.int (1 : Int32)), .val (.ref b30)] [(.int (((xc.toUInt32 >>> ((24 : Int32) &&& 31).toUInt32).toInt32).toInt8.toInt32)), (.int (3 : Int32)), (.ref b30)]))
    obtain ⟨cl37, ar37, q37, sz37, nn37, hs37, gs37⟩ := id va36
    have hin37 : ¬ ((3 : Int32) < 0 ∨ cl37.slots.size ≤ ((3 : Int32)).toNatClampNeg) := inb_of sz37 ⟨by decide, by decide⟩
    obtain ⟨T38, h38, X38, e38, W38, st38⟩ := stB X36 hx hZ e36 ar37 (j := (3 : Int32)) hin37 (g := (mkF m 43 #[.val (.int xa), .val (.int xb), .val (.int xc), .val (.int xd), .val (.int (1 : Int32)), .val (.ref b30)] [(.int (((xc.toUInt32 >>> ((24 : Int32) &&& 31).toUInt32).toInt32).toInt8.toInt32)), (.int (3 : Int32)), (.ref b30)])) rfl rfl (hb hby at_43)
    refine own_by st38 ?_
    have va38 : Arv Z h38 b30 k30 .byte (8 : Int32) [(.int (nar .byte (xc.toInt8.toInt32))), (.int (nar .byte (((xc.toUInt32 >>> ((8 : Int32) &&& 31).toUInt32).toInt32).toInt8.toInt32))), (.int (nar .byte (((xc.toUInt32 >>> ((16 : Int32) &&& 31).toUInt32).toInt32).toInt8.toInt32))), (.int (nar .byte (((xc.toUInt32 >>> ((24 : Int32) &&& 31).toUInt32).toInt32).toInt8.toInt32))), (.int (0 : Int32)), (.int (0 : Int32)), (.int (0 : Int32)), (.int (0 : Int32))] (.int (0 : Int32)) := Arv.set ar37 q37 sz37 nn37 hs37 gs37 (fits_nar_byte _) W38 3 rfl (Nat.le_of_ble_eq_true rfl)
    have z38 : n0 ≤ h38.size := Nat.le_trans z36 (Keep.of_wr W38).1
    have N38 := Fr.snoc X38 N36 ge30
    show own_Go p e below _ (T38.setTop (mkF m 44 #[.val (.int xa), .val (.int xb), .val (.int xc), .val (.int xd), .val (.int (1 : Int32)), .val (.ref b30)] []))
    refine own_by (fun _ => XS.aload X38.here hx rfl (hb hby at_44) rfl rfl) ?_
    show own_Go p e below _ (T38.setTop (mkF m 46 #[.val (.int xa), .val (.int xb), .val (.int xc), .val (.int xd), .val (.int (1 : Int32)), .val (.ref b30)] [(.ref b30)]))
    refine own_by (fun _ => XS.iconst X38.here hx rfl (hb hby at_46)) ?_
    show own_Go p e below _ (T38.setTop (mkF m 47 #[.val (.int xa), .val (.int xb), .val (.int xc), .val (.int xd), .val (.int (1 : Int32)), .val (.ref b30)] [(.int (4 : Int32)), (.ref b30)]))
    refine own_by (fun _ => XS.iloadN X38.here hx rfl (hb hby at_47) rfl) ?_
    show own_Go p e below _ (T38.setTop (mkF m 48 #[.val (.int xa), .val (.int xb), .val (.int xc), .val (.int xd), .val (.int (1 : Int32)), .val (.ref b30)] [(.int xd), (.int (4 : Int32)), (.ref b30)]))
    refine own_by (fun _ => XS.i2b X38.here hx rfl (hb hby at_48) rfl) ?_
    show own_Go p e below _ (T38.setTop (mkF m 49 #[.val (.int xa), .val (.int xb), .val (.int xc), .val (.int xd), .val (.int (1 : Int32)), .val (.ref b30)] [(.int (xd.toInt8.toInt32)), (.int (4 : Int32)), (.ref b30)]))
    obtain ⟨cl39, ar39, q39, sz39, nn39, hs39, gs39⟩ := id va38
    have hin39 : ¬ ((4 : Int32) < 0 ∨ cl39.slots.size ≤ ((4 : Int32)).toNatClampNeg) := inb_of sz39 ⟨by decide, by decide⟩
    obtain ⟨T40, h40, X40, e40, W40, st40⟩ := stB X38 hx hZ e38 ar39 (j := (4 : Int32)) hin39 (g := (mkF m 49 #[.val (.int xa), .val (.int xb), .val (.int xc), .val (.int xd), .val (.int (1 : Int32)), .val (.ref b30)] [(.int (xd.toInt8.toInt32)), (.int (4 : Int32)), (.ref b30)])) rfl rfl (hb hby at_49)
    refine own_by st40 ?_
    have va40 : Arv Z h40 b30 k30 .byte (8 : Int32) [(.int (nar .byte (xc.toInt8.toInt32))), (.int (nar .byte (((xc.toUInt32 >>> ((8 : Int32) &&& 31).toUInt32).toInt32).toInt8.toInt32))), (.int (nar .byte (((xc.toUInt32 >>> ((16 : Int32) &&& 31).toUInt32).toInt32).toInt8.toInt32))), (.int (nar .byte (((xc.toUInt32 >>> ((24 : Int32) &&& 31).toUInt32).toInt32).toInt8.toInt32))), (.int (nar .byte (xd.toInt8.toInt32))), (.int (0 : Int32)), (.int (0 : Int32)), (.int (0 : Int32))] (.int (0 : Int32)) := Arv.set ar39 q39 sz39 nn39 hs39 gs39 (fits_nar_byte _) W40 4 rfl (Nat.le_of_ble_eq_true rfl)
    have z40 : n0 ≤ h40.size := Nat.le_trans z38 (Keep.of_wr W40).1
    have N40 := Fr.snoc X40 N38 ge30
    show own_Go p e below _ (T40.setTop (mkF m 50 #[.val (.int xa), .val (.int xb), .val (.int xc), .val (.int xd), .val (.int (1 : Int32)), .val (.ref b30)] []))
    refine own_by (fun _ => XS.aload X40.here hx rfl (hb hby at_50) rfl rfl) ?_
    show own_Go p e below _ (T40.setTop (mkF m 52 #[.val (.int xa), .val (.int xb), .val (.int xc), .val (.int xd), .val (.int (1 : Int32)), .val (.ref b30)] [(.ref b30)]))
    refine own_by (fun _ => XS.iconst X40.here hx rfl (hb hby at_52)) ?_
    show own_Go p e below _ (T40.setTop (mkF m 53 #[.val (.int xa), .val (.int xb), .val (.int xc), .val (.int xd), .val (.int (1 : Int32)), .val (.ref b30)] [(.int (5 : Int32)), (.ref b30)]))
    refine own_by (fun _ => XS.iloadN X40.here hx rfl (hb hby at_53) rfl) ?_
    show own_Go p e below _ (T40.setTop (mkF m 54 #[.val (.int xa), .val (.int xb), .val (.int xc), .val (.int xd), .val (.int (1 : Int32)), .val (.ref b30)] [(.int xd), (.int (5 : Int32)), (.ref b30)]))
    refine own_by (fun _ => XS.bipush X40.here hx rfl (hb hby at_54)) ?_
    show own_Go p e below _ (T40.setTop (mkF m 56 #[.val (.int xa), .val (.int xb), .val (.int xc), .val (.int xd), .val (.int (1 : Int32)), .val (.ref b30)] [(.int (8 : Int32)), (.int xd), (.int (5 : Int32)), (.ref b30)]))
    refine own_by (fun _ => XS.iushr X40.here hx rfl (hb hby at_56) rfl) ?_
    show own_Go p e below _ (T40.setTop (mkF m 57 #[.val (.int xa), .val (.int xb), .val (.int xc), .val (.int xd), .val (.int (1 : Int32)), .val (.ref b30)] [(.int ((xd.toUInt32 >>> ((8 : Int32) &&& 31).toUInt32).toInt32)), (.int (5 : Int32)), (.ref b30)]))
    refine own_by (fun _ => XS.i2b X40.here hx rfl (hb hby at_57) rfl) ?_
    show own_Go p e below _ (T40.setTop (mkF m 58 #[.val (.int xa), .val (.int xb), .val (.int xc), .val (.int xd), .val (.int (1 : Int32)), .val (.ref b30)] [(.int (((xd.toUInt32 >>> ((8 : Int32) &&& 31).toUInt32).toInt32).toInt8.toInt32)), (.int (5 : Int32)), (.ref b30)]))
    obtain ⟨cl41, ar41, q41, sz41, nn41, hs41, gs41⟩ := id va40
    have hin41 : ¬ ((5 : Int32) < 0 ∨ cl41.slots.size ≤ ((5 : Int32)).toNatClampNeg) := inb_of sz41 ⟨by decide, by decide⟩
    obtain ⟨T42, h42, X42, e42, W42, st42⟩ := stB X40 hx hZ e40 ar41 (j := (5 : Int32)) hin41 (g := (mkF m 58 #[.val (.int xa), .val (.int xb), .val (.int xc), .val (.int xd), .val (.int (1 : Int32)), .val (.ref b30)] [(.int (((xd.toUInt32 >>> ((8 : Int32) &&& 31).toUInt32).toInt32).toInt8.toInt32)), (.int (5 : Int32)), (.ref b30)])) rfl rfl (hb hby at_58)
    refine own_by st42 ?_
    have va42 : Arv Z h42 b30 k30 .byte (8 : Int32) [(.int (nar .byte (xc.toInt8.toInt32))), (.int (nar .byte (((xc.toUInt32 >>> ((8 : Int32) &&& 31).toUInt32).toInt32).toInt8.toInt32))), (.int (nar .byte (((xc.toUInt32 >>> ((16 : Int32) &&& 31).toUInt32).toInt32).toInt8.toInt32))), (.int (nar .byte (((xc.toUInt32 >>> ((24 : Int32) &&& 31).toUInt32).toInt32).toInt8.toInt32))), (.int (nar .byte (xd.toInt8.toInt32))), (.int (nar .byte (((xd.toUInt32 >>> ((8 : Int32) &&& 31).toUInt32).toInt32).toInt8.toInt32))), (.int (0 : Int32)), (.int (0 : Int32))] (.int (0 : Int32)) := Arv.set ar41 q41 sz41 nn41 hs41 gs41 (fits_nar_byte _) W42 5 rfl (Nat.le_of_ble_eq_true rfl)
    have z42 : n0 ≤ h42.size := Nat.le_trans z40 (Keep.of_wr W42).1
    have N42 := Fr.snoc X42 N40 ge30
    show own_Go p e below _ (T42.setTop (mkF m 59 #[.val (.int xa), .val (.int xb), .val (.int xc), .val (.int xd), .val (.int (1 : Int32)), .val (.ref b30)] []))
    refine own_by (fun _ => XS.aload X42.here hx rfl (hb hby at_59) rfl rfl) ?_
    show own_Go p e below _ (T42.setTop (mkF m 61 #[.val (.int xa), .val (.int xb), .val (.int xc), .val (.int xd), .val (.int (1 : Int32)), .val (.ref b30)] [(.ref b30)]))
    refine own_by (fun _ => XS.bipush X42.here hx rfl (hb hby at_61)) ?_
    show own_Go p e below _ (T42.setTop (mkF m 63 #[.val (.int xa), .val (.int xb), .val (.int xc), .val (.int xd), .val (.int (1 : Int32)), .val (.ref b30)] [(.int (6 : Int32)), (.ref b30)]))
    refine own_by (fun _ => XS.iloadN X42.here hx rfl (hb hby at_63) rfl) ?_
    show own_Go p e below _ (T42.setTop (mkF m 64 #[.val (.int xa), .val (.int xb), .val (.int xc), .val (.int xd), .val (.int (1 : Int32)), .val (.ref b30)] [(.int xd), (.int (6 : Int32)), (.ref b30)]))
    refine own_by (fun _ => XS.bipush X42.here hx rfl (hb hby at_64)) ?_
    show own_Go p e below _ (T42.setTop (mkF m 66 #[.val (.int xa), .val (.int xb), .val (.int xc), .val (.int xd), .val (.int (1 : Int32)), .val (.ref b30)] [(.int (16 : Int32)), (.int xd), (.int (6 : Int32)), (.ref b30)]))
    refine own_by (fun _ => XS.iushr X42.here hx rfl (hb hby at_66) rfl) ?_
    show own_Go p e below _ (T42.setTop (mkF m 67 #[.val (.int xa), .val (.int xb), .val (.int xc), .val (.int xd), .val (.int (1 : Int32)), .val (.ref b30)] [(.int ((xd.toUInt32 >>> ((16 : Int32) &&& 31).toUInt32).toInt32)), (.int (6 : Int32)), (.ref b30)]))
    refine own_by (fun _ => XS.i2b X42.here hx rfl (hb hby at_67) rfl) ?_
    show own_Go p e below _ (T42.setTop (mkF m 68 #[.val (.int xa), .val (.int xb), .val (.int xc), .val (.int xd), .val (.int (1 : Int32)), .val (.ref b30)] [(.int (((xd.toUInt32 >>> ((16 : Int32) &&& 31).toUInt32).toInt32).toInt8.toInt32)), (.int (6 : Int32)), (.ref b30)]))
    obtain ⟨cl43, ar43, q43, sz43, nn43, hs43, gs43⟩ := id va42
    have hin43 : ¬ ((6 : Int32) < 0 ∨ cl43.slots.size ≤ ((6 : Int32)).toNatClampNeg) := inb_of sz43 ⟨by decide, by decide⟩
    obtain ⟨T44, h44, X44, e44, W44, st44⟩ := stB X42 hx hZ e42 ar43 (j := (6 : Int32)) hin43 (g := (mkF m 68 #[.val (.int xa), .val (.int xb), .val (.int xc), .val (.int xd), .val (.int (1 : Int32)), .val (.ref b30)] [(.int (((xd.toUInt32 >>> ((16 : Int32) &&& 31).toUInt32).toInt32).toInt8.toInt32)), (.int (6 : Int32)), (.ref b30)])) rfl rfl (hb hby at_68)
    refine own_by st44 ?_
    have va44 : Arv Z h44 b30 k30 .byte (8 : Int32) [(.int (nar .byte (xc.toInt8.toInt32))), (.int (nar .byte (((xc.toUInt32 >>> ((8 : Int32) &&& 31).toUInt32).toInt32).toInt8.toInt32))), (.int (nar .byte (((xc.toUInt32 >>> ((16 : Int32) &&& 31).toUInt32).toInt32).toInt8.toInt32))), (.int (nar .byte (((xc.toUInt32 >>> ((24 : Int32) &&& 31).toUInt32).toInt32).toInt8.toInt32))), (.int (nar .byte (xd.toInt8.toInt32))), (.int (nar .byte (((xd.toUInt32 >>> ((8 : Int32) &&& 31).toUInt32).toInt32).toInt8.toInt32))), (.int (nar .byte (((xd.toUInt32 >>> ((16 : Int32) &&& 31).toUInt32).toInt32).toInt8.toInt32))), (.int (0 : Int32))] (.int (0 : Int32)) := Arv.set ar43 q43 sz43 nn43 hs43 gs43 (fits_nar_byte _) W44 6 rfl (Nat.le_of_ble_eq_true rfl)
    have z44 : n0 ≤ h44.size := Nat.le_trans z42 (Keep.of_wr W44).1
    have N44 := Fr.snoc X44 N42 ge30
    show own_Go p e below _ (T44.setTop (mkF m 69 #[.val (.int xa), .val (.int xb), .val (.int xc), .val (.int xd), .val (.int (1 : Int32)), .val (.ref b30)] []))
    refine own_by (fun _ => XS.aload X44.here hx rfl (hb hby at_69) rfl rfl) ?_
    show own_Go p e below _ (T44.setTop (mkF m 71 #[.val (.int xa), .val (.int xb), .val (.int xc), .val (.int xd), .val (.int (1 : Int32)), .val (.ref b30)] [(.ref b30)]))
    refine own_by (fun _ => XS.bipush X44.here hx rfl (hb hby at_71)) ?_
    show own_Go p e below _ (T44.setTop (mkF m 73 #[.val (.int xa), .val (.int xb), .val (.int xc), .val (.int xd), .val (.int (1 : Int32)), .val (.ref b30)] [(.int (7 : Int32)), (.ref b30)]))
    refine own_by (fun _ => XS.iloadN X44.here hx rfl (hb hby at_73) rfl) ?_
    show own_Go p e below _ (T44.setTop (mkF m 74 #[.val (.int xa), .val (.int xb), .val (.int xc), .val (.int xd), .val (.int (1 : Int32)), .val (.ref b30)] [(.int xd), (.int (7 : Int32)), (.ref b30)]))
    refine own_by (fun _ => XS.bipush X44.here hx rfl (hb hby at_74)) ?_
    show own_Go p e below _ (T44.setTop (mkF m 76 #[.val (.int xa), .val (.int xb), .val (.int xc), .val (.int xd), .val (.int (1 : Int32)), .val (.ref b30)] [(.int (24 : Int32)), (.int xd), (.int (7 : Int32)), (.ref b30)]))
    refine own_by (fun _ => XS.iushr X44.here hx rfl (hb hby at_76) rfl) ?_
    show own_Go p e below _ (T44.setTop (mkF m 77 #[.val (.int xa), .val (.int xb), .val (.int xc), .val (.int xd), .val (.int (1 : Int32)), .val (.ref b30)] [(.int ((xd.toUInt32 >>> ((24 : Int32) &&& 31).toUInt32).toInt32)), (.int (7 : Int32)), (.ref b30)]))
    refine own_by (fun _ => XS.i2b X44.here hx rfl (hb hby at_77) rfl) ?_
    show own_Go p e below _ (T44.setTop (mkF m 78 #[.val (.int xa), .val (.int xb), .val (.int xc), .val (.int xd), .val (.int (1 : Int32)), .val (.ref b30)] [(.int (((xd.toUInt32 >>> ((24 : Int32) &&& 31).toUInt32).toInt32).toInt8.toInt32)), (.int (7 : Int32)), (.ref b30)]))
    obtain ⟨cl45, ar45, q45, sz45, nn45, hs45, gs45⟩ := id va44
    have hin45 : ¬ ((7 : Int32) < 0 ∨ cl45.slots.size ≤ ((7 : Int32)).toNatClampNeg) := inb_of sz45 ⟨by decide, by decide⟩
    obtain ⟨T46, h46, X46, e46, W46, st46⟩ := stB X44 hx hZ e44 ar45 (j := (7 : Int32)) hin45 (g := (mkF m 78 #[.val (.int xa), .val (.int xb), .val (.int xc), .val (.int xd), .val (.int (1 : Int32)), .val (.ref b30)] [(.int (((xd.toUInt32 >>> ((24 : Int32) &&& 31).toUInt32).toInt32).toInt8.toInt32)), (.int (7 : Int32)), (.ref b30)])) rfl rfl (hb hby at_78)
    refine own_by st46 ?_
    have va46 : Arv Z h46 b30 k30 .byte (8 : Int32) [(.int (nar .byte (xc.toInt8.toInt32))), (.int (nar .byte (((xc.toUInt32 >>> ((8 : Int32) &&& 31).toUInt32).toInt32).toInt8.toInt32))), (.int (nar .byte (((xc.toUInt32 >>> ((16 : Int32) &&& 31).toUInt32).toInt32).toInt8.toInt32))), (.int (nar .byte (((xc.toUInt32 >>> ((24 : Int32) &&& 31).toUInt32).toInt32).toInt8.toInt32))), (.int (nar .byte (xd.toInt8.toInt32))), (.int (nar .byte (((xd.toUInt32 >>> ((8 : Int32) &&& 31).toUInt32).toInt32).toInt8.toInt32))), (.int (nar .byte (((xd.toUInt32 >>> ((16 : Int32) &&& 31).toUInt32).toInt32).toInt8.toInt32))), (.int (nar .byte (((xd.toUInt32 >>> ((24 : Int32) &&& 31).toUInt32).toInt32).toInt8.toInt32)))] (.int (0 : Int32)) := Arv.set ar45 q45 sz45 nn45 hs45 gs45 (fits_nar_byte _) W46 7 rfl (Nat.le_of_ble_eq_true rfl)
    have z46 : n0 ≤ h46.size := Nat.le_trans z44 (Keep.of_wr W46).1
    have N46 := Fr.snoc X46 N44 ge30
    show own_Go p e below _ (T46.setTop (mkF m 79 #[.val (.int xa), .val (.int xb), .val (.int xc), .val (.int xd), .val (.int (1 : Int32)), .val (.ref b30)] []))
    refine own_by (fun _ => XS.aload X46.here hx rfl (hb hby at_79) rfl rfl) ?_
    show own_Go p e below _ (T46.setTop (mkF m 81 #[.val (.int xa), .val (.int xb), .val (.int xc), .val (.int xd), .val (.int (1 : Int32)), .val (.ref b30)] [(.ref b30)]))
    refine own_by (fun _ => XS.iload X46.here hx rfl (hb hby at_81) rfl) ?_
    show own_Go p e below _ (T46.setTop (mkF m 83 #[.val (.int xa), .val (.int xb), .val (.int xc), .val (.int xd), .val (.int (1 : Int32)), .val (.ref b30)] [(.int (1 : Int32)), (.ref b30)]))
    refine own_by (fun _ => XS.iloadN X46.here hx rfl (hb hby at_83) rfl) ?_
    show own_Go p e below _ (T46.setTop (mkF m 84 #[.val (.int xa), .val (.int xb), .val (.int xc), .val (.int xd), .val (.int (1 : Int32)), .val (.ref b30)] [(.int xa), (.int (1 : Int32)), (.ref b30)]))
    refine own_by (fun _ => XS.bipush X46.here hx rfl (hb hby at_84)) ?_
    show own_Go p e below _ (T46.setTop (mkF m 86 #[.val (.int xa), .val (.int xb), .val (.int xc), .val (.int xd), .val (.int (1 : Int32)), .val (.ref b30)] [(.int (24 : Int32)), (.int xa), (.int (1 : Int32)), (.ref b30)]))
    refine own_by (fun _ => XS.iushr X46.here hx rfl (hb hby at_86) rfl) ?_
    show own_Go p e below _ (T46.setTop (mkF m 87 #[.val (.int xa), .val (.int xb), .val (.int xc), .val (.int xd), .val (.int (1 : Int32)), .val (.ref b30)] [(.int ((xa.toUInt32 >>> ((24 : Int32) &&& 31).toUInt32).toInt32)), (.int (1 : Int32)), (.ref b30)]))
    refine own_by (fun _ => XS.i2b X46.here hx rfl (hb hby at_87) rfl) ?_
    show own_Go p e below _ (T46.setTop (mkF m 88 #[.val (.int xa), .val (.int xb), .val (.int xc), .val (.int xd), .val (.int (1 : Int32)), .val (.ref b30)] [(.int (((xa.toUInt32 >>> ((24 : Int32) &&& 31).toUInt32).toInt32).toInt8.toInt32)), (.int (1 : Int32)), (.ref b30)]))
    obtain ⟨cl47, ar47, q47, sz47, nn47, hs47, gs47⟩ := id va46
    have hin47 : ¬ ((1 : Int32) < 0 ∨ cl47.slots.size ≤ ((1 : Int32)).toNatClampNeg) := inb_of sz47 ⟨by decide, by decide⟩
    obtain ⟨T48, h48, X48, e48, W48, st48⟩ := stB X46 hx hZ e46 ar47 (j := (1 : Int32)) hin47 (g := (mkF m 88 #[.val (.int xa), .val (.int xb), .val (.int xc), .val (.int xd), .val (.int (1 : Int32)), .val (.ref b30)] [(.int (((xa.toUInt32 >>> ((24 : Int32) &&& 31).toUInt32).toInt32).toInt8.toInt32)), (.int (1 : Int32)), (.ref b30)])) rfl rfl (hb hby at_88)
    refine own_by st48 ?_
    have va48 : Arv Z h48 b30 k30 .byte (8 : Int32) [(.int (nar .byte (xc.toInt8.toInt32))), (.int (nar .byte (((xa.toUInt32 >>> ((24 : Int32) &&& 31).toUInt32).toInt32).toInt8.toInt32))), (.int (nar .byte (((xc.toUInt32 >>> ((16 : Int32) &&& 31).toUInt32).toInt32).toInt8.toInt32))), (.int (nar .byte (((xc.toUInt32 >>> ((24 : Int32) &&& 31).toUInt32).toInt32).toInt8.toInt32))), (.int (nar .byte (xd.toInt8.toInt32))), (.int (nar .byte (((xd.toUInt32 >>> ((8 : Int32) &&& 31).toUInt32).toInt32).toInt8.toInt32))), (.int (nar .byte (((xd.toUInt32 >>> ((16 : Int32) &&& 31).toUInt32).toInt32).toInt8.toInt32))), (.int (nar .byte (((xd.toUInt32 >>> ((24 : Int32) &&& 31).toUInt32).toInt32).toInt8.toInt32)))] (.int (0 : Int32)) := Arv.set ar47 q47 sz47 nn47 hs47 gs47 (fits_nar_byte _) W48 1 rfl (Nat.le_of_ble_eq_true rfl)
    have z48 : n0 ≤ h48.size := Nat.le_trans z46 (Keep.of_wr W48).1
    have N48 := Fr.snoc X48 N46 ge30
    show own_Go p e below _ (T48.setTop (mkF m 89 #[.val (.int xa), .val (.int xb), .val (.int xc), .val (.int xd), .val (.int (1 : Int32)), .val (.ref b30)] []))
    refine own_by (fun _ => XS.aload X48.here hx rfl (hb hby at_89) rfl rfl) ?_
    show own_Go p e below _ (T48.setTop (mkF m 91 #[.val (.int xa), .val (.int xb), .val (.int xc), .val (.int xd), .val (.int (1 : Int32)), .val (.ref b30)] [(.ref b30)]))
    refine own_by (fun _ => XS.iload X48.here hx rfl (hb hby at_91) rfl) ?_
    show own_Go p e below _ (T48.setTop (mkF m 93 #[.val (.int xa), .val (.int xb), .val (.int xc), .val (.int xd), .val (.int (1 : Int32)), .val (.ref b30)] [(.int (1 : Int32)), (.ref b30)]))
    refine own_by (fun _ => XS.iconst X48.here hx rfl (hb hby at_93)) ?_
    show own_Go p e below _ (T48.setTop (mkF m 94 #[.val (.int xa), .val (.int xb), .val (.int xc), .val (.int xd), .val (.int (1 : Int32)), .val (.ref b30)] [(.int (1 : Int32)), (.int (1 : Int32)), (.ref b30)]))
    refine own_by (fun _ => XS.iadd X48.here hx rfl (hb hby at_94) rfl) ?_
    show own_Go p e below _ (T48.setTop (mkF m 95 #[.val (.int xa), .val (.int xb), .val (.int xc), .val (.int xd), .val (.int (1 : Int32)), .val (.ref b30)] [(.int (2 : Int32)), (.ref b30)]))
    refine own_by (fun _ => XS.iloadN X48.here hx rfl (hb hby at_95) rfl) ?_
    show own_Go p e below _ (T48.setTop (mkF m 96 #[.val (.int xa), .val (.int xb), .val (.int xc), .val (.int xd), .val (.int (1 : Int32)), .val (.ref b30)] [(.int xa), (.int (2 : Int32)), (.ref b30)]))
    refine own_by (fun _ => XS.bipush X48.here hx rfl (hb hby at_96)) ?_
    show own_Go p e below _ (T48.setTop (mkF m 98 #[.val (.int xa), .val (.int xb), .val (.int xc), .val (.int xd), .val (.int (1 : Int32)), .val (.ref b30)] [(.int (16 : Int32)), (.int xa), (.int (2 : Int32)), (.ref b30)]))
    refine own_by (fun _ => XS.iushr X48.here hx rfl (hb hby at_98) rfl) ?_
    show own_Go p e below _ (T48.setTop (mkF m 99 #[.val (.int xa), .val (.int xb), .val (.int xc), .val (.int xd), .val (.int (1 : Int32)), .val (.ref b30)] [(.int ((xa.toUInt32 >>> ((16 : Int32) &&& 31).toUInt32).toInt32)), (.int (2 : Int32)), (.ref b30)]))
    refine own_by (fun _ => XS.i2b X48.here hx rfl (hb hby at_99) rfl) ?_
    show own_Go p e below _ (T48.setTop (mkF m 100 #[.val (.int xa), .val (.int xb), .val (.int xc), .val (.int xd), .val (.int (1 : Int32)), .val (.ref b30)] [(.int (((xa.toUInt32 >>> ((16 : Int32) &&& 31).toUInt32).toInt32).toInt8.toInt32)), (.int (2 : Int32)), (.ref b30)]))
    obtain ⟨cl49, ar49, q49, sz49, nn49, hs49, gs49⟩ := id va48
    have hin49 : ¬ ((2 : Int32) < 0 ∨ cl49.slots.size ≤ ((2 : Int32)).toNatClampNeg) := inb_of sz49 ⟨by decide, by decide⟩
    obtain ⟨T50, h50, X50, e50, W50, st50⟩ := stB X48 hx hZ e48 ar49 (j := (2 : Int32)) hin49 (g := (mkF m 100 #[.val (.int xa), .val (.int xb), .val (.int xc), .val (.int xd), .val (.int (1 : Int32)), .val (.ref b30)] [(.int (((xa.toUInt32 >>> ((16 : Int32) &&& 31).toUInt32).toInt32).toInt8.toInt32)), (.int (2 : Int32)), (.ref b30)])) rfl rfl (hb hby at_100)
    refine own_by st50 ?_
    have va50 : Arv Z h50 b30 k30 .byte (8 : Int32) [(.int (nar .byte (xc.toInt8.toInt32))), (.int (nar .byte (((xa.toUInt32 >>> ((24 : Int32) &&& 31).toUInt32).toInt32).toInt8.toInt32))), (.int (nar .byte (((xa.toUInt32 >>> ((16 : Int32) &&& 31).toUInt32).toInt32).toInt8.toInt32))), (.int (nar .byte (((xc.toUInt32 >>> ((24 : Int32) &&& 31).toUInt32).toInt32).toInt8.toInt32))), (.int (nar .byte (xd.toInt8.toInt32))), (.int (nar .byte (((xd.toUInt32 >>> ((8 : Int32) &&& 31).toUInt32).toInt32).toInt8.toInt32))), (.int (nar .byte (((xd.toUInt32 >>> ((16 : Int32) &&& 31).toUInt32).toInt32).toInt8.toInt32))), (.int (nar .byte (((xd.toUInt32 >>> ((24 : Int32) &&& 31).toUInt32).toInt32).toInt8.toInt32)))] (.int (0 : Int32)) := Arv.set ar49 q49 sz49 nn49 hs49 gs49 (fits_nar_byte _) W50 2 rfl (Nat.le_of_ble_eq_true rfl)
    have z50 : n0 ≤ h50.size := Nat.le_trans z48 (Keep.of_wr W50).1
    have N50 := Fr.snoc X50 N48 ge30
    show own_Go p e below _ (T50.setTop (mkF m 101 #[.val (.int xa), .val (.int xb), .val (.int xc), .val (.int xd), .val (.int (1 : Int32)), .val (.ref b30)] []))
    refine own_by (fun _ => XS.aload X50.here hx rfl (hb hby at_101) rfl rfl) ?_
    show own_Go p e below _ (T50.setTop (mkF m 103 #[.val (.int xa), .val (.int xb), .val (.int xc), .val (.int xd), .val (.int (1 : Int32)), .val (.ref b30)] [(.ref b30)]))
    refine own_by (fun _ => XS.iload X50.here hx rfl (hb hby at_103) rfl) ?_
    show own_Go p e below _ (T50.setTop (mkF m 105 #[.val (.int xa), .val (.int xb), .val (.int xc), .val (.int xd), .val (.int (1 : Int32)), .val (.ref b30)] [(.int (1 : Int32)), (.ref b30)]))
    refine own_by (fun _ => XS.iconst X50.here hx rfl (hb hby at_105)) ?_
    show own_Go p e below _ (T50.setTop (mkF m 106 #[.val (.int xa), .val (.int xb), .val (.int xc), .val (.int xd), .val (.int (1 : Int32)), .val (.ref b30)] [(.int (2 : Int32)), (.int (1 : Int32)), (.ref b30)]))
    refine own_by (fun _ => XS.iadd X50.here hx rfl (hb hby at_106) rfl) ?_
    show own_Go p e below _ (T50.setTop (mkF m 107 #[.val (.int xa), .val (.int xb), .val (.int xc), .val (.int xd), .val (.int (1 : Int32)), .val (.ref b30)] [(.int (3 : Int32)), (.ref b30)]))
    refine own_by (fun _ => XS.iloadN X50.here hx rfl (hb hby at_107) rfl) ?_
    show own_Go p e below _ (T50.setTop (mkF m 108 #[.val (.int xa), .val (.int xb), .val (.int xc), .val (.int xd), .val (.int (1 : Int32)), .val (.ref b30)] [(.int xa), (.int (3 : Int32)), (.ref b30)]))
    refine own_by (fun _ => XS.bipush X50.here hx rfl (hb hby at_108)) ?_
    show own_Go p e below _ (T50.setTop (mkF m 110 #[.val (.int xa), .val (.int xb), .val (.int xc), .val (.int xd), .val (.int (1 : Int32)), .val (.ref b30)] [(.int (8 : Int32)), (.int xa), (.int (3 : Int32)), (.ref b30)]))
    refine own_by (fun _ => XS.iushr X50.here hx rfl (hb hby at_110) rfl) ?_
    show own_Go p e below _ (T50.setTop (mkF m 111 #[.val (.int xa), .val (.int xb), .val (.int xc), .val (.int xd), .val (.int (1 : Int32)), .val (.ref b30)] [(.int ((xa.toUInt32 >>> ((8 : Int32) &&& 31).toUInt32).toInt32)), (.int (3 : Int32)), (.ref b30)]))
    refine own_by (fun _ => XS.i2b X50.here hx rfl (hb hby at_111) rfl) ?_
    show own_Go p e below _ (T50.setTop (mkF m 112 #[.val (.int xa), .val (.int xb), .val (.int xc), .val (.int xd), .val (.int (1 : Int32)), .val (.ref b30)] [(.int (((xa.toUInt32 >>> ((8 : Int32) &&& 31).toUInt32).toInt32).toInt8.toInt32)), (.int (3 : Int32)), (.ref b30)]))
    obtain ⟨cl51, ar51, q51, sz51, nn51, hs51, gs51⟩ := id va50
    have hin51 : ¬ ((3 : Int32) < 0 ∨ cl51.slots.size ≤ ((3 : Int32)).toNatClampNeg) := inb_of sz51 ⟨by decide, by decide⟩
    obtain ⟨T52, h52, X52, e52, W52, st52⟩ := stB X50 hx hZ e50 ar51 (j := (3 : Int32)) hin51 (g := (mkF m 112 #[.val (.int xa), .val (.int xb), .val (.int xc), .val (.int xd), .val (.int (1 : Int32)), .val (.ref b30)] [(.int (((xa.toUInt32 >>> ((8 : Int32) &&& 31).toUInt32).toInt32).toInt8.toInt32)), (.int (3 : Int32)), (.ref b30)])) rfl rfl (hb hby at_112)
    refine own_by st52 ?_
    have va52 : Arv Z h52 b30 k30 .byte (8 : Int32) [(.int (nar .byte (xc.toInt8.toInt32))), (.int (nar .byte (((xa.toUInt32 >>> ((24 : Int32) &&& 31).toUInt32).toInt32).toInt8.toInt32))), (.int (nar .byte (((xa.toUInt32 >>> ((16 : Int32) &&& 31).toUInt32).toInt32).toInt8.toInt32))), (.int (nar .byte (((xa.toUInt32 >>> ((8 : Int32) &&& 31).toUInt32).toInt32).toInt8.toInt32))), (.int (nar .byte (xd.toInt8.toInt32))), (.int (nar .byte (((xd.toUInt32 >>> ((8 : Int32) &&& 31).toUInt32).toInt32).toInt8.toInt32))), (.int (nar .byte (((xd.toUInt32 >>> ((16 : Int32) &&& 31).toUInt32).toInt32).toInt8.toInt32))), (.int (nar .byte (((xd.toUInt32 >>> ((24 : Int32) &&& 31).toUInt32).toInt32).toInt8.toInt32)))] (.int (0 : Int32)) := Arv.set ar51 q51 sz51 nn51 hs51 gs51 (fits_nar_byte _) W52 3 rfl (Nat.le_of_ble_eq_true rfl)
    have z52 : n0 ≤ h52.size := Nat.le_trans z50 (Keep.of_wr W52).1
    have N52 := Fr.snoc X52 N50 ge30
    show own_Go p e below _ (T52.setTop (mkF m 113 #[.val (.int xa), .val (.int xb), .val (.int xc), .val (.int xd), .val (.int (1 : Int32)), .val (.ref b30)] []))
    refine own_by (fun _ => XS.aload X52.here hx rfl (hb hby at_113) rfl rfl) ?_
    show own_Go p e below _ (T52.setTop (mkF m 115 #[.val (.int xa), .val (.int xb), .val (.int xc), .val (.int xd), .val (.int (1 : Int32)), .val (.ref b30)] [(.ref b30)]))
    refine own_by (fun _ => XS.iload X52.here hx rfl (hb hby at_115) rfl) ?_
    show own_Go p e below _ (T52.setTop (mkF m 117 #[.val (.int xa), .val (.int xb), .val (.int xc), .val (.int xd), .val (.int (1 : Int32)), .val (.ref b30)] [(.int (1 : Int32)), (.ref b30)]))
    refine own_by (fun _ => XS.iconst X52.here hx rfl (hb hby at_117)) ?_
    show own_Go p e below _ (T52.setTop (mkF m 118 #[.val (.int xa), .val (.int xb), .val (.int xc), .val (.int xd), .val (.int (1 : Int32)), .val (.ref b30)] [(.int (3 : Int32)), (.int (1 : Int32)), (.ref b30)]))
    refine own_by (fun _ => XS.iadd X52.here hx rfl (hb hby at_118) rfl) ?_
    show own_Go p e below _ (T52.setTop (mkF m 119 #[.val (.int xa), .val (.int xb), .val (.int xc), .val (.int xd), .val (.int (1 : Int32)), .val (.ref b30)] [(.int (4 : Int32)), (.ref b30)]))
    refine own_by (fun _ => XS.iloadN X52.here hx rfl (hb hby at_119) rfl) ?_
    show own_Go p e below _ (T52.setTop (mkF m 120 #[.val (.int xa), .val (.int xb), .val (.int xc), .val (.int xd), .val (.int (1 : Int32)), .val (.ref b30)] [(.int xa), (.int (4 : Int32)), (.ref b30)]))
    refine own_by (fun _ => XS.i2b X52.here hx rfl (hb hby at_120) rfl) ?_
    show own_Go p e below _ (T52.setTop (mkF m 121 #[.val (.int xa), .val (.int xb), .val (.int xc), .val (.int xd), .val (.int (1 : Int32)), .val (.ref b30)] [(.int (xa.toInt8.toInt32)), (.int (4 : Int32)), (.ref b30)]))
    obtain ⟨cl53, ar53, q53, sz53, nn53, hs53, gs53⟩ := id va52
    have hin53 : ¬ ((4 : Int32) < 0 ∨ cl53.slots.size ≤ ((4 : Int32)).toNatClampNeg) := inb_of sz53 ⟨by decide, by decide⟩
    obtain ⟨T54, h54, X54, e54, W54, st54⟩ := stB X52 hx hZ e52 ar53 (j := (4 : Int32)) hin53 (g := (mkF m 121 #[.val (.int xa), .val (.int xb), .val (.int xc), .val (.int xd), .val (.int (1 : Int32)), .val (.ref b30)] [(.int (xa.toInt8.toInt32)), (.int (4 : Int32)), (.ref b30)])) rfl rfl (hb hby at_121)
    refine own_by st54 ?_
    have va54 : Arv Z h54 b30 k30 .byte (8 : Int32) [(.int (nar .byte (xc.toInt8.toInt32))), (.int (nar .byte (((xa.toUInt32 >>> ((24 : Int32) &&& 31).toUInt32).toInt32).toInt8.toInt32))), (.int (nar .byte (((xa.toUInt32 >>> ((16 : Int32) &&& 31).toUInt32).toInt32).toInt8.toInt32))), (.int (nar .byte (((xa.toUInt32 >>> ((8 : Int32) &&& 31).toUInt32).toInt32).toInt8.toInt32))), (.int (nar .byte (xa.toInt8.toInt32))), (.int (nar .byte (((xd.toUInt32 >>> ((8 : Int32) &&& 31).toUInt32).toInt32).toInt8.toInt32))), (.int (nar .byte (((xd.toUInt32 >>> ((16 : Int32) &&& 31).toUInt32).toInt32).toInt8.toInt32))), (.int (nar .byte (((xd.toUInt32 >>> ((24 : Int32) &&& 31).toUInt32).toInt32).toInt8.toInt32)))] (.int (0 : Int32)) := Arv.set ar53 q53 sz53 nn53 hs53 gs53 (fits_nar_byte _) W54 4 rfl (Nat.le_of_ble_eq_true rfl)
    have z54 : n0 ≤ h54.size := Nat.le_trans z52 (Keep.of_wr W54).1
    have N54 := Fr.snoc X54 N52 ge30
    show own_Go p e below _ (T54.setTop (mkF m 122 #[.val (.int xa), .val (.int xb), .val (.int xc), .val (.int xd), .val (.int (1 : Int32)), .val (.ref b30)] []))
    refine own_by (fun _ => XS.aload X54.here hx rfl (hb hby at_122) rfl rfl) ?_
    show own_Go p e below _ (T54.setTop (mkF m 124 #[.val (.int xa), .val (.int xb), .val (.int xc), .val (.int xd), .val (.int (1 : Int32)), .val (.ref b30)] [(.ref b30)]))
    refine own_by (fun _ => XS.iload X54.here hx rfl (hb hby at_124) rfl) ?_
    show own_Go p e below _ (T54.setTop (mkF m 126 #[.val (.int xa), .val (.int xb), .val (.int xc), .val (.int xd), .val (.int (1 : Int32)), .val (.ref b30)] [(.int (1 : Int32)), (.ref b30)]))
    obtain ⟨_, _, ⟨T55, L55, k55, n55⟩, -, X55, ⟨Lc55, hQ55, l55, y55, z55'⟩, st55⟩ := Jvm.LawKit.callS X54 hx (y := (⟨"com/example/mirrorline/mirrorline/store/RecordFormat", "intAt", "([BI)I"⟩ : MethodName)) hown (mvT hZ (hw _ (List.mem_of_getElem? (i := 1) rfl))) (mvT hZ (hw _ (List.mem_of_getElem? (i := 2) rfl))) (mvT hZ (hw _ (List.mem_of_getElem? (i := 3) rfl))) (mvT hZ (hw _ (List.mem_of_getElem? (i := 4) rfl))) (by decide) (backOf (W := 0) (own_rm1 l Z a0 hw [] b30 (1 : Int32) k30 [(nar .byte (xc.toInt8.toInt32)), (nar .byte (((xa.toUInt32 >>> ((24 : Int32) &&& 31).toUInt32).toInt32).toInt8.toInt32)), (nar .byte (((xa.toUInt32 >>> ((16 : Int32) &&& 31).toUInt32).toInt32).toInt8.toInt32)), (nar .byte (((xa.toUInt32 >>> ((8 : Int32) &&& 31).toUInt32).toInt32).toInt8.toInt32)), (nar .byte (xa.toInt8.toInt32)), (nar .byte (((xd.toUInt32 >>> ((8 : Int32) &&& 31).toUInt32).toInt32).toInt8.toInt32)), (nar .byte (((xd.toUInt32 >>> ((16 : Int32) &&& 31).toUInt32).toInt32).toInt8.toInt32)), (nar .byte (((xd.toUInt32 >>> ((24 : Int32) &&& 31).toUInt32).toInt32).toInt8.toInt32))] h54 n0 z54 va54 (by decide : ¬ ((1 : Int32) < (0 : Int32))) (by decide : (1 : Int32) < (5 : Int32))) hZ (hw _ (List.mem_of_getElem? (i := 4) rfl)) (hw _ (List.mem_of_getElem? (i := 3) rfl)) (by decide) (by decide)) (g := (mkF m 126 #[.val (.int xa), .val (.int xb), .val (.int xc), .val (.int xd), .val (.int (1 : Int32)), .val (.ref b30)] [(.int (1 : Int32)), (.ref b30)])) rfl (by rw [hml]; rfl) (argsL := [(.ref b30), (.int (1 : Int32))]) (rest := []) (lenOf own_pd0 rfl) rfl (by show 2 * 0 + _ ≤ _; exact Nat.le_of_eq rfl) (hb hby at_126) (fun _ _ => ⟨rfl, e54, (by decide : 1 + 0 ≤ _), (by decide : 8 + 0 ≤ _)⟩)
    dsimp only [Pt.U, Pt.locs, Pt.cells, Pt.slots] at X55 l55 y55 z55' st55 hQ55
    subst l55 y55 z55'
    obtain ⟨rfl, N55q, e55⟩ := hQ55
    have N55 := Fr.app N54 N55q
    refine own_by st55 ?_
    show own_Go p e below _ (T55.setTop (mkF m 129 #[.val (.int xa), .val (.int xb), .val (.int xc), .val (.int xd), .val (.int (1 : Int32)), .val (.ref b30)] [(.int (own_intAt (1 : Int32) [(nar .byte (xc.toInt8.toInt32)), (nar .byte (((xa.toUInt32 >>> ((24 : Int32) &&& 31).toUInt32).toInt32).toInt8.toInt32)), (nar .byte (((xa.toUInt32 >>> ((16 : Int32) &&& 31).toUInt32).toInt32).toInt8.toInt32)), (nar .byte (((xa.toUInt32 >>> ((8 : Int32) &&& 31).toUInt32).toInt32).toInt8.toInt32)), (nar .byte (xa.toInt8.toInt32)), (nar .byte (((xd.toUInt32 >>> ((8 : Int32) &&& 31).toUInt32).toInt32).toInt8.toInt32)), (nar .byte (((xd.toUInt32 >>> ((16 : Int32) &&& 31).toUInt32).toInt32).toInt8.toInt32)), (nar .byte (((xd.toUInt32 >>> ((24 : Int32) &&& 31).toUInt32).toInt32).toInt8.toInt32))]))]))
    refine own_by (fun _ => XS.iloadN X55.here hx rfl (hb hby at_129) rfl) ?_
    show own_Go p e below _ (T55.setTop (mkF m 130 #[.val (.int xa), .val (.int xb), .val (.int xc), .val (.int xd), .val (.int (1 : Int32)), .val (.ref b30)] [(.int xa), (.int (own_intAt (1 : Int32) [(nar .byte (xc.toInt8.toInt32)), (nar .byte (((xa.toUInt32 >>> ((24 : Int32) &&& 31).toUInt32).toInt32).toInt8.toInt32)), (nar .byte (((xa.toUInt32 >>> ((16 : Int32) &&& 31).toUInt32).toInt32).toInt8.toInt32)), (nar .byte (((xa.toUInt32 >>> ((8 : Int32) &&& 31).toUInt32).toInt32).toInt8.toInt32)), (nar .byte (xa.toInt8.toInt32)), (nar .byte (((xd.toUInt32 >>> ((8 : Int32) &&& 31).toUInt32).toInt32).toInt8.toInt32)), (nar .byte (((xd.toUInt32 >>> ((16 : Int32) &&& 31).toUInt32).toInt32).toInt8.toInt32)), (nar .byte (((xd.toUInt32 >>> ((24 : Int32) &&& 31).toUInt32).toInt32).toInt8.toInt32))]))]))
    suffices J56 : ∀ (T' : State) (v56_t0 : Int32), v56_t0 = (if (own_intAt (1 : Int32) [(nar .byte (xc.toInt8.toInt32)), (nar .byte (((xa.toUInt32 >>> ((24 : Int32) &&& 31).toUInt32).toInt32).toInt8.toInt32)), (nar .byte (((xa.toUInt32 >>> ((16 : Int32) &&& 31).toUInt32).toInt32).toInt8.toInt32)), (nar .byte (((xa.toUInt32 >>> ((8 : Int32) &&& 31).toUInt32).toInt32).toInt8.toInt32)), (nar .byte (xa.toInt8.toInt32)), (nar .byte (((xd.toUInt32 >>> ((8 : Int32) &&& 31).toUInt32).toInt32).toInt8.toInt32)), (nar .byte (((xd.toUInt32 >>> ((16 : Int32) &&& 31).toUInt32).toInt32).toInt8.toInt32)), (nar .byte (((xd.toUInt32 >>> ((24 : Int32) &&& 31).toUInt32).toInt32).toInt8.toInt32))]) = xa then (1 : Int32) else (0 : Int32)) → own_At p l e room_1 s m #[(.int xa), (.int xb), (.int xc), (.int xd)] below meth c n0 T' h54 1 8 → own_Go p e below (own_End s below (own_Q0 Z xa xb xc xd h0 n0) room_1.cells room_1.slots) (T'.setTop (mkF m 138 #[.val (.int xa), .val (.int xb), .val (.int xc), .val (.int xd), .val (.int (1 : Int32)), .val (.ref b30)] [(.int v56_t0)])) by
      by_cases hc130_57 : (own_intAt (1 : Int32) [(nar .byte (xc.toInt8.toInt32)), (nar .byte (((xa.toUInt32 >>> ((24 : Int32) &&& 31).toUInt32).toInt32).toInt8.toInt32)), (nar .byte (((xa.toUInt32 >>> ((16 : Int32) &&& 31).toUInt32).toInt32).toInt8.toInt32)), (nar .byte (((xa.toUInt32 >>> ((8 : Int32) &&& 31).toUInt32).toInt32).toInt8.toInt32)), (nar .byte (xa.toInt8.toInt32)), (nar .byte (((xd.toUInt32 >>> ((8 : Int32) &&& 31).toUInt32).toInt32).toInt8.toInt32)), (nar .byte (((xd.toUInt32 >>> ((16 : Int32) &&& 31).toUInt32).toInt32).toInt8.toInt32)), (nar .byte (((xd.toUInt32 >>> ((24 : Int32) &&& 31).toUInt32).toInt32).toInt8.toInt32))]) = xa
      ·
        skip
        refine own_by (fun _ => XS.icmpNo X55.here hx rfl (hb hby at_130) rfl (teq hc130_57).2) ?_
        show own_Go p e below _ (T55.setTop (mkF m 133 #[.val (.int xa), .val (.int xb), .val (.int xc), .val (.int xd), .val (.int (1 : Int32)), .val (.ref b30)] []))
        refine own_by (fun _ => XS.iconst X55.here hx rfl (hb hby at_133)) ?_
        show own_Go p e below _ (T55.setTop (mkF m 134 #[.val (.int xa), .val (.int xb), .val (.int xc), .val (.int xd), .val (.int (1 : Int32)), .val (.ref b30)] [(.int (1 : Int32))]))
        refine own_by (fun _ => XS.goto X55.here hx rfl (pc0 := 134) (pc' := 138) rfl (hb hby at_134) (by decide) (by decide)) ?_
        show own_Go p e below _ (T55.setTop (mkF m 138 #[.val (.int xa), .val (.int xb), .val (.int xc), .val (.int xd), .val (.int (1 : Int32)), .val (.ref b30)] [(.int (1 : Int32))]))
        exact J56 _ _ (by first | rfl | simp only [if_pos hc130_57]) ⟨_, X55, N55, e55⟩
      ·
        skip
        refine own_by (fun _ => XS.icmpYes X55.here hx rfl (pc0 := 130) (pc' := 137) rfl (hb hby at_130) rfl (feq hc130_57).2 (by decide) (by decide)) ?_
        show own_Go p e below _ (T55.setTop (mkF m 137 #[.val (.int xa), .val (.int xb), .val (.int xc), .val (.int xd), .val (.int (1 : Int32)), .val (.ref b30)] []))
        refine own_by (fun _ => XS.iconst X55.here hx rfl (hb hby at_137)) ?_
        show own_Go p e below _ (T55.setTop (mkF m 138 #[.val (.int xa), .val (.int xb), .val (.int xc), .val (.int xd), .val (.int (1 : Int32)), .val (.ref b30)] [(.int (0 : Int32))]))
        exact J56 _ _ (by first | rfl | simp only [if_neg hc130_57]) ⟨_, X55, N55, e55⟩
    intro T56 v56_t0 hv56_t0 ⟨locs56, X56, N56, e56⟩
    show own_Go p e below _ (T56.setTop (mkF m 138 #[.val (.int xa), .val (.int xb), .val (.int xc), .val (.int xd), .val (.int (1 : Int32)), .val (.ref b30)] [(.int v56_t0)]))
    exact own_retZ X56 hx hlk e56 (by rw [hv56_t0]; (repeat' split) <;> first | exact Or.inl rfl | exact Or.inr rfl) hret (hb hby at_138) (by decide) (by decide) ⟨(congrArg some (congrArg Value.int (by subst hv56_t0; have own_p := own_plain xa xb xc xd; simp only [own_law, if_neg (own_neq hs1 (by decide) : ¬ ((xb &&& (3 : Int32)) = (0 : Int32))), if_pos hs1] at own_p; exact own_p : v56_t0 = (1 : Int32)))), N56⟩
  ·
    skip
    rw [hs1]
    show own_Go p e below _ (s₁.setTop (mkF m 5 #[.val (.int xa), .val (.int xb), .val (.int xc), .val (.int xd), .val (.int (2 : Int32)), .unset] []))
    refine own_by (fun _ => XS.bipush X0.here hx rfl (hb hby at_5)) ?_
    show own_Go p e below _ (s₁.setTop (mkF m 7 #[.val (.int xa), .val (.int xb), .val (.int xc), .val (.int xd), .val (.int (2 : Int32)), .unset] [(.int (8 : Int32))]))
    obtain ⟨T58, h58, k58, X58, e58, E58, A58, st58⟩ := newP X0 hx hZ (hw _ (List.mem_of_getElem? (i := 0) rfl)) e0 (g := (mkF m 7 #[.val (.int xa), .val (.int xb), .val (.int xc), .val (.int xd), .val (.int (2 : Int32)), .unset] [(.int (8 : Int32))])) rfl (hb hby at_7) rfl (by decide) (cap := 8) (by decide) (by decide) (by decide) (by decide)
    obtain ⟨b58, g58⟩ : ∃ z, z = h0.size := ⟨_, rfl⟩
    rw [← g58] at A58 st58
    refine own_by st58 ?_
    have ge58 : n0 ≤ b58 := Nat.le_trans Z0 (Nat.le_of_eq g58.symm)
    have z58 : n0 ≤ h58.size := Nat.le_trans Z0 E58.1
    have va58 : Arv Z h58 b58 k58 .byte (8 : Int32) [(.int (0 : Int32)), (.int (0 : Int32)), (.int (0 : Int32)), (.int (0 : Int32)), (.int (0 : Int32)), (.int (0 : Int32)), (.int (0 : Int32)), (.int (0 : Int32))] (.int (0 : Int32)) := (Arv.new A58 (by decide)).pad (pad_rep [] (.int (0 : Int32)) 8)
    show own_Go p e below _ (T58.setTop (mkF m 9 #[.val (.int xa), .val (.int xb), .val (.int xc), .val (.int xd), .val (.int (2 : Int32)), .unset] [(.ref b58)]))
    refine own_by (fun _ => XS.astore X58.here hx rfl (hb hby at_9) rfl rfl (l' := #[.val (.int xa), .val (.int xb), .val (.int xc), .val (.int xd), .val (.int (2 : Int32)), .val (.ref b58)]) rfl) ?_
    show own_Go p e below _ (T58.setTop (mkF m 11 #[.val (.int xa), .val (.int xb), .val (.int xc), .val (.int xd), .val (.int (2 : Int32)), .val (.ref b58)] []))
    refine own_by (fun _ => XS.aload X58.here hx rfl (hb hby at_11) rfl rfl) ?_
    show own_Go p e below _ (T58.setTop (mkF m 13 #[.val (.int xa), .val (.int xb), .val (.int xc), .val (.int xd), .val (.int (2 : Int32)), .val (.ref b58)] [(.ref b58)]))
    refine own_by (fun _ => XS.iconst X58.here hx rfl (hb hby at_13)) ?_
    show own_Go p e below _ (T58.setTop (mkF m 14 #[.val (.int xa), .val (.int xb), .val (.int xc), .val (.int xd), .val (.int (2 : Int32)), .val (.ref b58)] [(.int (0 : Int32)), (.ref b58)]))
    refine own_by (fun _ => XS.iloadN X58.here hx rfl (hb hby at_14) rfl) ?_
    show own_Go p e below _ (T58.setTop (mkF m 15 #[.val (.int xa), .val (.int xb), .val (.int xc), .val (.int xd), .val (.int (2 : Int32)), .val (.ref b58)] [(.int xc), (.int (0 : Int32)), (.ref b58)]))
    refine own_by (fun _ => XS.i2b X58.here hx rfl (hb hby at_15) rfl) ?_
    show own_Go p e below _ (T58.setTop (mkF m 16 #[.val (.int xa), .val (.int xb), .val (.int xc), .val (.int xd), .val (.int (2 : Int32)), .val (.ref b58)] [(.int (xc.toInt8.toInt32)), (.int (0 : Int32)), (.ref b58)]))
    obtain ⟨cl59, ar59, q59, sz59, nn59, hs59, gs59⟩ := id va58
    have hin59 : ¬ ((0 : Int32) < 0 ∨ cl59.slots.size ≤ ((0 : Int32)).toNatClampNeg) := inb_of sz59 ⟨by decide, by decide⟩
    obtain ⟨T60, h60, X60, e60, W60, st60⟩ := stB X58 hx hZ e58 ar59 (j := (0 : Int32)) hin59 (g := (mkF m 16 #[.val (.int xa), .val (.int xb), .val (.int xc), .val (.int xd), .val (.int (2 : Int32)), .val (.ref b58)] [(.int (xc.toInt8.toInt32)), (.int (0 : Int32)), (.ref b58)])) rfl rfl (hb hby at_16)
    refine own_by st60 ?_
    have va60 : Arv Z h60 b58 k58 .byte (8 : Int32) [(.int (nar .byte (xc.toInt8.toInt32))), (.int (0 : Int32)), (.int (0 : Int32)), (.int (0 : Int32)), (.int (0 : Int32)), (.int (0 : Int32)), (.int (0 : Int32)), (.int (0 : Int32))] (.int (0 : Int32)) := Arv.set ar59 q59 sz59 nn59 hs59 gs59 (fits_nar_byte _) W60 0 rfl (Nat.le_of_ble_eq_true rfl)
    have z60 : n0 ≤ h60.size := Nat.le_trans z58 (Keep.of_wr W60).1
    have N60 := Fr.snoc X60 N0 ge58
    show own_Go p e below _ (T60.setTop (mkF m 17 #[.val (.int xa), .val (.int xb), .val (.int xc), .val (.int xd), .val (.int (2 : Int32)), .val (.ref b58)] []))
    refine own_by (fun _ => XS.aload X60.here hx rfl (hb hby at_17) rfl rfl) ?_
    show own_Go p e below _ (T60.setTop (mkF m 19 #[.val (.int xa), .val (.int xb), .val (.int xc), .val (.int xd), .val (.int (2 : Int32)), .val (.ref b58)] [(.ref b58)]))
    refine own_by (fun _ => XS.iconst X60.here hx rfl (hb hby at_19)) ?_
    show own_Go p e below _ (T60.setTop (mkF m 20 #[.val (.int xa), .val (.int xb), .val (.int xc), .val (.int xd), .val (.int (2 : Int32)), .val (.ref b58)] [(.int (1 : Int32)), (.ref b58)]))
    refine own_by (fun _ => XS.iloadN X60.here hx rfl (hb hby at_20) rfl) ?_
    show own_Go p e below _ (T60.setTop (mkF m 21 #[.val (.int xa), .val (.int xb), .val (.int xc), .val (.int xd), .val (.int (2 : Int32)), .val (.ref b58)] [(.int xc), (.int (1 : Int32)), (.ref b58)]))
    refine own_by (fun _ => XS.bipush X60.here hx rfl (hb hby at_21)) ?_
    show own_Go p e below _ (T60.setTop (mkF m 23 #[.val (.int xa), .val (.int xb), .val (.int xc), .val (.int xd), .val (.int (2 : Int32)), .val (.ref b58)] [(.int (8 : Int32)), (.int xc), (.int (1 : Int32)), (.ref b58)]))
    refine own_by (fun _ => XS.iushr X60.here hx rfl (hb hby at_23) rfl) ?_
    show own_Go p e below _ (T60.setTop (mkF m 24 #[.val (.int xa), .val (.int xb), .val (.int xc), .val (.int xd), .val (.int (2 : Int32)), .val (.ref b58)] [(.int ((xc.toUInt32 >>> ((8 : Int32) &&& 31).toUInt32).toInt32)), (.int (1 : Int32)), (.ref b58)]))
    refine own_by (fun _ => XS.i2b X60.here hx rfl (hb hby at_24) rfl) ?_
    show own_Go p e below _ (T60.setTop (mkF m 25 #[.val (.int xa), .val (.int xb), .val (.int xc), .val (.int xd), .val (.int (2 : Int32)), .val (.ref b58)] [(.int (((xc.toUInt32 >>> ((8 : Int32) &&& 31).toUInt32).toInt32).toInt8.toInt32)), (.int (1 : Int32)), (.ref b58)]))
    obtain ⟨cl61, ar61, q61, sz61, nn61, hs61, gs61⟩ := id va60
    have hin61 : ¬ ((1 : Int32) < 0 ∨ cl61.slots.size ≤ ((1 : Int32)).toNatClampNeg) := inb_of sz61 ⟨by decide, by decide⟩
    obtain ⟨T62, h62, X62, e62, W62, st62⟩ := stB X60 hx hZ e60 ar61 (j := (1 : Int32)) hin61 (g := (mkF m 25 #[.val (.int xa), .val (.int xb), .val (.int xc), .val (.int xd), .val (.int (2 : Int32)), .val (.ref b58)] [(.int (((xc.toUInt32 >>> ((8 : Int32) &&& 31).toUInt32).toInt32).toInt8.toInt32)), (.int (1 : Int32)), (.ref b58)])) rfl rfl (hb hby at_25)
    refine own_by st62 ?_
    have va62 : Arv Z h62 b58 k58 .byte (8 : Int32) [(.int (nar .byte (xc.toInt8.toInt32))), (.int (nar .byte (((xc.toUInt32 >>> ((8 : Int32) &&& 31).toUInt32).toInt32).toInt8.toInt32))), (.int (0 : Int32)), (.int (0 : Int32)), (.int (0 : Int32)), (.int (0 : Int32)), (.int (0 : Int32)), (.int (0 : Int32))] (.int (0 : Int32)) := Arv.set ar61 q61 sz61 nn61 hs61 gs61 (fits_nar_byte _) W62 1 rfl (Nat.le_of_ble_eq_true rfl)
    have z62 : n0 ≤ h62.size := Nat.le_trans z60 (Keep.of_wr W62).1
    have N62 := Fr.snoc X62 N60 ge58
    show own_Go p e below _ (T62.setTop (mkF m 26 #[.val (.int xa), .val (.int xb), .val (.int xc), .val (.int xd), .val (.int (2 : Int32)), .val (.ref b58)] []))
    refine own_by (fun _ => XS.aload X62.here hx rfl (hb hby at_26) rfl rfl) ?_
    show own_Go p e below _ (T62.setTop (mkF m 28 #[.val (.int xa), .val (.int xb), .val (.int xc), .val (.int xd), .val (.int (2 : Int32)), .val (.ref b58)] [(.ref b58)]))
    refine own_by (fun _ => XS.iconst X62.here hx rfl (hb hby at_28)) ?_
    show own_Go p e below _ (T62.setTop (mkF m 29 #[.val (.int xa), .val (.int xb), .val (.int xc), .val (.int xd), .val (.int (2 : Int32)), .val (.ref b58)] [(.int (2 : Int32)), (.ref b58)]))
    refine own_by (fun _ => XS.iloadN X62.here hx rfl (hb hby at_29) rfl) ?_
    show own_Go p e below _ (T62.setTop (mkF m 30 #[.val (.int xa), .val (.int xb), .val (.int xc), .val (.int xd), .val (.int (2 : Int32)), .val (.ref b58)] [(.int xc), (.int (2 : Int32)), (.ref b58)]))
    refine own_by (fun _ => XS.bipush X62.here hx rfl (hb hby at_30)) ?_
    show own_Go p e below _ (T62.setTop (mkF m 32 #[.val (.int xa), .val (.int xb), .val (.int xc), .val (.int xd), .val (.int (2 : Int32)), .val (.ref b58)] [(.int (16 : Int32)), (.int xc), (.int (2 : Int32)), (.ref b58)]))
    refine own_by (fun _ => XS.iushr X62.here hx rfl (hb hby at_32) rfl) ?_
    show own_Go p e below _ (T62.setTop (mkF m 33 #[.val (.int xa), .val (.int xb), .val (.int xc), .val (.int xd), .val (.int (2 : Int32)), .val (.ref b58)] [(.int ((xc.toUInt32 >>> ((16 : Int32) &&& 31).toUInt32).toInt32)), (.int (2 : Int32)), (.ref b58)]))
    refine own_by (fun _ => XS.i2b X62.here hx rfl (hb hby at_33) rfl) ?_
    show own_Go p e below _ (T62.setTop (mkF m 34 #[.val (.int xa), .val (.int xb), .val (.int xc), .val (.int xd), .val (.int (2 : Int32)), .val (.ref b58)] [(.int (((xc.toUInt32 >>> ((16 : Int32) &&& 31).toUInt32).toInt32).toInt8.toInt32)), (.int (2 : Int32)), (.ref b58)]))
    obtain ⟨cl63, ar63, q63, sz63, nn63, hs63, gs63⟩ := id va62
    have hin63 : ¬ ((2 : Int32) < 0 ∨ cl63.slots.size ≤ ((2 : Int32)).toNatClampNeg) := inb_of sz63 ⟨by decide, by decide⟩
    obtain ⟨T64, h64, X64, e64, W64, st64⟩ := stB X62 hx hZ e62 ar63 (j := (2 : Int32)) hin63 (g := (mkF m 34 #[.val (.int xa), .val (.int xb), .val (.int xc), .val (.int xd), .val (.int (2 : Int32)), .val (.ref b58)] [(.int (((xc.toUInt32 >>> ((16 : Int32) &&& 31).toUInt32).toInt32).toInt8.toInt32)), (.int (2 : Int32)), (.ref b58)])) rfl rfl (hb hby at_34)
    refine own_by st64 ?_
    have va64 : Arv Z h64 b58 k58 .byte (8 : Int32) [(.int (nar .byte (xc.toInt8.toInt32))), (.int (nar .byte (((xc.toUInt32 >>> ((8 : Int32) &&& 31).toUInt32).toInt32).toInt8.toInt32))), (.int (nar .byte (((xc.toUInt32 >>> ((16 : Int32) &&& 31).toUInt32).toInt32).toInt8.toInt32))), (.int (0 : Int32)), (.int (0 : Int32)), (.int (0 : Int32)), (.int (0 : Int32)), (.int (0 : Int32))] (.int (0 : Int32)) := Arv.set ar63 q63 sz63 nn63 hs63 gs63 (fits_nar_byte _) W64 2 rfl (Nat.le_of_ble_eq_true rfl)
    have z64 : n0 ≤ h64.size := Nat.le_trans z62 (Keep.of_wr W64).1
    have N64 := Fr.snoc X64 N62 ge58
    show own_Go p e below _ (T64.setTop (mkF m 35 #[.val (.int xa), .val (.int xb), .val (.int xc), .val (.int xd), .val (.int (2 : Int32)), .val (.ref b58)] []))
    refine own_by (fun _ => XS.aload X64.here hx rfl (hb hby at_35) rfl rfl) ?_
    show own_Go p e below _ (T64.setTop (mkF m 37 #[.val (.int xa), .val (.int xb), .val (.int xc), .val (.int xd), .val (.int (2 : Int32)), .val (.ref b58)] [(.ref b58)]))
    refine own_by (fun _ => XS.iconst X64.here hx rfl (hb hby at_37)) ?_
    show own_Go p e below _ (T64.setTop (mkF m 38 #[.val (.int xa), .val (.int xb), .val (.int xc), .val (.int xd), .val (.int (2 : Int32)), .val (.ref b58)] [(.int (3 : Int32)), (.ref b58)]))
    refine own_by (fun _ => XS.iloadN X64.here hx rfl (hb hby at_38) rfl) ?_
    show own_Go p e below _ (T64.setTop (mkF m 39 #[.val (.int xa), .val (.int xb), .val (.int xc), .val (.int xd), .val (.int (2 : Int32)), .val (.ref b58)] [(.int xc), (.int (3 : Int32)), (.ref b58)]))
    refine own_by (fun _ => XS.bipush X64.here hx rfl (hb hby at_39)) ?_
    show own_Go p e below _ (T64.setTop (mkF m 41 #[.val (.int xa), .val (.int xb), .val (.int xc), .val (.int xd), .val (.int (2 : Int32)), .val (.ref b58)] [(.int (24 : Int32)), (.int xc), (.int (3 : Int32)), (.ref b58)]))
    refine own_by (fun _ => XS.iushr X64.here hx rfl (hb hby at_41) rfl) ?_
    show own_Go p e below _ (T64.setTop (mkF m 42 #[.val (.int xa), .val (.int xb), .val (.int xc), .val (.int xd), .val (.int (2 : Int32)), .val (.ref b58)] [(.int ((xc.toUInt32 >>> ((24 : Int32) &&& 31).toUInt32).toInt32)), (.int (3 : Int32)), (.ref b58)]))
    refine own_by (fun _ => XS.i2b X64.here hx rfl (hb hby at_42) rfl) ?_
    show own_Go p e below _ (T64.setTop (mkF m 43 #[.val (.int xa), .val (.int xb), .val (.int xc), .val (.int xd), .val (.int (2 : Int32)), .val (.ref b58)] [(.int (((xc.toUInt32 >>> ((24 : Int32) &&& 31).toUInt32).toInt32).toInt8.toInt32)), (.int (3 : Int32)), (.ref b58)]))
    obtain ⟨cl65, ar65, q65, sz65, nn65, hs65, gs65⟩ := id va64
    have hin65 : ¬ ((3 : Int32) < 0 ∨ cl65.slots.size ≤ ((3 : Int32)).toNatClampNeg) := inb_of sz65 ⟨by decide, by decide⟩
    obtain ⟨T66, h66, X66, e66, W66, st66⟩ := stB X64 hx hZ e64 ar65 (j := (3 : Int32)) hin65 (g := (mkF m 43 #[.val (.int xa), .val (.int xb), .val (.int xc), .val (.int xd), .val (.int (2 : Int32)), .val (.ref b58)] [(.int (((xc.toUInt32 >>> ((24 : Int32) &&& 31).toUInt32).toInt32).toInt8.toInt32)), (.int (3 : Int32)), (.ref b58)])) rfl rfl (hb hby at_43)
    refine own_by st66 ?_
    have va66 : Arv Z h66 b58 k58 .byte (8 : Int32) [(.int (nar .byte (xc.toInt8.toInt32))), (.int (nar .byte (((xc.toUInt32 >>> ((8 : Int32) &&& 31).toUInt32).toInt32).toInt8.toInt32))), (.int (nar .byte (((xc.toUInt32 >>> ((16 : Int32) &&& 31).toUInt32).toInt32).toInt8.toInt32))), (.int (nar .byte (((xc.toUInt32 >>> ((24 : Int32) &&& 31).toUInt32).toInt32).toInt8.toInt32))), (.int (0 : Int32)), (.int (0 : Int32)), (.int (0 : Int32)), (.int (0 : Int32))] (.int (0 : Int32)) := Arv.set ar65 q65 sz65 nn65 hs65 gs65 (fits_nar_byte _) W66 3 rfl (Nat.le_of_ble_eq_true rfl)
    have z66 : n0 ≤ h66.size := Nat.le_trans z64 (Keep.of_wr W66).1
    have N66 := Fr.snoc X66 N64 ge58
    show own_Go p e below _ (T66.setTop (mkF m 44 #[.val (.int xa), .val (.int xb), .val (.int xc), .val (.int xd), .val (.int (2 : Int32)), .val (.ref b58)] []))
    refine own_by (fun _ => XS.aload X66.here hx rfl (hb hby at_44) rfl rfl) ?_
    show own_Go p e below _ (T66.setTop (mkF m 46 #[.val (.int xa), .val (.int xb), .val (.int xc), .val (.int xd), .val (.int (2 : Int32)), .val (.ref b58)] [(.ref b58)]))
    refine own_by (fun _ => XS.iconst X66.here hx rfl (hb hby at_46)) ?_
    show own_Go p e below _ (T66.setTop (mkF m 47 #[.val (.int xa), .val (.int xb), .val (.int xc), .val (.int xd), .val (.int (2 : Int32)), .val (.ref b58)] [(.int (4 : Int32)), (.ref b58)]))
    refine own_by (fun _ => XS.iloadN X66.here hx rfl (hb hby at_47) rfl) ?_
    show own_Go p e below _ (T66.setTop (mkF m 48 #[.val (.int xa), .val (.int xb), .val (.int xc), .val (.int xd), .val (.int (2 : Int32)), .val (.ref b58)] [(.int xd), (.int (4 : Int32)), (.ref b58)]))
    refine own_by (fun _ => XS.i2b X66.here hx rfl (hb hby at_48) rfl) ?_
    show own_Go p e below _ (T66.setTop (mkF m 49 #[.val (.int xa), .val (.int xb), .val (.int xc), .val (.int xd), .val (.int (2 : Int32)), .val (.ref b58)] [(.int (xd.toInt8.toInt32)), (.int (4 : Int32)), (.ref b58)]))
    obtain ⟨cl67, ar67, q67, sz67, nn67, hs67, gs67⟩ := id va66
    have hin67 : ¬ ((4 : Int32) < 0 ∨ cl67.slots.size ≤ ((4 : Int32)).toNatClampNeg) := inb_of sz67 ⟨by decide, by decide⟩
    obtain ⟨T68, h68, X68, e68, W68, st68⟩ := stB X66 hx hZ e66 ar67 (j := (4 : Int32)) hin67 (g := (mkF m 49 #[.val (.int xa), .val (.int xb), .val (.int xc), .val (.int xd), .val (.int (2 : Int32)), .val (.ref b58)] [(.int (xd.toInt8.toInt32)), (.int (4 : Int32)), (.ref b58)])) rfl rfl (hb hby at_49)
    refine own_by st68 ?_
    have va68 : Arv Z h68 b58 k58 .byte (8 : Int32) [(.int (nar .byte (xc.toInt8.toInt32))), (.int (nar .byte (((xc.toUInt32 >>> ((8 : Int32) &&& 31).toUInt32).toInt32).toInt8.toInt32))), (.int (nar .byte (((xc.toUInt32 >>> ((16 : Int32) &&& 31).toUInt32).toInt32).toInt8.toInt32))), (.int (nar .byte (((xc.toUInt32 >>> ((24 : Int32) &&& 31).toUInt32).toInt32).toInt8.toInt32))), (.int (nar .byte (xd.toInt8.toInt32))), (.int (0 : Int32)), (.int (0 : Int32)), (.int (0 : Int32))] (.int (0 : Int32)) := Arv.set ar67 q67 sz67 nn67 hs67 gs67 (fits_nar_byte _) W68 4 rfl (Nat.le_of_ble_eq_true rfl)
    have z68 : n0 ≤ h68.size := Nat.le_trans z66 (Keep.of_wr W68).1
    have N68 := Fr.snoc X68 N66 ge58
    show own_Go p e below _ (T68.setTop (mkF m 50 #[.val (.int xa), .val (.int xb), .val (.int xc), .val (.int xd), .val (.int (2 : Int32)), .val (.ref b58)] []))
    refine own_by (fun _ => XS.aload X68.here hx rfl (hb hby at_50) rfl rfl) ?_
    show own_Go p e below _ (T68.setTop (mkF m 52 #[.val (.int xa), .val (.int xb), .val (.int xc), .val (.int xd), .val (.int (2 : Int32)), .val (.ref b58)] [(.ref b58)]))
    refine own_by (fun _ => XS.iconst X68.here hx rfl (hb hby at_52)) ?_
    show own_Go p e below _ (T68.setTop (mkF m 53 #[.val (.int xa), .val (.int xb), .val (.int xc), .val (.int xd), .val (.int (2 : Int32)), .val (.ref b58)] [(.int (5 : Int32)), (.ref b58)]))
    refine own_by (fun _ => XS.iloadN X68.here hx rfl (hb hby at_53) rfl) ?_
    show own_Go p e below _ (T68.setTop (mkF m 54 #[.val (.int xa), .val (.int xb), .val (.int xc), .val (.int xd), .val (.int (2 : Int32)), .val (.ref b58)] [(.int xd), (.int (5 : Int32)), (.ref b58)]))
    refine own_by (fun _ => XS.bipush X68.here hx rfl (hb hby at_54)) ?_
    show own_Go p e below _ (T68.setTop (mkF m 56 #[.val (.int xa), .val (.int xb), .val (.int xc), .val (.int xd), .val (.int (2 : Int32)), .val (.ref b58)] [(.int (8 : Int32)), (.int xd), (.int (5 : Int32)), (.ref b58)]))
    refine own_by (fun _ => XS.iushr X68.here hx rfl (hb hby at_56) rfl) ?_
    show own_Go p e below _ (T68.setTop (mkF m 57 #[.val (.int xa), .val (.int xb), .val (.int xc), .val (.int xd), .val (.int (2 : Int32)), .val (.ref b58)] [(.int ((xd.toUInt32 >>> ((8 : Int32) &&& 31).toUInt32).toInt32)), (.int (5 : Int32)), (.ref b58)]))
    refine own_by (fun _ => XS.i2b X68.here hx rfl (hb hby at_57) rfl) ?_
    show own_Go p e below _ (T68.setTop (mkF m 58 #[.val (.int xa), .val (.int xb), .val (.int xc), .val (.int xd), .val (.int (2 : Int32)), .val (.ref b58)] [(.int (((xd.toUInt32 >>> ((8 : Int32) &&& 31).toUInt32).toInt32).toInt8.toInt32)), (.int (5 : Int32)), (.ref b58)]))
    obtain ⟨cl69, ar69, q69, sz69, nn69, hs69, gs69⟩ := id va68
    have hin69 : ¬ ((5 : Int32) < 0 ∨ cl69.slots.size ≤ ((5 : Int32)).toNatClampNeg) := inb_of sz69 ⟨by decide, by decide⟩
    obtain ⟨T70, h70, X70, e70, W70, st70⟩ := stB X68 hx hZ e68 ar69 (j := (5 : Int32)) hin69 (g := (mkF m 58 #[.val (.int xa), .val (.int xb), .val (.int xc), .val (.int xd), .val (.int (2 : Int32)), .val (.ref b58)] [(.int (((xd.toUInt32 >>> ((8 : Int32) &&& 31).toUInt32).toInt32).toInt8.toInt32)), (.int (5 : Int32)), (.ref b58)])) rfl rfl (hb hby at_58)
    refine own_by st70 ?_
    have va70 : Arv Z h70 b58 k58 .byte (8 : Int32) [(.int (nar .byte (xc.toInt8.toInt32))), (.int (nar .byte (((xc.toUInt32 >>> ((8 : Int32) &&& 31).toUInt32).toInt32).toInt8.toInt32))), (.int (nar .byte (((xc.toUInt32 >>> ((16 : Int32) &&& 31).toUInt32).toInt32).toInt8.toInt32))), (.int (nar .byte (((xc.toUInt32 >>> ((24 : Int32) &&& 31).toUInt32).toInt32).toInt8.toInt32))), (.int (nar .byte (xd.toInt8.toInt32))), (.int (nar .byte (((xd.toUInt32 >>> ((8 : Int32) &&& 31).toUInt32).toInt32).toInt8.toInt32))), (.int (0 : Int32)), (.int (0 : Int32))] (.int (0 : Int32)) := Arv.set ar69 q69 sz69 nn69 hs69 gs69 (fits_nar_byte _) W70 5 rfl (Nat.le_of_ble_eq_true rfl)
    have z70 : n0 ≤ h70.size := Nat.le_trans z68 (Keep.of_wr W70).1
    have N70 := Fr.snoc X70 N68 ge58
    show own_Go p e below _ (T70.setTop (mkF m 59 #[.val (.int xa), .val (.int xb), .val (.int xc), .val (.int xd), .val (.int (2 : Int32)), .val (.ref b58)] []))
    refine own_by (fun _ => XS.aload X70.here hx rfl (hb hby at_59) rfl rfl) ?_
    show own_Go p e below _ (T70.setTop (mkF m 61 #[.val (.int xa), .val (.int xb), .val (.int xc), .val (.int xd), .val (.int (2 : Int32)), .val (.ref b58)] [(.ref b58)]))
    refine own_by (fun _ => XS.bipush X70.here hx rfl (hb hby at_61)) ?_
    show own_Go p e below _ (T70.setTop (mkF m 63 #[.val (.int xa), .val (.int xb), .val (.int xc), .val (.int xd), .val (.int (2 : Int32)), .val (.ref b58)] [(.int (6 : Int32)), (.ref b58)]))
    refine own_by (fun _ => XS.iloadN X70.here hx rfl (hb hby at_63) rfl) ?_
    show own_Go p e below _ (T70.setTop (mkF m 64 #[.val (.int xa), .val (.int xb), .val (.int xc), .val (.int xd), .val (.int (2 : Int32)), .val (.ref b58)] [(.int xd), (.int (6 : Int32)), (.ref b58)]))
    refine own_by (fun _ => XS.bipush X70.here hx rfl (hb hby at_64)) ?_
    show own_Go p e below _ (T70.setTop (mkF m 66 #[.val (.int xa), .val (.int xb), .val (.int xc), .val (.int xd), .val (.int (2 : Int32)), .val (.ref b58)] [(.int (16 : Int32)), (.int xd), (.int (6 : Int32)), (.ref b58)]))
    refine own_by (fun _ => XS.iushr X70.here hx rfl (hb hby at_66) rfl) ?_
    show own_Go p e below _ (T70.setTop (mkF m 67 #[.val (.int xa), .val (.int xb), .val (.int xc), .val (.int xd), .val (.int (2 : Int32)), .val (.ref b58)] [(.int ((xd.toUInt32 >>> ((16 : Int32) &&& 31).toUInt32).toInt32)), (.int (6 : Int32)), (.ref b58)]))
    refine own_by (fun _ => XS.i2b X70.here hx rfl (hb hby at_67) rfl) ?_
    show own_Go p e below _ (T70.setTop (mkF m 68 #[.val (.int xa), .val (.int xb), .val (.int xc), .val (.int xd), .val (.int (2 : Int32)), .val (.ref b58)] [(.int (((xd.toUInt32 >>> ((16 : Int32) &&& 31).toUInt32).toInt32).toInt8.toInt32)), (.int (6 : Int32)), (.ref b58)]))
    obtain ⟨cl71, ar71, q71, sz71, nn71, hs71, gs71⟩ := id va70
    have hin71 : ¬ ((6 : Int32) < 0 ∨ cl71.slots.size ≤ ((6 : Int32)).toNatClampNeg) := inb_of sz71 ⟨by decide, by decide⟩
    obtain ⟨T72, h72, X72, e72, W72, st72⟩ := stB X70 hx hZ e70 ar71 (j := (6 : Int32)) hin71 (g := (mkF m 68 #[.val (.int xa), .val (.int xb), .val (.int xc), .val (.int xd), .val (.int (2 : Int32)), .val (.ref b58)] [(.int (((xd.toUInt32 >>> ((16 : Int32) &&& 31).toUInt32).toInt32).toInt8.toInt32)), (.int (6 : Int32)), (.ref b58)])) rfl rfl (hb hby at_68)
    refine own_by st72 ?_
    have va72 : Arv Z h72 b58 k58 .byte (8 : Int32) [(.int (nar .byte (xc.toInt8.toInt32))), (.int (nar .byte (((xc.toUInt32 >>> ((8 : Int32) &&& 31).toUInt32).toInt32).toInt8.toInt32))), (.int (nar .byte (((xc.toUInt32 >>> ((16 : Int32) &&& 31).toUInt32).toInt32).toInt8.toInt32))), (.int (nar .byte (((xc.toUInt32 >>> ((24 : Int32) &&& 31).toUInt32).toInt32).toInt8.toInt32))), (.int (nar .byte (xd.toInt8.toInt32))), (.int (nar .byte (((xd.toUInt32 >>> ((8 : Int32) &&& 31).toUInt32).toInt32).toInt8.toInt32))), (.int (nar .byte (((xd.toUInt32 >>> ((16 : Int32) &&& 31).toUInt32).toInt32).toInt8.toInt32))), (.int (0 : Int32))] (.int (0 : Int32)) := Arv.set ar71 q71 sz71 nn71 hs71 gs71 (fits_nar_byte _) W72 6 rfl (Nat.le_of_ble_eq_true rfl)
    have z72 : n0 ≤ h72.size := Nat.le_trans z70 (Keep.of_wr W72).1
    have N72 := Fr.snoc X72 N70 ge58
    show own_Go p e below _ (T72.setTop (mkF m 69 #[.val (.int xa), .val (.int xb), .val (.int xc), .val (.int xd), .val (.int (2 : Int32)), .val (.ref b58)] []))
    refine own_by (fun _ => XS.aload X72.here hx rfl (hb hby at_69) rfl rfl) ?_
    show own_Go p e below _ (T72.setTop (mkF m 71 #[.val (.int xa), .val (.int xb), .val (.int xc), .val (.int xd), .val (.int (2 : Int32)), .val (.ref b58)] [(.ref b58)]))
    refine own_by (fun _ => XS.bipush X72.here hx rfl (hb hby at_71)) ?_
    show own_Go p e below _ (T72.setTop (mkF m 73 #[.val (.int xa), .val (.int xb), .val (.int xc), .val (.int xd), .val (.int (2 : Int32)), .val (.ref b58)] [(.int (7 : Int32)), (.ref b58)]))
    refine own_by (fun _ => XS.iloadN X72.here hx rfl (hb hby at_73) rfl) ?_
    show own_Go p e below _ (T72.setTop (mkF m 74 #[.val (.int xa), .val (.int xb), .val (.int xc), .val (.int xd), .val (.int (2 : Int32)), .val (.ref b58)] [(.int xd), (.int (7 : Int32)), (.ref b58)]))
    refine own_by (fun _ => XS.bipush X72.here hx rfl (hb hby at_74)) ?_
    show own_Go p e below _ (T72.setTop (mkF m 76 #[.val (.int xa), .val (.int xb), .val (.int xc), .val (.int xd), .val (.int (2 : Int32)), .val (.ref b58)] [(.int (24 : Int32)), (.int xd), (.int (7 : Int32)), (.ref b58)]))
    refine own_by (fun _ => XS.iushr X72.here hx rfl (hb hby at_76) rfl) ?_
    show own_Go p e below _ (T72.setTop (mkF m 77 #[.val (.int xa), .val (.int xb), .val (.int xc), .val (.int xd), .val (.int (2 : Int32)), .val (.ref b58)] [(.int ((xd.toUInt32 >>> ((24 : Int32) &&& 31).toUInt32).toInt32)), (.int (7 : Int32)), (.ref b58)]))
    refine own_by (fun _ => XS.i2b X72.here hx rfl (hb hby at_77) rfl) ?_
    show own_Go p e below _ (T72.setTop (mkF m 78 #[.val (.int xa), .val (.int xb), .val (.int xc), .val (.int xd), .val (.int (2 : Int32)), .val (.ref b58)] [(.int (((xd.toUInt32 >>> ((24 : Int32) &&& 31).toUInt32).toInt32).toInt8.toInt32)), (.int (7 : Int32)), (.ref b58)]))
    obtain ⟨cl73, ar73, q73, sz73, nn73, hs73, gs73⟩ := id va72
    have hin73 : ¬ ((7 : Int32) < 0 ∨ cl73.slots.size ≤ ((7 : Int32)).toNatClampNeg) := inb_of sz73 ⟨by decide, by decide⟩
    obtain ⟨T74, h74, X74, e74, W74, st74⟩ := stB X72 hx hZ e72 ar73 (j := (7 : Int32)) hin73 (g := (mkF m 78 #[.val (.int xa), .val (.int xb), .val (.int xc), .val (.int xd), .val (.int (2 : Int32)), .val (.ref b58)] [(.int (((xd.toUInt32 >>> ((24 : Int32) &&& 31).toUInt32).toInt32).toInt8.toInt32)), (.int (7 : Int32)), (.ref b58)])) rfl rfl (hb hby at_78)
    refine own_by st74 ?_
    have va74 : Arv Z h74 b58 k58 .byte (8 : Int32) [(.int (nar .byte (xc.toInt8.toInt32))), (.int (nar .byte (((xc.toUInt32 >>> ((8 : Int32) &&& 31).toUInt32).toInt32).toInt8.toInt32))), (.int (nar .byte (((xc.toUInt32 >>> ((16 : Int32) &&& 31).toUInt32).toInt32).toInt8.toInt32))), (.int (nar .byte (((xc.toUInt32 >>> ((24 : Int32) &&& 31).toUInt32).toInt32).toInt8.toInt32))), (.int (nar .byte (xd.toInt8.toInt32))), (.int (nar .byte (((xd.toUInt32 >>> ((8 : Int32) &&& 31).toUInt32).toInt32).toInt8.toInt32))), (.int (nar .byte (((xd.toUInt32 >>> ((16 : Int32) &&& 31).toUInt32).toInt32).toInt8.toInt32))), (.int (nar .byte (((xd.toUInt32 >>> ((24 : Int32) &&& 31).toUInt32).toInt32).toInt8.toInt32)))] (.int (0 : Int32)) := Arv.set ar73 q73 sz73 nn73 hs73 gs73 (fits_nar_byte _) W74 7 rfl (Nat.le_of_ble_eq_true rfl)
    have z74 : n0 ≤ h74.size := Nat.le_trans z72 (Keep.of_wr W74).1
    have N74 := Fr.snoc X74 N72 ge58
    show own_Go p e below _ (T74.setTop (mkF m 79 #[.val (.int xa), .val (.int xb), .val (.int xc), .val (.int xd), .val (.int (2 : Int32)), .val (.ref b58)] []))
    refine own_by (fun _ => XS.aload X74.here hx rfl (hb hby at_79) rfl rfl) ?_
    show own_Go p e below _ (T74.setTop (mkF m 81 #[.val (.int xa), .val (.int xb), .val (.int xc), .val (.int xd), .val (.int (2 : Int32)), .val (.ref b58)] [(.ref b58)]))
    refine own_by (fun _ => XS.iload X74.here hx rfl (hb hby at_81) rfl) ?_
    show own_Go p e below _ (T74.setTop (mkF m 83 #[.val (.int xa), .val (.int xb), .val (.int xc), .val (.int xd), .val (.int (2 : Int32)), .val (.ref b58)] [(.int (2 : Int32)), (.ref b58)]))
    refine own_by (fun _ => XS.iloadN X74.here hx rfl (hb hby at_83) rfl) ?_
    show own_Go p e below _ (T74.setTop (mkF m 84 #[.val (.int xa), .val (.int xb), .val (.int xc), .val (.int xd), .val (.int (2 : Int32)), .val (.ref b58)] [(.int xa), (.int (2 : Int32)), (.ref b58)]))
    refine own_by (fun _ => XS.bipush X74.here hx rfl (hb hby at_84)) ?_
    show own_Go p e below _ (T74.setTop (mkF m 86 #[.val (.int xa), .val (.int xb), .val (.int xc), .val (.int xd), .val (.int (2 : Int32)), .val (.ref b58)] [(.int (24 : Int32)), (.int xa), (.int (2 : Int32)), (.ref b58)]))
    refine own_by (fun _ => XS.iushr X74.here hx rfl (hb hby at_86) rfl) ?_
    show own_Go p e below _ (T74.setTop (mkF m 87 #[.val (.int xa), .val (.int xb), .val (.int xc), .val (.int xd), .val (.int (2 : Int32)), .val (.ref b58)] [(.int ((xa.toUInt32 >>> ((24 : Int32) &&& 31).toUInt32).toInt32)), (.int (2 : Int32)), (.ref b58)]))
    refine own_by (fun _ => XS.i2b X74.here hx rfl (hb hby at_87) rfl) ?_
    show own_Go p e below _ (T74.setTop (mkF m 88 #[.val (.int xa), .val (.int xb), .val (.int xc), .val (.int xd), .val (.int (2 : Int32)), .val (.ref b58)] [(.int (((xa.toUInt32 >>> ((24 : Int32) &&& 31).toUInt32).toInt32).toInt8.toInt32)), (.int (2 : Int32)), (.ref b58)]))
    obtain ⟨cl75, ar75, q75, sz75, nn75, hs75, gs75⟩ := id va74
    have hin75 : ¬ ((2 : Int32) < 0 ∨ cl75.slots.size ≤ ((2 : Int32)).toNatClampNeg) := inb_of sz75 ⟨by decide, by decide⟩
    obtain ⟨T76, h76, X76, e76, W76, st76⟩ := stB X74 hx hZ e74 ar75 (j := (2 : Int32)) hin75 (g := (mkF m 88 #[.val (.int xa), .val (.int xb), .val (.int xc), .val (.int xd), .val (.int (2 : Int32)), .val (.ref b58)] [(.int (((xa.toUInt32 >>> ((24 : Int32) &&& 31).toUInt32).toInt32).toInt8.toInt32)), (.int (2 : Int32)), (.ref b58)])) rfl rfl (hb hby at_88)
    refine own_by st76 ?_
    have va76 : Arv Z h76 b58 k58 .byte (8 : Int32) [(.int (nar .byte (xc.toInt8.toInt32))), (.int (nar .byte (((xc.toUInt32 >>> ((8 : Int32) &&& 31).toUInt32).toInt32).toInt8.toInt32))), (.int (nar .byte (((xa.toUInt32 >>> ((24 : Int32) &&& 31).toUInt32).toInt32).toInt8.toInt32))), (.int (nar .byte (((xc.toUInt32 >>> ((24 : Int32) &&& 31).toUInt32).toInt32).toInt8.toInt32))), (.int (nar .byte (xd.toInt8.toInt32))), (.int (nar .byte (((xd.toUInt32 >>> ((8 : Int32) &&& 31).toUInt32).toInt32).toInt8.toInt32))), (.int (nar .byte (((xd.toUInt32 >>> ((16 : Int32) &&& 31).toUInt32).toInt32).toInt8.toInt32))), (.int (nar .byte (((xd.toUInt32 >>> ((24 : Int32) &&& 31).toUInt32).toInt32).toInt8.toInt32)))] (.int (0 : Int32)) := Arv.set ar75 q75 sz75 nn75 hs75 gs75 (fits_nar_byte _) W76 2 rfl (Nat.le_of_ble_eq_true rfl)
    have z76 : n0 ≤ h76.size := Nat.le_trans z74 (Keep.of_wr W76).1
    have N76 := Fr.snoc X76 N74 ge58
    show own_Go p e below _ (T76.setTop (mkF m 89 #[.val (.int xa), .val (.int xb), .val (.int xc), .val (.int xd), .val (.int (2 : Int32)), .val (.ref b58)] []))
    refine own_by (fun _ => XS.aload X76.here hx rfl (hb hby at_89) rfl rfl) ?_
    show own_Go p e below _ (T76.setTop (mkF m 91 #[.val (.int xa), .val (.int xb), .val (.int xc), .val (.int xd), .val (.int (2 : Int32)), .val (.ref b58)] [(.ref b58)]))
    refine own_by (fun _ => XS.iload X76.here hx rfl (hb hby at_91) rfl) ?_
    show own_Go p e below _ (T76.setTop (mkF m 93 #[.val (.int xa), .val (.int xb), .val (.int xc), .val (.int xd), .val (.int (2 : Int32)), .val (.ref b58)] [(.int (2 : Int32)), (.ref b58)]))
    refine own_by (fun _ => XS.iconst X76.here hx rfl (hb hby at_93)) ?_
    show own_Go p e below _ (T76.setTop (mkF m 94 #[.val (.int xa), .val (.int xb), .val (.int xc), .val (.int xd), .val (.int (2 : Int32)), .val (.ref b58)] [(.int (1 : Int32)), (.int (2 : Int32)), (.ref b58)]))
    refine own_by (fun _ => XS.iadd X76.here hx rfl (hb hby at_94) rfl) ?_
    show own_Go p e below _ (T76.setTop (mkF m 95 #[.val (.int xa), .val (.int xb), .val (.int xc), .val (.int xd), .val (.int (2 : Int32)), .val (.ref b58)] [(.int (3 : Int32)), (.ref b58)]))
    refine own_by (fun _ => XS.iloadN X76.here hx rfl (hb hby at_95) rfl) ?_
    show own_Go p e below _ (T76.setTop (mkF m 96 #[.val (.int xa), .val (.int xb), .val (.int xc), .val (.int xd), .val (.int (2 : Int32)), .val (.ref b58)] [(.int xa), (.int (3 : Int32)), (.ref b58)]))
    refine own_by (fun _ => XS.bipush X76.here hx rfl (hb hby at_96)) ?_
    show own_Go p e below _ (T76.setTop (mkF m 98 #[.val (.int xa), .val (.int xb), .val (.int xc), .val (.int xd), .val (.int (2 : Int32)), .val (.ref b58)] [(.int (16 : Int32)), (.int xa), (.int (3 : Int32)), (.ref b58)]))
    refine own_by (fun _ => XS.iushr X76.here hx rfl (hb hby at_98) rfl) ?_
    show own_Go p e below _ (T76.setTop (mkF m 99 #[.val (.int xa), .val (.int xb), .val (.int xc), .val (.int xd), .val (.int (2 : Int32)), .val (.ref b58)] [(.int ((xa.toUInt32 >>> ((16 : Int32) &&& 31).toUInt32).toInt32)), (.int (3 : Int32)), (.ref b58)]))
    refine own_by (fun _ => XS.i2b X76.here hx rfl (hb hby at_99) rfl) ?_
    show own_Go p e below _ (T76.setTop (mkF m 100 #[.val (.int xa), .val (.int xb), .val (.int xc), .val (.int xd), .val (.int (2 : Int32)), .val (.ref b58)] [(.int (((xa.toUInt32 >>> ((16 : Int32) &&& 31).toUInt32).toInt32).toInt8.toInt32)), (.int (3 : Int32)), (.ref b58)]))
    obtain ⟨cl77, ar77, q77, sz77, nn77, hs77, gs77⟩ := id va76
    have hin77 : ¬ ((3 : Int32) < 0 ∨ cl77.slots.size ≤ ((3 : Int32)).toNatClampNeg) := inb_of sz77 ⟨by decide, by decide⟩
    obtain ⟨T78, h78, X78, e78, W78, st78⟩ := stB X76 hx hZ e76 ar77 (j := (3 : Int32)) hin77 (g := (mkF m 100 #[.val (.int xa), .val (.int xb), .val (.int xc), .val (.int xd), .val (.int (2 : Int32)), .val (.ref b58)] [(.int (((xa.toUInt32 >>> ((16 : Int32) &&& 31).toUInt32).toInt32).toInt8.toInt32)), (.int (3 : Int32)), (.ref b58)])) rfl rfl (hb hby at_100)
    refine own_by st78 ?_
    have va78 : Arv Z h78 b58 k58 .byte (8 : Int32) [(.int (nar .byte (xc.toInt8.toInt32))), (.int (nar .byte (((xc.toUInt32 >>> ((8 : Int32) &&& 31).toUInt32).toInt32).toInt8.toInt32))), (.int (nar .byte (((xa.toUInt32 >>> ((24 : Int32) &&& 31).toUInt32).toInt32).toInt8.toInt32))), (.int (nar .byte (((xa.toUInt32 >>> ((16 : Int32) &&& 31).toUInt32).toInt32).toInt8.toInt32))), (.int (nar .byte (xd.toInt8.toInt32))), (.int (nar .byte (((xd.toUInt32 >>> ((8 : Int32) &&& 31).toUInt32).toInt32).toInt8.toInt32))), (.int (nar .byte (((xd.toUInt32 >>> ((16 : Int32) &&& 31).toUInt32).toInt32).toInt8.toInt32))), (.int (nar .byte (((xd.toUInt32 >>> ((24 : Int32) &&& 31).toUInt32).toInt32).toInt8.toInt32)))] (.int (0 : Int32)) := Arv.set ar77 q77 sz77 nn77 hs77 gs77 (fits_nar_byte _) W78 3 rfl (Nat.le_of_ble_eq_true rfl)
    have z78 : n0 ≤ h78.size := Nat.le_trans z76 (Keep.of_wr W78).1
    have N78 := Fr.snoc X78 N76 ge58
    show own_Go p e below _ (T78.setTop (mkF m 101 #[.val (.int xa), .val (.int xb), .val (.int xc), .val (.int xd), .val (.int (2 : Int32)), .val (.ref b58)] []))
    refine own_by (fun _ => XS.aload X78.here hx rfl (hb hby at_101) rfl rfl) ?_
    show own_Go p e below _ (T78.setTop (mkF m 103 #[.val (.int xa), .val (.int xb), .val (.int xc), .val (.int xd), .val (.int (2 : Int32)), .val (.ref b58)] [(.ref b58)]))
    refine own_by (fun _ => XS.iload X78.here hx rfl (hb hby at_103) rfl) ?_
    show own_Go p e below _ (T78.setTop (mkF m 105 #[.val (.int xa), .val (.int xb), .val (.int xc), .val (.int xd), .val (.int (2 : Int32)), .val (.ref b58)] [(.int (2 : Int32)), (.ref b58)]))
    refine own_by (fun _ => XS.iconst X78.here hx rfl (hb hby at_105)) ?_
    show own_Go p e below _ (T78.setTop (mkF m 106 #[.val (.int xa), .val (.int xb), .val (.int xc), .val (.int xd), .val (.int (2 : Int32)), .val (.ref b58)] [(.int (2 : Int32)), (.int (2 : Int32)), (.ref b58)]))
    refine own_by (fun _ => XS.iadd X78.here hx rfl (hb hby at_106) rfl) ?_
    show own_Go p e below _ (T78.setTop (mkF m 107 #[.val (.int xa), .val (.int xb), .val (.int xc), .val (.int xd), .val (.int (2 : Int32)), .val (.ref b58)] [(.int (4 : Int32)), (.ref b58)]))
    refine own_by (fun _ => XS.iloadN X78.here hx rfl (hb hby at_107) rfl) ?_
    show own_Go p e below _ (T78.setTop (mkF m 108 #[.val (.int xa), .val (.int xb), .val (.int xc), .val (.int xd), .val (.int (2 : Int32)), .val (.ref b58)] [(.int xa), (.int (4 : Int32)), (.ref b58)]))
    refine own_by (fun _ => XS.bipush X78.here hx rfl (hb hby at_108)) ?_
    show own_Go p e below _ (T78.setTop (mkF m 110 #[.val (.int xa), .val (.int xb), .val (.int xc), .val (.int xd), .val (.int (2 : Int32)), .val (.ref b58)] [(.int (8 : Int32)), (.int xa), (.int (4 : Int32)), (.ref b58)]))
    refine own_by (fun _ => XS.iushr X78.here hx rfl (hb hby at_110) rfl) ?_
    show own_Go p e below _ (T78.setTop (mkF m 111 #[.val (.int xa), .val (.int xb), .val (.int xc), .val (.int xd), .val (.int (2 : Int32)), .val (.ref b58)] [(.int ((xa.toUInt32 >>> ((8 : Int32) &&& 31).toUInt32).toInt32)), (.int (4 : Int32)), (.ref b58)]))
    refine own_by (fun _ => XS.i2b X78.here hx rfl (hb hby at_111) rfl) ?_
    show own_Go p e below _ (T78.setTop (mkF m 112 #[.val (.int xa), .val (.int xb), .val (.int xc), .val (.int xd), .val (.int (2 : Int32)), .val (.ref b58)] [(.int (((xa.toUInt32 >>> ((8 : Int32) &&& 31).toUInt32).toInt32).toInt8.toInt32)), (.int (4 : Int32)), (.ref b58)]))
    obtain ⟨cl79, ar79, q79, sz79, nn79, hs79, gs79⟩ := id va78
    have hin79 : ¬ ((4 : Int32) < 0 ∨ cl79.slots.size ≤ ((4 : Int32)).toNatClampNeg) := inb_of sz79 ⟨by decide, by decide⟩
    obtain ⟨T80, h80, X80, e80, W80, st80⟩ := stB X78 hx hZ e78 ar79 (j := (4 : Int32)) hin79 (g := (mkF m 112 #[.val (.int xa), .val (.int xb), .val (.int xc), .val (.int xd), .val (.int (2 : Int32)), .val (.ref b58)] [(.int (((xa.toUInt32 >>> ((8 : Int32) &&& 31).toUInt32).toInt32).toInt8.toInt32)), (.int (4 : Int32)), (.ref b58)])) rfl rfl (hb hby at_112)
    refine own_by st80 ?_
    have va80 : Arv Z h80 b58 k58 .byte (8 : Int32) [(.int (nar .byte (xc.toInt8.toInt32))), (.int (nar .byte (((xc.toUInt32 >>> ((8 : Int32) &&& 31).toUInt32).toInt32).toInt8.toInt32))), (.int (nar .byte (((xa.toUInt32 >>> ((24 : Int32) &&& 31).toUInt32).toInt32).toInt8.toInt32))), (.int (nar .byte (((xa.toUInt32 >>> ((16 : Int32) &&& 31).toUInt32).toInt32).toInt8.toInt32))), (.int (nar .byte (((xa.toUInt32 >>> ((8 : Int32) &&& 31).toUInt32).toInt32).toInt8.toInt32))), (.int (nar .byte (((xd.toUInt32 >>> ((8 : Int32) &&& 31).toUInt32).toInt32).toInt8.toInt32))), (.int (nar .byte (((xd.toUInt32 >>> ((16 : Int32) &&& 31).toUInt32).toInt32).toInt8.toInt32))), (.int (nar .byte (((xd.toUInt32 >>> ((24 : Int32) &&& 31).toUInt32).toInt32).toInt8.toInt32)))] (.int (0 : Int32)) := Arv.set ar79 q79 sz79 nn79 hs79 gs79 (fits_nar_byte _) W80 4 rfl (Nat.le_of_ble_eq_true rfl)
    have z80 : n0 ≤ h80.size := Nat.le_trans z78 (Keep.of_wr W80).1
    have N80 := Fr.snoc X80 N78 ge58
    show own_Go p e below _ (T80.setTop (mkF m 113 #[.val (.int xa), .val (.int xb), .val (.int xc), .val (.int xd), .val (.int (2 : Int32)), .val (.ref b58)] []))
    refine own_by (fun _ => XS.aload X80.here hx rfl (hb hby at_113) rfl rfl) ?_
    show own_Go p e below _ (T80.setTop (mkF m 115 #[.val (.int xa), .val (.int xb), .val (.int xc), .val (.int xd), .val (.int (2 : Int32)), .val (.ref b58)] [(.ref b58)]))
    refine own_by (fun _ => XS.iload X80.here hx rfl (hb hby at_115) rfl) ?_
    show own_Go p e below _ (T80.setTop (mkF m 117 #[.val (.int xa), .val (.int xb), .val (.int xc), .val (.int xd), .val (.int (2 : Int32)), .val (.ref b58)] [(.int (2 : Int32)), (.ref b58)]))
    refine own_by (fun _ => XS.iconst X80.here hx rfl (hb hby at_117)) ?_
    show own_Go p e below _ (T80.setTop (mkF m 118 #[.val (.int xa), .val (.int xb), .val (.int xc), .val (.int xd), .val (.int (2 : Int32)), .val (.ref b58)] [(.int (3 : Int32)), (.int (2 : Int32)), (.ref b58)]))
    refine own_by (fun _ => XS.iadd X80.here hx rfl (hb hby at_118) rfl) ?_
    show own_Go p e below _ (T80.setTop (mkF m 119 #[.val (.int xa), .val (.int xb), .val (.int xc), .val (.int xd), .val (.int (2 : Int32)), .val (.ref b58)] [(.int (5 : Int32)), (.ref b58)]))
    refine own_by (fun _ => XS.iloadN X80.here hx rfl (hb hby at_119) rfl) ?_
    show own_Go p e below _ (T80.setTop (mkF m 120 #[.val (.int xa), .val (.int xb), .val (.int xc), .val (.int xd), .val (.int (2 : Int32)), .val (.ref b58)] [(.int xa), (.int (5 : Int32)), (.ref b58)]))
    refine own_by (fun _ => XS.i2b X80.here hx rfl (hb hby at_120) rfl) ?_
    show own_Go p e below _ (T80.setTop (mkF m 121 #[.val (.int xa), .val (.int xb), .val (.int xc), .val (.int xd), .val (.int (2 : Int32)), .val (.ref b58)] [(.int (xa.toInt8.toInt32)), (.int (5 : Int32)), (.ref b58)]))
    obtain ⟨cl81, ar81, q81, sz81, nn81, hs81, gs81⟩ := id va80
    have hin81 : ¬ ((5 : Int32) < 0 ∨ cl81.slots.size ≤ ((5 : Int32)).toNatClampNeg) := inb_of sz81 ⟨by decide, by decide⟩
    obtain ⟨T82, h82, X82, e82, W82, st82⟩ := stB X80 hx hZ e80 ar81 (j := (5 : Int32)) hin81 (g := (mkF m 121 #[.val (.int xa), .val (.int xb), .val (.int xc), .val (.int xd), .val (.int (2 : Int32)), .val (.ref b58)] [(.int (xa.toInt8.toInt32)), (.int (5 : Int32)), (.ref b58)])) rfl rfl (hb hby at_121)
    refine own_by st82 ?_
    have va82 : Arv Z h82 b58 k58 .byte (8 : Int32) [(.int (nar .byte (xc.toInt8.toInt32))), (.int (nar .byte (((xc.toUInt32 >>> ((8 : Int32) &&& 31).toUInt32).toInt32).toInt8.toInt32))), (.int (nar .byte (((xa.toUInt32 >>> ((24 : Int32) &&& 31).toUInt32).toInt32).toInt8.toInt32))), (.int (nar .byte (((xa.toUInt32 >>> ((16 : Int32) &&& 31).toUInt32).toInt32).toInt8.toInt32))), (.int (nar .byte (((xa.toUInt32 >>> ((8 : Int32) &&& 31).toUInt32).toInt32).toInt8.toInt32))), (.int (nar .byte (xa.toInt8.toInt32))), (.int (nar .byte (((xd.toUInt32 >>> ((16 : Int32) &&& 31).toUInt32).toInt32).toInt8.toInt32))), (.int (nar .byte (((xd.toUInt32 >>> ((24 : Int32) &&& 31).toUInt32).toInt32).toInt8.toInt32)))] (.int (0 : Int32)) := Arv.set ar81 q81 sz81 nn81 hs81 gs81 (fits_nar_byte _) W82 5 rfl (Nat.le_of_ble_eq_true rfl)
    have z82 : n0 ≤ h82.size := Nat.le_trans z80 (Keep.of_wr W82).1
    have N82 := Fr.snoc X82 N80 ge58
    show own_Go p e below _ (T82.setTop (mkF m 122 #[.val (.int xa), .val (.int xb), .val (.int xc), .val (.int xd), .val (.int (2 : Int32)), .val (.ref b58)] []))
    refine own_by (fun _ => XS.aload X82.here hx rfl (hb hby at_122) rfl rfl) ?_
    show own_Go p e below _ (T82.setTop (mkF m 124 #[.val (.int xa), .val (.int xb), .val (.int xc), .val (.int xd), .val (.int (2 : Int32)), .val (.ref b58)] [(.ref b58)]))
    refine own_by (fun _ => XS.iload X82.here hx rfl (hb hby at_124) rfl) ?_
    show own_Go p e below _ (T82.setTop (mkF m 126 #[.val (.int xa), .val (.int xb), .val (.int xc), .val (.int xd), .val (.int (2 : Int32)), .val (.ref b58)] [(.int (2 : Int32)), (.ref b58)]))
    obtain ⟨_, _, ⟨T83, L83, k83, n83⟩, -, X83, ⟨Lc83, hQ83, l83, y83, z83'⟩, st83⟩ := Jvm.LawKit.callS X82 hx (y := (⟨"com/example/mirrorline/mirrorline/store/RecordFormat", "intAt", "([BI)I"⟩ : MethodName)) hown (mvT hZ (hw _ (List.mem_of_getElem? (i := 1) rfl))) (mvT hZ (hw _ (List.mem_of_getElem? (i := 2) rfl))) (mvT hZ (hw _ (List.mem_of_getElem? (i := 3) rfl))) (mvT hZ (hw _ (List.mem_of_getElem? (i := 4) rfl))) (by decide) (backOf (W := 0) (own_rm1 l Z a0 hw [] b58 (2 : Int32) k58 [(nar .byte (xc.toInt8.toInt32)), (nar .byte (((xc.toUInt32 >>> ((8 : Int32) &&& 31).toUInt32).toInt32).toInt8.toInt32)), (nar .byte (((xa.toUInt32 >>> ((24 : Int32) &&& 31).toUInt32).toInt32).toInt8.toInt32)), (nar .byte (((xa.toUInt32 >>> ((16 : Int32) &&& 31).toUInt32).toInt32).toInt8.toInt32)), (nar .byte (((xa.toUInt32 >>> ((8 : Int32) &&& 31).toUInt32).toInt32).toInt8.toInt32)), (nar .byte (xa.toInt8.toInt32)), (nar .byte (((xd.toUInt32 >>> ((16 : Int32) &&& 31).toUInt32).toInt32).toInt8.toInt32)), (nar .byte (((xd.toUInt32 >>> ((24 : Int32) &&& 31).toUInt32).toInt32).toInt8.toInt32))] h82 n0 z82 va82 (by decide : ¬ ((2 : Int32) < (0 : Int32))) (by decide : (2 : Int32) < (5 : Int32))) hZ (hw _ (List.mem_of_getElem? (i := 4) rfl)) (hw _ (List.mem_of_getElem? (i := 3) rfl)) (by decide) (by decide)) (g := (mkF m 126 #[.val (.int xa), .val (.int xb), .val (.int xc), .val (.int xd), .val (.int (2 : Int32)), .val (.ref b58)] [(.int (2 : Int32)), (.ref b58)])) rfl (by rw [hml]; rfl) (argsL := [(.ref b58), (.int (2 : Int32))]) (rest := []) (lenOf own_pd0 rfl) rfl (by show 2 * 0 + _ ≤ _; exact Nat.le_of_eq rfl) (hb hby at_126) (fun _ _ => ⟨rfl, e82, (by decide : 1 + 0 ≤ _), (by decide : 8 + 0 ≤ _)⟩)
    dsimp only [Pt.U, Pt.locs, Pt.cells, Pt.slots] at X83 l83 y83 z83' st83 hQ83
    subst l83 y83 z83'
    obtain ⟨rfl, N83q, e83⟩ := hQ83
    have N83 := Fr.app N82 N83q
    refine own_by st83 ?_
    show own_Go p e below _ (T83.setTop (mkF m 129 #[.val (.int xa), .val (.int xb), .val (.int xc), .val (.int xd), .val (.int (2 : Int32)), .val (.ref b58)] [(.int (own_intAt (2 : Int32) [(nar .byte (xc.toInt8.toInt32)), (nar .byte (((xc.toUInt32 >>> ((8 : Int32) &&& 31).toUInt32).toInt32).toInt8.toInt32)), (nar .byte (((xa.toUInt32 >>> ((24 : Int32) &&& 31).toUInt32).toInt32).toInt8.toInt32)), (nar .byte (((xa.toUInt32 >>> ((16 : Int32) &&& 31).toUInt32).toInt32).toInt8.toInt32)), (nar .byte (((xa.toUInt32 >>> ((8 : Int32) &&& 31).toUInt32).toInt32).toInt8.toInt32)), (nar .byte (xa.toInt8.toInt32)), (nar .byte (((xd.toUInt32 >>> ((16 : Int32) &&& 31).toUInt32).toInt32).toInt8.toInt32)), (nar .byte (((xd.toUInt32 >>> ((24 : Int32) &&& 31).toUInt32).toInt32).toInt8.toInt32))]))]))
    refine own_by (fun _ => XS.iloadN X83.here hx rfl (hb hby at_129) rfl) ?_
    show own_Go p e below _ (T83.setTop (mkF m 130 #[.val (.int xa), .val (.int xb), .val (.int xc), .val (.int xd), .val (.int (2 : Int32)), .val (.ref b58)] [(.int xa), (.int (own_intAt (2 : Int32) [(nar .byte (xc.toInt8.toInt32)), (nar .byte (((xc.toUInt32 >>> ((8 : Int32) &&& 31).toUInt32).toInt32).toInt8.toInt32)), (nar .byte (((xa.toUInt32 >>> ((24 : Int32) &&& 31).toUInt32).toInt32).toInt8.toInt32)), (nar .byte (((xa.toUInt32 >>> ((16 : Int32) &&& 31).toUInt32).toInt32).toInt8.toInt32)), (nar .byte (((xa.toUInt32 >>> ((8 : Int32) &&& 31).toUInt32).toInt32).toInt8.toInt32)), (nar .byte (xa.toInt8.toInt32)), (nar .byte (((xd.toUInt32 >>> ((16 : Int32) &&& 31).toUInt32).toInt32).toInt8.toInt32)), (nar .byte (((xd.toUInt32 >>> ((24 : Int32) &&& 31).toUInt32).toInt32).toInt8.toInt32))]))]))
    suffices J84 : ∀ (T' : State) (v84_t0 : Int32), v84_t0 = (if (own_intAt (2 : Int32) [(nar .byte (xc.toInt8.toInt32)), (nar .byte (((xc.toUInt32 >>> ((8 : Int32) &&& 31).toUInt32).toInt32).toInt8.toInt32)), (nar .byte (((xa.toUInt32 >>> ((24 : Int32) &&& 31).toUInt32).toInt32).toInt8.toInt32)), (nar .byte (((xa.toUInt32 >>> ((16 : Int32) &&& 31).toUInt32).toInt32).toInt8.toInt32)), (nar .byte (((xa.toUInt32 >>> ((8 : Int32) &&& 31).toUInt32).toInt32).toInt8.toInt32)), (nar .byte (xa.toInt8.toInt32)), (nar .byte (((xd.toUInt32 >>> ((16 : Int32) &&& 31).toUInt32).toInt32).toInt8.toInt32)), (nar .byte (((xd.toUInt32 >>> ((24 : Int32) &&& 31).toUInt32).toInt32).toInt8.toInt32))]) = xa then (1 : Int32) else (0 : Int32)) → own_At p l e room_1 s m #[(.int xa), (.int xb), (.int xc), (.int xd)] below meth c n0 T' h82 1 8 → own_Go p e below (own_End s below (own_Q0 Z xa xb xc xd h0 n0) room_1.cells room_1.slots) (T'.setTop (mkF m 138 #[.val (.int xa), .val (.int xb), .val (.int xc), .val (.int xd), .val (.int (2 : Int32)), .val (.ref b58)] [(.int v84_t0)])) by
      by_cases hc130_85 : (own_intAt (2 : Int32) [(nar .byte (xc.toInt8.toInt32)), (nar .byte (((xc.toUInt32 >>> ((8 : Int32) &&& 31).toUInt32).toInt32).toInt8.toInt32)), (nar .byte (((xa.toUInt32 >>> ((24 : Int32) &&& 31).toUInt32).toInt32).toInt8.toInt32)), (nar .byte (((xa.toUInt32 >>> ((16 : Int32) &&& 31).toUInt32).toInt32).toInt8.toInt32)), (nar .byte (((xa.toUInt32 >>> ((8 : Int32) &&& 31).toUInt32).toInt32).toInt8.toInt32)), (nar .byte (xa.toInt8.toInt32)), (nar .byte (((xd.toUInt32 >>> ((16 : Int32) &&& 31).toUInt32).toInt32).toInt8.toInt32)), (nar .byte (((xd.toUInt32 >>> ((24 : Int32) &&& 31).toUInt32).toInt32).toInt8.toInt32))]) = xa
      ·
        skip
        refine own_by (fun _ => XS.icmpNo X83.here hx rfl (hb hby at_130) rfl (teq hc130_85).2) ?_
        show own_Go p e below _ (T83.setTop (mkF m 133 #[.val (.int xa), .val (.int xb), .val (.int xc), .val (.int xd), .val (.int (2 : Int32)), .val (.ref b58)] []))
        refine own_by (fun _ => XS.iconst X83.here hx rfl (hb hby at_133)) ?_
        show own_Go p e below _ (T83.setTop (mkF m 134 #[.val (.int xa), .val (.int xb), .val (.int xc), .val (.int xd), .val (.int (2 : Int32)), .val (.ref b58)] [(.int (1 : Int32))]))
        refine own_by (fun _ => XS.goto X83.here hx rfl (pc0 := 134) (pc' := 138) rfl (hb hby at_134) (by decide) (by decide)) ?_
        show own_Go p e below _ (T83.setTop (mkF m 138 #[.val (.int xa), .val (.int xb), .val (.int xc), .val (.int xd), .val (.int (2 : Int32)), .val (.ref b58)] [(.int (1 : Int32))]))
        exact J84 _ _ (by first | rfl | simp only [if_pos hc130_85]) ⟨_, X83, N83, e83⟩
      ·
        skip
        refine own_by (fun _ => XS.icmpYes X83.here hx rfl (pc0 := 130) (pc' := 137) rfl (hb hby at_130) rfl (feq hc130_85).2 (by decide) (by decide)) ?_
        show own_Go p e below _ (T83.setTop (mkF m 137 #[.val (.int xa), .val (.int xb), .val (.int xc), .val (.int xd), .val (.int (2 : Int32)), .val (.ref b58)] []))
        refine own_by (fun _ => XS.iconst X83.here hx rfl (hb hby at_137)) ?_
        show own_Go p e below _ (T83.setTop (mkF m 138 #[.val (.int xa), .val (.int xb), .val (.int xc), .val (.int xd), .val (.int (2 : Int32)), .val (.ref b58)] [(.int (0 : Int32))]))
        exact J84 _ _ (by first | rfl | simp only [if_neg hc130_85]) ⟨_, X83, N83, e83⟩
    intro T84 v84_t0 hv84_t0 ⟨locs84, X84, N84, e84⟩
    show own_Go p e below _ (T84.setTop (mkF m 138 #[.val (.int xa), .val (.int xb), .val (.int xc), .val (.int xd), .val (.int (2 : Int32)), .val (.ref b58)] [(.int v84_t0)]))
    exact own_retZ X84 hx hlk e84 (by rw [hv84_t0]; (repeat' split) <;> first | exact Or.inl rfl | exact Or.inr rfl) hret (hb hby at_138) (by decide) (by decide) ⟨(congrArg some (congrArg Value.int (by subst hv84_t0; have own_p := own_plain xa xb xc xd; simp only [own_law, if_neg (own_neq hs1 (by decide) : ¬ ((xb &&& (3 : Int32)) = (0 : Int32))), if_neg (own_neq hs1 (by decide) : ¬ ((xb &&& (3 : Int32)) = (1 : Int32))), if_pos hs1] at own_p; exact own_p : v84_t0 = (1 : Int32)))), N84⟩
  ·
    skip
    rw [hs1]
    show own_Go p e below _ (s₁.setTop (mkF m 5 #[.val (.int xa), .val (.int xb), .val (.int xc), .val (.int xd), .val (.int (3 : Int32)), .unset] []))
    refine own_by (fun _ => XS.bipush X0.here hx rfl (hb hby at_5)) ?_
    show own_Go p e below _ (s₁.setTop (mkF m 7 #[.val (.int xa), .val (.int xb), .val (.int xc), .val (.int xd), .val (.int (3 : Int32)), .unset] [(.int (8 : Int32))]))
    obtain ⟨T86, h86, k86, X86, e86, E86, A86, st86⟩ := newP X0 hx hZ (hw _ (List.mem_of_getElem? (i := 0) rfl)) e0 (g := (mkF m 7 #[.val (.int xa), .val (.int xb), .val (.int xc), .val (.int xd), .val (.int (3 : Int32)), .unset] [(.int (8 : Int32))])) rfl (hb hby at_7) rfl (by decide) (cap := 8) (by decide) (by decide) (by decide) (by decide)
    obtain ⟨b86, g86⟩ : ∃ z, z = h0.size := ⟨_, rfl⟩
    rw [← g86] at A86 st86
    refine own_by st86 ?_
    have ge86 : n0 ≤ b86 := Nat.le_trans Z0 (Nat.le_of_eq g86.symm)
    have z86 : n0 ≤ h86.size := Nat.le_trans Z0 E86.1
    have va86 : Arv Z h86 b86 k86 .byte (8 : Int32) [(.int (0 : Int32)), (.int (0 : Int32)), (.int (0 : Int32)), (.int (0 : Int32)), (.int (0 : Int32)), (.int (0 : Int32)), (.int (0 : Int32)), (.int (0 : Int32))] (.int (0 : Int32)) := (Arv.new A86 (by decide)).pad (pad_rep [] (.int (0 : Int32)) 8)
    show own_Go p e below _ (T86.setTop (mkF m 9 #[.val (.int xa), .val (.int xb), .val (.int xc), .val (.int xd), .val (.int (3 : Int32)), .unset] [(.ref b86)]))
    refine own_by (fun _ => XS.astore X86.here hx rfl (hb hby at_9) rfl rfl (l' := #[.val (.int xa), .val (.int xb), .val (.int xc), .val (.int xd), .val (.int (3 : Int32)), .val (.ref b86)]) rfl) ?_
    show own_Go p e below _ (T86.setTop (mkF m 11 #[.val (.int xa), .val (.int xb), .val (.int xc), .val (.int xd), .val (.int (3 : Int32)), .val (.ref b86)] []))
    refine own_by (fun _ => XS.aload X86.here hx rfl (hb hby at_11) rfl rfl) ?_
    show own_Go p e below _ (T86.setTop (mkF m 13 #[.val (.int xa), .val (.int xb), .val (.int xc), .val (.int xd), .val (.int (3 : Int32)), .val (.ref b86)] [(.ref b86)]))
    refine own_by (fun _ => XS.iconst X86.here hx rfl (hb hby at_13)) ?_
    show own_Go p e below _ (T86.setTop (mkF m 14 #[.val (.int xa), .val (.int xb), .val (.int xc), .val (.int xd), .val (.int (3 : Int32)), .val (.ref b86)] [(.int (0 : Int32)), (.ref b86)]))
    refine own_by (fun _ => XS.iloadN X86.here hx rfl (hb hby at_14) rfl) ?_
    show own_Go p e below _ (T86.setTop (mkF m 15 #[.val (.int xa), .val (.int xb), .val (.int xc), .val (.int xd), .val (.int (3 : Int32)), .val (.ref b86)] [(.int xc), (.int (0 : Int32)), (.ref b86)]))
    refine own_by (fun _ => XS.i2b X86.here hx rfl (hb hby at_15) rfl) ?_
    show own_Go p e below _ (T86.setTop (mkF m 16 #[.val (.int xa), .val (.int xb), .val (.int xc), .val (.int xd), .val (.int (3 : Int32)), .val (.ref b86)] [(.int (xc.toInt8.toInt32)), (.int (0 : Int32)), (.ref b86)]))
    obtain ⟨cl87, ar87, q87, sz87, nn87, hs87, gs87⟩ := id va86
    have hin87 : ¬ ((0 : Int32) < 0 ∨ cl87.slots.size ≤ ((0 : Int32)).toNatClampNeg) := inb_of sz87 ⟨by decide, by decide⟩
    obtain ⟨T88, h88, X88, e88, W88, st88⟩ := stB X86 hx hZ e86 ar87 (j := (0 : Int32)) hin87 (g := (mkF m 16 #[.val (.int xa), .val (.int xb), .val (.int xc), .val (.int xd), .val (.int (3 : Int32)), .val (.ref b86)] [(.int (xc.toInt8.toInt32)), (.int (0 : Int32)), (.ref b86)])) rfl rfl (hb hby at_16)
    refine own_by st88 ?_
    have va88 : Arv Z h88 b86 k86 .byte (8 : Int32) [(.int (nar .byte (xc.toInt8.toInt32))), (.int (0 : Int32)), (.int (0 : Int32)), (.int (0 : Int32)), (.int (0 : Int32)), (.int (0 : Int32)), (.int (0 : Int32)), (.int (0 : Int32))] (.int (0 : Int32)) := Arv.set ar87 q87 sz87 nn87 hs87 gs87 (fits_nar_byte _) W88 0 rfl (Nat.le_of_ble_eq_true rfl)
    have z88 : n0 ≤ h88.size := Nat.le_trans z86 (Keep.of_wr W88).1
    have N88 := Fr.snoc X88 N0 ge86
    show own_Go p e below _ (T88.setTop (mkF m 17 #[.val (.int xa), .val (.int xb), .val (.int xc), .val (.int xd), .val (.int (3 : Int32)), .val (.ref b86)] []))
    refine own_by (fun _ => XS.aload X88.here hx rfl (hb hby at_17) rfl rfl) ?_
    show own_Go p e below _ (T88.setTop (mkF m 19 #[.val (.int xa), .val (.int xb), .val (.int xc), .val (.int xd), .val (.int (3 : Int32)), .val (.ref b86)] [(.ref b86)]))
    refine own_by (fun _ => XS.iconst X88.here hx rfl (hb hby at_19)) ?_
    show own_Go p e below _ (T88.setTop (mkF m 20 #[.val (.int xa), .val (.int xb), .val (.int xc), .val (.int xd), .val (.int (3 : Int32)), .val (.ref b86)] [(.int (1 : Int32)), (.ref b86)]))
    refine own_by (fun _ => XS.iloadN X88.here hx rfl (hb hby at_20) rfl) ?_
    show own_Go p e below _ (T88.setTop (mkF m 21 #[.val (.int xa), .val (.int xb), .val (.int xc), .val (.int xd), .val (.int (3 : Int32)), .val (.ref b86)] [(.int xc), (.int (1 : Int32)), (.ref b86)]))
    refine own_by (fun _ => XS.bipush X88.here hx rfl (hb hby at_21)) ?_
    show own_Go p e below _ (T88.setTop (mkF m 23 #[.val (.int xa), .val (.int xb), .val (.int xc), .val (.int xd), .val (.int (3 : Int32)), .val (.ref b86)] [(.int (8 : Int32)), (.int xc), (.int (1 : Int32)), (.ref b86)]))
    refine own_by (fun _ => XS.iushr X88.here hx rfl (hb hby at_23) rfl) ?_
    show own_Go p e below _ (T88.setTop (mkF m 24 #[.val (.int xa), .val (.int xb), .val (.int xc), .val (.int xd), .val (.int (3 : Int32)), .val (.ref b86)] [(.int ((xc.toUInt32 >>> ((8 : Int32) &&& 31).toUInt32).toInt32)), (.int (1 : Int32)), (.ref b86)]))
    refine own_by (fun _ => XS.i2b X88.here hx rfl (hb hby at_24) rfl) ?_
    show own_Go p e below _ (T88.setTop (mkF m 25 #[.val (.int xa), .val (.int xb), .val (.int xc), .val (.int xd), .val (.int (3 : Int32)), .val (.ref b86)] [(.int (((xc.toUInt32 >>> ((8 : Int32) &&& 31).toUInt32).toInt32).toInt8.toInt32)), (.int (1 : Int32)), (.ref b86)]))
    obtain ⟨cl89, ar89, q89, sz89, nn89, hs89, gs89⟩ := id va88
    have hin89 : ¬ ((1 : Int32) < 0 ∨ cl89.slots.size ≤ ((1 : Int32)).toNatClampNeg) := inb_of sz89 ⟨by decide, by decide⟩
    obtain ⟨T90, h90, X90, e90, W90, st90⟩ := stB X88 hx hZ e88 ar89 (j := (1 : Int32)) hin89 (g := (mkF m 25 #[.val (.int xa), .val (.int xb), .val (.int xc), .val (.int xd), .val (.int (3 : Int32)), .val (.ref b86)] [(.int (((xc.toUInt32 >>> ((8 : Int32) &&& 31).toUInt32).toInt32).toInt8.toInt32)), (.int (1 : Int32)), (.ref b86)])) rfl rfl (hb hby at_25)
    refine own_by st90 ?_
    have va90 : Arv Z h90 b86 k86 .byte (8 : Int32) [(.int (nar .byte (xc.toInt8.toInt32))), (.int (nar .byte (((xc.toUInt32 >>> ((8 : Int32) &&& 31).toUInt32).toInt32).toInt8.toInt32))), (.int (0 : Int32)), (.int (0 : Int32)), (.int (0 : Int32)), (.int (0 : Int32)), (.int (0 : Int32)), (.int (0 : Int32))] (.int (0 : Int32)) := Arv.set ar89 q89 sz89 nn89 hs89 gs89 (fits_nar_byte _) W90 1 rfl (Nat.le_of_ble_eq_true rfl)
    have z90 : n0 ≤ h90.size := Nat.le_trans z88 (Keep.of_wr W90).1
    have N90 := Fr.snoc X90 N88 ge86
    show own_Go p e below _ (T90.setTop (mkF m 26 #[.val (.int xa), .val (.int xb), .val (.int xc), .val (.int xd), .val (.int (3 : Int32)), .val (.ref b86)] []))
    refine own_by (fun _ => XS.aload X90.here hx rfl (hb hby at_26) rfl rfl) ?_
    show own_Go p e below _ (T90.setTop (mkF m 28 #[.val (.int xa), .val (.int xb), .val (.int xc), .val (.int xd), .val (.int (3 : Int32)), .val (.ref b86)] [(.ref b86)]))
    refine own_by (fun _ => XS.iconst X90.here hx rfl (hb hby at_28)) ?_
    show own_Go p e below _ (T90.setTop (mkF m 29 #[.val (.int xa), .val (.int xb), .val (.int xc), .val (.int xd), .val (.int (3 : Int32)), .val (.ref b86)] [(.int (2 : Int32)), (.ref b86)]))
    refine own_by (fun _ => XS.iloadN X90.here hx rfl (hb hby at_29) rfl) ?_
    show own_Go p e below _ (T90.setTop (mkF m 30 #[.val (.int xa), .val (.int xb), .val (.int xc), .val (.int xd), .val (.int (3 : Int32)), .val (.ref b86)] [(.int xc), (.int (2 : Int32)), (.ref b86)]))
    refine own_by (fun _ => XS.bipush X90.here hx rfl (hb hby at_30)) ?_
    show own_Go p e below _ (T90.setTop (mkF m 32 #[.val (.int xa), .val (.int xb), .val (.int xc), .val (.int xd), .val (.int (3 : Int32)), .val (.ref b86)] [(.int (16 : Int32)), (.int xc), (.int (2 : Int32)), (.ref b86)]))
    refine own_by (fun _ => XS.iushr X90.here hx rfl (hb hby at_32) rfl) ?_
    show own_Go p e below _ (T90.setTop (mkF m 33 #[.val (.int xa), .val (.int xb), .val (.int xc), .val (.int xd), .val (.int (3 : Int32)), .val (.ref b86)] [(.int ((xc.toUInt32 >>> ((16 : Int32) &&& 31).toUInt32).toInt32)), (.int (2 : Int32)), (.ref b86)]))
    refine own_by (fun _ => XS.i2b X90.here hx rfl (hb hby at_33) rfl) ?_
    show own_Go p e below _ (T90.setTop (mkF m 34 #[.val (.int xa), .val (.int xb), .val (.int xc), .val (.int xd), .val (.int (3 : Int32)), .val (.ref b86)] [(.int (((xc.toUInt32 >>> ((16 : Int32) &&& 31).toUInt32).toInt32).toInt8.toInt32)), (.int (2 : Int32)), (.ref b86)]))
    obtain ⟨cl91, ar91, q91, sz91, nn91, hs91, gs91⟩ := id va90
    have hin91 : ¬ ((2 : Int32) < 0 ∨ cl91.slots.size ≤ ((2 : Int32)).toNatClampNeg) := inb_of sz91 ⟨by decide, by decide⟩
    obtain ⟨T92, h92, X92, e92, W92, st92⟩ := stB X90 hx hZ e90 ar91 (j := (2 : Int32)) hin91 (g := (mkF m 34 #[.val (.int xa), .val (.int xb), .val (.int xc), .val (.int xd), .val (.int (3 : Int32)), .val (.ref b86)] [(.int (((xc.toUInt32 >>> ((16 : Int32) &&& 31).toUInt32).toInt32).toInt8.toInt32)), (.int (2 : Int32)), (.ref b86)])) rfl rfl (hb hby at_34)
    refine own_by st92 ?_
    have va92 : Arv Z h92 b86 k86 .byte (8 : Int32) [(.int (nar .byte (xc.toInt8.toInt32))), (.int (nar .byte (((xc.toUInt32 >>> ((8 : Int32) &&& 31).toUInt32).toInt32).toInt8.toInt32))), (.int (nar .byte (((xc.toUInt32 >>> ((16 : Int32) &&& 31).toUInt32).toInt32).toInt8.toInt32))), (.int (0 : Int32)), (.int (0 : Int32)), (.int (0 : Int32)), (.int (0 : Int32)), (.int (0 : Int32))] (.int (0 : Int32)) := Arv.set ar91 q91 sz91 nn91 hs91 gs91 (fits_nar_byte _) W92 2 rfl (Nat.le_of_ble_eq_true rfl)
    have z92 : n0 ≤ h92.size := Nat.le_trans z90 (Keep.of_wr W92).1
    have N92 := Fr.snoc X92 N90 ge86
    show own_Go p e below _ (T92.setTop (mkF m 35 #[.val (.int xa), .val (.int xb), .val (.int xc), .val (.int xd), .val (.int (3 : Int32)), .val (.ref b86)] []))
    refine own_by (fun _ => XS.aload X92.here hx rfl (hb hby at_35) rfl rfl) ?_
    show own_Go p e below _ (T92.setTop (mkF m 37 #[.val (.int xa), .val (.int xb), .val (.int xc), .val (.int xd), .val (.int (3 : Int32)), .val (.ref b86)] [(.ref b86)]))
    refine own_by (fun _ => XS.iconst X92.here hx rfl (hb hby at_37)) ?_
    show own_Go p e below _ (T92.setTop (mkF m 38 #[.val (.int xa), .val (.int xb), .val (.int xc), .val (.int xd), .val (.int (3 : Int32)), .val (.ref b86)] [(.int (3 : Int32)), (.ref b86)]))
    refine own_by (fun _ => XS.iloadN X92.here hx rfl (hb hby at_38) rfl) ?_
    show own_Go p e below _ (T92.setTop (mkF m 39 #[.val (.int xa), .val (.int xb), .val (.int xc), .val (.int xd), .val (.int (3 : Int32)), .val (.ref b86)] [(.int xc), (.int (3 : Int32)), (.ref b86)]))
    refine own_by (fun _ => XS.bipush X92.here hx rfl (hb hby at_39)) ?_
    show own_Go p e below _ (T92.setTop (mkF m 41 #[.val (.int xa), .val (.int xb), .val (.int xc), .val (.int xd), .val (.int (3 : Int32)), .val (.ref b86)] [(.int (24 : Int32)), (.int xc), (.int (3 : Int32)), (.ref b86)]))
    refine own_by (fun _ => XS.iushr X92.here hx rfl (hb hby at_41) rfl) ?_
    show own_Go p e below _ (T92.setTop (mkF m 42 #[.val (.int xa), .val (.int xb), .val (.int xc), .val (.int xd), .val (.int (3 : Int32)), .val (.ref b86)] [(.int ((xc.toUInt32 >>> ((24 : Int32) &&& 31).toUInt32).toInt32)), (.int (3 : Int32)), (.ref b86)]))
    refine own_by (fun _ => XS.i2b X92.here hx rfl (hb hby at_42) rfl) ?_
    show own_Go p e below _ (T92.setTop (mkF m 43 #[.val (.int xa), .val (.int xb), .val (.int xc), .val (.int xd), .val (.int (3 : Int32)), .val (.ref b86)] [(.int (((xc.toUInt32 >>> ((24 : Int32) &&& 31).toUInt32).toInt32).toInt8.toInt32)), (.int (3 : Int32)), (.ref b86)]))
    obtain ⟨cl93, ar93, q93, sz93, nn93, hs93, gs93⟩ := id va92
    have hin93 : ¬ ((3 : Int32) < 0 ∨ cl93.slots.size ≤ ((3 : Int32)).toNatClampNeg) := inb_of sz93 ⟨by decide, by decide⟩
    obtain ⟨T94, h94, X94, e94, W94, st94⟩ := stB X92 hx hZ e92 ar93 (j := (3 : Int32)) hin93 (g := (mkF m 43 #[.val (.int xa), .val (.int xb), .val (.int xc), .val (.int xd), .val (.int (3 : Int32)), .val (.ref b86)] [(.int (((xc.toUInt32 >>> ((24 : Int32) &&& 31).toUInt32).toInt32).toInt8.toInt32)), (.int (3 : Int32)), (.ref b86)])) rfl rfl (hb hby at_43)
    refine own_by st94 ?_
    have va94 : Arv Z h94 b86 k86 .byte (8 : Int32) [(.int (nar .byte (xc.toInt8.toInt32))), (.int (nar .byte (((xc.toUInt32 >>> ((8 : Int32) &&& 31).toUInt32).toInt32).toInt8.toInt32))), (.int (nar .byte (((xc.toUInt32 >>> ((16 : Int32) &&& 31).toUInt32).toInt32).toInt8.toInt32))), (.int (nar .byte (((xc.toUInt32 >>> ((24 : Int32) &&& 31).toUInt32).toInt32).toInt8.toInt32))), (.int (0 : Int32)), (.int (0 : Int32)), (.int (0 : Int32)), (.int (0 : Int32))] (.int (0 : Int32)) := Arv.set ar93 q93 sz93 nn93 hs93 gs93 (fits_nar_byte _) W94 3 rfl (Nat.le_of_ble_eq_true rfl)
    have z94 : n0 ≤ h94.size := Nat.le_trans z92 (Keep.of_wr W94).1
    have N94 := Fr.snoc X94 N92 ge86
    show own_Go p e below _ (T94.setTop (mkF m 44 #[.val (.int xa), .val (.int xb), .val (.int xc), .val (.int xd), .val (.int (3 : Int32)), .val (.ref b86)] []))
    refine own_by (fun _ => XS.aload X94.here hx rfl (hb hby at_44) rfl rfl) ?_
    show own_Go p e below _ (T94.setTop (mkF m 46 #[.val (.int xa), .val (.int xb), .val (.int xc), .val (.int xd), .val (.int (3 : Int32)), .val (.ref b86)] [(.ref b86)]))
    refine own_by (fun _ => XS.iconst X94.here hx rfl (hb hby at_46)) ?_
    show own_Go p e below _ (T94.setTop (mkF m 47 #[.val (.int xa), .val (.int xb), .val (.int xc), .val (.int xd), .val (.int (3 : Int32)), .val (.ref b86)] [(.int (4 : Int32)), (.ref b86)]))
    refine own_by (fun _ => XS.iloadN X94.here hx rfl (hb hby at_47) rfl) ?_
    show own_Go p e below _ (T94.setTop (mkF m 48 #[.val (.int xa), .val (.int xb), .val (.int xc), .val (.int xd), .val (.int (3 : Int32)), .val (.ref b86)] [(.int xd), (.int (4 : Int32)), (.ref b86)]))
    refine own_by (fun _ => XS.i2b X94.here hx rfl (hb hby at_48) rfl) ?_
    show own_Go p e below _ (T94.setTop (mkF m 49 #[.val (.int xa), .val (.int xb), .val (.int xc), .val (.int xd), .val (.int (3 : Int32)), .val (.ref b86)] [(.int (xd.toInt8.toInt32)), (.int (4 : Int32)), (.ref b86)]))
    obtain ⟨cl95, ar95, q95, sz95, nn95, hs95, gs95⟩ := id va94
    have hin95 : ¬ ((4 : Int32) < 0 ∨ cl95.slots.size ≤ ((4 : Int32)).toNatClampNeg) := inb_of sz95 ⟨by decide, by decide⟩
    obtain ⟨T96, h96, X96, e96, W96, st96⟩ := stB X94 hx hZ e94 ar95 (j := (4 : Int32)) hin95 (g := (mkF m 49 #[.val (.int xa), .val (.int xb), .val (.int xc), .val (.int xd), .val (.int (3 : Int32)), .val (.ref b86)] [(.int (xd.toInt8.toInt32)), (.int (4 : Int32)), (.ref b86)])) rfl rfl (hb hby at_49)
    refine own_by st96 ?_
    have va96 : Arv Z h96 b86 k86 .byte (8 : Int32) [(.int (nar .byte (xc.toInt8.toInt32))), (.int (nar .byte (((xc.toUInt32 >>> ((8 : Int32) &&& 31).toUInt32).toInt32).toInt8.toInt32))), (.int (nar .byte (((xc.toUInt32 >>> ((16 : Int32) &&& 31).toUInt32).toInt32).toInt8.toInt32))), (.int (nar .byte (((xc.toUInt32 >>> ((24 : Int32) &&& 31).toUInt32).toInt32).toInt8.toInt32))), (.int (nar .byte (xd.toInt8.toInt32))), (.int (0 : Int32)), (.int (0 : Int32)), (.int (0 : Int32))] (.int (0 : Int32)) := Arv.set ar95 q95 sz95 nn95 hs95 gs95 (fits_nar_byte _) W96 4 rfl (Nat.le_of_ble_eq_true rfl)
    have z96 : n0 ≤ h96.size := Nat.le_trans z94 (Keep.of_wr W96).1
    have N96 := Fr.snoc X96 N94 ge86
    show own_Go p e below _ (T96.setTop (mkF m 50 #[.val (.int xa), .val (.int xb), .val (.int xc), .val (.int xd), .val (.int (3 : Int32)), .val (.ref b86)] []))
    refine own_by (fun _ => XS.aload X96.here hx rfl (hb hby at_50) rfl rfl) ?_
    show own_Go p e below _ (T96.setTop (mkF m 52 #[.val (.int xa), .val (.int xb), .val (.int xc), .val (.int xd), .val (.int (3 : Int32)), .val (.ref b86)] [(.ref b86)]))
    refine own_by (fun _ => XS.iconst X96.here hx rfl (hb hby at_52)) ?_
    show own_Go p e below _ (T96.setTop (mkF m 53 #[.val (.int xa), .val (.int xb), .val (.int xc), .val (.int xd), .val (.int (3 : Int32)), .val (.ref b86)] [(.int (5 : Int32)), (.ref b86)]))
    refine own_by (fun _ => XS.iloadN X96.here hx rfl (hb hby at_53) rfl) ?_
    show own_Go p e below _ (T96.setTop (mkF m 54 #[.val (.int xa), .val (.int xb), .val (.int xc), .val (.int xd), .val (.int (3 : Int32)), .val (.ref b86)] [(.int xd), (.int (5 : Int32)), (.ref b86)]))
    refine own_by (fun _ => XS.bipush X96.here hx rfl (hb hby at_54)) ?_
    show own_Go p e below _ (T96.setTop (mkF m 56 #[.val (.int xa), .val (.int xb), .val (.int xc), .val (.int xd), .val (.int (3 : Int32)), .val (.ref b86)] [(.int (8 : Int32)), (.int xd), (.int (5 : Int32)), (.ref b86)]))
    refine own_by (fun _ => XS.iushr X96.here hx rfl (hb hby at_56) rfl) ?_
    show own_Go p e below _ (T96.setTop (mkF m 57 #[.val (.int xa), .val (.int xb), .val (.int xc), .val (.int xd), .val (.int (3 : Int32)), .val (.ref b86)] [(.int ((xd.toUInt32 >>> ((8 : Int32) &&& 31).toUInt32).toInt32)), (.int (5 : Int32)), (.ref b86)]))
    refine own_by (fun _ => XS.i2b X96.here hx rfl (hb hby at_57) rfl) ?_
    show own_Go p e below _ (T96.setTop (mkF m 58 #[.val (.int xa), .val (.int xb), .val (.int xc), .val (.int xd), .val (.int (3 : Int32)), .val (.ref b86)] [(.int (((xd.toUInt32 >>> ((8 : Int32) &&& 31).toUInt32).toInt32).toInt8.toInt32)), (.int (5 : Int32)), (.ref b86)]))
    obtain ⟨cl97, ar97, q97, sz97, nn97, hs97, gs97⟩ := id va96
    have hin97 : ¬ ((5 : Int32) < 0 ∨ cl97.slots.size ≤ ((5 : Int32)).toNatClampNeg) := inb_of sz97 ⟨by decide, by decide⟩
    obtain ⟨T98, h98, X98, e98, W98, st98⟩ := stB X96 hx hZ e96 ar97 (j := (5 : Int32)) hin97 (g := (mkF m 58 #[.val (.int xa), .val (.int xb), .val (.int xc), .val (.int xd), .val (.int (3 : Int32)), .val (.ref b86)] [(.int (((xd.toUInt32 >>> ((8 : Int32) &&& 31).toUInt32).toInt32).toInt8.toInt32)), (.int (5 : Int32)), (.ref b86)])) rfl rfl (hb hby at_58)
    refine own_by st98 ?_
    have va98 : Arv Z h98 b86 k86 .byte (8 : Int32) [(.int (nar .byte (xc.toInt8.toInt32))), (.int (nar .byte (((xc.toUInt32 >>> ((8 : Int32) &&& 31).toUInt32).toInt32).toInt8.toInt32))), (.int (nar .byte (((xc.toUInt32 >>> ((16 : Int32) &&& 31).toUInt32).toInt32).toInt8.toInt32))), (.int (nar .byte (((xc.toUInt32 >>> ((24 : Int32) &&& 31).toUInt32).toInt32).toInt8.toInt32))), (.int (nar .byte (xd.toInt8.toInt32))), (.int (nar .byte (((xd.toUInt32 >>> ((8 : Int32) &&& 31).toUInt32).toInt32).toInt8.toInt32))), (.int (0 : Int32)), (.int (0 : Int32))] (.int (0 : Int32)) := Arv.set ar97 q97 sz97 nn97 hs97 gs97 (fits_nar_byte _) W98 5 rfl (Nat.le_of_ble_eq_true rfl)
    have z98 : n0 ≤ h98.size := Nat.le_trans z96 (Keep.of_wr W98).1
    have N98 := Fr.snoc X98 N96 ge86
    show own_Go p e below _ (T98.setTop (mkF m 59 #[.val (.int xa), .val (.int xb), .val (.int xc), .val (.int xd), .val (.int (3 : Int32)), .val (.ref b86)] []))
    refine own_by (fun _ => XS.aload X98.here hx rfl (hb hby at_59) rfl rfl) ?_
    show own_Go p e below _ (T98.setTop (mkF m 61 #[.val (.int xa), .val (.int xb), .val (.int xc), .val (.int xd), .val (.int (3 : Int32)), .val (.ref b86)] [(.ref b86)]))
    refine own_by (fun _ => XS.bipush X98.here hx rfl (hb hby at_61)) ?_
    show own_Go p e below _ (T98.setTop (mkF m 63 #[.val (.int xa), .val (.int xb), .val (.int xc), .val (.int xd), .val (.int (3 : Int32)), .val (.ref b86)] [(.int (6 : Int32)), (.ref b86)]))
    refine own_by (fun _ => XS.iloadN X98.here hx rfl (hb hby at_63) rfl) ?_
    show own_Go p e below _ (T98.setTop (mkF m 64 #[.val (.int xa), .val (.int xb), .val (.int xc), .val (.int xd), .val (.int (3 : Int32)), .val (.ref b86)] [(.int xd), (.int (6 : Int32)), (.ref b86)]))
    refine own_by (fun _ => XS.bipush X98.here hx rfl (hb hby at_64)) ?_
    show own_Go p e below _ (T98.setTop (mkF m 66 #[.val (.int xa), .val (.int xb), .val (.int xc), .val (.int xd), .val (.int (3 : Int32)), .val (.ref b86)] [(.int (16 : Int32)), (.int xd), (.int (6 : Int32)), (.ref b86)]))
    refine own_by (fun _ => XS.iushr X98.here hx rfl (hb hby at_66) rfl) ?_
    show own_Go p e below _ (T98.setTop (mkF m 67 #[.val (.int xa), .val (.int xb), .val (.int xc), .val (.int xd), .val (.int (3 : Int32)), .val (.ref b86)] [(.int ((xd.toUInt32 >>> ((16 : Int32) &&& 31).toUInt32).toInt32)), (.int (6 : Int32)), (.ref b86)]))
    refine own_by (fun _ => XS.i2b X98.here hx rfl (hb hby at_67) rfl) ?_
    show own_Go p e below _ (T98.setTop (mkF m 68 #[.val (.int xa), .val (.int xb), .val (.int xc), .val (.int xd), .val (.int (3 : Int32)), .val (.ref b86)] [(.int (((xd.toUInt32 >>> ((16 : Int32) &&& 31).toUInt32).toInt32).toInt8.toInt32)), (.int (6 : Int32)), (.ref b86)]))
    obtain ⟨cl99, ar99, q99, sz99, nn99, hs99, gs99⟩ := id va98
    have hin99 : ¬ ((6 : Int32) < 0 ∨ cl99.slots.size ≤ ((6 : Int32)).toNatClampNeg) := inb_of sz99 ⟨by decide, by decide⟩
    obtain ⟨T100, h100, X100, e100, W100, st100⟩ := stB X98 hx hZ e98 ar99 (j := (6 : Int32)) hin99 (g := (mkF m 68 #[.val (.int xa), .val (.int xb), .val (.int xc), .val (.int xd), .val (.int (3 : Int32)), .val (.ref b86)] [(.int (((xd.toUInt32 >>> ((16 : Int32) &&& 31).toUInt32).toInt32).toInt8.toInt32)), (.int (6 : Int32)), (.ref b86)])) rfl rfl (hb hby at_68)
    refine own_by st100 ?_
    have va100 : Arv Z h100 b86 k86 .byte (8 : Int32) [(.int (nar .byte (xc.toInt8.toInt32))), (.int (nar .byte (((xc.toUInt32 >>> ((8 : Int32) &&& 31).toUInt32).toInt32).toInt8.toInt32))), (.int (nar .byte (((xc.toUInt32 >>> ((16 : Int32) &&& 31).toUInt32).toInt32).toInt8.toInt32))), (.int (nar .byte (((xc.toUInt32 >>> ((24 : Int32) &&& 31).toUInt32).toInt32).toInt8.toInt32))), (.int (nar .byte (xd.toInt8.toInt32))), (.int (nar .byte (((xd.toUInt32 >>> ((8 : Int32) &&& 31).toUInt32).toInt32).toInt8.toInt32))), (.int (nar .byte (((xd.toUInt32 >>> ((16 : Int32) &&& 31).toUInt32).toInt32).toInt8.toInt32))), (.int (0 : Int32))] (.int (0 : Int32)) := Arv.set ar99 q99 sz99 nn99 hs99 gs99 (fits_nar_byte _) W100 6 rfl (Nat.le_of_ble_eq_true rfl)
    have z100 : n0 ≤ h100.size := Nat.le_trans z98 (Keep.of_wr W100).1
    have N100 := Fr.snoc X100 N98 ge86
    show own_Go p e below _ (T100.setTop (mkF m 69 #[.val (.int xa), .val (.int xb), .val (.int xc), .val (.int xd), .val (.int (3 : Int32)), .val (.ref b86)] []))
    refine own_by (fun _ => XS.aload X100.here hx rfl (hb hby at_69) rfl rfl) ?_
    show own_Go p e below _ (T100.setTop (mkF m 71 #[.val (.int xa), .val (.int xb), .val (.int xc), .val (.int xd), .val (.int (3 : Int32)), .val (.ref b86)] [(.ref b86)]))
    refine own_by (fun _ => XS.bipush X100.here hx rfl (hb hby at_71)) ?_
    show own_Go p e below _ (T100.setTop (mkF m 73 #[.val (.int xa), .val (.int xb), .val (.int xc), .val (.int xd), .val (.int (3 : Int32)), .val (.ref b86)] [(.int (7 : Int32)), (.ref b86)]))
    refine own_by (fun _ => XS.iloadN X100.here hx rfl (hb hby at_73) rfl) ?_
    show own_Go p e below _ (T100.setTop (mkF m 74 #[.val (.int xa), .val (.int xb), .val (.int xc), .val (.int xd), .val (.int (3 : Int32)), .val (.ref b86)] [(.int xd), (.int (7 : Int32)), (.ref b86)]))
    refine own_by (fun _ => XS.bipush X100.here hx rfl (hb hby at_74)) ?_
    show own_Go p e below _ (T100.setTop (mkF m 76 #[.val (.int xa), .val (.int xb), .val (.int xc), .val (.int xd), .val (.int (3 : Int32)), .val (.ref b86)] [(.int (24 : Int32)), (.int xd), (.int (7 : Int32)), (.ref b86)]))
    refine own_by (fun _ => XS.iushr X100.here hx rfl (hb hby at_76) rfl) ?_
    show own_Go p e below _ (T100.setTop (mkF m 77 #[.val (.int xa), .val (.int xb), .val (.int xc), .val (.int xd), .val (.int (3 : Int32)), .val (.ref b86)] [(.int ((xd.toUInt32 >>> ((24 : Int32) &&& 31).toUInt32).toInt32)), (.int (7 : Int32)), (.ref b86)]))
    refine own_by (fun _ => XS.i2b X100.here hx rfl (hb hby at_77) rfl) ?_
    show own_Go p e below _ (T100.setTop (mkF m 78 #[.val (.int xa), .val (.int xb), .val (.int xc), .val (.int xd), .val (.int (3 : Int32)), .val (.ref b86)] [(.int (((xd.toUInt32 >>> ((24 : Int32) &&& 31).toUInt32).toInt32).toInt8.toInt32)), (.int (7 : Int32)), (.ref b86)]))
    obtain ⟨cl101, ar101, q101, sz101, nn101, hs101, gs101⟩ := id va100
    have hin101 : ¬ ((7 : Int32) < 0 ∨ cl101.slots.size ≤ ((7 : Int32)).toNatClampNeg) := inb_of sz101 ⟨by decide, by decide⟩
    obtain ⟨T102, h102, X102, e102, W102, st102⟩ := stB X100 hx hZ e100 ar101 (j := (7 : Int32)) hin101 (g := (mkF m 78 #[.val (.int xa), .val (.int xb), .val (.int xc), .val (.int xd), .val (.int (3 : Int32)), .val (.ref b86)] [(.int (((xd.toUInt32 >>> ((24 : Int32) &&& 31).toUInt32).toInt32).toInt8.toInt32)), (.int (7 : Int32)), (.ref b86)])) rfl rfl (hb hby at_78)
    refine own_by st102 ?_
    have va102 : Arv Z h102 b86 k86 .byte (8 : Int32) [(.int (nar .byte (xc.toInt8.toInt32))), (.int (nar .byte (((xc.toUInt32 >>> ((8 : Int32) &&& 31).toUInt32).toInt32).toInt8.toInt32))), (.int (nar .byte (((xc.toUInt32 >>> ((16 : Int32) &&& 31).toUInt32).toInt32).toInt8.toInt32))), (.int (nar .byte (((xc.toUInt32 >>> ((24 : Int32) &&& 31).toUInt32).toInt32).toInt8.toInt32))), (.int (nar .byte (xd.toInt8.toInt32))), (.int (nar .byte (((xd.toUInt32 >>> ((8 : Int32) &&& 31).toUInt32).toInt32).toInt8.toInt32))), (.int (nar .byte (((xd.toUInt32 >>> ((16 : Int32) &&& 31).toUInt32).toInt32).toInt8.toInt32))), (.int (nar .byte (((xd.toUInt32 >>> ((24 : Int32) &&& 31).toUInt32).toInt32).toInt8.toInt32)))] (.int (0 : Int32)) := Arv.set ar101 q101 sz101 nn101 hs101 gs101 (fits_nar_byte _) W102 7 rfl (Nat.le_of_ble_eq_true rfl)
    have z102 : n0 ≤ h102.size := Nat.le_trans z100 (Keep.of_wr W102).1
    have N102 := Fr.snoc X102 N100 ge86
    show own_Go p e below _ (T102.setTop (mkF m 79 #[.val (.int xa), .val (.int xb), .val (.int xc), .val (.int xd), .val (.int (3 : Int32)), .val (.ref b86)] []))
    refine own_by (fun _ => XS.aload X102.here hx rfl (hb hby at_79) rfl rfl) ?_
    show own_Go p e below _ (T102.setTop (mkF m 81 #[.val (.int xa), .val (.int xb), .val (.int xc), .val (.int xd), .val (.int (3 : Int32)), .val (.ref b86)] [(.ref b86)]))
    refine own_by (fun _ => XS.iload X102.here hx rfl (hb hby at_81) rfl) ?_
    show own_Go p e below _ (T102.setTop (mkF m 83 #[.val (.int xa), .val (.int xb), .val (.int xc), .val (.int xd), .val (.int (3 : Int32)), .val (.ref b86)] [(.int (3 : Int32)), (.ref b86)]))
    refine own_by (fun _ => XS.iloadN X102.here hx rfl (hb hby at_83) rfl) ?_
    show own_Go p e below _ (T102.setTop (mkF m 84 #[.val (.int xa), .val (.int xb), .val (.int xc), .val (.int xd), .val (.int (3 : Int32)), .val (.ref b86)] [(.int xa), (.int (3 : Int32)), (.ref b86)]))
    refine own_by (fun _ => XS.bipush X102.here hx rfl (hb hby at_84)) ?_
    show own_Go p e below _ (T102.setTop (mkF m 86 #[.val (.int xa), .val (.int xb), .val (.int xc), .val (.int xd), .val (.int (3 : Int32)), .val (.ref b86)] [(.int (24 : Int32)), (.int xa), (.int (3 : Int32)), (.ref b86)]))
    refine own_by (fun _ => XS.iushr X102.here hx rfl (hb hby at_86) rfl) ?_
    show own_Go p e below _ (T102.setTop (mkF m 87 #[.val (.int xa), .val (.int xb), .val (.int xc), .val (.int xd), .val (.int (3 : Int32)), .val (.ref b86)] [(.int ((xa.toUInt32 >>> ((24 : Int32) &&& 31).toUInt32).toInt32)), (.int (3 : Int32)), (.ref b86)]))
    refine own_by (fun _ => XS.i2b X102.here hx rfl (hb hby at_87) rfl) ?_
    show own_Go p e below _ (T102.setTop (mkF m 88 #[.val (.int xa), .val (.int xb), .val (.int xc), .val (.int xd), .val (.int (3 : Int32)), .val (.ref b86)] [(.int (((xa.toUInt32 >>> ((24 : Int32) &&& 31).toUInt32).toInt32).toInt8.toInt32)), (.int (3 : Int32)), (.ref b86)]))
    obtain ⟨cl103, ar103, q103, sz103, nn103, hs103, gs103⟩ := id va102
    have hin103 : ¬ ((3 : Int32) < 0 ∨ cl103.slots.size ≤ ((3 : Int32)).toNatClampNeg) := inb_of sz103 ⟨by decide, by decide⟩
    obtain ⟨T104, h104, X104, e104, W104, st104⟩ := stB X102 hx hZ e102 ar103 (j := (3 : Int32)) hin103 (g := (mkF m 88 #[.val (.int xa), .val (.int xb), .val (.int xc), .val (.int xd), .val (.int (3 : Int32)), .val (.ref b86)] [(.int (((xa.toUInt32 >>> ((24 : Int32) &&& 31).toUInt32).toInt32).toInt8.toInt32)), (.int (3 : Int32)), (.ref b86)])) rfl rfl (hb hby at_88)
    refine own_by st104 ?_
    have va104 : Arv Z h104 b86 k86 .byte (8 : Int32) [(.int (nar .byte (xc.toInt8.toInt32))), (.int (nar .byte (((xc.toUInt32 >>> ((8 : Int32) &&& 31).toUInt32).toInt32).toInt8.toInt32))), (.int (nar .byte (((xc.toUInt32 >>> ((16 : Int32) &&& 31).toUInt32).toInt32).toInt8.toInt32))), (.int (nar .byte (((xa.toUInt32 >>> ((24 : Int32) &&& 31).toUInt32).toInt32).toInt8.toInt32))), (.int (nar .byte (xd.toInt8.toInt32))), (.int (nar .byte (((xd.toUInt32 >>> ((8 : Int32) &&& 31).toUInt32).toInt32).toInt8.toInt32))), (.int (nar .byte (((xd.toUInt32 >>> ((16 : Int32) &&& 31).toUInt32).toInt32).toInt8.toInt32))), (.int (nar .byte (((xd.toUInt32 >>> ((24 : Int32) &&& 31).toUInt32).toInt32).toInt8.toInt32)))] (.int (0 : Int32)) := Arv.set ar103 q103 sz103 nn103 hs103 gs103 (fits_nar_byte _) W104 3 rfl (Nat.le_of_ble_eq_true rfl)
    have z104 : n0 ≤ h104.size := Nat.le_trans z102 (Keep.of_wr W104).1
    have N104 := Fr.snoc X104 N102 ge86
    show own_Go p e below _ (T104.setTop (mkF m 89 #[.val (.int xa), .val (.int xb), .val (.int xc), .val (.int xd), .val (.int (3 : Int32)), .val (.ref b86)] []))
    refine own_by (fun _ => XS.aload X104.here hx rfl (hb hby at_89) rfl rfl) ?_
    show own_Go p e below _ (T104.setTop (mkF m 91 #[.val (.int xa), .val (.int xb), .val (.int xc), .val (.int xd), .val (.int (3 : Int32)), .val (.ref b86)] [(.ref b86)]))
    refine own_by (fun _ => XS.iload X104.here hx rfl (hb hby at_91) rfl) ?_
    show own_Go p e below _ (T104.setTop (mkF m 93 #[.val (.int xa), .val (.int xb), .val (.int xc), .val (.int xd), .val (.int (3 : Int32)), .val (.ref b86)] [(.int (3 : Int32)), (.ref b86)]))
    refine own_by (fun _ => XS.iconst X104.here hx rfl (hb hby at_93)) ?_
    show own_Go p e below _ (T104.setTop (mkF m 94 #[.val (.int xa), .val (.int xb), .val (.int xc), .val (.int xd), .val (.int (3 : Int32)), .val (.ref b86)] [(.int (1 : Int32)), (.int (3 : Int32)), (.ref b86)]))
    refine own_by (fun _ => XS.iadd X104.here hx rfl (hb hby at_94) rfl) ?_
    show own_Go p e below _ (T104.setTop (mkF m 95 #[.val (.int xa), .val (.int xb), .val (.int xc), .val (.int xd), .val (.int (3 : Int32)), .val (.ref b86)] [(.int (4 : Int32)), (.ref b86)]))
    refine own_by (fun _ => XS.iloadN X104.here hx rfl (hb hby at_95) rfl) ?_
    show own_Go p e below _ (T104.setTop (mkF m 96 #[.val (.int xa), .val (.int xb), .val (.int xc), .val (.int xd), .val (.int (3 : Int32)), .val (.ref b86)] [(.int xa), (.int (4 : Int32)), (.ref b86)]))
    refine own_by (fun _ => XS.bipush X104.here hx rfl (hb hby at_96)) ?_
    show own_Go p e below _ (T104.setTop (mkF m 98 #[.val (.int xa), .val (.int xb), .val (.int xc), .val (.int xd), .val (.int (3 : Int32)), .val (.ref b86)] [(.int (16 : Int32)), (.int xa), (.int (4 : Int32)), (.ref b86)]))
    refine own_by (fun _ => XS.iushr X104.here hx rfl (hb hby at_98) rfl) ?_
    show own_Go p e below _ (T104.setTop (mkF m 99 #[.val (.int xa), .val (.int xb), .val (.int xc), .val (.int xd), .val (.int (3 : Int32)), .val (.ref b86)] [(.int ((xa.toUInt32 >>> ((16 : Int32) &&& 31).toUInt32).toInt32)), (.int (4 : Int32)), (.ref b86)]))
    refine own_by (fun _ => XS.i2b X104.here hx rfl (hb hby at_99) rfl) ?_
    show own_Go p e below _ (T104.setTop (mkF m 100 #[.val (.int xa), .val (.int xb), .val (.int xc), .val (.int xd), .val (.int (3 : Int32)), .val (.ref b86)] [(.int (((xa.toUInt32 >>> ((16 : Int32) &&& 31).toUInt32).toInt32).toInt8.toInt32)), (.int (4 : Int32)), (.ref b86)]))
    obtain ⟨cl105, ar105, q105, sz105, nn105, hs105, gs105⟩ := id va104
    have hin105 : ¬ ((4 : Int32) < 0 ∨ cl105.slots.size ≤ ((4 : Int32)).toNatClampNeg) := inb_of sz105 ⟨by decide, by decide⟩
    obtain ⟨T106, h106, X106, e106, W106, st106⟩ := stB X104 hx hZ e104 ar105 (j := (4 : Int32)) hin105 (g := (mkF m 100 #[.val (.int xa), .val (.int xb), .val (.int xc), .val (.int xd), .val (.int (3 : Int32)), .val (.ref b86)] [(.int (((xa.toUInt32 >>> ((16 : Int32) &&& 31).toUInt32).toInt32).toInt8.toInt32)), (.int (4 : Int32)), (.ref b86)])) rfl rfl (hb hby at_100)
    refine own_by st106 ?_
    have va106 : Arv Z h106 b86 k86 .byte (8 : Int32) [(.int (nar .byte (xc.toInt8.toInt32))), (.int (nar .byte (((xc.toUInt32 >>> ((8 : Int32) &&& 31).toUInt32).toInt32).toInt8.toInt32))), (.int (nar .byte (((xc.toUInt32 >>> ((16 : Int32) &&& 31).toUInt32).toInt32).toInt8.toInt32))), (.int (nar .byte (((xa.toUInt32 >>> ((24 : Int32) &&& 31).toUInt32).toInt32).toInt8.toInt32))), (.int (nar .byte (((xa.toUInt32 >>> ((16 : Int32) &&& 31).toUInt32).toInt32).toInt8.toInt32))), (.int (nar .byte (((xd.toUInt32 >>> ((8 : Int32) &&& 31).toUInt32).toInt32).toInt8.toInt32))), (.int (nar .byte (((xd.toUInt32 >>> ((16 : Int32) &&& 31).toUInt32).toInt32).toInt8.toInt32))), (.int (nar .byte (((xd.toUInt32 >>> ((24 : Int32) &&& 31).toUInt32).toInt32).toInt8.toInt32)))] (.int (0 : Int32)) := Arv.set ar105 q105 sz105 nn105 hs105 gs105 (fits_nar_byte _) W106 4 rfl (Nat.le_of_ble_eq_true rfl)
    have z106 : n0 ≤ h106.size := Nat.le_trans z104 (Keep.of_wr W106).1
    have N106 := Fr.snoc X106 N104 ge86
    show own_Go p e below _ (T106.setTop (mkF m 101 #[.val (.int xa), .val (.int xb), .val (.int xc), .val (.int xd), .val (.int (3 : Int32)), .val (.ref b86)] []))
    refine own_by (fun _ => XS.aload X106.here hx rfl (hb hby at_101) rfl rfl) ?_
    show own_Go p e below _ (T106.setTop (mkF m 103 #[.val (.int xa), .val (.int xb), .val (.int xc), .val (.int xd), .val (.int (3 : Int32)), .val (.ref b86)] [(.ref b86)]))
    refine own_by (fun _ => XS.iload X106.here hx rfl (hb hby at_103) rfl) ?_
    show own_Go p e below _ (T106.setTop (mkF m 105 #[.val (.int xa), .val (.int xb), .val (.int xc), .val (.int xd), .val (.int (3 : Int32)), .val (.ref b86)] [(.int (3 : Int32)), (.ref b86)]))
    refine own_by (fun _ => XS.iconst X106.here hx rfl (hb hby at_105)) ?_
    show own_Go p e below _ (T106.setTop (mkF m 106 #[.val (.int xa), .val (.int xb), .val (.int xc), .val (.int xd), .val (.int (3 : Int32)), .val (.ref b86)] [(.int (2 : Int32)), (.int (3 : Int32)), (.ref b86)]))
    refine own_by (fun _ => XS.iadd X106.here hx rfl (hb hby at_106) rfl) ?_
    show own_Go p e below _ (T106.setTop (mkF m 107 #[.val (.int xa), .val (.int xb), .val (.int xc), .val (.int xd), .val (.int (3 : Int32)), .val (.ref b86)] [(.int (5 : Int32)), (.ref b86)]))
    refine own_by (fun _ => XS.iloadN X106.here hx rfl (hb hby at_107) rfl) ?_
    show own_Go p e below _ (T106.setTop (mkF m 108 #[.val (.int xa), .val (.int xb), .val (.int xc), .val (.int xd), .val (.int (3 : Int32)), .val (.ref b86)] [(.int xa), (.int (5 : Int32)), (.ref b86)]))
    refine own_by (fun _ => XS.bipush X106.here hx rfl (hb hby at_108)) ?_
    show own_Go p e below _ (T106.setTop (mkF m 110 #[.val (.int xa), .val (.int xb), .val (.int xc), .val (.int xd), .val (.int (3 : Int32)), .val (.ref b86)] [(.int (8 : Int32)), (.int xa), (.int (5 : Int32)), (.ref b86)]))
    refine own_by (fun _ => XS.iushr X106.here hx rfl (hb hby at_110) rfl) ?_
    show own_Go p e below _ (T106.setTop (mkF m 111 #[.val (.int xa), .val (.int xb), .val (.int xc), .val (.int xd), .val (.int (3 : Int32)), .val (.ref b86)] [(.int ((xa.toUInt32 >>> ((8 : Int32) &&& 31).toUInt32).toInt32)), (.int (5 : Int32)), (.ref b86)]))
    refine own_by (fun _ => XS.i2b X106.here hx rfl (hb hby at_111) rfl) ?_
    show own_Go p e below _ (T106.setTop (mkF m 112 #[.val (.int xa), .val (.int xb), .val (.int xc), .val (.int xd), .val (.int (3 : Int32)), .val (.ref b86)] [(.int (((xa.toUInt32 >>> ((8 : Int32) &&& 31).toUInt32).toInt32).toInt8.toInt32)), (.int (5 : Int32)), (.ref b86)]))
    obtain ⟨cl107, ar107, q107, sz107, nn107, hs107, gs107⟩ := id va106
    have hin107 : ¬ ((5 : Int32) < 0 ∨ cl107.slots.size ≤ ((5 : Int32)).toNatClampNeg) := inb_of sz107 ⟨by decide, by decide⟩
    obtain ⟨T108, h108, X108, e108, W108, st108⟩ := stB X106 hx hZ e106 ar107 (j := (5 : Int32)) hin107 (g := (mkF m 112 #[.val (.int xa), .val (.int xb), .val (.int xc), .val (.int xd), .val (.int (3 : Int32)), .val (.ref b86)] [(.int (((xa.toUInt32 >>> ((8 : Int32) &&& 31).toUInt32).toInt32).toInt8.toInt32)), (.int (5 : Int32)), (.ref b86)])) rfl rfl (hb hby at_112)
    refine own_by st108 ?_
    have va108 : Arv Z h108 b86 k86 .byte (8 : Int32) [(.int (nar .byte (xc.toInt8.toInt32))), (.int (nar .byte (((xc.toUInt32 >>> ((8 : Int32) &&& 31).toUInt32).toInt32).toInt8.toInt32))), (.int (nar .byte (((xc.toUInt32 >>> ((16 : Int32) &&& 31).toUInt32).toInt32).toInt8.toInt32))), (.int (nar .byte (((xa.toUInt32 >>> ((24 : Int32) &&& 31).toUInt32).toInt32).toInt8.toInt32))), (.int (nar .byte (((xa.toUInt32 >>> ((16 : Int32) &&& 31).toUInt32).toInt32).toInt8.toInt32))), (.int (nar .byte (((xa.toUInt32 >>> ((8 : Int32) &&& 31).toUInt32).toInt32).toInt8.toInt32))), (.int (nar .byte (((xd.toUInt32 >>> ((16 : Int32) &&& 31).toUInt32).toInt32).toInt8.toInt32))), (.int (nar .byte (((xd.toUInt32 >>> ((24 : Int32) &&& 31).toUInt32).toInt32).toInt8.toInt32)))] (.int (0 : Int32)) := Arv.set ar107 q107 sz107 nn107 hs107 gs107 (fits_nar_byte _) W108 5 rfl (Nat.le_of_ble_eq_true rfl)
    have z108 : n0 ≤ h108.size := Nat.le_trans z106 (Keep.of_wr W108).1
    have N108 := Fr.snoc X108 N106 ge86
    show own_Go p e below _ (T108.setTop (mkF m 113 #[.val (.int xa), .val (.int xb), .val (.int xc), .val (.int xd), .val (.int (3 : Int32)), .val (.ref b86)] []))
    refine own_by (fun _ => XS.aload X108.here hx rfl (hb hby at_113) rfl rfl) ?_
    show own_Go p e below _ (T108.setTop (mkF m 115 #[.val (.int xa), .val (.int xb), .val (.int xc), .val (.int xd), .val (.int (3 : Int32)), .val (.ref b86)] [(.ref b86)]))
    refine own_by (fun _ => XS.iload X108.here hx rfl (hb hby at_115) rfl) ?_
    show own_Go p e below _ (T108.setTop (mkF m 117 #[.val (.int xa), .val (.int xb), .val (.int xc), .val (.int xd), .val (.int (3 : Int32)), .val (.ref b86)] [(.int (3 : Int32)), (.ref b86)]))
    refine own_by (fun _ => XS.iconst X108.here hx rfl (hb hby at_117)) ?_
    show own_Go p e below _ (T108.setTop (mkF m 118 #[.val (.int xa), .val (.int xb), .val (.int xc), .val (.int xd), .val (.int (3 : Int32)), .val (.ref b86)] [(.int (3 : Int32)), (.int (3 : Int32)), (.ref b86)]))
    refine own_by (fun _ => XS.iadd X108.here hx rfl (hb hby at_118) rfl) ?_
    show own_Go p e below _ (T108.setTop (mkF m 119 #[.val (.int xa), .val (.int xb), .val (.int xc), .val (.int xd), .val (.int (3 : Int32)), .val (.ref b86)] [(.int (6 : Int32)), (.ref b86)]))
    refine own_by (fun _ => XS.iloadN X108.here hx rfl (hb hby at_119) rfl) ?_
    show own_Go p e below _ (T108.setTop (mkF m 120 #[.val (.int xa), .val (.int xb), .val (.int xc), .val (.int xd), .val (.int (3 : Int32)), .val (.ref b86)] [(.int xa), (.int (6 : Int32)), (.ref b86)]))
    refine own_by (fun _ => XS.i2b X108.here hx rfl (hb hby at_120) rfl) ?_
    show own_Go p e below _ (T108.setTop (mkF m 121 #[.val (.int xa), .val (.int xb), .val (.int xc), .val (.int xd), .val (.int (3 : Int32)), .val (.ref b86)] [(.int (xa.toInt8.toInt32)), (.int (6 : Int32)), (.ref b86)]))
    obtain ⟨cl109, ar109, q109, sz109, nn109, hs109, gs109⟩ := id va108
    have hin109 : ¬ ((6 : Int32) < 0 ∨ cl109.slots.size ≤ ((6 : Int32)).toNatClampNeg) := inb_of sz109 ⟨by decide, by decide⟩
    obtain ⟨T110, h110, X110, e110, W110, st110⟩ := stB X108 hx hZ e108 ar109 (j := (6 : Int32)) hin109 (g := (mkF m 121 #[.val (.int xa), .val (.int xb), .val (.int xc), .val (.int xd), .val (.int (3 : Int32)), .val (.ref b86)] [(.int (xa.toInt8.toInt32)), (.int (6 : Int32)), (.ref b86)])) rfl rfl (hb hby at_121)
    refine own_by st110 ?_
    have va110 : Arv Z h110 b86 k86 .byte (8 : Int32) [(.int (nar .byte (xc.toInt8.toInt32))), (.int (nar .byte (((xc.toUInt32 >>> ((8 : Int32) &&& 31).toUInt32).toInt32).toInt8.toInt32))), (.int (nar .byte (((xc.toUInt32 >>> ((16 : Int32) &&& 31).toUInt32).toInt32).toInt8.toInt32))), (.int (nar .byte (((xa.toUInt32 >>> ((24 : Int32) &&& 31).toUInt32).toInt32).toInt8.toInt32))), (.int (nar .byte (((xa.toUInt32 >>> ((16 : Int32) &&& 31).toUInt32).toInt32).toInt8.toInt32))), (.int (nar .byte (((xa.toUInt32 >>> ((8 : Int32) &&& 31).toUInt32).toInt32).toInt8.toInt32))), (.int (nar .byte (xa.toInt8.toInt32))), (.int (nar .byte (((xd.toUInt32 >>> ((24 : Int32) &&& 31).toUInt32).toInt32).toInt8.toInt32)))] (.int (0 : Int32)) := Arv.set ar109 q109 sz109 nn109 hs109 gs109 (fits_nar_byte _) W110 6 rfl (Nat.le_of_ble_eq_true rfl)
    have z110 : n0 ≤ h110.size := Nat.le_trans z108 (Keep.of_wr W110).1
    have N110 := Fr.snoc X110 N108 ge86
    show own_Go p e below _ (T110.setTop (mkF m 122 #[.val (.int xa), .val (.int xb), .val (.int xc), .val (.int xd), .val (.int (3 : Int32)), .val (.ref b86)] []))
    refine own_by (fun _ => XS.aload X110.here hx rfl (hb hby at_122) rfl rfl) ?_
    show own_Go p e below _ (T110.setTop (mkF m 124 #[.val (.int xa), .val (.int xb), .val (.int xc), .val (.int xd), .val (.int (3 : Int32)), .val (.ref b86)] [(.ref b86)]))
    refine own_by (fun _ => XS.iload X110.here hx rfl (hb hby at_124) rfl) ?_
    show own_Go p e below _ (T110.setTop (mkF m 126 #[.val (.int xa), .val (.int xb), .val (.int xc), .val (.int xd), .val (.int (3 : Int32)), .val (.ref b86)] [(.int (3 : Int32)), (.ref b86)]))
    obtain ⟨_, _, ⟨T111, L111, k111, n111⟩, -, X111, ⟨Lc111, hQ111, l111, y111, z111'⟩, st111⟩ := Jvm.LawKit.callS X110 hx (y := (⟨"com/example/mirrorline/mirrorline/store/RecordFormat", "intAt", "([BI)I"⟩ : MethodName)) hown (mvT hZ (hw _ (List.mem_of_getElem? (i := 1) rfl))) (mvT hZ (hw _ (List.mem_of_getElem? (i := 2) rfl))) (mvT hZ (hw _ (List.mem_of_getElem? (i := 3) rfl))) (mvT hZ (hw _ (List.mem_of_getElem? (i := 4) rfl))) (by decide) (backOf (W := 0) (own_rm1 l Z a0 hw [] b86 (3 : Int32) k86 [(nar .byte (xc.toInt8.toInt32)), (nar .byte (((xc.toUInt32 >>> ((8 : Int32) &&& 31).toUInt32).toInt32).toInt8.toInt32)), (nar .byte (((xc.toUInt32 >>> ((16 : Int32) &&& 31).toUInt32).toInt32).toInt8.toInt32)), (nar .byte (((xa.toUInt32 >>> ((24 : Int32) &&& 31).toUInt32).toInt32).toInt8.toInt32)), (nar .byte (((xa.toUInt32 >>> ((16 : Int32) &&& 31).toUInt32).toInt32).toInt8.toInt32)), (nar .byte (((xa.toUInt32 >>> ((8 : Int32) &&& 31).toUInt32).toInt32).toInt8.toInt32)), (nar .byte (xa.toInt8.toInt32)), (nar .byte (((xd.toUInt32 >>> ((24 : Int32) &&& 31).toUInt32).toInt32).toInt8.toInt32))] h110 n0 z110 va110 (by decide : ¬ ((3 : Int32) < (0 : Int32))) (by decide : (3 : Int32) < (5 : Int32))) hZ (hw _ (List.mem_of_getElem? (i := 4) rfl)) (hw _ (List.mem_of_getElem? (i := 3) rfl)) (by decide) (by decide)) (g := (mkF m 126 #[.val (.int xa), .val (.int xb), .val (.int xc), .val (.int xd), .val (.int (3 : Int32)), .val (.ref b86)] [(.int (3 : Int32)), (.ref b86)])) rfl (by rw [hml]; rfl) (argsL := [(.ref b86), (.int (3 : Int32))]) (rest := []) (lenOf own_pd0 rfl) rfl (by show 2 * 0 + _ ≤ _; exact Nat.le_of_eq rfl) (hb hby at_126) (fun _ _ => ⟨rfl, e110, (by decide : 1 + 0 ≤ _), (by decide : 8 + 0 ≤ _)⟩)
    dsimp only [Pt.U, Pt.locs, Pt.cells, Pt.slots] at X111 l111 y111 z111' st111 hQ111
    subst l111 y111 z111'
    obtain ⟨rfl, N111q, e111⟩ := hQ111
    have N111 := Fr.app N110 N111q
    refine own_by st111 ?_
    show own_Go p e below _ (T111.setTop (mkF m 129 #[.val (.int xa), .val (.int xb), .val (.int xc), .val (.int xd), .val (.int (3 : Int32)), .val (.ref b86)] [(.int (own_intAt (3 : Int32) [(nar .byte (xc.toInt8.toInt32)), (nar .byte (((xc.toUInt32 >>> ((8 : Int32) &&& 31).toUInt32).toInt32).toInt8.toInt32)), (nar .byte (((xc.toUInt32 >>> ((16 : Int32) &&& 31).toUInt32).toInt32).toInt8.toInt32)), (nar .byte (((xa.toUInt32 >>> ((24 : Int32) &&& 31).toUInt32).toInt32).toInt8.toInt32)), (nar .byte (((xa.toUInt32 >>> ((16 : Int32) &&& 31).toUInt32).toInt32).toInt8.toInt32)), (nar .byte (((xa.toUInt32 >>> ((8 : Int32) &&& 31).toUInt32).toInt32).toInt8.toInt32)), (nar .byte (xa.toInt8.toInt32)), (nar .byte (((xd.toUInt32 >>> ((24 : Int32) &&& 31).toUInt32).toInt32).toInt8.toInt32))]))]))
    refine own_by (fun _ => XS.iloadN X111.here hx rfl (hb hby at_129) rfl) ?_
    show own_Go p e below _ (T111.setTop (mkF m 130 #[.val (.int xa), .val (.int xb), .val (.int xc), .val (.int xd), .val (.int (3 : Int32)), .val (.ref b86)] [(.int xa), (.int (own_intAt (3 : Int32) [(nar .byte (xc.toInt8.toInt32)), (nar .byte (((xc.toUInt32 >>> ((8 : Int32) &&& 31).toUInt32).toInt32).toInt8.toInt32)), (nar .byte (((xc.toUInt32 >>> ((16 : Int32) &&& 31).toUInt32).toInt32).toInt8.toInt32)), (nar .byte (((xa.toUInt32 >>> ((24 : Int32) &&& 31).toUInt32).toInt32).toInt8.toInt32)), (nar .byte (((xa.toUInt32 >>> ((16 : Int32) &&& 31).toUInt32).toInt32).toInt8.toInt32)), (nar .byte (((xa.toUInt32 >>> ((8 : Int32) &&& 31).toUInt32).toInt32).toInt8.toInt32)), (nar .byte (xa.toInt8.toInt32)), (nar .byte (((xd.toUInt32 >>> ((24 : Int32) &&& 31).toUInt32).toInt32).toInt8.toInt32))]))]))
    suffices J112 : ∀ (T' : State) (v112_t0 : Int32), v112_t0 = (if (own_intAt (3 : Int32) [(nar .byte (xc.toInt8.toInt32)), (nar .byte (((xc.toUInt32 >>> ((8 : Int32) &&& 31).toUInt32).toInt32).toInt8.toInt32)), (nar .byte (((xc.toUInt32 >>> ((16 : Int32) &&& 31).toUInt32).toInt32).toInt8.toInt32)), (nar .byte (((xa.toUInt32 >>> ((24 : Int32) &&& 31).toUInt32).toInt32).toInt8.toInt32)), (nar .byte (((xa.toUInt32 >>> ((16 : Int32) &&& 31).toUInt32).toInt32).toInt8.toInt32)), (nar .byte (((xa.toUInt32 >>> ((8 : Int32) &&& 31).toUInt32).toInt32).toInt8.toInt32)), (nar .byte (xa.toInt8.toInt32)), (nar .byte (((xd.toUInt32 >>> ((24 : Int32) &&& 31).toUInt32).toInt32).toInt8.toInt32))]) = xa then (1 : Int32) else (0 : Int32)) → own_At p l e room_1 s m #[(.int xa), (.int xb), (.int xc), (.int xd)] below meth c n0 T' h110 1 8 → own_Go p e below (own_End s below (own_Q0 Z xa xb xc xd h0 n0) room_1.cells room_1.slots) (T'.setTop (mkF m 138 #[.val (.int xa), .val (.int xb), .val (.int xc), .val (.int xd), .val (.int (3 : Int32)), .val (.ref b86)] [(.int v112_t0)])) by
      by_cases hc130_113 : (own_intAt (3 : Int32) [(nar .byte (xc.toInt8.toInt32)), (nar .byte (((xc.toUInt32 >>> ((8 : Int32) &&& 31).toUInt32).toInt32).toInt8.toInt32)), (nar .byte (((xc.toUInt32 >>> ((16 : Int32) &&& 31).toUInt32).toInt32).toInt8.toInt32)), (nar .byte (((xa.toUInt32 >>> ((24 : Int32) &&& 31).toUInt32).toInt32).toInt8.toInt32)), (nar .byte (((xa.toUInt32 >>> ((16 : Int32) &&& 31).toUInt32).toInt32).toInt8.toInt32)), (nar .byte (((xa.toUInt32 >>> ((8 : Int32) &&& 31).toUInt32).toInt32).toInt8.toInt32)), (nar .byte (xa.toInt8.toInt32)), (nar .byte (((xd.toUInt32 >>> ((24 : Int32) &&& 31).toUInt32).toInt32).toInt8.toInt32))]) = xa
      ·
        skip
        refine own_by (fun _ => XS.icmpNo X111.here hx rfl (hb hby at_130) rfl (teq hc130_113).2) ?_
        show own_Go p e below _ (T111.setTop (mkF m 133 #[.val (.int xa), .val (.int xb), .val (.int xc), .val (.int xd), .val (.int (3 : Int32)), .val (.ref b86)] []))
        refine own_by (fun _ => XS.iconst X111.here hx rfl (hb hby at_133)) ?_
        show own_Go p e below _ (T111.setTop (mkF m 134 #[.val (.int xa), .val (.int xb), .val (.int xc), .val (.int xd), .val (.int (3 : Int32)), .val (.ref b86)] [(.int (1 : Int32))]))
        refine own_by (fun _ => XS.goto X111.here hx rfl (pc0 := 134) (pc' := 138) rfl (hb hby at_134) (by decide) (by decide)) ?_
        show own_Go p e below _ (T111.setTop (mkF m 138 #[.val (.int xa), .val (.int xb), .val (.int xc), .val (.int xd), .val (.int (3 : Int32)), .val (.ref b86)] [(.int (1 : Int32))]))
        exact J112 _ _ (by first | rfl | simp only [if_pos hc130_113]) ⟨_, X111, N111, e111⟩
      ·
        skip
        refine own_by (fun _ => XS.icmpYes X111.here hx rfl (pc0 := 130) (pc' := 137) rfl (hb hby at_130) rfl (feq hc130_113).2 (by decide) (by decide)) ?_
        show own_Go p e below _ (T111.setTop (mkF m 137 #[.val (.int xa), .val (.int xb), .val (.int xc), .val (.int xd), .val (.int (3 : Int32)), .val (.ref b86)] []))
        refine own_by (fun _ => XS.iconst X111.here hx rfl (hb hby at_137)) ?_
        show own_Go p e below _ (T111.setTop (mkF m 138 #[.val (.int xa), .val (.int xb), .val (.int xc), .val (.int xd), .val (.int (3 : Int32)), .val (.ref b86)] [(.int (0 : Int32))]))
        exact J112 _ _ (by first | rfl | simp only [if_neg hc130_113]) ⟨_, X111, N111, e111⟩
    intro T112 v112_t0 hv112_t0 ⟨locs112, X112, N112, e112⟩
    show own_Go p e below _ (T112.setTop (mkF m 138 #[.val (.int xa), .val (.int xb), .val (.int xc), .val (.int xd), .val (.int (3 : Int32)), .val (.ref b86)] [(.int v112_t0)]))
    exact own_retZ X112 hx hlk e112 (by rw [hv112_t0]; (repeat' split) <;> first | exact Or.inl rfl | exact Or.inr rfl) hret (hb hby at_138) (by decide) (by decide) ⟨(congrArg some (congrArg Value.int (by subst hv112_t0; have own_p := own_plain xa xb xc xd; simp only [own_law, if_neg (own_neq hs1 (by decide) : ¬ ((xb &&& (3 : Int32)) = (0 : Int32))), if_neg (own_neq hs1 (by decide) : ¬ ((xb &&& (3 : Int32)) = (1 : Int32))), if_neg (own_neq hs1 (by decide) : ¬ ((xb &&& (3 : Int32)) = (2 : Int32)))] at own_p; exact own_p : v112_t0 = (1 : Int32)))), N112⟩

theorem own_comes {Post : Tables → Env → Array Value → State → Outcome → State → Prop} (hpost : ∀ tb e args s v u, (limb_1_1.after args s (.returned v) u = true ∧ limb_1_2.after args s (.returned v) u = true ∧ True) → FrameEnd s (.returned v) u (Jvm.fieldLocs frame_1_writes args s ++ Jvm.arrayLocs frame_1_arrays args s ++ Jvm.staticLocs frame_1_statics s) 16 128 → Post tb e args s (.returned v) u) :
    ArmFor flags0 classFile x code maxLocals ret World_1 tables_1 room_1 Calls_1 rest_1 Pre_1 Post := by
  intro l hfl _ _ p e ha hc hk s m args below hf hA hF happ hP
  obtain ⟨hcalls, hrest, hpre⟩ := hP
  obtain ⟨-, -, -, hnamed, -, -, -, hat⟩ := (Spec.applies_iff hf).mp happ
  obtain ⟨hg, hn⟩ := and_e (Cond.before_iff.mp (show (Jvm.Cond.and given_1 narrow_1).before args s = true from hpre))
  obtain ⟨hg1, hg2⟩ := and_e hg
  obtain ⟨hg3, hg4⟩ := and_e hg2
  obtain ⟨hg5, hg6⟩ := and_e hg4
  obtain ⟨hg7, hg8⟩ := and_e hg6
  obtain ⟨w0, w1, w2, w3, rfl⟩ : ∃ w0 w1 w2 w3 : Value, args = #[w0, w1, w2, w3] := by
    have hs : args.size = 4 := by simpa [Cond.value, given_1] using hg1
    obtain ⟨L⟩ := args
    match L, hs with
    | [w0, w1, w2, w3], _ => exact ⟨w0, w1, w2, w3, rfl⟩
  have hw := fun d (hd : d ∈ tables_1) => atoms_spec (ws := Jvm.Cond.code x code maxLocals ret :: tables_1) hat d (List.mem_cons_of_mem _ hd)
  have hfit : Fit s := fun {y c} hc i hi => by
    obtain ⟨ha, rfl⟩ := Array.getElem?_eq_some_iff.mp hc
    have q := List.all_eq_true.mp ((Array.all_eq_true_iff_forall_mem.mp hF) _ (Array.getElem_mem ha)) i (List.mem_range.mpr hi)
    simpa [Array.getElem?_eq_getElem hi] using q
  obtain ⟨i0, ei0⟩ := is_v hg3
  obtain rfl : w0 = (.int i0) := Option.some.inj ei0
  obtain ⟨i1, ei1⟩ := is_v hg5
  obtain rfl : w1 = (.int i1) := Option.some.inj ei1
  obtain ⟨i2, ei2⟩ := is_v hg7
  obtain rfl : w2 = (.int i2) := Option.some.inj ei2
  obtain ⟨i3, ei3⟩ := is_v hg8
  obtain rfl : w3 = (.int i3) := Option.some.inj ei3
  obtain ⟨n, o, h1, h2, h3, _, L, rfl, ⟨rfl, N⟩, hq⟩ := own_rm0 l s _ hw tables_1 i0 i1 i2 i3 s.heap s.heap.size (Nat.le_refl _) p e ha hc hk s m _ below hf ((Spec.applies_iff_loose hf).mp happ).1 ⟨rfl, State.Warmed39.refl s, rfl⟩ trivial
  refine ⟨n, _, h1, h2, h3, hpost _ _ _ _ _ _ ⟨Cond.after_iff.mpr rfl, Cond.after_iff.mpr (eq_i res_at (Term.int_eval (1)) rfl), trivial⟩ ⟨hq.1, hq.2.1, (hq.2.2.sift fun y hy => Or.inr (N y hy)).mono (by decide) (by decide)⟩⟩
theorem main_1_1 : Claimed_1_1 := own_comes fun _ _ _ _ _ _ h hF => ⟨h.1, hF⟩
theorem main_1_2 : Claimed_1_2 := own_comes fun _ _ _ _ _ _ h hF => ⟨h.2.1, hF⟩
end Jvm.Pilot.@@N@@
namespace Jvm.Pilot.@@N@@
open Jvm Jvm.ClassFile Sem Op Lib Jvm.Free Jvm.Stand Jvm.Pilot.@@N@@.Jvm.D
/-! MADE BY PROGRAM (witnessworld.py) out of the Statement's table words and the real class files: 9 classes; the members and pool entries that the words name. The judged class is class 1, her method 1. -/
namespace start1
open Jvm.ClassFile
def u (s : String) : CpInfo := .utf8 (stringToUtf16 s)
/-- a pool by its gaps: so many unusable entries, then the entry; so many at the end -/
def gap : Nat → List CpInfo → List CpInfo
  | 0, r => r
  | n + 1, r => .unusable :: gap n r
def poolList (es : List (Nat × CpInfo)) (last : Nat) : List CpInfo := es.foldr (fun e r => gap e.1 (e.2 :: r)) (gap last [])
def pool (es : List (Nat × CpInfo)) (last : Nat) : Array CpInfo := ⟨poolList es last⟩
def fileOf (pool : Array CpInfo) (this : Nat) (attrs : Array Attribute := #[]) (ms : Array MethodInfo := #[]) (fl : Nat := 33) (sup : Nat := 0) (ifs : Array Nat := #[]) (fds : Array FieldInfo := #[]) : ClassFile where
  minorVersion := 0
  majorVersion := 65
  constantPool := pool
  accessFlags := fl
  thisClass := this
  superClass := sup
  interfaces := ifs
  fields := fds
  methods := ms
  attributes := attrs
def plain (name : String) (sup : Option ClassId) : Class where
  name := name
  kind := .ordinary
  loader := none
  accessFlags := 33
  super := sup
  interfaces := #[]
  cf := none
  fields := #[]
  methods := #[]
  instanceTypes := #[]
  staticTypes := #[]
  resolved := #[]
  callSites := []
  init := .initialized
  statics := none
  mirror := none

def pool0 : Array CpInfo := pool [(5, u "<init>"), (0, u "()V"), (1, .class_ 10), (1, u "java/lang/Object")] 113

def k0m0 : Method := { name := "<init>", desc := "()V", sig := { parameters := [], returnType := none }, accessFlags := 1, code := none }
/-- java/lang/Object -/
def k0 : Class := { plain "java/lang/Object" none with
  accessFlags := 33
  interfaces := #[]
  cf := some (fileOf pool0 8 #[] #[{ accessFlags := 1, nameIndex := 5, descriptorIndex := 6, attributes := #[] }] 33 0 #[] #[])
  fields := #[]
  methods := #[k0m0]
  instanceTypes := #[]
  staticTypes := #[]
  resolved := Array.replicate 124 none
  statics := none }

def pool1 : Array CpInfo := pool [(2, .class_ 4), (1, u "java/lang/Object"), (0, u "<init>"), (0, u "()V"), (0, .methodref 8 9), (0, .class_ 10), (0, .nameAndType 11 12), (0, u "com/example/mirrorline/mirrorline/store/RecordFormat"), (0, u "intAt"), (0, u "([BI)I"), (0, .class_ 14), (0, u "com/example/mirrorline/mirrorline/store/RecordFormatIntAtPinLaw"), (2, u "law"), (0, u "(IIII)Z")] 5

def k1m0 : Method := { name := "<init>", desc := "()V", sig := { parameters := [], returnType := none }, accessFlags := 2, code := none }
def k1c1 : Code := { maxStack := 4, maxLocals := 6, code := code, exceptionTable := #[], attributes := #[] }
def k1m1 : Method := { name := "law", desc := "(IIII)Z", sig := { parameters := [.int, .int, .int, .int], returnType := some .boolean }, accessFlags := 9, code := some k1c1 }
/-- com/example/mirrorline/mirrorline/store/RecordFormatIntAtPinLaw -/
def k1 : Class := { plain "com/example/mirrorline/mirrorline/store/RecordFormatIntAtPinLaw" (some 0) with
  accessFlags := 49
  interfaces := #[]
  cf := some (fileOf pool1 13 #[] #[{ accessFlags := 2, nameIndex := 5, descriptorIndex := 6, attributes := #[] }, { accessFlags := 9, nameIndex := 17, descriptorIndex := 18, attributes := #[] }] 49 2 #[] #[])
  fields := #[]
  methods := #[k1m0, k1m1]
  instanceTypes := #[]
  staticTypes := #[]
  resolved := Array.replicate 24 none
  statics := none }

def pool2 : Array CpInfo := pool [(1, .class_ 2), (0, u "com/example/mirrorline/mirrorline/store/RecordFormat"), (1, .class_ 6), (1, u "java/lang/Object"), (0, u "<init>"), (0, u "()V"), (32, u "VERSIONS"), (0, u "Lcom/example/mirrorline/mirrorline/store/Versions;"), (59, u "intAt"), (0, u "([BI)I"), (32, u "MAX_ENTRY_BYTES"), (0, u "I"), (2, u "MAGIC"), (0, u "VERSION_FROM_ONE"), (1, u "HEADER_BYTES_FROM_ONE"), (1, u "VERSION_FROM_LATER"), (1, u "HEADER_BYTES_FROM_LATER"), (1, u "RECORD_HEADER_BYTES"), (0, u "MAX_RECORD_BYTES"), (1, u "RECORDS_AT_ONCE")] 39

def k2m0 : Method := { name := "<init>", desc := "()V", sig := { parameters := [], returnType := none }, accessFlags := 2, code := none }
def k2c1 : Code := { maxStack := 4, maxLocals := 2, code := prog_120_method_9_code, exceptionTable := #[], attributes := #[] }
def k2m1 : Method := { name := "intAt", desc := "([BI)I", sig := { parameters := [(.array .byte), .int], returnType := some .int }, accessFlags := 8, code := some k2c1 }
/-- com/example/mirrorline/mirrorline/store/RecordFormat -/
def k2 : Class := { plain "com/example/mirrorline/mirrorline/store/RecordFormat" (some 0) with
  accessFlags := 48
  interfaces := #[]
  cf := some (fileOf pool2 1 #[] #[{ accessFlags := 2, nameIndex := 7, descriptorIndex := 8, attributes := #[] }, { accessFlags := 8, nameIndex := 102, descriptorIndex := 103, attributes := #[] }] 48 4 #[] #[{ accessFlags := 24, nameIndex := 136, descriptorIndex := 137, attributes := #[] }, { accessFlags := 26, nameIndex := 140, descriptorIndex := 137, attributes := #[] }, { accessFlags := 26, nameIndex := 141, descriptorIndex := 137, attributes := #[] }, { accessFlags := 24, nameIndex := 143, descriptorIndex := 137, attributes := #[] }, { accessFlags := 26, nameIndex := 145, descriptorIndex := 137, attributes := #[] }, { accessFlags := 26, nameIndex := 147, descriptorIndex := 137, attributes := #[] }, { accessFlags := 24, nameIndex := 41, descriptorIndex := 42, attributes := #[] }, { accessFlags := 24, nameIndex := 149, descriptorIndex := 137, attributes := #[] }, { accessFlags := 24, nameIndex := 150, descriptorIndex := 137, attributes := #[] }, { accessFlags := 24, nameIndex := 152, descriptorIndex := 137, attributes := #[] }])
  fields := #[{ name := "MAX_ENTRY_BYTES", type := .int, accessFlags := 24, slot := 0, constantValue := 0 }, { name := "MAGIC", type := .int, accessFlags := 26, slot := 1, constantValue := 0 }, { name := "VERSION_FROM_ONE", type := .int, accessFlags := 26, slot := 2, constantValue := 0 }, { name := "HEADER_BYTES_FROM_ONE", type := .int, accessFlags := 24, slot := 3, constantValue := 0 }, { name := "VERSION_FROM_LATER", type := .int, accessFlags := 26, slot := 4, constantValue := 0 }, { name := "HEADER_BYTES_FROM_LATER", type := .int, accessFlags := 26, slot := 5, constantValue := 0 }, { name := "VERSIONS", type := (.object "com/example/mirrorline/mirrorline/store/Versions"), accessFlags := 24, slot := 6, constantValue := 0 }, { name := "RECORD_HEADER_BYTES", type := .int, accessFlags := 24, slot := 7, constantValue := 0 }, { name := "MAX_RECORD_BYTES", type := .int, accessFlags := 24, slot := 8, constantValue := 0 }, { name := "RECORDS_AT_ONCE", type := .int, accessFlags := 24, slot := 9, constantValue := 0 }]
  methods := #[k2m0, k2m1]
  instanceTypes := #[]
  staticTypes := #[.int, .int, .int, .int, .int, .int, (.object "com/example/mirrorline/mirrorline/store/Versions"), .int, .int, .int]
  resolved := Array.replicate 192 none
  statics := none }

def pool3 : Array CpInfo := pool [(1, u "java/lang/Cloneable"), (0, .class_ 1), (0, u "java/lang/Object"), (0, .class_ 3)] 3

/-- java/lang/Cloneable -/
def k3 : Class := { plain "java/lang/Cloneable" (some 0) with
  accessFlags := 1537
  interfaces := #[]
  cf := some (fileOf pool3 2 #[] #[] 1537 4 #[] #[])
  fields := #[]
  methods := #[]
  instanceTypes := #[]
  staticTypes := #[]
  resolved := Array.replicate 8 none
  statics := none }

def pool4 : Array CpInfo := pool [(1, u "java/io/Serializable"), (0, .class_ 1), (0, u "java/lang/Object"), (0, .class_ 3)] 3

/-- java/io/Serializable -/
def k4 : Class := { plain "java/io/Serializable" (some 0) with
  accessFlags := 1537
  interfaces := #[]
  cf := some (fileOf pool4 2 #[] #[] 1537 4 #[] #[])
  fields := #[]
  methods := #[]
  instanceTypes := #[]
  staticTypes := #[]
  resolved := Array.replicate 8 none
  statics := none }

/-- the primitive byte -/
def k5 : Class := { plain "byte" none with kind := .primitive 'B', accessFlags := 0x411 }
/-- [B -/
def k6 : Class := { plain "[B" (some 0) with kind := .array 5 .byte, interfaces := #[3, 4], accessFlags := 1041 }

/-- the primitive int -/
def k7 : Class := { plain "int" none with kind := .primitive 'I', accessFlags := 0x411 }
/-- [I -/
def k8 : Class := { plain "[I" (some 0) with kind := .array 7 .int, interfaces := #[3, 4], accessFlags := 1041 }

def heap : Heap := #[]
def classes : Array Class := #[k0, k1, k2, k3, k4, k5, k6, k7, k8]
def interned : List (Array UInt16 × Addr) := []
def slotsUsed : Nat := 0
def theMethod : MethodId := ⟨1, 1⟩
def args0 : Array Value := #[.int 5, .int 2, .int 300, .int 7]
def aboutOver (below : List Frame) : State where
  vm := { classes := classes, interned := interned.toArray }
  heap := heap
  slotsUsed := slotsUsed
  threads := #[{ frames := .invoking theMethod args0 :: below }]
def below0 : List Frame := [.native { method := ⟨0, 0⟩, args := #[] }]
def about1 : State := aboutOver below0
def p0 : Program := .bare "" "" ""
def e0 : Env := launch0.env 0 0 0
theorem w_frames : about1.frames = Frame.invoking theMethod args0 :: below0 := rfl
set_option maxRecDepth 65536 in
theorem w_args : argsFit about1.vm theMethod args0 = true := by decide +kernel
set_option maxRecDepth 65536 in
theorem w_heap : heapFits about1 = true := by decide +kernel
set_option maxRecDepth 65536 in
theorem w_runnable : about1.curStatus? = some .runnable := by decide +kernel
set_option maxRecDepth 65536 in
theorem w_alone : about1.alone = true := by decide +kernel
set_option maxRecDepth 65536 in
theorem w_named : about1.methodNamed? x = some theMethod := by decide +kernel
set_option maxRecDepth 65536 in
theorem w_hears : about1.hears theMethod below0 = true := by decide +kernel
set_option maxRecDepth 65536 in
theorem w_ripe : about1.ripe theMethod args0 below0 = true := by decide +kernel
theorem w_running : about1.status = .running := rfl
set_option maxRecDepth 65536 in
theorem w_room : about1.hasRoom e0.platform room_1 = true :=
  launch0.hasRoom_least _ room_1 (by decide +kernel) (by decide +kernel) (by decide +kernel) (by decide +kernel) (by decide +kernel) (by decide +kernel)
theorem allAtoms_all (ts : List Jvm.Cond) (a : Array Jvm.Value) (st : Jvm.State) : (allAtoms ts).before a st = ts.all (fun c => c.before a st) := by
  induction ts with
  | nil => rfl
  | cons c t ih =>
    show (Jvm.Cond.and c (allAtoms t)).before a st = _
    rw [Jvm.Cond.before_and, ih, List.all_cons]
def words1 : List Jvm.Cond := Jvm.Cond.code x code maxLocals ret :: tables_1
/-- a 'code' word, met by the world's own term for the bytes: nothing is compared byte by byte -/
theorem code_word {y : MethodName} {bytes : ByteArray} {mx : Nat} {rt : Option FieldType} {a : Array Value} {s : State} {m : MethodId} {meth : Method} {c : Code} (h1 : s.methodNamed? y = some m) (h2 : s.vm.method? m = some meth) (h3 : meth.code = some c) (h4 : c.code = bytes)
    (h5 : (c.maxLocals == mx && c.exceptionTable.isEmpty && decide (c.maxStack ≤ mostOperands) && decide (meth.sig.returnType = rt) && !meth.locks && decide (parseMethodDescriptor y.desc = some meth.sig)) = true) : (Jvm.Cond.code y bytes mx rt).before a s = true := by
  simp only [Bool.and_eq_true, beq_iff_eq, Bool.not_eq_true', decide_eq_true_eq] at h5
  obtain ⟨⟨⟨⟨⟨g1, g2⟩, g3⟩, g4⟩, g5⟩, g6⟩ := h5
  simp [Cond.before, Cond.holds, Cond.value, h1, h2, h3, h4, g1, g2, g3, g4, g5, g6]
def isCode : Jvm.Cond → Bool
  | .code _ _ _ _ => true
  | _ => false
theorem all_split {L : List Jvm.Cond} {P : Jvm.Cond → Bool} (h1 : L.all (fun c => isCode c || P c) = true) (h2 : ∀ c ∈ L.filter isCode, P c = true) : L.all P = true := by
  refine List.all_eq_true.mpr fun c hc => ?_
  have h := List.all_eq_true.mp h1 c hc
  rcases Bool.eq_false_or_eq_true (isCode c) with hi | hi
  · exact h2 c (List.mem_filter.mpr ⟨hc, hi⟩)
  · simpa [hi] using h
set_option maxRecDepth 65536 in
theorem w_c0 : (Jvm.Cond.code x code maxLocals ret).before args0 about1 = true := code_word (m := ⟨1, 1⟩) (meth := k1m1) (c := k1c1) (by decide +kernel) rfl rfl rfl (by decide +kernel)
set_option maxRecDepth 65536 in
theorem w_c1 : (Jvm.Cond.code ({ cls := "com/example/mirrorline/mirrorline/store/RecordFormat", name := "intAt", desc := "([BI)I" } : Jvm.MethodName) prog_120_method_9_code (2 : Nat) (Option.some Jvm.ClassFile.FieldType.int)).before args0 about1 = true := code_word (m := ⟨2, 1⟩) (meth := k2m1) (c := k2c1) (by decide +kernel) rfl rfl rfl (by decide +kernel)
def codes1 : List Jvm.Cond := [Jvm.Cond.code x code maxLocals ret, Jvm.Cond.code ({ cls := "com/example/mirrorline/mirrorline/store/RecordFormat", name := "intAt", desc := "([BI)I" } : Jvm.MethodName) prog_120_method_9_code (2 : Nat) (Option.some Jvm.ClassFile.FieldType.int)]
set_option maxRecDepth 65536 in
theorem codes_eq : words1.filter isCode = codes1 := rfl
theorem w_codes : ∀ c ∈ words1.filter isCode, c.before args0 about1 = true := by
  rw [codes_eq]
  intro c hc
  simp only [codes1, List.mem_cons, List.not_mem_nil, or_false] at hc
  rcases hc with rfl | rfl
  · exact w_c0
  · exact w_c1
set_option maxRecDepth 65536 in
theorem w_t1 : words1.all (fun c => isCode c || c.before args0 about1) = true := by decide +kernel
theorem w_tables : (allAtoms (Jvm.Cond.code x code maxLocals ret :: tables_1)).before args0 about1 = true := by
  rw [allAtoms_all]
  show words1.all (fun c => c.before args0 about1) = true
  refine all_split ?_ w_codes
  rw [w_t1]
set_option maxRecDepth 65536 in
theorem w_case : (Jvm.Cond.and given_1 narrow_1).before args0 about1 = true := by decide +kernel
theorem w_applies : (headSpec (Jvm.Cond.code x code maxLocals ret :: tables_1) room_1).applies x e0.platform about1 = true :=
  (Spec.applies_iff w_frames).mpr ⟨w_running, w_runnable, w_alone, w_named, w_hears, w_ripe, w_room, w_tables⟩
theorem atStart : AtStart classFile x code maxLocals ret World_1 tables_1 room_1 Calls_1 rest_1 Pre_1 launch0 p0 e0 about1 theMethod args0 below0 :=
  ⟨lists_1, trivial, launch0.admits_env _ _ _, launch0.least_env, fairChoices_fair.cas, fairChoices_fair.clock, w_frames, w_args, w_heap, w_applies, trivial, trivial, w_case⟩
end start1
theorem witness_1 : WitnessClaimed_1 := ⟨start1.p0, start1.e0, start1.about1, start1.theMethod, start1.args0, start1.below0, start1.atStart⟩
end Jvm.Pilot.@@N@@
