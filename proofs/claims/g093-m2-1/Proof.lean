import JvmDerived
import JvmDerived.Pilot.@@N@@Statement
import JvmDerived.Pilot.@@N@@Code
set_option linter.unusedVariables false
set_option linter.unusedSimpArgs false
set_option maxRecDepth 65536
set_option maxHeartbeats 40000000
namespace Jvm.Pilot.@@N@@
open Jvm Jvm.ClassFile Sem Op Lib Jvm.Free Jvm.Stand Jvm.LawKit Jvm.RoadKit Bundle Jvm.Pilot.@@N@@.Jvm.D
section OwnKit
variable {p : Program} {l : Launch} {e : Env} {R : Room} {s : State} {m : MethodId} {args : Array Value} {below : List Frame} {meth : Method} {c : Code} {T : State} {locs : List Loc} {cells slots : Nat}
/-- from here the run comes to an end that E allows -/
def own_Go (p : Program) (e : Env) (below : List Frame) (E : State → Prop) (S : State) : Prop := ∃ t, Steps p.tables e below S t ∧ E t
/-- the invocation has ended, with a value, a heap and a list of written places that Q allows -/
def own_End (s : State) (below : List Frame) (Q : Option Value → Heap → List Loc → Prop) (C N : Nat) (t : State) : Prop :=
  t.status = .running ∧ ∃ v L, Ended t below (.returned v) ∧ Q v t.heap L ∧ FrameEnd s (.returned v) t L C N
/-- the walk stands here, with this heap, having written only what is new -/
def own_At (p : Program) (l : Launch) (e : Env) (R : Room) (s : State) (m : MethodId) (args : Array Value) (below : List Frame) (meth : Method) (c : Code) (n0 : Nat) (T : State) (h : Heap) (cells slots : Nat) : Prop :=
  ∃ locs, Stand p l e R s m args below meth c T locs cells slots ∧ Fr n0 locs ∧ T.heap = h
theorem own_by {E : State → Prop} {S S' : State} (k : ∀ t, Steps p.tables e below S' t → Steps p.tables e below S t) (h : own_Go p e below E S') : own_Go p e below E S :=
  h.imp fun t q => ⟨k t q.1, q.2⟩
theorem own_tr {E : State → Prop} {S S' : State} (k : Steps p.tables e below S S') (h : own_Go p e below E S') : own_Go p e below E S :=
  h.imp fun t q => ⟨k.trans q.1, q.2⟩
theorem own_mono {E E' : State → Prop} {S : State} (k : ∀ t, E t → E' t) (h : own_Go p e below E S) : own_Go p e below E' S := h.imp fun t q => ⟨q.1, k t q.2⟩
theorem own_monoQ {Q Q' : Option Value → Heap → List Loc → Prop} {C N : Nat} {S : State} (k : ∀ v h L, Q v h L → Q' v h L) (h : own_Go p e below (own_End s below Q C N) S) : own_Go p e below (own_End s below Q' C N) S :=
  own_mono (fun t ⟨a, v, L, b, q, r⟩ => ⟨a, v, L, b, k _ _ _ q, r⟩) h
variable {Q : Option Value → Heap → List Loc → Prop} {C N : Nat} {h : Heap} {pc : Nat} {Ls : Array Slot} {rest : List Value}
theorem own_ret (X : Stand p l e R s m args below meth c T locs cells slots) (hx : p.tables.exec = Jvm.exec) (hlk : meth.locks = false) (eT : T.heap = h) {w : Value} {t : FieldType} {i : Instr} (hret : meth.sig.returnType = some t) (hn : narrow t w = w)
    (hi : (i = .ireturn ∧ (t = .int ∨ t = .boolean ∨ t = .byte ∨ t = .char ∨ t = .short) ∧ ∃ z, w = .int z) ∨ (i = .lreturn ∧ t = .long ∧ ∃ z, w = .long z) ∨ (i = .dreturn ∧ t = .double ∧ ∃ z, w = .double z) ∨ (i = .freturn ∧ t = .float ∧ ∃ z, w = .float z) ∨ (i = .areturn ∧ t.isReference = true ∧ w.isRef = true))
    (hd : decode c.code pc = .ok (i, 1)) (hc : cells ≤ C) (hs : slots ≤ N) (hQ : Q (some w) h locs) : own_Go p e below (own_End s below Q C N) (T.setTop (mkF m pc Ls (w :: rest))) := by
  obtain ⟨fs, hr, hrun, hended, hW, hsame⟩ := X.leave (v := some w) (fun q => by rw [hret] at q; cases q) hlk
  subst eT
  exact ⟨_, retOut X hx hret hn hi hd hr, hrun, _, _, hended, hQ, ⟨_, rfl⟩, hW, hsame.mono hc hs⟩
theorem own_retI (X : Stand p l e R s m args below meth c T locs cells slots) (hx : p.tables.exec = Jvm.exec) (hlk : meth.locks = false) (eT : T.heap = h) {z : Int32} (hret : meth.sig.returnType = some .int) (hd : decode c.code pc = .ok (.ireturn, 1)) (hc : cells ≤ C) (hs : slots ≤ N) (hQ : Q (some (.int z)) h locs) :
    own_Go p e below (own_End s below Q C N) (T.setTop (mkF m pc Ls (.int z :: rest))) := own_ret X hx hlk eT hret rfl (Or.inl ⟨rfl, Or.inl rfl, _, rfl⟩) hd hc hs hQ
theorem own_retZ (X : Stand p l e R s m args below meth c T locs cells slots) (hx : p.tables.exec = Jvm.exec) (hlk : meth.locks = false) (eT : T.heap = h) {z : Int32} (hz : z = 0 ∨ z = 1) (hret : meth.sig.returnType = some .boolean) (hd : decode c.code pc = .ok (.ireturn, 1)) (hc : cells ≤ C) (hs : slots ≤ N) (hQ : Q (some (.int z)) h locs) :
    own_Go p e below (own_End s below Q C N) (T.setTop (mkF m pc Ls (.int z :: rest))) := own_ret X hx hlk eT hret (by rcases hz with rfl | rfl <;> rfl) (Or.inl ⟨rfl, Or.inr (Or.inl rfl), _, rfl⟩) hd hc hs hQ
theorem own_retJ (X : Stand p l e R s m args below meth c T locs cells slots) (hx : p.tables.exec = Jvm.exec) (hlk : meth.locks = false) (eT : T.heap = h) {z : Int64} (hret : meth.sig.returnType = some .long) (hd : decode c.code pc = .ok (.lreturn, 1)) (hc : cells ≤ C) (hs : slots ≤ N) (hQ : Q (some (.long z)) h locs) :
    own_Go p e below (own_End s below Q C N) (T.setTop (mkF m pc Ls (.long z :: rest))) := own_ret X hx hlk eT hret rfl (Or.inr (Or.inl ⟨rfl, rfl, _, rfl⟩)) hd hc hs hQ
theorem own_retD (X : Stand p l e R s m args below meth c T locs cells slots) (hx : p.tables.exec = Jvm.exec) (hlk : meth.locks = false) (eT : T.heap = h) {z : UInt64} (hret : meth.sig.returnType = some .double) (hd : decode c.code pc = .ok (.dreturn, 1)) (hc : cells ≤ C) (hs : slots ≤ N) (hQ : Q (some (.double z)) h locs) :
    own_Go p e below (own_End s below Q C N) (T.setTop (mkF m pc Ls (.double z :: rest))) := own_ret X hx hlk eT hret rfl (Or.inr (Or.inr (Or.inl ⟨rfl, rfl, _, rfl⟩))) hd hc hs hQ
theorem own_retR (X : Stand p l e R s m args below meth c T locs cells slots) (hx : p.tables.exec = Jvm.exec) (hlk : meth.locks = false) (eT : T.heap = h) {w : Value} {t : FieldType} (hw : w.isRef = true) (ht : t.isReference = true) (hret : meth.sig.returnType = some t) (hd : decode c.code pc = .ok (.areturn, 1)) (hc : cells ≤ C) (hs : slots ≤ N) (hQ : Q (some w) h locs) :
    own_Go p e below (own_End s below Q C N) (T.setTop (mkF m pc Ls (w :: rest))) := own_ret X hx hlk eT hret (by cases t <;> first | (cases ht; done) | (cases w <;> first | rfl | cases hw)) (Or.inr (Or.inr (Or.inr (Or.inr ⟨rfl, ht, hw⟩)))) hd hc hs hQ
theorem own_retV (X : Stand p l e R s m args below meth c T locs cells slots) (hx : p.tables.exec = Jvm.exec) (hlk : meth.locks = false) (eT : T.heap = h) (hret : meth.sig.returnType = none) (hd : decode c.code pc = .ok (.return_, 1)) (hc : cells ≤ C) (hs : slots ≤ N) (hQ : Q none h locs) :
    own_Go p e below (own_End s below Q C N) (T.setTop (mkF m pc Ls [])) := by
  obtain ⟨fs, hr, hrun, hended, hW, hsame⟩ := X.leave (v := none) (fun _ => rfl) hlk
  subst eT
  exact ⟨_, X.returnOut hx hret hd hr, hrun, _, _, hended, hQ, ⟨_, rfl⟩, hW, hsame.mono hc hs⟩
end OwnKit
theorem own_neq {α : Type} {a b c : α} (h : a = b) (q : ¬ b = c) : ¬ a = c := h ▸ q
def own_g (bs : List Int32) (j : Int32) : Int32 := bs.getD j.toNatClampNeg 0
theorem own_g_eq (bs : List Int32) (j : Int32) : (bs.map Value.int).getD j.toNatClampNeg (.int (0 : Int32)) = .int (own_g bs j) := by
  simp only [own_g, List.getD_eq_getElem?_getD, List.getElem?_map]
  cases bs[j.toNatClampNeg]? <;> rfl
theorem own_map_set (wl : List Int32) (i : Nat) (v : Int32) : (wl.set i v).map Value.int = (wl.map Value.int).set i (.int v) := List.map_set
theorem own_no0 {x : Int32} (h : x = 1) : ¬ (x = (0 : Int32)) := by rw [h]; decide
theorem own_k0 : (0 : Int32).toInt = 0 := by decide
theorem own_k1 : (1 : Int32).toInt = 1 := by decide
theorem own_k2 : (2 : Int32).toInt = 2 := by decide
theorem own_k3 : (3 : Int32).toInt = 3 := by decide
theorem own_k4 : (4 : Int32).toInt = 4 := by decide
theorem own_k5 : (5 : Int32).toInt = 5 := by decide
theorem own_k6 : (6 : Int32).toInt = 6 := by decide
theorem own_k7 : (7 : Int32).toInt = 7 := by decide
theorem own_k8 : (8 : Int32).toInt = 8 := by decide
theorem own_k9 : (9 : Int32).toInt = 9 := by decide
theorem own_and3 (x : Int32) : (x &&& (3 : Int32)) = (0 : Int32) ∨ (x &&& (3 : Int32)) = (1 : Int32) ∨ (x &&& (3 : Int32)) = (2 : Int32) ∨ (x &&& (3 : Int32)) = (3 : Int32) := by
  have e := c_mask x 3 2 (by decide) (by decide)
  simp only [← Int32.toInt_inj, own_k0, own_k1, own_k2, own_k3]
  omega
theorem own_atlo {w xd k : Int32} (h : w = ((xd &&& (2147483647 : Int32)) % k)) : ¬ (w < (0 : Int32)) := by
  have e := c_mask xd 2147483647 31 (by decide) (by decide)
  rw [h, Int32.lt_iff_toInt_lt, Int32.toInt_mod, own_k0]
  have := Int.tmod_nonneg k.toInt (a := (xd &&& 2147483647).toInt) (by omega)
  omega
theorem own_athi {w xd k : Int32} (h : w = ((xd &&& (2147483647 : Int32)) % k)) (hk : 0 < k.toInt := by decide) : w < k := by
  have e := c_mask xd 2147483647 31 (by decide) (by decide)
  rw [h, Int32.lt_iff_toInt_lt, Int32.toInt_mod]
  exact Int.tmod_lt_of_pos _ hk
theorem own_tin (xi k m : Int32) (a b : Int) (hk : k.toInt = a) (hm : m.toInt = b) (h0 : 0 ≤ a) (hab : a + b ≤ 8) (hlo : ¬ (xi < (0 : Int32))) (hhi : xi < m) : ¬ (xi + k < 0) ∧ xi + k < (8 : Int32) := by
  have e := c_iadd xi k
  have r := rng32 (xi + k)
  simp only [Int32.lt_iff_toInt_lt, own_k0, own_k8] at *
  omega
theorem own_tlen {j : Int32} {n : Nat} (h : ¬ (j < 0) ∧ j < (8 : Int32)) (hn : n = 8) : j.toNatClampNeg < n := by
  have q := nat_of h.1
  obtain ⟨h1, h2⟩ := h
  rw [Int32.lt_iff_toInt_lt, own_k8] at h2
  omega
theorem own_at0 {w xd : Int32} (h : w = ((xd &&& (2147483647 : Int32)) % (9 : Int32))) : (w = (0 : Int32) ∨ w = (1 : Int32) ∨ w = (2 : Int32) ∨ w = (3 : Int32) ∨ w = (4 : Int32) ∨ w = (5 : Int32) ∨ w = (6 : Int32) ∨ w = (7 : Int32) ∨ w = (8 : Int32)) := by
  have e := c_mask xd 2147483647 31 (by decide) (by decide)
  have e2 := c_irem (xd &&& 2147483647) 9 9 (by decide)
  rw [← h] at e2
  have r := rng32 w
  simp only [← Int32.toInt_inj, own_k0, own_k1, own_k2, own_k3, own_k4, own_k5, own_k6, own_k7, own_k8]
  omega
theorem own_at1 {w xd : Int32} (h : w = ((xd &&& (2147483647 : Int32)) % (8 : Int32))) : (w = (0 : Int32) ∨ w = (1 : Int32) ∨ w = (2 : Int32) ∨ w = (3 : Int32) ∨ w = (4 : Int32) ∨ w = (5 : Int32) ∨ w = (6 : Int32) ∨ w = (7 : Int32)) := by
  have e := c_mask xd 2147483647 31 (by decide) (by decide)
  have e2 := c_irem (xd &&& 2147483647) 8 8 (by decide)
  rw [← h] at e2
  have r := rng32 w
  simp only [← Int32.toInt_inj, own_k0, own_k1, own_k2, own_k3, own_k4, own_k5, own_k6, own_k7, own_k8]
  omega
theorem own_at2 {w xd : Int32} (h : w = ((xd &&& (2147483647 : Int32)) % (7 : Int32))) : (w = (0 : Int32) ∨ w = (1 : Int32) ∨ w = (2 : Int32) ∨ w = (3 : Int32) ∨ w = (4 : Int32) ∨ w = (5 : Int32) ∨ w = (6 : Int32)) := by
  have e := c_mask xd 2147483647 31 (by decide) (by decide)
  have e2 := c_irem (xd &&& 2147483647) 7 7 (by decide)
  rw [← h] at e2
  have r := rng32 w
  simp only [← Int32.toInt_inj, own_k0, own_k1, own_k2, own_k3, own_k4, own_k5, own_k6, own_k7, own_k8]
  omega
theorem own_at3 {w xd : Int32} (h : w = ((xd &&& (2147483647 : Int32)) % (6 : Int32))) : (w = (0 : Int32) ∨ w = (1 : Int32) ∨ w = (2 : Int32) ∨ w = (3 : Int32) ∨ w = (4 : Int32) ∨ w = (5 : Int32)) := by
  have e := c_mask xd 2147483647 31 (by decide) (by decide)
  have e2 := c_irem (xd &&& 2147483647) 6 6 (by decide)
  rw [← h] at e2
  have r := rng32 w
  simp only [← Int32.toInt_inj, own_k0, own_k1, own_k2, own_k3, own_k4, own_k5, own_k6, own_k7, own_k8]
  omega

theorem own_pd0 : parseMethodDescriptor "()V" = some ⟨[], none⟩ := by decide +kernel
theorem own_pd1 : parseMethodDescriptor "([II)I" = some ⟨[(.array .int), .int], some .int⟩ := by decide +kernel
theorem own_pd2 : parseMethodDescriptor "()I" = some ⟨[], some .int⟩ := by decide +kernel
theorem own_pd3 : parseMethodDescriptor "([IIIIIIII)Z" = some ⟨[(.array .int), .int, .int, .int, .int, .int, .int, .int], some .boolean⟩ := by decide +kernel
theorem own_pd4 : parseMethodDescriptor "(I)V" = some ⟨[.int], none⟩ := by decide +kernel
theorem own_pd5 : parseMethodDescriptor "(II)I" = some ⟨[.int, .int], some .int⟩ := by decide +kernel
theorem own_d1_0 : decode prog_54_method_1_code 0 = .ok (.aload_n 0, 1) := by decide +kernel
theorem own_d1_1 : decode prog_54_method_1_code 1 = .ok (.invokespecial 1, 3) := by decide +kernel
theorem own_d1_4 : decode prog_54_method_1_code 4 = .ok (.aload_n 0, 1) := by decide +kernel
theorem own_d1_5 : decode prog_54_method_1_code 5 = .ok (.iconst 4, 1) := by decide +kernel
theorem own_d1_6 : decode prog_54_method_1_code 6 = .ok (.newarray .int, 2) := by decide +kernel
theorem own_d1_8 : decode prog_54_method_1_code 8 = .ok (.putfield 9, 3) := by decide +kernel
theorem own_d1_11 : decode prog_54_method_1_code 11 = .ok (.return_, 1) := by decide +kernel
theorem own_pn1 : plainName "com/example/bucketsplit/bucketsplit/core/Page" = true := by first | (simp [plainName, overriddenIn]; done) | decide +kernel
theorem own_ef1 (m : MethodId) (x0 : Addr) : entryFrame m #[(.ref x0)] 1 = mkF m 0 #[.val (.ref x0)] [] := by first | (simp [entryFrame, mkF, argsToLocals, Value.category]; done) | rfl
def own_Q1 (Z : State) (ax : Addr) (uv : Value) (h0 : Heap) (n0 : Nat) (v : Option Value) (h : Heap) (L : List Loc) : Prop := ∃ (kx : Addr) (kk : ClassId), v = none ∧ Fr n0 L ∧ Keep h0 h [ax] ∧ Fld Z h ax "com/example/bucketsplit/bucketsplit/core/Page" "mKeys" "[I" (.ref kx) ∧ Fld Z h ax "com/example/bucketsplit/bucketsplit/core/Page" "mSize" "I" (.int (0 : Int32)) ∧ Arv Z h kx kk .int (4 : Int32) [(.int (0 : Int32)), (.int (0 : Int32)), (.int (0 : Int32)), (.int (0 : Int32))] (.int (0 : Int32)) ∧ h0.size ≤ kx
theorem own_rm1 (l : Launch) (Z : State) (a0 : Array Value) (hw : ∀ d ∈ tables_1, d.before a0 Z = true) (ws : List Jvm.Cond) (ax : Addr) (uv : Value) (h0 : Heap) (n0 : Nat) (Z0 : n0 ≤ h0.size) (pf0 : Exa Z h0 ax "com/example/bucketsplit/bucketsplit/core/Page") (pf1 : Fld Z h0 ax "com/example/bucketsplit/bucketsplit/core/Page" "mKeys" "[I" uv) (pf2 : Fld Z h0 ax "com/example/bucketsplit/bucketsplit/core/Page" "mSize" "I" (.int (0 : Int32))) (pg_ax : n0 ≤ ax) :
    MetFree l (⟨"com/example/bucketsplit/bucketsplit/core/Page", "<init>", "()V"⟩ : MethodName) (head1 (Jvm.Cond.code (⟨"com/example/bucketsplit/bucketsplit/core/Page", "<init>", "()V"⟩ : MethodName) prog_54_method_1_code 1 none :: ws) ({ frames := 1, cells := 1, slots := 4, locals := 12 } : Room)) (fun a U => a = #[(.ref ax)] ∧ Z.Warmed39 U.vm ∧ U.heap = h0) (fun _ _ _ _ _ => True) (fun _ U o U' => ∃ v L, o = .returned v ∧ own_Q1 Z ax uv h0 n0 v U'.heap L ∧ FrameEnd U o U' L ({ frames := 1, cells := 1, slots := 4, locals := 12 } : Room).cells ({ frames := 1, cells := 1, slots := 4, locals := 12 } : Room).slots) := by
  refine MetFree.of_bodySF (plainFor_of_name own_pn1) hisR ?_
  intro p e s m args below meth c s₁ Bd hml0 hP hK
  obtain ⟨rfl, hZ, hh⟩ := hP
  have hx := Bd.exec
  have hby := Bd.bytes
  have hlk := Bd.notSynchronized
  have hret := Bd.returns
  have hml : c.maxLocals = 1 := hml0
  have hown : s.vm.findClass "com/example/bucketsplit/bucketsplit/core/Page" = some m.cls := findClass_of_methodNamed Bd.named
  have hnm := (name_of_methodNamed Bd.named Bd.method).1
  have X0 : Stand p l e ({ frames := 1, cells := 1, slots := 4, locals := 12 } : Room) s m #[(.ref ax)] below meth c s₁ [] 0 0 := Stand.of_body Bd
  have e0 : s₁.heap = h0 := by rw [← hh, Bd.state]; rfl
  have N0 := Fr.nil n0
  suffices key : own_Go p e below (own_End s below (own_Q1 Z ax uv h0 n0) ({ frames := 1, cells := 1, slots := 4, locals := 12 } : Room).cells ({ frames := 1, cells := 1, slots := 4, locals := 12 } : Room).slots) (s₁.setTop (mkF m 0 #[.val (.ref ax)] [])) by
    obtain ⟨t, k1, k2, v, L, k3, k4, k5⟩ := key
    exact ⟨t, _, castTop (own_ef1 m ax) k1, k2, k3, v, L, rfl, k4, k5⟩
  show own_Go p e below _ (s₁.setTop (mkF m 0 #[.val (.ref ax)] []))
  refine own_by (fun _ => XS.aloadN X0.here hx rfl (hb hby own_d1_0) rfl rfl) ?_
  show own_Go p e below _ (s₁.setTop (mkF m 1 #[.val (.ref ax)] [(.ref ax)]))
  obtain ⟨T1, X1, e1, st1⟩ := initO X0 hx hZ hown (hw _ (List.mem_of_getElem? (i := 6) rfl)) (hw _ (List.mem_of_getElem? (i := 7) rfl)) (hw _ (List.mem_of_getElem? (i := 8) rfl)) e0 (g := (mkF m 1 #[.val (.ref ax)] [(.ref ax)])) rfl (by rw [hml]; rfl) rfl (hb hby own_d1_1) (by decide) (W := 0) (by show 2 * 0 + _ ≤ _; exact Nat.le_of_eq rfl) (by decide)
  refine own_by st1 ?_
  show own_Go p e below _ (T1.setTop (mkF m 4 #[.val (.ref ax)] []))
  refine own_by (fun _ => XS.aloadN X1.here hx rfl (hb hby own_d1_4) rfl rfl) ?_
  show own_Go p e below _ (T1.setTop (mkF m 5 #[.val (.ref ax)] [(.ref ax)]))
  refine own_by (fun _ => XS.iconst X1.here hx rfl (hb hby own_d1_5)) ?_
  show own_Go p e below _ (T1.setTop (mkF m 6 #[.val (.ref ax)] [(.int (4 : Int32)), (.ref ax)]))
  obtain ⟨T2, h2, k2, X2, e2, E2, A2, st2⟩ := newP X1 hx hZ (hw _ (List.mem_of_getElem? (i := 9) rfl)) e1 (g := (mkF m 6 #[.val (.ref ax)] [(.int (4 : Int32)), (.ref ax)])) rfl (hb hby own_d1_6) rfl (by decide) (cap := 4) (by decide) (by decide) (by decide) (by decide)
  obtain ⟨b2, g2⟩ : ∃ z, z = h0.size := ⟨_, rfl⟩
  rw [← g2] at A2 st2
  refine own_by st2 ?_
  have ge2 : n0 ≤ b2 := Nat.le_trans Z0 (Nat.le_of_eq g2.symm)
  have ne2_ax : ax ≠ b2 := Nat.ne_of_lt (Nat.lt_of_lt_of_le pf0.lt (Nat.le_of_eq g2.symm))
  have z2 : n0 ≤ h2.size := Nat.le_trans Z0 E2.1
  have sz_b2 : h0.size ≤ b2 := Nat.le_trans (Keep.refl h0 [ax]).1 (Nat.le_of_eq g2.symm)
  have K2 : Keep h0 h2 [ax] := (Keep.refl h0 [ax]).ext E2
  have va2 : Arv Z h2 b2 k2 .int (4 : Int32) [(.int (0 : Int32)), (.int (0 : Int32)), (.int (0 : Int32)), (.int (0 : Int32))] (.int (0 : Int32)) := (Arv.new A2 (by decide)).pad (pad_rep [] (.int (0 : Int32)) 4)
  show own_Go p e below _ (T2.setTop (mkF m 8 #[.val (.ref ax)] [(.ref b2), (.ref ax)]))
  have f3 : Exa Z h2 ax "com/example/bucketsplit/bucketsplit/core/Page" := (pf0.ext E2)
  have f4 : Fld Z h2 ax "com/example/bucketsplit/bucketsplit/core/Page" "mKeys" "[I" uv := (pf1.ext E2)
  obtain ⟨T5, h5, X5, e5, W5, st5⟩ := putF X2 hx hZ hown (host := "") (Or.inl (hw _ (List.mem_of_getElem? (i := 10) rfl))) Via.refl e2 f4 f3 (Or.inl (hw _ (List.mem_of_getElem? (i := 11) rfl))) (hw _ (List.mem_of_getElem? (i := 1) rfl)) (ty := (.array .int)) (by decide) rfl rfl (g := (mkF m 8 #[.val (.ref ax)] [(.ref b2), (.ref ax)])) rfl rfl (hb hby own_d1_8)
  refine own_by st5 ?_
  have fw5 : Fld Z h5 ax "com/example/bucketsplit/bucketsplit/core/Page" "mKeys" "[I" (.ref b2) := f4.same W5
  have z5 : n0 ≤ h5.size := Nat.le_trans z2 (Keep.of_wr W5).1
  have N5 := Fr.snoc X5 N0 pg_ax
  have K5 : Keep h0 h5 [ax] := K2.wr W5 (Or.inl (List.mem_of_getElem? (i := 0) rfl))
  show own_Go p e below _ (T5.setTop (mkF m 11 #[.val (.ref ax)] []))
  have f6 : Fld Z h5 ax "com/example/bucketsplit/bucketsplit/core/Page" "mSize" "I" (.int (0 : Int32)) := ((pf2.ext E2).other W5 (Or.inr (slot_ne (Or.inl (hw _ (List.mem_of_getElem? (i := 18) rfl))) (Or.inl (hw _ (List.mem_of_getElem? (i := 11) rfl))) (by decide) (t := .int) (t' := (.array .int)) (by decide) (by decide))))
  have f7 : Arv Z h5 b2 k2 .int (4 : Int32) [(.int (0 : Int32)), (.int (0 : Int32)), (.int (0 : Int32)), (.int (0 : Int32))] (.int (0 : Int32)) := (va2.other W5 (Ne.symm ne2_ax))
  exact own_retV X5 hx hlk e5 hret (hb hby own_d1_11) (by decide) (by decide) ⟨b2, k2, rfl, N5, K5, fw5, f6, f7, sz_b2⟩

theorem own_d3_0 : decode prog_54_method_3_code 0 = .ok (.aload_n 0, 1) := by decide +kernel
theorem own_d3_1 : decode prog_54_method_3_code 1 = .ok (.getfield 13, 3) := by decide +kernel
theorem own_d3_4 : decode prog_54_method_3_code 4 = .ok (.aload_n 0, 1) := by decide +kernel
theorem own_d3_5 : decode prog_54_method_3_code 5 = .ok (.getfield 9, 3) := by decide +kernel
theorem own_d3_8 : decode prog_54_method_3_code 8 = .ok (.arraylength, 1) := by decide +kernel
theorem own_d3_9 : decode prog_54_method_3_code 9 = .ok (.if_icmp .ne 21, 3) := by decide +kernel
theorem own_d3_30 : decode prog_54_method_3_code 30 = .ok (.aload_n 0, 1) := by decide +kernel
theorem own_d3_31 : decode prog_54_method_3_code 31 = .ok (.getfield 13, 3) := by decide +kernel
theorem own_d3_34 : decode prog_54_method_3_code 34 = .ok (.istore_n 2, 1) := by decide +kernel
theorem own_d3_35 : decode prog_54_method_3_code 35 = .ok (.iload_n 2, 1) := by decide +kernel
theorem own_d3_36 : decode prog_54_method_3_code 36 = .ok (.ifCond .le 35, 3) := by decide +kernel
theorem own_d3_71 : decode prog_54_method_3_code 71 = .ok (.aload_n 0, 1) := by decide +kernel
theorem own_d3_72 : decode prog_54_method_3_code 72 = .ok (.getfield 9, 3) := by decide +kernel
theorem own_d3_75 : decode prog_54_method_3_code 75 = .ok (.iload_n 2, 1) := by decide +kernel
theorem own_d3_76 : decode prog_54_method_3_code 76 = .ok (.iload_n 1, 1) := by decide +kernel
theorem own_d3_77 : decode prog_54_method_3_code 77 = .ok (.iastore, 1) := by decide +kernel
theorem own_d3_78 : decode prog_54_method_3_code 78 = .ok (.aload_n 0, 1) := by decide +kernel
theorem own_d3_79 : decode prog_54_method_3_code 79 = .ok (.dup, 1) := by decide +kernel
theorem own_d3_80 : decode prog_54_method_3_code 80 = .ok (.getfield 13, 3) := by decide +kernel
theorem own_d3_83 : decode prog_54_method_3_code 83 = .ok (.iconst 1, 1) := by decide +kernel
theorem own_d3_84 : decode prog_54_method_3_code 84 = .ok (.iadd, 1) := by decide +kernel
theorem own_d3_85 : decode prog_54_method_3_code 85 = .ok (.putfield 13, 3) := by decide +kernel
theorem own_d3_88 : decode prog_54_method_3_code 88 = .ok (.return_, 1) := by decide +kernel
theorem own_pn3 : plainName "com/example/bucketsplit/bucketsplit/core/Page" = true := by first | (simp [plainName, overriddenIn]; done) | decide +kernel
theorem own_ef3_0 (m : MethodId) (x0 : Addr) (x1 : Int32) : entryFrame m #[(.ref x0), (.int x1)] 3 = mkF m 0 #[.val (.ref x0), .val (.int x1), .unset] [] := by first | (simp [entryFrame, mkF, argsToLocals, Value.category]; done) | rfl
def own_Q3_0 (Z : State) (ax : Addr) (xa : Int32) (kx : Addr) (kk : ClassId) (k0 : Int32) (k1 : Int32) (k2 : Int32) (k3 : Int32) (h0 : Heap) (n0 : Nat) (v : Option Value) (h : Heap) (L : List Loc) : Prop := v = none ∧ Fr n0 L ∧ Keep h0 h [ax, kx] ∧ Fld Z h ax "com/example/bucketsplit/bucketsplit/core/Page" "mKeys" "[I" (.ref kx) ∧ Fld Z h ax "com/example/bucketsplit/bucketsplit/core/Page" "mSize" "I" (.int (1 : Int32)) ∧ Arv Z h kx kk .int (4 : Int32) [(.int xa), (.int k1), (.int k2), (.int k3)] (.int (0 : Int32))
theorem own_rm3_0 (l : Launch) (Z : State) (a0 : Array Value) (hw : ∀ d ∈ tables_1, d.before a0 Z = true) (ws : List Jvm.Cond) (ax : Addr) (xa : Int32) (kx : Addr) (kk : ClassId) (k0 : Int32) (k1 : Int32) (k2 : Int32) (k3 : Int32) (h0 : Heap) (n0 : Nat) (Z0 : n0 ≤ h0.size) (pf0 : Exa Z h0 ax "com/example/bucketsplit/bucketsplit/core/Page") (pf1 : Fld Z h0 ax "com/example/bucketsplit/bucketsplit/core/Page" "mKeys" "[I" (.ref kx)) (pf2 : Fld Z h0 ax "com/example/bucketsplit/bucketsplit/core/Page" "mSize" "I" (.int (0 : Int32))) (pf3 : Arv Z h0 kx kk .int (4 : Int32) [(.int k0), (.int k1), (.int k2), (.int k3)] (.int (0 : Int32))) (pn0 : ax ≠ kx) (pg_ax : n0 ≤ ax) (pg_kx : n0 ≤ kx) :
    MetFree l (⟨"com/example/bucketsplit/bucketsplit/core/Page", "add", "(I)V"⟩ : MethodName) (head1 (Jvm.Cond.code (⟨"com/example/bucketsplit/bucketsplit/core/Page", "add", "(I)V"⟩ : MethodName) prog_54_method_3_code 3 none :: ws) ({ frames := 0, cells := 0, slots := 0, locals := 0 } : Room)) (fun a U => a = #[(.ref ax), (.int xa)] ∧ Z.Warmed39 U.vm ∧ U.heap = h0) (fun _ _ _ _ _ => True) (fun _ U o U' => ∃ v L, o = .returned v ∧ own_Q3_0 Z ax xa kx kk k0 k1 k2 k3 h0 n0 v U'.heap L ∧ FrameEnd U o U' L ({ frames := 0, cells := 0, slots := 0, locals := 0 } : Room).cells ({ frames := 0, cells := 0, slots := 0, locals := 0 } : Room).slots) := by
  refine MetFree.of_bodySF (plainFor_of_name own_pn3) hisR ?_
  intro p e s m args below meth c s₁ Bd hml0 hP hK
  obtain ⟨rfl, hZ, hh⟩ := hP
  have hx := Bd.exec
  have hby := Bd.bytes
  have hlk := Bd.notSynchronized
  have hret := Bd.returns
  have hml : c.maxLocals = 3 := hml0
  have hown : s.vm.findClass "com/example/bucketsplit/bucketsplit/core/Page" = some m.cls := findClass_of_methodNamed Bd.named
  have hnm := (name_of_methodNamed Bd.named Bd.method).1
  have X0 : Stand p l e ({ frames := 0, cells := 0, slots := 0, locals := 0 } : Room) s m #[(.ref ax), (.int xa)] below meth c s₁ [] 0 0 := Stand.of_body Bd
  have e0 : s₁.heap = h0 := by rw [← hh, Bd.state]; rfl
  have N0 := Fr.nil n0
  suffices key : own_Go p e below (own_End s below (own_Q3_0 Z ax xa kx kk k0 k1 k2 k3 h0 n0) ({ frames := 0, cells := 0, slots := 0, locals := 0 } : Room).cells ({ frames := 0, cells := 0, slots := 0, locals := 0 } : Room).slots) (s₁.setTop (mkF m 0 #[.val (.ref ax), .val (.int xa), .unset] [])) by
    obtain ⟨t, k1, k2, v, L, k3, k4, k5⟩ := key
    exact ⟨t, _, castTop (own_ef3_0 m ax xa) k1, k2, k3, v, L, rfl, k4, k5⟩
  show own_Go p e below _ (s₁.setTop (mkF m 0 #[.val (.ref ax), .val (.int xa), .unset] []))
  refine own_by (fun _ => XS.aloadN X0.here hx rfl (hb hby own_d3_0) rfl rfl) ?_
  show own_Go p e below _ (s₁.setTop (mkF m 1 #[.val (.ref ax), .val (.int xa), .unset] [(.ref ax)]))
  obtain ⟨T1, X1, e1, st1⟩ := getF X0 hx hZ hown (host := "") (Or.inl (hw _ (List.mem_of_getElem? (i := 17) rfl))) Via.refl e0 pf2 (g := (mkF m 1 #[.val (.ref ax), .val (.int xa), .unset] [(.ref ax)])) rfl rfl (hb hby own_d3_1)
  refine own_by st1 ?_
  show own_Go p e below _ (T1.setTop (mkF m 4 #[.val (.ref ax), .val (.int xa), .unset] [(.int (0 : Int32))]))
  refine own_by (fun _ => XS.aloadN X1.here hx rfl (hb hby own_d3_4) rfl rfl) ?_
  show own_Go p e below _ (T1.setTop (mkF m 5 #[.val (.ref ax), .val (.int xa), .unset] [(.ref ax), (.int (0 : Int32))]))
  obtain ⟨T2, X2, e2, st2⟩ := getF X1 hx hZ hown (host := "") (Or.inl (hw _ (List.mem_of_getElem? (i := 10) rfl))) Via.refl e1 pf1 (g := (mkF m 5 #[.val (.ref ax), .val (.int xa), .unset] [(.ref ax), (.int (0 : Int32))])) rfl rfl (hb hby own_d3_5)
  refine own_by st2 ?_
  show own_Go p e below _ (T2.setTop (mkF m 8 #[.val (.ref ax), .val (.int xa), .unset] [(.ref kx), (.int (0 : Int32))]))
  obtain ⟨cl3, ar3, q3, sz3, nn3, hs3, gs3⟩ := id pf3
  refine own_by (X2.arraylength hx (by rw [e2]; exact ar3.1) (State.isArrayOf_alike hZ.alike ar3.2.1) (g := (mkF m 8 #[.val (.ref ax), .val (.int xa), .unset] [(.ref kx), (.int (0 : Int32))])) rfl rfl (hb hby own_d3_8)) ?_
  rw [len_of sz3 nn3]
  show own_Go p e below _ (T2.setTop (mkF m 9 #[.val (.ref ax), .val (.int xa), .unset] [(.int (4 : Int32)), (.int (0 : Int32))]))
  refine own_by (fun _ => XS.icmpYes X2.here hx rfl (pc0 := 9) (pc' := 30) rfl (hb hby own_d3_9) rfl (feq (by decide : ¬ ((0 : Int32) = (4 : Int32)))).2 (by decide) (by decide)) ?_
  show own_Go p e below _ (T2.setTop (mkF m 30 #[.val (.ref ax), .val (.int xa), .unset] []))
  refine own_by (fun _ => XS.aloadN X2.here hx rfl (hb hby own_d3_30) rfl rfl) ?_
  show own_Go p e below _ (T2.setTop (mkF m 31 #[.val (.ref ax), .val (.int xa), .unset] [(.ref ax)]))
  obtain ⟨T4, X4, e4, st4⟩ := getF X2 hx hZ hown (host := "") (Or.inl (hw _ (List.mem_of_getElem? (i := 17) rfl))) Via.refl e2 pf2 (g := (mkF m 31 #[.val (.ref ax), .val (.int xa), .unset] [(.ref ax)])) rfl rfl (hb hby own_d3_31)
  refine own_by st4 ?_
  show own_Go p e below _ (T4.setTop (mkF m 34 #[.val (.ref ax), .val (.int xa), .unset] [(.int (0 : Int32))]))
  refine own_by (fun _ => XS.istoreN X4.here hx rfl (hb hby own_d3_34) rfl (l' := #[.val (.ref ax), .val (.int xa), .val (.int (0 : Int32))]) rfl) ?_
  show own_Go p e below _ (T4.setTop (mkF m 35 #[.val (.ref ax), .val (.int xa), .val (.int (0 : Int32))] []))
  refine own_by (fun _ => XS.iloadN X4.here hx rfl (hb hby own_d3_35) rfl) ?_
  show own_Go p e below _ (T4.setTop (mkF m 36 #[.val (.ref ax), .val (.int xa), .val (.int (0 : Int32))] [(.int (0 : Int32))]))
  refine own_by (fun _ => XS.ifYes X4.here hx rfl (pc0 := 36) (pc' := 71) rfl (hb hby own_d3_36) rfl ((if0 _ _).trans (flt (by decide : ¬ ((0 : Int32) < (0 : Int32)))).2.2.2) (by decide) (by decide)) ?_
  show own_Go p e below _ (T4.setTop (mkF m 71 #[.val (.ref ax), .val (.int xa), .val (.int (0 : Int32))] []))
  refine own_by (fun _ => XS.aloadN X4.here hx rfl (hb hby own_d3_71) rfl rfl) ?_
  show own_Go p e below _ (T4.setTop (mkF m 72 #[.val (.ref ax), .val (.int xa), .val (.int (0 : Int32))] [(.ref ax)]))
  obtain ⟨T5, X5, e5, st5⟩ := getF X4 hx hZ hown (host := "") (Or.inl (hw _ (List.mem_of_getElem? (i := 10) rfl))) Via.refl e4 pf1 (g := (mkF m 72 #[.val (.ref ax), .val (.int xa), .val (.int (0 : Int32))] [(.ref ax)])) rfl rfl (hb hby own_d3_72)
  refine own_by st5 ?_
  show own_Go p e below _ (T5.setTop (mkF m 75 #[.val (.ref ax), .val (.int xa), .val (.int (0 : Int32))] [(.ref kx)]))
  refine own_by (fun _ => XS.iloadN X5.here hx rfl (hb hby own_d3_75) rfl) ?_
  show own_Go p e below _ (T5.setTop (mkF m 76 #[.val (.ref ax), .val (.int xa), .val (.int (0 : Int32))] [(.int (0 : Int32)), (.ref kx)]))
  refine own_by (fun _ => XS.iloadN X5.here hx rfl (hb hby own_d3_76) rfl) ?_
  show own_Go p e below _ (T5.setTop (mkF m 77 #[.val (.ref ax), .val (.int xa), .val (.int (0 : Int32))] [(.int xa), (.int (0 : Int32)), (.ref kx)]))
  obtain ⟨cl6, ar6, q6, sz6, nn6, hs6, gs6⟩ := id pf3
  have hin6 : ¬ ((0 : Int32) < 0 ∨ cl6.slots.size ≤ ((0 : Int32)).toNatClampNeg) := inb_of sz6 ⟨by decide, by decide⟩
  obtain ⟨T7, h7, X7, e7, W7, st7⟩ := stI X5 hx hZ e5 ar6 (j := (0 : Int32)) hin6 (g := (mkF m 77 #[.val (.ref ax), .val (.int xa), .val (.int (0 : Int32))] [(.int xa), (.int (0 : Int32)), (.ref kx)])) rfl rfl (hb hby own_d3_77)
  refine own_by st7 ?_
  have va7 : Arv Z h7 kx kk .int (4 : Int32) [(.int xa), (.int k1), (.int k2), (.int k3)] (.int (0 : Int32)) := Arv.set ar6 q6 sz6 nn6 hs6 gs6 rfl W7 0 rfl (Nat.le_of_ble_eq_true rfl)
  have z7 : n0 ≤ h7.size := Nat.le_trans Z0 (Keep.of_wr W7).1
  have N7 := Fr.snoc X7 N0 pg_kx
  have K7 : Keep h0 h7 [ax, kx] := (Keep.refl h0 [ax, kx]).wr W7 (Or.inl (List.mem_of_getElem? (i := 1) rfl))
  show own_Go p e below _ (T7.setTop (mkF m 78 #[.val (.ref ax), .val (.int xa), .val (.int (0 : Int32))] []))
  refine own_by (fun _ => XS.aloadN X7.here hx rfl (hb hby own_d3_78) rfl rfl) ?_
  show own_Go p e below _ (T7.setTop (mkF m 79 #[.val (.ref ax), .val (.int xa), .val (.int (0 : Int32))] [(.ref ax)]))
  refine own_by (fun _ => XS.dup X7.here hx rfl (hb hby own_d3_79) rfl rfl) ?_
  show own_Go p e below _ (T7.setTop (mkF m 80 #[.val (.ref ax), .val (.int xa), .val (.int (0 : Int32))] [(.ref ax), (.ref ax)]))
  have f8 : Fld Z h7 ax "com/example/bucketsplit/bucketsplit/core/Page" "mSize" "I" (.int (0 : Int32)) := (pf2.other W7 (Or.inl pn0))
  obtain ⟨T9, X9, e9, st9⟩ := getF X7 hx hZ hown (host := "") (Or.inl (hw _ (List.mem_of_getElem? (i := 17) rfl))) Via.refl e7 f8 (g := (mkF m 80 #[.val (.ref ax), .val (.int xa), .val (.int (0 : Int32))] [(.ref ax), (.ref ax)])) rfl rfl (hb hby own_d3_80)
  refine own_by st9 ?_
  show own_Go p e below _ (T9.setTop (mkF m 83 #[.val (.ref ax), .val (.int xa), .val (.int (0 : Int32))] [(.int (0 : Int32)), (.ref ax)]))
  refine own_by (fun _ => XS.iconst X9.here hx rfl (hb hby own_d3_83)) ?_
  show own_Go p e below _ (T9.setTop (mkF m 84 #[.val (.ref ax), .val (.int xa), .val (.int (0 : Int32))] [(.int (1 : Int32)), (.int (0 : Int32)), (.ref ax)]))
  refine own_by (fun _ => XS.iadd X9.here hx rfl (hb hby own_d3_84) rfl) ?_
  show own_Go p e below _ (T9.setTop (mkF m 85 #[.val (.ref ax), .val (.int xa), .val (.int (0 : Int32))] [(.int (1 : Int32)), (.ref ax)]))
  have f10 : Exa Z h7 ax "com/example/bucketsplit/bucketsplit/core/Page" := (pf0.wr W7)
  obtain ⟨T11, h11, X11, e11, W11, st11⟩ := putF X9 hx hZ hown (host := "") (Or.inl (hw _ (List.mem_of_getElem? (i := 17) rfl))) Via.refl e9 f8 f10 (Or.inl (hw _ (List.mem_of_getElem? (i := 18) rfl))) (hw _ (List.mem_of_getElem? (i := 1) rfl)) (ty := .int) (by decide) rfl rfl (g := (mkF m 85 #[.val (.ref ax), .val (.int xa), .val (.int (0 : Int32))] [(.int (1 : Int32)), (.ref ax)])) rfl rfl (hb hby own_d3_85)
  refine own_by st11 ?_
  have fw11 : Fld Z h11 ax "com/example/bucketsplit/bucketsplit/core/Page" "mSize" "I" (.int (1 : Int32)) := f8.same W11
  have z11 : n0 ≤ h11.size := Nat.le_trans z7 (Keep.of_wr W11).1
  have N11 := Fr.snoc X11 N7 pg_ax
  have K11 : Keep h0 h11 [ax, kx] := K7.wr W11 (Or.inl (List.mem_of_getElem? (i := 0) rfl))
  show own_Go p e below _ (T11.setTop (mkF m 88 #[.val (.ref ax), .val (.int xa), .val (.int (0 : Int32))] []))
  have f12 : Fld Z h11 ax "com/example/bucketsplit/bucketsplit/core/Page" "mKeys" "[I" (.ref kx) := ((pf1.other W7 (Or.inl pn0)).other W11 (Or.inr (slot_ne (Or.inl (hw _ (List.mem_of_getElem? (i := 11) rfl))) (Or.inl (hw _ (List.mem_of_getElem? (i := 18) rfl))) (by decide) (t := (.array .int)) (t' := .int) (by decide) (by decide))))
  have f13 : Arv Z h11 kx kk .int (4 : Int32) [(.int xa), (.int k1), (.int k2), (.int k3)] (.int (0 : Int32)) := (va7.other W11 (Ne.symm pn0))
  exact own_retV X11 hx hlk e11 hret (hb hby own_d3_88) (by decide) (by decide) ⟨rfl, N11, K11, f12, fw11, f13⟩

theorem own_d3_39 : decode prog_54_method_3_code 39 = .ok (.aload_n 0, 1) := by decide +kernel
theorem own_d3_40 : decode prog_54_method_3_code 40 = .ok (.getfield 9, 3) := by decide +kernel
theorem own_d3_43 : decode prog_54_method_3_code 43 = .ok (.iload_n 2, 1) := by decide +kernel
theorem own_d3_44 : decode prog_54_method_3_code 44 = .ok (.iconst 1, 1) := by decide +kernel
theorem own_d3_45 : decode prog_54_method_3_code 45 = .ok (.isub, 1) := by decide +kernel
theorem own_d3_46 : decode prog_54_method_3_code 46 = .ok (.iaload, 1) := by decide +kernel
theorem own_d3_47 : decode prog_54_method_3_code 47 = .ok (.iload_n 1, 1) := by decide +kernel
theorem own_d3_48 : decode prog_54_method_3_code 48 = .ok (.if_icmp .le 23, 3) := by decide +kernel
theorem own_d3_51 : decode prog_54_method_3_code 51 = .ok (.aload_n 0, 1) := by decide +kernel
theorem own_d3_52 : decode prog_54_method_3_code 52 = .ok (.getfield 9, 3) := by decide +kernel
theorem own_d3_55 : decode prog_54_method_3_code 55 = .ok (.iload_n 2, 1) := by decide +kernel
theorem own_d3_56 : decode prog_54_method_3_code 56 = .ok (.aload_n 0, 1) := by decide +kernel
theorem own_d3_57 : decode prog_54_method_3_code 57 = .ok (.getfield 9, 3) := by decide +kernel
theorem own_d3_60 : decode prog_54_method_3_code 60 = .ok (.iload_n 2, 1) := by decide +kernel
theorem own_d3_61 : decode prog_54_method_3_code 61 = .ok (.iconst 1, 1) := by decide +kernel
theorem own_d3_62 : decode prog_54_method_3_code 62 = .ok (.isub, 1) := by decide +kernel
theorem own_d3_63 : decode prog_54_method_3_code 63 = .ok (.iaload, 1) := by decide +kernel
theorem own_d3_64 : decode prog_54_method_3_code 64 = .ok (.iastore, 1) := by decide +kernel
theorem own_d3_65 : decode prog_54_method_3_code 65 = .ok (.iinc 2 (-1), 3) := by decide +kernel
theorem own_d3_68 : decode prog_54_method_3_code 68 = .ok (.goto (-33), 3) := by decide +kernel
theorem own_ef3_1 (m : MethodId) (x0 : Addr) (x1 : Int32) : entryFrame m #[(.ref x0), (.int x1)] 3 = mkF m 0 #[.val (.ref x0), .val (.int x1), .unset] [] := by first | (simp [entryFrame, mkF, argsToLocals, Value.category]; done) | rfl
def own_Q3_1 (Z : State) (ax : Addr) (xa : Int32) (kx : Addr) (kk : ClassId) (k0 : Int32) (k1 : Int32) (k2 : Int32) (k3 : Int32) (h0 : Heap) (n0 : Nat) (v : Option Value) (h : Heap) (L : List Loc) : Prop := v = none ∧ Fr n0 L ∧ Keep h0 h [ax, kx] ∧ Fld Z h ax "com/example/bucketsplit/bucketsplit/core/Page" "mKeys" "[I" (.ref kx) ∧ Fld Z h ax "com/example/bucketsplit/bucketsplit/core/Page" "mSize" "I" (.int (2 : Int32)) ∧ Arv Z h kx kk .int (4 : Int32) [(.int (if xa < k0 then xa else k0)), (.int (if xa < k0 then k0 else xa)), (.int k2), (.int k3)] (.int (0 : Int32))
theorem own_rm3_1 (l : Launch) (Z : State) (a0 : Array Value) (hw : ∀ d ∈ tables_1, d.before a0 Z = true) (ws : List Jvm.Cond) (ax : Addr) (xa : Int32) (kx : Addr) (kk : ClassId) (k0 : Int32) (k1 : Int32) (k2 : Int32) (k3 : Int32) (h0 : Heap) (n0 : Nat) (Z0 : n0 ≤ h0.size) (pf0 : Exa Z h0 ax "com/example/bucketsplit/bucketsplit/core/Page") (pf1 : Fld Z h0 ax "com/example/bucketsplit/bucketsplit/core/Page" "mKeys" "[I" (.ref kx)) (pf2 : Fld Z h0 ax "com/example/bucketsplit/bucketsplit/core/Page" "mSize" "I" (.int (1 : Int32))) (pf3 : Arv Z h0 kx kk .int (4 : Int32) [(.int k0), (.int k1), (.int k2), (.int k3)] (.int (0 : Int32))) (pn0 : ax ≠ kx) (pg_ax : n0 ≤ ax) (pg_kx : n0 ≤ kx) :
    MetFree l (⟨"com/example/bucketsplit/bucketsplit/core/Page", "add", "(I)V"⟩ : MethodName) (head1 (Jvm.Cond.code (⟨"com/example/bucketsplit/bucketsplit/core/Page", "add", "(I)V"⟩ : MethodName) prog_54_method_3_code 3 none :: ws) ({ frames := 0, cells := 0, slots := 0, locals := 0 } : Room)) (fun a U => a = #[(.ref ax), (.int xa)] ∧ Z.Warmed39 U.vm ∧ U.heap = h0) (fun _ _ _ _ _ => True) (fun _ U o U' => ∃ v L, o = .returned v ∧ own_Q3_1 Z ax xa kx kk k0 k1 k2 k3 h0 n0 v U'.heap L ∧ FrameEnd U o U' L ({ frames := 0, cells := 0, slots := 0, locals := 0 } : Room).cells ({ frames := 0, cells := 0, slots := 0, locals := 0 } : Room).slots) := by
  refine MetFree.of_bodySF (plainFor_of_name own_pn3) hisR ?_
  intro p e s m args below meth c s₁ Bd hml0 hP hK
  obtain ⟨rfl, hZ, hh⟩ := hP
  have hx := Bd.exec
  have hby := Bd.bytes
  have hlk := Bd.notSynchronized
  have hret := Bd.returns
  have hml : c.maxLocals = 3 := hml0
  have hown : s.vm.findClass "com/example/bucketsplit/bucketsplit/core/Page" = some m.cls := findClass_of_methodNamed Bd.named
  have hnm := (name_of_methodNamed Bd.named Bd.method).1
  have X0 : Stand p l e ({ frames := 0, cells := 0, slots := 0, locals := 0 } : Room) s m #[(.ref ax), (.int xa)] below meth c s₁ [] 0 0 := Stand.of_body Bd
  have e0 : s₁.heap = h0 := by rw [← hh, Bd.state]; rfl
  have N0 := Fr.nil n0
  suffices key : own_Go p e below (own_End s below (own_Q3_1 Z ax xa kx kk k0 k1 k2 k3 h0 n0) ({ frames := 0, cells := 0, slots := 0, locals := 0 } : Room).cells ({ frames := 0, cells := 0, slots := 0, locals := 0 } : Room).slots) (s₁.setTop (mkF m 0 #[.val (.ref ax), .val (.int xa), .unset] [])) by
    obtain ⟨t, k1, k2, v, L, k3, k4, k5⟩ := key
    exact ⟨t, _, castTop (own_ef3_1 m ax xa) k1, k2, k3, v, L, rfl, k4, k5⟩
  show own_Go p e below _ (s₁.setTop (mkF m 0 #[.val (.ref ax), .val (.int xa), .unset] []))
  refine own_by (fun _ => XS.aloadN X0.here hx rfl (hb hby own_d3_0) rfl rfl) ?_
  show own_Go p e below _ (s₁.setTop (mkF m 1 #[.val (.ref ax), .val (.int xa), .unset] [(.ref ax)]))
  obtain ⟨T1, X1, e1, st1⟩ := getF X0 hx hZ hown (host := "") (Or.inl (hw _ (List.mem_of_getElem? (i := 17) rfl))) Via.refl e0 pf2 (g := (mkF m 1 #[.val (.ref ax), .val (.int xa), .unset] [(.ref ax)])) rfl rfl (hb hby own_d3_1)
  refine own_by st1 ?_
  show own_Go p e below _ (T1.setTop (mkF m 4 #[.val (.ref ax), .val (.int xa), .unset] [(.int (1 : Int32))]))
  refine own_by (fun _ => XS.aloadN X1.here hx rfl (hb hby own_d3_4) rfl rfl) ?_
  show own_Go p e below _ (T1.setTop (mkF m 5 #[.val (.ref ax), .val (.int xa), .unset] [(.ref ax), (.int (1 : Int32))]))
  obtain ⟨T2, X2, e2, st2⟩ := getF X1 hx hZ hown (host := "") (Or.inl (hw _ (List.mem_of_getElem? (i := 10) rfl))) Via.refl e1 pf1 (g := (mkF m 5 #[.val (.ref ax), .val (.int xa), .unset] [(.ref ax), (.int (1 : Int32))])) rfl rfl (hb hby own_d3_5)
  refine own_by st2 ?_
  show own_Go p e below _ (T2.setTop (mkF m 8 #[.val (.ref ax), .val (.int xa), .unset] [(.ref kx), (.int (1 : Int32))]))
  obtain ⟨cl3, ar3, q3, sz3, nn3, hs3, gs3⟩ := id pf3
  refine own_by (X2.arraylength hx (by rw [e2]; exact ar3.1) (State.isArrayOf_alike hZ.alike ar3.2.1) (g := (mkF m 8 #[.val (.ref ax), .val (.int xa), .unset] [(.ref kx), (.int (1 : Int32))])) rfl rfl (hb hby own_d3_8)) ?_
  rw [len_of sz3 nn3]
  show own_Go p e below _ (T2.setTop (mkF m 9 #[.val (.ref ax), .val (.int xa), .unset] [(.int (4 : Int32)), (.int (1 : Int32))]))
  refine own_by (fun _ => XS.icmpYes X2.here hx rfl (pc0 := 9) (pc' := 30) rfl (hb hby own_d3_9) rfl (feq (by decide : ¬ ((1 : Int32) = (4 : Int32)))).2 (by decide) (by decide)) ?_
  show own_Go p e below _ (T2.setTop (mkF m 30 #[.val (.ref ax), .val (.int xa), .unset] []))
  refine own_by (fun _ => XS.aloadN X2.here hx rfl (hb hby own_d3_30) rfl rfl) ?_
  show own_Go p e below _ (T2.setTop (mkF m 31 #[.val (.ref ax), .val (.int xa), .unset] [(.ref ax)]))
  obtain ⟨T4, X4, e4, st4⟩ := getF X2 hx hZ hown (host := "") (Or.inl (hw _ (List.mem_of_getElem? (i := 17) rfl))) Via.refl e2 pf2 (g := (mkF m 31 #[.val (.ref ax), .val (.int xa), .unset] [(.ref ax)])) rfl rfl (hb hby own_d3_31)
  refine own_by st4 ?_
  show own_Go p e below _ (T4.setTop (mkF m 34 #[.val (.ref ax), .val (.int xa), .unset] [(.int (1 : Int32))]))
  refine own_by (fun _ => XS.istoreN X4.here hx rfl (hb hby own_d3_34) rfl (l' := #[.val (.ref ax), .val (.int xa), .val (.int (1 : Int32))]) rfl) ?_
  show own_Go p e below _ (T4.setTop (mkF m 35 #[.val (.ref ax), .val (.int xa), .val (.int (1 : Int32))] []))
  refine own_by (fun _ => XS.iloadN X4.here hx rfl (hb hby own_d3_35) rfl) ?_
  show own_Go p e below _ (T4.setTop (mkF m 36 #[.val (.ref ax), .val (.int xa), .val (.int (1 : Int32))] [(.int (1 : Int32))]))
  refine own_by (fun _ => XS.ifNo X4.here hx rfl (hb hby own_d3_36) rfl ((if0 _ _).trans (tlt (by decide : (0 : Int32) < (1 : Int32))).2.2.2)) ?_
  show own_Go p e below _ (T4.setTop (mkF m 39 #[.val (.ref ax), .val (.int xa), .val (.int (1 : Int32))] []))
  refine own_by (fun _ => XS.aloadN X4.here hx rfl (hb hby own_d3_39) rfl rfl) ?_
  show own_Go p e below _ (T4.setTop (mkF m 40 #[.val (.ref ax), .val (.int xa), .val (.int (1 : Int32))] [(.ref ax)]))
  obtain ⟨T5, X5, e5, st5⟩ := getF X4 hx hZ hown (host := "") (Or.inl (hw _ (List.mem_of_getElem? (i := 10) rfl))) Via.refl e4 pf1 (g := (mkF m 40 #[.val (.ref ax), .val (.int xa), .val (.int (1 : Int32))] [(.ref ax)])) rfl rfl (hb hby own_d3_40)
  refine own_by st5 ?_
  show own_Go p e below _ (T5.setTop (mkF m 43 #[.val (.ref ax), .val (.int xa), .val (.int (1 : Int32))] [(.ref kx)]))
  refine own_by (fun _ => XS.iloadN X5.here hx rfl (hb hby own_d3_43) rfl) ?_
  show own_Go p e below _ (T5.setTop (mkF m 44 #[.val (.ref ax), .val (.int xa), .val (.int (1 : Int32))] [(.int (1 : Int32)), (.ref kx)]))
  refine own_by (fun _ => XS.iconst X5.here hx rfl (hb hby own_d3_44)) ?_
  show own_Go p e below _ (T5.setTop (mkF m 45 #[.val (.ref ax), .val (.int xa), .val (.int (1 : Int32))] [(.int (1 : Int32)), (.int (1 : Int32)), (.ref kx)]))
  refine own_by (fun _ => XS.isub X5.here hx rfl (hb hby own_d3_45) rfl) ?_
  show own_Go p e below _ (T5.setTop (mkF m 46 #[.val (.ref ax), .val (.int xa), .val (.int (1 : Int32))] [(.int (0 : Int32)), (.ref kx)]))
  obtain ⟨cl6, ar6, q6, sz6, nn6, hs6, gs6⟩ := id pf3
  have hin6 : ¬ ((0 : Int32) < 0 ∨ cl6.slots.size ≤ ((0 : Int32)).toNatClampNeg) := inb_of sz6 ⟨by decide, by decide⟩
  refine own_by (X5.iaload hx (j := (0 : Int32)) (v := (.int k0)) (by rw [e5]; exact ar6.1) (State.isArrayOf_alike hZ.alike ar6.2.1) ar6.2.2 hin6 (hs6.at hin6 rfl) (g := (mkF m 46 #[.val (.ref ax), .val (.int xa), .val (.int (1 : Int32))] [(.int (0 : Int32)), (.ref kx)])) rfl rfl (hb hby own_d3_46)) ?_
  show own_Go p e below _ (T5.setTop (mkF m 47 #[.val (.ref ax), .val (.int xa), .val (.int (1 : Int32))] [(.int k0)]))
  refine own_by (fun _ => XS.iloadN X5.here hx rfl (hb hby own_d3_47) rfl) ?_
  show own_Go p e below _ (T5.setTop (mkF m 48 #[.val (.ref ax), .val (.int xa), .val (.int (1 : Int32))] [(.int xa), (.int k0)]))
  by_cases hc48_7 : xa < k0
  ·
    skip
    refine own_by (fun _ => XS.icmpNo X5.here hx rfl (hb hby own_d3_48) rfl (tlt hc48_7).2.2.2) ?_
    show own_Go p e below _ (T5.setTop (mkF m 51 #[.val (.ref ax), .val (.int xa), .val (.int (1 : Int32))] []))
    refine own_by (fun _ => XS.aloadN X5.here hx rfl (hb hby own_d3_51) rfl rfl) ?_
    show own_Go p e below _ (T5.setTop (mkF m 52 #[.val (.ref ax), .val (.int xa), .val (.int (1 : Int32))] [(.ref ax)]))
    obtain ⟨T8, X8, e8, st8⟩ := getF X5 hx hZ hown (host := "") (Or.inl (hw _ (List.mem_of_getElem? (i := 10) rfl))) Via.refl e5 pf1 (g := (mkF m 52 #[.val (.ref ax), .val (.int xa), .val (.int (1 : Int32))] [(.ref ax)])) rfl rfl (hb hby own_d3_52)
    refine own_by st8 ?_
    show own_Go p e below _ (T8.setTop (mkF m 55 #[.val (.ref ax), .val (.int xa), .val (.int (1 : Int32))] [(.ref kx)]))
    refine own_by (fun _ => XS.iloadN X8.here hx rfl (hb hby own_d3_55) rfl) ?_
    show own_Go p e below _ (T8.setTop (mkF m 56 #[.val (.ref ax), .val (.int xa), .val (.int (1 : Int32))] [(.int (1 : Int32)), (.ref kx)]))
    refine own_by (fun _ => XS.aloadN X8.here hx rfl (hb hby own_d3_56) rfl rfl) ?_
    show own_Go p e below _ (T8.setTop (mkF m 57 #[.val (.ref ax), .val (.int xa), .val (.int (1 : Int32))] [(.ref ax), (.int (1 : Int32)), (.ref kx)]))
    obtain ⟨T9, X9, e9, st9⟩ := getF X8 hx hZ hown (host := "") (Or.inl (hw _ (List.mem_of_getElem? (i := 10) rfl))) Via.refl e8 pf1 (g := (mkF m 57 #[.val (.ref ax), .val (.int xa), .val (.int (1 : Int32))] [(.ref ax), (.int (1 : Int32)), (.ref kx)])) rfl rfl (hb hby own_d3_57)
    refine own_by st9 ?_
    show own_Go p e below _ (T9.setTop (mkF m 60 #[.val (.ref ax), .val (.int xa), .val (.int (1 : Int32))] [(.ref kx), (.int (1 : Int32)), (.ref kx)]))
    refine own_by (fun _ => XS.iloadN X9.here hx rfl (hb hby own_d3_60) rfl) ?_
    show own_Go p e below _ (T9.setTop (mkF m 61 #[.val (.ref ax), .val (.int xa), .val (.int (1 : Int32))] [(.int (1 : Int32)), (.ref kx), (.int (1 : Int32)), (.ref kx)]))
    refine own_by (fun _ => XS.iconst X9.here hx rfl (hb hby own_d3_61)) ?_
    show own_Go p e below _ (T9.setTop (mkF m 62 #[.val (.ref ax), .val (.int xa), .val (.int (1 : Int32))] [(.int (1 : Int32)), (.int (1 : Int32)), (.ref kx), (.int (1 : Int32)), (.ref kx)]))
    refine own_by (fun _ => XS.isub X9.here hx rfl (hb hby own_d3_62) rfl) ?_
    show own_Go p e below _ (T9.setTop (mkF m 63 #[.val (.ref ax), .val (.int xa), .val (.int (1 : Int32))] [(.int (0 : Int32)), (.ref kx), (.int (1 : Int32)), (.ref kx)]))
    obtain ⟨cl10, ar10, q10, sz10, nn10, hs10, gs10⟩ := id pf3
    have hin10 : ¬ ((0 : Int32) < 0 ∨ cl10.slots.size ≤ ((0 : Int32)).toNatClampNeg) := inb_of sz10 ⟨by decide, by decide⟩
    refine own_by (X9.iaload hx (j := (0 : Int32)) (v := (.int k0)) (by rw [e9]; exact ar10.1) (State.isArrayOf_alike hZ.alike ar10.2.1) ar10.2.2 hin10 (hs10.at hin10 rfl) (g := (mkF m 63 #[.val (.ref ax), .val (.int xa), .val (.int (1 : Int32))] [(.int (0 : Int32)), (.ref kx), (.int (1 : Int32)), (.ref kx)])) rfl rfl (hb hby own_d3_63)) ?_
    show own_Go p e below _ (T9.setTop (mkF m 64 #[.val (.ref ax), .val (.int xa), .val (.int (1 : Int32))] [(.int k0), (.int (1 : Int32)), (.ref kx)]))
    obtain ⟨cl11, ar11, q11, sz11, nn11, hs11, gs11⟩ := id pf3
    have hin11 : ¬ ((1 : Int32) < 0 ∨ cl11.slots.size ≤ ((1 : Int32)).toNatClampNeg) := inb_of sz11 ⟨by decide, by decide⟩
    obtain ⟨T12, h12, X12, e12, W12, st12⟩ := stI X9 hx hZ e9 ar11 (j := (1 : Int32)) hin11 (g := (mkF m 64 #[.val (.ref ax), .val (.int xa), .val (.int (1 : Int32))] [(.int k0), (.int (1 : Int32)), (.ref kx)])) rfl rfl (hb hby own_d3_64)
    refine own_by st12 ?_
    have va12 : Arv Z h12 kx kk .int (4 : Int32) [(.int k0), (.int k0), (.int k2), (.int k3)] (.int (0 : Int32)) := Arv.set ar11 q11 sz11 nn11 hs11 gs11 rfl W12 1 rfl (Nat.le_of_ble_eq_true rfl)
    have z12 : n0 ≤ h12.size := Nat.le_trans Z0 (Keep.of_wr W12).1
    have N12 := Fr.snoc X12 N0 pg_kx
    have K12 : Keep h0 h12 [ax, kx] := (Keep.refl h0 [ax, kx]).wr W12 (Or.inl (List.mem_of_getElem? (i := 1) rfl))
    show own_Go p e below _ (T12.setTop (mkF m 65 #[.val (.ref ax), .val (.int xa), .val (.int (1 : Int32))] []))
    refine own_by (fun _ => XS.iinc X12.here hx rfl (hb hby own_d3_65) rfl (l' := #[.val (.ref ax), .val (.int xa), .val (.int (0 : Int32))]) rfl) ?_
    show own_Go p e below _ (T12.setTop (mkF m 68 #[.val (.ref ax), .val (.int xa), .val (.int (0 : Int32))] []))
    refine own_by (fun _ => XS.goto X12.here hx rfl (pc0 := 68) (pc' := 35) rfl (hb hby own_d3_68) (by decide) (by decide)) ?_
    show own_Go p e below _ (T12.setTop (mkF m 35 #[.val (.ref ax), .val (.int xa), .val (.int (0 : Int32))] []))
    refine own_by (fun _ => XS.iloadN X12.here hx rfl (hb hby own_d3_35) rfl) ?_
    show own_Go p e below _ (T12.setTop (mkF m 36 #[.val (.ref ax), .val (.int xa), .val (.int (0 : Int32))] [(.int (0 : Int32))]))
    refine own_by (fun _ => XS.ifYes X12.here hx rfl (pc0 := 36) (pc' := 71) rfl (hb hby own_d3_36) rfl ((if0 _ _).trans (flt (by decide : ¬ ((0 : Int32) < (0 : Int32)))).2.2.2) (by decide) (by decide)) ?_
    show own_Go p e below _ (T12.setTop (mkF m 71 #[.val (.ref ax), .val (.int xa), .val (.int (0 : Int32))] []))
    refine own_by (fun _ => XS.aloadN X12.here hx rfl (hb hby own_d3_71) rfl rfl) ?_
    show own_Go p e below _ (T12.setTop (mkF m 72 #[.val (.ref ax), .val (.int xa), .val (.int (0 : Int32))] [(.ref ax)]))
    have f13 : Fld Z h12 ax "com/example/bucketsplit/bucketsplit/core/Page" "mKeys" "[I" (.ref kx) := (pf1.other W12 (Or.inl pn0))
    obtain ⟨T14, X14, e14, st14⟩ := getF X12 hx hZ hown (host := "") (Or.inl (hw _ (List.mem_of_getElem? (i := 10) rfl))) Via.refl e12 f13 (g := (mkF m 72 #[.val (.ref ax), .val (.int xa), .val (.int (0 : Int32))] [(.ref ax)])) rfl rfl (hb hby own_d3_72)
    refine own_by st14 ?_
    show own_Go p e below _ (T14.setTop (mkF m 75 #[.val (.ref ax), .val (.int xa), .val (.int (0 : Int32))] [(.ref kx)]))
    refine own_by (fun _ => XS.iloadN X14.here hx rfl (hb hby own_d3_75) rfl) ?_
    show own_Go p e below _ (T14.setTop (mkF m 76 #[.val (.ref ax), .val (.int xa), .val (.int (0 : Int32))] [(.int (0 : Int32)), (.ref kx)]))
    refine own_by (fun _ => XS.iloadN X14.here hx rfl (hb hby own_d3_76) rfl) ?_
    show own_Go p e below _ (T14.setTop (mkF m 77 #[.val (.ref ax), .val (.int xa), .val (.int (0 : Int32))] [(.int xa), (.int (0 : Int32)), (.ref kx)]))
    obtain ⟨cl15, ar15, q15, sz15, nn15, hs15, gs15⟩ := id va12
    have hin15 : ¬ ((0 : Int32) < 0 ∨ cl15.slots.size ≤ ((0 : Int32)).toNatClampNeg) := inb_of sz15 ⟨by decide, by decide⟩
    obtain ⟨T16, h16, X16, e16, W16, st16⟩ := stI X14 hx hZ e14 ar15 (j := (0 : Int32)) hin15 (g := (mkF m 77 #[.val (.ref ax), .val (.int xa), .val (.int (0 : Int32))] [(.int xa), (.int (0 : Int32)), (.ref kx)])) rfl rfl (hb hby own_d3_77)
    refine own_by st16 ?_
    have va16 : Arv Z h16 kx kk .int (4 : Int32) [(.int xa), (.int k0), (.int k2), (.int k3)] (.int (0 : Int32)) := Arv.set ar15 q15 sz15 nn15 hs15 gs15 rfl W16 0 rfl (Nat.le_of_ble_eq_true rfl)
    have z16 : n0 ≤ h16.size := Nat.le_trans z12 (Keep.of_wr W16).1
    have N16 := Fr.snoc X16 N12 pg_kx
    have K16 : Keep h0 h16 [ax, kx] := K12.wr W16 (Or.inl (List.mem_of_getElem? (i := 1) rfl))
    show own_Go p e below _ (T16.setTop (mkF m 78 #[.val (.ref ax), .val (.int xa), .val (.int (0 : Int32))] []))
    refine own_by (fun _ => XS.aloadN X16.here hx rfl (hb hby own_d3_78) rfl rfl) ?_
    show own_Go p e below _ (T16.setTop (mkF m 79 #[.val (.ref ax), .val (.int xa), .val (.int (0 : Int32))] [(.ref ax)]))
    refine own_by (fun _ => XS.dup X16.here hx rfl (hb hby own_d3_79) rfl rfl) ?_
    show own_Go p e below _ (T16.setTop (mkF m 80 #[.val (.ref ax), .val (.int xa), .val (.int (0 : Int32))] [(.ref ax), (.ref ax)]))
    have f17 : Fld Z h16 ax "com/example/bucketsplit/bucketsplit/core/Page" "mSize" "I" (.int (1 : Int32)) := ((pf2.other W12 (Or.inl pn0)).other W16 (Or.inl pn0))
    obtain ⟨T18, X18, e18, st18⟩ := getF X16 hx hZ hown (host := "") (Or.inl (hw _ (List.mem_of_getElem? (i := 17) rfl))) Via.refl e16 f17 (g := (mkF m 80 #[.val (.ref ax), .val (.int xa), .val (.int (0 : Int32))] [(.ref ax), (.ref ax)])) rfl rfl (hb hby own_d3_80)
    refine own_by st18 ?_
    show own_Go p e below _ (T18.setTop (mkF m 83 #[.val (.ref ax), .val (.int xa), .val (.int (0 : Int32))] [(.int (1 : Int32)), (.ref ax)]))
    refine own_by (fun _ => XS.iconst X18.here hx rfl (hb hby own_d3_83)) ?_
    show own_Go p e below _ (T18.setTop (mkF m 84 #[.val (.ref ax), .val (.int xa), .val (.int (0 : Int32))] [(.int (1 : Int32)), (.int (1 : Int32)), (.ref ax)]))
    refine own_by (fun _ => XS.iadd X18.here hx rfl (hb hby own_d3_84) rfl) ?_
    show own_Go p e below _ (T18.setTop (mkF m 85 #[.val (.ref ax), .val (.int xa), .val (.int (0 : Int32))] [(.int (2 : Int32)), (.ref ax)]))
    have f19 : Exa Z h16 ax "com/example/bucketsplit/bucketsplit/core/Page" := ((pf0.wr W12).wr W16)
    obtain ⟨T20, h20, X20, e20, W20, st20⟩ := putF X18 hx hZ hown (host := "") (Or.inl (hw _ (List.mem_of_getElem? (i := 17) rfl))) Via.refl e18 f17 f19 (Or.inl (hw _ (List.mem_of_getElem? (i := 18) rfl))) (hw _ (List.mem_of_getElem? (i := 1) rfl)) (ty := .int) (by decide) rfl rfl (g := (mkF m 85 #[.val (.ref ax), .val (.int xa), .val (.int (0 : Int32))] [(.int (2 : Int32)), (.ref ax)])) rfl rfl (hb hby own_d3_85)
    refine own_by st20 ?_
    have fw20 : Fld Z h20 ax "com/example/bucketsplit/bucketsplit/core/Page" "mSize" "I" (.int (2 : Int32)) := f17.same W20
    have z20 : n0 ≤ h20.size := Nat.le_trans z16 (Keep.of_wr W20).1
    have N20 := Fr.snoc X20 N16 pg_ax
    have K20 : Keep h0 h20 [ax, kx] := K16.wr W20 (Or.inl (List.mem_of_getElem? (i := 0) rfl))
    show own_Go p e below _ (T20.setTop (mkF m 88 #[.val (.ref ax), .val (.int xa), .val (.int (0 : Int32))] []))
    have f21 : Fld Z h20 ax "com/example/bucketsplit/bucketsplit/core/Page" "mKeys" "[I" (.ref kx) := ((f13.other W16 (Or.inl pn0)).other W20 (Or.inr (slot_ne (Or.inl (hw _ (List.mem_of_getElem? (i := 11) rfl))) (Or.inl (hw _ (List.mem_of_getElem? (i := 18) rfl))) (by decide) (t := (.array .int)) (t' := .int) (by decide) (by decide))))
    have f22 : Arv Z h20 kx kk .int (4 : Int32) [(.int xa), (.int k0), (.int k2), (.int k3)] (.int (0 : Int32)) := (va16.other W20 (Ne.symm pn0))
    exact own_retV X20 hx hlk e20 hret (hb hby own_d3_88) (by decide) (by decide) ⟨rfl, N20, K20, f21, fw20, (by first | exact f22 | (simp only [if_pos hc48_7]; exact f22))⟩
  ·
    skip
    refine own_by (fun _ => XS.icmpYes X5.here hx rfl (pc0 := 48) (pc' := 71) rfl (hb hby own_d3_48) rfl (flt hc48_7).2.2.2 (by decide) (by decide)) ?_
    show own_Go p e below _ (T5.setTop (mkF m 71 #[.val (.ref ax), .val (.int xa), .val (.int (1 : Int32))] []))
    refine own_by (fun _ => XS.aloadN X5.here hx rfl (hb hby own_d3_71) rfl rfl) ?_
    show own_Go p e below _ (T5.setTop (mkF m 72 #[.val (.ref ax), .val (.int xa), .val (.int (1 : Int32))] [(.ref ax)]))
    obtain ⟨T23, X23, e23, st23⟩ := getF X5 hx hZ hown (host := "") (Or.inl (hw _ (List.mem_of_getElem? (i := 10) rfl))) Via.refl e5 pf1 (g := (mkF m 72 #[.val (.ref ax), .val (.int xa), .val (.int (1 : Int32))] [(.ref ax)])) rfl rfl (hb hby own_d3_72)
    refine own_by st23 ?_
    show own_Go p e below _ (T23.setTop (mkF m 75 #[.val (.ref ax), .val (.int xa), .val (.int (1 : Int32))] [(.ref kx)]))
    refine own_by (fun _ => XS.iloadN X23.here hx rfl (hb hby own_d3_75) rfl) ?_
    show own_Go p e below _ (T23.setTop (mkF m 76 #[.val (.ref ax), .val (.int xa), .val (.int (1 : Int32))] [(.int (1 : Int32)), (.ref kx)]))
    refine own_by (fun _ => XS.iloadN X23.here hx rfl (hb hby own_d3_76) rfl) ?_
    show own_Go p e below _ (T23.setTop (mkF m 77 #[.val (.ref ax), .val (.int xa), .val (.int (1 : Int32))] [(.int xa), (.int (1 : Int32)), (.ref kx)]))
    obtain ⟨cl24, ar24, q24, sz24, nn24, hs24, gs24⟩ := id pf3
    have hin24 : ¬ ((1 : Int32) < 0 ∨ cl24.slots.size ≤ ((1 : Int32)).toNatClampNeg) := inb_of sz24 ⟨by decide, by decide⟩
    obtain ⟨T25, h25, X25, e25, W25, st25⟩ := stI X23 hx hZ e23 ar24 (j := (1 : Int32)) hin24 (g := (mkF m 77 #[.val (.ref ax), .val (.int xa), .val (.int (1 : Int32))] [(.int xa), (.int (1 : Int32)), (.ref kx)])) rfl rfl (hb hby own_d3_77)
    refine own_by st25 ?_
    have va25 : Arv Z h25 kx kk .int (4 : Int32) [(.int k0), (.int xa), (.int k2), (.int k3)] (.int (0 : Int32)) := Arv.set ar24 q24 sz24 nn24 hs24 gs24 rfl W25 1 rfl (Nat.le_of_ble_eq_true rfl)
    have z25 : n0 ≤ h25.size := Nat.le_trans Z0 (Keep.of_wr W25).1
    have N25 := Fr.snoc X25 N0 pg_kx
    have K25 : Keep h0 h25 [ax, kx] := (Keep.refl h0 [ax, kx]).wr W25 (Or.inl (List.mem_of_getElem? (i := 1) rfl))
    show own_Go p e below _ (T25.setTop (mkF m 78 #[.val (.ref ax), .val (.int xa), .val (.int (1 : Int32))] []))
    refine own_by (fun _ => XS.aloadN X25.here hx rfl (hb hby own_d3_78) rfl rfl) ?_
    show own_Go p e below _ (T25.setTop (mkF m 79 #[.val (.ref ax), .val (.int xa), .val (.int (1 : Int32))] [(.ref ax)]))
    refine own_by (fun _ => XS.dup X25.here hx rfl (hb hby own_d3_79) rfl rfl) ?_
    show own_Go p e below _ (T25.setTop (mkF m 80 #[.val (.ref ax), .val (.int xa), .val (.int (1 : Int32))] [(.ref ax), (.ref ax)]))
    have f26 : Fld Z h25 ax "com/example/bucketsplit/bucketsplit/core/Page" "mSize" "I" (.int (1 : Int32)) := (pf2.other W25 (Or.inl pn0))
    obtain ⟨T27, X27, e27, st27⟩ := getF X25 hx hZ hown (host := "") (Or.inl (hw _ (List.mem_of_getElem? (i := 17) rfl))) Via.refl e25 f26 (g := (mkF m 80 #[.val (.ref ax), .val (.int xa), .val (.int (1 : Int32))] [(.ref ax), (.ref ax)])) rfl rfl (hb hby own_d3_80)
    refine own_by st27 ?_
    show own_Go p e below _ (T27.setTop (mkF m 83 #[.val (.ref ax), .val (.int xa), .val (.int (1 : Int32))] [(.int (1 : Int32)), (.ref ax)]))
    refine own_by (fun _ => XS.iconst X27.here hx rfl (hb hby own_d3_83)) ?_
    show own_Go p e below _ (T27.setTop (mkF m 84 #[.val (.ref ax), .val (.int xa), .val (.int (1 : Int32))] [(.int (1 : Int32)), (.int (1 : Int32)), (.ref ax)]))
    refine own_by (fun _ => XS.iadd X27.here hx rfl (hb hby own_d3_84) rfl) ?_
    show own_Go p e below _ (T27.setTop (mkF m 85 #[.val (.ref ax), .val (.int xa), .val (.int (1 : Int32))] [(.int (2 : Int32)), (.ref ax)]))
    have f28 : Exa Z h25 ax "com/example/bucketsplit/bucketsplit/core/Page" := (pf0.wr W25)
    obtain ⟨T29, h29, X29, e29, W29, st29⟩ := putF X27 hx hZ hown (host := "") (Or.inl (hw _ (List.mem_of_getElem? (i := 17) rfl))) Via.refl e27 f26 f28 (Or.inl (hw _ (List.mem_of_getElem? (i := 18) rfl))) (hw _ (List.mem_of_getElem? (i := 1) rfl)) (ty := .int) (by decide) rfl rfl (g := (mkF m 85 #[.val (.ref ax), .val (.int xa), .val (.int (1 : Int32))] [(.int (2 : Int32)), (.ref ax)])) rfl rfl (hb hby own_d3_85)
    refine own_by st29 ?_
    have fw29 : Fld Z h29 ax "com/example/bucketsplit/bucketsplit/core/Page" "mSize" "I" (.int (2 : Int32)) := f26.same W29
    have z29 : n0 ≤ h29.size := Nat.le_trans z25 (Keep.of_wr W29).1
    have N29 := Fr.snoc X29 N25 pg_ax
    have K29 : Keep h0 h29 [ax, kx] := K25.wr W29 (Or.inl (List.mem_of_getElem? (i := 0) rfl))
    show own_Go p e below _ (T29.setTop (mkF m 88 #[.val (.ref ax), .val (.int xa), .val (.int (1 : Int32))] []))
    have f30 : Fld Z h29 ax "com/example/bucketsplit/bucketsplit/core/Page" "mKeys" "[I" (.ref kx) := ((pf1.other W25 (Or.inl pn0)).other W29 (Or.inr (slot_ne (Or.inl (hw _ (List.mem_of_getElem? (i := 11) rfl))) (Or.inl (hw _ (List.mem_of_getElem? (i := 18) rfl))) (by decide) (t := (.array .int)) (t' := .int) (by decide) (by decide))))
    have f31 : Arv Z h29 kx kk .int (4 : Int32) [(.int k0), (.int xa), (.int k2), (.int k3)] (.int (0 : Int32)) := (va25.other W29 (Ne.symm pn0))
    exact own_retV X29 hx hlk e29 hret (hb hby own_d3_88) (by decide) (by decide) ⟨rfl, N29, K29, f30, fw29, (by first | exact f31 | (simp only [if_neg hc48_7]; exact f31))⟩

theorem own_ef3_2 (m : MethodId) (x0 : Addr) (x1 : Int32) : entryFrame m #[(.ref x0), (.int x1)] 3 = mkF m 0 #[.val (.ref x0), .val (.int x1), .unset] [] := by first | (simp [entryFrame, mkF, argsToLocals, Value.category]; done) | rfl
def own_Q3_2 (Z : State) (ax : Addr) (xa : Int32) (kx : Addr) (kk : ClassId) (k0 : Int32) (k1 : Int32) (k2 : Int32) (k3 : Int32) (h0 : Heap) (n0 : Nat) (v : Option Value) (h : Heap) (L : List Loc) : Prop := v = none ∧ Fr n0 L ∧ Keep h0 h [ax, kx] ∧ Fld Z h ax "com/example/bucketsplit/bucketsplit/core/Page" "mKeys" "[I" (.ref kx) ∧ Fld Z h ax "com/example/bucketsplit/bucketsplit/core/Page" "mSize" "I" (.int (3 : Int32)) ∧ Arv Z h kx kk .int (4 : Int32) [(.int (if xa < k1 then (if xa < k0 then xa else k0) else k0)), (.int (if xa < k1 then (if xa < k0 then k0 else xa) else k1)), (.int (if xa < k1 then k1 else xa)), (.int k3)] (.int (0 : Int32))
theorem own_rm3_2 (l : Launch) (Z : State) (a0 : Array Value) (hw : ∀ d ∈ tables_1, d.before a0 Z = true) (ws : List Jvm.Cond) (ax : Addr) (xa : Int32) (kx : Addr) (kk : ClassId) (k0 : Int32) (k1 : Int32) (k2 : Int32) (k3 : Int32) (h0 : Heap) (n0 : Nat) (Z0 : n0 ≤ h0.size) (pf0 : Exa Z h0 ax "com/example/bucketsplit/bucketsplit/core/Page") (pf1 : Fld Z h0 ax "com/example/bucketsplit/bucketsplit/core/Page" "mKeys" "[I" (.ref kx)) (pf2 : Fld Z h0 ax "com/example/bucketsplit/bucketsplit/core/Page" "mSize" "I" (.int (2 : Int32))) (pf3 : Arv Z h0 kx kk .int (4 : Int32) [(.int k0), (.int k1), (.int k2), (.int k3)] (.int (0 : Int32))) (pn0 : ax ≠ kx) (pg_ax : n0 ≤ ax) (pg_kx : n0 ≤ kx) :
    MetFree l (⟨"com/example/bucketsplit/bucketsplit/core/Page", "add", "(I)V"⟩ : MethodName) (head1 (Jvm.Cond.code (⟨"com/example/bucketsplit/bucketsplit/core/Page", "add", "(I)V"⟩ : MethodName) prog_54_method_3_code 3 none :: ws) ({ frames := 0, cells := 0, slots := 0, locals := 0 } : Room)) (fun a U => a = #[(.ref ax), (.int xa)] ∧ Z.Warmed39 U.vm ∧ U.heap = h0) (fun _ _ _ _ _ => True) (fun _ U o U' => ∃ v L, o = .returned v ∧ own_Q3_2 Z ax xa kx kk k0 k1 k2 k3 h0 n0 v U'.heap L ∧ FrameEnd U o U' L ({ frames := 0, cells := 0, slots := 0, locals := 0 } : Room).cells ({ frames := 0, cells := 0, slots := 0, locals := 0 } : Room).slots) := by
  refine MetFree.of_bodySF (plainFor_of_name own_pn3) hisR ?_
  intro p e s m args below meth c s₁ Bd hml0 hP hK
  obtain ⟨rfl, hZ, hh⟩ := hP
  have hx := Bd.exec
  have hby := Bd.bytes
  have hlk := Bd.notSynchronized
  have hret := Bd.returns
  have hml : c.maxLocals = 3 := hml0
  have hown : s.vm.findClass "com/example/bucketsplit/bucketsplit/core/Page" = some m.cls := findClass_of_methodNamed Bd.named
  have hnm := (name_of_methodNamed Bd.named Bd.method).1
  have X0 : Stand p l e ({ frames := 0, cells := 0, slots := 0, locals := 0 } : Room) s m #[(.ref ax), (.int xa)] below meth c s₁ [] 0 0 := Stand.of_body Bd
  have e0 : s₁.heap = h0 := by rw [← hh, Bd.state]; rfl
  have N0 := Fr.nil n0
  suffices key : own_Go p e below (own_End s below (own_Q3_2 Z ax xa kx kk k0 k1 k2 k3 h0 n0) ({ frames := 0, cells := 0, slots := 0, locals := 0 } : Room).cells ({ frames := 0, cells := 0, slots := 0, locals := 0 } : Room).slots) (s₁.setTop (mkF m 0 #[.val (.ref ax), .val (.int xa), .unset] [])) by
    obtain ⟨t, k1, k2, v, L, k3, k4, k5⟩ := key
    exact ⟨t, _, castTop (own_ef3_2 m ax xa) k1, k2, k3, v, L, rfl, k4, k5⟩
  show own_Go p e below _ (s₁.setTop (mkF m 0 #[.val (.ref ax), .val (.int xa), .unset] []))
  refine own_by (fun _ => XS.aloadN X0.here hx rfl (hb hby own_d3_0) rfl rfl) ?_
  show own_Go p e below _ (s₁.setTop (mkF m 1 #[.val (.ref ax), .val (.int xa), .unset] [(.ref ax)]))
  obtain ⟨T1, X1, e1, st1⟩ := getF X0 hx hZ hown (host := "") (Or.inl (hw _ (List.mem_of_getElem? (i := 17) rfl))) Via.refl e0 pf2 (g := (mkF m 1 #[.val (.ref ax), .val (.int xa), .unset] [(.ref ax)])) rfl rfl (hb hby own_d3_1)
  refine own_by st1 ?_
  show own_Go p e below _ (T1.setTop (mkF m 4 #[.val (.ref ax), .val (.int xa), .unset] [(.int (2 : Int32))]))
  refine own_by (fun _ => XS.aloadN X1.here hx rfl (hb hby own_d3_4) rfl rfl) ?_
  show own_Go p e below _ (T1.setTop (mkF m 5 #[.val (.ref ax), .val (.int xa), .unset] [(.ref ax), (.int (2 : Int32))]))
  obtain ⟨T2, X2, e2, st2⟩ := getF X1 hx hZ hown (host := "") (Or.inl (hw _ (List.mem_of_getElem? (i := 10) rfl))) Via.refl e1 pf1 (g := (mkF m 5 #[.val (.ref ax), .val (.int xa), .unset] [(.ref ax), (.int (2 : Int32))])) rfl rfl (hb hby own_d3_5)
  refine own_by st2 ?_
  show own_Go p e below _ (T2.setTop (mkF m 8 #[.val (.ref ax), .val (.int xa), .unset] [(.ref kx), (.int (2 : Int32))]))
  obtain ⟨cl3, ar3, q3, sz3, nn3, hs3, gs3⟩ := id pf3
  refine own_by (X2.arraylength hx (by rw [e2]; exact ar3.1) (State.isArrayOf_alike hZ.alike ar3.2.1) (g := (mkF m 8 #[.val (.ref ax), .val (.int xa), .unset] [(.ref kx), (.int (2 : Int32))])) rfl rfl (hb hby own_d3_8)) ?_
  rw [len_of sz3 nn3]
  show own_Go p e below _ (T2.setTop (mkF m 9 #[.val (.ref ax), .val (.int xa), .unset] [(.int (4 : Int32)), (.int (2 : Int32))]))
  refine own_by (fun _ => XS.icmpYes X2.here hx rfl (pc0 := 9) (pc' := 30) rfl (hb hby own_d3_9) rfl (feq (by decide : ¬ ((2 : Int32) = (4 : Int32)))).2 (by decide) (by decide)) ?_
  show own_Go p e below _ (T2.setTop (mkF m 30 #[.val (.ref ax), .val (.int xa), .unset] []))
  refine own_by (fun _ => XS.aloadN X2.here hx rfl (hb hby own_d3_30) rfl rfl) ?_
  show own_Go p e below _ (T2.setTop (mkF m 31 #[.val (.ref ax), .val (.int xa), .unset] [(.ref ax)]))
  obtain ⟨T4, X4, e4, st4⟩ := getF X2 hx hZ hown (host := "") (Or.inl (hw _ (List.mem_of_getElem? (i := 17) rfl))) Via.refl e2 pf2 (g := (mkF m 31 #[.val (.ref ax), .val (.int xa), .unset] [(.ref ax)])) rfl rfl (hb hby own_d3_31)
  refine own_by st4 ?_
  show own_Go p e below _ (T4.setTop (mkF m 34 #[.val (.ref ax), .val (.int xa), .unset] [(.int (2 : Int32))]))
  refine own_by (fun _ => XS.istoreN X4.here hx rfl (hb hby own_d3_34) rfl (l' := #[.val (.ref ax), .val (.int xa), .val (.int (2 : Int32))]) rfl) ?_
  show own_Go p e below _ (T4.setTop (mkF m 35 #[.val (.ref ax), .val (.int xa), .val (.int (2 : Int32))] []))
  refine own_by (fun _ => XS.iloadN X4.here hx rfl (hb hby own_d3_35) rfl) ?_
  show own_Go p e below _ (T4.setTop (mkF m 36 #[.val (.ref ax), .val (.int xa), .val (.int (2 : Int32))] [(.int (2 : Int32))]))
  refine own_by (fun _ => XS.ifNo X4.here hx rfl (hb hby own_d3_36) rfl ((if0 _ _).trans (tlt (by decide : (0 : Int32) < (2 : Int32))).2.2.2)) ?_
  show own_Go p e below _ (T4.setTop (mkF m 39 #[.val (.ref ax), .val (.int xa), .val (.int (2 : Int32))] []))
  refine own_by (fun _ => XS.aloadN X4.here hx rfl (hb hby own_d3_39) rfl rfl) ?_
  show own_Go p e below _ (T4.setTop (mkF m 40 #[.val (.ref ax), .val (.int xa), .val (.int (2 : Int32))] [(.ref ax)]))
  obtain ⟨T5, X5, e5, st5⟩ := getF X4 hx hZ hown (host := "") (Or.inl (hw _ (List.mem_of_getElem? (i := 10) rfl))) Via.refl e4 pf1 (g := (mkF m 40 #[.val (.ref ax), .val (.int xa), .val (.int (2 : Int32))] [(.ref ax)])) rfl rfl (hb hby own_d3_40)
  refine own_by st5 ?_
  show own_Go p e below _ (T5.setTop (mkF m 43 #[.val (.ref ax), .val (.int xa), .val (.int (2 : Int32))] [(.ref kx)]))
  refine own_by (fun _ => XS.iloadN X5.here hx rfl (hb hby own_d3_43) rfl) ?_
  show own_Go p e below _ (T5.setTop (mkF m 44 #[.val (.ref ax), .val (.int xa), .val (.int (2 : Int32))] [(.int (2 : Int32)), (.ref kx)]))
  refine own_by (fun _ => XS.iconst X5.here hx rfl (hb hby own_d3_44)) ?_
  show own_Go p e below _ (T5.setTop (mkF m 45 #[.val (.ref ax), .val (.int xa), .val (.int (2 : Int32))] [(.int (1 : Int32)), (.int (2 : Int32)), (.ref kx)]))
  refine own_by (fun _ => XS.isub X5.here hx rfl (hb hby own_d3_45) rfl) ?_
  show own_Go p e below _ (T5.setTop (mkF m 46 #[.val (.ref ax), .val (.int xa), .val (.int (2 : Int32))] [(.int (1 : Int32)), (.ref kx)]))
  obtain ⟨cl6, ar6, q6, sz6, nn6, hs6, gs6⟩ := id pf3
  have hin6 : ¬ ((1 : Int32) < 0 ∨ cl6.slots.size ≤ ((1 : Int32)).toNatClampNeg) := inb_of sz6 ⟨by decide, by decide⟩
  refine own_by (X5.iaload hx (j := (1 : Int32)) (v := (.int k1)) (by rw [e5]; exact ar6.1) (State.isArrayOf_alike hZ.alike ar6.2.1) ar6.2.2 hin6 (hs6.at hin6 rfl) (g := (mkF m 46 #[.val (.ref ax), .val (.int xa), .val (.int (2 : Int32))] [(.int (1 : Int32)), (.ref kx)])) rfl rfl (hb hby own_d3_46)) ?_
  show own_Go p e below _ (T5.setTop (mkF m 47 #[.val (.ref ax), .val (.int xa), .val (.int (2 : Int32))] [(.int k1)]))
  refine own_by (fun _ => XS.iloadN X5.here hx rfl (hb hby own_d3_47) rfl) ?_
  show own_Go p e below _ (T5.setTop (mkF m 48 #[.val (.ref ax), .val (.int xa), .val (.int (2 : Int32))] [(.int xa), (.int k1)]))
  by_cases hc48_7 : xa < k1
  ·
    skip
    refine own_by (fun _ => XS.icmpNo X5.here hx rfl (hb hby own_d3_48) rfl (tlt hc48_7).2.2.2) ?_
    show own_Go p e below _ (T5.setTop (mkF m 51 #[.val (.ref ax), .val (.int xa), .val (.int (2 : Int32))] []))
    refine own_by (fun _ => XS.aloadN X5.here hx rfl (hb hby own_d3_51) rfl rfl) ?_
    show own_Go p e below _ (T5.setTop (mkF m 52 #[.val (.ref ax), .val (.int xa), .val (.int (2 : Int32))] [(.ref ax)]))
    obtain ⟨T8, X8, e8, st8⟩ := getF X5 hx hZ hown (host := "") (Or.inl (hw _ (List.mem_of_getElem? (i := 10) rfl))) Via.refl e5 pf1 (g := (mkF m 52 #[.val (.ref ax), .val (.int xa), .val (.int (2 : Int32))] [(.ref ax)])) rfl rfl (hb hby own_d3_52)
    refine own_by st8 ?_
    show own_Go p e below _ (T8.setTop (mkF m 55 #[.val (.ref ax), .val (.int xa), .val (.int (2 : Int32))] [(.ref kx)]))
    refine own_by (fun _ => XS.iloadN X8.here hx rfl (hb hby own_d3_55) rfl) ?_
    show own_Go p e below _ (T8.setTop (mkF m 56 #[.val (.ref ax), .val (.int xa), .val (.int (2 : Int32))] [(.int (2 : Int32)), (.ref kx)]))
    refine own_by (fun _ => XS.aloadN X8.here hx rfl (hb hby own_d3_56) rfl rfl) ?_
    show own_Go p e below _ (T8.setTop (mkF m 57 #[.val (.ref ax), .val (.int xa), .val (.int (2 : Int32))] [(.ref ax), (.int (2 : Int32)), (.ref kx)]))
    obtain ⟨T9, X9, e9, st9⟩ := getF X8 hx hZ hown (host := "") (Or.inl (hw _ (List.mem_of_getElem? (i := 10) rfl))) Via.refl e8 pf1 (g := (mkF m 57 #[.val (.ref ax), .val (.int xa), .val (.int (2 : Int32))] [(.ref ax), (.int (2 : Int32)), (.ref kx)])) rfl rfl (hb hby own_d3_57)
    refine own_by st9 ?_
    show own_Go p e below _ (T9.setTop (mkF m 60 #[.val (.ref ax), .val (.int xa), .val (.int (2 : Int32))] [(.ref kx), (.int (2 : Int32)), (.ref kx)]))
    refine own_by (fun _ => XS.iloadN X9.here hx rfl (hb hby own_d3_60) rfl) ?_
    show own_Go p e below _ (T9.setTop (mkF m 61 #[.val (.ref ax), .val (.int xa), .val (.int (2 : Int32))] [(.int (2 : Int32)), (.ref kx), (.int (2 : Int32)), (.ref kx)]))
    refine own_by (fun _ => XS.iconst X9.here hx rfl (hb hby own_d3_61)) ?_
    show own_Go p e below _ (T9.setTop (mkF m 62 #[.val (.ref ax), .val (.int xa), .val (.int (2 : Int32))] [(.int (1 : Int32)), (.int (2 : Int32)), (.ref kx), (.int (2 : Int32)), (.ref kx)]))
    refine own_by (fun _ => XS.isub X9.here hx rfl (hb hby own_d3_62) rfl) ?_
    show own_Go p e below _ (T9.setTop (mkF m 63 #[.val (.ref ax), .val (.int xa), .val (.int (2 : Int32))] [(.int (1 : Int32)), (.ref kx), (.int (2 : Int32)), (.ref kx)]))
    obtain ⟨cl10, ar10, q10, sz10, nn10, hs10, gs10⟩ := id pf3
    have hin10 : ¬ ((1 : Int32) < 0 ∨ cl10.slots.size ≤ ((1 : Int32)).toNatClampNeg) := inb_of sz10 ⟨by decide, by decide⟩
    refine own_by (X9.iaload hx (j := (1 : Int32)) (v := (.int k1)) (by rw [e9]; exact ar10.1) (State.isArrayOf_alike hZ.alike ar10.2.1) ar10.2.2 hin10 (hs10.at hin10 rfl) (g := (mkF m 63 #[.val (.ref ax), .val (.int xa), .val (.int (2 : Int32))] [(.int (1 : Int32)), (.ref kx), (.int (2 : Int32)), (.ref kx)])) rfl rfl (hb hby own_d3_63)) ?_
    show own_Go p e below _ (T9.setTop (mkF m 64 #[.val (.ref ax), .val (.int xa), .val (.int (2 : Int32))] [(.int k1), (.int (2 : Int32)), (.ref kx)]))
    obtain ⟨cl11, ar11, q11, sz11, nn11, hs11, gs11⟩ := id pf3
    have hin11 : ¬ ((2 : Int32) < 0 ∨ cl11.slots.size ≤ ((2 : Int32)).toNatClampNeg) := inb_of sz11 ⟨by decide, by decide⟩
    obtain ⟨T12, h12, X12, e12, W12, st12⟩ := stI X9 hx hZ e9 ar11 (j := (2 : Int32)) hin11 (g := (mkF m 64 #[.val (.ref ax), .val (.int xa), .val (.int (2 : Int32))] [(.int k1), (.int (2 : Int32)), (.ref kx)])) rfl rfl (hb hby own_d3_64)
    refine own_by st12 ?_
    have va12 : Arv Z h12 kx kk .int (4 : Int32) [(.int k0), (.int k1), (.int k1), (.int k3)] (.int (0 : Int32)) := Arv.set ar11 q11 sz11 nn11 hs11 gs11 rfl W12 2 rfl (Nat.le_of_ble_eq_true rfl)
    have z12 : n0 ≤ h12.size := Nat.le_trans Z0 (Keep.of_wr W12).1
    have N12 := Fr.snoc X12 N0 pg_kx
    have K12 : Keep h0 h12 [ax, kx] := (Keep.refl h0 [ax, kx]).wr W12 (Or.inl (List.mem_of_getElem? (i := 1) rfl))
    show own_Go p e below _ (T12.setTop (mkF m 65 #[.val (.ref ax), .val (.int xa), .val (.int (2 : Int32))] []))
    refine own_by (fun _ => XS.iinc X12.here hx rfl (hb hby own_d3_65) rfl (l' := #[.val (.ref ax), .val (.int xa), .val (.int (1 : Int32))]) rfl) ?_
    show own_Go p e below _ (T12.setTop (mkF m 68 #[.val (.ref ax), .val (.int xa), .val (.int (1 : Int32))] []))
    refine own_by (fun _ => XS.goto X12.here hx rfl (pc0 := 68) (pc' := 35) rfl (hb hby own_d3_68) (by decide) (by decide)) ?_
    show own_Go p e below _ (T12.setTop (mkF m 35 #[.val (.ref ax), .val (.int xa), .val (.int (1 : Int32))] []))
    refine own_by (fun _ => XS.iloadN X12.here hx rfl (hb hby own_d3_35) rfl) ?_
    show own_Go p e below _ (T12.setTop (mkF m 36 #[.val (.ref ax), .val (.int xa), .val (.int (1 : Int32))] [(.int (1 : Int32))]))
    refine own_by (fun _ => XS.ifNo X12.here hx rfl (hb hby own_d3_36) rfl ((if0 _ _).trans (tlt (by decide : (0 : Int32) < (1 : Int32))).2.2.2)) ?_
    show own_Go p e below _ (T12.setTop (mkF m 39 #[.val (.ref ax), .val (.int xa), .val (.int (1 : Int32))] []))
    refine own_by (fun _ => XS.aloadN X12.here hx rfl (hb hby own_d3_39) rfl rfl) ?_
    show own_Go p e below _ (T12.setTop (mkF m 40 #[.val (.ref ax), .val (.int xa), .val (.int (1 : Int32))] [(.ref ax)]))
    have f13 : Fld Z h12 ax "com/example/bucketsplit/bucketsplit/core/Page" "mKeys" "[I" (.ref kx) := (pf1.other W12 (Or.inl pn0))
    obtain ⟨T14, X14, e14, st14⟩ := getF X12 hx hZ hown (host := "") (Or.inl (hw _ (List.mem_of_getElem? (i := 10) rfl))) Via.refl e12 f13 (g := (mkF m 40 #[.val (.ref ax), .val (.int xa), .val (.int (1 : Int32))] [(.ref ax)])) rfl rfl (hb hby own_d3_40)
    refine own_by st14 ?_
    show own_Go p e below _ (T14.setTop (mkF m 43 #[.val (.ref ax), .val (.int xa), .val (.int (1 : Int32))] [(.ref kx)]))
    refine own_by (fun _ => XS.iloadN X14.here hx rfl (hb hby own_d3_43) rfl) ?_
    show own_Go p e below _ (T14.setTop (mkF m 44 #[.val (.ref ax), .val (.int xa), .val (.int (1 : Int32))] [(.int (1 : Int32)), (.ref kx)]))
    refine own_by (fun _ => XS.iconst X14.here hx rfl (hb hby own_d3_44)) ?_
    show own_Go p e below _ (T14.setTop (mkF m 45 #[.val (.ref ax), .val (.int xa), .val (.int (1 : Int32))] [(.int (1 : Int32)), (.int (1 : Int32)), (.ref kx)]))
    refine own_by (fun _ => XS.isub X14.here hx rfl (hb hby own_d3_45) rfl) ?_
    show own_Go p e below _ (T14.setTop (mkF m 46 #[.val (.ref ax), .val (.int xa), .val (.int (1 : Int32))] [(.int (0 : Int32)), (.ref kx)]))
    obtain ⟨cl15, ar15, q15, sz15, nn15, hs15, gs15⟩ := id va12
    have hin15 : ¬ ((0 : Int32) < 0 ∨ cl15.slots.size ≤ ((0 : Int32)).toNatClampNeg) := inb_of sz15 ⟨by decide, by decide⟩
    refine own_by (X14.iaload hx (j := (0 : Int32)) (v := (.int k0)) (by rw [e14]; exact ar15.1) (State.isArrayOf_alike hZ.alike ar15.2.1) ar15.2.2 hin15 (hs15.at hin15 rfl) (g := (mkF m 46 #[.val (.ref ax), .val (.int xa), .val (.int (1 : Int32))] [(.int (0 : Int32)), (.ref kx)])) rfl rfl (hb hby own_d3_46)) ?_
    show own_Go p e below _ (T14.setTop (mkF m 47 #[.val (.ref ax), .val (.int xa), .val (.int (1 : Int32))] [(.int k0)]))
    refine own_by (fun _ => XS.iloadN X14.here hx rfl (hb hby own_d3_47) rfl) ?_
    show own_Go p e below _ (T14.setTop (mkF m 48 #[.val (.ref ax), .val (.int xa), .val (.int (1 : Int32))] [(.int xa), (.int k0)]))
    by_cases hc48_16 : xa < k0
    ·
      skip
      refine own_by (fun _ => XS.icmpNo X14.here hx rfl (hb hby own_d3_48) rfl (tlt hc48_16).2.2.2) ?_
      show own_Go p e below _ (T14.setTop (mkF m 51 #[.val (.ref ax), .val (.int xa), .val (.int (1 : Int32))] []))
      refine own_by (fun _ => XS.aloadN X14.here hx rfl (hb hby own_d3_51) rfl rfl) ?_
      show own_Go p e below _ (T14.setTop (mkF m 52 #[.val (.ref ax), .val (.int xa), .val (.int (1 : Int32))] [(.ref ax)]))
      obtain ⟨T17, X17, e17, st17⟩ := getF X14 hx hZ hown (host := "") (Or.inl (hw _ (List.mem_of_getElem? (i := 10) rfl))) Via.refl e14 f13 (g := (mkF m 52 #[.val (.ref ax), .val (.int xa), .val (.int (1 : Int32))] [(.ref ax)])) rfl rfl (hb hby own_d3_52)
      refine own_by st17 ?_
      show own_Go p e below _ (T17.setTop (mkF m 55 #[.val (.ref ax), .val (.int xa), .val (.int (1 : Int32))] [(.ref kx)]))
      refine own_by (fun _ => XS.iloadN X17.here hx rfl (hb hby own_d3_55) rfl) ?_
      show own_Go p e below _ (T17.setTop (mkF m 56 #[.val (.ref ax), .val (.int xa), .val (.int (1 : Int32))] [(.int (1 : Int32)), (.ref kx)]))
      refine own_by (fun _ => XS.aloadN X17.here hx rfl (hb hby own_d3_56) rfl rfl) ?_
      show own_Go p e below _ (T17.setTop (mkF m 57 #[.val (.ref ax), .val (.int xa), .val (.int (1 : Int32))] [(.ref ax), (.int (1 : Int32)), (.ref kx)]))
      obtain ⟨T18, X18, e18, st18⟩ := getF X17 hx hZ hown (host := "") (Or.inl (hw _ (List.mem_of_getElem? (i := 10) rfl))) Via.refl e17 f13 (g := (mkF m 57 #[.val (.ref ax), .val (.int xa), .val (.int (1 : Int32))] [(.ref ax), (.int (1 : Int32)), (.ref kx)])) rfl rfl (hb hby own_d3_57)
      refine own_by st18 ?_
      show own_Go p e below _ (T18.setTop (mkF m 60 #[.val (.ref ax), .val (.int xa), .val (.int (1 : Int32))] [(.ref kx), (.int (1 : Int32)), (.ref kx)]))
      refine own_by (fun _ => XS.iloadN X18.here hx rfl (hb hby own_d3_60) rfl) ?_
      show own_Go p e below _ (T18.setTop (mkF m 61 #[.val (.ref ax), .val (.int xa), .val (.int (1 : Int32))] [(.int (1 : Int32)), (.ref kx), (.int (1 : Int32)), (.ref kx)]))
      refine own_by (fun _ => XS.iconst X18.here hx rfl (hb hby own_d3_61)) ?_
      show own_Go p e below _ (T18.setTop (mkF m 62 #[.val (.ref ax), .val (.int xa), .val (.int (1 : Int32))] [(.int (1 : Int32)), (.int (1 : Int32)), (.ref kx), (.int (1 : Int32)), (.ref kx)]))
      refine own_by (fun _ => XS.isub X18.here hx rfl (hb hby own_d3_62) rfl) ?_
      show own_Go p e below _ (T18.setTop (mkF m 63 #[.val (.ref ax), .val (.int xa), .val (.int (1 : Int32))] [(.int (0 : Int32)), (.ref kx), (.int (1 : Int32)), (.ref kx)]))
      obtain ⟨cl19, ar19, q19, sz19, nn19, hs19, gs19⟩ := id va12
      have hin19 : ¬ ((0 : Int32) < 0 ∨ cl19.slots.size ≤ ((0 : Int32)).toNatClampNeg) := inb_of sz19 ⟨by decide, by decide⟩
      refine own_by (X18.iaload hx (j := (0 : Int32)) (v := (.int k0)) (by rw [e18]; exact ar19.1) (State.isArrayOf_alike hZ.alike ar19.2.1) ar19.2.2 hin19 (hs19.at hin19 rfl) (g := (mkF m 63 #[.val (.ref ax), .val (.int xa), .val (.int (1 : Int32))] [(.int (0 : Int32)), (.ref kx), (.int (1 : Int32)), (.ref kx)])) rfl rfl (hb hby own_d3_63)) ?_
      show own_Go p e below _ (T18.setTop (mkF m 64 #[.val (.ref ax), .val (.int xa), .val (.int (1 : Int32))] [(.int k0), (.int (1 : Int32)), (.ref kx)]))
      obtain ⟨cl20, ar20, q20, sz20, nn20, hs20, gs20⟩ := id va12
      have hin20 : ¬ ((1 : Int32) < 0 ∨ cl20.slots.size ≤ ((1 : Int32)).toNatClampNeg) := inb_of sz20 ⟨by decide, by decide⟩
      obtain ⟨T21, h21, X21, e21, W21, st21⟩ := stI X18 hx hZ e18 ar20 (j := (1 : Int32)) hin20 (g := (mkF m 64 #[.val (.ref ax), .val (.int xa), .val (.int (1 : Int32))] [(.int k0), (.int (1 : Int32)), (.ref kx)])) rfl rfl (hb hby own_d3_64)
      refine own_by st21 ?_
      have va21 : Arv Z h21 kx kk .int (4 : Int32) [(.int k0), (.int k0), (.int k1), (.int k3)] (.int (0 : Int32)) := Arv.set ar20 q20 sz20 nn20 hs20 gs20 rfl W21 1 rfl (Nat.le_of_ble_eq_true rfl)
      have z21 : n0 ≤ h21.size := Nat.le_trans z12 (Keep.of_wr W21).1
      have N21 := Fr.snoc X21 N12 pg_kx
      have K21 : Keep h0 h21 [ax, kx] := K12.wr W21 (Or.inl (List.mem_of_getElem? (i := 1) rfl))
      show own_Go p e below _ (T21.setTop (mkF m 65 #[.val (.ref ax), .val (.int xa), .val (.int (1 : Int32))] []))
      refine own_by (fun _ => XS.iinc X21.here hx rfl (hb hby own_d3_65) rfl (l' := #[.val (.ref ax), .val (.int xa), .val (.int (0 : Int32))]) rfl) ?_
      show own_Go p e below _ (T21.setTop (mkF m 68 #[.val (.ref ax), .val (.int xa), .val (.int (0 : Int32))] []))
      refine own_by (fun _ => XS.goto X21.here hx rfl (pc0 := 68) (pc' := 35) rfl (hb hby own_d3_68) (by decide) (by decide)) ?_
      show own_Go p e below _ (T21.setTop (mkF m 35 #[.val (.ref ax), .val (.int xa), .val (.int (0 : Int32))] []))
      refine own_by (fun _ => XS.iloadN X21.here hx rfl (hb hby own_d3_35) rfl) ?_
      show own_Go p e below _ (T21.setTop (mkF m 36 #[.val (.ref ax), .val (.int xa), .val (.int (0 : Int32))] [(.int (0 : Int32))]))
      refine own_by (fun _ => XS.ifYes X21.here hx rfl (pc0 := 36) (pc' := 71) rfl (hb hby own_d3_36) rfl ((if0 _ _).trans (flt (by decide : ¬ ((0 : Int32) < (0 : Int32)))).2.2.2) (by decide) (by decide)) ?_
      show own_Go p e below _ (T21.setTop (mkF m 71 #[.val (.ref ax), .val (.int xa), .val (.int (0 : Int32))] []))
      refine own_by (fun _ => XS.aloadN X21.here hx rfl (hb hby own_d3_71) rfl rfl) ?_
      show own_Go p e below _ (T21.setTop (mkF m 72 #[.val (.ref ax), .val (.int xa), .val (.int (0 : Int32))] [(.ref ax)]))
      have f22 : Fld Z h21 ax "com/example/bucketsplit/bucketsplit/core/Page" "mKeys" "[I" (.ref kx) := (f13.other W21 (Or.inl pn0))
      obtain ⟨T23, X23, e23, st23⟩ := getF X21 hx hZ hown (host := "") (Or.inl (hw _ (List.mem_of_getElem? (i := 10) rfl))) Via.refl e21 f22 (g := (mkF m 72 #[.val (.ref ax), .val (.int xa), .val (.int (0 : Int32))] [(.ref ax)])) rfl rfl (hb hby own_d3_72)
      refine own_by st23 ?_
      show own_Go p e below _ (T23.setTop (mkF m 75 #[.val (.ref ax), .val (.int xa), .val (.int (0 : Int32))] [(.ref kx)]))
      refine own_by (fun _ => XS.iloadN X23.here hx rfl (hb hby own_d3_75) rfl) ?_
      show own_Go p e below _ (T23.setTop (mkF m 76 #[.val (.ref ax), .val (.int xa), .val (.int (0 : Int32))] [(.int (0 : Int32)), (.ref kx)]))
      refine own_by (fun _ => XS.iloadN X23.here hx rfl (hb hby own_d3_76) rfl) ?_
      show own_Go p e below _ (T23.setTop (mkF m 77 #[.val (.ref ax), .val (.int xa), .val (.int (0 : Int32))] [(.int xa), (.int (0 : Int32)), (.ref kx)]))
      obtain ⟨cl24, ar24, q24, sz24, nn24, hs24, gs24⟩ := id va21
      have hin24 : ¬ ((0 : Int32) < 0 ∨ cl24.slots.size ≤ ((0 : Int32)).toNatClampNeg) := inb_of sz24 ⟨by decide, by decide⟩
      obtain ⟨T25, h25, X25, e25, W25, st25⟩ := stI X23 hx hZ e23 ar24 (j := (0 : Int32)) hin24 (g := (mkF m 77 #[.val (.ref ax), .val (.int xa), .val (.int (0 : Int32))] [(.int xa), (.int (0 : Int32)), (.ref kx)])) rfl rfl (hb hby own_d3_77)
      refine own_by st25 ?_
      have va25 : Arv Z h25 kx kk .int (4 : Int32) [(.int xa), (.int k0), (.int k1), (.int k3)] (.int (0 : Int32)) := Arv.set ar24 q24 sz24 nn24 hs24 gs24 rfl W25 0 rfl (Nat.le_of_ble_eq_true rfl)
      have z25 : n0 ≤ h25.size := Nat.le_trans z21 (Keep.of_wr W25).1
      have N25 := Fr.snoc X25 N21 pg_kx
      have K25 : Keep h0 h25 [ax, kx] := K21.wr W25 (Or.inl (List.mem_of_getElem? (i := 1) rfl))
      show own_Go p e below _ (T25.setTop (mkF m 78 #[.val (.ref ax), .val (.int xa), .val (.int (0 : Int32))] []))
      refine own_by (fun _ => XS.aloadN X25.here hx rfl (hb hby own_d3_78) rfl rfl) ?_
      show own_Go p e below _ (T25.setTop (mkF m 79 #[.val (.ref ax), .val (.int xa), .val (.int (0 : Int32))] [(.ref ax)]))
      refine own_by (fun _ => XS.dup X25.here hx rfl (hb hby own_d3_79) rfl rfl) ?_
      show own_Go p e below _ (T25.setTop (mkF m 80 #[.val (.ref ax), .val (.int xa), .val (.int (0 : Int32))] [(.ref ax), (.ref ax)]))
      have f26 : Fld Z h25 ax "com/example/bucketsplit/bucketsplit/core/Page" "mSize" "I" (.int (2 : Int32)) := (((pf2.other W12 (Or.inl pn0)).other W21 (Or.inl pn0)).other W25 (Or.inl pn0))
      obtain ⟨T27, X27, e27, st27⟩ := getF X25 hx hZ hown (host := "") (Or.inl (hw _ (List.mem_of_getElem? (i := 17) rfl))) Via.refl e25 f26 (g := (mkF m 80 #[.val (.ref ax), .val (.int xa), .val (.int (0 : Int32))] [(.ref ax), (.ref ax)])) rfl rfl (hb hby own_d3_80)
      refine own_by st27 ?_
      show own_Go p e below _ (T27.setTop (mkF m 83 #[.val (.ref ax), .val (.int xa), .val (.int (0 : Int32))] [(.int (2 : Int32)), (.ref ax)]))
      refine own_by (fun _ => XS.iconst X27.here hx rfl (hb hby own_d3_83)) ?_
      show own_Go p e below _ (T27.setTop (mkF m 84 #[.val (.ref ax), .val (.int xa), .val (.int (0 : Int32))] [(.int (1 : Int32)), (.int (2 : Int32)), (.ref ax)]))
      refine own_by (fun _ => XS.iadd X27.here hx rfl (hb hby own_d3_84) rfl) ?_
      show own_Go p e below _ (T27.setTop (mkF m 85 #[.val (.ref ax), .val (.int xa), .val (.int (0 : Int32))] [(.int (3 : Int32)), (.ref ax)]))
      have f28 : Exa Z h25 ax "com/example/bucketsplit/bucketsplit/core/Page" := (((pf0.wr W12).wr W21).wr W25)
      obtain ⟨T29, h29, X29, e29, W29, st29⟩ := putF X27 hx hZ hown (host := "") (Or.inl (hw _ (List.mem_of_getElem? (i := 17) rfl))) Via.refl e27 f26 f28 (Or.inl (hw _ (List.mem_of_getElem? (i := 18) rfl))) (hw _ (List.mem_of_getElem? (i := 1) rfl)) (ty := .int) (by decide) rfl rfl (g := (mkF m 85 #[.val (.ref ax), .val (.int xa), .val (.int (0 : Int32))] [(.int (3 : Int32)), (.ref ax)])) rfl rfl (hb hby own_d3_85)
      refine own_by st29 ?_
      have fw29 : Fld Z h29 ax "com/example/bucketsplit/bucketsplit/core/Page" "mSize" "I" (.int (3 : Int32)) := f26.same W29
      have z29 : n0 ≤ h29.size := Nat.le_trans z25 (Keep.of_wr W29).1
      have N29 := Fr.snoc X29 N25 pg_ax
      have K29 : Keep h0 h29 [ax, kx] := K25.wr W29 (Or.inl (List.mem_of_getElem? (i := 0) rfl))
      show own_Go p e below _ (T29.setTop (mkF m 88 #[.val (.ref ax), .val (.int xa), .val (.int (0 : Int32))] []))
      have f30 : Fld Z h29 ax "com/example/bucketsplit/bucketsplit/core/Page" "mKeys" "[I" (.ref kx) := ((f22.other W25 (Or.inl pn0)).other W29 (Or.inr (slot_ne (Or.inl (hw _ (List.mem_of_getElem? (i := 11) rfl))) (Or.inl (hw _ (List.mem_of_getElem? (i := 18) rfl))) (by decide) (t := (.array .int)) (t' := .int) (by decide) (by decide))))
      have f31 : Arv Z h29 kx kk .int (4 : Int32) [(.int xa), (.int k0), (.int k1), (.int k3)] (.int (0 : Int32)) := (va25.other W29 (Ne.symm pn0))
      exact own_retV X29 hx hlk e29 hret (hb hby own_d3_88) (by decide) (by decide) ⟨rfl, N29, K29, f30, fw29, (by first | exact f31 | (simp only [if_pos hc48_7, if_pos hc48_16]; exact f31))⟩
    ·
      skip
      refine own_by (fun _ => XS.icmpYes X14.here hx rfl (pc0 := 48) (pc' := 71) rfl (hb hby own_d3_48) rfl (flt hc48_16).2.2.2 (by decide) (by decide)) ?_
      show own_Go p e below _ (T14.setTop (mkF m 71 #[.val (.ref ax), .val (.int xa), .val (.int (1 : Int32))] []))
      refine own_by (fun _ => XS.aloadN X14.here hx rfl (hb hby own_d3_71) rfl rfl) ?_
      show own_Go p e below _ (T14.setTop (mkF m 72 #[.val (.ref ax), .val (.int xa), .val (.int (1 : Int32))] [(.ref ax)]))
      obtain ⟨T32, X32, e32, st32⟩ := getF X14 hx hZ hown (host := "") (Or.inl (hw _ (List.mem_of_getElem? (i := 10) rfl))) Via.refl e14 f13 (g := (mkF m 72 #[.val (.ref ax), .val (.int xa), .val (.int (1 : Int32))] [(.ref ax)])) rfl rfl (hb hby own_d3_72)
      refine own_by st32 ?_
      show own_Go p e below _ (T32.setTop (mkF m 75 #[.val (.ref ax), .val (.int xa), .val (.int (1 : Int32))] [(.ref kx)]))
      refine own_by (fun _ => XS.iloadN X32.here hx rfl (hb hby own_d3_75) rfl) ?_
      show own_Go p e below _ (T32.setTop (mkF m 76 #[.val (.ref ax), .val (.int xa), .val (.int (1 : Int32))] [(.int (1 : Int32)), (.ref kx)]))
      refine own_by (fun _ => XS.iloadN X32.here hx rfl (hb hby own_d3_76) rfl) ?_
      show own_Go p e below _ (T32.setTop (mkF m 77 #[.val (.ref ax), .val (.int xa), .val (.int (1 : Int32))] [(.int xa), (.int (1 : Int32)), (.ref kx)]))
      obtain ⟨cl33, ar33, q33, sz33, nn33, hs33, gs33⟩ := id va12
      have hin33 : ¬ ((1 : Int32) < 0 ∨ cl33.slots.size ≤ ((1 : Int32)).toNatClampNeg) := inb_of sz33 ⟨by decide, by decide⟩
      obtain ⟨T34, h34, X34, e34, W34, st34⟩ := stI X32 hx hZ e32 ar33 (j := (1 : Int32)) hin33 (g := (mkF m 77 #[.val (.ref ax), .val (.int xa), .val (.int (1 : Int32))] [(.int xa), (.int (1 : Int32)), (.ref kx)])) rfl rfl (hb hby own_d3_77)
      refine own_by st34 ?_
      have va34 : Arv Z h34 kx kk .int (4 : Int32) [(.int k0), (.int xa), (.int k1), (.int k3)] (.int (0 : Int32)) := Arv.set ar33 q33 sz33 nn33 hs33 gs33 rfl W34 1 rfl (Nat.le_of_ble_eq_true rfl)
      have z34 : n0 ≤ h34.size := Nat.le_trans z12 (Keep.of_wr W34).1
      have N34 := Fr.snoc X34 N12 pg_kx
      have K34 : Keep h0 h34 [ax, kx] := K12.wr W34 (Or.inl (List.mem_of_getElem? (i := 1) rfl))
      show own_Go p e below _ (T34.setTop (mkF m 78 #[.val (.ref ax), .val (.int xa), .val (.int (1 : Int32))] []))
      refine own_by (fun _ => XS.aloadN X34.here hx rfl (hb hby own_d3_78) rfl rfl) ?_
      show own_Go p e below _ (T34.setTop (mkF m 79 #[.val (.ref ax), .val (.int xa), .val (.int (1 : Int32))] [(.ref ax)]))
      refine own_by (fun _ => XS.dup X34.here hx rfl (hb hby own_d3_79) rfl rfl) ?_
      show own_Go p e below _ (T34.setTop (mkF m 80 #[.val (.ref ax), .val (.int xa), .val (.int (1 : Int32))] [(.ref ax), (.ref ax)]))
      have f35 : Fld Z h34 ax "com/example/bucketsplit/bucketsplit/core/Page" "mSize" "I" (.int (2 : Int32)) := ((pf2.other W12 (Or.inl pn0)).other W34 (Or.inl pn0))
      obtain ⟨T36, X36, e36, st36⟩ := getF X34 hx hZ hown (host := "") (Or.inl (hw _ (List.mem_of_getElem? (i := 17) rfl))) Via.refl e34 f35 (g := (mkF m 80 #[.val (.ref ax), .val (.int xa), .val (.int (1 : Int32))] [(.ref ax), (.ref ax)])) rfl rfl (hb hby own_d3_80)
      refine own_by st36 ?_
      show own_Go p e below _ (T36.setTop (mkF m 83 #[.val (.ref ax), .val (.int xa), .val (.int (1 : Int32))] [(.int (2 : Int32)), (.ref ax)]))
      refine own_by (fun _ => XS.iconst X36.here hx rfl (hb hby own_d3_83)) ?_
      show own_Go p e below _ (T36.setTop (mkF m 84 #[.val (.ref ax), .val (.int xa), .val (.int (1 : Int32))] [(.int (1 : Int32)), (.int (2 : Int32)), (.ref ax)]))
      refine own_by (fun _ => XS.iadd X36.here hx rfl (hb hby own_d3_84) rfl) ?_
      show own_Go p e below _ (T36.setTop (mkF m 85 #[.val (.ref ax), .val (.int xa), .val (.int (1 : Int32))] [(.int (3 : Int32)), (.ref ax)]))
      have f37 : Exa Z h34 ax "com/example/bucketsplit/bucketsplit/core/Page" := ((pf0.wr W12).wr W34)
      obtain ⟨T38, h38, X38, e38, W38, st38⟩ := putF X36 hx hZ hown (host := "") (Or.inl (hw _ (List.mem_of_getElem? (i := 17) rfl))) Via.refl e36 f35 f37 (Or.inl (hw _ (List.mem_of_getElem? (i := 18) rfl))) (hw _ (List.mem_of_getElem? (i := 1) rfl)) (ty := .int) (by decide) rfl rfl (g := (mkF m 85 #[.val (.ref ax), .val (.int xa), .val (.int (1 : Int32))] [(.int (3 : Int32)), (.ref ax)])) rfl rfl (hb hby own_d3_85)
      refine own_by st38 ?_
      have fw38 : Fld Z h38 ax "com/example/bucketsplit/bucketsplit/core/Page" "mSize" "I" (.int (3 : Int32)) := f35.same W38
      have z38 : n0 ≤ h38.size := Nat.le_trans z34 (Keep.of_wr W38).1
      have N38 := Fr.snoc X38 N34 pg_ax
      have K38 : Keep h0 h38 [ax, kx] := K34.wr W38 (Or.inl (List.mem_of_getElem? (i := 0) rfl))
      show own_Go p e below _ (T38.setTop (mkF m 88 #[.val (.ref ax), .val (.int xa), .val (.int (1 : Int32))] []))
      have f39 : Fld Z h38 ax "com/example/bucketsplit/bucketsplit/core/Page" "mKeys" "[I" (.ref kx) := ((f13.other W34 (Or.inl pn0)).other W38 (Or.inr (slot_ne (Or.inl (hw _ (List.mem_of_getElem? (i := 11) rfl))) (Or.inl (hw _ (List.mem_of_getElem? (i := 18) rfl))) (by decide) (t := (.array .int)) (t' := .int) (by decide) (by decide))))
      have f40 : Arv Z h38 kx kk .int (4 : Int32) [(.int k0), (.int xa), (.int k1), (.int k3)] (.int (0 : Int32)) := (va34.other W38 (Ne.symm pn0))
      exact own_retV X38 hx hlk e38 hret (hb hby own_d3_88) (by decide) (by decide) ⟨rfl, N38, K38, f39, fw38, (by first | exact f40 | (simp only [if_pos hc48_7, if_neg hc48_16]; exact f40))⟩
  ·
    skip
    refine own_by (fun _ => XS.icmpYes X5.here hx rfl (pc0 := 48) (pc' := 71) rfl (hb hby own_d3_48) rfl (flt hc48_7).2.2.2 (by decide) (by decide)) ?_
    show own_Go p e below _ (T5.setTop (mkF m 71 #[.val (.ref ax), .val (.int xa), .val (.int (2 : Int32))] []))
    refine own_by (fun _ => XS.aloadN X5.here hx rfl (hb hby own_d3_71) rfl rfl) ?_
    show own_Go p e below _ (T5.setTop (mkF m 72 #[.val (.ref ax), .val (.int xa), .val (.int (2 : Int32))] [(.ref ax)]))
    obtain ⟨T41, X41, e41, st41⟩ := getF X5 hx hZ hown (host := "") (Or.inl (hw _ (List.mem_of_getElem? (i := 10) rfl))) Via.refl e5 pf1 (g := (mkF m 72 #[.val (.ref ax), .val (.int xa), .val (.int (2 : Int32))] [(.ref ax)])) rfl rfl (hb hby own_d3_72)
    refine own_by st41 ?_
    show own_Go p e below _ (T41.setTop (mkF m 75 #[.val (.ref ax), .val (.int xa), .val (.int (2 : Int32))] [(.ref kx)]))
    refine own_by (fun _ => XS.iloadN X41.here hx rfl (hb hby own_d3_75) rfl) ?_
    show own_Go p e below _ (T41.setTop (mkF m 76 #[.val (.ref ax), .val (.int xa), .val (.int (2 : Int32))] [(.int (2 : Int32)), (.ref kx)]))
    refine own_by (fun _ => XS.iloadN X41.here hx rfl (hb hby own_d3_76) rfl) ?_
    show own_Go p e below _ (T41.setTop (mkF m 77 #[.val (.ref ax), .val (.int xa), .val (.int (2 : Int32))] [(.int xa), (.int (2 : Int32)), (.ref kx)]))
    obtain ⟨cl42, ar42, q42, sz42, nn42, hs42, gs42⟩ := id pf3
    have hin42 : ¬ ((2 : Int32) < 0 ∨ cl42.slots.size ≤ ((2 : Int32)).toNatClampNeg) := inb_of sz42 ⟨by decide, by decide⟩
    obtain ⟨T43, h43, X43, e43, W43, st43⟩ := stI X41 hx hZ e41 ar42 (j := (2 : Int32)) hin42 (g := (mkF m 77 #[.val (.ref ax), .val (.int xa), .val (.int (2 : Int32))] [(.int xa), (.int (2 : Int32)), (.ref kx)])) rfl rfl (hb hby own_d3_77)
    refine own_by st43 ?_
    have va43 : Arv Z h43 kx kk .int (4 : Int32) [(.int k0), (.int k1), (.int xa), (.int k3)] (.int (0 : Int32)) := Arv.set ar42 q42 sz42 nn42 hs42 gs42 rfl W43 2 rfl (Nat.le_of_ble_eq_true rfl)
    have z43 : n0 ≤ h43.size := Nat.le_trans Z0 (Keep.of_wr W43).1
    have N43 := Fr.snoc X43 N0 pg_kx
    have K43 : Keep h0 h43 [ax, kx] := (Keep.refl h0 [ax, kx]).wr W43 (Or.inl (List.mem_of_getElem? (i := 1) rfl))
    show own_Go p e below _ (T43.setTop (mkF m 78 #[.val (.ref ax), .val (.int xa), .val (.int (2 : Int32))] []))
    refine own_by (fun _ => XS.aloadN X43.here hx rfl (hb hby own_d3_78) rfl rfl) ?_
    show own_Go p e below _ (T43.setTop (mkF m 79 #[.val (.ref ax), .val (.int xa), .val (.int (2 : Int32))] [(.ref ax)]))
    refine own_by (fun _ => XS.dup X43.here hx rfl (hb hby own_d3_79) rfl rfl) ?_
    show own_Go p e below _ (T43.setTop (mkF m 80 #[.val (.ref ax), .val (.int xa), .val (.int (2 : Int32))] [(.ref ax), (.ref ax)]))
    have f44 : Fld Z h43 ax "com/example/bucketsplit/bucketsplit/core/Page" "mSize" "I" (.int (2 : Int32)) := (pf2.other W43 (Or.inl pn0))
    obtain ⟨T45, X45, e45, st45⟩ := getF X43 hx hZ hown (host := "") (Or.inl (hw _ (List.mem_of_getElem? (i := 17) rfl))) Via.refl e43 f44 (g := (mkF m 80 #[.val (.ref ax), .val (.int xa), .val (.int (2 : Int32))] [(.ref ax), (.ref ax)])) rfl rfl (hb hby own_d3_80)
    refine own_by st45 ?_
    show own_Go p e below _ (T45.setTop (mkF m 83 #[.val (.ref ax), .val (.int xa), .val (.int (2 : Int32))] [(.int (2 : Int32)), (.ref ax)]))
    refine own_by (fun _ => XS.iconst X45.here hx rfl (hb hby own_d3_83)) ?_
    show own_Go p e below _ (T45.setTop (mkF m 84 #[.val (.ref ax), .val (.int xa), .val (.int (2 : Int32))] [(.int (1 : Int32)), (.int (2 : Int32)), (.ref ax)]))
    refine own_by (fun _ => XS.iadd X45.here hx rfl (hb hby own_d3_84) rfl) ?_
    show own_Go p e below _ (T45.setTop (mkF m 85 #[.val (.ref ax), .val (.int xa), .val (.int (2 : Int32))] [(.int (3 : Int32)), (.ref ax)]))
    have f46 : Exa Z h43 ax "com/example/bucketsplit/bucketsplit/core/Page" := (pf0.wr W43)
    obtain ⟨T47, h47, X47, e47, W47, st47⟩ := putF X45 hx hZ hown (host := "") (Or.inl (hw _ (List.mem_of_getElem? (i := 17) rfl))) Via.refl e45 f44 f46 (Or.inl (hw _ (List.mem_of_getElem? (i := 18) rfl))) (hw _ (List.mem_of_getElem? (i := 1) rfl)) (ty := .int) (by decide) rfl rfl (g := (mkF m 85 #[.val (.ref ax), .val (.int xa), .val (.int (2 : Int32))] [(.int (3 : Int32)), (.ref ax)])) rfl rfl (hb hby own_d3_85)
    refine own_by st47 ?_
    have fw47 : Fld Z h47 ax "com/example/bucketsplit/bucketsplit/core/Page" "mSize" "I" (.int (3 : Int32)) := f44.same W47
    have z47 : n0 ≤ h47.size := Nat.le_trans z43 (Keep.of_wr W47).1
    have N47 := Fr.snoc X47 N43 pg_ax
    have K47 : Keep h0 h47 [ax, kx] := K43.wr W47 (Or.inl (List.mem_of_getElem? (i := 0) rfl))
    show own_Go p e below _ (T47.setTop (mkF m 88 #[.val (.ref ax), .val (.int xa), .val (.int (2 : Int32))] []))
    have f48 : Fld Z h47 ax "com/example/bucketsplit/bucketsplit/core/Page" "mKeys" "[I" (.ref kx) := ((pf1.other W43 (Or.inl pn0)).other W47 (Or.inr (slot_ne (Or.inl (hw _ (List.mem_of_getElem? (i := 11) rfl))) (Or.inl (hw _ (List.mem_of_getElem? (i := 18) rfl))) (by decide) (t := (.array .int)) (t' := .int) (by decide) (by decide))))
    have f49 : Arv Z h47 kx kk .int (4 : Int32) [(.int k0), (.int k1), (.int xa), (.int k3)] (.int (0 : Int32)) := (va43.other W47 (Ne.symm pn0))
    exact own_retV X47 hx hlk e47 hret (hb hby own_d3_88) (by decide) (by decide) ⟨rfl, N47, K47, f48, fw47, (by first | exact f49 | (simp only [if_neg hc48_7]; exact f49))⟩

theorem own_d4_0 : decode jdk_29_method_69_code 0 = .ok (.iload_n 0, 1) := by decide +kernel
theorem own_d4_1 : decode jdk_29_method_69_code 1 = .ok (.iload_n 1, 1) := by decide +kernel
theorem own_d4_2 : decode jdk_29_method_69_code 2 = .ok (.if_icmp .gt 7, 3) := by decide +kernel
theorem own_d4_5 : decode jdk_29_method_69_code 5 = .ok (.iload_n 0, 1) := by decide +kernel
theorem own_d4_6 : decode jdk_29_method_69_code 6 = .ok (.goto 4, 3) := by decide +kernel
theorem own_d4_9 : decode jdk_29_method_69_code 9 = .ok (.iload_n 1, 1) := by decide +kernel
theorem own_d4_10 : decode jdk_29_method_69_code 10 = .ok (.ireturn, 1) := by decide +kernel
def own_min (xa : Int32) (xb : Int32) : Int32 := (if xb < xa then xb else xa)
theorem own_ef4 (m : MethodId) (x0 : Int32) (x1 : Int32) : entryFrame m #[(.int x0), (.int x1)] 2 = mkF m 0 #[.val (.int x0), .val (.int x1)] [] := by first | (simp [entryFrame, mkF, argsToLocals, Value.category]; done) | rfl
def own_Q4 (Z : State) (xa : Int32) (xb : Int32) (h0 : Heap) (n0 : Nat) (v : Option Value) (h : Heap) (L : List Loc) : Prop := v = some (.int (own_min xa xb)) ∧ Fr n0 L ∧ h = h0
theorem own_rm4 (l : Launch) (Z : State) (a0 : Array Value) (hw : ∀ d ∈ tables_1, d.before a0 Z = true) (ws : List Jvm.Cond) (xa : Int32) (xb : Int32) (h0 : Heap) (n0 : Nat) (Z0 : n0 ≤ h0.size) :
    MetFree l (⟨"java/lang/Math", "min", "(II)I"⟩ : MethodName) (head1 (Jvm.Cond.code (⟨"java/lang/Math", "min", "(II)I"⟩ : MethodName) jdk_29_method_69_code 2 (some .int) :: ws) ({ frames := 0, cells := 0, slots := 0, locals := 0 } : Room)) (fun a U => a = #[(.int xa), (.int xb)] ∧ Z.Warmed39 U.vm ∧ U.heap = h0) (fun _ _ _ _ _ => True) (fun _ U o U' => ∃ v L, o = .returned v ∧ own_Q4 Z xa xb h0 n0 v U'.heap L ∧ FrameEnd U o U' L ({ frames := 0, cells := 0, slots := 0, locals := 0 } : Room).cells ({ frames := 0, cells := 0, slots := 0, locals := 0 } : Room).slots) := by
  refine MetFree.of_bodySF (Jvm.Free.JP.mathPlain rfl (by decide +kernel)) hisR ?_
  intro p e s m args below meth c s₁ Bd hml0 hP hK
  obtain ⟨rfl, hZ, hh⟩ := hP
  have hx := Bd.exec
  have hby := Bd.bytes
  have hlk := Bd.notSynchronized
  have hret := Bd.returns
  have hml : c.maxLocals = 2 := hml0
  have hown : s.vm.findClass "java/lang/Math" = some m.cls := findClass_of_methodNamed Bd.named
  have hnm := (name_of_methodNamed Bd.named Bd.method).1
  have X0 : Stand p l e ({ frames := 0, cells := 0, slots := 0, locals := 0 } : Room) s m #[(.int xa), (.int xb)] below meth c s₁ [] 0 0 := Stand.of_body Bd
  have e0 : s₁.heap = h0 := by rw [← hh, Bd.state]; rfl
  have N0 := Fr.nil n0
  suffices key : own_Go p e below (own_End s below (own_Q4 Z xa xb h0 n0) ({ frames := 0, cells := 0, slots := 0, locals := 0 } : Room).cells ({ frames := 0, cells := 0, slots := 0, locals := 0 } : Room).slots) (s₁.setTop (mkF m 0 #[.val (.int xa), .val (.int xb)] [])) by
    obtain ⟨t, k1, k2, v, L, k3, k4, k5⟩ := key
    exact ⟨t, _, castTop (own_ef4 m xa xb) k1, k2, k3, v, L, rfl, k4, k5⟩
  show own_Go p e below _ (s₁.setTop (mkF m 0 #[.val (.int xa), .val (.int xb)] []))
  refine own_by (fun _ => XS.iloadN X0.here hx rfl (hb hby own_d4_0) rfl) ?_
  show own_Go p e below _ (s₁.setTop (mkF m 1 #[.val (.int xa), .val (.int xb)] [(.int xa)]))
  refine own_by (fun _ => XS.iloadN X0.here hx rfl (hb hby own_d4_1) rfl) ?_
  show own_Go p e below _ (s₁.setTop (mkF m 2 #[.val (.int xa), .val (.int xb)] [(.int xb), (.int xa)]))
  suffices J1 : ∀ (T' : State) (v1_t0 : Int32), v1_t0 = (if xb < xa then xb else xa) → own_At p l e ({ frames := 0, cells := 0, slots := 0, locals := 0 } : Room) s m #[(.int xa), (.int xb)] below meth c n0 T' h0 0 0 → own_Go p e below (own_End s below (own_Q4 Z xa xb h0 n0) ({ frames := 0, cells := 0, slots := 0, locals := 0 } : Room).cells ({ frames := 0, cells := 0, slots := 0, locals := 0 } : Room).slots) (T'.setTop (mkF m 10 #[.val (.int xa), .val (.int xb)] [(.int v1_t0)])) by
    by_cases hc2_2 : xb < xa
    ·
      skip
      refine own_by (fun _ => XS.icmpYes X0.here hx rfl (pc0 := 2) (pc' := 9) rfl (hb hby own_d4_2) rfl (tlt hc2_2).2.2.1 (by decide) (by decide)) ?_
      show own_Go p e below _ (s₁.setTop (mkF m 9 #[.val (.int xa), .val (.int xb)] []))
      refine own_by (fun _ => XS.iloadN X0.here hx rfl (hb hby own_d4_9) rfl) ?_
      show own_Go p e below _ (s₁.setTop (mkF m 10 #[.val (.int xa), .val (.int xb)] [(.int xb)]))
      exact J1 _ _ (by first | with_reducible rfl | simp only [if_pos hc2_2] | rfl) ⟨_, X0, N0, e0⟩
    ·
      skip
      refine own_by (fun _ => XS.icmpNo X0.here hx rfl (hb hby own_d4_2) rfl (flt hc2_2).2.2.1) ?_
      show own_Go p e below _ (s₁.setTop (mkF m 5 #[.val (.int xa), .val (.int xb)] []))
      refine own_by (fun _ => XS.iloadN X0.here hx rfl (hb hby own_d4_5) rfl) ?_
      show own_Go p e below _ (s₁.setTop (mkF m 6 #[.val (.int xa), .val (.int xb)] [(.int xa)]))
      refine own_by (fun _ => XS.goto X0.here hx rfl (pc0 := 6) (pc' := 10) rfl (hb hby own_d4_6) (by decide) (by decide)) ?_
      show own_Go p e below _ (s₁.setTop (mkF m 10 #[.val (.int xa), .val (.int xb)] [(.int xa)]))
      exact J1 _ _ (by first | with_reducible rfl | simp only [if_neg hc2_2] | rfl) ⟨_, X0, N0, e0⟩
  intro T1 v1_t0 hv1_t0 ⟨locs1, X1, N1, e1⟩
  show own_Go p e below _ (T1.setTop (mkF m 10 #[.val (.int xa), .val (.int xb)] [(.int v1_t0)]))
  exact own_retI X1 hx hlk e1 hret (hb hby own_d4_10) (by decide) (by decide) ⟨(by subst hv1_t0; first | with_reducible rfl | simp only [own_min] | rfl), N1, rfl⟩

theorem own_d5_0 : decode jdk_29_method_65_code 0 = .ok (.iload_n 0, 1) := by decide +kernel
theorem own_d5_1 : decode jdk_29_method_65_code 1 = .ok (.iload_n 1, 1) := by decide +kernel
theorem own_d5_2 : decode jdk_29_method_65_code 2 = .ok (.if_icmp .lt 7, 3) := by decide +kernel
theorem own_d5_5 : decode jdk_29_method_65_code 5 = .ok (.iload_n 0, 1) := by decide +kernel
theorem own_d5_6 : decode jdk_29_method_65_code 6 = .ok (.goto 4, 3) := by decide +kernel
theorem own_d5_9 : decode jdk_29_method_65_code 9 = .ok (.iload_n 1, 1) := by decide +kernel
theorem own_d5_10 : decode jdk_29_method_65_code 10 = .ok (.ireturn, 1) := by decide +kernel
def own_max (xa : Int32) (xb : Int32) : Int32 := (if xa < xb then xb else xa)
theorem own_ef5 (m : MethodId) (x0 : Int32) (x1 : Int32) : entryFrame m #[(.int x0), (.int x1)] 2 = mkF m 0 #[.val (.int x0), .val (.int x1)] [] := by first | (simp [entryFrame, mkF, argsToLocals, Value.category]; done) | rfl
def own_Q5 (Z : State) (xa : Int32) (xb : Int32) (h0 : Heap) (n0 : Nat) (v : Option Value) (h : Heap) (L : List Loc) : Prop := v = some (.int (own_max xa xb)) ∧ Fr n0 L ∧ h = h0
theorem own_rm5 (l : Launch) (Z : State) (a0 : Array Value) (hw : ∀ d ∈ tables_1, d.before a0 Z = true) (ws : List Jvm.Cond) (xa : Int32) (xb : Int32) (h0 : Heap) (n0 : Nat) (Z0 : n0 ≤ h0.size) :
    MetFree l (⟨"java/lang/Math", "max", "(II)I"⟩ : MethodName) (head1 (Jvm.Cond.code (⟨"java/lang/Math", "max", "(II)I"⟩ : MethodName) jdk_29_method_65_code 2 (some .int) :: ws) ({ frames := 0, cells := 0, slots := 0, locals := 0 } : Room)) (fun a U => a = #[(.int xa), (.int xb)] ∧ Z.Warmed39 U.vm ∧ U.heap = h0) (fun _ _ _ _ _ => True) (fun _ U o U' => ∃ v L, o = .returned v ∧ own_Q5 Z xa xb h0 n0 v U'.heap L ∧ FrameEnd U o U' L ({ frames := 0, cells := 0, slots := 0, locals := 0 } : Room).cells ({ frames := 0, cells := 0, slots := 0, locals := 0 } : Room).slots) := by
  refine MetFree.of_bodySF (Jvm.Free.JP.mathPlain rfl (by decide +kernel)) hisR ?_
  intro p e s m args below meth c s₁ Bd hml0 hP hK
  obtain ⟨rfl, hZ, hh⟩ := hP
  have hx := Bd.exec
  have hby := Bd.bytes
  have hlk := Bd.notSynchronized
  have hret := Bd.returns
  have hml : c.maxLocals = 2 := hml0
  have hown : s.vm.findClass "java/lang/Math" = some m.cls := findClass_of_methodNamed Bd.named
  have hnm := (name_of_methodNamed Bd.named Bd.method).1
  have X0 : Stand p l e ({ frames := 0, cells := 0, slots := 0, locals := 0 } : Room) s m #[(.int xa), (.int xb)] below meth c s₁ [] 0 0 := Stand.of_body Bd
  have e0 : s₁.heap = h0 := by rw [← hh, Bd.state]; rfl
  have N0 := Fr.nil n0
  suffices key : own_Go p e below (own_End s below (own_Q5 Z xa xb h0 n0) ({ frames := 0, cells := 0, slots := 0, locals := 0 } : Room).cells ({ frames := 0, cells := 0, slots := 0, locals := 0 } : Room).slots) (s₁.setTop (mkF m 0 #[.val (.int xa), .val (.int xb)] [])) by
    obtain ⟨t, k1, k2, v, L, k3, k4, k5⟩ := key
    exact ⟨t, _, castTop (own_ef5 m xa xb) k1, k2, k3, v, L, rfl, k4, k5⟩
  show own_Go p e below _ (s₁.setTop (mkF m 0 #[.val (.int xa), .val (.int xb)] []))
  refine own_by (fun _ => XS.iloadN X0.here hx rfl (hb hby own_d5_0) rfl) ?_
  show own_Go p e below _ (s₁.setTop (mkF m 1 #[.val (.int xa), .val (.int xb)] [(.int xa)]))
  refine own_by (fun _ => XS.iloadN X0.here hx rfl (hb hby own_d5_1) rfl) ?_
  show own_Go p e below _ (s₁.setTop (mkF m 2 #[.val (.int xa), .val (.int xb)] [(.int xb), (.int xa)]))
  suffices J1 : ∀ (T' : State) (v1_t0 : Int32), v1_t0 = (if xa < xb then xb else xa) → own_At p l e ({ frames := 0, cells := 0, slots := 0, locals := 0 } : Room) s m #[(.int xa), (.int xb)] below meth c n0 T' h0 0 0 → own_Go p e below (own_End s below (own_Q5 Z xa xb h0 n0) ({ frames := 0, cells := 0, slots := 0, locals := 0 } : Room).cells ({ frames := 0, cells := 0, slots := 0, locals := 0 } : Room).slots) (T'.setTop (mkF m 10 #[.val (.int xa), .val (.int xb)] [(.int v1_t0)])) by
    by_cases hc2_2 : xa < xb
    ·
      skip
      refine own_by (fun _ => XS.icmpYes X0.here hx rfl (pc0 := 2) (pc' := 9) rfl (hb hby own_d5_2) rfl (tlt hc2_2).1 (by decide) (by decide)) ?_
      show own_Go p e below _ (s₁.setTop (mkF m 9 #[.val (.int xa), .val (.int xb)] []))
      refine own_by (fun _ => XS.iloadN X0.here hx rfl (hb hby own_d5_9) rfl) ?_
      show own_Go p e below _ (s₁.setTop (mkF m 10 #[.val (.int xa), .val (.int xb)] [(.int xb)]))
      exact J1 _ _ (by first | with_reducible rfl | simp only [if_pos hc2_2] | rfl) ⟨_, X0, N0, e0⟩
    ·
      skip
      refine own_by (fun _ => XS.icmpNo X0.here hx rfl (hb hby own_d5_2) rfl (flt hc2_2).1) ?_
      show own_Go p e below _ (s₁.setTop (mkF m 5 #[.val (.int xa), .val (.int xb)] []))
      refine own_by (fun _ => XS.iloadN X0.here hx rfl (hb hby own_d5_5) rfl) ?_
      show own_Go p e below _ (s₁.setTop (mkF m 6 #[.val (.int xa), .val (.int xb)] [(.int xa)]))
      refine own_by (fun _ => XS.goto X0.here hx rfl (pc0 := 6) (pc' := 10) rfl (hb hby own_d5_6) (by decide) (by decide)) ?_
      show own_Go p e below _ (s₁.setTop (mkF m 10 #[.val (.int xa), .val (.int xb)] [(.int xa)]))
      exact J1 _ _ (by first | with_reducible rfl | simp only [if_neg hc2_2] | rfl) ⟨_, X0, N0, e0⟩
  intro T1 v1_t0 hv1_t0 ⟨locs1, X1, N1, e1⟩
  show own_Go p e below _ (T1.setTop (mkF m 10 #[.val (.int xa), .val (.int xb)] [(.int v1_t0)]))
  exact own_retI X1 hx hlk e1 hret (hb hby own_d5_10) (by decide) (by decide) ⟨(by subst hv1_t0; first | with_reducible rfl | simp only [own_max] | rfl), N1, rfl⟩

theorem own_d6_0 : decode prog_54_method_9_code 0 = .ok (.iconst 0, 1) := by decide +kernel
theorem own_d6_1 : decode prog_54_method_9_code 1 = .ok (.istore_n 3, 1) := by decide +kernel
theorem own_d6_2 : decode prog_54_method_9_code 2 = .ok (.iload_n 3, 1) := by decide +kernel
theorem own_d6_3 : decode prog_54_method_9_code 3 = .ok (.aload_n 0, 1) := by decide +kernel
theorem own_d6_4 : decode prog_54_method_9_code 4 = .ok (.getfield 13, 3) := by decide +kernel
theorem own_d6_7 : decode prog_54_method_9_code 7 = .ok (.if_icmp .ge 20, 3) := by decide +kernel
theorem own_d6_27 : decode prog_54_method_9_code 27 = .ok (.iload_n 2, 1) := by decide +kernel
theorem own_d6_28 : decode prog_54_method_9_code 28 = .ok (.aload_n 0, 1) := by decide +kernel
theorem own_d6_29 : decode prog_54_method_9_code 29 = .ok (.getfield 13, 3) := by decide +kernel
theorem own_d6_32 : decode prog_54_method_9_code 32 = .ok (.iadd, 1) := by decide +kernel
theorem own_d6_33 : decode prog_54_method_9_code 33 = .ok (.istore_n 3, 1) := by decide +kernel
theorem own_d6_34 : decode prog_54_method_9_code 34 = .ok (.aload_n 0, 1) := by decide +kernel
theorem own_d6_35 : decode prog_54_method_9_code 35 = .ok (.iconst 0, 1) := by decide +kernel
theorem own_d6_36 : decode prog_54_method_9_code 36 = .ok (.putfield 13, 3) := by decide +kernel
theorem own_d6_39 : decode prog_54_method_9_code 39 = .ok (.iload_n 3, 1) := by decide +kernel
theorem own_d6_40 : decode prog_54_method_9_code 40 = .ok (.ireturn, 1) := by decide +kernel
theorem own_pn6 : plainName "com/example/bucketsplit/bucketsplit/core/Page" = true := by first | (simp [plainName, overriddenIn]; done) | decide +kernel
theorem own_ef6_0 (m : MethodId) (x0 : Addr) (x1 : Addr) (x2 : Int32) : entryFrame m #[(.ref x0), (.ref x1), (.int x2)] 4 = mkF m 0 #[.val (.ref x0), .val (.ref x1), .val (.int x2), .unset] [] := by first | (simp [entryFrame, mkF, argsToLocals, Value.category]; done) | rfl
def own_Q6_0 (Z : State) (ax : Addr) (bx : Addr) (xi : Int32) (kx : Addr) (kk : ClassId) (bk : ClassId) (wl : List Int32) (k0 : Int32) (k1 : Int32) (k2 : Int32) (k3 : Int32) (h0 : Heap) (n0 : Nat) (v : Option Value) (h : Heap) (L : List Loc) : Prop := v = some (.int (xi + (0 : Int32))) ∧ Fr n0 L ∧ Keep h0 h [ax, bx] ∧ Fld Z h ax "com/example/bucketsplit/bucketsplit/core/Page" "mSize" "I" (.int (0 : Int32)) ∧ Arv Z h bx bk .int (8 : Int32) (wl.map Value.int) (.int (0 : Int32))
theorem own_rm6_0 (l : Launch) (Z : State) (a0 : Array Value) (hw : ∀ d ∈ tables_1, d.before a0 Z = true) (ws : List Jvm.Cond) (ax : Addr) (bx : Addr) (xi : Int32) (kx : Addr) (kk : ClassId) (bk : ClassId) (wl : List Int32) (k0 : Int32) (k1 : Int32) (k2 : Int32) (k3 : Int32) (h0 : Heap) (n0 : Nat) (Z0 : n0 ≤ h0.size) (pf0 : Exa Z h0 ax "com/example/bucketsplit/bucketsplit/core/Page") (pf1 : Fld Z h0 ax "com/example/bucketsplit/bucketsplit/core/Page" "mKeys" "[I" (.ref kx)) (pf2 : Fld Z h0 ax "com/example/bucketsplit/bucketsplit/core/Page" "mSize" "I" (.int (0 : Int32))) (pf3 : Arv Z h0 kx kk .int (4 : Int32) [(.int k0), (.int k1), (.int k2), (.int k3)] (.int (0 : Int32))) (pf4 : Arv Z h0 bx bk .int (8 : Int32) (wl.map Value.int) (.int (0 : Int32))) (pn0 : ax ≠ kx) (pn1 : ax ≠ bx) (pn2 : kx ≠ bx) (pg_ax : n0 ≤ ax) (pg_bx : n0 ≤ bx) (hlo : ¬ (xi < (0 : Int32))) (hhi : xi < (9 : Int32)) (hlen : wl.length = 8) :
    MetFree l (⟨"com/example/bucketsplit/bucketsplit/core/Page", "takeAll", "([II)I"⟩ : MethodName) (head1 (Jvm.Cond.code (⟨"com/example/bucketsplit/bucketsplit/core/Page", "takeAll", "([II)I"⟩ : MethodName) prog_54_method_9_code 4 (some .int) :: ws) ({ frames := 0, cells := 0, slots := 0, locals := 0 } : Room)) (fun a U => a = #[(.ref ax), (.ref bx), (.int xi)] ∧ Z.Warmed39 U.vm ∧ U.heap = h0) (fun _ _ _ _ _ => True) (fun _ U o U' => ∃ v L, o = .returned v ∧ own_Q6_0 Z ax bx xi kx kk bk wl k0 k1 k2 k3 h0 n0 v U'.heap L ∧ FrameEnd U o U' L ({ frames := 0, cells := 0, slots := 0, locals := 0 } : Room).cells ({ frames := 0, cells := 0, slots := 0, locals := 0 } : Room).slots) := by
  refine MetFree.of_bodySF (plainFor_of_name own_pn6) hisR ?_
  intro p e s m args below meth c s₁ Bd hml0 hP hK
  obtain ⟨rfl, hZ, hh⟩ := hP
  have hx := Bd.exec
  have hby := Bd.bytes
  have hlk := Bd.notSynchronized
  have hret := Bd.returns
  have hml : c.maxLocals = 4 := hml0
  have hown : s.vm.findClass "com/example/bucketsplit/bucketsplit/core/Page" = some m.cls := findClass_of_methodNamed Bd.named
  have hnm := (name_of_methodNamed Bd.named Bd.method).1
  have X0 : Stand p l e ({ frames := 0, cells := 0, slots := 0, locals := 0 } : Room) s m #[(.ref ax), (.ref bx), (.int xi)] below meth c s₁ [] 0 0 := Stand.of_body Bd
  have e0 : s₁.heap = h0 := by rw [← hh, Bd.state]; rfl
  have N0 := Fr.nil n0
  suffices key : own_Go p e below (own_End s below (own_Q6_0 Z ax bx xi kx kk bk wl k0 k1 k2 k3 h0 n0) ({ frames := 0, cells := 0, slots := 0, locals := 0 } : Room).cells ({ frames := 0, cells := 0, slots := 0, locals := 0 } : Room).slots) (s₁.setTop (mkF m 0 #[.val (.ref ax), .val (.ref bx), .val (.int xi), .unset] [])) by
    obtain ⟨t, k1, k2, v, L, k3, k4, k5⟩ := key
    exact ⟨t, _, castTop (own_ef6_0 m ax bx xi) k1, k2, k3, v, L, rfl, k4, k5⟩
  show own_Go p e below _ (s₁.setTop (mkF m 0 #[.val (.ref ax), .val (.ref bx), .val (.int xi), .unset] []))
  refine own_by (fun _ => XS.iconst X0.here hx rfl (hb hby own_d6_0)) ?_
  show own_Go p e below _ (s₁.setTop (mkF m 1 #[.val (.ref ax), .val (.ref bx), .val (.int xi), .unset] [(.int (0 : Int32))]))
  refine own_by (fun _ => XS.istoreN X0.here hx rfl (hb hby own_d6_1) rfl (l' := #[.val (.ref ax), .val (.ref bx), .val (.int xi), .val (.int (0 : Int32))]) rfl) ?_
  show own_Go p e below _ (s₁.setTop (mkF m 2 #[.val (.ref ax), .val (.ref bx), .val (.int xi), .val (.int (0 : Int32))] []))
  refine own_by (fun _ => XS.iloadN X0.here hx rfl (hb hby own_d6_2) rfl) ?_
  show own_Go p e below _ (s₁.setTop (mkF m 3 #[.val (.ref ax), .val (.ref bx), .val (.int xi), .val (.int (0 : Int32))] [(.int (0 : Int32))]))
  refine own_by (fun _ => XS.aloadN X0.here hx rfl (hb hby own_d6_3) rfl rfl) ?_
  show own_Go p e below _ (s₁.setTop (mkF m 4 #[.val (.ref ax), .val (.ref bx), .val (.int xi), .val (.int (0 : Int32))] [(.ref ax), (.int (0 : Int32))]))
  obtain ⟨T1, X1, e1, st1⟩ := getF X0 hx hZ hown (host := "") (Or.inl (hw _ (List.mem_of_getElem? (i := 17) rfl))) Via.refl e0 pf2 (g := (mkF m 4 #[.val (.ref ax), .val (.ref bx), .val (.int xi), .val (.int (0 : Int32))] [(.ref ax), (.int (0 : Int32))])) rfl rfl (hb hby own_d6_4)
  refine own_by st1 ?_
  show own_Go p e below _ (T1.setTop (mkF m 7 #[.val (.ref ax), .val (.ref bx), .val (.int xi), .val (.int (0 : Int32))] [(.int (0 : Int32)), (.int (0 : Int32))]))
  refine own_by (fun _ => XS.icmpYes X1.here hx rfl (pc0 := 7) (pc' := 27) rfl (hb hby own_d6_7) rfl (flt (by decide : ¬ ((0 : Int32) < (0 : Int32)))).2.1 (by decide) (by decide)) ?_
  show own_Go p e below _ (T1.setTop (mkF m 27 #[.val (.ref ax), .val (.ref bx), .val (.int xi), .val (.int (0 : Int32))] []))
  refine own_by (fun _ => XS.iloadN X1.here hx rfl (hb hby own_d6_27) rfl) ?_
  show own_Go p e below _ (T1.setTop (mkF m 28 #[.val (.ref ax), .val (.ref bx), .val (.int xi), .val (.int (0 : Int32))] [(.int xi)]))
  refine own_by (fun _ => XS.aloadN X1.here hx rfl (hb hby own_d6_28) rfl rfl) ?_
  show own_Go p e below _ (T1.setTop (mkF m 29 #[.val (.ref ax), .val (.ref bx), .val (.int xi), .val (.int (0 : Int32))] [(.ref ax), (.int xi)]))
  obtain ⟨T2, X2, e2, st2⟩ := getF X1 hx hZ hown (host := "") (Or.inl (hw _ (List.mem_of_getElem? (i := 17) rfl))) Via.refl e1 pf2 (g := (mkF m 29 #[.val (.ref ax), .val (.ref bx), .val (.int xi), .val (.int (0 : Int32))] [(.ref ax), (.int xi)])) rfl rfl (hb hby own_d6_29)
  refine own_by st2 ?_
  show own_Go p e below _ (T2.setTop (mkF m 32 #[.val (.ref ax), .val (.ref bx), .val (.int xi), .val (.int (0 : Int32))] [(.int (0 : Int32)), (.int xi)]))
  refine own_by (fun _ => XS.iadd X2.here hx rfl (hb hby own_d6_32) rfl) ?_
  show own_Go p e below _ (T2.setTop (mkF m 33 #[.val (.ref ax), .val (.ref bx), .val (.int xi), .val (.int (0 : Int32))] [(.int (xi + (0 : Int32)))]))
  refine own_by (fun _ => XS.istoreN X2.here hx rfl (hb hby own_d6_33) rfl (l' := #[.val (.ref ax), .val (.ref bx), .val (.int xi), .val (.int (xi + (0 : Int32)))]) rfl) ?_
  show own_Go p e below _ (T2.setTop (mkF m 34 #[.val (.ref ax), .val (.ref bx), .val (.int xi), .val (.int (xi + (0 : Int32)))] []))
  refine own_by (fun _ => XS.aloadN X2.here hx rfl (hb hby own_d6_34) rfl rfl) ?_
  show own_Go p e below _ (T2.setTop (mkF m 35 #[.val (.ref ax), .val (.ref bx), .val (.int xi), .val (.int (xi + (0 : Int32)))] [(.ref ax)]))
  refine own_by (fun _ => XS.iconst X2.here hx rfl (hb hby own_d6_35)) ?_
  show own_Go p e below _ (T2.setTop (mkF m 36 #[.val (.ref ax), .val (.ref bx), .val (.int xi), .val (.int (xi + (0 : Int32)))] [(.int (0 : Int32)), (.ref ax)]))
  obtain ⟨T3, h3, X3, e3, W3, st3⟩ := putF X2 hx hZ hown (host := "") (Or.inl (hw _ (List.mem_of_getElem? (i := 17) rfl))) Via.refl e2 pf2 pf0 (Or.inl (hw _ (List.mem_of_getElem? (i := 18) rfl))) (hw _ (List.mem_of_getElem? (i := 1) rfl)) (ty := .int) (by decide) rfl rfl (g := (mkF m 36 #[.val (.ref ax), .val (.ref bx), .val (.int xi), .val (.int (xi + (0 : Int32)))] [(.int (0 : Int32)), (.ref ax)])) rfl rfl (hb hby own_d6_36)
  refine own_by st3 ?_
  have fw3 : Fld Z h3 ax "com/example/bucketsplit/bucketsplit/core/Page" "mSize" "I" (.int (0 : Int32)) := pf2.same W3
  have z3 : n0 ≤ h3.size := Nat.le_trans Z0 (Keep.of_wr W3).1
  have N3 := Fr.snoc X3 N0 pg_ax
  have K3 : Keep h0 h3 [ax, bx] := (Keep.refl h0 [ax, bx]).wr W3 (Or.inl (List.mem_of_getElem? (i := 0) rfl))
  show own_Go p e below _ (T3.setTop (mkF m 39 #[.val (.ref ax), .val (.ref bx), .val (.int xi), .val (.int (xi + (0 : Int32)))] []))
  refine own_by (fun _ => XS.iloadN X3.here hx rfl (hb hby own_d6_39) rfl) ?_
  show own_Go p e below _ (T3.setTop (mkF m 40 #[.val (.ref ax), .val (.ref bx), .val (.int xi), .val (.int (xi + (0 : Int32)))] [(.int (xi + (0 : Int32)))]))
  have f4 : Arv Z h3 bx bk .int (8 : Int32) (wl.map Value.int) (.int (0 : Int32)) := (pf4.other W3 (Ne.symm pn1))
  exact own_retI X3 hx hlk e3 hret (hb hby own_d6_40) (by decide) (by decide) ⟨rfl, N3, K3, fw3, f4⟩

theorem own_d6_10 : decode prog_54_method_9_code 10 = .ok (.aload_n 1, 1) := by decide +kernel
theorem own_d6_11 : decode prog_54_method_9_code 11 = .ok (.iload_n 2, 1) := by decide +kernel
theorem own_d6_12 : decode prog_54_method_9_code 12 = .ok (.iload_n 3, 1) := by decide +kernel
theorem own_d6_13 : decode prog_54_method_9_code 13 = .ok (.iadd, 1) := by decide +kernel
theorem own_d6_14 : decode prog_54_method_9_code 14 = .ok (.aload_n 0, 1) := by decide +kernel
theorem own_d6_15 : decode prog_54_method_9_code 15 = .ok (.getfield 9, 3) := by decide +kernel
theorem own_d6_18 : decode prog_54_method_9_code 18 = .ok (.iload_n 3, 1) := by decide +kernel
theorem own_d6_19 : decode prog_54_method_9_code 19 = .ok (.iaload, 1) := by decide +kernel
theorem own_d6_20 : decode prog_54_method_9_code 20 = .ok (.iastore, 1) := by decide +kernel
theorem own_d6_21 : decode prog_54_method_9_code 21 = .ok (.iinc 3 1, 3) := by decide +kernel
theorem own_d6_24 : decode prog_54_method_9_code 24 = .ok (.goto (-22), 3) := by decide +kernel
theorem own_ef6_1 (m : MethodId) (x0 : Addr) (x1 : Addr) (x2 : Int32) : entryFrame m #[(.ref x0), (.ref x1), (.int x2)] 4 = mkF m 0 #[.val (.ref x0), .val (.ref x1), .val (.int x2), .unset] [] := by first | (simp [entryFrame, mkF, argsToLocals, Value.category]; done) | rfl
def own_Q6_1 (Z : State) (ax : Addr) (bx : Addr) (xi : Int32) (kx : Addr) (kk : ClassId) (bk : ClassId) (wl : List Int32) (k0 : Int32) (k1 : Int32) (k2 : Int32) (k3 : Int32) (h0 : Heap) (n0 : Nat) (v : Option Value) (h : Heap) (L : List Loc) : Prop := v = some (.int (xi + (1 : Int32))) ∧ Fr n0 L ∧ Keep h0 h [ax, bx] ∧ Fld Z h ax "com/example/bucketsplit/bucketsplit/core/Page" "mSize" "I" (.int (0 : Int32)) ∧ Arv Z h bx bk .int (8 : Int32) ((wl.set ((xi + (0 : Int32))).toNatClampNeg k0).map Value.int) (.int (0 : Int32))
theorem own_rm6_1 (l : Launch) (Z : State) (a0 : Array Value) (hw : ∀ d ∈ tables_1, d.before a0 Z = true) (ws : List Jvm.Cond) (ax : Addr) (bx : Addr) (xi : Int32) (kx : Addr) (kk : ClassId) (bk : ClassId) (wl : List Int32) (k0 : Int32) (k1 : Int32) (k2 : Int32) (k3 : Int32) (h0 : Heap) (n0 : Nat) (Z0 : n0 ≤ h0.size) (pf0 : Exa Z h0 ax "com/example/bucketsplit/bucketsplit/core/Page") (pf1 : Fld Z h0 ax "com/example/bucketsplit/bucketsplit/core/Page" "mKeys" "[I" (.ref kx)) (pf2 : Fld Z h0 ax "com/example/bucketsplit/bucketsplit/core/Page" "mSize" "I" (.int (1 : Int32))) (pf3 : Arv Z h0 kx kk .int (4 : Int32) [(.int k0), (.int k1), (.int k2), (.int k3)] (.int (0 : Int32))) (pf4 : Arv Z h0 bx bk .int (8 : Int32) (wl.map Value.int) (.int (0 : Int32))) (pn0 : ax ≠ kx) (pn1 : ax ≠ bx) (pn2 : kx ≠ bx) (pg_ax : n0 ≤ ax) (pg_bx : n0 ≤ bx) (hlo : ¬ (xi < (0 : Int32))) (hhi : xi < (8 : Int32)) (hlen : wl.length = 8) :
    MetFree l (⟨"com/example/bucketsplit/bucketsplit/core/Page", "takeAll", "([II)I"⟩ : MethodName) (head1 (Jvm.Cond.code (⟨"com/example/bucketsplit/bucketsplit/core/Page", "takeAll", "([II)I"⟩ : MethodName) prog_54_method_9_code 4 (some .int) :: ws) ({ frames := 0, cells := 0, slots := 0, locals := 0 } : Room)) (fun a U => a = #[(.ref ax), (.ref bx), (.int xi)] ∧ Z.Warmed39 U.vm ∧ U.heap = h0) (fun _ _ _ _ _ => True) (fun _ U o U' => ∃ v L, o = .returned v ∧ own_Q6_1 Z ax bx xi kx kk bk wl k0 k1 k2 k3 h0 n0 v U'.heap L ∧ FrameEnd U o U' L ({ frames := 0, cells := 0, slots := 0, locals := 0 } : Room).cells ({ frames := 0, cells := 0, slots := 0, locals := 0 } : Room).slots) := by
  refine MetFree.of_bodySF (plainFor_of_name own_pn6) hisR ?_
  intro p e s m args below meth c s₁ Bd hml0 hP hK
  obtain ⟨rfl, hZ, hh⟩ := hP
  have hx := Bd.exec
  have hby := Bd.bytes
  have hlk := Bd.notSynchronized
  have hret := Bd.returns
  have hml : c.maxLocals = 4 := hml0
  have hown : s.vm.findClass "com/example/bucketsplit/bucketsplit/core/Page" = some m.cls := findClass_of_methodNamed Bd.named
  have hnm := (name_of_methodNamed Bd.named Bd.method).1
  have X0 : Stand p l e ({ frames := 0, cells := 0, slots := 0, locals := 0 } : Room) s m #[(.ref ax), (.ref bx), (.int xi)] below meth c s₁ [] 0 0 := Stand.of_body Bd
  have e0 : s₁.heap = h0 := by rw [← hh, Bd.state]; rfl
  have N0 := Fr.nil n0
  suffices key : own_Go p e below (own_End s below (own_Q6_1 Z ax bx xi kx kk bk wl k0 k1 k2 k3 h0 n0) ({ frames := 0, cells := 0, slots := 0, locals := 0 } : Room).cells ({ frames := 0, cells := 0, slots := 0, locals := 0 } : Room).slots) (s₁.setTop (mkF m 0 #[.val (.ref ax), .val (.ref bx), .val (.int xi), .unset] [])) by
    obtain ⟨t, k1, k2, v, L, k3, k4, k5⟩ := key
    exact ⟨t, _, castTop (own_ef6_1 m ax bx xi) k1, k2, k3, v, L, rfl, k4, k5⟩
  show own_Go p e below _ (s₁.setTop (mkF m 0 #[.val (.ref ax), .val (.ref bx), .val (.int xi), .unset] []))
  refine own_by (fun _ => XS.iconst X0.here hx rfl (hb hby own_d6_0)) ?_
  show own_Go p e below _ (s₁.setTop (mkF m 1 #[.val (.ref ax), .val (.ref bx), .val (.int xi), .unset] [(.int (0 : Int32))]))
  refine own_by (fun _ => XS.istoreN X0.here hx rfl (hb hby own_d6_1) rfl (l' := #[.val (.ref ax), .val (.ref bx), .val (.int xi), .val (.int (0 : Int32))]) rfl) ?_
  show own_Go p e below _ (s₁.setTop (mkF m 2 #[.val (.ref ax), .val (.ref bx), .val (.int xi), .val (.int (0 : Int32))] []))
  refine own_by (fun _ => XS.iloadN X0.here hx rfl (hb hby own_d6_2) rfl) ?_
  show own_Go p e below _ (s₁.setTop (mkF m 3 #[.val (.ref ax), .val (.ref bx), .val (.int xi), .val (.int (0 : Int32))] [(.int (0 : Int32))]))
  refine own_by (fun _ => XS.aloadN X0.here hx rfl (hb hby own_d6_3) rfl rfl) ?_
  show own_Go p e below _ (s₁.setTop (mkF m 4 #[.val (.ref ax), .val (.ref bx), .val (.int xi), .val (.int (0 : Int32))] [(.ref ax), (.int (0 : Int32))]))
  obtain ⟨T1, X1, e1, st1⟩ := getF X0 hx hZ hown (host := "") (Or.inl (hw _ (List.mem_of_getElem? (i := 17) rfl))) Via.refl e0 pf2 (g := (mkF m 4 #[.val (.ref ax), .val (.ref bx), .val (.int xi), .val (.int (0 : Int32))] [(.ref ax), (.int (0 : Int32))])) rfl rfl (hb hby own_d6_4)
  refine own_by st1 ?_
  show own_Go p e below _ (T1.setTop (mkF m 7 #[.val (.ref ax), .val (.ref bx), .val (.int xi), .val (.int (0 : Int32))] [(.int (1 : Int32)), (.int (0 : Int32))]))
  refine own_by (fun _ => XS.icmpNo X1.here hx rfl (hb hby own_d6_7) rfl (tlt (by decide : (0 : Int32) < (1 : Int32))).2.1) ?_
  show own_Go p e below _ (T1.setTop (mkF m 10 #[.val (.ref ax), .val (.ref bx), .val (.int xi), .val (.int (0 : Int32))] []))
  refine own_by (fun _ => XS.aloadN X1.here hx rfl (hb hby own_d6_10) rfl rfl) ?_
  show own_Go p e below _ (T1.setTop (mkF m 11 #[.val (.ref ax), .val (.ref bx), .val (.int xi), .val (.int (0 : Int32))] [(.ref bx)]))
  refine own_by (fun _ => XS.iloadN X1.here hx rfl (hb hby own_d6_11) rfl) ?_
  show own_Go p e below _ (T1.setTop (mkF m 12 #[.val (.ref ax), .val (.ref bx), .val (.int xi), .val (.int (0 : Int32))] [(.int xi), (.ref bx)]))
  refine own_by (fun _ => XS.iloadN X1.here hx rfl (hb hby own_d6_12) rfl) ?_
  show own_Go p e below _ (T1.setTop (mkF m 13 #[.val (.ref ax), .val (.ref bx), .val (.int xi), .val (.int (0 : Int32))] [(.int (0 : Int32)), (.int xi), (.ref bx)]))
  refine own_by (fun _ => XS.iadd X1.here hx rfl (hb hby own_d6_13) rfl) ?_
  show own_Go p e below _ (T1.setTop (mkF m 14 #[.val (.ref ax), .val (.ref bx), .val (.int xi), .val (.int (0 : Int32))] [(.int (xi + (0 : Int32))), (.ref bx)]))
  refine own_by (fun _ => XS.aloadN X1.here hx rfl (hb hby own_d6_14) rfl rfl) ?_
  show own_Go p e below _ (T1.setTop (mkF m 15 #[.val (.ref ax), .val (.ref bx), .val (.int xi), .val (.int (0 : Int32))] [(.ref ax), (.int (xi + (0 : Int32))), (.ref bx)]))
  obtain ⟨T2, X2, e2, st2⟩ := getF X1 hx hZ hown (host := "") (Or.inl (hw _ (List.mem_of_getElem? (i := 10) rfl))) Via.refl e1 pf1 (g := (mkF m 15 #[.val (.ref ax), .val (.ref bx), .val (.int xi), .val (.int (0 : Int32))] [(.ref ax), (.int (xi + (0 : Int32))), (.ref bx)])) rfl rfl (hb hby own_d6_15)
  refine own_by st2 ?_
  show own_Go p e below _ (T2.setTop (mkF m 18 #[.val (.ref ax), .val (.ref bx), .val (.int xi), .val (.int (0 : Int32))] [(.ref kx), (.int (xi + (0 : Int32))), (.ref bx)]))
  refine own_by (fun _ => XS.iloadN X2.here hx rfl (hb hby own_d6_18) rfl) ?_
  show own_Go p e below _ (T2.setTop (mkF m 19 #[.val (.ref ax), .val (.ref bx), .val (.int xi), .val (.int (0 : Int32))] [(.int (0 : Int32)), (.ref kx), (.int (xi + (0 : Int32))), (.ref bx)]))
  obtain ⟨cl3, ar3, q3, sz3, nn3, hs3, gs3⟩ := id pf3
  have hin3 : ¬ ((0 : Int32) < 0 ∨ cl3.slots.size ≤ ((0 : Int32)).toNatClampNeg) := inb_of sz3 ⟨by decide, by decide⟩
  refine own_by (X2.iaload hx (j := (0 : Int32)) (v := (.int k0)) (by rw [e2]; exact ar3.1) (State.isArrayOf_alike hZ.alike ar3.2.1) ar3.2.2 hin3 (hs3.at hin3 rfl) (g := (mkF m 19 #[.val (.ref ax), .val (.ref bx), .val (.int xi), .val (.int (0 : Int32))] [(.int (0 : Int32)), (.ref kx), (.int (xi + (0 : Int32))), (.ref bx)])) rfl rfl (hb hby own_d6_19)) ?_
  show own_Go p e below _ (T2.setTop (mkF m 20 #[.val (.ref ax), .val (.ref bx), .val (.int xi), .val (.int (0 : Int32))] [(.int k0), (.int (xi + (0 : Int32))), (.ref bx)]))
  obtain ⟨cl4, ar4, q4, sz4, nn4, hs4, gs4⟩ := id pf4
  have hin4 : ¬ ((xi + (0 : Int32)) < 0 ∨ cl4.slots.size ≤ ((xi + (0 : Int32))).toNatClampNeg) := inb_of sz4 (own_tin xi (0 : Int32) (8 : Int32) 0 8 (by decide) (by decide) (by decide) (by decide) hlo hhi)
  obtain ⟨T5, h5, X5, e5, W5, st5⟩ := stI X2 hx hZ e2 ar4 (j := (xi + (0 : Int32))) hin4 (g := (mkF m 20 #[.val (.ref ax), .val (.ref bx), .val (.int xi), .val (.int (0 : Int32))] [(.int k0), (.int (xi + (0 : Int32))), (.ref bx)])) rfl rfl (hb hby own_d6_20)
  refine own_by st5 ?_
  have va5 : Arv Z h5 bx bk .int (8 : Int32) ((wl.set ((xi + (0 : Int32))).toNatClampNeg k0).map Value.int) (.int (0 : Int32)) := by rw [own_map_set]; exact Arv.set ar4 q4 sz4 nn4 hs4 gs4 rfl W5 _ rfl (own_tlen (own_tin xi (0 : Int32) (8 : Int32) 0 8 (by decide) (by decide) (by decide) (by decide) hlo hhi) (by simp [hlen]))
  have z5 : n0 ≤ h5.size := Nat.le_trans Z0 (Keep.of_wr W5).1
  have N5 := Fr.snoc X5 N0 pg_bx
  have K5 : Keep h0 h5 [ax, bx] := (Keep.refl h0 [ax, bx]).wr W5 (Or.inl (List.mem_of_getElem? (i := 1) rfl))
  show own_Go p e below _ (T5.setTop (mkF m 21 #[.val (.ref ax), .val (.ref bx), .val (.int xi), .val (.int (0 : Int32))] []))
  refine own_by (fun _ => XS.iinc X5.here hx rfl (hb hby own_d6_21) rfl (l' := #[.val (.ref ax), .val (.ref bx), .val (.int xi), .val (.int (1 : Int32))]) rfl) ?_
  show own_Go p e below _ (T5.setTop (mkF m 24 #[.val (.ref ax), .val (.ref bx), .val (.int xi), .val (.int (1 : Int32))] []))
  refine own_by (fun _ => XS.goto X5.here hx rfl (pc0 := 24) (pc' := 2) rfl (hb hby own_d6_24) (by decide) (by decide)) ?_
  show own_Go p e below _ (T5.setTop (mkF m 2 #[.val (.ref ax), .val (.ref bx), .val (.int xi), .val (.int (1 : Int32))] []))
  refine own_by (fun _ => XS.iloadN X5.here hx rfl (hb hby own_d6_2) rfl) ?_
  show own_Go p e below _ (T5.setTop (mkF m 3 #[.val (.ref ax), .val (.ref bx), .val (.int xi), .val (.int (1 : Int32))] [(.int (1 : Int32))]))
  refine own_by (fun _ => XS.aloadN X5.here hx rfl (hb hby own_d6_3) rfl rfl) ?_
  show own_Go p e below _ (T5.setTop (mkF m 4 #[.val (.ref ax), .val (.ref bx), .val (.int xi), .val (.int (1 : Int32))] [(.ref ax), (.int (1 : Int32))]))
  have f6 : Fld Z h5 ax "com/example/bucketsplit/bucketsplit/core/Page" "mSize" "I" (.int (1 : Int32)) := (pf2.other W5 (Or.inl pn1))
  obtain ⟨T7, X7, e7, st7⟩ := getF X5 hx hZ hown (host := "") (Or.inl (hw _ (List.mem_of_getElem? (i := 17) rfl))) Via.refl e5 f6 (g := (mkF m 4 #[.val (.ref ax), .val (.ref bx), .val (.int xi), .val (.int (1 : Int32))] [(.ref ax), (.int (1 : Int32))])) rfl rfl (hb hby own_d6_4)
  refine own_by st7 ?_
  show own_Go p e below _ (T7.setTop (mkF m 7 #[.val (.ref ax), .val (.ref bx), .val (.int xi), .val (.int (1 : Int32))] [(.int (1 : Int32)), (.int (1 : Int32))]))
  refine own_by (fun _ => XS.icmpYes X7.here hx rfl (pc0 := 7) (pc' := 27) rfl (hb hby own_d6_7) rfl (flt (by decide : ¬ ((1 : Int32) < (1 : Int32)))).2.1 (by decide) (by decide)) ?_
  show own_Go p e below _ (T7.setTop (mkF m 27 #[.val (.ref ax), .val (.ref bx), .val (.int xi), .val (.int (1 : Int32))] []))
  refine own_by (fun _ => XS.iloadN X7.here hx rfl (hb hby own_d6_27) rfl) ?_
  show own_Go p e below _ (T7.setTop (mkF m 28 #[.val (.ref ax), .val (.ref bx), .val (.int xi), .val (.int (1 : Int32))] [(.int xi)]))
  refine own_by (fun _ => XS.aloadN X7.here hx rfl (hb hby own_d6_28) rfl rfl) ?_
  show own_Go p e below _ (T7.setTop (mkF m 29 #[.val (.ref ax), .val (.ref bx), .val (.int xi), .val (.int (1 : Int32))] [(.ref ax), (.int xi)]))
  obtain ⟨T8, X8, e8, st8⟩ := getF X7 hx hZ hown (host := "") (Or.inl (hw _ (List.mem_of_getElem? (i := 17) rfl))) Via.refl e7 f6 (g := (mkF m 29 #[.val (.ref ax), .val (.ref bx), .val (.int xi), .val (.int (1 : Int32))] [(.ref ax), (.int xi)])) rfl rfl (hb hby own_d6_29)
  refine own_by st8 ?_
  show own_Go p e below _ (T8.setTop (mkF m 32 #[.val (.ref ax), .val (.ref bx), .val (.int xi), .val (.int (1 : Int32))] [(.int (1 : Int32)), (.int xi)]))
  refine own_by (fun _ => XS.iadd X8.here hx rfl (hb hby own_d6_32) rfl) ?_
  show own_Go p e below _ (T8.setTop (mkF m 33 #[.val (.ref ax), .val (.ref bx), .val (.int xi), .val (.int (1 : Int32))] [(.int (xi + (1 : Int32)))]))
  refine own_by (fun _ => XS.istoreN X8.here hx rfl (hb hby own_d6_33) rfl (l' := #[.val (.ref ax), .val (.ref bx), .val (.int xi), .val (.int (xi + (1 : Int32)))]) rfl) ?_
  show own_Go p e below _ (T8.setTop (mkF m 34 #[.val (.ref ax), .val (.ref bx), .val (.int xi), .val (.int (xi + (1 : Int32)))] []))
  refine own_by (fun _ => XS.aloadN X8.here hx rfl (hb hby own_d6_34) rfl rfl) ?_
  show own_Go p e below _ (T8.setTop (mkF m 35 #[.val (.ref ax), .val (.ref bx), .val (.int xi), .val (.int (xi + (1 : Int32)))] [(.ref ax)]))
  refine own_by (fun _ => XS.iconst X8.here hx rfl (hb hby own_d6_35)) ?_
  show own_Go p e below _ (T8.setTop (mkF m 36 #[.val (.ref ax), .val (.ref bx), .val (.int xi), .val (.int (xi + (1 : Int32)))] [(.int (0 : Int32)), (.ref ax)]))
  have f9 : Exa Z h5 ax "com/example/bucketsplit/bucketsplit/core/Page" := (pf0.wr W5)
  obtain ⟨T10, h10, X10, e10, W10, st10⟩ := putF X8 hx hZ hown (host := "") (Or.inl (hw _ (List.mem_of_getElem? (i := 17) rfl))) Via.refl e8 f6 f9 (Or.inl (hw _ (List.mem_of_getElem? (i := 18) rfl))) (hw _ (List.mem_of_getElem? (i := 1) rfl)) (ty := .int) (by decide) rfl rfl (g := (mkF m 36 #[.val (.ref ax), .val (.ref bx), .val (.int xi), .val (.int (xi + (1 : Int32)))] [(.int (0 : Int32)), (.ref ax)])) rfl rfl (hb hby own_d6_36)
  refine own_by st10 ?_
  have fw10 : Fld Z h10 ax "com/example/bucketsplit/bucketsplit/core/Page" "mSize" "I" (.int (0 : Int32)) := f6.same W10
  have z10 : n0 ≤ h10.size := Nat.le_trans z5 (Keep.of_wr W10).1
  have N10 := Fr.snoc X10 N5 pg_ax
  have K10 : Keep h0 h10 [ax, bx] := K5.wr W10 (Or.inl (List.mem_of_getElem? (i := 0) rfl))
  show own_Go p e below _ (T10.setTop (mkF m 39 #[.val (.ref ax), .val (.ref bx), .val (.int xi), .val (.int (xi + (1 : Int32)))] []))
  refine own_by (fun _ => XS.iloadN X10.here hx rfl (hb hby own_d6_39) rfl) ?_
  show own_Go p e below _ (T10.setTop (mkF m 40 #[.val (.ref ax), .val (.ref bx), .val (.int xi), .val (.int (xi + (1 : Int32)))] [(.int (xi + (1 : Int32)))]))
  have f11 : Arv Z h10 bx bk .int (8 : Int32) ((wl.set ((xi + (0 : Int32))).toNatClampNeg k0).map Value.int) (.int (0 : Int32)) := (va5.other W10 (Ne.symm pn1))
  exact own_retI X10 hx hlk e10 hret (hb hby own_d6_40) (by decide) (by decide) ⟨rfl, N10, K10, fw10, f11⟩

theorem own_ef6_2 (m : MethodId) (x0 : Addr) (x1 : Addr) (x2 : Int32) : entryFrame m #[(.ref x0), (.ref x1), (.int x2)] 4 = mkF m 0 #[.val (.ref x0), .val (.ref x1), .val (.int x2), .unset] [] := by first | (simp [entryFrame, mkF, argsToLocals, Value.category]; done) | rfl
def own_Q6_2 (Z : State) (ax : Addr) (bx : Addr) (xi : Int32) (kx : Addr) (kk : ClassId) (bk : ClassId) (wl : List Int32) (k0 : Int32) (k1 : Int32) (k2 : Int32) (k3 : Int32) (h0 : Heap) (n0 : Nat) (v : Option Value) (h : Heap) (L : List Loc) : Prop := v = some (.int (xi + (2 : Int32))) ∧ Fr n0 L ∧ Keep h0 h [ax, bx] ∧ Fld Z h ax "com/example/bucketsplit/bucketsplit/core/Page" "mSize" "I" (.int (0 : Int32)) ∧ Arv Z h bx bk .int (8 : Int32) (((wl.set ((xi + (0 : Int32))).toNatClampNeg k0).set ((xi + (1 : Int32))).toNatClampNeg k1).map Value.int) (.int (0 : Int32))
theorem own_rm6_2 (l : Launch) (Z : State) (a0 : Array Value) (hw : ∀ d ∈ tables_1, d.before a0 Z = true) (ws : List Jvm.Cond) (ax : Addr) (bx : Addr) (xi : Int32) (kx : Addr) (kk : ClassId) (bk : ClassId) (wl : List Int32) (k0 : Int32) (k1 : Int32) (k2 : Int32) (k3 : Int32) (h0 : Heap) (n0 : Nat) (Z0 : n0 ≤ h0.size) (pf0 : Exa Z h0 ax "com/example/bucketsplit/bucketsplit/core/Page") (pf1 : Fld Z h0 ax "com/example/bucketsplit/bucketsplit/core/Page" "mKeys" "[I" (.ref kx)) (pf2 : Fld Z h0 ax "com/example/bucketsplit/bucketsplit/core/Page" "mSize" "I" (.int (2 : Int32))) (pf3 : Arv Z h0 kx kk .int (4 : Int32) [(.int k0), (.int k1), (.int k2), (.int k3)] (.int (0 : Int32))) (pf4 : Arv Z h0 bx bk .int (8 : Int32) (wl.map Value.int) (.int (0 : Int32))) (pn0 : ax ≠ kx) (pn1 : ax ≠ bx) (pn2 : kx ≠ bx) (pg_ax : n0 ≤ ax) (pg_bx : n0 ≤ bx) (hlo : ¬ (xi < (0 : Int32))) (hhi : xi < (7 : Int32)) (hlen : wl.length = 8) :
    MetFree l (⟨"com/example/bucketsplit/bucketsplit/core/Page", "takeAll", "([II)I"⟩ : MethodName) (head1 (Jvm.Cond.code (⟨"com/example/bucketsplit/bucketsplit/core/Page", "takeAll", "([II)I"⟩ : MethodName) prog_54_method_9_code 4 (some .int) :: ws) ({ frames := 0, cells := 0, slots := 0, locals := 0 } : Room)) (fun a U => a = #[(.ref ax), (.ref bx), (.int xi)] ∧ Z.Warmed39 U.vm ∧ U.heap = h0) (fun _ _ _ _ _ => True) (fun _ U o U' => ∃ v L, o = .returned v ∧ own_Q6_2 Z ax bx xi kx kk bk wl k0 k1 k2 k3 h0 n0 v U'.heap L ∧ FrameEnd U o U' L ({ frames := 0, cells := 0, slots := 0, locals := 0 } : Room).cells ({ frames := 0, cells := 0, slots := 0, locals := 0 } : Room).slots) := by
  refine MetFree.of_bodySF (plainFor_of_name own_pn6) hisR ?_
  intro p e s m args below meth c s₁ Bd hml0 hP hK
  obtain ⟨rfl, hZ, hh⟩ := hP
  have hx := Bd.exec
  have hby := Bd.bytes
  have hlk := Bd.notSynchronized
  have hret := Bd.returns
  have hml : c.maxLocals = 4 := hml0
  have hown : s.vm.findClass "com/example/bucketsplit/bucketsplit/core/Page" = some m.cls := findClass_of_methodNamed Bd.named
  have hnm := (name_of_methodNamed Bd.named Bd.method).1
  have X0 : Stand p l e ({ frames := 0, cells := 0, slots := 0, locals := 0 } : Room) s m #[(.ref ax), (.ref bx), (.int xi)] below meth c s₁ [] 0 0 := Stand.of_body Bd
  have e0 : s₁.heap = h0 := by rw [← hh, Bd.state]; rfl
  have N0 := Fr.nil n0
  suffices key : own_Go p e below (own_End s below (own_Q6_2 Z ax bx xi kx kk bk wl k0 k1 k2 k3 h0 n0) ({ frames := 0, cells := 0, slots := 0, locals := 0 } : Room).cells ({ frames := 0, cells := 0, slots := 0, locals := 0 } : Room).slots) (s₁.setTop (mkF m 0 #[.val (.ref ax), .val (.ref bx), .val (.int xi), .unset] [])) by
    obtain ⟨t, k1, k2, v, L, k3, k4, k5⟩ := key
    exact ⟨t, _, castTop (own_ef6_2 m ax bx xi) k1, k2, k3, v, L, rfl, k4, k5⟩
  show own_Go p e below _ (s₁.setTop (mkF m 0 #[.val (.ref ax), .val (.ref bx), .val (.int xi), .unset] []))
  refine own_by (fun _ => XS.iconst X0.here hx rfl (hb hby own_d6_0)) ?_
  show own_Go p e below _ (s₁.setTop (mkF m 1 #[.val (.ref ax), .val (.ref bx), .val (.int xi), .unset] [(.int (0 : Int32))]))
  refine own_by (fun _ => XS.istoreN X0.here hx rfl (hb hby own_d6_1) rfl (l' := #[.val (.ref ax), .val (.ref bx), .val (.int xi), .val (.int (0 : Int32))]) rfl) ?_
  show own_Go p e below _ (s₁.setTop (mkF m 2 #[.val (.ref ax), .val (.ref bx), .val (.int xi), .val (.int (0 : Int32))] []))
  refine own_by (fun _ => XS.iloadN X0.here hx rfl (hb hby own_d6_2) rfl) ?_
  show own_Go p e below _ (s₁.setTop (mkF m 3 #[.val (.ref ax), .val (.ref bx), .val (.int xi), .val (.int (0 : Int32))] [(.int (0 : Int32))]))
  refine own_by (fun _ => XS.aloadN X0.here hx rfl (hb hby own_d6_3) rfl rfl) ?_
  show own_Go p e below _ (s₁.setTop (mkF m 4 #[.val (.ref ax), .val (.ref bx), .val (.int xi), .val (.int (0 : Int32))] [(.ref ax), (.int (0 : Int32))]))
  obtain ⟨T1, X1, e1, st1⟩ := getF X0 hx hZ hown (host := "") (Or.inl (hw _ (List.mem_of_getElem? (i := 17) rfl))) Via.refl e0 pf2 (g := (mkF m 4 #[.val (.ref ax), .val (.ref bx), .val (.int xi), .val (.int (0 : Int32))] [(.ref ax), (.int (0 : Int32))])) rfl rfl (hb hby own_d6_4)
  refine own_by st1 ?_
  show own_Go p e below _ (T1.setTop (mkF m 7 #[.val (.ref ax), .val (.ref bx), .val (.int xi), .val (.int (0 : Int32))] [(.int (2 : Int32)), (.int (0 : Int32))]))
  refine own_by (fun _ => XS.icmpNo X1.here hx rfl (hb hby own_d6_7) rfl (tlt (by decide : (0 : Int32) < (2 : Int32))).2.1) ?_
  show own_Go p e below _ (T1.setTop (mkF m 10 #[.val (.ref ax), .val (.ref bx), .val (.int xi), .val (.int (0 : Int32))] []))
  refine own_by (fun _ => XS.aloadN X1.here hx rfl (hb hby own_d6_10) rfl rfl) ?_
  show own_Go p e below _ (T1.setTop (mkF m 11 #[.val (.ref ax), .val (.ref bx), .val (.int xi), .val (.int (0 : Int32))] [(.ref bx)]))
  refine own_by (fun _ => XS.iloadN X1.here hx rfl (hb hby own_d6_11) rfl) ?_
  show own_Go p e below _ (T1.setTop (mkF m 12 #[.val (.ref ax), .val (.ref bx), .val (.int xi), .val (.int (0 : Int32))] [(.int xi), (.ref bx)]))
  refine own_by (fun _ => XS.iloadN X1.here hx rfl (hb hby own_d6_12) rfl) ?_
  show own_Go p e below _ (T1.setTop (mkF m 13 #[.val (.ref ax), .val (.ref bx), .val (.int xi), .val (.int (0 : Int32))] [(.int (0 : Int32)), (.int xi), (.ref bx)]))
  refine own_by (fun _ => XS.iadd X1.here hx rfl (hb hby own_d6_13) rfl) ?_
  show own_Go p e below _ (T1.setTop (mkF m 14 #[.val (.ref ax), .val (.ref bx), .val (.int xi), .val (.int (0 : Int32))] [(.int (xi + (0 : Int32))), (.ref bx)]))
  refine own_by (fun _ => XS.aloadN X1.here hx rfl (hb hby own_d6_14) rfl rfl) ?_
  show own_Go p e below _ (T1.setTop (mkF m 15 #[.val (.ref ax), .val (.ref bx), .val (.int xi), .val (.int (0 : Int32))] [(.ref ax), (.int (xi + (0 : Int32))), (.ref bx)]))
  obtain ⟨T2, X2, e2, st2⟩ := getF X1 hx hZ hown (host := "") (Or.inl (hw _ (List.mem_of_getElem? (i := 10) rfl))) Via.refl e1 pf1 (g := (mkF m 15 #[.val (.ref ax), .val (.ref bx), .val (.int xi), .val (.int (0 : Int32))] [(.ref ax), (.int (xi + (0 : Int32))), (.ref bx)])) rfl rfl (hb hby own_d6_15)
  refine own_by st2 ?_
  show own_Go p e below _ (T2.setTop (mkF m 18 #[.val (.ref ax), .val (.ref bx), .val (.int xi), .val (.int (0 : Int32))] [(.ref kx), (.int (xi + (0 : Int32))), (.ref bx)]))
  refine own_by (fun _ => XS.iloadN X2.here hx rfl (hb hby own_d6_18) rfl) ?_
  show own_Go p e below _ (T2.setTop (mkF m 19 #[.val (.ref ax), .val (.ref bx), .val (.int xi), .val (.int (0 : Int32))] [(.int (0 : Int32)), (.ref kx), (.int (xi + (0 : Int32))), (.ref bx)]))
  obtain ⟨cl3, ar3, q3, sz3, nn3, hs3, gs3⟩ := id pf3
  have hin3 : ¬ ((0 : Int32) < 0 ∨ cl3.slots.size ≤ ((0 : Int32)).toNatClampNeg) := inb_of sz3 ⟨by decide, by decide⟩
  refine own_by (X2.iaload hx (j := (0 : Int32)) (v := (.int k0)) (by rw [e2]; exact ar3.1) (State.isArrayOf_alike hZ.alike ar3.2.1) ar3.2.2 hin3 (hs3.at hin3 rfl) (g := (mkF m 19 #[.val (.ref ax), .val (.ref bx), .val (.int xi), .val (.int (0 : Int32))] [(.int (0 : Int32)), (.ref kx), (.int (xi + (0 : Int32))), (.ref bx)])) rfl rfl (hb hby own_d6_19)) ?_
  show own_Go p e below _ (T2.setTop (mkF m 20 #[.val (.ref ax), .val (.ref bx), .val (.int xi), .val (.int (0 : Int32))] [(.int k0), (.int (xi + (0 : Int32))), (.ref bx)]))
  obtain ⟨cl4, ar4, q4, sz4, nn4, hs4, gs4⟩ := id pf4
  have hin4 : ¬ ((xi + (0 : Int32)) < 0 ∨ cl4.slots.size ≤ ((xi + (0 : Int32))).toNatClampNeg) := inb_of sz4 (own_tin xi (0 : Int32) (7 : Int32) 0 7 (by decide) (by decide) (by decide) (by decide) hlo hhi)
  obtain ⟨T5, h5, X5, e5, W5, st5⟩ := stI X2 hx hZ e2 ar4 (j := (xi + (0 : Int32))) hin4 (g := (mkF m 20 #[.val (.ref ax), .val (.ref bx), .val (.int xi), .val (.int (0 : Int32))] [(.int k0), (.int (xi + (0 : Int32))), (.ref bx)])) rfl rfl (hb hby own_d6_20)
  refine own_by st5 ?_
  have va5 : Arv Z h5 bx bk .int (8 : Int32) ((wl.set ((xi + (0 : Int32))).toNatClampNeg k0).map Value.int) (.int (0 : Int32)) := by rw [own_map_set]; exact Arv.set ar4 q4 sz4 nn4 hs4 gs4 rfl W5 _ rfl (own_tlen (own_tin xi (0 : Int32) (7 : Int32) 0 7 (by decide) (by decide) (by decide) (by decide) hlo hhi) (by simp [hlen]))
  have z5 : n0 ≤ h5.size := Nat.le_trans Z0 (Keep.of_wr W5).1
  have N5 := Fr.snoc X5 N0 pg_bx
  have K5 : Keep h0 h5 [ax, bx] := (Keep.refl h0 [ax, bx]).wr W5 (Or.inl (List.mem_of_getElem? (i := 1) rfl))
  show own_Go p e below _ (T5.setTop (mkF m 21 #[.val (.ref ax), .val (.ref bx), .val (.int xi), .val (.int (0 : Int32))] []))
  refine own_by (fun _ => XS.iinc X5.here hx rfl (hb hby own_d6_21) rfl (l' := #[.val (.ref ax), .val (.ref bx), .val (.int xi), .val (.int (1 : Int32))]) rfl) ?_
  show own_Go p e below _ (T5.setTop (mkF m 24 #[.val (.ref ax), .val (.ref bx), .val (.int xi), .val (.int (1 : Int32))] []))
  refine own_by (fun _ => XS.goto X5.here hx rfl (pc0 := 24) (pc' := 2) rfl (hb hby own_d6_24) (by decide) (by decide)) ?_
  show own_Go p e below _ (T5.setTop (mkF m 2 #[.val (.ref ax), .val (.ref bx), .val (.int xi), .val (.int (1 : Int32))] []))
  refine own_by (fun _ => XS.iloadN X5.here hx rfl (hb hby own_d6_2) rfl) ?_
  show own_Go p e below _ (T5.setTop (mkF m 3 #[.val (.ref ax), .val (.ref bx), .val (.int xi), .val (.int (1 : Int32))] [(.int (1 : Int32))]))
  refine own_by (fun _ => XS.aloadN X5.here hx rfl (hb hby own_d6_3) rfl rfl) ?_
  show own_Go p e below _ (T5.setTop (mkF m 4 #[.val (.ref ax), .val (.ref bx), .val (.int xi), .val (.int (1 : Int32))] [(.ref ax), (.int (1 : Int32))]))
  have f6 : Fld Z h5 ax "com/example/bucketsplit/bucketsplit/core/Page" "mSize" "I" (.int (2 : Int32)) := (pf2.other W5 (Or.inl pn1))
  obtain ⟨T7, X7, e7, st7⟩ := getF X5 hx hZ hown (host := "") (Or.inl (hw _ (List.mem_of_getElem? (i := 17) rfl))) Via.refl e5 f6 (g := (mkF m 4 #[.val (.ref ax), .val (.ref bx), .val (.int xi), .val (.int (1 : Int32))] [(.ref ax), (.int (1 : Int32))])) rfl rfl (hb hby own_d6_4)
  refine own_by st7 ?_
  show own_Go p e below _ (T7.setTop (mkF m 7 #[.val (.ref ax), .val (.ref bx), .val (.int xi), .val (.int (1 : Int32))] [(.int (2 : Int32)), (.int (1 : Int32))]))
  refine own_by (fun _ => XS.icmpNo X7.here hx rfl (hb hby own_d6_7) rfl (tlt (by decide : (1 : Int32) < (2 : Int32))).2.1) ?_
  show own_Go p e below _ (T7.setTop (mkF m 10 #[.val (.ref ax), .val (.ref bx), .val (.int xi), .val (.int (1 : Int32))] []))
  refine own_by (fun _ => XS.aloadN X7.here hx rfl (hb hby own_d6_10) rfl rfl) ?_
  show own_Go p e below _ (T7.setTop (mkF m 11 #[.val (.ref ax), .val (.ref bx), .val (.int xi), .val (.int (1 : Int32))] [(.ref bx)]))
  refine own_by (fun _ => XS.iloadN X7.here hx rfl (hb hby own_d6_11) rfl) ?_
  show own_Go p e below _ (T7.setTop (mkF m 12 #[.val (.ref ax), .val (.ref bx), .val (.int xi), .val (.int (1 : Int32))] [(.int xi), (.ref bx)]))
  refine own_by (fun _ => XS.iloadN X7.here hx rfl (hb hby own_d6_12) rfl) ?_
  show own_Go p e below _ (T7.setTop (mkF m 13 #[.val (.ref ax), .val (.ref bx), .val (.int xi), .val (.int (1 : Int32))] [(.int (1 : Int32)), (.int xi), (.ref bx)]))
  refine own_by (fun _ => XS.iadd X7.here hx rfl (hb hby own_d6_13) rfl) ?_
  show own_Go p e below _ (T7.setTop (mkF m 14 #[.val (.ref ax), .val (.ref bx), .val (.int xi), .val (.int (1 : Int32))] [(.int (xi + (1 : Int32))), (.ref bx)]))
  refine own_by (fun _ => XS.aloadN X7.here hx rfl (hb hby own_d6_14) rfl rfl) ?_
  show own_Go p e below _ (T7.setTop (mkF m 15 #[.val (.ref ax), .val (.ref bx), .val (.int xi), .val (.int (1 : Int32))] [(.ref ax), (.int (xi + (1 : Int32))), (.ref bx)]))
  have f8 : Fld Z h5 ax "com/example/bucketsplit/bucketsplit/core/Page" "mKeys" "[I" (.ref kx) := (pf1.other W5 (Or.inl pn1))
  obtain ⟨T9, X9, e9, st9⟩ := getF X7 hx hZ hown (host := "") (Or.inl (hw _ (List.mem_of_getElem? (i := 10) rfl))) Via.refl e7 f8 (g := (mkF m 15 #[.val (.ref ax), .val (.ref bx), .val (.int xi), .val (.int (1 : Int32))] [(.ref ax), (.int (xi + (1 : Int32))), (.ref bx)])) rfl rfl (hb hby own_d6_15)
  refine own_by st9 ?_
  show own_Go p e below _ (T9.setTop (mkF m 18 #[.val (.ref ax), .val (.ref bx), .val (.int xi), .val (.int (1 : Int32))] [(.ref kx), (.int (xi + (1 : Int32))), (.ref bx)]))
  refine own_by (fun _ => XS.iloadN X9.here hx rfl (hb hby own_d6_18) rfl) ?_
  show own_Go p e below _ (T9.setTop (mkF m 19 #[.val (.ref ax), .val (.ref bx), .val (.int xi), .val (.int (1 : Int32))] [(.int (1 : Int32)), (.ref kx), (.int (xi + (1 : Int32))), (.ref bx)]))
  have f10 : Arv Z h5 kx kk .int (4 : Int32) [(.int k0), (.int k1), (.int k2), (.int k3)] (.int (0 : Int32)) := (pf3.other W5 pn2)
  obtain ⟨cl11, ar11, q11, sz11, nn11, hs11, gs11⟩ := id f10
  have hin11 : ¬ ((1 : Int32) < 0 ∨ cl11.slots.size ≤ ((1 : Int32)).toNatClampNeg) := inb_of sz11 ⟨by decide, by decide⟩
  refine own_by (X9.iaload hx (j := (1 : Int32)) (v := (.int k1)) (by rw [e9]; exact ar11.1) (State.isArrayOf_alike hZ.alike ar11.2.1) ar11.2.2 hin11 (hs11.at hin11 rfl) (g := (mkF m 19 #[.val (.ref ax), .val (.ref bx), .val (.int xi), .val (.int (1 : Int32))] [(.int (1 : Int32)), (.ref kx), (.int (xi + (1 : Int32))), (.ref bx)])) rfl rfl (hb hby own_d6_19)) ?_
  show own_Go p e below _ (T9.setTop (mkF m 20 #[.val (.ref ax), .val (.ref bx), .val (.int xi), .val (.int (1 : Int32))] [(.int k1), (.int (xi + (1 : Int32))), (.ref bx)]))
  obtain ⟨cl12, ar12, q12, sz12, nn12, hs12, gs12⟩ := id va5
  have hin12 : ¬ ((xi + (1 : Int32)) < 0 ∨ cl12.slots.size ≤ ((xi + (1 : Int32))).toNatClampNeg) := inb_of sz12 (own_tin xi (1 : Int32) (7 : Int32) 1 7 (by decide) (by decide) (by decide) (by decide) hlo hhi)
  obtain ⟨T13, h13, X13, e13, W13, st13⟩ := stI X9 hx hZ e9 ar12 (j := (xi + (1 : Int32))) hin12 (g := (mkF m 20 #[.val (.ref ax), .val (.ref bx), .val (.int xi), .val (.int (1 : Int32))] [(.int k1), (.int (xi + (1 : Int32))), (.ref bx)])) rfl rfl (hb hby own_d6_20)
  refine own_by st13 ?_
  have va13 : Arv Z h13 bx bk .int (8 : Int32) (((wl.set ((xi + (0 : Int32))).toNatClampNeg k0).set ((xi + (1 : Int32))).toNatClampNeg k1).map Value.int) (.int (0 : Int32)) := by rw [own_map_set]; exact Arv.set ar12 q12 sz12 nn12 hs12 gs12 rfl W13 _ rfl (own_tlen (own_tin xi (1 : Int32) (7 : Int32) 1 7 (by decide) (by decide) (by decide) (by decide) hlo hhi) (by simp [hlen]))
  have z13 : n0 ≤ h13.size := Nat.le_trans z5 (Keep.of_wr W13).1
  have N13 := Fr.snoc X13 N5 pg_bx
  have K13 : Keep h0 h13 [ax, bx] := K5.wr W13 (Or.inl (List.mem_of_getElem? (i := 1) rfl))
  show own_Go p e below _ (T13.setTop (mkF m 21 #[.val (.ref ax), .val (.ref bx), .val (.int xi), .val (.int (1 : Int32))] []))
  refine own_by (fun _ => XS.iinc X13.here hx rfl (hb hby own_d6_21) rfl (l' := #[.val (.ref ax), .val (.ref bx), .val (.int xi), .val (.int (2 : Int32))]) rfl) ?_
  show own_Go p e below _ (T13.setTop (mkF m 24 #[.val (.ref ax), .val (.ref bx), .val (.int xi), .val (.int (2 : Int32))] []))
  refine own_by (fun _ => XS.goto X13.here hx rfl (pc0 := 24) (pc' := 2) rfl (hb hby own_d6_24) (by decide) (by decide)) ?_
  show own_Go p e below _ (T13.setTop (mkF m 2 #[.val (.ref ax), .val (.ref bx), .val (.int xi), .val (.int (2 : Int32))] []))
  refine own_by (fun _ => XS.iloadN X13.here hx rfl (hb hby own_d6_2) rfl) ?_
  show own_Go p e below _ (T13.setTop (mkF m 3 #[.val (.ref ax), .val (.ref bx), .val (.int xi), .val (.int (2 : Int32))] [(.int (2 : Int32))]))
  refine own_by (fun _ => XS.aloadN X13.here hx rfl (hb hby own_d6_3) rfl rfl) ?_
  show own_Go p e below _ (T13.setTop (mkF m 4 #[.val (.ref ax), .val (.ref bx), .val (.int xi), .val (.int (2 : Int32))] [(.ref ax), (.int (2 : Int32))]))
  have f14 : Fld Z h13 ax "com/example/bucketsplit/bucketsplit/core/Page" "mSize" "I" (.int (2 : Int32)) := (f6.other W13 (Or.inl pn1))
  obtain ⟨T15, X15, e15, st15⟩ := getF X13 hx hZ hown (host := "") (Or.inl (hw _ (List.mem_of_getElem? (i := 17) rfl))) Via.refl e13 f14 (g := (mkF m 4 #[.val (.ref ax), .val (.ref bx), .val (.int xi), .val (.int (2 : Int32))] [(.ref ax), (.int (2 : Int32))])) rfl rfl (hb hby own_d6_4)
  refine own_by st15 ?_
  show own_Go p e below _ (T15.setTop (mkF m 7 #[.val (.ref ax), .val (.ref bx), .val (.int xi), .val (.int (2 : Int32))] [(.int (2 : Int32)), (.int (2 : Int32))]))
  refine own_by (fun _ => XS.icmpYes X15.here hx rfl (pc0 := 7) (pc' := 27) rfl (hb hby own_d6_7) rfl (flt (by decide : ¬ ((2 : Int32) < (2 : Int32)))).2.1 (by decide) (by decide)) ?_
  show own_Go p e below _ (T15.setTop (mkF m 27 #[.val (.ref ax), .val (.ref bx), .val (.int xi), .val (.int (2 : Int32))] []))
  refine own_by (fun _ => XS.iloadN X15.here hx rfl (hb hby own_d6_27) rfl) ?_
  show own_Go p e below _ (T15.setTop (mkF m 28 #[.val (.ref ax), .val (.ref bx), .val (.int xi), .val (.int (2 : Int32))] [(.int xi)]))
  refine own_by (fun _ => XS.aloadN X15.here hx rfl (hb hby own_d6_28) rfl rfl) ?_
  show own_Go p e below _ (T15.setTop (mkF m 29 #[.val (.ref ax), .val (.ref bx), .val (.int xi), .val (.int (2 : Int32))] [(.ref ax), (.int xi)]))
  obtain ⟨T16, X16, e16, st16⟩ := getF X15 hx hZ hown (host := "") (Or.inl (hw _ (List.mem_of_getElem? (i := 17) rfl))) Via.refl e15 f14 (g := (mkF m 29 #[.val (.ref ax), .val (.ref bx), .val (.int xi), .val (.int (2 : Int32))] [(.ref ax), (.int xi)])) rfl rfl (hb hby own_d6_29)
  refine own_by st16 ?_
  show own_Go p e below _ (T16.setTop (mkF m 32 #[.val (.ref ax), .val (.ref bx), .val (.int xi), .val (.int (2 : Int32))] [(.int (2 : Int32)), (.int xi)]))
  refine own_by (fun _ => XS.iadd X16.here hx rfl (hb hby own_d6_32) rfl) ?_
  show own_Go p e below _ (T16.setTop (mkF m 33 #[.val (.ref ax), .val (.ref bx), .val (.int xi), .val (.int (2 : Int32))] [(.int (xi + (2 : Int32)))]))
  refine own_by (fun _ => XS.istoreN X16.here hx rfl (hb hby own_d6_33) rfl (l' := #[.val (.ref ax), .val (.ref bx), .val (.int xi), .val (.int (xi + (2 : Int32)))]) rfl) ?_
  show own_Go p e below _ (T16.setTop (mkF m 34 #[.val (.ref ax), .val (.ref bx), .val (.int xi), .val (.int (xi + (2 : Int32)))] []))
  refine own_by (fun _ => XS.aloadN X16.here hx rfl (hb hby own_d6_34) rfl rfl) ?_
  show own_Go p e below _ (T16.setTop (mkF m 35 #[.val (.ref ax), .val (.ref bx), .val (.int xi), .val (.int (xi + (2 : Int32)))] [(.ref ax)]))
  refine own_by (fun _ => XS.iconst X16.here hx rfl (hb hby own_d6_35)) ?_
  show own_Go p e below _ (T16.setTop (mkF m 36 #[.val (.ref ax), .val (.ref bx), .val (.int xi), .val (.int (xi + (2 : Int32)))] [(.int (0 : Int32)), (.ref ax)]))
  have f17 : Exa Z h13 ax "com/example/bucketsplit/bucketsplit/core/Page" := ((pf0.wr W5).wr W13)
  obtain ⟨T18, h18, X18, e18, W18, st18⟩ := putF X16 hx hZ hown (host := "") (Or.inl (hw _ (List.mem_of_getElem? (i := 17) rfl))) Via.refl e16 f14 f17 (Or.inl (hw _ (List.mem_of_getElem? (i := 18) rfl))) (hw _ (List.mem_of_getElem? (i := 1) rfl)) (ty := .int) (by decide) rfl rfl (g := (mkF m 36 #[.val (.ref ax), .val (.ref bx), .val (.int xi), .val (.int (xi + (2 : Int32)))] [(.int (0 : Int32)), (.ref ax)])) rfl rfl (hb hby own_d6_36)
  refine own_by st18 ?_
  have fw18 : Fld Z h18 ax "com/example/bucketsplit/bucketsplit/core/Page" "mSize" "I" (.int (0 : Int32)) := f14.same W18
  have z18 : n0 ≤ h18.size := Nat.le_trans z13 (Keep.of_wr W18).1
  have N18 := Fr.snoc X18 N13 pg_ax
  have K18 : Keep h0 h18 [ax, bx] := K13.wr W18 (Or.inl (List.mem_of_getElem? (i := 0) rfl))
  show own_Go p e below _ (T18.setTop (mkF m 39 #[.val (.ref ax), .val (.ref bx), .val (.int xi), .val (.int (xi + (2 : Int32)))] []))
  refine own_by (fun _ => XS.iloadN X18.here hx rfl (hb hby own_d6_39) rfl) ?_
  show own_Go p e below _ (T18.setTop (mkF m 40 #[.val (.ref ax), .val (.ref bx), .val (.int xi), .val (.int (xi + (2 : Int32)))] [(.int (xi + (2 : Int32)))]))
  have f19 : Arv Z h18 bx bk .int (8 : Int32) (((wl.set ((xi + (0 : Int32))).toNatClampNeg k0).set ((xi + (1 : Int32))).toNatClampNeg k1).map Value.int) (.int (0 : Int32)) := (va13.other W18 (Ne.symm pn1))
  exact own_retI X18 hx hlk e18 hret (hb hby own_d6_40) (by decide) (by decide) ⟨rfl, N18, K18, fw18, f19⟩

theorem own_ef6_3 (m : MethodId) (x0 : Addr) (x1 : Addr) (x2 : Int32) : entryFrame m #[(.ref x0), (.ref x1), (.int x2)] 4 = mkF m 0 #[.val (.ref x0), .val (.ref x1), .val (.int x2), .unset] [] := by first | (simp [entryFrame, mkF, argsToLocals, Value.category]; done) | rfl
def own_Q6_3 (Z : State) (ax : Addr) (bx : Addr) (xi : Int32) (kx : Addr) (kk : ClassId) (bk : ClassId) (wl : List Int32) (k0 : Int32) (k1 : Int32) (k2 : Int32) (k3 : Int32) (h0 : Heap) (n0 : Nat) (v : Option Value) (h : Heap) (L : List Loc) : Prop := v = some (.int (xi + (3 : Int32))) ∧ Fr n0 L ∧ Keep h0 h [ax, bx] ∧ Fld Z h ax "com/example/bucketsplit/bucketsplit/core/Page" "mSize" "I" (.int (0 : Int32)) ∧ Arv Z h bx bk .int (8 : Int32) ((((wl.set ((xi + (0 : Int32))).toNatClampNeg k0).set ((xi + (1 : Int32))).toNatClampNeg k1).set ((xi + (2 : Int32))).toNatClampNeg k2).map Value.int) (.int (0 : Int32))
theorem own_rm6_3 (l : Launch) (Z : State) (a0 : Array Value) (hw : ∀ d ∈ tables_1, d.before a0 Z = true) (ws : List Jvm.Cond) (ax : Addr) (bx : Addr) (xi : Int32) (kx : Addr) (kk : ClassId) (bk : ClassId) (wl : List Int32) (k0 : Int32) (k1 : Int32) (k2 : Int32) (k3 : Int32) (h0 : Heap) (n0 : Nat) (Z0 : n0 ≤ h0.size) (pf0 : Exa Z h0 ax "com/example/bucketsplit/bucketsplit/core/Page") (pf1 : Fld Z h0 ax "com/example/bucketsplit/bucketsplit/core/Page" "mKeys" "[I" (.ref kx)) (pf2 : Fld Z h0 ax "com/example/bucketsplit/bucketsplit/core/Page" "mSize" "I" (.int (3 : Int32))) (pf3 : Arv Z h0 kx kk .int (4 : Int32) [(.int k0), (.int k1), (.int k2), (.int k3)] (.int (0 : Int32))) (pf4 : Arv Z h0 bx bk .int (8 : Int32) (wl.map Value.int) (.int (0 : Int32))) (pn0 : ax ≠ kx) (pn1 : ax ≠ bx) (pn2 : kx ≠ bx) (pg_ax : n0 ≤ ax) (pg_bx : n0 ≤ bx) (hlo : ¬ (xi < (0 : Int32))) (hhi : xi < (6 : Int32)) (hlen : wl.length = 8) :
    MetFree l (⟨"com/example/bucketsplit/bucketsplit/core/Page", "takeAll", "([II)I"⟩ : MethodName) (head1 (Jvm.Cond.code (⟨"com/example/bucketsplit/bucketsplit/core/Page", "takeAll", "([II)I"⟩ : MethodName) prog_54_method_9_code 4 (some .int) :: ws) ({ frames := 0, cells := 0, slots := 0, locals := 0 } : Room)) (fun a U => a = #[(.ref ax), (.ref bx), (.int xi)] ∧ Z.Warmed39 U.vm ∧ U.heap = h0) (fun _ _ _ _ _ => True) (fun _ U o U' => ∃ v L, o = .returned v ∧ own_Q6_3 Z ax bx xi kx kk bk wl k0 k1 k2 k3 h0 n0 v U'.heap L ∧ FrameEnd U o U' L ({ frames := 0, cells := 0, slots := 0, locals := 0 } : Room).cells ({ frames := 0, cells := 0, slots := 0, locals := 0 } : Room).slots) := by
  refine MetFree.of_bodySF (plainFor_of_name own_pn6) hisR ?_
  intro p e s m args below meth c s₁ Bd hml0 hP hK
  obtain ⟨rfl, hZ, hh⟩ := hP
  have hx := Bd.exec
  have hby := Bd.bytes
  have hlk := Bd.notSynchronized
  have hret := Bd.returns
  have hml : c.maxLocals = 4 := hml0
  have hown : s.vm.findClass "com/example/bucketsplit/bucketsplit/core/Page" = some m.cls := findClass_of_methodNamed Bd.named
  have hnm := (name_of_methodNamed Bd.named Bd.method).1
  have X0 : Stand p l e ({ frames := 0, cells := 0, slots := 0, locals := 0 } : Room) s m #[(.ref ax), (.ref bx), (.int xi)] below meth c s₁ [] 0 0 := Stand.of_body Bd
  have e0 : s₁.heap = h0 := by rw [← hh, Bd.state]; rfl
  have N0 := Fr.nil n0
  suffices key : own_Go p e below (own_End s below (own_Q6_3 Z ax bx xi kx kk bk wl k0 k1 k2 k3 h0 n0) ({ frames := 0, cells := 0, slots := 0, locals := 0 } : Room).cells ({ frames := 0, cells := 0, slots := 0, locals := 0 } : Room).slots) (s₁.setTop (mkF m 0 #[.val (.ref ax), .val (.ref bx), .val (.int xi), .unset] [])) by
    obtain ⟨t, k1, k2, v, L, k3, k4, k5⟩ := key
    exact ⟨t, _, castTop (own_ef6_3 m ax bx xi) k1, k2, k3, v, L, rfl, k4, k5⟩
  show own_Go p e below _ (s₁.setTop (mkF m 0 #[.val (.ref ax), .val (.ref bx), .val (.int xi), .unset] []))
  refine own_by (fun _ => XS.iconst X0.here hx rfl (hb hby own_d6_0)) ?_
  show own_Go p e below _ (s₁.setTop (mkF m 1 #[.val (.ref ax), .val (.ref bx), .val (.int xi), .unset] [(.int (0 : Int32))]))
  refine own_by (fun _ => XS.istoreN X0.here hx rfl (hb hby own_d6_1) rfl (l' := #[.val (.ref ax), .val (.ref bx), .val (.int xi), .val (.int (0 : Int32))]) rfl) ?_
  show own_Go p e below _ (s₁.setTop (mkF m 2 #[.val (.ref ax), .val (.ref bx), .val (.int xi), .val (.int (0 : Int32))] []))
  refine own_by (fun _ => XS.iloadN X0.here hx rfl (hb hby own_d6_2) rfl) ?_
  show own_Go p e below _ (s₁.setTop (mkF m 3 #[.val (.ref ax), .val (.ref bx), .val (.int xi), .val (.int (0 : Int32))] [(.int (0 : Int32))]))
  refine own_by (fun _ => XS.aloadN X0.here hx rfl (hb hby own_d6_3) rfl rfl) ?_
  show own_Go p e below _ (s₁.setTop (mkF m 4 #[.val (.ref ax), .val (.ref bx), .val (.int xi), .val (.int (0 : Int32))] [(.ref ax), (.int (0 : Int32))]))
  obtain ⟨T1, X1, e1, st1⟩ := getF X0 hx hZ hown (host := "") (Or.inl (hw _ (List.mem_of_getElem? (i := 17) rfl))) Via.refl e0 pf2 (g := (mkF m 4 #[.val (.ref ax), .val (.ref bx), .val (.int xi), .val (.int (0 : Int32))] [(.ref ax), (.int (0 : Int32))])) rfl rfl (hb hby own_d6_4)
  refine own_by st1 ?_
  show own_Go p e below _ (T1.setTop (mkF m 7 #[.val (.ref ax), .val (.ref bx), .val (.int xi), .val (.int (0 : Int32))] [(.int (3 : Int32)), (.int (0 : Int32))]))
  refine own_by (fun _ => XS.icmpNo X1.here hx rfl (hb hby own_d6_7) rfl (tlt (by decide : (0 : Int32) < (3 : Int32))).2.1) ?_
  show own_Go p e below _ (T1.setTop (mkF m 10 #[.val (.ref ax), .val (.ref bx), .val (.int xi), .val (.int (0 : Int32))] []))
  refine own_by (fun _ => XS.aloadN X1.here hx rfl (hb hby own_d6_10) rfl rfl) ?_
  show own_Go p e below _ (T1.setTop (mkF m 11 #[.val (.ref ax), .val (.ref bx), .val (.int xi), .val (.int (0 : Int32))] [(.ref bx)]))
  refine own_by (fun _ => XS.iloadN X1.here hx rfl (hb hby own_d6_11) rfl) ?_
  show own_Go p e below _ (T1.setTop (mkF m 12 #[.val (.ref ax), .val (.ref bx), .val (.int xi), .val (.int (0 : Int32))] [(.int xi), (.ref bx)]))
  refine own_by (fun _ => XS.iloadN X1.here hx rfl (hb hby own_d6_12) rfl) ?_
  show own_Go p e below _ (T1.setTop (mkF m 13 #[.val (.ref ax), .val (.ref bx), .val (.int xi), .val (.int (0 : Int32))] [(.int (0 : Int32)), (.int xi), (.ref bx)]))
  refine own_by (fun _ => XS.iadd X1.here hx rfl (hb hby own_d6_13) rfl) ?_
  show own_Go p e below _ (T1.setTop (mkF m 14 #[.val (.ref ax), .val (.ref bx), .val (.int xi), .val (.int (0 : Int32))] [(.int (xi + (0 : Int32))), (.ref bx)]))
  refine own_by (fun _ => XS.aloadN X1.here hx rfl (hb hby own_d6_14) rfl rfl) ?_
  show own_Go p e below _ (T1.setTop (mkF m 15 #[.val (.ref ax), .val (.ref bx), .val (.int xi), .val (.int (0 : Int32))] [(.ref ax), (.int (xi + (0 : Int32))), (.ref bx)]))
  obtain ⟨T2, X2, e2, st2⟩ := getF X1 hx hZ hown (host := "") (Or.inl (hw _ (List.mem_of_getElem? (i := 10) rfl))) Via.refl e1 pf1 (g := (mkF m 15 #[.val (.ref ax), .val (.ref bx), .val (.int xi), .val (.int (0 : Int32))] [(.ref ax), (.int (xi + (0 : Int32))), (.ref bx)])) rfl rfl (hb hby own_d6_15)
  refine own_by st2 ?_
  show own_Go p e below _ (T2.setTop (mkF m 18 #[.val (.ref ax), .val (.ref bx), .val (.int xi), .val (.int (0 : Int32))] [(.ref kx), (.int (xi + (0 : Int32))), (.ref bx)]))
  refine own_by (fun _ => XS.iloadN X2.here hx rfl (hb hby own_d6_18) rfl) ?_
  show own_Go p e below _ (T2.setTop (mkF m 19 #[.val (.ref ax), .val (.ref bx), .val (.int xi), .val (.int (0 : Int32))] [(.int (0 : Int32)), (.ref kx), (.int (xi + (0 : Int32))), (.ref bx)]))
  obtain ⟨cl3, ar3, q3, sz3, nn3, hs3, gs3⟩ := id pf3
  have hin3 : ¬ ((0 : Int32) < 0 ∨ cl3.slots.size ≤ ((0 : Int32)).toNatClampNeg) := inb_of sz3 ⟨by decide, by decide⟩
  refine own_by (X2.iaload hx (j := (0 : Int32)) (v := (.int k0)) (by rw [e2]; exact ar3.1) (State.isArrayOf_alike hZ.alike ar3.2.1) ar3.2.2 hin3 (hs3.at hin3 rfl) (g := (mkF m 19 #[.val (.ref ax), .val (.ref bx), .val (.int xi), .val (.int (0 : Int32))] [(.int (0 : Int32)), (.ref kx), (.int (xi + (0 : Int32))), (.ref bx)])) rfl rfl (hb hby own_d6_19)) ?_
  show own_Go p e below _ (T2.setTop (mkF m 20 #[.val (.ref ax), .val (.ref bx), .val (.int xi), .val (.int (0 : Int32))] [(.int k0), (.int (xi + (0 : Int32))), (.ref bx)]))
  obtain ⟨cl4, ar4, q4, sz4, nn4, hs4, gs4⟩ := id pf4
  have hin4 : ¬ ((xi + (0 : Int32)) < 0 ∨ cl4.slots.size ≤ ((xi + (0 : Int32))).toNatClampNeg) := inb_of sz4 (own_tin xi (0 : Int32) (6 : Int32) 0 6 (by decide) (by decide) (by decide) (by decide) hlo hhi)
  obtain ⟨T5, h5, X5, e5, W5, st5⟩ := stI X2 hx hZ e2 ar4 (j := (xi + (0 : Int32))) hin4 (g := (mkF m 20 #[.val (.ref ax), .val (.ref bx), .val (.int xi), .val (.int (0 : Int32))] [(.int k0), (.int (xi + (0 : Int32))), (.ref bx)])) rfl rfl (hb hby own_d6_20)
  refine own_by st5 ?_
  have va5 : Arv Z h5 bx bk .int (8 : Int32) ((wl.set ((xi + (0 : Int32))).toNatClampNeg k0).map Value.int) (.int (0 : Int32)) := by rw [own_map_set]; exact Arv.set ar4 q4 sz4 nn4 hs4 gs4 rfl W5 _ rfl (own_tlen (own_tin xi (0 : Int32) (6 : Int32) 0 6 (by decide) (by decide) (by decide) (by decide) hlo hhi) (by simp [hlen]))
  have z5 : n0 ≤ h5.size := Nat.le_trans Z0 (Keep.of_wr W5).1
  have N5 := Fr.snoc X5 N0 pg_bx
  have K5 : Keep h0 h5 [ax, bx] := (Keep.refl h0 [ax, bx]).wr W5 (Or.inl (List.mem_of_getElem? (i := 1) rfl))
  show own_Go p e below _ (T5.setTop (mkF m 21 #[.val (.ref ax), .val (.ref bx), .val (.int xi), .val (.int (0 : Int32))] []))
  refine own_by (fun _ => XS.iinc X5.here hx rfl (hb hby own_d6_21) rfl (l' := #[.val (.ref ax), .val (.ref bx), .val (.int xi), .val (.int (1 : Int32))]) rfl) ?_
  show own_Go p e below _ (T5.setTop (mkF m 24 #[.val (.ref ax), .val (.ref bx), .val (.int xi), .val (.int (1 : Int32))] []))
  refine own_by (fun _ => XS.goto X5.here hx rfl (pc0 := 24) (pc' := 2) rfl (hb hby own_d6_24) (by decide) (by decide)) ?_
  show own_Go p e below _ (T5.setTop (mkF m 2 #[.val (.ref ax), .val (.ref bx), .val (.int xi), .val (.int (1 : Int32))] []))
  refine own_by (fun _ => XS.iloadN X5.here hx rfl (hb hby own_d6_2) rfl) ?_
  show own_Go p e below _ (T5.setTop (mkF m 3 #[.val (.ref ax), .val (.ref bx), .val (.int xi), .val (.int (1 : Int32))] [(.int (1 : Int32))]))
  refine own_by (fun _ => XS.aloadN X5.here hx rfl (hb hby own_d6_3) rfl rfl) ?_
  show own_Go p e below _ (T5.setTop (mkF m 4 #[.val (.ref ax), .val (.ref bx), .val (.int xi), .val (.int (1 : Int32))] [(.ref ax), (.int (1 : Int32))]))
  have f6 : Fld Z h5 ax "com/example/bucketsplit/bucketsplit/core/Page" "mSize" "I" (.int (3 : Int32)) := (pf2.other W5 (Or.inl pn1))
  obtain ⟨T7, X7, e7, st7⟩ := getF X5 hx hZ hown (host := "") (Or.inl (hw _ (List.mem_of_getElem? (i := 17) rfl))) Via.refl e5 f6 (g := (mkF m 4 #[.val (.ref ax), .val (.ref bx), .val (.int xi), .val (.int (1 : Int32))] [(.ref ax), (.int (1 : Int32))])) rfl rfl (hb hby own_d6_4)
  refine own_by st7 ?_
  show own_Go p e below _ (T7.setTop (mkF m 7 #[.val (.ref ax), .val (.ref bx), .val (.int xi), .val (.int (1 : Int32))] [(.int (3 : Int32)), (.int (1 : Int32))]))
  refine own_by (fun _ => XS.icmpNo X7.here hx rfl (hb hby own_d6_7) rfl (tlt (by decide : (1 : Int32) < (3 : Int32))).2.1) ?_
  show own_Go p e below _ (T7.setTop (mkF m 10 #[.val (.ref ax), .val (.ref bx), .val (.int xi), .val (.int (1 : Int32))] []))
  refine own_by (fun _ => XS.aloadN X7.here hx rfl (hb hby own_d6_10) rfl rfl) ?_
  show own_Go p e below _ (T7.setTop (mkF m 11 #[.val (.ref ax), .val (.ref bx), .val (.int xi), .val (.int (1 : Int32))] [(.ref bx)]))
  refine own_by (fun _ => XS.iloadN X7.here hx rfl (hb hby own_d6_11) rfl) ?_
  show own_Go p e below _ (T7.setTop (mkF m 12 #[.val (.ref ax), .val (.ref bx), .val (.int xi), .val (.int (1 : Int32))] [(.int xi), (.ref bx)]))
  refine own_by (fun _ => XS.iloadN X7.here hx rfl (hb hby own_d6_12) rfl) ?_
  show own_Go p e below _ (T7.setTop (mkF m 13 #[.val (.ref ax), .val (.ref bx), .val (.int xi), .val (.int (1 : Int32))] [(.int (1 : Int32)), (.int xi), (.ref bx)]))
  refine own_by (fun _ => XS.iadd X7.here hx rfl (hb hby own_d6_13) rfl) ?_
  show own_Go p e below _ (T7.setTop (mkF m 14 #[.val (.ref ax), .val (.ref bx), .val (.int xi), .val (.int (1 : Int32))] [(.int (xi + (1 : Int32))), (.ref bx)]))
  refine own_by (fun _ => XS.aloadN X7.here hx rfl (hb hby own_d6_14) rfl rfl) ?_
  show own_Go p e below _ (T7.setTop (mkF m 15 #[.val (.ref ax), .val (.ref bx), .val (.int xi), .val (.int (1 : Int32))] [(.ref ax), (.int (xi + (1 : Int32))), (.ref bx)]))
  have f8 : Fld Z h5 ax "com/example/bucketsplit/bucketsplit/core/Page" "mKeys" "[I" (.ref kx) := (pf1.other W5 (Or.inl pn1))
  obtain ⟨T9, X9, e9, st9⟩ := getF X7 hx hZ hown (host := "") (Or.inl (hw _ (List.mem_of_getElem? (i := 10) rfl))) Via.refl e7 f8 (g := (mkF m 15 #[.val (.ref ax), .val (.ref bx), .val (.int xi), .val (.int (1 : Int32))] [(.ref ax), (.int (xi + (1 : Int32))), (.ref bx)])) rfl rfl (hb hby own_d6_15)
  refine own_by st9 ?_
  show own_Go p e below _ (T9.setTop (mkF m 18 #[.val (.ref ax), .val (.ref bx), .val (.int xi), .val (.int (1 : Int32))] [(.ref kx), (.int (xi + (1 : Int32))), (.ref bx)]))
  refine own_by (fun _ => XS.iloadN X9.here hx rfl (hb hby own_d6_18) rfl) ?_
  show own_Go p e below _ (T9.setTop (mkF m 19 #[.val (.ref ax), .val (.ref bx), .val (.int xi), .val (.int (1 : Int32))] [(.int (1 : Int32)), (.ref kx), (.int (xi + (1 : Int32))), (.ref bx)]))
  have f10 : Arv Z h5 kx kk .int (4 : Int32) [(.int k0), (.int k1), (.int k2), (.int k3)] (.int (0 : Int32)) := (pf3.other W5 pn2)
  obtain ⟨cl11, ar11, q11, sz11, nn11, hs11, gs11⟩ := id f10
  have hin11 : ¬ ((1 : Int32) < 0 ∨ cl11.slots.size ≤ ((1 : Int32)).toNatClampNeg) := inb_of sz11 ⟨by decide, by decide⟩
  refine own_by (X9.iaload hx (j := (1 : Int32)) (v := (.int k1)) (by rw [e9]; exact ar11.1) (State.isArrayOf_alike hZ.alike ar11.2.1) ar11.2.2 hin11 (hs11.at hin11 rfl) (g := (mkF m 19 #[.val (.ref ax), .val (.ref bx), .val (.int xi), .val (.int (1 : Int32))] [(.int (1 : Int32)), (.ref kx), (.int (xi + (1 : Int32))), (.ref bx)])) rfl rfl (hb hby own_d6_19)) ?_
  show own_Go p e below _ (T9.setTop (mkF m 20 #[.val (.ref ax), .val (.ref bx), .val (.int xi), .val (.int (1 : Int32))] [(.int k1), (.int (xi + (1 : Int32))), (.ref bx)]))
  obtain ⟨cl12, ar12, q12, sz12, nn12, hs12, gs12⟩ := id va5
  have hin12 : ¬ ((xi + (1 : Int32)) < 0 ∨ cl12.slots.size ≤ ((xi + (1 : Int32))).toNatClampNeg) := inb_of sz12 (own_tin xi (1 : Int32) (6 : Int32) 1 6 (by decide) (by decide) (by decide) (by decide) hlo hhi)
  obtain ⟨T13, h13, X13, e13, W13, st13⟩ := stI X9 hx hZ e9 ar12 (j := (xi + (1 : Int32))) hin12 (g := (mkF m 20 #[.val (.ref ax), .val (.ref bx), .val (.int xi), .val (.int (1 : Int32))] [(.int k1), (.int (xi + (1 : Int32))), (.ref bx)])) rfl rfl (hb hby own_d6_20)
  refine own_by st13 ?_
  have va13 : Arv Z h13 bx bk .int (8 : Int32) (((wl.set ((xi + (0 : Int32))).toNatClampNeg k0).set ((xi + (1 : Int32))).toNatClampNeg k1).map Value.int) (.int (0 : Int32)) := by rw [own_map_set]; exact Arv.set ar12 q12 sz12 nn12 hs12 gs12 rfl W13 _ rfl (own_tlen (own_tin xi (1 : Int32) (6 : Int32) 1 6 (by decide) (by decide) (by decide) (by decide) hlo hhi) (by simp [hlen]))
  have z13 : n0 ≤ h13.size := Nat.le_trans z5 (Keep.of_wr W13).1
  have N13 := Fr.snoc X13 N5 pg_bx
  have K13 : Keep h0 h13 [ax, bx] := K5.wr W13 (Or.inl (List.mem_of_getElem? (i := 1) rfl))
  show own_Go p e below _ (T13.setTop (mkF m 21 #[.val (.ref ax), .val (.ref bx), .val (.int xi), .val (.int (1 : Int32))] []))
  refine own_by (fun _ => XS.iinc X13.here hx rfl (hb hby own_d6_21) rfl (l' := #[.val (.ref ax), .val (.ref bx), .val (.int xi), .val (.int (2 : Int32))]) rfl) ?_
  show own_Go p e below _ (T13.setTop (mkF m 24 #[.val (.ref ax), .val (.ref bx), .val (.int xi), .val (.int (2 : Int32))] []))
  refine own_by (fun _ => XS.goto X13.here hx rfl (pc0 := 24) (pc' := 2) rfl (hb hby own_d6_24) (by decide) (by decide)) ?_
  show own_Go p e below _ (T13.setTop (mkF m 2 #[.val (.ref ax), .val (.ref bx), .val (.int xi), .val (.int (2 : Int32))] []))
  refine own_by (fun _ => XS.iloadN X13.here hx rfl (hb hby own_d6_2) rfl) ?_
  show own_Go p e below _ (T13.setTop (mkF m 3 #[.val (.ref ax), .val (.ref bx), .val (.int xi), .val (.int (2 : Int32))] [(.int (2 : Int32))]))
  refine own_by (fun _ => XS.aloadN X13.here hx rfl (hb hby own_d6_3) rfl rfl) ?_
  show own_Go p e below _ (T13.setTop (mkF m 4 #[.val (.ref ax), .val (.ref bx), .val (.int xi), .val (.int (2 : Int32))] [(.ref ax), (.int (2 : Int32))]))
  have f14 : Fld Z h13 ax "com/example/bucketsplit/bucketsplit/core/Page" "mSize" "I" (.int (3 : Int32)) := (f6.other W13 (Or.inl pn1))
  obtain ⟨T15, X15, e15, st15⟩ := getF X13 hx hZ hown (host := "") (Or.inl (hw _ (List.mem_of_getElem? (i := 17) rfl))) Via.refl e13 f14 (g := (mkF m 4 #[.val (.ref ax), .val (.ref bx), .val (.int xi), .val (.int (2 : Int32))] [(.ref ax), (.int (2 : Int32))])) rfl rfl (hb hby own_d6_4)
  refine own_by st15 ?_
  show own_Go p e below _ (T15.setTop (mkF m 7 #[.val (.ref ax), .val (.ref bx), .val (.int xi), .val (.int (2 : Int32))] [(.int (3 : Int32)), (.int (2 : Int32))]))
  refine own_by (fun _ => XS.icmpNo X15.here hx rfl (hb hby own_d6_7) rfl (tlt (by decide : (2 : Int32) < (3 : Int32))).2.1) ?_
  show own_Go p e below _ (T15.setTop (mkF m 10 #[.val (.ref ax), .val (.ref bx), .val (.int xi), .val (.int (2 : Int32))] []))
  refine own_by (fun _ => XS.aloadN X15.here hx rfl (hb hby own_d6_10) rfl rfl) ?_
  show own_Go p e below _ (T15.setTop (mkF m 11 #[.val (.ref ax), .val (.ref bx), .val (.int xi), .val (.int (2 : Int32))] [(.ref bx)]))
  refine own_by (fun _ => XS.iloadN X15.here hx rfl (hb hby own_d6_11) rfl) ?_
  show own_Go p e below _ (T15.setTop (mkF m 12 #[.val (.ref ax), .val (.ref bx), .val (.int xi), .val (.int (2 : Int32))] [(.int xi), (.ref bx)]))
  refine own_by (fun _ => XS.iloadN X15.here hx rfl (hb hby own_d6_12) rfl) ?_
  show own_Go p e below _ (T15.setTop (mkF m 13 #[.val (.ref ax), .val (.ref bx), .val (.int xi), .val (.int (2 : Int32))] [(.int (2 : Int32)), (.int xi), (.ref bx)]))
  refine own_by (fun _ => XS.iadd X15.here hx rfl (hb hby own_d6_13) rfl) ?_
  show own_Go p e below _ (T15.setTop (mkF m 14 #[.val (.ref ax), .val (.ref bx), .val (.int xi), .val (.int (2 : Int32))] [(.int (xi + (2 : Int32))), (.ref bx)]))
  refine own_by (fun _ => XS.aloadN X15.here hx rfl (hb hby own_d6_14) rfl rfl) ?_
  show own_Go p e below _ (T15.setTop (mkF m 15 #[.val (.ref ax), .val (.ref bx), .val (.int xi), .val (.int (2 : Int32))] [(.ref ax), (.int (xi + (2 : Int32))), (.ref bx)]))
  have f16 : Fld Z h13 ax "com/example/bucketsplit/bucketsplit/core/Page" "mKeys" "[I" (.ref kx) := (f8.other W13 (Or.inl pn1))
  obtain ⟨T17, X17, e17, st17⟩ := getF X15 hx hZ hown (host := "") (Or.inl (hw _ (List.mem_of_getElem? (i := 10) rfl))) Via.refl e15 f16 (g := (mkF m 15 #[.val (.ref ax), .val (.ref bx), .val (.int xi), .val (.int (2 : Int32))] [(.ref ax), (.int (xi + (2 : Int32))), (.ref bx)])) rfl rfl (hb hby own_d6_15)
  refine own_by st17 ?_
  show own_Go p e below _ (T17.setTop (mkF m 18 #[.val (.ref ax), .val (.ref bx), .val (.int xi), .val (.int (2 : Int32))] [(.ref kx), (.int (xi + (2 : Int32))), (.ref bx)]))
  refine own_by (fun _ => XS.iloadN X17.here hx rfl (hb hby own_d6_18) rfl) ?_
  show own_Go p e below _ (T17.setTop (mkF m 19 #[.val (.ref ax), .val (.ref bx), .val (.int xi), .val (.int (2 : Int32))] [(.int (2 : Int32)), (.ref kx), (.int (xi + (2 : Int32))), (.ref bx)]))
  have f18 : Arv Z h13 kx kk .int (4 : Int32) [(.int k0), (.int k1), (.int k2), (.int k3)] (.int (0 : Int32)) := (f10.other W13 pn2)
  obtain ⟨cl19, ar19, q19, sz19, nn19, hs19, gs19⟩ := id f18
  have hin19 : ¬ ((2 : Int32) < 0 ∨ cl19.slots.size ≤ ((2 : Int32)).toNatClampNeg) := inb_of sz19 ⟨by decide, by decide⟩
  refine own_by (X17.iaload hx (j := (2 : Int32)) (v := (.int k2)) (by rw [e17]; exact ar19.1) (State.isArrayOf_alike hZ.alike ar19.2.1) ar19.2.2 hin19 (hs19.at hin19 rfl) (g := (mkF m 19 #[.val (.ref ax), .val (.ref bx), .val (.int xi), .val (.int (2 : Int32))] [(.int (2 : Int32)), (.ref kx), (.int (xi + (2 : Int32))), (.ref bx)])) rfl rfl (hb hby own_d6_19)) ?_
  show own_Go p e below _ (T17.setTop (mkF m 20 #[.val (.ref ax), .val (.ref bx), .val (.int xi), .val (.int (2 : Int32))] [(.int k2), (.int (xi + (2 : Int32))), (.ref bx)]))
  obtain ⟨cl20, ar20, q20, sz20, nn20, hs20, gs20⟩ := id va13
  have hin20 : ¬ ((xi + (2 : Int32)) < 0 ∨ cl20.slots.size ≤ ((xi + (2 : Int32))).toNatClampNeg) := inb_of sz20 (own_tin xi (2 : Int32) (6 : Int32) 2 6 (by decide) (by decide) (by decide) (by decide) hlo hhi)
  obtain ⟨T21, h21, X21, e21, W21, st21⟩ := stI X17 hx hZ e17 ar20 (j := (xi + (2 : Int32))) hin20 (g := (mkF m 20 #[.val (.ref ax), .val (.ref bx), .val (.int xi), .val (.int (2 : Int32))] [(.int k2), (.int (xi + (2 : Int32))), (.ref bx)])) rfl rfl (hb hby own_d6_20)
  refine own_by st21 ?_
  have va21 : Arv Z h21 bx bk .int (8 : Int32) ((((wl.set ((xi + (0 : Int32))).toNatClampNeg k0).set ((xi + (1 : Int32))).toNatClampNeg k1).set ((xi + (2 : Int32))).toNatClampNeg k2).map Value.int) (.int (0 : Int32)) := by rw [own_map_set]; exact Arv.set ar20 q20 sz20 nn20 hs20 gs20 rfl W21 _ rfl (own_tlen (own_tin xi (2 : Int32) (6 : Int32) 2 6 (by decide) (by decide) (by decide) (by decide) hlo hhi) (by simp [hlen]))
  have z21 : n0 ≤ h21.size := Nat.le_trans z13 (Keep.of_wr W21).1
  have N21 := Fr.snoc X21 N13 pg_bx
  have K21 : Keep h0 h21 [ax, bx] := K13.wr W21 (Or.inl (List.mem_of_getElem? (i := 1) rfl))
  show own_Go p e below _ (T21.setTop (mkF m 21 #[.val (.ref ax), .val (.ref bx), .val (.int xi), .val (.int (2 : Int32))] []))
  refine own_by (fun _ => XS.iinc X21.here hx rfl (hb hby own_d6_21) rfl (l' := #[.val (.ref ax), .val (.ref bx), .val (.int xi), .val (.int (3 : Int32))]) rfl) ?_
  show own_Go p e below _ (T21.setTop (mkF m 24 #[.val (.ref ax), .val (.ref bx), .val (.int xi), .val (.int (3 : Int32))] []))
  refine own_by (fun _ => XS.goto X21.here hx rfl (pc0 := 24) (pc' := 2) rfl (hb hby own_d6_24) (by decide) (by decide)) ?_
  show own_Go p e below _ (T21.setTop (mkF m 2 #[.val (.ref ax), .val (.ref bx), .val (.int xi), .val (.int (3 : Int32))] []))
  refine own_by (fun _ => XS.iloadN X21.here hx rfl (hb hby own_d6_2) rfl) ?_
  show own_Go p e below _ (T21.setTop (mkF m 3 #[.val (.ref ax), .val (.ref bx), .val (.int xi), .val (.int (3 : Int32))] [(.int (3 : Int32))]))
  refine own_by (fun _ => XS.aloadN X21.here hx rfl (hb hby own_d6_3) rfl rfl) ?_
  show own_Go p e below _ (T21.setTop (mkF m 4 #[.val (.ref ax), .val (.ref bx), .val (.int xi), .val (.int (3 : Int32))] [(.ref ax), (.int (3 : Int32))]))
  have f22 : Fld Z h21 ax "com/example/bucketsplit/bucketsplit/core/Page" "mSize" "I" (.int (3 : Int32)) := (f14.other W21 (Or.inl pn1))
  obtain ⟨T23, X23, e23, st23⟩ := getF X21 hx hZ hown (host := "") (Or.inl (hw _ (List.mem_of_getElem? (i := 17) rfl))) Via.refl e21 f22 (g := (mkF m 4 #[.val (.ref ax), .val (.ref bx), .val (.int xi), .val (.int (3 : Int32))] [(.ref ax), (.int (3 : Int32))])) rfl rfl (hb hby own_d6_4)
  refine own_by st23 ?_
  show own_Go p e below _ (T23.setTop (mkF m 7 #[.val (.ref ax), .val (.ref bx), .val (.int xi), .val (.int (3 : Int32))] [(.int (3 : Int32)), (.int (3 : Int32))]))
  refine own_by (fun _ => XS.icmpYes X23.here hx rfl (pc0 := 7) (pc' := 27) rfl (hb hby own_d6_7) rfl (flt (by decide : ¬ ((3 : Int32) < (3 : Int32)))).2.1 (by decide) (by decide)) ?_
  show own_Go p e below _ (T23.setTop (mkF m 27 #[.val (.ref ax), .val (.ref bx), .val (.int xi), .val (.int (3 : Int32))] []))
  refine own_by (fun _ => XS.iloadN X23.here hx rfl (hb hby own_d6_27) rfl) ?_
  show own_Go p e below _ (T23.setTop (mkF m 28 #[.val (.ref ax), .val (.ref bx), .val (.int xi), .val (.int (3 : Int32))] [(.int xi)]))
  refine own_by (fun _ => XS.aloadN X23.here hx rfl (hb hby own_d6_28) rfl rfl) ?_
  show own_Go p e below _ (T23.setTop (mkF m 29 #[.val (.ref ax), .val (.ref bx), .val (.int xi), .val (.int (3 : Int32))] [(.ref ax), (.int xi)]))
  obtain ⟨T24, X24, e24, st24⟩ := getF X23 hx hZ hown (host := "") (Or.inl (hw _ (List.mem_of_getElem? (i := 17) rfl))) Via.refl e23 f22 (g := (mkF m 29 #[.val (.ref ax), .val (.ref bx), .val (.int xi), .val (.int (3 : Int32))] [(.ref ax), (.int xi)])) rfl rfl (hb hby own_d6_29)
  refine own_by st24 ?_
  show own_Go p e below _ (T24.setTop (mkF m 32 #[.val (.ref ax), .val (.ref bx), .val (.int xi), .val (.int (3 : Int32))] [(.int (3 : Int32)), (.int xi)]))
  refine own_by (fun _ => XS.iadd X24.here hx rfl (hb hby own_d6_32) rfl) ?_
  show own_Go p e below _ (T24.setTop (mkF m 33 #[.val (.ref ax), .val (.ref bx), .val (.int xi), .val (.int (3 : Int32))] [(.int (xi + (3 : Int32)))]))
  refine own_by (fun _ => XS.istoreN X24.here hx rfl (hb hby own_d6_33) rfl (l' := #[.val (.ref ax), .val (.ref bx), .val (.int xi), .val (.int (xi + (3 : Int32)))]) rfl) ?_
  show own_Go p e below _ (T24.setTop (mkF m 34 #[.val (.ref ax), .val (.ref bx), .val (.int xi), .val (.int (xi + (3 : Int32)))] []))
  refine own_by (fun _ => XS.aloadN X24.here hx rfl (hb hby own_d6_34) rfl rfl) ?_
  show own_Go p e below _ (T24.setTop (mkF m 35 #[.val (.ref ax), .val (.ref bx), .val (.int xi), .val (.int (xi + (3 : Int32)))] [(.ref ax)]))
  refine own_by (fun _ => XS.iconst X24.here hx rfl (hb hby own_d6_35)) ?_
  show own_Go p e below _ (T24.setTop (mkF m 36 #[.val (.ref ax), .val (.ref bx), .val (.int xi), .val (.int (xi + (3 : Int32)))] [(.int (0 : Int32)), (.ref ax)]))
  have f25 : Exa Z h21 ax "com/example/bucketsplit/bucketsplit/core/Page" := (((pf0.wr W5).wr W13).wr W21)
  obtain ⟨T26, h26, X26, e26, W26, st26⟩ := putF X24 hx hZ hown (host := "") (Or.inl (hw _ (List.mem_of_getElem? (i := 17) rfl))) Via.refl e24 f22 f25 (Or.inl (hw _ (List.mem_of_getElem? (i := 18) rfl))) (hw _ (List.mem_of_getElem? (i := 1) rfl)) (ty := .int) (by decide) rfl rfl (g := (mkF m 36 #[.val (.ref ax), .val (.ref bx), .val (.int xi), .val (.int (xi + (3 : Int32)))] [(.int (0 : Int32)), (.ref ax)])) rfl rfl (hb hby own_d6_36)
  refine own_by st26 ?_
  have fw26 : Fld Z h26 ax "com/example/bucketsplit/bucketsplit/core/Page" "mSize" "I" (.int (0 : Int32)) := f22.same W26
  have z26 : n0 ≤ h26.size := Nat.le_trans z21 (Keep.of_wr W26).1
  have N26 := Fr.snoc X26 N21 pg_ax
  have K26 : Keep h0 h26 [ax, bx] := K21.wr W26 (Or.inl (List.mem_of_getElem? (i := 0) rfl))
  show own_Go p e below _ (T26.setTop (mkF m 39 #[.val (.ref ax), .val (.ref bx), .val (.int xi), .val (.int (xi + (3 : Int32)))] []))
  refine own_by (fun _ => XS.iloadN X26.here hx rfl (hb hby own_d6_39) rfl) ?_
  show own_Go p e below _ (T26.setTop (mkF m 40 #[.val (.ref ax), .val (.ref bx), .val (.int xi), .val (.int (xi + (3 : Int32)))] [(.int (xi + (3 : Int32)))]))
  have f27 : Arv Z h26 bx bk .int (8 : Int32) ((((wl.set ((xi + (0 : Int32))).toNatClampNeg k0).set ((xi + (1 : Int32))).toNatClampNeg k1).set ((xi + (2 : Int32))).toNatClampNeg k2).map Value.int) (.int (0 : Int32)) := (va21.other W26 (Ne.symm pn1))
  exact own_retI X26 hx hlk e26 hret (hb hby own_d6_40) (by decide) (by decide) ⟨rfl, N26, K26, fw26, f27⟩

theorem own_d7_0 : decode prog_54_method_5_code 0 = .ok (.aload_n 0, 1) := by decide +kernel
theorem own_d7_1 : decode prog_54_method_5_code 1 = .ok (.getfield 13, 3) := by decide +kernel
theorem own_d7_4 : decode prog_54_method_5_code 4 = .ok (.ireturn, 1) := by decide +kernel
theorem own_pn7 : plainName "com/example/bucketsplit/bucketsplit/core/Page" = true := by first | (simp [plainName, overriddenIn]; done) | decide +kernel
theorem own_ef7 (m : MethodId) (x0 : Addr) : entryFrame m #[(.ref x0)] 1 = mkF m 0 #[.val (.ref x0)] [] := by first | (simp [entryFrame, mkF, argsToLocals, Value.category]; done) | rfl
def own_Q7 (Z : State) (ax : Addr) (ua : Int32) (h0 : Heap) (n0 : Nat) (v : Option Value) (h : Heap) (L : List Loc) : Prop := v = some (.int ua) ∧ Fr n0 L ∧ h = h0
theorem own_rm7 (l : Launch) (Z : State) (a0 : Array Value) (hw : ∀ d ∈ tables_1, d.before a0 Z = true) (ws : List Jvm.Cond) (ax : Addr) (ua : Int32) (h0 : Heap) (n0 : Nat) (Z0 : n0 ≤ h0.size) (pf0 : Fld Z h0 ax "com/example/bucketsplit/bucketsplit/core/Page" "mSize" "I" (.int ua)) :
    MetFree l (⟨"com/example/bucketsplit/bucketsplit/core/Page", "size", "()I"⟩ : MethodName) (head1 (Jvm.Cond.code (⟨"com/example/bucketsplit/bucketsplit/core/Page", "size", "()I"⟩ : MethodName) prog_54_method_5_code 1 (some .int) :: ws) ({ frames := 0, cells := 0, slots := 0, locals := 0 } : Room)) (fun a U => a = #[(.ref ax)] ∧ Z.Warmed39 U.vm ∧ U.heap = h0) (fun _ _ _ _ _ => True) (fun _ U o U' => ∃ v L, o = .returned v ∧ own_Q7 Z ax ua h0 n0 v U'.heap L ∧ FrameEnd U o U' L ({ frames := 0, cells := 0, slots := 0, locals := 0 } : Room).cells ({ frames := 0, cells := 0, slots := 0, locals := 0 } : Room).slots) := by
  refine MetFree.of_bodySF (plainFor_of_name own_pn7) hisR ?_
  intro p e s m args below meth c s₁ Bd hml0 hP hK
  obtain ⟨rfl, hZ, hh⟩ := hP
  have hx := Bd.exec
  have hby := Bd.bytes
  have hlk := Bd.notSynchronized
  have hret := Bd.returns
  have hml : c.maxLocals = 1 := hml0
  have hown : s.vm.findClass "com/example/bucketsplit/bucketsplit/core/Page" = some m.cls := findClass_of_methodNamed Bd.named
  have hnm := (name_of_methodNamed Bd.named Bd.method).1
  have X0 : Stand p l e ({ frames := 0, cells := 0, slots := 0, locals := 0 } : Room) s m #[(.ref ax)] below meth c s₁ [] 0 0 := Stand.of_body Bd
  have e0 : s₁.heap = h0 := by rw [← hh, Bd.state]; rfl
  have N0 := Fr.nil n0
  suffices key : own_Go p e below (own_End s below (own_Q7 Z ax ua h0 n0) ({ frames := 0, cells := 0, slots := 0, locals := 0 } : Room).cells ({ frames := 0, cells := 0, slots := 0, locals := 0 } : Room).slots) (s₁.setTop (mkF m 0 #[.val (.ref ax)] [])) by
    obtain ⟨t, k1, k2, v, L, k3, k4, k5⟩ := key
    exact ⟨t, _, castTop (own_ef7 m ax) k1, k2, k3, v, L, rfl, k4, k5⟩
  show own_Go p e below _ (s₁.setTop (mkF m 0 #[.val (.ref ax)] []))
  refine own_by (fun _ => XS.aloadN X0.here hx rfl (hb hby own_d7_0) rfl rfl) ?_
  show own_Go p e below _ (s₁.setTop (mkF m 1 #[.val (.ref ax)] [(.ref ax)]))
  obtain ⟨T1, X1, e1, st1⟩ := getF X0 hx hZ hown (host := "") (Or.inl (hw _ (List.mem_of_getElem? (i := 17) rfl))) Via.refl e0 pf0 (g := (mkF m 1 #[.val (.ref ax)] [(.ref ax)])) rfl rfl (hb hby own_d7_1)
  refine own_by st1 ?_
  show own_Go p e below _ (T1.setTop (mkF m 4 #[.val (.ref ax)] [(.int ua)]))
  exact own_retI X1 hx hlk e1 hret (hb hby own_d7_4) (by decide) (by decide) ⟨rfl, N0, rfl⟩

theorem own_d8_0 : decode method_3_code 0 = .ok (.iload_n 1, 1) := by decide +kernel
theorem own_d8_1 : decode method_3_code 1 = .ok (.iload_n 2, 1) := by decide +kernel
theorem own_d8_2 : decode method_3_code 2 = .ok (.isub, 1) := by decide +kernel
theorem own_d8_3 : decode method_3_code 3 = .ok (.istore 8, 2) := by decide +kernel
theorem own_d8_5 : decode method_3_code 5 = .ok (.iload 8, 2) := by decide +kernel
theorem own_d8_7 : decode method_3_code 7 = .ok (.ifCond .lt 41, 3) := by decide +kernel
theorem own_d8_10 : decode method_3_code 10 = .ok (.iload 8, 2) := by decide +kernel
theorem own_d8_12 : decode method_3_code 12 = .ok (.iload_n 3, 1) := by decide +kernel
theorem own_d8_13 : decode method_3_code 13 = .ok (.if_icmp .ge 35, 3) := by decide +kernel
theorem own_d8_16 : decode method_3_code 16 = .ok (.iload 8, 2) := by decide +kernel
theorem own_d8_18 : decode method_3_code 18 = .ok (.ifCond .ne 10, 3) := by decide +kernel
theorem own_d8_21 : decode method_3_code 21 = .ok (.iload 4, 2) := by decide +kernel
theorem own_d8_23 : decode method_3_code 23 = .ok (.istore 9, 2) := by decide +kernel
theorem own_d8_25 : decode method_3_code 25 = .ok (.goto 29, 3) := by decide +kernel
theorem own_d8_28 : decode method_3_code 28 = .ok (.iload 8, 2) := by decide +kernel
theorem own_d8_30 : decode method_3_code 30 = .ok (.iconst 1, 1) := by decide +kernel
theorem own_d8_31 : decode method_3_code 31 = .ok (.if_icmp .ne 10, 3) := by decide +kernel
theorem own_d8_34 : decode method_3_code 34 = .ok (.iload 5, 2) := by decide +kernel
theorem own_d8_36 : decode method_3_code 36 = .ok (.istore 9, 2) := by decide +kernel
theorem own_d8_38 : decode method_3_code 38 = .ok (.goto 16, 3) := by decide +kernel
theorem own_d8_41 : decode method_3_code 41 = .ok (.iload 6, 2) := by decide +kernel
theorem own_d8_43 : decode method_3_code 43 = .ok (.istore 9, 2) := by decide +kernel
theorem own_d8_45 : decode method_3_code 45 = .ok (.goto 9, 3) := by decide +kernel
theorem own_d8_48 : decode method_3_code 48 = .ok (.iload 7, 2) := by decide +kernel
theorem own_d8_50 : decode method_3_code 50 = .ok (.iload_n 1, 1) := by decide +kernel
theorem own_d8_51 : decode method_3_code 51 = .ok (.iadd, 1) := by decide +kernel
theorem own_d8_52 : decode method_3_code 52 = .ok (.istore 9, 2) := by decide +kernel
theorem own_d8_54 : decode method_3_code 54 = .ok (.aload_n 0, 1) := by decide +kernel
theorem own_d8_55 : decode method_3_code 55 = .ok (.iload_n 1, 1) := by decide +kernel
theorem own_d8_56 : decode method_3_code 56 = .ok (.iaload, 1) := by decide +kernel
theorem own_d8_57 : decode method_3_code 57 = .ok (.iload 9, 2) := by decide +kernel
theorem own_d8_59 : decode method_3_code 59 = .ok (.if_icmp .ne 7, 3) := by decide +kernel
theorem own_d8_62 : decode method_3_code 62 = .ok (.iconst 1, 1) := by decide +kernel
theorem own_d8_63 : decode method_3_code 63 = .ok (.goto 4, 3) := by decide +kernel
theorem own_d8_66 : decode method_3_code 66 = .ok (.iconst 0, 1) := by decide +kernel
theorem own_d8_67 : decode method_3_code 67 = .ok (.ireturn, 1) := by decide +kernel
def own_slot (xi : Int32) (xat : Int32) (xn : Int32) (y0 : Int32) (y1 : Int32) (y2 : Int32) (ye : Int32) (bs : List Int32) : Int32 := (if (own_g bs xi) = (if (xi - xat) < (0 : Int32) then (ye + xi) else (if (xi - xat) < xn then (if (xi - xat) = (0 : Int32) then y0 else (if (xi - xat) = (1 : Int32) then y1 else y2)) else (ye + xi))) then (1 : Int32) else (0 : Int32))
theorem own_pn8 : plainName "com/example/bucketsplit/bucketsplit/core/PageTakeAllPinLaw" = true := by first | (simp [plainName, overriddenIn]; done) | decide +kernel
theorem own_ef8 (m : MethodId) (x0 : Addr) (x1 : Int32) (x2 : Int32) (x3 : Int32) (x4 : Int32) (x5 : Int32) (x6 : Int32) (x7 : Int32) : entryFrame m #[(.ref x0), (.int x1), (.int x2), (.int x3), (.int x4), (.int x5), (.int x6), (.int x7)] 10 = mkF m 0 #[.val (.ref x0), .val (.int x1), .val (.int x2), .val (.int x3), .val (.int x4), .val (.int x5), .val (.int x6), .val (.int x7), .unset, .unset] [] := by first | (simp [entryFrame, mkF, argsToLocals, Value.category]; done) | rfl
def own_Q8 (Z : State) (bx : Addr) (xi : Int32) (xat : Int32) (xn : Int32) (y0 : Int32) (y1 : Int32) (y2 : Int32) (ye : Int32) (bk : ClassId) (bs : List Int32) (h0 : Heap) (n0 : Nat) (v : Option Value) (h : Heap) (L : List Loc) : Prop := v = some (.int (own_slot xi xat xn y0 y1 y2 ye bs)) ∧ Fr n0 L ∧ h = h0
theorem own_rm8 (l : Launch) (Z : State) (a0 : Array Value) (hw : ∀ d ∈ tables_1, d.before a0 Z = true) (ws : List Jvm.Cond) (bx : Addr) (xi : Int32) (xat : Int32) (xn : Int32) (y0 : Int32) (y1 : Int32) (y2 : Int32) (ye : Int32) (bk : ClassId) (bs : List Int32) (h0 : Heap) (n0 : Nat) (Z0 : n0 ≤ h0.size) (pf0 : Arv Z h0 bx bk .int (8 : Int32) (bs.map Value.int) (.int (0 : Int32))) (hlo : ¬ (xi < (0 : Int32))) (hhi : xi < (8 : Int32)) :
    MetFree l (⟨"com/example/bucketsplit/bucketsplit/core/PageTakeAllPinLaw", "slot", "([IIIIIIII)Z"⟩ : MethodName) (head1 (Jvm.Cond.code (⟨"com/example/bucketsplit/bucketsplit/core/PageTakeAllPinLaw", "slot", "([IIIIIIII)Z"⟩ : MethodName) method_3_code 10 (some .boolean) :: ws) ({ frames := 0, cells := 0, slots := 0, locals := 0 } : Room)) (fun a U => a = #[(.ref bx), (.int xi), (.int xat), (.int xn), (.int y0), (.int y1), (.int y2), (.int ye)] ∧ Z.Warmed39 U.vm ∧ U.heap = h0) (fun _ _ _ _ _ => True) (fun _ U o U' => ∃ v L, o = .returned v ∧ own_Q8 Z bx xi xat xn y0 y1 y2 ye bk bs h0 n0 v U'.heap L ∧ FrameEnd U o U' L ({ frames := 0, cells := 0, slots := 0, locals := 0 } : Room).cells ({ frames := 0, cells := 0, slots := 0, locals := 0 } : Room).slots) := by
  refine MetFree.of_bodySF (plainFor_of_name own_pn8) hisR ?_
  intro p e s m args below meth c s₁ Bd hml0 hP hK
  obtain ⟨rfl, hZ, hh⟩ := hP
  have hx := Bd.exec
  have hby := Bd.bytes
  have hlk := Bd.notSynchronized
  have hret := Bd.returns
  have hml : c.maxLocals = 10 := hml0
  have hown : s.vm.findClass "com/example/bucketsplit/bucketsplit/core/PageTakeAllPinLaw" = some m.cls := findClass_of_methodNamed Bd.named
  have hnm := (name_of_methodNamed Bd.named Bd.method).1
  have X0 : Stand p l e ({ frames := 0, cells := 0, slots := 0, locals := 0 } : Room) s m #[(.ref bx), (.int xi), (.int xat), (.int xn), (.int y0), (.int y1), (.int y2), (.int ye)] below meth c s₁ [] 0 0 := Stand.of_body Bd
  have e0 : s₁.heap = h0 := by rw [← hh, Bd.state]; rfl
  have N0 := Fr.nil n0
  suffices key : own_Go p e below (own_End s below (own_Q8 Z bx xi xat xn y0 y1 y2 ye bk bs h0 n0) ({ frames := 0, cells := 0, slots := 0, locals := 0 } : Room).cells ({ frames := 0, cells := 0, slots := 0, locals := 0 } : Room).slots) (s₁.setTop (mkF m 0 #[.val (.ref bx), .val (.int xi), .val (.int xat), .val (.int xn), .val (.int y0), .val (.int y1), .val (.int y2), .val (.int ye), .unset, .unset] [])) by
    obtain ⟨t, k1, k2, v, L, k3, k4, k5⟩ := key
    exact ⟨t, _, castTop (own_ef8 m bx xi xat xn y0 y1 y2 ye) k1, k2, k3, v, L, rfl, k4, k5⟩
  show own_Go p e below _ (s₁.setTop (mkF m 0 #[.val (.ref bx), .val (.int xi), .val (.int xat), .val (.int xn), .val (.int y0), .val (.int y1), .val (.int y2), .val (.int ye), .unset, .unset] []))
  refine own_by (fun _ => XS.iloadN X0.here hx rfl (hb hby own_d8_0) rfl) ?_
  show own_Go p e below _ (s₁.setTop (mkF m 1 #[.val (.ref bx), .val (.int xi), .val (.int xat), .val (.int xn), .val (.int y0), .val (.int y1), .val (.int y2), .val (.int ye), .unset, .unset] [(.int xi)]))
  refine own_by (fun _ => XS.iloadN X0.here hx rfl (hb hby own_d8_1) rfl) ?_
  show own_Go p e below _ (s₁.setTop (mkF m 2 #[.val (.ref bx), .val (.int xi), .val (.int xat), .val (.int xn), .val (.int y0), .val (.int y1), .val (.int y2), .val (.int ye), .unset, .unset] [(.int xat), (.int xi)]))
  refine own_by (fun _ => XS.isub X0.here hx rfl (hb hby own_d8_2) rfl) ?_
  show own_Go p e below _ (s₁.setTop (mkF m 3 #[.val (.ref bx), .val (.int xi), .val (.int xat), .val (.int xn), .val (.int y0), .val (.int y1), .val (.int y2), .val (.int ye), .unset, .unset] [(.int (xi - xat))]))
  refine own_by (fun _ => XS.istore X0.here hx rfl (hb hby own_d8_3) rfl (l' := #[.val (.ref bx), .val (.int xi), .val (.int xat), .val (.int xn), .val (.int y0), .val (.int y1), .val (.int y2), .val (.int ye), .val (.int (xi - xat)), .unset]) rfl) ?_
  show own_Go p e below _ (s₁.setTop (mkF m 5 #[.val (.ref bx), .val (.int xi), .val (.int xat), .val (.int xn), .val (.int y0), .val (.int y1), .val (.int y2), .val (.int ye), .val (.int (xi - xat)), .unset] []))
  refine own_by (fun _ => XS.iload X0.here hx rfl (hb hby own_d8_5) rfl) ?_
  show own_Go p e below _ (s₁.setTop (mkF m 7 #[.val (.ref bx), .val (.int xi), .val (.int xat), .val (.int xn), .val (.int y0), .val (.int y1), .val (.int y2), .val (.int ye), .val (.int (xi - xat)), .unset] [(.int (xi - xat))]))
  suffices J1 : ∀ (T' : State) (v1_9 : Int32), v1_9 = (if (xi - xat) < (0 : Int32) then (ye + xi) else (if (xi - xat) < xn then (if (xi - xat) = (0 : Int32) then y0 else (if (xi - xat) = (1 : Int32) then y1 else y2)) else (ye + xi))) → own_At p l e ({ frames := 0, cells := 0, slots := 0, locals := 0 } : Room) s m #[(.ref bx), (.int xi), (.int xat), (.int xn), (.int y0), (.int y1), (.int y2), (.int ye)] below meth c n0 T' h0 0 0 → own_Go p e below (own_End s below (own_Q8 Z bx xi xat xn y0 y1 y2 ye bk bs h0 n0) ({ frames := 0, cells := 0, slots := 0, locals := 0 } : Room).cells ({ frames := 0, cells := 0, slots := 0, locals := 0 } : Room).slots) (T'.setTop (mkF m 54 #[.val (.ref bx), .val (.int xi), .val (.int xat), .val (.int xn), .val (.int y0), .val (.int y1), .val (.int y2), .val (.int ye), .val (.int (xi - xat)), .val (.int v1_9)] [])) by
    by_cases hc7_2 : (xi - xat) < (0 : Int32)
    ·
      skip
      refine own_by (fun _ => XS.ifYes X0.here hx rfl (pc0 := 7) (pc' := 48) rfl (hb hby own_d8_7) rfl ((if0 _ _).trans (tlt hc7_2).1) (by decide) (by decide)) ?_
      show own_Go p e below _ (s₁.setTop (mkF m 48 #[.val (.ref bx), .val (.int xi), .val (.int xat), .val (.int xn), .val (.int y0), .val (.int y1), .val (.int y2), .val (.int ye), .val (.int (xi - xat)), .unset] []))
      refine own_by (fun _ => XS.iload X0.here hx rfl (hb hby own_d8_48) rfl) ?_
      show own_Go p e below _ (s₁.setTop (mkF m 50 #[.val (.ref bx), .val (.int xi), .val (.int xat), .val (.int xn), .val (.int y0), .val (.int y1), .val (.int y2), .val (.int ye), .val (.int (xi - xat)), .unset] [(.int ye)]))
      refine own_by (fun _ => XS.iloadN X0.here hx rfl (hb hby own_d8_50) rfl) ?_
      show own_Go p e below _ (s₁.setTop (mkF m 51 #[.val (.ref bx), .val (.int xi), .val (.int xat), .val (.int xn), .val (.int y0), .val (.int y1), .val (.int y2), .val (.int ye), .val (.int (xi - xat)), .unset] [(.int xi), (.int ye)]))
      refine own_by (fun _ => XS.iadd X0.here hx rfl (hb hby own_d8_51) rfl) ?_
      show own_Go p e below _ (s₁.setTop (mkF m 52 #[.val (.ref bx), .val (.int xi), .val (.int xat), .val (.int xn), .val (.int y0), .val (.int y1), .val (.int y2), .val (.int ye), .val (.int (xi - xat)), .unset] [(.int (ye + xi))]))
      refine own_by (fun _ => XS.istore X0.here hx rfl (hb hby own_d8_52) rfl (l' := #[.val (.ref bx), .val (.int xi), .val (.int xat), .val (.int xn), .val (.int y0), .val (.int y1), .val (.int y2), .val (.int ye), .val (.int (xi - xat)), .val (.int (ye + xi))]) rfl) ?_
      show own_Go p e below _ (s₁.setTop (mkF m 54 #[.val (.ref bx), .val (.int xi), .val (.int xat), .val (.int xn), .val (.int y0), .val (.int y1), .val (.int y2), .val (.int ye), .val (.int (xi - xat)), .val (.int (ye + xi))] []))
      exact J1 _ _ (by first | with_reducible rfl | simp only [if_pos hc7_2] | rfl) ⟨_, X0, N0, e0⟩
    ·
      skip
      refine own_by (fun _ => XS.ifNo X0.here hx rfl (hb hby own_d8_7) rfl ((if0 _ _).trans (flt hc7_2).1)) ?_
      show own_Go p e below _ (s₁.setTop (mkF m 10 #[.val (.ref bx), .val (.int xi), .val (.int xat), .val (.int xn), .val (.int y0), .val (.int y1), .val (.int y2), .val (.int ye), .val (.int (xi - xat)), .unset] []))
      refine own_by (fun _ => XS.iload X0.here hx rfl (hb hby own_d8_10) rfl) ?_
      show own_Go p e below _ (s₁.setTop (mkF m 12 #[.val (.ref bx), .val (.int xi), .val (.int xat), .val (.int xn), .val (.int y0), .val (.int y1), .val (.int y2), .val (.int ye), .val (.int (xi - xat)), .unset] [(.int (xi - xat))]))
      refine own_by (fun _ => XS.iloadN X0.here hx rfl (hb hby own_d8_12) rfl) ?_
      show own_Go p e below _ (s₁.setTop (mkF m 13 #[.val (.ref bx), .val (.int xi), .val (.int xat), .val (.int xn), .val (.int y0), .val (.int y1), .val (.int y2), .val (.int ye), .val (.int (xi - xat)), .unset] [(.int xn), (.int (xi - xat))]))
      by_cases hc13_3 : (xi - xat) < xn
      ·
        skip
        refine own_by (fun _ => XS.icmpNo X0.here hx rfl (hb hby own_d8_13) rfl (tlt hc13_3).2.1) ?_
        show own_Go p e below _ (s₁.setTop (mkF m 16 #[.val (.ref bx), .val (.int xi), .val (.int xat), .val (.int xn), .val (.int y0), .val (.int y1), .val (.int y2), .val (.int ye), .val (.int (xi - xat)), .unset] []))
        refine own_by (fun _ => XS.iload X0.here hx rfl (hb hby own_d8_16) rfl) ?_
        show own_Go p e below _ (s₁.setTop (mkF m 18 #[.val (.ref bx), .val (.int xi), .val (.int xat), .val (.int xn), .val (.int y0), .val (.int y1), .val (.int y2), .val (.int ye), .val (.int (xi - xat)), .unset] [(.int (xi - xat))]))
        by_cases hc18_4 : (xi - xat) = (0 : Int32)
        ·
          skip
          refine own_by (fun _ => XS.ifNo X0.here hx rfl (hb hby own_d8_18) rfl ((if0 _ _).trans (teq hc18_4).2)) ?_
          show own_Go p e below _ (s₁.setTop (mkF m 21 #[.val (.ref bx), .val (.int xi), .val (.int xat), .val (.int xn), .val (.int y0), .val (.int y1), .val (.int y2), .val (.int ye), .val (.int (xi - xat)), .unset] []))
          refine own_by (fun _ => XS.iload X0.here hx rfl (hb hby own_d8_21) rfl) ?_
          show own_Go p e below _ (s₁.setTop (mkF m 23 #[.val (.ref bx), .val (.int xi), .val (.int xat), .val (.int xn), .val (.int y0), .val (.int y1), .val (.int y2), .val (.int ye), .val (.int (xi - xat)), .unset] [(.int y0)]))
          refine own_by (fun _ => XS.istore X0.here hx rfl (hb hby own_d8_23) rfl (l' := #[.val (.ref bx), .val (.int xi), .val (.int xat), .val (.int xn), .val (.int y0), .val (.int y1), .val (.int y2), .val (.int ye), .val (.int (xi - xat)), .val (.int y0)]) rfl) ?_
          show own_Go p e below _ (s₁.setTop (mkF m 25 #[.val (.ref bx), .val (.int xi), .val (.int xat), .val (.int xn), .val (.int y0), .val (.int y1), .val (.int y2), .val (.int ye), .val (.int (xi - xat)), .val (.int y0)] []))
          refine own_by (fun _ => XS.goto X0.here hx rfl (pc0 := 25) (pc' := 54) rfl (hb hby own_d8_25) (by decide) (by decide)) ?_
          show own_Go p e below _ (s₁.setTop (mkF m 54 #[.val (.ref bx), .val (.int xi), .val (.int xat), .val (.int xn), .val (.int y0), .val (.int y1), .val (.int y2), .val (.int ye), .val (.int (xi - xat)), .val (.int y0)] []))
          exact J1 _ _ (by first | with_reducible rfl | simp only [if_neg hc7_2, if_pos hc13_3, if_pos hc18_4] | rfl) ⟨_, X0, N0, e0⟩
        ·
          skip
          refine own_by (fun _ => XS.ifYes X0.here hx rfl (pc0 := 18) (pc' := 28) rfl (hb hby own_d8_18) rfl ((if0 _ _).trans (feq hc18_4).2) (by decide) (by decide)) ?_
          show own_Go p e below _ (s₁.setTop (mkF m 28 #[.val (.ref bx), .val (.int xi), .val (.int xat), .val (.int xn), .val (.int y0), .val (.int y1), .val (.int y2), .val (.int ye), .val (.int (xi - xat)), .unset] []))
          refine own_by (fun _ => XS.iload X0.here hx rfl (hb hby own_d8_28) rfl) ?_
          show own_Go p e below _ (s₁.setTop (mkF m 30 #[.val (.ref bx), .val (.int xi), .val (.int xat), .val (.int xn), .val (.int y0), .val (.int y1), .val (.int y2), .val (.int ye), .val (.int (xi - xat)), .unset] [(.int (xi - xat))]))
          refine own_by (fun _ => XS.iconst X0.here hx rfl (hb hby own_d8_30)) ?_
          show own_Go p e below _ (s₁.setTop (mkF m 31 #[.val (.ref bx), .val (.int xi), .val (.int xat), .val (.int xn), .val (.int y0), .val (.int y1), .val (.int y2), .val (.int ye), .val (.int (xi - xat)), .unset] [(.int (1 : Int32)), (.int (xi - xat))]))
          by_cases hc31_5 : (xi - xat) = (1 : Int32)
          ·
            skip
            refine own_by (fun _ => XS.icmpNo X0.here hx rfl (hb hby own_d8_31) rfl (teq hc31_5).2) ?_
            show own_Go p e below _ (s₁.setTop (mkF m 34 #[.val (.ref bx), .val (.int xi), .val (.int xat), .val (.int xn), .val (.int y0), .val (.int y1), .val (.int y2), .val (.int ye), .val (.int (xi - xat)), .unset] []))
            refine own_by (fun _ => XS.iload X0.here hx rfl (hb hby own_d8_34) rfl) ?_
            show own_Go p e below _ (s₁.setTop (mkF m 36 #[.val (.ref bx), .val (.int xi), .val (.int xat), .val (.int xn), .val (.int y0), .val (.int y1), .val (.int y2), .val (.int ye), .val (.int (xi - xat)), .unset] [(.int y1)]))
            refine own_by (fun _ => XS.istore X0.here hx rfl (hb hby own_d8_36) rfl (l' := #[.val (.ref bx), .val (.int xi), .val (.int xat), .val (.int xn), .val (.int y0), .val (.int y1), .val (.int y2), .val (.int ye), .val (.int (xi - xat)), .val (.int y1)]) rfl) ?_
            show own_Go p e below _ (s₁.setTop (mkF m 38 #[.val (.ref bx), .val (.int xi), .val (.int xat), .val (.int xn), .val (.int y0), .val (.int y1), .val (.int y2), .val (.int ye), .val (.int (xi - xat)), .val (.int y1)] []))
            refine own_by (fun _ => XS.goto X0.here hx rfl (pc0 := 38) (pc' := 54) rfl (hb hby own_d8_38) (by decide) (by decide)) ?_
            show own_Go p e below _ (s₁.setTop (mkF m 54 #[.val (.ref bx), .val (.int xi), .val (.int xat), .val (.int xn), .val (.int y0), .val (.int y1), .val (.int y2), .val (.int ye), .val (.int (xi - xat)), .val (.int y1)] []))
            exact J1 _ _ (by first | with_reducible rfl | simp only [if_neg hc7_2, if_pos hc13_3, if_neg hc18_4, if_pos hc31_5] | rfl) ⟨_, X0, N0, e0⟩
          ·
            skip
            refine own_by (fun _ => XS.icmpYes X0.here hx rfl (pc0 := 31) (pc' := 41) rfl (hb hby own_d8_31) rfl (feq hc31_5).2 (by decide) (by decide)) ?_
            show own_Go p e below _ (s₁.setTop (mkF m 41 #[.val (.ref bx), .val (.int xi), .val (.int xat), .val (.int xn), .val (.int y0), .val (.int y1), .val (.int y2), .val (.int ye), .val (.int (xi - xat)), .unset] []))
            refine own_by (fun _ => XS.iload X0.here hx rfl (hb hby own_d8_41) rfl) ?_
            show own_Go p e below _ (s₁.setTop (mkF m 43 #[.val (.ref bx), .val (.int xi), .val (.int xat), .val (.int xn), .val (.int y0), .val (.int y1), .val (.int y2), .val (.int ye), .val (.int (xi - xat)), .unset] [(.int y2)]))
            refine own_by (fun _ => XS.istore X0.here hx rfl (hb hby own_d8_43) rfl (l' := #[.val (.ref bx), .val (.int xi), .val (.int xat), .val (.int xn), .val (.int y0), .val (.int y1), .val (.int y2), .val (.int ye), .val (.int (xi - xat)), .val (.int y2)]) rfl) ?_
            show own_Go p e below _ (s₁.setTop (mkF m 45 #[.val (.ref bx), .val (.int xi), .val (.int xat), .val (.int xn), .val (.int y0), .val (.int y1), .val (.int y2), .val (.int ye), .val (.int (xi - xat)), .val (.int y2)] []))
            refine own_by (fun _ => XS.goto X0.here hx rfl (pc0 := 45) (pc' := 54) rfl (hb hby own_d8_45) (by decide) (by decide)) ?_
            show own_Go p e below _ (s₁.setTop (mkF m 54 #[.val (.ref bx), .val (.int xi), .val (.int xat), .val (.int xn), .val (.int y0), .val (.int y1), .val (.int y2), .val (.int ye), .val (.int (xi - xat)), .val (.int y2)] []))
            exact J1 _ _ (by first | with_reducible rfl | simp only [if_neg hc7_2, if_pos hc13_3, if_neg hc18_4, if_neg hc31_5] | rfl) ⟨_, X0, N0, e0⟩
      ·
        skip
        refine own_by (fun _ => XS.icmpYes X0.here hx rfl (pc0 := 13) (pc' := 48) rfl (hb hby own_d8_13) rfl (flt hc13_3).2.1 (by decide) (by decide)) ?_
        show own_Go p e below _ (s₁.setTop (mkF m 48 #[.val (.ref bx), .val (.int xi), .val (.int xat), .val (.int xn), .val (.int y0), .val (.int y1), .val (.int y2), .val (.int ye), .val (.int (xi - xat)), .unset] []))
        refine own_by (fun _ => XS.iload X0.here hx rfl (hb hby own_d8_48) rfl) ?_
        show own_Go p e below _ (s₁.setTop (mkF m 50 #[.val (.ref bx), .val (.int xi), .val (.int xat), .val (.int xn), .val (.int y0), .val (.int y1), .val (.int y2), .val (.int ye), .val (.int (xi - xat)), .unset] [(.int ye)]))
        refine own_by (fun _ => XS.iloadN X0.here hx rfl (hb hby own_d8_50) rfl) ?_
        show own_Go p e below _ (s₁.setTop (mkF m 51 #[.val (.ref bx), .val (.int xi), .val (.int xat), .val (.int xn), .val (.int y0), .val (.int y1), .val (.int y2), .val (.int ye), .val (.int (xi - xat)), .unset] [(.int xi), (.int ye)]))
        refine own_by (fun _ => XS.iadd X0.here hx rfl (hb hby own_d8_51) rfl) ?_
        show own_Go p e below _ (s₁.setTop (mkF m 52 #[.val (.ref bx), .val (.int xi), .val (.int xat), .val (.int xn), .val (.int y0), .val (.int y1), .val (.int y2), .val (.int ye), .val (.int (xi - xat)), .unset] [(.int (ye + xi))]))
        refine own_by (fun _ => XS.istore X0.here hx rfl (hb hby own_d8_52) rfl (l' := #[.val (.ref bx), .val (.int xi), .val (.int xat), .val (.int xn), .val (.int y0), .val (.int y1), .val (.int y2), .val (.int ye), .val (.int (xi - xat)), .val (.int (ye + xi))]) rfl) ?_
        show own_Go p e below _ (s₁.setTop (mkF m 54 #[.val (.ref bx), .val (.int xi), .val (.int xat), .val (.int xn), .val (.int y0), .val (.int y1), .val (.int y2), .val (.int ye), .val (.int (xi - xat)), .val (.int (ye + xi))] []))
        exact J1 _ _ (by first | with_reducible rfl | simp only [if_neg hc7_2, if_neg hc13_3] | rfl) ⟨_, X0, N0, e0⟩
  intro T1 v1_9 hv1_9 ⟨locs1, X1, N1, e1⟩
  show own_Go p e below _ (T1.setTop (mkF m 54 #[.val (.ref bx), .val (.int xi), .val (.int xat), .val (.int xn), .val (.int y0), .val (.int y1), .val (.int y2), .val (.int ye), .val (.int (xi - xat)), .val (.int v1_9)] []))
  refine own_by (fun _ => XS.aloadN X1.here hx rfl (hb hby own_d8_54) rfl rfl) ?_
  show own_Go p e below _ (T1.setTop (mkF m 55 #[.val (.ref bx), .val (.int xi), .val (.int xat), .val (.int xn), .val (.int y0), .val (.int y1), .val (.int y2), .val (.int ye), .val (.int (xi - xat)), .val (.int v1_9)] [(.ref bx)]))
  refine own_by (fun _ => XS.iloadN X1.here hx rfl (hb hby own_d8_55) rfl) ?_
  show own_Go p e below _ (T1.setTop (mkF m 56 #[.val (.ref bx), .val (.int xi), .val (.int xat), .val (.int xn), .val (.int y0), .val (.int y1), .val (.int y2), .val (.int ye), .val (.int (xi - xat)), .val (.int v1_9)] [(.int xi), (.ref bx)]))
  obtain ⟨cl6, ar6, q6, sz6, nn6, hs6, gs6⟩ := id pf0
  have hin6 : ¬ (xi < 0 ∨ cl6.slots.size ≤ (xi).toNatClampNeg) := inb_of sz6 ⟨hlo, hhi⟩
  refine own_by (X1.iaload hx (j := xi) (v := (.int (own_g bs xi))) (by rw [e1]; exact ar6.1) (State.isArrayOf_alike hZ.alike ar6.2.1) ar6.2.2 hin6 (hs6.at hin6 (own_g_eq bs xi)) (g := (mkF m 56 #[.val (.ref bx), .val (.int xi), .val (.int xat), .val (.int xn), .val (.int y0), .val (.int y1), .val (.int y2), .val (.int ye), .val (.int (xi - xat)), .val (.int v1_9)] [(.int xi), (.ref bx)])) rfl rfl (hb hby own_d8_56)) ?_
  show own_Go p e below _ (T1.setTop (mkF m 57 #[.val (.ref bx), .val (.int xi), .val (.int xat), .val (.int xn), .val (.int y0), .val (.int y1), .val (.int y2), .val (.int ye), .val (.int (xi - xat)), .val (.int v1_9)] [(.int (own_g bs xi))]))
  refine own_by (fun _ => XS.iload X1.here hx rfl (hb hby own_d8_57) rfl) ?_
  show own_Go p e below _ (T1.setTop (mkF m 59 #[.val (.ref bx), .val (.int xi), .val (.int xat), .val (.int xn), .val (.int y0), .val (.int y1), .val (.int y2), .val (.int ye), .val (.int (xi - xat)), .val (.int v1_9)] [(.int v1_9), (.int (own_g bs xi))]))
  suffices J7 : ∀ (T' : State) (v7_t0 : Int32), v7_t0 = (if (own_g bs xi) = v1_9 then (1 : Int32) else (0 : Int32)) → own_At p l e ({ frames := 0, cells := 0, slots := 0, locals := 0 } : Room) s m #[(.ref bx), (.int xi), (.int xat), (.int xn), (.int y0), (.int y1), (.int y2), (.int ye)] below meth c n0 T' h0 0 0 → own_Go p e below (own_End s below (own_Q8 Z bx xi xat xn y0 y1 y2 ye bk bs h0 n0) ({ frames := 0, cells := 0, slots := 0, locals := 0 } : Room).cells ({ frames := 0, cells := 0, slots := 0, locals := 0 } : Room).slots) (T'.setTop (mkF m 67 #[.val (.ref bx), .val (.int xi), .val (.int xat), .val (.int xn), .val (.int y0), .val (.int y1), .val (.int y2), .val (.int ye), .val (.int (xi - xat)), .val (.int v1_9)] [(.int v7_t0)])) by
    by_cases hc59_8 : (own_g bs xi) = v1_9
    ·
      skip
      refine own_by (fun _ => XS.icmpNo X1.here hx rfl (hb hby own_d8_59) rfl (teq hc59_8).2) ?_
      show own_Go p e below _ (T1.setTop (mkF m 62 #[.val (.ref bx), .val (.int xi), .val (.int xat), .val (.int xn), .val (.int y0), .val (.int y1), .val (.int y2), .val (.int ye), .val (.int (xi - xat)), .val (.int v1_9)] []))
      refine own_by (fun _ => XS.iconst X1.here hx rfl (hb hby own_d8_62)) ?_
      show own_Go p e below _ (T1.setTop (mkF m 63 #[.val (.ref bx), .val (.int xi), .val (.int xat), .val (.int xn), .val (.int y0), .val (.int y1), .val (.int y2), .val (.int ye), .val (.int (xi - xat)), .val (.int v1_9)] [(.int (1 : Int32))]))
      refine own_by (fun _ => XS.goto X1.here hx rfl (pc0 := 63) (pc' := 67) rfl (hb hby own_d8_63) (by decide) (by decide)) ?_
      show own_Go p e below _ (T1.setTop (mkF m 67 #[.val (.ref bx), .val (.int xi), .val (.int xat), .val (.int xn), .val (.int y0), .val (.int y1), .val (.int y2), .val (.int ye), .val (.int (xi - xat)), .val (.int v1_9)] [(.int (1 : Int32))]))
      exact J7 _ _ (by first | with_reducible rfl | simp only [if_pos hc59_8] | rfl) ⟨_, X1, N1, e1⟩
    ·
      skip
      refine own_by (fun _ => XS.icmpYes X1.here hx rfl (pc0 := 59) (pc' := 66) rfl (hb hby own_d8_59) rfl (feq hc59_8).2 (by decide) (by decide)) ?_
      show own_Go p e below _ (T1.setTop (mkF m 66 #[.val (.ref bx), .val (.int xi), .val (.int xat), .val (.int xn), .val (.int y0), .val (.int y1), .val (.int y2), .val (.int ye), .val (.int (xi - xat)), .val (.int v1_9)] []))
      refine own_by (fun _ => XS.iconst X1.here hx rfl (hb hby own_d8_66)) ?_
      show own_Go p e below _ (T1.setTop (mkF m 67 #[.val (.ref bx), .val (.int xi), .val (.int xat), .val (.int xn), .val (.int y0), .val (.int y1), .val (.int y2), .val (.int ye), .val (.int (xi - xat)), .val (.int v1_9)] [(.int (0 : Int32))]))
      exact J7 _ _ (by first | with_reducible rfl | simp only [if_neg hc59_8] | rfl) ⟨_, X1, N1, e1⟩
  intro T7 v7_t0 hv7_t0 ⟨locs7, X7, N7, e7⟩
  show own_Go p e below _ (T7.setTop (mkF m 67 #[.val (.ref bx), .val (.int xi), .val (.int xat), .val (.int xn), .val (.int y0), .val (.int y1), .val (.int y2), .val (.int ye), .val (.int (xi - xat)), .val (.int v1_9)] [(.int v7_t0)]))
  exact own_retZ X7 hx hlk e7 (by rw [hv7_t0]; (repeat' split) <;> first | exact Or.inl rfl | exact Or.inr rfl) hret (hb hby own_d8_67) (by decide) (by decide) ⟨(by subst hv7_t0; subst hv1_9; first | with_reducible rfl | simp only [own_slot, if_neg hlo, if_pos hhi] | rfl), N7, rfl⟩


theorem own_sl0 (xe w i : Int32) {ls : List Int32} (h : ls = [xe, (xe + (1 : Int32)), (xe + (2 : Int32)), (xe + (3 : Int32)), (xe + (4 : Int32)), (xe + (5 : Int32)), (xe + (6 : Int32)), (xe + (7 : Int32))]) (ha : (w = (0 : Int32) ∨ w = (1 : Int32) ∨ w = (2 : Int32) ∨ w = (3 : Int32) ∨ w = (4 : Int32) ∨ w = (5 : Int32) ∨ w = (6 : Int32) ∨ w = (7 : Int32) ∨ w = (8 : Int32))) (hi : (i = (0 : Int32) ∨ i = (1 : Int32) ∨ i = (2 : Int32) ∨ i = (3 : Int32) ∨ i = (4 : Int32) ∨ i = (5 : Int32) ∨ i = (6 : Int32) ∨ i = (7 : Int32))) : own_slot i w 0 0 0 0 xe ls = 1 := by
  subst h
  rcases ha with rfl | rfl | rfl | rfl | rfl | rfl | rfl | rfl | rfl <;> rcases hi with rfl | rfl | rfl | rfl | rfl | rfl | rfl | rfl <;> simp [own_slot, own_g]
theorem own_sl1 (xe v0 w i : Int32) {ls : List Int32} (h : ls = ([xe, (xe + (1 : Int32)), (xe + (2 : Int32)), (xe + (3 : Int32)), (xe + (4 : Int32)), (xe + (5 : Int32)), (xe + (6 : Int32)), (xe + (7 : Int32))].set ((w + (0 : Int32))).toNatClampNeg v0)) (ha : (w = (0 : Int32) ∨ w = (1 : Int32) ∨ w = (2 : Int32) ∨ w = (3 : Int32) ∨ w = (4 : Int32) ∨ w = (5 : Int32) ∨ w = (6 : Int32) ∨ w = (7 : Int32))) (hi : (i = (0 : Int32) ∨ i = (1 : Int32) ∨ i = (2 : Int32) ∨ i = (3 : Int32) ∨ i = (4 : Int32) ∨ i = (5 : Int32) ∨ i = (6 : Int32) ∨ i = (7 : Int32))) : own_slot i w 1 v0 0 0 xe ls = 1 := by
  subst h
  rcases ha with rfl | rfl | rfl | rfl | rfl | rfl | rfl | rfl <;> rcases hi with rfl | rfl | rfl | rfl | rfl | rfl | rfl | rfl <;> simp [own_slot, own_g]
theorem own_sl2c (xe v0 v1 w i : Int32) (ha : (w = (0 : Int32) ∨ w = (1 : Int32) ∨ w = (2 : Int32) ∨ w = (3 : Int32) ∨ w = (4 : Int32) ∨ w = (5 : Int32) ∨ w = (6 : Int32))) (hi : (i = (0 : Int32) ∨ i = (1 : Int32) ∨ i = (2 : Int32) ∨ i = (3 : Int32) ∨ i = (4 : Int32) ∨ i = (5 : Int32) ∨ i = (6 : Int32) ∨ i = (7 : Int32))) : own_slot i w 2 v0 v1 0 xe (([xe, (xe + (1 : Int32)), (xe + (2 : Int32)), (xe + (3 : Int32)), (xe + (4 : Int32)), (xe + (5 : Int32)), (xe + (6 : Int32)), (xe + (7 : Int32))].set ((w + (0 : Int32))).toNatClampNeg v0).set ((w + (1 : Int32))).toNatClampNeg v1) = 1 := by
  rcases ha with rfl | rfl | rfl | rfl | rfl | rfl | rfl <;> rcases hi with rfl | rfl | rfl | rfl | rfl | rfl | rfl | rfl <;> simp [own_slot, own_g]
theorem own_sl3c (xe v0 v1 v2 w i : Int32) (ha : (w = (0 : Int32) ∨ w = (1 : Int32) ∨ w = (2 : Int32) ∨ w = (3 : Int32) ∨ w = (4 : Int32) ∨ w = (5 : Int32))) (hi : (i = (0 : Int32) ∨ i = (1 : Int32) ∨ i = (2 : Int32) ∨ i = (3 : Int32) ∨ i = (4 : Int32) ∨ i = (5 : Int32) ∨ i = (6 : Int32) ∨ i = (7 : Int32))) : own_slot i w 3 v0 v1 v2 xe ((([xe, (xe + (1 : Int32)), (xe + (2 : Int32)), (xe + (3 : Int32)), (xe + (4 : Int32)), (xe + (5 : Int32)), (xe + (6 : Int32)), (xe + (7 : Int32))].set ((w + (0 : Int32))).toNatClampNeg v0).set ((w + (1 : Int32))).toNatClampNeg v1).set ((w + (2 : Int32))).toNatClampNeg v2) = 1 := by
  rcases ha with rfl | rfl | rfl | rfl | rfl | rfl <;> rcases hi with rfl | rfl | rfl | rfl | rfl | rfl | rfl | rfl <;> simp [own_slot, own_g]
theorem own_sl2 (xe w i : Int32) {a b : Int32} {ls : List Int32} (h : ls = (([xe, (xe + (1 : Int32)), (xe + (2 : Int32)), (xe + (3 : Int32)), (xe + (4 : Int32)), (xe + (5 : Int32)), (xe + (6 : Int32)), (xe + (7 : Int32))].set ((w + (0 : Int32))).toNatClampNeg (if b < a then b else a)).set ((w + (1 : Int32))).toNatClampNeg (if b < a then a else b))) (ha : (w = (0 : Int32) ∨ w = (1 : Int32) ∨ w = (2 : Int32) ∨ w = (3 : Int32) ∨ w = (4 : Int32) ∨ w = (5 : Int32) ∨ w = (6 : Int32))) (hi : (i = (0 : Int32) ∨ i = (1 : Int32) ∨ i = (2 : Int32) ∨ i = (3 : Int32) ∨ i = (4 : Int32) ∨ i = (5 : Int32) ∨ i = (6 : Int32) ∨ i = (7 : Int32))) : own_slot i w 2 (own_min a b) (own_max a b) 0 xe ls = 1 := by
  have e0 : (if b < a then b else a) = own_min a b := by simp only [own_min]
  have e1 : (if b < a then a else b) = own_max a b := by
    simp only [own_max]
    by_cases q : b < a
    · have : ¬ (a < b) := by rw [Int32.lt_iff_toInt_lt] at *; omega
      rw [if_pos q, if_neg this]
    · rw [if_neg q]
      by_cases q2 : a < b
      · rw [if_pos q2]
      · rw [if_neg q2]; rw [Int32.lt_iff_toInt_lt] at *; exact Int32.toInt_inj.mp (by omega)
  rw [h, e0, e1]
  exact own_sl2c xe _ _ w i ha hi
theorem own_x3 (a b c : Int32) : ((((a ^^^ b) ^^^ c) ^^^ a) ^^^ b) = c ∧ ((((a ^^^ b) ^^^ c) ^^^ a) ^^^ c) = b ∧ ((((a ^^^ b) ^^^ c) ^^^ b) ^^^ a) = c ∧ ((((a ^^^ b) ^^^ c) ^^^ b) ^^^ c) = a ∧ ((((a ^^^ b) ^^^ c) ^^^ c) ^^^ a) = b ∧ ((((a ^^^ b) ^^^ c) ^^^ c) ^^^ b) = a := by
  refine ⟨?_, ?_, ?_, ?_, ?_, ?_⟩ <;> (apply Int32.toBitVec_inj.mp; apply BitVec.eq_of_getLsbD_eq; intro i hi; simp only [Int32.toBitVec_xor, BitVec.getLsbD_xor]; cases a.toBitVec.getLsbD i <;> cases b.toBitVec.getLsbD i <;> cases c.toBitVec.getLsbD i <;> rfl)
theorem own_sl3 (xe w i : Int32) {a b c lo mid hi : Int32} {ls : List Int32} (h : ls = ((([xe, (xe + (1 : Int32)), (xe + (2 : Int32)), (xe + (3 : Int32)), (xe + (4 : Int32)), (xe + (5 : Int32)), (xe + (6 : Int32)), (xe + (7 : Int32))].set ((w + (0 : Int32))).toNatClampNeg (if c < (if b < a then a else b) then (if c < (if b < a then b else a) then c else (if b < a then b else a)) else (if b < a then b else a))).set ((w + (1 : Int32))).toNatClampNeg (if c < (if b < a then a else b) then (if c < (if b < a then b else a) then (if b < a then b else a) else c) else (if b < a then a else b))).set ((w + (2 : Int32))).toNatClampNeg (if c < (if b < a then a else b) then (if b < a then a else b) else c))) (h0 : lo = own_min (own_min a b) c) (h1 : mid = ((((a ^^^ b) ^^^ c) ^^^ lo) ^^^ hi)) (h2 : hi = own_max (own_max a b) c) (ha : (w = (0 : Int32) ∨ w = (1 : Int32) ∨ w = (2 : Int32) ∨ w = (3 : Int32) ∨ w = (4 : Int32) ∨ w = (5 : Int32))) (hj : (i = (0 : Int32) ∨ i = (1 : Int32) ∨ i = (2 : Int32) ∨ i = (3 : Int32) ∨ i = (4 : Int32) ∨ i = (5 : Int32) ∨ i = (6 : Int32) ∨ i = (7 : Int32))) : own_slot i w 3 lo mid hi xe ls = 1 := by
  have il : ∀ u v : Int32, u < v ↔ u.toInt < v.toInt := fun u v => Int32.lt_iff_toInt_lt
  have k0 : (if c < (if b < a then a else b) then (if c < (if b < a then b else a) then c else (if b < a then b else a)) else (if b < a then b else a)) = lo := by
    subst h0
    simp only [own_min]
    (repeat' split) <;> first | rfl | (apply Int32.toInt_inj.mp; simp only [il] at *; omega)
  have k2 : (if c < (if b < a then a else b) then (if b < a then a else b) else c) = hi := by
    subst h2
    simp only [own_max]
    (repeat' split) <;> first | rfl | (apply Int32.toInt_inj.mp; simp only [il] at *; omega)
  have k1 : (if c < (if b < a then a else b) then (if c < (if b < a then b else a) then (if b < a then b else a) else c) else (if b < a then a else b)) = mid := by
    obtain ⟨x1, x2, x3, x4, x5, x6⟩ := own_x3 a b c
    rw [h1, ← k0, ← k2]
    by_cases q1 : b < a
    · simp only [if_pos q1]
      (repeat' split) <;> first | exact x1.symm | exact x2.symm | exact x3.symm | exact x4.symm | exact x5.symm | exact x6.symm
    · simp only [if_neg q1]
      (repeat' split) <;> first | exact x1.symm | exact x2.symm | exact x3.symm | exact x4.symm | exact x5.symm | exact x6.symm
  rw [h, k0, k1, k2]
  exact own_sl3c xe _ _ _ w i ha hj

theorem own_pn0 : plainName "com/example/bucketsplit/bucketsplit/core/PageTakeAllPinLaw" = true := by first | (simp [plainName, overriddenIn]; done) | decide +kernel
theorem own_ef0 (m : MethodId) (x0 : Int32) (x1 : Int32) (x2 : Int32) (x3 : Int32) (x4 : Int32) (x5 : Int32) : entryFrame m #[(.int x0), (.int x1), (.int x2), (.int x3), (.int x4), (.int x5)] maxLocals = mkF m 0 #[.val (.int x0), .val (.int x1), .val (.int x2), .val (.int x3), .val (.int x4), .val (.int x5), .unset, .unset, .unset, .unset, .unset, .unset, .unset, .unset, .unset, .unset, .unset] [] := by first | (simp [entryFrame, mkF, argsToLocals, Value.category, maxLocals]; done) | rfl
def own_Q0 (Z : State) (xa : Int32) (xb : Int32) (xc : Int32) (xd : Int32) (xe : Int32) (xf : Int32) (h0 : Heap) (n0 : Nat) (v : Option Value) (h : Heap) (L : List Loc) : Prop := v = some (.int (1 : Int32)) ∧ Fr n0 L
theorem own_rm0 (l : Launch) (Z : State) (a0 : Array Value) (hw : ∀ d ∈ tables_1, d.before a0 Z = true) (ws : List Jvm.Cond) (xa : Int32) (xb : Int32) (xc : Int32) (xd : Int32) (xe : Int32) (xf : Int32) (h0 : Heap) (n0 : Nat) (Z0 : n0 ≤ h0.size) :
    MetFree l x (head1 (Jvm.Cond.code x code maxLocals ret :: ws) room_1) (fun a U => a = #[(.int xa), (.int xb), (.int xc), (.int xd), (.int xe), (.int xf)] ∧ Z.Warmed39 U.vm ∧ U.heap = h0) (fun _ _ _ _ _ => True) (fun _ U o U' => ∃ v L, o = .returned v ∧ own_Q0 Z xa xb xc xd xe xf h0 n0 v U'.heap L ∧ FrameEnd U o U' L room_1.cells room_1.slots) := by
  refine MetFree.of_bodySF (plainFor_of_name own_pn0) hisR ?_
  intro p e s m args below meth c s₁ Bd hml0 hP hK
  obtain ⟨rfl, hZ, hh⟩ := hP
  have hx := Bd.exec
  have hby := Bd.bytes
  have hlk := Bd.notSynchronized
  have hret := Bd.returns
  have hml : c.maxLocals = 17 := hml0
  have hown : s.vm.findClass "com/example/bucketsplit/bucketsplit/core/PageTakeAllPinLaw" = some m.cls := findClass_of_methodNamed Bd.named
  have hnm := (name_of_methodNamed Bd.named Bd.method).1
  have X0 : Stand p l e room_1 s m #[(.int xa), (.int xb), (.int xc), (.int xd), (.int xe), (.int xf)] below meth c s₁ [] 0 0 := Stand.of_body Bd
  have e0 : s₁.heap = h0 := by rw [← hh, Bd.state]; rfl
  have N0 := Fr.nil n0
  suffices key : own_Go p e below (own_End s below (own_Q0 Z xa xb xc xd xe xf h0 n0) room_1.cells room_1.slots) (s₁.setTop (mkF m 0 #[.val (.int xa), .val (.int xb), .val (.int xc), .val (.int xd), .val (.int xe), .val (.int xf), .unset, .unset, .unset, .unset, .unset, .unset, .unset, .unset, .unset, .unset, .unset] [])) by
    obtain ⟨t, k1, k2, v, L, k3, k4, k5⟩ := key
    exact ⟨t, _, castTop (own_ef0 m xa xb xc xd xe xf) k1, k2, k3, v, L, rfl, k4, k5⟩
  show own_Go p e below _ (s₁.setTop (mkF m 0 #[.val (.int xa), .val (.int xb), .val (.int xc), .val (.int xd), .val (.int xe), .val (.int xf), .unset, .unset, .unset, .unset, .unset, .unset, .unset, .unset, .unset, .unset, .unset] []))
  refine own_by (fun _ => XS.iload X0.here hx rfl (hb hby at_0) rfl) ?_
  show own_Go p e below _ (s₁.setTop (mkF m 2 #[.val (.int xa), .val (.int xb), .val (.int xc), .val (.int xd), .val (.int xe), .val (.int xf), .unset, .unset, .unset, .unset, .unset, .unset, .unset, .unset, .unset, .unset, .unset] [(.int xf)]))
  refine own_by (fun _ => XS.iconst X0.here hx rfl (hb hby at_2)) ?_
  show own_Go p e below _ (s₁.setTop (mkF m 3 #[.val (.int xa), .val (.int xb), .val (.int xc), .val (.int xd), .val (.int xe), .val (.int xf), .unset, .unset, .unset, .unset, .unset, .unset, .unset, .unset, .unset, .unset, .unset] [(.int (3 : Int32)), (.int xf)]))
  refine own_by (fun _ => XS.iand X0.here hx rfl (hb hby at_3) rfl) ?_
  show own_Go p e below _ (s₁.setTop (mkF m 4 #[.val (.int xa), .val (.int xb), .val (.int xc), .val (.int xd), .val (.int xe), .val (.int xf), .unset, .unset, .unset, .unset, .unset, .unset, .unset, .unset, .unset, .unset, .unset] [(.int (xf &&& (3 : Int32)))]))
  rcases own_and3 xf with hs1 | hs1 | hs1 | hs1
  ·
    skip
    rw [hs1]
    show own_Go p e below _ (s₁.setTop (mkF m 4 #[.val (.int xa), .val (.int xb), .val (.int xc), .val (.int xd), .val (.int xe), .val (.int xf), .unset, .unset, .unset, .unset, .unset, .unset, .unset, .unset, .unset, .unset, .unset] [(.int (0 : Int32))]))
    refine own_by (fun _ => XS.istore X0.here hx rfl (hb hby at_4) rfl (l' := #[.val (.int xa), .val (.int xb), .val (.int xc), .val (.int xd), .val (.int xe), .val (.int xf), .val (.int (0 : Int32)), .unset, .unset, .unset, .unset, .unset, .unset, .unset, .unset, .unset, .unset]) rfl) ?_
    show own_Go p e below _ (s₁.setTop (mkF m 6 #[.val (.int xa), .val (.int xb), .val (.int xc), .val (.int xd), .val (.int xe), .val (.int xf), .val (.int (0 : Int32)), .unset, .unset, .unset, .unset, .unset, .unset, .unset, .unset, .unset, .unset] []))
    refine own_by (fun _ => XS.iloadN X0.here hx rfl (hb hby at_6) rfl) ?_
    show own_Go p e below _ (s₁.setTop (mkF m 7 #[.val (.int xa), .val (.int xb), .val (.int xc), .val (.int xd), .val (.int xe), .val (.int xf), .val (.int (0 : Int32)), .unset, .unset, .unset, .unset, .unset, .unset, .unset, .unset, .unset, .unset] [(.int xa)]))
    refine own_by (fun _ => XS.iloadN X0.here hx rfl (hb hby at_7) rfl) ?_
    show own_Go p e below _ (s₁.setTop (mkF m 8 #[.val (.int xa), .val (.int xb), .val (.int xc), .val (.int xd), .val (.int xe), .val (.int xf), .val (.int (0 : Int32)), .unset, .unset, .unset, .unset, .unset, .unset, .unset, .unset, .unset, .unset] [(.int xb), (.int xa)]))
    refine own_by (fun _ => XS.iconst X0.here hx rfl (hb hby at_8)) ?_
    show own_Go p e below _ (s₁.setTop (mkF m 9 #[.val (.int xa), .val (.int xb), .val (.int xc), .val (.int xd), .val (.int xe), .val (.int xf), .val (.int (0 : Int32)), .unset, .unset, .unset, .unset, .unset, .unset, .unset, .unset, .unset, .unset] [(.int (2 : Int32)), (.int xb), (.int xa)]))
    refine own_by (fun _ => XS.ishl X0.here hx rfl (hb hby at_9) rfl) ?_
    show own_Go p e below _ (s₁.setTop (mkF m 10 #[.val (.int xa), .val (.int xb), .val (.int xc), .val (.int xd), .val (.int xe), .val (.int xf), .val (.int (0 : Int32)), .unset, .unset, .unset, .unset, .unset, .unset, .unset, .unset, .unset, .unset] [(.int (xb <<< ((2 : Int32) &&& 31))), (.int xa)]))
    refine own_by (fun _ => XS.iconst X0.here hx rfl (hb hby at_10)) ?_
    show own_Go p e below _ (s₁.setTop (mkF m 11 #[.val (.int xa), .val (.int xb), .val (.int xc), .val (.int xd), .val (.int xe), .val (.int xf), .val (.int (0 : Int32)), .unset, .unset, .unset, .unset, .unset, .unset, .unset, .unset, .unset, .unset] [(.int (1 : Int32)), (.int (xb <<< ((2 : Int32) &&& 31))), (.int xa)]))
    refine own_by (fun _ => XS.ior X0.here hx rfl (hb hby at_11) rfl) ?_
    show own_Go p e below _ (s₁.setTop (mkF m 12 #[.val (.int xa), .val (.int xb), .val (.int xc), .val (.int xd), .val (.int xe), .val (.int xf), .val (.int (0 : Int32)), .unset, .unset, .unset, .unset, .unset, .unset, .unset, .unset, .unset, .unset] [(.int ((xb <<< ((2 : Int32) &&& 31)) ||| (1 : Int32))), (.int xa)]))
    refine own_by (fun _ => XS.ixor X0.here hx rfl (hb hby at_12) rfl) ?_
    show own_Go p e below _ (s₁.setTop (mkF m 13 #[.val (.int xa), .val (.int xb), .val (.int xc), .val (.int xd), .val (.int xe), .val (.int xf), .val (.int (0 : Int32)), .unset, .unset, .unset, .unset, .unset, .unset, .unset, .unset, .unset, .unset] [(.int (xa ^^^ ((xb <<< ((2 : Int32) &&& 31)) ||| (1 : Int32))))]))
    refine own_by (fun _ => XS.istore X0.here hx rfl (hb hby at_13) rfl (l' := #[.val (.int xa), .val (.int xb), .val (.int xc), .val (.int xd), .val (.int xe), .val (.int xf), .val (.int (0 : Int32)), .val (.int (xa ^^^ ((xb <<< ((2 : Int32) &&& 31)) ||| (1 : Int32)))), .unset, .unset, .unset, .unset, .unset, .unset, .unset, .unset, .unset]) rfl) ?_
    show own_Go p e below _ (s₁.setTop (mkF m 15 #[.val (.int xa), .val (.int xb), .val (.int xc), .val (.int xd), .val (.int xe), .val (.int xf), .val (.int (0 : Int32)), .val (.int (xa ^^^ ((xb <<< ((2 : Int32) &&& 31)) ||| (1 : Int32)))), .unset, .unset, .unset, .unset, .unset, .unset, .unset, .unset, .unset] []))
    obtain ⟨w2, hw2⟩ : ∃ z : Int32, z = (xa ^^^ ((xb <<< ((2 : Int32) &&& 31)) ||| (1 : Int32))) := ⟨_, rfl⟩
    rw [← hw2]
    show own_Go p e below _ (s₁.setTop (mkF m 15 #[.val (.int xa), .val (.int xb), .val (.int xc), .val (.int xd), .val (.int xe), .val (.int xf), .val (.int (0 : Int32)), .val (.int w2), .unset, .unset, .unset, .unset, .unset, .unset, .unset, .unset, .unset] []))
    refine own_by (fun _ => XS.iloadN X0.here hx rfl (hb hby at_15) rfl) ?_
    show own_Go p e below _ (s₁.setTop (mkF m 16 #[.val (.int xa), .val (.int xb), .val (.int xc), .val (.int xd), .val (.int xe), .val (.int xf), .val (.int (0 : Int32)), .val (.int w2), .unset, .unset, .unset, .unset, .unset, .unset, .unset, .unset, .unset] [(.int xa)]))
    refine own_by (fun _ => XS.iloadN X0.here hx rfl (hb hby at_16) rfl) ?_
    show own_Go p e below _ (s₁.setTop (mkF m 17 #[.val (.int xa), .val (.int xb), .val (.int xc), .val (.int xd), .val (.int xe), .val (.int xf), .val (.int (0 : Int32)), .val (.int w2), .unset, .unset, .unset, .unset, .unset, .unset, .unset, .unset, .unset] [(.int xc), (.int xa)]))
    refine own_by (fun _ => XS.iconst X0.here hx rfl (hb hby at_17)) ?_
    show own_Go p e below _ (s₁.setTop (mkF m 18 #[.val (.int xa), .val (.int xb), .val (.int xc), .val (.int xd), .val (.int xe), .val (.int xf), .val (.int (0 : Int32)), .val (.int w2), .unset, .unset, .unset, .unset, .unset, .unset, .unset, .unset, .unset] [(.int (2 : Int32)), (.int xc), (.int xa)]))
    refine own_by (fun _ => XS.ishl X0.here hx rfl (hb hby at_18) rfl) ?_
    show own_Go p e below _ (s₁.setTop (mkF m 19 #[.val (.int xa), .val (.int xb), .val (.int xc), .val (.int xd), .val (.int xe), .val (.int xf), .val (.int (0 : Int32)), .val (.int w2), .unset, .unset, .unset, .unset, .unset, .unset, .unset, .unset, .unset] [(.int (xc <<< ((2 : Int32) &&& 31))), (.int xa)]))
    refine own_by (fun _ => XS.iconst X0.here hx rfl (hb hby at_19)) ?_
    show own_Go p e below _ (s₁.setTop (mkF m 20 #[.val (.int xa), .val (.int xb), .val (.int xc), .val (.int xd), .val (.int xe), .val (.int xf), .val (.int (0 : Int32)), .val (.int w2), .unset, .unset, .unset, .unset, .unset, .unset, .unset, .unset, .unset] [(.int (2 : Int32)), (.int (xc <<< ((2 : Int32) &&& 31))), (.int xa)]))
    refine own_by (fun _ => XS.ior X0.here hx rfl (hb hby at_20) rfl) ?_
    show own_Go p e below _ (s₁.setTop (mkF m 21 #[.val (.int xa), .val (.int xb), .val (.int xc), .val (.int xd), .val (.int xe), .val (.int xf), .val (.int (0 : Int32)), .val (.int w2), .unset, .unset, .unset, .unset, .unset, .unset, .unset, .unset, .unset] [(.int ((xc <<< ((2 : Int32) &&& 31)) ||| (2 : Int32))), (.int xa)]))
    refine own_by (fun _ => XS.ixor X0.here hx rfl (hb hby at_21) rfl) ?_
    show own_Go p e below _ (s₁.setTop (mkF m 22 #[.val (.int xa), .val (.int xb), .val (.int xc), .val (.int xd), .val (.int xe), .val (.int xf), .val (.int (0 : Int32)), .val (.int w2), .unset, .unset, .unset, .unset, .unset, .unset, .unset, .unset, .unset] [(.int (xa ^^^ ((xc <<< ((2 : Int32) &&& 31)) ||| (2 : Int32))))]))
    refine own_by (fun _ => XS.istore X0.here hx rfl (hb hby at_22) rfl (l' := #[.val (.int xa), .val (.int xb), .val (.int xc), .val (.int xd), .val (.int xe), .val (.int xf), .val (.int (0 : Int32)), .val (.int w2), .val (.int (xa ^^^ ((xc <<< ((2 : Int32) &&& 31)) ||| (2 : Int32)))), .unset, .unset, .unset, .unset, .unset, .unset, .unset, .unset]) rfl) ?_
    show own_Go p e below _ (s₁.setTop (mkF m 24 #[.val (.int xa), .val (.int xb), .val (.int xc), .val (.int xd), .val (.int xe), .val (.int xf), .val (.int (0 : Int32)), .val (.int w2), .val (.int (xa ^^^ ((xc <<< ((2 : Int32) &&& 31)) ||| (2 : Int32)))), .unset, .unset, .unset, .unset, .unset, .unset, .unset, .unset] []))
    obtain ⟨w3, hw3⟩ : ∃ z : Int32, z = (xa ^^^ ((xc <<< ((2 : Int32) &&& 31)) ||| (2 : Int32))) := ⟨_, rfl⟩
    rw [← hw3]
    show own_Go p e below _ (s₁.setTop (mkF m 24 #[.val (.int xa), .val (.int xb), .val (.int xc), .val (.int xd), .val (.int xe), .val (.int xf), .val (.int (0 : Int32)), .val (.int w2), .val (.int w3), .unset, .unset, .unset, .unset, .unset, .unset, .unset, .unset] []))
    obtain ⟨T4, h4, X4, e4, E4, A4, D4, -, st4⟩ := newO X0 hx hZ hown (hw _ (List.mem_of_getElem? (i := 0) rfl)) (hw _ (List.mem_of_getElem? (i := 1) rfl)) (hw _ (List.mem_of_getElem? (i := 2) rfl)) e0 (g := (mkF m 24 #[.val (.int xa), .val (.int xb), .val (.int xc), .val (.int xd), .val (.int xe), .val (.int xf), .val (.int (0 : Int32)), .val (.int w2), .val (.int w3), .unset, .unset, .unset, .unset, .unset, .unset, .unset, .unset] [])) rfl (hb hby at_24) (by decide) (by decide)
    obtain ⟨b4, g4⟩ : ∃ z, z = h0.size := ⟨_, rfl⟩
    rw [← g4] at A4 D4 st4
    refine own_by st4 ?_
    clear st4 X0
    have ge4 : n0 ≤ b4 := Nat.le_trans Z0 (Nat.le_of_eq g4.symm)
    have z4 : n0 ≤ h4.size := Nat.le_trans Z0 E4.1
    have fz4_mKeys : Fld Z h4 b4 "com/example/bucketsplit/bucketsplit/core/Page" "mKeys" "[I" .null := D4 (Or.inl (hw _ (List.mem_of_getElem? (i := 11) rfl))) (ty := (.array .int)) (by decide)
    have fz4_mSize : Fld Z h4 b4 "com/example/bucketsplit/bucketsplit/core/Page" "mSize" "I" (.int (0 : Int32)) := D4 (Or.inl (hw _ (List.mem_of_getElem? (i := 18) rfl))) (ty := .int) (by decide)
    show own_Go p e below _ (T4.setTop (mkF m 27 #[.val (.int xa), .val (.int xb), .val (.int xc), .val (.int xd), .val (.int xe), .val (.int xf), .val (.int (0 : Int32)), .val (.int w2), .val (.int w3), .unset, .unset, .unset, .unset, .unset, .unset, .unset, .unset] [(.ref b4)]))
    refine own_by (fun _ => XS.dup X4.here hx rfl (hb hby at_27) rfl rfl) ?_
    show own_Go p e below _ (T4.setTop (mkF m 28 #[.val (.int xa), .val (.int xb), .val (.int xc), .val (.int xd), .val (.int xe), .val (.int xf), .val (.int (0 : Int32)), .val (.int w2), .val (.int w3), .unset, .unset, .unset, .unset, .unset, .unset, .unset, .unset] [(.ref b4), (.ref b4)]))
    obtain ⟨_, _, ⟨T5, L5, k5, n5⟩, -, X5, ⟨Lc5, hQ5, l5, y5, z5'⟩, st5⟩ := X4.specialBack hx (y := (⟨"com/example/bucketsplit/bucketsplit/core/Page", "<init>", "()V"⟩ : MethodName)) rfl hown (mvT hZ (hw _ (List.mem_of_getElem? (i := 3) rfl))) (mvT hZ (hw _ (List.mem_of_getElem? (i := 4) rfl))) (mvT hZ (hw _ (List.mem_of_getElem? (i := 5) rfl))) (by decide) (backOf (W := 1) (own_rm1 l Z a0 hw [] b4 .null h4 n0 z4 A4 fz4_mKeys fz4_mSize ge4) hZ (hw _ (List.mem_of_getElem? (i := 5) rfl)) (hw _ (List.mem_of_getElem? (i := 2) rfl)) (by decide) (by decide)) (g := (mkF m 28 #[.val (.int xa), .val (.int xb), .val (.int xc), .val (.int xd), .val (.int xe), .val (.int xf), .val (.int (0 : Int32)), .val (.int w2), .val (.int w3), .unset, .unset, .unset, .unset, .unset, .unset, .unset, .unset] [(.ref b4), (.ref b4)])) rfl (by rw [hml]; rfl) (Steps.refl _) (a := b4) (argsL := []) (rest := [(.ref b4)]) (lenOf own_pd0 rfl) rfl (by show 2 * 0 + _ ≤ _; exact Nat.le_of_eq rfl) (hb hby at_28) (fun _ _ => ⟨rfl, e4, (by decide : 1 + 1 ≤ _), (by decide : 2 + 4 ≤ _)⟩)
    dsimp only [Pt.U, Pt.locs, Pt.cells, Pt.slots] at X5 l5 y5 z5' st5 hQ5
    subst l5 y5 z5'
    obtain ⟨kx_5, kk_5, rfl, N5q, Kc5, fc5_0, fc5_1, fc5_2, xc5_0⟩ := hQ5
    have N5 := Fr.app N0 N5q
    refine own_tr st5 ?_
    clear st5 X4
    obtain ⟨lq5, Y5, M5⟩ : ∃ lq, Stand p l e room_1 s m #[(.int xa), (.int xb), (.int xc), (.int xd), (.int xe), (.int xf)] below meth c T5 lq 2 6 ∧ Fr n0 lq := ⟨_, X5, N5⟩
    clear X5 N5
    have ge_kx_5 : n0 ≤ kx_5 := Nat.le_trans z4 xc5_0
    have ne5_b4 : b4 ≠ kx_5 := Nat.ne_of_lt (Nat.lt_of_lt_of_le A4.lt xc5_0)
    have z5 : n0 ≤ T5.heap.size := Nat.le_trans z4 Kc5.1
    show own_Go p e below _ (T5.setTop (mkF m 31 #[.val (.int xa), .val (.int xb), .val (.int xc), .val (.int xd), .val (.int xe), .val (.int xf), .val (.int (0 : Int32)), .val (.int w2), .val (.int w3), .unset, .unset, .unset, .unset, .unset, .unset, .unset, .unset] [(.ref b4)]))
    refine own_by (fun _ => XS.astore Y5.here hx rfl (hb hby at_31) rfl rfl (l' := #[.val (.int xa), .val (.int xb), .val (.int xc), .val (.int xd), .val (.int xe), .val (.int xf), .val (.int (0 : Int32)), .val (.int w2), .val (.int w3), .val (.ref b4), .unset, .unset, .unset, .unset, .unset, .unset, .unset]) rfl) ?_
    show own_Go p e below _ (T5.setTop (mkF m 33 #[.val (.int xa), .val (.int xb), .val (.int xc), .val (.int xd), .val (.int xe), .val (.int xf), .val (.int (0 : Int32)), .val (.int w2), .val (.int w3), .val (.ref b4), .unset, .unset, .unset, .unset, .unset, .unset, .unset] []))
    refine own_by (fun _ => XS.iload Y5.here hx rfl (hb hby at_33) rfl) ?_
    show own_Go p e below _ (T5.setTop (mkF m 35 #[.val (.int xa), .val (.int xb), .val (.int xc), .val (.int xd), .val (.int xe), .val (.int xf), .val (.int (0 : Int32)), .val (.int w2), .val (.int w3), .val (.ref b4), .unset, .unset, .unset, .unset, .unset, .unset, .unset] [(.int (0 : Int32))]))
    refine own_by (fun _ => XS.iconst Y5.here hx rfl (hb hby at_35)) ?_
    show own_Go p e below _ (T5.setTop (mkF m 36 #[.val (.int xa), .val (.int xb), .val (.int xc), .val (.int xd), .val (.int xe), .val (.int xf), .val (.int (0 : Int32)), .val (.int w2), .val (.int w3), .val (.ref b4), .unset, .unset, .unset, .unset, .unset, .unset, .unset] [(.int (1 : Int32)), (.int (0 : Int32))]))
    refine own_by (fun _ => XS.icmpYes Y5.here hx rfl (pc0 := 36) (pc' := 45) rfl (hb hby at_36) rfl (tlt (by decide : (0 : Int32) < (1 : Int32))).1 (by decide) (by decide)) ?_
    show own_Go p e below _ (T5.setTop (mkF m 45 #[.val (.int xa), .val (.int xb), .val (.int xc), .val (.int xd), .val (.int xe), .val (.int xf), .val (.int (0 : Int32)), .val (.int w2), .val (.int w3), .val (.ref b4), .unset, .unset, .unset, .unset, .unset, .unset, .unset] []))
    refine own_by (fun _ => XS.iload Y5.here hx rfl (hb hby at_45) rfl) ?_
    show own_Go p e below _ (T5.setTop (mkF m 47 #[.val (.int xa), .val (.int xb), .val (.int xc), .val (.int xd), .val (.int xe), .val (.int xf), .val (.int (0 : Int32)), .val (.int w2), .val (.int w3), .val (.ref b4), .unset, .unset, .unset, .unset, .unset, .unset, .unset] [(.int (0 : Int32))]))
    refine own_by (fun _ => XS.iconst Y5.here hx rfl (hb hby at_47)) ?_
    show own_Go p e below _ (T5.setTop (mkF m 48 #[.val (.int xa), .val (.int xb), .val (.int xc), .val (.int xd), .val (.int xe), .val (.int xf), .val (.int (0 : Int32)), .val (.int w2), .val (.int w3), .val (.ref b4), .unset, .unset, .unset, .unset, .unset, .unset, .unset] [(.int (2 : Int32)), (.int (0 : Int32))]))
    refine own_by (fun _ => XS.icmpYes Y5.here hx rfl (pc0 := 48) (pc' := 58) rfl (hb hby at_48) rfl (tlt (by decide : (0 : Int32) < (2 : Int32))).1 (by decide) (by decide)) ?_
    show own_Go p e below _ (T5.setTop (mkF m 58 #[.val (.int xa), .val (.int xb), .val (.int xc), .val (.int xd), .val (.int xe), .val (.int xf), .val (.int (0 : Int32)), .val (.int w2), .val (.int w3), .val (.ref b4), .unset, .unset, .unset, .unset, .unset, .unset, .unset] []))
    refine own_by (fun _ => XS.iload Y5.here hx rfl (hb hby at_58) rfl) ?_
    show own_Go p e below _ (T5.setTop (mkF m 60 #[.val (.int xa), .val (.int xb), .val (.int xc), .val (.int xd), .val (.int xe), .val (.int xf), .val (.int (0 : Int32)), .val (.int w2), .val (.int w3), .val (.ref b4), .unset, .unset, .unset, .unset, .unset, .unset, .unset] [(.int (0 : Int32))]))
    refine own_by (fun _ => XS.iconst Y5.here hx rfl (hb hby at_60)) ?_
    show own_Go p e below _ (T5.setTop (mkF m 61 #[.val (.int xa), .val (.int xb), .val (.int xc), .val (.int xd), .val (.int xe), .val (.int xf), .val (.int (0 : Int32)), .val (.int w2), .val (.int w3), .val (.ref b4), .unset, .unset, .unset, .unset, .unset, .unset, .unset] [(.int (3 : Int32)), (.int (0 : Int32))]))
    refine own_by (fun _ => XS.icmpYes Y5.here hx rfl (pc0 := 61) (pc' := 71) rfl (hb hby at_61) rfl (tlt (by decide : (0 : Int32) < (3 : Int32))).1 (by decide) (by decide)) ?_
    show own_Go p e below _ (T5.setTop (mkF m 71 #[.val (.int xa), .val (.int xb), .val (.int xc), .val (.int xd), .val (.int xe), .val (.int xf), .val (.int (0 : Int32)), .val (.int w2), .val (.int w3), .val (.ref b4), .unset, .unset, .unset, .unset, .unset, .unset, .unset] []))
    refine own_by (fun _ => XS.iconst Y5.here hx rfl (hb hby at_71)) ?_
    show own_Go p e below _ (T5.setTop (mkF m 72 #[.val (.int xa), .val (.int xb), .val (.int xc), .val (.int xd), .val (.int xe), .val (.int xf), .val (.int (0 : Int32)), .val (.int w2), .val (.int w3), .val (.ref b4), .unset, .unset, .unset, .unset, .unset, .unset, .unset] [(.int (0 : Int32))]))
    refine own_by (fun _ => XS.istore Y5.here hx rfl (hb hby at_72) rfl (l' := #[.val (.int xa), .val (.int xb), .val (.int xc), .val (.int xd), .val (.int xe), .val (.int xf), .val (.int (0 : Int32)), .val (.int w2), .val (.int w3), .val (.ref b4), .val (.int (0 : Int32)), .unset, .unset, .unset, .unset, .unset, .unset]) rfl) ?_
    show own_Go p e below _ (T5.setTop (mkF m 74 #[.val (.int xa), .val (.int xb), .val (.int xc), .val (.int xd), .val (.int xe), .val (.int xf), .val (.int (0 : Int32)), .val (.int w2), .val (.int w3), .val (.ref b4), .val (.int (0 : Int32)), .unset, .unset, .unset, .unset, .unset, .unset] []))
    refine own_by (fun _ => XS.iconst Y5.here hx rfl (hb hby at_74)) ?_
    show own_Go p e below _ (T5.setTop (mkF m 75 #[.val (.int xa), .val (.int xb), .val (.int xc), .val (.int xd), .val (.int xe), .val (.int xf), .val (.int (0 : Int32)), .val (.int w2), .val (.int w3), .val (.ref b4), .val (.int (0 : Int32)), .unset, .unset, .unset, .unset, .unset, .unset] [(.int (0 : Int32))]))
    refine own_by (fun _ => XS.istore Y5.here hx rfl (hb hby at_75) rfl (l' := #[.val (.int xa), .val (.int xb), .val (.int xc), .val (.int xd), .val (.int xe), .val (.int xf), .val (.int (0 : Int32)), .val (.int w2), .val (.int w3), .val (.ref b4), .val (.int (0 : Int32)), .val (.int (0 : Int32)), .unset, .unset, .unset, .unset, .unset]) rfl) ?_
    show own_Go p e below _ (T5.setTop (mkF m 77 #[.val (.int xa), .val (.int xb), .val (.int xc), .val (.int xd), .val (.int xe), .val (.int xf), .val (.int (0 : Int32)), .val (.int w2), .val (.int w3), .val (.ref b4), .val (.int (0 : Int32)), .val (.int (0 : Int32)), .unset, .unset, .unset, .unset, .unset] []))
    refine own_by (fun _ => XS.iconst Y5.here hx rfl (hb hby at_77)) ?_
    show own_Go p e below _ (T5.setTop (mkF m 78 #[.val (.int xa), .val (.int xb), .val (.int xc), .val (.int xd), .val (.int xe), .val (.int xf), .val (.int (0 : Int32)), .val (.int w2), .val (.int w3), .val (.ref b4), .val (.int (0 : Int32)), .val (.int (0 : Int32)), .unset, .unset, .unset, .unset, .unset] [(.int (0 : Int32))]))
    refine own_by (fun _ => XS.istore Y5.here hx rfl (hb hby at_78) rfl (l' := #[.val (.int xa), .val (.int xb), .val (.int xc), .val (.int xd), .val (.int xe), .val (.int xf), .val (.int (0 : Int32)), .val (.int w2), .val (.int w3), .val (.ref b4), .val (.int (0 : Int32)), .val (.int (0 : Int32)), .val (.int (0 : Int32)), .unset, .unset, .unset, .unset]) rfl) ?_
    show own_Go p e below _ (T5.setTop (mkF m 80 #[.val (.int xa), .val (.int xb), .val (.int xc), .val (.int xd), .val (.int xe), .val (.int xf), .val (.int (0 : Int32)), .val (.int w2), .val (.int w3), .val (.ref b4), .val (.int (0 : Int32)), .val (.int (0 : Int32)), .val (.int (0 : Int32)), .unset, .unset, .unset, .unset] []))
    refine own_by (fun _ => XS.iload Y5.here hx rfl (hb hby at_80) rfl) ?_
    show own_Go p e below _ (T5.setTop (mkF m 82 #[.val (.int xa), .val (.int xb), .val (.int xc), .val (.int xd), .val (.int xe), .val (.int xf), .val (.int (0 : Int32)), .val (.int w2), .val (.int w3), .val (.ref b4), .val (.int (0 : Int32)), .val (.int (0 : Int32)), .val (.int (0 : Int32)), .unset, .unset, .unset, .unset] [(.int (0 : Int32))]))
    refine own_by (fun _ => XS.iconst Y5.here hx rfl (hb hby at_82)) ?_
    show own_Go p e below _ (T5.setTop (mkF m 83 #[.val (.int xa), .val (.int xb), .val (.int xc), .val (.int xd), .val (.int xe), .val (.int xf), .val (.int (0 : Int32)), .val (.int w2), .val (.int w3), .val (.ref b4), .val (.int (0 : Int32)), .val (.int (0 : Int32)), .val (.int (0 : Int32)), .unset, .unset, .unset, .unset] [(.int (1 : Int32)), (.int (0 : Int32))]))
    refine own_by (fun _ => XS.icmpYes Y5.here hx rfl (pc0 := 83) (pc' := 92) rfl (hb hby at_83) rfl (feq (by decide : ¬ ((0 : Int32) = (1 : Int32)))).2 (by decide) (by decide)) ?_
    show own_Go p e below _ (T5.setTop (mkF m 92 #[.val (.int xa), .val (.int xb), .val (.int xc), .val (.int xd), .val (.int xe), .val (.int xf), .val (.int (0 : Int32)), .val (.int w2), .val (.int w3), .val (.ref b4), .val (.int (0 : Int32)), .val (.int (0 : Int32)), .val (.int (0 : Int32)), .unset, .unset, .unset, .unset] []))
    refine own_by (fun _ => XS.iload Y5.here hx rfl (hb hby at_92) rfl) ?_
    show own_Go p e below _ (T5.setTop (mkF m 94 #[.val (.int xa), .val (.int xb), .val (.int xc), .val (.int xd), .val (.int xe), .val (.int xf), .val (.int (0 : Int32)), .val (.int w2), .val (.int w3), .val (.ref b4), .val (.int (0 : Int32)), .val (.int (0 : Int32)), .val (.int (0 : Int32)), .unset, .unset, .unset, .unset] [(.int (0 : Int32))]))
    refine own_by (fun _ => XS.iconst Y5.here hx rfl (hb hby at_94)) ?_
    show own_Go p e below _ (T5.setTop (mkF m 95 #[.val (.int xa), .val (.int xb), .val (.int xc), .val (.int xd), .val (.int xe), .val (.int xf), .val (.int (0 : Int32)), .val (.int w2), .val (.int w3), .val (.ref b4), .val (.int (0 : Int32)), .val (.int (0 : Int32)), .val (.int (0 : Int32)), .unset, .unset, .unset, .unset] [(.int (2 : Int32)), (.int (0 : Int32))]))
    refine own_by (fun _ => XS.icmpYes Y5.here hx rfl (pc0 := 95) (pc' := 117) rfl (hb hby at_95) rfl (feq (by decide : ¬ ((0 : Int32) = (2 : Int32)))).2 (by decide) (by decide)) ?_
    show own_Go p e below _ (T5.setTop (mkF m 117 #[.val (.int xa), .val (.int xb), .val (.int xc), .val (.int xd), .val (.int xe), .val (.int xf), .val (.int (0 : Int32)), .val (.int w2), .val (.int w3), .val (.ref b4), .val (.int (0 : Int32)), .val (.int (0 : Int32)), .val (.int (0 : Int32)), .unset, .unset, .unset, .unset] []))
    refine own_by (fun _ => XS.iload Y5.here hx rfl (hb hby at_117) rfl) ?_
    show own_Go p e below _ (T5.setTop (mkF m 119 #[.val (.int xa), .val (.int xb), .val (.int xc), .val (.int xd), .val (.int xe), .val (.int xf), .val (.int (0 : Int32)), .val (.int w2), .val (.int w3), .val (.ref b4), .val (.int (0 : Int32)), .val (.int (0 : Int32)), .val (.int (0 : Int32)), .unset, .unset, .unset, .unset] [(.int (0 : Int32))]))
    refine own_by (fun _ => XS.iconst Y5.here hx rfl (hb hby at_119)) ?_
    show own_Go p e below _ (T5.setTop (mkF m 120 #[.val (.int xa), .val (.int xb), .val (.int xc), .val (.int xd), .val (.int xe), .val (.int xf), .val (.int (0 : Int32)), .val (.int w2), .val (.int w3), .val (.ref b4), .val (.int (0 : Int32)), .val (.int (0 : Int32)), .val (.int (0 : Int32)), .unset, .unset, .unset, .unset] [(.int (3 : Int32)), (.int (0 : Int32))]))
    refine own_by (fun _ => XS.icmpYes Y5.here hx rfl (pc0 := 120) (pc' := 172) rfl (hb hby at_120) rfl (feq (by decide : ¬ ((0 : Int32) = (3 : Int32)))).2 (by decide) (by decide)) ?_
    show own_Go p e below _ (T5.setTop (mkF m 172 #[.val (.int xa), .val (.int xb), .val (.int xc), .val (.int xd), .val (.int xe), .val (.int xf), .val (.int (0 : Int32)), .val (.int w2), .val (.int w3), .val (.ref b4), .val (.int (0 : Int32)), .val (.int (0 : Int32)), .val (.int (0 : Int32)), .unset, .unset, .unset, .unset] []))
    refine own_by (fun _ => XS.iloadN Y5.here hx rfl (hb hby at_172) rfl) ?_
    show own_Go p e below _ (T5.setTop (mkF m 173 #[.val (.int xa), .val (.int xb), .val (.int xc), .val (.int xd), .val (.int xe), .val (.int xf), .val (.int (0 : Int32)), .val (.int w2), .val (.int w3), .val (.ref b4), .val (.int (0 : Int32)), .val (.int (0 : Int32)), .val (.int (0 : Int32)), .unset, .unset, .unset, .unset] [(.int xd)]))
    refine own_by (Y5.ldcInt hx hown (mvT hZ (hw _ (List.mem_of_getElem? (i := 26) rfl))) (g := (mkF m 173 #[.val (.int xa), .val (.int xb), .val (.int xc), .val (.int xd), .val (.int xe), .val (.int xf), .val (.int (0 : Int32)), .val (.int w2), .val (.int w3), .val (.ref b4), .val (.int (0 : Int32)), .val (.int (0 : Int32)), .val (.int (0 : Int32)), .unset, .unset, .unset, .unset] [(.int xd)])) rfl (hb hby at_173)) ?_
    show own_Go p e below _ (T5.setTop (mkF m 175 #[.val (.int xa), .val (.int xb), .val (.int xc), .val (.int xd), .val (.int xe), .val (.int xf), .val (.int (0 : Int32)), .val (.int w2), .val (.int w3), .val (.ref b4), .val (.int (0 : Int32)), .val (.int (0 : Int32)), .val (.int (0 : Int32)), .unset, .unset, .unset, .unset] [(.int (2147483647 : Int32)), (.int xd)]))
    refine own_by (fun _ => XS.iand Y5.here hx rfl (hb hby at_175) rfl) ?_
    show own_Go p e below _ (T5.setTop (mkF m 176 #[.val (.int xa), .val (.int xb), .val (.int xc), .val (.int xd), .val (.int xe), .val (.int xf), .val (.int (0 : Int32)), .val (.int w2), .val (.int w3), .val (.ref b4), .val (.int (0 : Int32)), .val (.int (0 : Int32)), .val (.int (0 : Int32)), .unset, .unset, .unset, .unset] [(.int (xd &&& (2147483647 : Int32)))]))
    refine own_by (fun _ => XS.bipush Y5.here hx rfl (hb hby at_176)) ?_
    show own_Go p e below _ (T5.setTop (mkF m 178 #[.val (.int xa), .val (.int xb), .val (.int xc), .val (.int xd), .val (.int xe), .val (.int xf), .val (.int (0 : Int32)), .val (.int w2), .val (.int w3), .val (.ref b4), .val (.int (0 : Int32)), .val (.int (0 : Int32)), .val (.int (0 : Int32)), .unset, .unset, .unset, .unset] [(.int (9 : Int32)), (.int (xd &&& (2147483647 : Int32)))]))
    refine own_by (fun _ => XS.iload Y5.here hx rfl (hb hby at_178) rfl) ?_
    show own_Go p e below _ (T5.setTop (mkF m 180 #[.val (.int xa), .val (.int xb), .val (.int xc), .val (.int xd), .val (.int xe), .val (.int xf), .val (.int (0 : Int32)), .val (.int w2), .val (.int w3), .val (.ref b4), .val (.int (0 : Int32)), .val (.int (0 : Int32)), .val (.int (0 : Int32)), .unset, .unset, .unset, .unset] [(.int (0 : Int32)), (.int (9 : Int32)), (.int (xd &&& (2147483647 : Int32)))]))
    refine own_by (fun _ => XS.isub Y5.here hx rfl (hb hby at_180) rfl) ?_
    show own_Go p e below _ (T5.setTop (mkF m 181 #[.val (.int xa), .val (.int xb), .val (.int xc), .val (.int xd), .val (.int xe), .val (.int xf), .val (.int (0 : Int32)), .val (.int w2), .val (.int w3), .val (.ref b4), .val (.int (0 : Int32)), .val (.int (0 : Int32)), .val (.int (0 : Int32)), .unset, .unset, .unset, .unset] [(.int (9 : Int32)), (.int (xd &&& (2147483647 : Int32)))]))
    refine own_by (fun _ => iremM Y5 hx rfl (hb hby at_181) rfl (by decide)) ?_
    show own_Go p e below _ (T5.setTop (mkF m 182 #[.val (.int xa), .val (.int xb), .val (.int xc), .val (.int xd), .val (.int xe), .val (.int xf), .val (.int (0 : Int32)), .val (.int w2), .val (.int w3), .val (.ref b4), .val (.int (0 : Int32)), .val (.int (0 : Int32)), .val (.int (0 : Int32)), .unset, .unset, .unset, .unset] [(.int ((xd &&& (2147483647 : Int32)) % (9 : Int32)))]))
    refine own_by (fun _ => XS.istore Y5.here hx rfl (hb hby at_182) rfl (l' := #[.val (.int xa), .val (.int xb), .val (.int xc), .val (.int xd), .val (.int xe), .val (.int xf), .val (.int (0 : Int32)), .val (.int w2), .val (.int w3), .val (.ref b4), .val (.int (0 : Int32)), .val (.int (0 : Int32)), .val (.int (0 : Int32)), .val (.int ((xd &&& (2147483647 : Int32)) % (9 : Int32))), .unset, .unset, .unset]) rfl) ?_
    show own_Go p e below _ (T5.setTop (mkF m 184 #[.val (.int xa), .val (.int xb), .val (.int xc), .val (.int xd), .val (.int xe), .val (.int xf), .val (.int (0 : Int32)), .val (.int w2), .val (.int w3), .val (.ref b4), .val (.int (0 : Int32)), .val (.int (0 : Int32)), .val (.int (0 : Int32)), .val (.int ((xd &&& (2147483647 : Int32)) % (9 : Int32))), .unset, .unset, .unset] []))
    obtain ⟨w6, hw6⟩ : ∃ z : Int32, z = ((xd &&& (2147483647 : Int32)) % (9 : Int32)) := ⟨_, rfl⟩
    rw [← hw6]
    show own_Go p e below _ (T5.setTop (mkF m 184 #[.val (.int xa), .val (.int xb), .val (.int xc), .val (.int xd), .val (.int xe), .val (.int xf), .val (.int (0 : Int32)), .val (.int w2), .val (.int w3), .val (.ref b4), .val (.int (0 : Int32)), .val (.int (0 : Int32)), .val (.int (0 : Int32)), .val (.int w6), .unset, .unset, .unset] []))
    refine own_by (fun _ => XS.bipush Y5.here hx rfl (hb hby at_184)) ?_
    show own_Go p e below _ (T5.setTop (mkF m 186 #[.val (.int xa), .val (.int xb), .val (.int xc), .val (.int xd), .val (.int xe), .val (.int xf), .val (.int (0 : Int32)), .val (.int w2), .val (.int w3), .val (.ref b4), .val (.int (0 : Int32)), .val (.int (0 : Int32)), .val (.int (0 : Int32)), .val (.int w6), .unset, .unset, .unset] [(.int (8 : Int32))]))
    obtain ⟨T7, h7, k7, X7, e7, E7, A7, st7⟩ := newP Y5 hx hZ (hw _ (List.mem_of_getElem? (i := 9) rfl)) rfl (g := (mkF m 186 #[.val (.int xa), .val (.int xb), .val (.int xc), .val (.int xd), .val (.int xe), .val (.int xf), .val (.int (0 : Int32)), .val (.int w2), .val (.int w3), .val (.ref b4), .val (.int (0 : Int32)), .val (.int (0 : Int32)), .val (.int (0 : Int32)), .val (.int w6), .unset, .unset, .unset] [(.int (8 : Int32))])) rfl (hb hby at_186) rfl (by decide) (cap := 8) (by decide) (by decide) (by decide) (by decide)
    obtain ⟨b7, g7⟩ : ∃ z, z = T5.heap.size := ⟨_, rfl⟩
    rw [← g7] at A7 st7
    refine own_by st7 ?_
    clear st7 Y5
    have ge7 : n0 ≤ b7 := Nat.le_trans z5 (Nat.le_of_eq g7.symm)
    have f8 : Exa Z T5.heap b4 "com/example/bucketsplit/bucketsplit/core/Page" := (A4.keep Kc5)
    have ne7_b4 : b4 ≠ b7 := Nat.ne_of_lt (Nat.lt_of_lt_of_le f8.lt (Nat.le_of_eq g7.symm))
    have ne7_kx_5 : kx_5 ≠ b7 := Nat.ne_of_lt (Nat.lt_of_lt_of_le fc5_2.lt (Nat.le_of_eq g7.symm))
    have z7 : n0 ≤ h7.size := Nat.le_trans z5 E7.1
    have va7 : Arv Z h7 b7 k7 .int (8 : Int32) [(.int (0 : Int32)), (.int (0 : Int32)), (.int (0 : Int32)), (.int (0 : Int32)), (.int (0 : Int32)), (.int (0 : Int32)), (.int (0 : Int32)), (.int (0 : Int32))] (.int (0 : Int32)) := (Arv.new A7 (by decide)).pad (pad_rep [] (.int (0 : Int32)) 8)
    show own_Go p e below _ (T7.setTop (mkF m 188 #[.val (.int xa), .val (.int xb), .val (.int xc), .val (.int xd), .val (.int xe), .val (.int xf), .val (.int (0 : Int32)), .val (.int w2), .val (.int w3), .val (.ref b4), .val (.int (0 : Int32)), .val (.int (0 : Int32)), .val (.int (0 : Int32)), .val (.int w6), .unset, .unset, .unset] [(.ref b7)]))
    refine own_by (fun _ => XS.astore X7.here hx rfl (hb hby at_188) rfl rfl (l' := #[.val (.int xa), .val (.int xb), .val (.int xc), .val (.int xd), .val (.int xe), .val (.int xf), .val (.int (0 : Int32)), .val (.int w2), .val (.int w3), .val (.ref b4), .val (.int (0 : Int32)), .val (.int (0 : Int32)), .val (.int (0 : Int32)), .val (.int w6), .val (.ref b7), .unset, .unset]) rfl) ?_
    show own_Go p e below _ (T7.setTop (mkF m 190 #[.val (.int xa), .val (.int xb), .val (.int xc), .val (.int xd), .val (.int xe), .val (.int xf), .val (.int (0 : Int32)), .val (.int w2), .val (.int w3), .val (.ref b4), .val (.int (0 : Int32)), .val (.int (0 : Int32)), .val (.int (0 : Int32)), .val (.int w6), .val (.ref b7), .unset, .unset] []))
    refine own_by (fun _ => XS.aload X7.here hx rfl (hb hby at_190) rfl rfl) ?_
    show own_Go p e below _ (T7.setTop (mkF m 192 #[.val (.int xa), .val (.int xb), .val (.int xc), .val (.int xd), .val (.int xe), .val (.int xf), .val (.int (0 : Int32)), .val (.int w2), .val (.int w3), .val (.ref b4), .val (.int (0 : Int32)), .val (.int (0 : Int32)), .val (.int (0 : Int32)), .val (.int w6), .val (.ref b7), .unset, .unset] [(.ref b7)]))
    refine own_by (fun _ => XS.iconst X7.here hx rfl (hb hby at_192)) ?_
    show own_Go p e below _ (T7.setTop (mkF m 193 #[.val (.int xa), .val (.int xb), .val (.int xc), .val (.int xd), .val (.int xe), .val (.int xf), .val (.int (0 : Int32)), .val (.int w2), .val (.int w3), .val (.ref b4), .val (.int (0 : Int32)), .val (.int (0 : Int32)), .val (.int (0 : Int32)), .val (.int w6), .val (.ref b7), .unset, .unset] [(.int (0 : Int32)), (.ref b7)]))
    refine own_by (fun _ => XS.iload X7.here hx rfl (hb hby at_193) rfl) ?_
    show own_Go p e below _ (T7.setTop (mkF m 195 #[.val (.int xa), .val (.int xb), .val (.int xc), .val (.int xd), .val (.int xe), .val (.int xf), .val (.int (0 : Int32)), .val (.int w2), .val (.int w3), .val (.ref b4), .val (.int (0 : Int32)), .val (.int (0 : Int32)), .val (.int (0 : Int32)), .val (.int w6), .val (.ref b7), .unset, .unset] [(.int xe), (.int (0 : Int32)), (.ref b7)]))
    obtain ⟨cl9, ar9, q9, sz9, nn9, hs9, gs9⟩ := id va7
    have hin9 : ¬ ((0 : Int32) < 0 ∨ cl9.slots.size ≤ ((0 : Int32)).toNatClampNeg) := inb_of sz9 ⟨by decide, by decide⟩
    obtain ⟨T10, h10, X10, e10, W10, st10⟩ := stI X7 hx hZ e7 ar9 (j := (0 : Int32)) hin9 (g := (mkF m 195 #[.val (.int xa), .val (.int xb), .val (.int xc), .val (.int xd), .val (.int xe), .val (.int xf), .val (.int (0 : Int32)), .val (.int w2), .val (.int w3), .val (.ref b4), .val (.int (0 : Int32)), .val (.int (0 : Int32)), .val (.int (0 : Int32)), .val (.int w6), .val (.ref b7), .unset, .unset] [(.int xe), (.int (0 : Int32)), (.ref b7)])) rfl rfl (hb hby at_195)
    refine own_by st10 ?_
    clear st10 X7
    have va10 : Arv Z h10 b7 k7 .int (8 : Int32) [(.int xe), (.int (0 : Int32)), (.int (0 : Int32)), (.int (0 : Int32)), (.int (0 : Int32)), (.int (0 : Int32)), (.int (0 : Int32)), (.int (0 : Int32))] (.int (0 : Int32)) := Arv.set ar9 q9 sz9 nn9 hs9 gs9 rfl W10 0 rfl (Nat.le_of_ble_eq_true rfl)
    have z10 : n0 ≤ h10.size := Nat.le_trans z7 (Keep.of_wr W10).1
    have N10 := Fr.snoc X10 M5 ge7
    obtain ⟨lq10, Y10, M10⟩ : ∃ lq, Stand p l e room_1 s m #[(.int xa), (.int xb), (.int xc), (.int xd), (.int xe), (.int xf)] below meth c T10 lq 3 14 ∧ Fr n0 lq := ⟨_, X10, N10⟩
    clear X10 N10
    show own_Go p e below _ (T10.setTop (mkF m 196 #[.val (.int xa), .val (.int xb), .val (.int xc), .val (.int xd), .val (.int xe), .val (.int xf), .val (.int (0 : Int32)), .val (.int w2), .val (.int w3), .val (.ref b4), .val (.int (0 : Int32)), .val (.int (0 : Int32)), .val (.int (0 : Int32)), .val (.int w6), .val (.ref b7), .unset, .unset] []))
    refine own_by (fun _ => XS.aload Y10.here hx rfl (hb hby at_196) rfl rfl) ?_
    show own_Go p e below _ (T10.setTop (mkF m 198 #[.val (.int xa), .val (.int xb), .val (.int xc), .val (.int xd), .val (.int xe), .val (.int xf), .val (.int (0 : Int32)), .val (.int w2), .val (.int w3), .val (.ref b4), .val (.int (0 : Int32)), .val (.int (0 : Int32)), .val (.int (0 : Int32)), .val (.int w6), .val (.ref b7), .unset, .unset] [(.ref b7)]))
    refine own_by (fun _ => XS.iconst Y10.here hx rfl (hb hby at_198)) ?_
    show own_Go p e below _ (T10.setTop (mkF m 199 #[.val (.int xa), .val (.int xb), .val (.int xc), .val (.int xd), .val (.int xe), .val (.int xf), .val (.int (0 : Int32)), .val (.int w2), .val (.int w3), .val (.ref b4), .val (.int (0 : Int32)), .val (.int (0 : Int32)), .val (.int (0 : Int32)), .val (.int w6), .val (.ref b7), .unset, .unset] [(.int (1 : Int32)), (.ref b7)]))
    refine own_by (fun _ => XS.iload Y10.here hx rfl (hb hby at_199) rfl) ?_
    show own_Go p e below _ (T10.setTop (mkF m 201 #[.val (.int xa), .val (.int xb), .val (.int xc), .val (.int xd), .val (.int xe), .val (.int xf), .val (.int (0 : Int32)), .val (.int w2), .val (.int w3), .val (.ref b4), .val (.int (0 : Int32)), .val (.int (0 : Int32)), .val (.int (0 : Int32)), .val (.int w6), .val (.ref b7), .unset, .unset] [(.int xe), (.int (1 : Int32)), (.ref b7)]))
    refine own_by (fun _ => XS.iconst Y10.here hx rfl (hb hby at_201)) ?_
    show own_Go p e below _ (T10.setTop (mkF m 202 #[.val (.int xa), .val (.int xb), .val (.int xc), .val (.int xd), .val (.int xe), .val (.int xf), .val (.int (0 : Int32)), .val (.int w2), .val (.int w3), .val (.ref b4), .val (.int (0 : Int32)), .val (.int (0 : Int32)), .val (.int (0 : Int32)), .val (.int w6), .val (.ref b7), .unset, .unset] [(.int (1 : Int32)), (.int xe), (.int (1 : Int32)), (.ref b7)]))
    refine own_by (fun _ => XS.iadd Y10.here hx rfl (hb hby at_202) rfl) ?_
    show own_Go p e below _ (T10.setTop (mkF m 203 #[.val (.int xa), .val (.int xb), .val (.int xc), .val (.int xd), .val (.int xe), .val (.int xf), .val (.int (0 : Int32)), .val (.int w2), .val (.int w3), .val (.ref b4), .val (.int (0 : Int32)), .val (.int (0 : Int32)), .val (.int (0 : Int32)), .val (.int w6), .val (.ref b7), .unset, .unset] [(.int (xe + (1 : Int32))), (.int (1 : Int32)), (.ref b7)]))
    obtain ⟨cl11, ar11, q11, sz11, nn11, hs11, gs11⟩ := id va10
    have hin11 : ¬ ((1 : Int32) < 0 ∨ cl11.slots.size ≤ ((1 : Int32)).toNatClampNeg) := inb_of sz11 ⟨by decide, by decide⟩
    obtain ⟨T12, h12, X12, e12, W12, st12⟩ := stI Y10 hx hZ e10 ar11 (j := (1 : Int32)) hin11 (g := (mkF m 203 #[.val (.int xa), .val (.int xb), .val (.int xc), .val (.int xd), .val (.int xe), .val (.int xf), .val (.int (0 : Int32)), .val (.int w2), .val (.int w3), .val (.ref b4), .val (.int (0 : Int32)), .val (.int (0 : Int32)), .val (.int (0 : Int32)), .val (.int w6), .val (.ref b7), .unset, .unset] [(.int (xe + (1 : Int32))), (.int (1 : Int32)), (.ref b7)])) rfl rfl (hb hby at_203)
    refine own_by st12 ?_
    clear st12 Y10
    have va12 : Arv Z h12 b7 k7 .int (8 : Int32) [(.int xe), (.int (xe + (1 : Int32))), (.int (0 : Int32)), (.int (0 : Int32)), (.int (0 : Int32)), (.int (0 : Int32)), (.int (0 : Int32)), (.int (0 : Int32))] (.int (0 : Int32)) := Arv.set ar11 q11 sz11 nn11 hs11 gs11 rfl W12 1 rfl (Nat.le_of_ble_eq_true rfl)
    have z12 : n0 ≤ h12.size := Nat.le_trans z10 (Keep.of_wr W12).1
    have N12 := Fr.snoc X12 M10 ge7
    obtain ⟨lq12, Y12, M12⟩ : ∃ lq, Stand p l e room_1 s m #[(.int xa), (.int xb), (.int xc), (.int xd), (.int xe), (.int xf)] below meth c T12 lq 3 14 ∧ Fr n0 lq := ⟨_, X12, N12⟩
    clear X12 N12
    show own_Go p e below _ (T12.setTop (mkF m 204 #[.val (.int xa), .val (.int xb), .val (.int xc), .val (.int xd), .val (.int xe), .val (.int xf), .val (.int (0 : Int32)), .val (.int w2), .val (.int w3), .val (.ref b4), .val (.int (0 : Int32)), .val (.int (0 : Int32)), .val (.int (0 : Int32)), .val (.int w6), .val (.ref b7), .unset, .unset] []))
    refine own_by (fun _ => XS.aload Y12.here hx rfl (hb hby at_204) rfl rfl) ?_
    show own_Go p e below _ (T12.setTop (mkF m 206 #[.val (.int xa), .val (.int xb), .val (.int xc), .val (.int xd), .val (.int xe), .val (.int xf), .val (.int (0 : Int32)), .val (.int w2), .val (.int w3), .val (.ref b4), .val (.int (0 : Int32)), .val (.int (0 : Int32)), .val (.int (0 : Int32)), .val (.int w6), .val (.ref b7), .unset, .unset] [(.ref b7)]))
    refine own_by (fun _ => XS.iconst Y12.here hx rfl (hb hby at_206)) ?_
    show own_Go p e below _ (T12.setTop (mkF m 207 #[.val (.int xa), .val (.int xb), .val (.int xc), .val (.int xd), .val (.int xe), .val (.int xf), .val (.int (0 : Int32)), .val (.int w2), .val (.int w3), .val (.ref b4), .val (.int (0 : Int32)), .val (.int (0 : Int32)), .val (.int (0 : Int32)), .val (.int w6), .val (.ref b7), .unset, .unset] [(.int (2 : Int32)), (.ref b7)]))
    refine own_by (fun _ => XS.iload Y12.here hx rfl (hb hby at_207) rfl) ?_
    show own_Go p e below _ (T12.setTop (mkF m 209 #[.val (.int xa), .val (.int xb), .val (.int xc), .val (.int xd), .val (.int xe), .val (.int xf), .val (.int (0 : Int32)), .val (.int w2), .val (.int w3), .val (.ref b4), .val (.int (0 : Int32)), .val (.int (0 : Int32)), .val (.int (0 : Int32)), .val (.int w6), .val (.ref b7), .unset, .unset] [(.int xe), (.int (2 : Int32)), (.ref b7)]))
    refine own_by (fun _ => XS.iconst Y12.here hx rfl (hb hby at_209)) ?_
    show own_Go p e below _ (T12.setTop (mkF m 210 #[.val (.int xa), .val (.int xb), .val (.int xc), .val (.int xd), .val (.int xe), .val (.int xf), .val (.int (0 : Int32)), .val (.int w2), .val (.int w3), .val (.ref b4), .val (.int (0 : Int32)), .val (.int (0 : Int32)), .val (.int (0 : Int32)), .val (.int w6), .val (.ref b7), .unset, .unset] [(.int (2 : Int32)), (.int xe), (.int (2 : Int32)), (.ref b7)]))
    refine own_by (fun _ => XS.iadd Y12.here hx rfl (hb hby at_210) rfl) ?_
    show own_Go p e below _ (T12.setTop (mkF m 211 #[.val (.int xa), .val (.int xb), .val (.int xc), .val (.int xd), .val (.int xe), .val (.int xf), .val (.int (0 : Int32)), .val (.int w2), .val (.int w3), .val (.ref b4), .val (.int (0 : Int32)), .val (.int (0 : Int32)), .val (.int (0 : Int32)), .val (.int w6), .val (.ref b7), .unset, .unset] [(.int (xe + (2 : Int32))), (.int (2 : Int32)), (.ref b7)]))
    obtain ⟨cl13, ar13, q13, sz13, nn13, hs13, gs13⟩ := id va12
    have hin13 : ¬ ((2 : Int32) < 0 ∨ cl13.slots.size ≤ ((2 : Int32)).toNatClampNeg) := inb_of sz13 ⟨by decide, by decide⟩
    obtain ⟨T14, h14, X14, e14, W14, st14⟩ := stI Y12 hx hZ e12 ar13 (j := (2 : Int32)) hin13 (g := (mkF m 211 #[.val (.int xa), .val (.int xb), .val (.int xc), .val (.int xd), .val (.int xe), .val (.int xf), .val (.int (0 : Int32)), .val (.int w2), .val (.int w3), .val (.ref b4), .val (.int (0 : Int32)), .val (.int (0 : Int32)), .val (.int (0 : Int32)), .val (.int w6), .val (.ref b7), .unset, .unset] [(.int (xe + (2 : Int32))), (.int (2 : Int32)), (.ref b7)])) rfl rfl (hb hby at_211)
    refine own_by st14 ?_
    clear st14 Y12
    have va14 : Arv Z h14 b7 k7 .int (8 : Int32) [(.int xe), (.int (xe + (1 : Int32))), (.int (xe + (2 : Int32))), (.int (0 : Int32)), (.int (0 : Int32)), (.int (0 : Int32)), (.int (0 : Int32)), (.int (0 : Int32))] (.int (0 : Int32)) := Arv.set ar13 q13 sz13 nn13 hs13 gs13 rfl W14 2 rfl (Nat.le_of_ble_eq_true rfl)
    have z14 : n0 ≤ h14.size := Nat.le_trans z12 (Keep.of_wr W14).1
    have N14 := Fr.snoc X14 M12 ge7
    obtain ⟨lq14, Y14, M14⟩ : ∃ lq, Stand p l e room_1 s m #[(.int xa), (.int xb), (.int xc), (.int xd), (.int xe), (.int xf)] below meth c T14 lq 3 14 ∧ Fr n0 lq := ⟨_, X14, N14⟩
    clear X14 N14
    show own_Go p e below _ (T14.setTop (mkF m 212 #[.val (.int xa), .val (.int xb), .val (.int xc), .val (.int xd), .val (.int xe), .val (.int xf), .val (.int (0 : Int32)), .val (.int w2), .val (.int w3), .val (.ref b4), .val (.int (0 : Int32)), .val (.int (0 : Int32)), .val (.int (0 : Int32)), .val (.int w6), .val (.ref b7), .unset, .unset] []))
    refine own_by (fun _ => XS.aload Y14.here hx rfl (hb hby at_212) rfl rfl) ?_
    show own_Go p e below _ (T14.setTop (mkF m 214 #[.val (.int xa), .val (.int xb), .val (.int xc), .val (.int xd), .val (.int xe), .val (.int xf), .val (.int (0 : Int32)), .val (.int w2), .val (.int w3), .val (.ref b4), .val (.int (0 : Int32)), .val (.int (0 : Int32)), .val (.int (0 : Int32)), .val (.int w6), .val (.ref b7), .unset, .unset] [(.ref b7)]))
    refine own_by (fun _ => XS.iconst Y14.here hx rfl (hb hby at_214)) ?_
    show own_Go p e below _ (T14.setTop (mkF m 215 #[.val (.int xa), .val (.int xb), .val (.int xc), .val (.int xd), .val (.int xe), .val (.int xf), .val (.int (0 : Int32)), .val (.int w2), .val (.int w3), .val (.ref b4), .val (.int (0 : Int32)), .val (.int (0 : Int32)), .val (.int (0 : Int32)), .val (.int w6), .val (.ref b7), .unset, .unset] [(.int (3 : Int32)), (.ref b7)]))
    refine own_by (fun _ => XS.iload Y14.here hx rfl (hb hby at_215) rfl) ?_
    show own_Go p e below _ (T14.setTop (mkF m 217 #[.val (.int xa), .val (.int xb), .val (.int xc), .val (.int xd), .val (.int xe), .val (.int xf), .val (.int (0 : Int32)), .val (.int w2), .val (.int w3), .val (.ref b4), .val (.int (0 : Int32)), .val (.int (0 : Int32)), .val (.int (0 : Int32)), .val (.int w6), .val (.ref b7), .unset, .unset] [(.int xe), (.int (3 : Int32)), (.ref b7)]))
    refine own_by (fun _ => XS.iconst Y14.here hx rfl (hb hby at_217)) ?_
    show own_Go p e below _ (T14.setTop (mkF m 218 #[.val (.int xa), .val (.int xb), .val (.int xc), .val (.int xd), .val (.int xe), .val (.int xf), .val (.int (0 : Int32)), .val (.int w2), .val (.int w3), .val (.ref b4), .val (.int (0 : Int32)), .val (.int (0 : Int32)), .val (.int (0 : Int32)), .val (.int w6), .val (.ref b7), .unset, .unset] [(.int (3 : Int32)), (.int xe), (.int (3 : Int32)), (.ref b7)]))
    refine own_by (fun _ => XS.iadd Y14.here hx rfl (hb hby at_218) rfl) ?_
    show own_Go p e below _ (T14.setTop (mkF m 219 #[.val (.int xa), .val (.int xb), .val (.int xc), .val (.int xd), .val (.int xe), .val (.int xf), .val (.int (0 : Int32)), .val (.int w2), .val (.int w3), .val (.ref b4), .val (.int (0 : Int32)), .val (.int (0 : Int32)), .val (.int (0 : Int32)), .val (.int w6), .val (.ref b7), .unset, .unset] [(.int (xe + (3 : Int32))), (.int (3 : Int32)), (.ref b7)]))
    obtain ⟨cl15, ar15, q15, sz15, nn15, hs15, gs15⟩ := id va14
    have hin15 : ¬ ((3 : Int32) < 0 ∨ cl15.slots.size ≤ ((3 : Int32)).toNatClampNeg) := inb_of sz15 ⟨by decide, by decide⟩
    obtain ⟨T16, h16, X16, e16, W16, st16⟩ := stI Y14 hx hZ e14 ar15 (j := (3 : Int32)) hin15 (g := (mkF m 219 #[.val (.int xa), .val (.int xb), .val (.int xc), .val (.int xd), .val (.int xe), .val (.int xf), .val (.int (0 : Int32)), .val (.int w2), .val (.int w3), .val (.ref b4), .val (.int (0 : Int32)), .val (.int (0 : Int32)), .val (.int (0 : Int32)), .val (.int w6), .val (.ref b7), .unset, .unset] [(.int (xe + (3 : Int32))), (.int (3 : Int32)), (.ref b7)])) rfl rfl (hb hby at_219)
    refine own_by st16 ?_
    clear st16 Y14
    have va16 : Arv Z h16 b7 k7 .int (8 : Int32) [(.int xe), (.int (xe + (1 : Int32))), (.int (xe + (2 : Int32))), (.int (xe + (3 : Int32))), (.int (0 : Int32)), (.int (0 : Int32)), (.int (0 : Int32)), (.int (0 : Int32))] (.int (0 : Int32)) := Arv.set ar15 q15 sz15 nn15 hs15 gs15 rfl W16 3 rfl (Nat.le_of_ble_eq_true rfl)
    have z16 : n0 ≤ h16.size := Nat.le_trans z14 (Keep.of_wr W16).1
    have N16 := Fr.snoc X16 M14 ge7
    obtain ⟨lq16, Y16, M16⟩ : ∃ lq, Stand p l e room_1 s m #[(.int xa), (.int xb), (.int xc), (.int xd), (.int xe), (.int xf)] below meth c T16 lq 3 14 ∧ Fr n0 lq := ⟨_, X16, N16⟩
    clear X16 N16
    show own_Go p e below _ (T16.setTop (mkF m 220 #[.val (.int xa), .val (.int xb), .val (.int xc), .val (.int xd), .val (.int xe), .val (.int xf), .val (.int (0 : Int32)), .val (.int w2), .val (.int w3), .val (.ref b4), .val (.int (0 : Int32)), .val (.int (0 : Int32)), .val (.int (0 : Int32)), .val (.int w6), .val (.ref b7), .unset, .unset] []))
    refine own_by (fun _ => XS.aload Y16.here hx rfl (hb hby at_220) rfl rfl) ?_
    show own_Go p e below _ (T16.setTop (mkF m 222 #[.val (.int xa), .val (.int xb), .val (.int xc), .val (.int xd), .val (.int xe), .val (.int xf), .val (.int (0 : Int32)), .val (.int w2), .val (.int w3), .val (.ref b4), .val (.int (0 : Int32)), .val (.int (0 : Int32)), .val (.int (0 : Int32)), .val (.int w6), .val (.ref b7), .unset, .unset] [(.ref b7)]))
    refine own_by (fun _ => XS.iconst Y16.here hx rfl (hb hby at_222)) ?_
    show own_Go p e below _ (T16.setTop (mkF m 223 #[.val (.int xa), .val (.int xb), .val (.int xc), .val (.int xd), .val (.int xe), .val (.int xf), .val (.int (0 : Int32)), .val (.int w2), .val (.int w3), .val (.ref b4), .val (.int (0 : Int32)), .val (.int (0 : Int32)), .val (.int (0 : Int32)), .val (.int w6), .val (.ref b7), .unset, .unset] [(.int (4 : Int32)), (.ref b7)]))
    refine own_by (fun _ => XS.iload Y16.here hx rfl (hb hby at_223) rfl) ?_
    show own_Go p e below _ (T16.setTop (mkF m 225 #[.val (.int xa), .val (.int xb), .val (.int xc), .val (.int xd), .val (.int xe), .val (.int xf), .val (.int (0 : Int32)), .val (.int w2), .val (.int w3), .val (.ref b4), .val (.int (0 : Int32)), .val (.int (0 : Int32)), .val (.int (0 : Int32)), .val (.int w6), .val (.ref b7), .unset, .unset] [(.int xe), (.int (4 : Int32)), (.ref b7)]))
    refine own_by (fun _ => XS.iconst Y16.here hx rfl (hb hby at_225)) ?_
    show own_Go p e below _ (T16.setTop (mkF m 226 #[.val (.int xa), .val (.int xb), .val (.int xc), .val (.int xd), .val (.int xe), .val (.int xf), .val (.int (0 : Int32)), .val (.int w2), .val (.int w3), .val (.ref b4), .val (.int (0 : Int32)), .val (.int (0 : Int32)), .val (.int (0 : Int32)), .val (.int w6), .val (.ref b7), .unset, .unset] [(.int (4 : Int32)), (.int xe), (.int (4 : Int32)), (.ref b7)]))
    refine own_by (fun _ => XS.iadd Y16.here hx rfl (hb hby at_226) rfl) ?_
    show own_Go p e below _ (T16.setTop (mkF m 227 #[.val (.int xa), .val (.int xb), .val (.int xc), .val (.int xd), .val (.int xe), .val (.int xf), .val (.int (0 : Int32)), .val (.int w2), .val (.int w3), .val (.ref b4), .val (.int (0 : Int32)), .val (.int (0 : Int32)), .val (.int (0 : Int32)), .val (.int w6), .val (.ref b7), .unset, .unset] [(.int (xe + (4 : Int32))), (.int (4 : Int32)), (.ref b7)]))
    obtain ⟨cl17, ar17, q17, sz17, nn17, hs17, gs17⟩ := id va16
    have hin17 : ¬ ((4 : Int32) < 0 ∨ cl17.slots.size ≤ ((4 : Int32)).toNatClampNeg) := inb_of sz17 ⟨by decide, by decide⟩
    obtain ⟨T18, h18, X18, e18, W18, st18⟩ := stI Y16 hx hZ e16 ar17 (j := (4 : Int32)) hin17 (g := (mkF m 227 #[.val (.int xa), .val (.int xb), .val (.int xc), .val (.int xd), .val (.int xe), .val (.int xf), .val (.int (0 : Int32)), .val (.int w2), .val (.int w3), .val (.ref b4), .val (.int (0 : Int32)), .val (.int (0 : Int32)), .val (.int (0 : Int32)), .val (.int w6), .val (.ref b7), .unset, .unset] [(.int (xe + (4 : Int32))), (.int (4 : Int32)), (.ref b7)])) rfl rfl (hb hby at_227)
    refine own_by st18 ?_
    clear st18 Y16
    have va18 : Arv Z h18 b7 k7 .int (8 : Int32) [(.int xe), (.int (xe + (1 : Int32))), (.int (xe + (2 : Int32))), (.int (xe + (3 : Int32))), (.int (xe + (4 : Int32))), (.int (0 : Int32)), (.int (0 : Int32)), (.int (0 : Int32))] (.int (0 : Int32)) := Arv.set ar17 q17 sz17 nn17 hs17 gs17 rfl W18 4 rfl (Nat.le_of_ble_eq_true rfl)
    have z18 : n0 ≤ h18.size := Nat.le_trans z16 (Keep.of_wr W18).1
    have N18 := Fr.snoc X18 M16 ge7
    obtain ⟨lq18, Y18, M18⟩ : ∃ lq, Stand p l e room_1 s m #[(.int xa), (.int xb), (.int xc), (.int xd), (.int xe), (.int xf)] below meth c T18 lq 3 14 ∧ Fr n0 lq := ⟨_, X18, N18⟩
    clear X18 N18
    show own_Go p e below _ (T18.setTop (mkF m 228 #[.val (.int xa), .val (.int xb), .val (.int xc), .val (.int xd), .val (.int xe), .val (.int xf), .val (.int (0 : Int32)), .val (.int w2), .val (.int w3), .val (.ref b4), .val (.int (0 : Int32)), .val (.int (0 : Int32)), .val (.int (0 : Int32)), .val (.int w6), .val (.ref b7), .unset, .unset] []))
    refine own_by (fun _ => XS.aload Y18.here hx rfl (hb hby at_228) rfl rfl) ?_
    show own_Go p e below _ (T18.setTop (mkF m 230 #[.val (.int xa), .val (.int xb), .val (.int xc), .val (.int xd), .val (.int xe), .val (.int xf), .val (.int (0 : Int32)), .val (.int w2), .val (.int w3), .val (.ref b4), .val (.int (0 : Int32)), .val (.int (0 : Int32)), .val (.int (0 : Int32)), .val (.int w6), .val (.ref b7), .unset, .unset] [(.ref b7)]))
    refine own_by (fun _ => XS.iconst Y18.here hx rfl (hb hby at_230)) ?_
    show own_Go p e below _ (T18.setTop (mkF m 231 #[.val (.int xa), .val (.int xb), .val (.int xc), .val (.int xd), .val (.int xe), .val (.int xf), .val (.int (0 : Int32)), .val (.int w2), .val (.int w3), .val (.ref b4), .val (.int (0 : Int32)), .val (.int (0 : Int32)), .val (.int (0 : Int32)), .val (.int w6), .val (.ref b7), .unset, .unset] [(.int (5 : Int32)), (.ref b7)]))
    refine own_by (fun _ => XS.iload Y18.here hx rfl (hb hby at_231) rfl) ?_
    show own_Go p e below _ (T18.setTop (mkF m 233 #[.val (.int xa), .val (.int xb), .val (.int xc), .val (.int xd), .val (.int xe), .val (.int xf), .val (.int (0 : Int32)), .val (.int w2), .val (.int w3), .val (.ref b4), .val (.int (0 : Int32)), .val (.int (0 : Int32)), .val (.int (0 : Int32)), .val (.int w6), .val (.ref b7), .unset, .unset] [(.int xe), (.int (5 : Int32)), (.ref b7)]))
    refine own_by (fun _ => XS.iconst Y18.here hx rfl (hb hby at_233)) ?_
    show own_Go p e below _ (T18.setTop (mkF m 234 #[.val (.int xa), .val (.int xb), .val (.int xc), .val (.int xd), .val (.int xe), .val (.int xf), .val (.int (0 : Int32)), .val (.int w2), .val (.int w3), .val (.ref b4), .val (.int (0 : Int32)), .val (.int (0 : Int32)), .val (.int (0 : Int32)), .val (.int w6), .val (.ref b7), .unset, .unset] [(.int (5 : Int32)), (.int xe), (.int (5 : Int32)), (.ref b7)]))
    refine own_by (fun _ => XS.iadd Y18.here hx rfl (hb hby at_234) rfl) ?_
    show own_Go p e below _ (T18.setTop (mkF m 235 #[.val (.int xa), .val (.int xb), .val (.int xc), .val (.int xd), .val (.int xe), .val (.int xf), .val (.int (0 : Int32)), .val (.int w2), .val (.int w3), .val (.ref b4), .val (.int (0 : Int32)), .val (.int (0 : Int32)), .val (.int (0 : Int32)), .val (.int w6), .val (.ref b7), .unset, .unset] [(.int (xe + (5 : Int32))), (.int (5 : Int32)), (.ref b7)]))
    obtain ⟨cl19, ar19, q19, sz19, nn19, hs19, gs19⟩ := id va18
    have hin19 : ¬ ((5 : Int32) < 0 ∨ cl19.slots.size ≤ ((5 : Int32)).toNatClampNeg) := inb_of sz19 ⟨by decide, by decide⟩
    obtain ⟨T20, h20, X20, e20, W20, st20⟩ := stI Y18 hx hZ e18 ar19 (j := (5 : Int32)) hin19 (g := (mkF m 235 #[.val (.int xa), .val (.int xb), .val (.int xc), .val (.int xd), .val (.int xe), .val (.int xf), .val (.int (0 : Int32)), .val (.int w2), .val (.int w3), .val (.ref b4), .val (.int (0 : Int32)), .val (.int (0 : Int32)), .val (.int (0 : Int32)), .val (.int w6), .val (.ref b7), .unset, .unset] [(.int (xe + (5 : Int32))), (.int (5 : Int32)), (.ref b7)])) rfl rfl (hb hby at_235)
    refine own_by st20 ?_
    clear st20 Y18
    have va20 : Arv Z h20 b7 k7 .int (8 : Int32) [(.int xe), (.int (xe + (1 : Int32))), (.int (xe + (2 : Int32))), (.int (xe + (3 : Int32))), (.int (xe + (4 : Int32))), (.int (xe + (5 : Int32))), (.int (0 : Int32)), (.int (0 : Int32))] (.int (0 : Int32)) := Arv.set ar19 q19 sz19 nn19 hs19 gs19 rfl W20 5 rfl (Nat.le_of_ble_eq_true rfl)
    have z20 : n0 ≤ h20.size := Nat.le_trans z18 (Keep.of_wr W20).1
    have N20 := Fr.snoc X20 M18 ge7
    obtain ⟨lq20, Y20, M20⟩ : ∃ lq, Stand p l e room_1 s m #[(.int xa), (.int xb), (.int xc), (.int xd), (.int xe), (.int xf)] below meth c T20 lq 3 14 ∧ Fr n0 lq := ⟨_, X20, N20⟩
    clear X20 N20
    show own_Go p e below _ (T20.setTop (mkF m 236 #[.val (.int xa), .val (.int xb), .val (.int xc), .val (.int xd), .val (.int xe), .val (.int xf), .val (.int (0 : Int32)), .val (.int w2), .val (.int w3), .val (.ref b4), .val (.int (0 : Int32)), .val (.int (0 : Int32)), .val (.int (0 : Int32)), .val (.int w6), .val (.ref b7), .unset, .unset] []))
    refine own_by (fun _ => XS.aload Y20.here hx rfl (hb hby at_236) rfl rfl) ?_
    show own_Go p e below _ (T20.setTop (mkF m 238 #[.val (.int xa), .val (.int xb), .val (.int xc), .val (.int xd), .val (.int xe), .val (.int xf), .val (.int (0 : Int32)), .val (.int w2), .val (.int w3), .val (.ref b4), .val (.int (0 : Int32)), .val (.int (0 : Int32)), .val (.int (0 : Int32)), .val (.int w6), .val (.ref b7), .unset, .unset] [(.ref b7)]))
    refine own_by (fun _ => XS.bipush Y20.here hx rfl (hb hby at_238)) ?_
    show own_Go p e below _ (T20.setTop (mkF m 240 #[.val (.int xa), .val (.int xb), .val (.int xc), .val (.int xd), .val (.int xe), .val (.int xf), .val (.int (0 : Int32)), .val (.int w2), .val (.int w3), .val (.ref b4), .val (.int (0 : Int32)), .val (.int (0 : Int32)), .val (.int (0 : Int32)), .val (.int w6), .val (.ref b7), .unset, .unset] [(.int (6 : Int32)), (.ref b7)]))
    refine own_by (fun _ => XS.iload Y20.here hx rfl (hb hby at_240) rfl) ?_
    show own_Go p e below _ (T20.setTop (mkF m 242 #[.val (.int xa), .val (.int xb), .val (.int xc), .val (.int xd), .val (.int xe), .val (.int xf), .val (.int (0 : Int32)), .val (.int w2), .val (.int w3), .val (.ref b4), .val (.int (0 : Int32)), .val (.int (0 : Int32)), .val (.int (0 : Int32)), .val (.int w6), .val (.ref b7), .unset, .unset] [(.int xe), (.int (6 : Int32)), (.ref b7)]))
    refine own_by (fun _ => XS.bipush Y20.here hx rfl (hb hby at_242)) ?_
    show own_Go p e below _ (T20.setTop (mkF m 244 #[.val (.int xa), .val (.int xb), .val (.int xc), .val (.int xd), .val (.int xe), .val (.int xf), .val (.int (0 : Int32)), .val (.int w2), .val (.int w3), .val (.ref b4), .val (.int (0 : Int32)), .val (.int (0 : Int32)), .val (.int (0 : Int32)), .val (.int w6), .val (.ref b7), .unset, .unset] [(.int (6 : Int32)), (.int xe), (.int (6 : Int32)), (.ref b7)]))
    refine own_by (fun _ => XS.iadd Y20.here hx rfl (hb hby at_244) rfl) ?_
    show own_Go p e below _ (T20.setTop (mkF m 245 #[.val (.int xa), .val (.int xb), .val (.int xc), .val (.int xd), .val (.int xe), .val (.int xf), .val (.int (0 : Int32)), .val (.int w2), .val (.int w3), .val (.ref b4), .val (.int (0 : Int32)), .val (.int (0 : Int32)), .val (.int (0 : Int32)), .val (.int w6), .val (.ref b7), .unset, .unset] [(.int (xe + (6 : Int32))), (.int (6 : Int32)), (.ref b7)]))
    obtain ⟨cl21, ar21, q21, sz21, nn21, hs21, gs21⟩ := id va20
    have hin21 : ¬ ((6 : Int32) < 0 ∨ cl21.slots.size ≤ ((6 : Int32)).toNatClampNeg) := inb_of sz21 ⟨by decide, by decide⟩
    obtain ⟨T22, h22, X22, e22, W22, st22⟩ := stI Y20 hx hZ e20 ar21 (j := (6 : Int32)) hin21 (g := (mkF m 245 #[.val (.int xa), .val (.int xb), .val (.int xc), .val (.int xd), .val (.int xe), .val (.int xf), .val (.int (0 : Int32)), .val (.int w2), .val (.int w3), .val (.ref b4), .val (.int (0 : Int32)), .val (.int (0 : Int32)), .val (.int (0 : Int32)), .val (.int w6), .val (.ref b7), .unset, .unset] [(.int (xe + (6 : Int32))), (.int (6 : Int32)), (.ref b7)])) rfl rfl (hb hby at_245)
    refine own_by st22 ?_
    clear st22 Y20
    have va22 : Arv Z h22 b7 k7 .int (8 : Int32) [(.int xe), (.int (xe + (1 : Int32))), (.int (xe + (2 : Int32))), (.int (xe + (3 : Int32))), (.int (xe + (4 : Int32))), (.int (xe + (5 : Int32))), (.int (xe + (6 : Int32))), (.int (0 : Int32))] (.int (0 : Int32)) := Arv.set ar21 q21 sz21 nn21 hs21 gs21 rfl W22 6 rfl (Nat.le_of_ble_eq_true rfl)
    have z22 : n0 ≤ h22.size := Nat.le_trans z20 (Keep.of_wr W22).1
    have N22 := Fr.snoc X22 M20 ge7
    obtain ⟨lq22, Y22, M22⟩ : ∃ lq, Stand p l e room_1 s m #[(.int xa), (.int xb), (.int xc), (.int xd), (.int xe), (.int xf)] below meth c T22 lq 3 14 ∧ Fr n0 lq := ⟨_, X22, N22⟩
    clear X22 N22
    show own_Go p e below _ (T22.setTop (mkF m 246 #[.val (.int xa), .val (.int xb), .val (.int xc), .val (.int xd), .val (.int xe), .val (.int xf), .val (.int (0 : Int32)), .val (.int w2), .val (.int w3), .val (.ref b4), .val (.int (0 : Int32)), .val (.int (0 : Int32)), .val (.int (0 : Int32)), .val (.int w6), .val (.ref b7), .unset, .unset] []))
    refine own_by (fun _ => XS.aload Y22.here hx rfl (hb hby at_246) rfl rfl) ?_
    show own_Go p e below _ (T22.setTop (mkF m 248 #[.val (.int xa), .val (.int xb), .val (.int xc), .val (.int xd), .val (.int xe), .val (.int xf), .val (.int (0 : Int32)), .val (.int w2), .val (.int w3), .val (.ref b4), .val (.int (0 : Int32)), .val (.int (0 : Int32)), .val (.int (0 : Int32)), .val (.int w6), .val (.ref b7), .unset, .unset] [(.ref b7)]))
    refine own_by (fun _ => XS.bipush Y22.here hx rfl (hb hby at_248)) ?_
    show own_Go p e below _ (T22.setTop (mkF m 250 #[.val (.int xa), .val (.int xb), .val (.int xc), .val (.int xd), .val (.int xe), .val (.int xf), .val (.int (0 : Int32)), .val (.int w2), .val (.int w3), .val (.ref b4), .val (.int (0 : Int32)), .val (.int (0 : Int32)), .val (.int (0 : Int32)), .val (.int w6), .val (.ref b7), .unset, .unset] [(.int (7 : Int32)), (.ref b7)]))
    refine own_by (fun _ => XS.iload Y22.here hx rfl (hb hby at_250) rfl) ?_
    show own_Go p e below _ (T22.setTop (mkF m 252 #[.val (.int xa), .val (.int xb), .val (.int xc), .val (.int xd), .val (.int xe), .val (.int xf), .val (.int (0 : Int32)), .val (.int w2), .val (.int w3), .val (.ref b4), .val (.int (0 : Int32)), .val (.int (0 : Int32)), .val (.int (0 : Int32)), .val (.int w6), .val (.ref b7), .unset, .unset] [(.int xe), (.int (7 : Int32)), (.ref b7)]))
    refine own_by (fun _ => XS.bipush Y22.here hx rfl (hb hby at_252)) ?_
    show own_Go p e below _ (T22.setTop (mkF m 254 #[.val (.int xa), .val (.int xb), .val (.int xc), .val (.int xd), .val (.int xe), .val (.int xf), .val (.int (0 : Int32)), .val (.int w2), .val (.int w3), .val (.ref b4), .val (.int (0 : Int32)), .val (.int (0 : Int32)), .val (.int (0 : Int32)), .val (.int w6), .val (.ref b7), .unset, .unset] [(.int (7 : Int32)), (.int xe), (.int (7 : Int32)), (.ref b7)]))
    refine own_by (fun _ => XS.iadd Y22.here hx rfl (hb hby at_254) rfl) ?_
    show own_Go p e below _ (T22.setTop (mkF m 255 #[.val (.int xa), .val (.int xb), .val (.int xc), .val (.int xd), .val (.int xe), .val (.int xf), .val (.int (0 : Int32)), .val (.int w2), .val (.int w3), .val (.ref b4), .val (.int (0 : Int32)), .val (.int (0 : Int32)), .val (.int (0 : Int32)), .val (.int w6), .val (.ref b7), .unset, .unset] [(.int (xe + (7 : Int32))), (.int (7 : Int32)), (.ref b7)]))
    obtain ⟨cl23, ar23, q23, sz23, nn23, hs23, gs23⟩ := id va22
    have hin23 : ¬ ((7 : Int32) < 0 ∨ cl23.slots.size ≤ ((7 : Int32)).toNatClampNeg) := inb_of sz23 ⟨by decide, by decide⟩
    obtain ⟨T24, h24, X24, e24, W24, st24⟩ := stI Y22 hx hZ e22 ar23 (j := (7 : Int32)) hin23 (g := (mkF m 255 #[.val (.int xa), .val (.int xb), .val (.int xc), .val (.int xd), .val (.int xe), .val (.int xf), .val (.int (0 : Int32)), .val (.int w2), .val (.int w3), .val (.ref b4), .val (.int (0 : Int32)), .val (.int (0 : Int32)), .val (.int (0 : Int32)), .val (.int w6), .val (.ref b7), .unset, .unset] [(.int (xe + (7 : Int32))), (.int (7 : Int32)), (.ref b7)])) rfl rfl (hb hby at_255)
    refine own_by st24 ?_
    clear st24 Y22
    have va24 : Arv Z h24 b7 k7 .int (8 : Int32) [(.int xe), (.int (xe + (1 : Int32))), (.int (xe + (2 : Int32))), (.int (xe + (3 : Int32))), (.int (xe + (4 : Int32))), (.int (xe + (5 : Int32))), (.int (xe + (6 : Int32))), (.int (xe + (7 : Int32)))] (.int (0 : Int32)) := Arv.set ar23 q23 sz23 nn23 hs23 gs23 rfl W24 7 rfl (Nat.le_of_ble_eq_true rfl)
    have z24 : n0 ≤ h24.size := Nat.le_trans z22 (Keep.of_wr W24).1
    have N24 := Fr.snoc X24 M22 ge7
    obtain ⟨lq24, Y24, M24⟩ : ∃ lq, Stand p l e room_1 s m #[(.int xa), (.int xb), (.int xc), (.int xd), (.int xe), (.int xf)] below meth c T24 lq 3 14 ∧ Fr n0 lq := ⟨_, X24, N24⟩
    clear X24 N24
    show own_Go p e below _ (T24.setTop (mkF m 256 #[.val (.int xa), .val (.int xb), .val (.int xc), .val (.int xd), .val (.int xe), .val (.int xf), .val (.int (0 : Int32)), .val (.int w2), .val (.int w3), .val (.ref b4), .val (.int (0 : Int32)), .val (.int (0 : Int32)), .val (.int (0 : Int32)), .val (.int w6), .val (.ref b7), .unset, .unset] []))
    refine own_by (fun _ => XS.aload Y24.here hx rfl (hb hby at_256) rfl rfl) ?_
    show own_Go p e below _ (T24.setTop (mkF m 258 #[.val (.int xa), .val (.int xb), .val (.int xc), .val (.int xd), .val (.int xe), .val (.int xf), .val (.int (0 : Int32)), .val (.int w2), .val (.int w3), .val (.ref b4), .val (.int (0 : Int32)), .val (.int (0 : Int32)), .val (.int (0 : Int32)), .val (.int w6), .val (.ref b7), .unset, .unset] [(.ref b4)]))
    refine own_by (fun _ => XS.aload Y24.here hx rfl (hb hby at_258) rfl rfl) ?_
    show own_Go p e below _ (T24.setTop (mkF m 260 #[.val (.int xa), .val (.int xb), .val (.int xc), .val (.int xd), .val (.int xe), .val (.int xf), .val (.int (0 : Int32)), .val (.int w2), .val (.int w3), .val (.ref b4), .val (.int (0 : Int32)), .val (.int (0 : Int32)), .val (.int (0 : Int32)), .val (.int w6), .val (.ref b7), .unset, .unset] [(.ref b7), (.ref b4)]))
    refine own_by (fun _ => XS.iload Y24.here hx rfl (hb hby at_260) rfl) ?_
    show own_Go p e below _ (T24.setTop (mkF m 262 #[.val (.int xa), .val (.int xb), .val (.int xc), .val (.int xd), .val (.int xe), .val (.int xf), .val (.int (0 : Int32)), .val (.int w2), .val (.int w3), .val (.ref b4), .val (.int (0 : Int32)), .val (.int (0 : Int32)), .val (.int (0 : Int32)), .val (.int w6), .val (.ref b7), .unset, .unset] [(.int w6), (.ref b7), (.ref b4)]))
    have f25 : Exa Z h24 b4 "com/example/bucketsplit/bucketsplit/core/Page" := (((((((((f8.ext E7).wr W10).wr W12).wr W14).wr W16).wr W18).wr W20).wr W22).wr W24)
    have f26 : Fld Z h24 b4 "com/example/bucketsplit/bucketsplit/core/Page" "mKeys" "[I" (.ref kx_5) := (((((((((fc5_0.ext E7).other W10 (Or.inl ne7_b4)).other W12 (Or.inl ne7_b4)).other W14 (Or.inl ne7_b4)).other W16 (Or.inl ne7_b4)).other W18 (Or.inl ne7_b4)).other W20 (Or.inl ne7_b4)).other W22 (Or.inl ne7_b4)).other W24 (Or.inl ne7_b4))
    have f27 : Fld Z h24 b4 "com/example/bucketsplit/bucketsplit/core/Page" "mSize" "I" (.int (0 : Int32)) := (((((((((fc5_1.ext E7).other W10 (Or.inl ne7_b4)).other W12 (Or.inl ne7_b4)).other W14 (Or.inl ne7_b4)).other W16 (Or.inl ne7_b4)).other W18 (Or.inl ne7_b4)).other W20 (Or.inl ne7_b4)).other W22 (Or.inl ne7_b4)).other W24 (Or.inl ne7_b4))
    have f28 : Arv Z h24 kx_5 kk_5 .int (4 : Int32) [(.int (0 : Int32)), (.int (0 : Int32)), (.int (0 : Int32)), (.int (0 : Int32))] (.int (0 : Int32)) := (((((((((fc5_2.ext E7).other W10 ne7_kx_5).other W12 ne7_kx_5).other W14 ne7_kx_5).other W16 ne7_kx_5).other W18 ne7_kx_5).other W20 ne7_kx_5).other W22 ne7_kx_5).other W24 ne7_kx_5)
    obtain ⟨cq29, kq29, q29a, q29b, q29c⟩ := isOf hZ e24 f25
    obtain ⟨_, _, ⟨T29, L29, k29, n29⟩, -, X29, ⟨Lc29, hQ29, l29, y29, z29'⟩, st29⟩ := Y24.virtualBack hx (y := (⟨"com/example/bucketsplit/bucketsplit/core/Page", "takeAll", "([II)I"⟩ : MethodName)) (z := (⟨"com/example/bucketsplit/bucketsplit/core/Page", "takeAll", "([II)I"⟩ : MethodName)) hown (mvT hZ (hw _ (List.mem_of_getElem? (i := 27) rfl))) (mvT hZ (hw _ (List.mem_of_getElem? (i := 28) rfl))) (notFace_of_selects (args := #[]) (mvT hZ (hw _ (List.mem_of_getElem? (i := 30) rfl)))) (mvT hZ (hw _ (List.mem_of_getElem? (i := 30) rfl))) (mvT hZ (hw _ (List.mem_of_getElem? (i := 29) rfl))) (by decide) (backOf (W := 0) (own_rm6_0 l Z a0 hw [] b4 b7 w6 kx_5 kk_5 k7 [xe, (xe + (1 : Int32)), (xe + (2 : Int32)), (xe + (3 : Int32)), (xe + (4 : Int32)), (xe + (5 : Int32)), (xe + (6 : Int32)), (xe + (7 : Int32))] (0 : Int32) (0 : Int32) (0 : Int32) (0 : Int32) h24 n0 z24 f25 f26 f27 f28 va24 ne5_b4 ne7_b4 ne7_kx_5 ge4 ge7 ((own_atlo hw6) : ¬ (w6 < (0 : Int32))) ((own_athi hw6) : w6 < (9 : Int32)) ((by first | rfl | simp) : [xe, (xe + (1 : Int32)), (xe + (2 : Int32)), (xe + (3 : Int32)), (xe + (4 : Int32)), (xe + (5 : Int32)), (xe + (6 : Int32)), (xe + (7 : Int32))].length = 8)) hZ (hw _ (List.mem_of_getElem? (i := 31) rfl)) (hw _ (List.mem_of_getElem? (i := 2) rfl)) (by decide) (by decide)) q29a q29c (g := (mkF m 262 #[.val (.int xa), .val (.int xb), .val (.int xc), .val (.int xd), .val (.int xe), .val (.int xf), .val (.int (0 : Int32)), .val (.int w2), .val (.int w3), .val (.ref b4), .val (.int (0 : Int32)), .val (.int (0 : Int32)), .val (.int (0 : Int32)), .val (.int w6), .val (.ref b7), .unset, .unset] [(.int w6), (.ref b7), (.ref b4)])) rfl (by rw [hml]; rfl) (Steps.refl _) (argsL := [(.ref b7), (.int w6)]) (rest := []) (lenOf own_pd1 rfl) rfl (by show 2 * 0 + _ ≤ _; exact Nat.le_of_eq rfl) (hb hby at_262) (fun _ _ => ⟨rfl, e24, (by decide : 3 + 0 ≤ _), (by decide : 14 + 0 ≤ _)⟩)
    dsimp only [Pt.U, Pt.locs, Pt.cells, Pt.slots] at X29 l29 y29 z29' st29 hQ29
    subst l29 y29 z29'
    obtain ⟨rfl, N29q, Kc29, fc29_0, fc29_1⟩ := hQ29
    have N29 := Fr.app M24 N29q
    refine own_tr st29 ?_
    clear st29 Y24
    obtain ⟨lq29, Y29, M29⟩ : ∃ lq, Stand p l e room_1 s m #[(.int xa), (.int xb), (.int xc), (.int xd), (.int xe), (.int xf)] below meth c T29 lq 3 14 ∧ Fr n0 lq := ⟨_, X29, N29⟩
    clear X29 N29
    have z29 : n0 ≤ T29.heap.size := Nat.le_trans z24 Kc29.1
    obtain ⟨ls29_1, hls29_1⟩ : ∃ z : List Int32, z = [xe, (xe + (1 : Int32)), (xe + (2 : Int32)), (xe + (3 : Int32)), (xe + (4 : Int32)), (xe + (5 : Int32)), (xe + (6 : Int32)), (xe + (7 : Int32))] := ⟨_, rfl⟩
    rw [← hls29_1] at fc29_1
    show own_Go p e below _ (T29.setTop (mkF m 265 #[.val (.int xa), .val (.int xb), .val (.int xc), .val (.int xd), .val (.int xe), .val (.int xf), .val (.int (0 : Int32)), .val (.int w2), .val (.int w3), .val (.ref b4), .val (.int (0 : Int32)), .val (.int (0 : Int32)), .val (.int (0 : Int32)), .val (.int w6), .val (.ref b7), .unset, .unset] [(.int (w6 + (0 : Int32)))]))
    refine own_by (fun _ => XS.istore Y29.here hx rfl (hb hby at_265) rfl (l' := #[.val (.int xa), .val (.int xb), .val (.int xc), .val (.int xd), .val (.int xe), .val (.int xf), .val (.int (0 : Int32)), .val (.int w2), .val (.int w3), .val (.ref b4), .val (.int (0 : Int32)), .val (.int (0 : Int32)), .val (.int (0 : Int32)), .val (.int w6), .val (.ref b7), .val (.int (w6 + (0 : Int32))), .unset]) rfl) ?_
    show own_Go p e below _ (T29.setTop (mkF m 267 #[.val (.int xa), .val (.int xb), .val (.int xc), .val (.int xd), .val (.int xe), .val (.int xf), .val (.int (0 : Int32)), .val (.int w2), .val (.int w3), .val (.ref b4), .val (.int (0 : Int32)), .val (.int (0 : Int32)), .val (.int (0 : Int32)), .val (.int w6), .val (.ref b7), .val (.int (w6 + (0 : Int32))), .unset] []))
    refine own_by (fun _ => XS.iload Y29.here hx rfl (hb hby at_267) rfl) ?_
    show own_Go p e below _ (T29.setTop (mkF m 269 #[.val (.int xa), .val (.int xb), .val (.int xc), .val (.int xd), .val (.int xe), .val (.int xf), .val (.int (0 : Int32)), .val (.int w2), .val (.int w3), .val (.ref b4), .val (.int (0 : Int32)), .val (.int (0 : Int32)), .val (.int (0 : Int32)), .val (.int w6), .val (.ref b7), .val (.int (w6 + (0 : Int32))), .unset] [(.int (w6 + (0 : Int32)))]))
    refine own_by (fun _ => XS.iload Y29.here hx rfl (hb hby at_269) rfl) ?_
    show own_Go p e below _ (T29.setTop (mkF m 271 #[.val (.int xa), .val (.int xb), .val (.int xc), .val (.int xd), .val (.int xe), .val (.int xf), .val (.int (0 : Int32)), .val (.int w2), .val (.int w3), .val (.ref b4), .val (.int (0 : Int32)), .val (.int (0 : Int32)), .val (.int (0 : Int32)), .val (.int w6), .val (.ref b7), .val (.int (w6 + (0 : Int32))), .unset] [(.int w6), (.int (w6 + (0 : Int32)))]))
    refine own_by (fun _ => XS.iload Y29.here hx rfl (hb hby at_271) rfl) ?_
    show own_Go p e below _ (T29.setTop (mkF m 273 #[.val (.int xa), .val (.int xb), .val (.int xc), .val (.int xd), .val (.int xe), .val (.int xf), .val (.int (0 : Int32)), .val (.int w2), .val (.int w3), .val (.ref b4), .val (.int (0 : Int32)), .val (.int (0 : Int32)), .val (.int (0 : Int32)), .val (.int w6), .val (.ref b7), .val (.int (w6 + (0 : Int32))), .unset] [(.int (0 : Int32)), (.int w6), (.int (w6 + (0 : Int32)))]))
    refine own_by (fun _ => XS.iadd Y29.here hx rfl (hb hby at_273) rfl) ?_
    show own_Go p e below _ (T29.setTop (mkF m 274 #[.val (.int xa), .val (.int xb), .val (.int xc), .val (.int xd), .val (.int xe), .val (.int xf), .val (.int (0 : Int32)), .val (.int w2), .val (.int w3), .val (.ref b4), .val (.int (0 : Int32)), .val (.int (0 : Int32)), .val (.int (0 : Int32)), .val (.int w6), .val (.ref b7), .val (.int (w6 + (0 : Int32))), .unset] [(.int (w6 + (0 : Int32))), (.int (w6 + (0 : Int32)))]))
    refine own_by (fun _ => XS.icmpNo Y29.here hx rfl (hb hby at_274) rfl (teq (rfl : (w6 + (0 : Int32)) = (w6 + (0 : Int32)))).2) ?_
    show own_Go p e below _ (T29.setTop (mkF m 277 #[.val (.int xa), .val (.int xb), .val (.int xc), .val (.int xd), .val (.int xe), .val (.int xf), .val (.int (0 : Int32)), .val (.int w2), .val (.int w3), .val (.ref b4), .val (.int (0 : Int32)), .val (.int (0 : Int32)), .val (.int (0 : Int32)), .val (.int w6), .val (.ref b7), .val (.int (w6 + (0 : Int32))), .unset] []))
    refine own_by (fun _ => XS.aload Y29.here hx rfl (hb hby at_277) rfl rfl) ?_
    show own_Go p e below _ (T29.setTop (mkF m 279 #[.val (.int xa), .val (.int xb), .val (.int xc), .val (.int xd), .val (.int xe), .val (.int xf), .val (.int (0 : Int32)), .val (.int w2), .val (.int w3), .val (.ref b4), .val (.int (0 : Int32)), .val (.int (0 : Int32)), .val (.int (0 : Int32)), .val (.int w6), .val (.ref b7), .val (.int (w6 + (0 : Int32))), .unset] [(.ref b4)]))
    have f31 : Exa Z T29.heap b4 "com/example/bucketsplit/bucketsplit/core/Page" := (f25.keep Kc29)
    obtain ⟨cq30, kq30, q30a, q30b, q30c⟩ := isOf hZ rfl f31
    obtain ⟨_, _, ⟨T30, L30, k30, n30⟩, -, X30, ⟨Lc30, hQ30, l30, y30, z30'⟩, st30⟩ := Y29.virtualBack hx (y := (⟨"com/example/bucketsplit/bucketsplit/core/Page", "size", "()I"⟩ : MethodName)) (z := (⟨"com/example/bucketsplit/bucketsplit/core/Page", "size", "()I"⟩ : MethodName)) hown (mvT hZ (hw _ (List.mem_of_getElem? (i := 32) rfl))) (mvT hZ (hw _ (List.mem_of_getElem? (i := 33) rfl))) (notFace_of_selects (args := #[]) (mvT hZ (hw _ (List.mem_of_getElem? (i := 35) rfl)))) (mvT hZ (hw _ (List.mem_of_getElem? (i := 35) rfl))) (mvT hZ (hw _ (List.mem_of_getElem? (i := 34) rfl))) (by decide) (backOf (W := 0) (own_rm7 l Z a0 hw [] b4 (0 : Int32) T29.heap n0 z29 fc29_0) hZ (hw _ (List.mem_of_getElem? (i := 36) rfl)) (hw _ (List.mem_of_getElem? (i := 2) rfl)) (by decide) (by decide)) q30a q30c (g := (mkF m 279 #[.val (.int xa), .val (.int xb), .val (.int xc), .val (.int xd), .val (.int xe), .val (.int xf), .val (.int (0 : Int32)), .val (.int w2), .val (.int w3), .val (.ref b4), .val (.int (0 : Int32)), .val (.int (0 : Int32)), .val (.int (0 : Int32)), .val (.int w6), .val (.ref b7), .val (.int (w6 + (0 : Int32))), .unset] [(.ref b4)])) rfl (by rw [hml]; rfl) (Steps.refl _) (argsL := []) (rest := []) (lenOf own_pd2 rfl) rfl (by show 2 * 0 + _ ≤ _; exact Nat.le_of_eq rfl) (hb hby at_279) (fun _ _ => ⟨rfl, rfl, (by decide : 3 + 0 ≤ _), (by decide : 14 + 0 ≤ _)⟩)
    dsimp only [Pt.U, Pt.locs, Pt.cells, Pt.slots] at X30 l30 y30 z30' st30 hQ30
    subst l30 y30 z30'
    obtain ⟨rfl, N30q, e30⟩ := hQ30
    have N30 := Fr.app M29 N30q
    refine own_tr st30 ?_
    clear st30 Y29
    obtain ⟨lq30, Y30, M30⟩ : ∃ lq, Stand p l e room_1 s m #[(.int xa), (.int xb), (.int xc), (.int xd), (.int xe), (.int xf)] below meth c T30 lq 3 14 ∧ Fr n0 lq := ⟨_, X30, N30⟩
    clear X30 N30
    show own_Go p e below _ (T30.setTop (mkF m 282 #[.val (.int xa), .val (.int xb), .val (.int xc), .val (.int xd), .val (.int xe), .val (.int xf), .val (.int (0 : Int32)), .val (.int w2), .val (.int w3), .val (.ref b4), .val (.int (0 : Int32)), .val (.int (0 : Int32)), .val (.int (0 : Int32)), .val (.int w6), .val (.ref b7), .val (.int (w6 + (0 : Int32))), .unset] [(.int (0 : Int32))]))
    refine own_by (fun _ => XS.ifNo Y30.here hx rfl (hb hby at_282) rfl ((if0 _ _).trans (teq (by decide : (0 : Int32) = (0 : Int32))).2)) ?_
    show own_Go p e below _ (T30.setTop (mkF m 285 #[.val (.int xa), .val (.int xb), .val (.int xc), .val (.int xd), .val (.int xe), .val (.int xf), .val (.int (0 : Int32)), .val (.int w2), .val (.int w3), .val (.ref b4), .val (.int (0 : Int32)), .val (.int (0 : Int32)), .val (.int (0 : Int32)), .val (.int w6), .val (.ref b7), .val (.int (w6 + (0 : Int32))), .unset] []))
    refine own_by (fun _ => XS.iconst Y30.here hx rfl (hb hby at_285)) ?_
    show own_Go p e below _ (T30.setTop (mkF m 286 #[.val (.int xa), .val (.int xb), .val (.int xc), .val (.int xd), .val (.int xe), .val (.int xf), .val (.int (0 : Int32)), .val (.int w2), .val (.int w3), .val (.ref b4), .val (.int (0 : Int32)), .val (.int (0 : Int32)), .val (.int (0 : Int32)), .val (.int w6), .val (.ref b7), .val (.int (w6 + (0 : Int32))), .unset] [(.int (1 : Int32))]))
    refine own_by (fun _ => XS.goto Y30.here hx rfl (pc0 := 286) (pc' := 290) rfl (hb hby at_286) (by decide) (by decide)) ?_
    show own_Go p e below _ (T30.setTop (mkF m 290 #[.val (.int xa), .val (.int xb), .val (.int xc), .val (.int xd), .val (.int xe), .val (.int xf), .val (.int (0 : Int32)), .val (.int w2), .val (.int w3), .val (.ref b4), .val (.int (0 : Int32)), .val (.int (0 : Int32)), .val (.int (0 : Int32)), .val (.int w6), .val (.ref b7), .val (.int (w6 + (0 : Int32))), .unset] [(.int (1 : Int32))]))
    refine own_by (fun _ => XS.istore Y30.here hx rfl (hb hby at_290) rfl (l' := #[.val (.int xa), .val (.int xb), .val (.int xc), .val (.int xd), .val (.int xe), .val (.int xf), .val (.int (0 : Int32)), .val (.int w2), .val (.int w3), .val (.ref b4), .val (.int (0 : Int32)), .val (.int (0 : Int32)), .val (.int (0 : Int32)), .val (.int w6), .val (.ref b7), .val (.int (w6 + (0 : Int32))), .val (.int (1 : Int32))]) rfl) ?_
    show own_Go p e below _ (T30.setTop (mkF m 292 #[.val (.int xa), .val (.int xb), .val (.int xc), .val (.int xd), .val (.int xe), .val (.int xf), .val (.int (0 : Int32)), .val (.int w2), .val (.int w3), .val (.ref b4), .val (.int (0 : Int32)), .val (.int (0 : Int32)), .val (.int (0 : Int32)), .val (.int w6), .val (.ref b7), .val (.int (w6 + (0 : Int32))), .val (.int (1 : Int32))] []))
    refine own_by (fun _ => XS.iload Y30.here hx rfl (hb hby at_292) rfl) ?_
    show own_Go p e below _ (T30.setTop (mkF m 294 #[.val (.int xa), .val (.int xb), .val (.int xc), .val (.int xd), .val (.int xe), .val (.int xf), .val (.int (0 : Int32)), .val (.int w2), .val (.int w3), .val (.ref b4), .val (.int (0 : Int32)), .val (.int (0 : Int32)), .val (.int (0 : Int32)), .val (.int w6), .val (.ref b7), .val (.int (w6 + (0 : Int32))), .val (.int (1 : Int32))] [(.int (1 : Int32))]))
    refine own_by (fun _ => XS.ifNo Y30.here hx rfl (hb hby at_294) rfl ((if0 _ _).trans (feq (by decide : ¬ ((1 : Int32) = (0 : Int32)))).1)) ?_
    show own_Go p e below _ (T30.setTop (mkF m 297 #[.val (.int xa), .val (.int xb), .val (.int xc), .val (.int xd), .val (.int xe), .val (.int xf), .val (.int (0 : Int32)), .val (.int w2), .val (.int w3), .val (.ref b4), .val (.int (0 : Int32)), .val (.int (0 : Int32)), .val (.int (0 : Int32)), .val (.int w6), .val (.ref b7), .val (.int (w6 + (0 : Int32))), .val (.int (1 : Int32))] []))
    refine own_by (fun _ => XS.aload Y30.here hx rfl (hb hby at_297) rfl rfl) ?_
    show own_Go p e below _ (T30.setTop (mkF m 299 #[.val (.int xa), .val (.int xb), .val (.int xc), .val (.int xd), .val (.int xe), .val (.int xf), .val (.int (0 : Int32)), .val (.int w2), .val (.int w3), .val (.ref b4), .val (.int (0 : Int32)), .val (.int (0 : Int32)), .val (.int (0 : Int32)), .val (.int w6), .val (.ref b7), .val (.int (w6 + (0 : Int32))), .val (.int (1 : Int32))] [(.ref b7)]))
    refine own_by (fun _ => XS.iconst Y30.here hx rfl (hb hby at_299)) ?_
    show own_Go p e below _ (T30.setTop (mkF m 300 #[.val (.int xa), .val (.int xb), .val (.int xc), .val (.int xd), .val (.int xe), .val (.int xf), .val (.int (0 : Int32)), .val (.int w2), .val (.int w3), .val (.ref b4), .val (.int (0 : Int32)), .val (.int (0 : Int32)), .val (.int (0 : Int32)), .val (.int w6), .val (.ref b7), .val (.int (w6 + (0 : Int32))), .val (.int (1 : Int32))] [(.int (0 : Int32)), (.ref b7)]))
    refine own_by (fun _ => XS.iload Y30.here hx rfl (hb hby at_300) rfl) ?_
    show own_Go p e below _ (T30.setTop (mkF m 302 #[.val (.int xa), .val (.int xb), .val (.int xc), .val (.int xd), .val (.int xe), .val (.int xf), .val (.int (0 : Int32)), .val (.int w2), .val (.int w3), .val (.ref b4), .val (.int (0 : Int32)), .val (.int (0 : Int32)), .val (.int (0 : Int32)), .val (.int w6), .val (.ref b7), .val (.int (w6 + (0 : Int32))), .val (.int (1 : Int32))] [(.int w6), (.int (0 : Int32)), (.ref b7)]))
    refine own_by (fun _ => XS.iload Y30.here hx rfl (hb hby at_302) rfl) ?_
    show own_Go p e below _ (T30.setTop (mkF m 304 #[.val (.int xa), .val (.int xb), .val (.int xc), .val (.int xd), .val (.int xe), .val (.int xf), .val (.int (0 : Int32)), .val (.int w2), .val (.int w3), .val (.ref b4), .val (.int (0 : Int32)), .val (.int (0 : Int32)), .val (.int (0 : Int32)), .val (.int w6), .val (.ref b7), .val (.int (w6 + (0 : Int32))), .val (.int (1 : Int32))] [(.int (0 : Int32)), (.int w6), (.int (0 : Int32)), (.ref b7)]))
    refine own_by (fun _ => XS.iload Y30.here hx rfl (hb hby at_304) rfl) ?_
    show own_Go p e below _ (T30.setTop (mkF m 306 #[.val (.int xa), .val (.int xb), .val (.int xc), .val (.int xd), .val (.int xe), .val (.int xf), .val (.int (0 : Int32)), .val (.int w2), .val (.int w3), .val (.ref b4), .val (.int (0 : Int32)), .val (.int (0 : Int32)), .val (.int (0 : Int32)), .val (.int w6), .val (.ref b7), .val (.int (w6 + (0 : Int32))), .val (.int (1 : Int32))] [(.int (0 : Int32)), (.int (0 : Int32)), (.int w6), (.int (0 : Int32)), (.ref b7)]))
    refine own_by (fun _ => XS.iload Y30.here hx rfl (hb hby at_306) rfl) ?_
    show own_Go p e below _ (T30.setTop (mkF m 308 #[.val (.int xa), .val (.int xb), .val (.int xc), .val (.int xd), .val (.int xe), .val (.int xf), .val (.int (0 : Int32)), .val (.int w2), .val (.int w3), .val (.ref b4), .val (.int (0 : Int32)), .val (.int (0 : Int32)), .val (.int (0 : Int32)), .val (.int w6), .val (.ref b7), .val (.int (w6 + (0 : Int32))), .val (.int (1 : Int32))] [(.int (0 : Int32)), (.int (0 : Int32)), (.int (0 : Int32)), (.int w6), (.int (0 : Int32)), (.ref b7)]))
    refine own_by (fun _ => XS.iload Y30.here hx rfl (hb hby at_308) rfl) ?_
    show own_Go p e below _ (T30.setTop (mkF m 310 #[.val (.int xa), .val (.int xb), .val (.int xc), .val (.int xd), .val (.int xe), .val (.int xf), .val (.int (0 : Int32)), .val (.int w2), .val (.int w3), .val (.ref b4), .val (.int (0 : Int32)), .val (.int (0 : Int32)), .val (.int (0 : Int32)), .val (.int w6), .val (.ref b7), .val (.int (w6 + (0 : Int32))), .val (.int (1 : Int32))] [(.int (0 : Int32)), (.int (0 : Int32)), (.int (0 : Int32)), (.int (0 : Int32)), (.int w6), (.int (0 : Int32)), (.ref b7)]))
    refine own_by (fun _ => XS.iload Y30.here hx rfl (hb hby at_310) rfl) ?_
    show own_Go p e below _ (T30.setTop (mkF m 312 #[.val (.int xa), .val (.int xb), .val (.int xc), .val (.int xd), .val (.int xe), .val (.int xf), .val (.int (0 : Int32)), .val (.int w2), .val (.int w3), .val (.ref b4), .val (.int (0 : Int32)), .val (.int (0 : Int32)), .val (.int (0 : Int32)), .val (.int w6), .val (.ref b7), .val (.int (w6 + (0 : Int32))), .val (.int (1 : Int32))] [(.int xe), (.int (0 : Int32)), (.int (0 : Int32)), (.int (0 : Int32)), (.int (0 : Int32)), (.int w6), (.int (0 : Int32)), (.ref b7)]))
    obtain ⟨_, _, ⟨T32, L32, k32, n32⟩, -, X32, ⟨Lc32, hQ32, l32, y32, z32'⟩, st32⟩ := Jvm.LawKit.callS Y30 hx (y := (⟨"com/example/bucketsplit/bucketsplit/core/PageTakeAllPinLaw", "slot", "([IIIIIIII)Z"⟩ : MethodName)) hown (mvT hZ (hw _ (List.mem_of_getElem? (i := 37) rfl))) (mvT hZ (hw _ (List.mem_of_getElem? (i := 38) rfl))) (mvT hZ (hw _ (List.mem_of_getElem? (i := 39) rfl))) (mvT hZ (hw _ (List.mem_of_getElem? (i := 40) rfl))) (by decide) (backOf (W := 0) (own_rm8 l Z a0 hw [] b7 (0 : Int32) w6 (0 : Int32) (0 : Int32) (0 : Int32) (0 : Int32) xe k7 ls29_1 T29.heap n0 z29 fc29_1 (by decide : ¬ ((0 : Int32) < (0 : Int32))) (by decide : (0 : Int32) < (8 : Int32))) hZ (hw _ (List.mem_of_getElem? (i := 40) rfl)) (hw _ (List.mem_of_getElem? (i := 39) rfl)) (by decide) (by decide)) (g := (mkF m 312 #[.val (.int xa), .val (.int xb), .val (.int xc), .val (.int xd), .val (.int xe), .val (.int xf), .val (.int (0 : Int32)), .val (.int w2), .val (.int w3), .val (.ref b4), .val (.int (0 : Int32)), .val (.int (0 : Int32)), .val (.int (0 : Int32)), .val (.int w6), .val (.ref b7), .val (.int (w6 + (0 : Int32))), .val (.int (1 : Int32))] [(.int xe), (.int (0 : Int32)), (.int (0 : Int32)), (.int (0 : Int32)), (.int (0 : Int32)), (.int w6), (.int (0 : Int32)), (.ref b7)])) rfl (by rw [hml]; rfl) (argsL := [(.ref b7), (.int (0 : Int32)), (.int w6), (.int (0 : Int32)), (.int (0 : Int32)), (.int (0 : Int32)), (.int (0 : Int32)), (.int xe)]) (rest := []) (lenOf own_pd3 rfl) rfl (by show 2 * 0 + _ ≤ _; exact Nat.le_of_eq rfl) (hb hby at_312) (fun _ _ => ⟨rfl, e30, (by decide : 3 + 0 ≤ _), (by decide : 14 + 0 ≤ _)⟩)
    dsimp only [Pt.U, Pt.locs, Pt.cells, Pt.slots] at X32 l32 y32 z32' st32 hQ32
    subst l32 y32 z32'
    obtain ⟨rfl, N32q, e32⟩ := hQ32
    have N32 := Fr.app M30 N32q
    refine own_by st32 ?_
    clear st32 Y30
    obtain ⟨lq32, Y32, M32⟩ : ∃ lq, Stand p l e room_1 s m #[(.int xa), (.int xb), (.int xc), (.int xd), (.int xe), (.int xf)] below meth c T32 lq 3 14 ∧ Fr n0 lq := ⟨_, X32, N32⟩
    clear X32 N32
    show own_Go p e below _ (T32.setTop (mkF m 315 #[.val (.int xa), .val (.int xb), .val (.int xc), .val (.int xd), .val (.int xe), .val (.int xf), .val (.int (0 : Int32)), .val (.int w2), .val (.int w3), .val (.ref b4), .val (.int (0 : Int32)), .val (.int (0 : Int32)), .val (.int (0 : Int32)), .val (.int w6), .val (.ref b7), .val (.int (w6 + (0 : Int32))), .val (.int (1 : Int32))] [(.int (own_slot (0 : Int32) w6 (0 : Int32) (0 : Int32) (0 : Int32) (0 : Int32) xe ls29_1))]))
    refine own_by (fun _ => XS.ifNo Y32.here hx rfl (hb hby at_315) rfl ((if0 _ _).trans (feq (own_no0 (own_sl0 xe w6 (0 : Int32) hls29_1 (own_at0 hw6) (by decide)))).1)) ?_
    show own_Go p e below _ (T32.setTop (mkF m 318 #[.val (.int xa), .val (.int xb), .val (.int xc), .val (.int xd), .val (.int xe), .val (.int xf), .val (.int (0 : Int32)), .val (.int w2), .val (.int w3), .val (.ref b4), .val (.int (0 : Int32)), .val (.int (0 : Int32)), .val (.int (0 : Int32)), .val (.int w6), .val (.ref b7), .val (.int (w6 + (0 : Int32))), .val (.int (1 : Int32))] []))
    refine own_by (fun _ => XS.iconst Y32.here hx rfl (hb hby at_318)) ?_
    show own_Go p e below _ (T32.setTop (mkF m 319 #[.val (.int xa), .val (.int xb), .val (.int xc), .val (.int xd), .val (.int xe), .val (.int xf), .val (.int (0 : Int32)), .val (.int w2), .val (.int w3), .val (.ref b4), .val (.int (0 : Int32)), .val (.int (0 : Int32)), .val (.int (0 : Int32)), .val (.int w6), .val (.ref b7), .val (.int (w6 + (0 : Int32))), .val (.int (1 : Int32))] [(.int (1 : Int32))]))
    refine own_by (fun _ => XS.goto Y32.here hx rfl (pc0 := 319) (pc' := 323) rfl (hb hby at_319) (by decide) (by decide)) ?_
    show own_Go p e below _ (T32.setTop (mkF m 323 #[.val (.int xa), .val (.int xb), .val (.int xc), .val (.int xd), .val (.int xe), .val (.int xf), .val (.int (0 : Int32)), .val (.int w2), .val (.int w3), .val (.ref b4), .val (.int (0 : Int32)), .val (.int (0 : Int32)), .val (.int (0 : Int32)), .val (.int w6), .val (.ref b7), .val (.int (w6 + (0 : Int32))), .val (.int (1 : Int32))] [(.int (1 : Int32))]))
    refine own_by (fun _ => XS.istore Y32.here hx rfl (hb hby at_323) rfl (l' := #[.val (.int xa), .val (.int xb), .val (.int xc), .val (.int xd), .val (.int xe), .val (.int xf), .val (.int (0 : Int32)), .val (.int w2), .val (.int w3), .val (.ref b4), .val (.int (0 : Int32)), .val (.int (0 : Int32)), .val (.int (0 : Int32)), .val (.int w6), .val (.ref b7), .val (.int (w6 + (0 : Int32))), .val (.int (1 : Int32))]) rfl) ?_
    show own_Go p e below _ (T32.setTop (mkF m 325 #[.val (.int xa), .val (.int xb), .val (.int xc), .val (.int xd), .val (.int xe), .val (.int xf), .val (.int (0 : Int32)), .val (.int w2), .val (.int w3), .val (.ref b4), .val (.int (0 : Int32)), .val (.int (0 : Int32)), .val (.int (0 : Int32)), .val (.int w6), .val (.ref b7), .val (.int (w6 + (0 : Int32))), .val (.int (1 : Int32))] []))
    refine own_by (fun _ => XS.iload Y32.here hx rfl (hb hby at_325) rfl) ?_
    show own_Go p e below _ (T32.setTop (mkF m 327 #[.val (.int xa), .val (.int xb), .val (.int xc), .val (.int xd), .val (.int xe), .val (.int xf), .val (.int (0 : Int32)), .val (.int w2), .val (.int w3), .val (.ref b4), .val (.int (0 : Int32)), .val (.int (0 : Int32)), .val (.int (0 : Int32)), .val (.int w6), .val (.ref b7), .val (.int (w6 + (0 : Int32))), .val (.int (1 : Int32))] [(.int (1 : Int32))]))
    refine own_by (fun _ => XS.ifNo Y32.here hx rfl (hb hby at_327) rfl ((if0 _ _).trans (feq (by decide : ¬ ((1 : Int32) = (0 : Int32)))).1)) ?_
    show own_Go p e below _ (T32.setTop (mkF m 330 #[.val (.int xa), .val (.int xb), .val (.int xc), .val (.int xd), .val (.int xe), .val (.int xf), .val (.int (0 : Int32)), .val (.int w2), .val (.int w3), .val (.ref b4), .val (.int (0 : Int32)), .val (.int (0 : Int32)), .val (.int (0 : Int32)), .val (.int w6), .val (.ref b7), .val (.int (w6 + (0 : Int32))), .val (.int (1 : Int32))] []))
    refine own_by (fun _ => XS.aload Y32.here hx rfl (hb hby at_330) rfl rfl) ?_
    show own_Go p e below _ (T32.setTop (mkF m 332 #[.val (.int xa), .val (.int xb), .val (.int xc), .val (.int xd), .val (.int xe), .val (.int xf), .val (.int (0 : Int32)), .val (.int w2), .val (.int w3), .val (.ref b4), .val (.int (0 : Int32)), .val (.int (0 : Int32)), .val (.int (0 : Int32)), .val (.int w6), .val (.ref b7), .val (.int (w6 + (0 : Int32))), .val (.int (1 : Int32))] [(.ref b7)]))
    refine own_by (fun _ => XS.iconst Y32.here hx rfl (hb hby at_332)) ?_
    show own_Go p e below _ (T32.setTop (mkF m 333 #[.val (.int xa), .val (.int xb), .val (.int xc), .val (.int xd), .val (.int xe), .val (.int xf), .val (.int (0 : Int32)), .val (.int w2), .val (.int w3), .val (.ref b4), .val (.int (0 : Int32)), .val (.int (0 : Int32)), .val (.int (0 : Int32)), .val (.int w6), .val (.ref b7), .val (.int (w6 + (0 : Int32))), .val (.int (1 : Int32))] [(.int (1 : Int32)), (.ref b7)]))
    refine own_by (fun _ => XS.iload Y32.here hx rfl (hb hby at_333) rfl) ?_
    show own_Go p e below _ (T32.setTop (mkF m 335 #[.val (.int xa), .val (.int xb), .val (.int xc), .val (.int xd), .val (.int xe), .val (.int xf), .val (.int (0 : Int32)), .val (.int w2), .val (.int w3), .val (.ref b4), .val (.int (0 : Int32)), .val (.int (0 : Int32)), .val (.int (0 : Int32)), .val (.int w6), .val (.ref b7), .val (.int (w6 + (0 : Int32))), .val (.int (1 : Int32))] [(.int w6), (.int (1 : Int32)), (.ref b7)]))
    refine own_by (fun _ => XS.iload Y32.here hx rfl (hb hby at_335) rfl) ?_
    show own_Go p e below _ (T32.setTop (mkF m 337 #[.val (.int xa), .val (.int xb), .val (.int xc), .val (.int xd), .val (.int xe), .val (.int xf), .val (.int (0 : Int32)), .val (.int w2), .val (.int w3), .val (.ref b4), .val (.int (0 : Int32)), .val (.int (0 : Int32)), .val (.int (0 : Int32)), .val (.int w6), .val (.ref b7), .val (.int (w6 + (0 : Int32))), .val (.int (1 : Int32))] [(.int (0 : Int32)), (.int w6), (.int (1 : Int32)), (.ref b7)]))
    refine own_by (fun _ => XS.iload Y32.here hx rfl (hb hby at_337) rfl) ?_
    show own_Go p e below _ (T32.setTop (mkF m 339 #[.val (.int xa), .val (.int xb), .val (.int xc), .val (.int xd), .val (.int xe), .val (.int xf), .val (.int (0 : Int32)), .val (.int w2), .val (.int w3), .val (.ref b4), .val (.int (0 : Int32)), .val (.int (0 : Int32)), .val (.int (0 : Int32)), .val (.int w6), .val (.ref b7), .val (.int (w6 + (0 : Int32))), .val (.int (1 : Int32))] [(.int (0 : Int32)), (.int (0 : Int32)), (.int w6), (.int (1 : Int32)), (.ref b7)]))
    refine own_by (fun _ => XS.iload Y32.here hx rfl (hb hby at_339) rfl) ?_
    show own_Go p e below _ (T32.setTop (mkF m 341 #[.val (.int xa), .val (.int xb), .val (.int xc), .val (.int xd), .val (.int xe), .val (.int xf), .val (.int (0 : Int32)), .val (.int w2), .val (.int w3), .val (.ref b4), .val (.int (0 : Int32)), .val (.int (0 : Int32)), .val (.int (0 : Int32)), .val (.int w6), .val (.ref b7), .val (.int (w6 + (0 : Int32))), .val (.int (1 : Int32))] [(.int (0 : Int32)), (.int (0 : Int32)), (.int (0 : Int32)), (.int w6), (.int (1 : Int32)), (.ref b7)]))
    refine own_by (fun _ => XS.iload Y32.here hx rfl (hb hby at_341) rfl) ?_
    show own_Go p e below _ (T32.setTop (mkF m 343 #[.val (.int xa), .val (.int xb), .val (.int xc), .val (.int xd), .val (.int xe), .val (.int xf), .val (.int (0 : Int32)), .val (.int w2), .val (.int w3), .val (.ref b4), .val (.int (0 : Int32)), .val (.int (0 : Int32)), .val (.int (0 : Int32)), .val (.int w6), .val (.ref b7), .val (.int (w6 + (0 : Int32))), .val (.int (1 : Int32))] [(.int (0 : Int32)), (.int (0 : Int32)), (.int (0 : Int32)), (.int (0 : Int32)), (.int w6), (.int (1 : Int32)), (.ref b7)]))
    refine own_by (fun _ => XS.iload Y32.here hx rfl (hb hby at_343) rfl) ?_
    show own_Go p e below _ (T32.setTop (mkF m 345 #[.val (.int xa), .val (.int xb), .val (.int xc), .val (.int xd), .val (.int xe), .val (.int xf), .val (.int (0 : Int32)), .val (.int w2), .val (.int w3), .val (.ref b4), .val (.int (0 : Int32)), .val (.int (0 : Int32)), .val (.int (0 : Int32)), .val (.int w6), .val (.ref b7), .val (.int (w6 + (0 : Int32))), .val (.int (1 : Int32))] [(.int xe), (.int (0 : Int32)), (.int (0 : Int32)), (.int (0 : Int32)), (.int (0 : Int32)), (.int w6), (.int (1 : Int32)), (.ref b7)]))
    obtain ⟨_, _, ⟨T33, L33, k33, n33⟩, -, X33, ⟨Lc33, hQ33, l33, y33, z33'⟩, st33⟩ := Jvm.LawKit.callS Y32 hx (y := (⟨"com/example/bucketsplit/bucketsplit/core/PageTakeAllPinLaw", "slot", "([IIIIIIII)Z"⟩ : MethodName)) hown (mvT hZ (hw _ (List.mem_of_getElem? (i := 37) rfl))) (mvT hZ (hw _ (List.mem_of_getElem? (i := 38) rfl))) (mvT hZ (hw _ (List.mem_of_getElem? (i := 39) rfl))) (mvT hZ (hw _ (List.mem_of_getElem? (i := 40) rfl))) (by decide) (backOf (W := 0) (own_rm8 l Z a0 hw [] b7 (1 : Int32) w6 (0 : Int32) (0 : Int32) (0 : Int32) (0 : Int32) xe k7 ls29_1 T29.heap n0 z29 fc29_1 (by decide : ¬ ((1 : Int32) < (0 : Int32))) (by decide : (1 : Int32) < (8 : Int32))) hZ (hw _ (List.mem_of_getElem? (i := 40) rfl)) (hw _ (List.mem_of_getElem? (i := 39) rfl)) (by decide) (by decide)) (g := (mkF m 345 #[.val (.int xa), .val (.int xb), .val (.int xc), .val (.int xd), .val (.int xe), .val (.int xf), .val (.int (0 : Int32)), .val (.int w2), .val (.int w3), .val (.ref b4), .val (.int (0 : Int32)), .val (.int (0 : Int32)), .val (.int (0 : Int32)), .val (.int w6), .val (.ref b7), .val (.int (w6 + (0 : Int32))), .val (.int (1 : Int32))] [(.int xe), (.int (0 : Int32)), (.int (0 : Int32)), (.int (0 : Int32)), (.int (0 : Int32)), (.int w6), (.int (1 : Int32)), (.ref b7)])) rfl (by rw [hml]; rfl) (argsL := [(.ref b7), (.int (1 : Int32)), (.int w6), (.int (0 : Int32)), (.int (0 : Int32)), (.int (0 : Int32)), (.int (0 : Int32)), (.int xe)]) (rest := []) (lenOf own_pd3 rfl) rfl (by show 2 * 0 + _ ≤ _; exact Nat.le_of_eq rfl) (hb hby at_345) (fun _ _ => ⟨rfl, e32, (by decide : 3 + 0 ≤ _), (by decide : 14 + 0 ≤ _)⟩)
    dsimp only [Pt.U, Pt.locs, Pt.cells, Pt.slots] at X33 l33 y33 z33' st33 hQ33
    subst l33 y33 z33'
    obtain ⟨rfl, N33q, e33⟩ := hQ33
    have N33 := Fr.app M32 N33q
    refine own_by st33 ?_
    clear st33 Y32
    obtain ⟨lq33, Y33, M33⟩ : ∃ lq, Stand p l e room_1 s m #[(.int xa), (.int xb), (.int xc), (.int xd), (.int xe), (.int xf)] below meth c T33 lq 3 14 ∧ Fr n0 lq := ⟨_, X33, N33⟩
    clear X33 N33
    show own_Go p e below _ (T33.setTop (mkF m 348 #[.val (.int xa), .val (.int xb), .val (.int xc), .val (.int xd), .val (.int xe), .val (.int xf), .val (.int (0 : Int32)), .val (.int w2), .val (.int w3), .val (.ref b4), .val (.int (0 : Int32)), .val (.int (0 : Int32)), .val (.int (0 : Int32)), .val (.int w6), .val (.ref b7), .val (.int (w6 + (0 : Int32))), .val (.int (1 : Int32))] [(.int (own_slot (1 : Int32) w6 (0 : Int32) (0 : Int32) (0 : Int32) (0 : Int32) xe ls29_1))]))
    refine own_by (fun _ => XS.ifNo Y33.here hx rfl (hb hby at_348) rfl ((if0 _ _).trans (feq (own_no0 (own_sl0 xe w6 (1 : Int32) hls29_1 (own_at0 hw6) (by decide)))).1)) ?_
    show own_Go p e below _ (T33.setTop (mkF m 351 #[.val (.int xa), .val (.int xb), .val (.int xc), .val (.int xd), .val (.int xe), .val (.int xf), .val (.int (0 : Int32)), .val (.int w2), .val (.int w3), .val (.ref b4), .val (.int (0 : Int32)), .val (.int (0 : Int32)), .val (.int (0 : Int32)), .val (.int w6), .val (.ref b7), .val (.int (w6 + (0 : Int32))), .val (.int (1 : Int32))] []))
    refine own_by (fun _ => XS.iconst Y33.here hx rfl (hb hby at_351)) ?_
    show own_Go p e below _ (T33.setTop (mkF m 352 #[.val (.int xa), .val (.int xb), .val (.int xc), .val (.int xd), .val (.int xe), .val (.int xf), .val (.int (0 : Int32)), .val (.int w2), .val (.int w3), .val (.ref b4), .val (.int (0 : Int32)), .val (.int (0 : Int32)), .val (.int (0 : Int32)), .val (.int w6), .val (.ref b7), .val (.int (w6 + (0 : Int32))), .val (.int (1 : Int32))] [(.int (1 : Int32))]))
    refine own_by (fun _ => XS.goto Y33.here hx rfl (pc0 := 352) (pc' := 356) rfl (hb hby at_352) (by decide) (by decide)) ?_
    show own_Go p e below _ (T33.setTop (mkF m 356 #[.val (.int xa), .val (.int xb), .val (.int xc), .val (.int xd), .val (.int xe), .val (.int xf), .val (.int (0 : Int32)), .val (.int w2), .val (.int w3), .val (.ref b4), .val (.int (0 : Int32)), .val (.int (0 : Int32)), .val (.int (0 : Int32)), .val (.int w6), .val (.ref b7), .val (.int (w6 + (0 : Int32))), .val (.int (1 : Int32))] [(.int (1 : Int32))]))
    refine own_by (fun _ => XS.istore Y33.here hx rfl (hb hby at_356) rfl (l' := #[.val (.int xa), .val (.int xb), .val (.int xc), .val (.int xd), .val (.int xe), .val (.int xf), .val (.int (0 : Int32)), .val (.int w2), .val (.int w3), .val (.ref b4), .val (.int (0 : Int32)), .val (.int (0 : Int32)), .val (.int (0 : Int32)), .val (.int w6), .val (.ref b7), .val (.int (w6 + (0 : Int32))), .val (.int (1 : Int32))]) rfl) ?_
    show own_Go p e below _ (T33.setTop (mkF m 358 #[.val (.int xa), .val (.int xb), .val (.int xc), .val (.int xd), .val (.int xe), .val (.int xf), .val (.int (0 : Int32)), .val (.int w2), .val (.int w3), .val (.ref b4), .val (.int (0 : Int32)), .val (.int (0 : Int32)), .val (.int (0 : Int32)), .val (.int w6), .val (.ref b7), .val (.int (w6 + (0 : Int32))), .val (.int (1 : Int32))] []))
    refine own_by (fun _ => XS.iload Y33.here hx rfl (hb hby at_358) rfl) ?_
    show own_Go p e below _ (T33.setTop (mkF m 360 #[.val (.int xa), .val (.int xb), .val (.int xc), .val (.int xd), .val (.int xe), .val (.int xf), .val (.int (0 : Int32)), .val (.int w2), .val (.int w3), .val (.ref b4), .val (.int (0 : Int32)), .val (.int (0 : Int32)), .val (.int (0 : Int32)), .val (.int w6), .val (.ref b7), .val (.int (w6 + (0 : Int32))), .val (.int (1 : Int32))] [(.int (1 : Int32))]))
    refine own_by (fun _ => XS.ifNo Y33.here hx rfl (hb hby at_360) rfl ((if0 _ _).trans (feq (by decide : ¬ ((1 : Int32) = (0 : Int32)))).1)) ?_
    show own_Go p e below _ (T33.setTop (mkF m 363 #[.val (.int xa), .val (.int xb), .val (.int xc), .val (.int xd), .val (.int xe), .val (.int xf), .val (.int (0 : Int32)), .val (.int w2), .val (.int w3), .val (.ref b4), .val (.int (0 : Int32)), .val (.int (0 : Int32)), .val (.int (0 : Int32)), .val (.int w6), .val (.ref b7), .val (.int (w6 + (0 : Int32))), .val (.int (1 : Int32))] []))
    refine own_by (fun _ => XS.aload Y33.here hx rfl (hb hby at_363) rfl rfl) ?_
    show own_Go p e below _ (T33.setTop (mkF m 365 #[.val (.int xa), .val (.int xb), .val (.int xc), .val (.int xd), .val (.int xe), .val (.int xf), .val (.int (0 : Int32)), .val (.int w2), .val (.int w3), .val (.ref b4), .val (.int (0 : Int32)), .val (.int (0 : Int32)), .val (.int (0 : Int32)), .val (.int w6), .val (.ref b7), .val (.int (w6 + (0 : Int32))), .val (.int (1 : Int32))] [(.ref b7)]))
    refine own_by (fun _ => XS.iconst Y33.here hx rfl (hb hby at_365)) ?_
    show own_Go p e below _ (T33.setTop (mkF m 366 #[.val (.int xa), .val (.int xb), .val (.int xc), .val (.int xd), .val (.int xe), .val (.int xf), .val (.int (0 : Int32)), .val (.int w2), .val (.int w3), .val (.ref b4), .val (.int (0 : Int32)), .val (.int (0 : Int32)), .val (.int (0 : Int32)), .val (.int w6), .val (.ref b7), .val (.int (w6 + (0 : Int32))), .val (.int (1 : Int32))] [(.int (2 : Int32)), (.ref b7)]))
    refine own_by (fun _ => XS.iload Y33.here hx rfl (hb hby at_366) rfl) ?_
    show own_Go p e below _ (T33.setTop (mkF m 368 #[.val (.int xa), .val (.int xb), .val (.int xc), .val (.int xd), .val (.int xe), .val (.int xf), .val (.int (0 : Int32)), .val (.int w2), .val (.int w3), .val (.ref b4), .val (.int (0 : Int32)), .val (.int (0 : Int32)), .val (.int (0 : Int32)), .val (.int w6), .val (.ref b7), .val (.int (w6 + (0 : Int32))), .val (.int (1 : Int32))] [(.int w6), (.int (2 : Int32)), (.ref b7)]))
    refine own_by (fun _ => XS.iload Y33.here hx rfl (hb hby at_368) rfl) ?_
    show own_Go p e below _ (T33.setTop (mkF m 370 #[.val (.int xa), .val (.int xb), .val (.int xc), .val (.int xd), .val (.int xe), .val (.int xf), .val (.int (0 : Int32)), .val (.int w2), .val (.int w3), .val (.ref b4), .val (.int (0 : Int32)), .val (.int (0 : Int32)), .val (.int (0 : Int32)), .val (.int w6), .val (.ref b7), .val (.int (w6 + (0 : Int32))), .val (.int (1 : Int32))] [(.int (0 : Int32)), (.int w6), (.int (2 : Int32)), (.ref b7)]))
    refine own_by (fun _ => XS.iload Y33.here hx rfl (hb hby at_370) rfl) ?_
    show own_Go p e below _ (T33.setTop (mkF m 372 #[.val (.int xa), .val (.int xb), .val (.int xc), .val (.int xd), .val (.int xe), .val (.int xf), .val (.int (0 : Int32)), .val (.int w2), .val (.int w3), .val (.ref b4), .val (.int (0 : Int32)), .val (.int (0 : Int32)), .val (.int (0 : Int32)), .val (.int w6), .val (.ref b7), .val (.int (w6 + (0 : Int32))), .val (.int (1 : Int32))] [(.int (0 : Int32)), (.int (0 : Int32)), (.int w6), (.int (2 : Int32)), (.ref b7)]))
    refine own_by (fun _ => XS.iload Y33.here hx rfl (hb hby at_372) rfl) ?_
    show own_Go p e below _ (T33.setTop (mkF m 374 #[.val (.int xa), .val (.int xb), .val (.int xc), .val (.int xd), .val (.int xe), .val (.int xf), .val (.int (0 : Int32)), .val (.int w2), .val (.int w3), .val (.ref b4), .val (.int (0 : Int32)), .val (.int (0 : Int32)), .val (.int (0 : Int32)), .val (.int w6), .val (.ref b7), .val (.int (w6 + (0 : Int32))), .val (.int (1 : Int32))] [(.int (0 : Int32)), (.int (0 : Int32)), (.int (0 : Int32)), (.int w6), (.int (2 : Int32)), (.ref b7)]))
    refine own_by (fun _ => XS.iload Y33.here hx rfl (hb hby at_374) rfl) ?_
    show own_Go p e below _ (T33.setTop (mkF m 376 #[.val (.int xa), .val (.int xb), .val (.int xc), .val (.int xd), .val (.int xe), .val (.int xf), .val (.int (0 : Int32)), .val (.int w2), .val (.int w3), .val (.ref b4), .val (.int (0 : Int32)), .val (.int (0 : Int32)), .val (.int (0 : Int32)), .val (.int w6), .val (.ref b7), .val (.int (w6 + (0 : Int32))), .val (.int (1 : Int32))] [(.int (0 : Int32)), (.int (0 : Int32)), (.int (0 : Int32)), (.int (0 : Int32)), (.int w6), (.int (2 : Int32)), (.ref b7)]))
    refine own_by (fun _ => XS.iload Y33.here hx rfl (hb hby at_376) rfl) ?_
    show own_Go p e below _ (T33.setTop (mkF m 378 #[.val (.int xa), .val (.int xb), .val (.int xc), .val (.int xd), .val (.int xe), .val (.int xf), .val (.int (0 : Int32)), .val (.int w2), .val (.int w3), .val (.ref b4), .val (.int (0 : Int32)), .val (.int (0 : Int32)), .val (.int (0 : Int32)), .val (.int w6), .val (.ref b7), .val (.int (w6 + (0 : Int32))), .val (.int (1 : Int32))] [(.int xe), (.int (0 : Int32)), (.int (0 : Int32)), (.int (0 : Int32)), (.int (0 : Int32)), (.int w6), (.int (2 : Int32)), (.ref b7)]))
    obtain ⟨_, _, ⟨T34, L34, k34, n34⟩, -, X34, ⟨Lc34, hQ34, l34, y34, z34'⟩, st34⟩ := Jvm.LawKit.callS Y33 hx (y := (⟨"com/example/bucketsplit/bucketsplit/core/PageTakeAllPinLaw", "slot", "([IIIIIIII)Z"⟩ : MethodName)) hown (mvT hZ (hw _ (List.mem_of_getElem? (i := 37) rfl))) (mvT hZ (hw _ (List.mem_of_getElem? (i := 38) rfl))) (mvT hZ (hw _ (List.mem_of_getElem? (i := 39) rfl))) (mvT hZ (hw _ (List.mem_of_getElem? (i := 40) rfl))) (by decide) (backOf (W := 0) (own_rm8 l Z a0 hw [] b7 (2 : Int32) w6 (0 : Int32) (0 : Int32) (0 : Int32) (0 : Int32) xe k7 ls29_1 T29.heap n0 z29 fc29_1 (by decide : ¬ ((2 : Int32) < (0 : Int32))) (by decide : (2 : Int32) < (8 : Int32))) hZ (hw _ (List.mem_of_getElem? (i := 40) rfl)) (hw _ (List.mem_of_getElem? (i := 39) rfl)) (by decide) (by decide)) (g := (mkF m 378 #[.val (.int xa), .val (.int xb), .val (.int xc), .val (.int xd), .val (.int xe), .val (.int xf), .val (.int (0 : Int32)), .val (.int w2), .val (.int w3), .val (.ref b4), .val (.int (0 : Int32)), .val (.int (0 : Int32)), .val (.int (0 : Int32)), .val (.int w6), .val (.ref b7), .val (.int (w6 + (0 : Int32))), .val (.int (1 : Int32))] [(.int xe), (.int (0 : Int32)), (.int (0 : Int32)), (.int (0 : Int32)), (.int (0 : Int32)), (.int w6), (.int (2 : Int32)), (.ref b7)])) rfl (by rw [hml]; rfl) (argsL := [(.ref b7), (.int (2 : Int32)), (.int w6), (.int (0 : Int32)), (.int (0 : Int32)), (.int (0 : Int32)), (.int (0 : Int32)), (.int xe)]) (rest := []) (lenOf own_pd3 rfl) rfl (by show 2 * 0 + _ ≤ _; exact Nat.le_of_eq rfl) (hb hby at_378) (fun _ _ => ⟨rfl, e33, (by decide : 3 + 0 ≤ _), (by decide : 14 + 0 ≤ _)⟩)
    dsimp only [Pt.U, Pt.locs, Pt.cells, Pt.slots] at X34 l34 y34 z34' st34 hQ34
    subst l34 y34 z34'
    obtain ⟨rfl, N34q, e34⟩ := hQ34
    have N34 := Fr.app M33 N34q
    refine own_by st34 ?_
    clear st34 Y33
    obtain ⟨lq34, Y34, M34⟩ : ∃ lq, Stand p l e room_1 s m #[(.int xa), (.int xb), (.int xc), (.int xd), (.int xe), (.int xf)] below meth c T34 lq 3 14 ∧ Fr n0 lq := ⟨_, X34, N34⟩
    clear X34 N34
    show own_Go p e below _ (T34.setTop (mkF m 381 #[.val (.int xa), .val (.int xb), .val (.int xc), .val (.int xd), .val (.int xe), .val (.int xf), .val (.int (0 : Int32)), .val (.int w2), .val (.int w3), .val (.ref b4), .val (.int (0 : Int32)), .val (.int (0 : Int32)), .val (.int (0 : Int32)), .val (.int w6), .val (.ref b7), .val (.int (w6 + (0 : Int32))), .val (.int (1 : Int32))] [(.int (own_slot (2 : Int32) w6 (0 : Int32) (0 : Int32) (0 : Int32) (0 : Int32) xe ls29_1))]))
    refine own_by (fun _ => XS.ifNo Y34.here hx rfl (hb hby at_381) rfl ((if0 _ _).trans (feq (own_no0 (own_sl0 xe w6 (2 : Int32) hls29_1 (own_at0 hw6) (by decide)))).1)) ?_
    show own_Go p e below _ (T34.setTop (mkF m 384 #[.val (.int xa), .val (.int xb), .val (.int xc), .val (.int xd), .val (.int xe), .val (.int xf), .val (.int (0 : Int32)), .val (.int w2), .val (.int w3), .val (.ref b4), .val (.int (0 : Int32)), .val (.int (0 : Int32)), .val (.int (0 : Int32)), .val (.int w6), .val (.ref b7), .val (.int (w6 + (0 : Int32))), .val (.int (1 : Int32))] []))
    refine own_by (fun _ => XS.iconst Y34.here hx rfl (hb hby at_384)) ?_
    show own_Go p e below _ (T34.setTop (mkF m 385 #[.val (.int xa), .val (.int xb), .val (.int xc), .val (.int xd), .val (.int xe), .val (.int xf), .val (.int (0 : Int32)), .val (.int w2), .val (.int w3), .val (.ref b4), .val (.int (0 : Int32)), .val (.int (0 : Int32)), .val (.int (0 : Int32)), .val (.int w6), .val (.ref b7), .val (.int (w6 + (0 : Int32))), .val (.int (1 : Int32))] [(.int (1 : Int32))]))
    refine own_by (fun _ => XS.goto Y34.here hx rfl (pc0 := 385) (pc' := 389) rfl (hb hby at_385) (by decide) (by decide)) ?_
    show own_Go p e below _ (T34.setTop (mkF m 389 #[.val (.int xa), .val (.int xb), .val (.int xc), .val (.int xd), .val (.int xe), .val (.int xf), .val (.int (0 : Int32)), .val (.int w2), .val (.int w3), .val (.ref b4), .val (.int (0 : Int32)), .val (.int (0 : Int32)), .val (.int (0 : Int32)), .val (.int w6), .val (.ref b7), .val (.int (w6 + (0 : Int32))), .val (.int (1 : Int32))] [(.int (1 : Int32))]))
    refine own_by (fun _ => XS.istore Y34.here hx rfl (hb hby at_389) rfl (l' := #[.val (.int xa), .val (.int xb), .val (.int xc), .val (.int xd), .val (.int xe), .val (.int xf), .val (.int (0 : Int32)), .val (.int w2), .val (.int w3), .val (.ref b4), .val (.int (0 : Int32)), .val (.int (0 : Int32)), .val (.int (0 : Int32)), .val (.int w6), .val (.ref b7), .val (.int (w6 + (0 : Int32))), .val (.int (1 : Int32))]) rfl) ?_
    show own_Go p e below _ (T34.setTop (mkF m 391 #[.val (.int xa), .val (.int xb), .val (.int xc), .val (.int xd), .val (.int xe), .val (.int xf), .val (.int (0 : Int32)), .val (.int w2), .val (.int w3), .val (.ref b4), .val (.int (0 : Int32)), .val (.int (0 : Int32)), .val (.int (0 : Int32)), .val (.int w6), .val (.ref b7), .val (.int (w6 + (0 : Int32))), .val (.int (1 : Int32))] []))
    refine own_by (fun _ => XS.iload Y34.here hx rfl (hb hby at_391) rfl) ?_
    show own_Go p e below _ (T34.setTop (mkF m 393 #[.val (.int xa), .val (.int xb), .val (.int xc), .val (.int xd), .val (.int xe), .val (.int xf), .val (.int (0 : Int32)), .val (.int w2), .val (.int w3), .val (.ref b4), .val (.int (0 : Int32)), .val (.int (0 : Int32)), .val (.int (0 : Int32)), .val (.int w6), .val (.ref b7), .val (.int (w6 + (0 : Int32))), .val (.int (1 : Int32))] [(.int (1 : Int32))]))
    refine own_by (fun _ => XS.ifNo Y34.here hx rfl (hb hby at_393) rfl ((if0 _ _).trans (feq (by decide : ¬ ((1 : Int32) = (0 : Int32)))).1)) ?_
    show own_Go p e below _ (T34.setTop (mkF m 396 #[.val (.int xa), .val (.int xb), .val (.int xc), .val (.int xd), .val (.int xe), .val (.int xf), .val (.int (0 : Int32)), .val (.int w2), .val (.int w3), .val (.ref b4), .val (.int (0 : Int32)), .val (.int (0 : Int32)), .val (.int (0 : Int32)), .val (.int w6), .val (.ref b7), .val (.int (w6 + (0 : Int32))), .val (.int (1 : Int32))] []))
    refine own_by (fun _ => XS.aload Y34.here hx rfl (hb hby at_396) rfl rfl) ?_
    show own_Go p e below _ (T34.setTop (mkF m 398 #[.val (.int xa), .val (.int xb), .val (.int xc), .val (.int xd), .val (.int xe), .val (.int xf), .val (.int (0 : Int32)), .val (.int w2), .val (.int w3), .val (.ref b4), .val (.int (0 : Int32)), .val (.int (0 : Int32)), .val (.int (0 : Int32)), .val (.int w6), .val (.ref b7), .val (.int (w6 + (0 : Int32))), .val (.int (1 : Int32))] [(.ref b7)]))
    refine own_by (fun _ => XS.iconst Y34.here hx rfl (hb hby at_398)) ?_
    show own_Go p e below _ (T34.setTop (mkF m 399 #[.val (.int xa), .val (.int xb), .val (.int xc), .val (.int xd), .val (.int xe), .val (.int xf), .val (.int (0 : Int32)), .val (.int w2), .val (.int w3), .val (.ref b4), .val (.int (0 : Int32)), .val (.int (0 : Int32)), .val (.int (0 : Int32)), .val (.int w6), .val (.ref b7), .val (.int (w6 + (0 : Int32))), .val (.int (1 : Int32))] [(.int (3 : Int32)), (.ref b7)]))
    refine own_by (fun _ => XS.iload Y34.here hx rfl (hb hby at_399) rfl) ?_
    show own_Go p e below _ (T34.setTop (mkF m 401 #[.val (.int xa), .val (.int xb), .val (.int xc), .val (.int xd), .val (.int xe), .val (.int xf), .val (.int (0 : Int32)), .val (.int w2), .val (.int w3), .val (.ref b4), .val (.int (0 : Int32)), .val (.int (0 : Int32)), .val (.int (0 : Int32)), .val (.int w6), .val (.ref b7), .val (.int (w6 + (0 : Int32))), .val (.int (1 : Int32))] [(.int w6), (.int (3 : Int32)), (.ref b7)]))
    refine own_by (fun _ => XS.iload Y34.here hx rfl (hb hby at_401) rfl) ?_
    show own_Go p e below _ (T34.setTop (mkF m 403 #[.val (.int xa), .val (.int xb), .val (.int xc), .val (.int xd), .val (.int xe), .val (.int xf), .val (.int (0 : Int32)), .val (.int w2), .val (.int w3), .val (.ref b4), .val (.int (0 : Int32)), .val (.int (0 : Int32)), .val (.int (0 : Int32)), .val (.int w6), .val (.ref b7), .val (.int (w6 + (0 : Int32))), .val (.int (1 : Int32))] [(.int (0 : Int32)), (.int w6), (.int (3 : Int32)), (.ref b7)]))
    refine own_by (fun _ => XS.iload Y34.here hx rfl (hb hby at_403) rfl) ?_
    show own_Go p e below _ (T34.setTop (mkF m 405 #[.val (.int xa), .val (.int xb), .val (.int xc), .val (.int xd), .val (.int xe), .val (.int xf), .val (.int (0 : Int32)), .val (.int w2), .val (.int w3), .val (.ref b4), .val (.int (0 : Int32)), .val (.int (0 : Int32)), .val (.int (0 : Int32)), .val (.int w6), .val (.ref b7), .val (.int (w6 + (0 : Int32))), .val (.int (1 : Int32))] [(.int (0 : Int32)), (.int (0 : Int32)), (.int w6), (.int (3 : Int32)), (.ref b7)]))
    refine own_by (fun _ => XS.iload Y34.here hx rfl (hb hby at_405) rfl) ?_
    show own_Go p e below _ (T34.setTop (mkF m 407 #[.val (.int xa), .val (.int xb), .val (.int xc), .val (.int xd), .val (.int xe), .val (.int xf), .val (.int (0 : Int32)), .val (.int w2), .val (.int w3), .val (.ref b4), .val (.int (0 : Int32)), .val (.int (0 : Int32)), .val (.int (0 : Int32)), .val (.int w6), .val (.ref b7), .val (.int (w6 + (0 : Int32))), .val (.int (1 : Int32))] [(.int (0 : Int32)), (.int (0 : Int32)), (.int (0 : Int32)), (.int w6), (.int (3 : Int32)), (.ref b7)]))
    refine own_by (fun _ => XS.iload Y34.here hx rfl (hb hby at_407) rfl) ?_
    show own_Go p e below _ (T34.setTop (mkF m 409 #[.val (.int xa), .val (.int xb), .val (.int xc), .val (.int xd), .val (.int xe), .val (.int xf), .val (.int (0 : Int32)), .val (.int w2), .val (.int w3), .val (.ref b4), .val (.int (0 : Int32)), .val (.int (0 : Int32)), .val (.int (0 : Int32)), .val (.int w6), .val (.ref b7), .val (.int (w6 + (0 : Int32))), .val (.int (1 : Int32))] [(.int (0 : Int32)), (.int (0 : Int32)), (.int (0 : Int32)), (.int (0 : Int32)), (.int w6), (.int (3 : Int32)), (.ref b7)]))
    refine own_by (fun _ => XS.iload Y34.here hx rfl (hb hby at_409) rfl) ?_
    show own_Go p e below _ (T34.setTop (mkF m 411 #[.val (.int xa), .val (.int xb), .val (.int xc), .val (.int xd), .val (.int xe), .val (.int xf), .val (.int (0 : Int32)), .val (.int w2), .val (.int w3), .val (.ref b4), .val (.int (0 : Int32)), .val (.int (0 : Int32)), .val (.int (0 : Int32)), .val (.int w6), .val (.ref b7), .val (.int (w6 + (0 : Int32))), .val (.int (1 : Int32))] [(.int xe), (.int (0 : Int32)), (.int (0 : Int32)), (.int (0 : Int32)), (.int (0 : Int32)), (.int w6), (.int (3 : Int32)), (.ref b7)]))
    obtain ⟨_, _, ⟨T35, L35, k35, n35⟩, -, X35, ⟨Lc35, hQ35, l35, y35, z35'⟩, st35⟩ := Jvm.LawKit.callS Y34 hx (y := (⟨"com/example/bucketsplit/bucketsplit/core/PageTakeAllPinLaw", "slot", "([IIIIIIII)Z"⟩ : MethodName)) hown (mvT hZ (hw _ (List.mem_of_getElem? (i := 37) rfl))) (mvT hZ (hw _ (List.mem_of_getElem? (i := 38) rfl))) (mvT hZ (hw _ (List.mem_of_getElem? (i := 39) rfl))) (mvT hZ (hw _ (List.mem_of_getElem? (i := 40) rfl))) (by decide) (backOf (W := 0) (own_rm8 l Z a0 hw [] b7 (3 : Int32) w6 (0 : Int32) (0 : Int32) (0 : Int32) (0 : Int32) xe k7 ls29_1 T29.heap n0 z29 fc29_1 (by decide : ¬ ((3 : Int32) < (0 : Int32))) (by decide : (3 : Int32) < (8 : Int32))) hZ (hw _ (List.mem_of_getElem? (i := 40) rfl)) (hw _ (List.mem_of_getElem? (i := 39) rfl)) (by decide) (by decide)) (g := (mkF m 411 #[.val (.int xa), .val (.int xb), .val (.int xc), .val (.int xd), .val (.int xe), .val (.int xf), .val (.int (0 : Int32)), .val (.int w2), .val (.int w3), .val (.ref b4), .val (.int (0 : Int32)), .val (.int (0 : Int32)), .val (.int (0 : Int32)), .val (.int w6), .val (.ref b7), .val (.int (w6 + (0 : Int32))), .val (.int (1 : Int32))] [(.int xe), (.int (0 : Int32)), (.int (0 : Int32)), (.int (0 : Int32)), (.int (0 : Int32)), (.int w6), (.int (3 : Int32)), (.ref b7)])) rfl (by rw [hml]; rfl) (argsL := [(.ref b7), (.int (3 : Int32)), (.int w6), (.int (0 : Int32)), (.int (0 : Int32)), (.int (0 : Int32)), (.int (0 : Int32)), (.int xe)]) (rest := []) (lenOf own_pd3 rfl) rfl (by show 2 * 0 + _ ≤ _; exact Nat.le_of_eq rfl) (hb hby at_411) (fun _ _ => ⟨rfl, e34, (by decide : 3 + 0 ≤ _), (by decide : 14 + 0 ≤ _)⟩)
    dsimp only [Pt.U, Pt.locs, Pt.cells, Pt.slots] at X35 l35 y35 z35' st35 hQ35
    subst l35 y35 z35'
    obtain ⟨rfl, N35q, e35⟩ := hQ35
    have N35 := Fr.app M34 N35q
    refine own_by st35 ?_
    clear st35 Y34
    obtain ⟨lq35, Y35, M35⟩ : ∃ lq, Stand p l e room_1 s m #[(.int xa), (.int xb), (.int xc), (.int xd), (.int xe), (.int xf)] below meth c T35 lq 3 14 ∧ Fr n0 lq := ⟨_, X35, N35⟩
    clear X35 N35
    show own_Go p e below _ (T35.setTop (mkF m 414 #[.val (.int xa), .val (.int xb), .val (.int xc), .val (.int xd), .val (.int xe), .val (.int xf), .val (.int (0 : Int32)), .val (.int w2), .val (.int w3), .val (.ref b4), .val (.int (0 : Int32)), .val (.int (0 : Int32)), .val (.int (0 : Int32)), .val (.int w6), .val (.ref b7), .val (.int (w6 + (0 : Int32))), .val (.int (1 : Int32))] [(.int (own_slot (3 : Int32) w6 (0 : Int32) (0 : Int32) (0 : Int32) (0 : Int32) xe ls29_1))]))
    refine own_by (fun _ => XS.ifNo Y35.here hx rfl (hb hby at_414) rfl ((if0 _ _).trans (feq (own_no0 (own_sl0 xe w6 (3 : Int32) hls29_1 (own_at0 hw6) (by decide)))).1)) ?_
    show own_Go p e below _ (T35.setTop (mkF m 417 #[.val (.int xa), .val (.int xb), .val (.int xc), .val (.int xd), .val (.int xe), .val (.int xf), .val (.int (0 : Int32)), .val (.int w2), .val (.int w3), .val (.ref b4), .val (.int (0 : Int32)), .val (.int (0 : Int32)), .val (.int (0 : Int32)), .val (.int w6), .val (.ref b7), .val (.int (w6 + (0 : Int32))), .val (.int (1 : Int32))] []))
    refine own_by (fun _ => XS.iconst Y35.here hx rfl (hb hby at_417)) ?_
    show own_Go p e below _ (T35.setTop (mkF m 418 #[.val (.int xa), .val (.int xb), .val (.int xc), .val (.int xd), .val (.int xe), .val (.int xf), .val (.int (0 : Int32)), .val (.int w2), .val (.int w3), .val (.ref b4), .val (.int (0 : Int32)), .val (.int (0 : Int32)), .val (.int (0 : Int32)), .val (.int w6), .val (.ref b7), .val (.int (w6 + (0 : Int32))), .val (.int (1 : Int32))] [(.int (1 : Int32))]))
    refine own_by (fun _ => XS.goto Y35.here hx rfl (pc0 := 418) (pc' := 422) rfl (hb hby at_418) (by decide) (by decide)) ?_
    show own_Go p e below _ (T35.setTop (mkF m 422 #[.val (.int xa), .val (.int xb), .val (.int xc), .val (.int xd), .val (.int xe), .val (.int xf), .val (.int (0 : Int32)), .val (.int w2), .val (.int w3), .val (.ref b4), .val (.int (0 : Int32)), .val (.int (0 : Int32)), .val (.int (0 : Int32)), .val (.int w6), .val (.ref b7), .val (.int (w6 + (0 : Int32))), .val (.int (1 : Int32))] [(.int (1 : Int32))]))
    refine own_by (fun _ => XS.istore Y35.here hx rfl (hb hby at_422) rfl (l' := #[.val (.int xa), .val (.int xb), .val (.int xc), .val (.int xd), .val (.int xe), .val (.int xf), .val (.int (0 : Int32)), .val (.int w2), .val (.int w3), .val (.ref b4), .val (.int (0 : Int32)), .val (.int (0 : Int32)), .val (.int (0 : Int32)), .val (.int w6), .val (.ref b7), .val (.int (w6 + (0 : Int32))), .val (.int (1 : Int32))]) rfl) ?_
    show own_Go p e below _ (T35.setTop (mkF m 424 #[.val (.int xa), .val (.int xb), .val (.int xc), .val (.int xd), .val (.int xe), .val (.int xf), .val (.int (0 : Int32)), .val (.int w2), .val (.int w3), .val (.ref b4), .val (.int (0 : Int32)), .val (.int (0 : Int32)), .val (.int (0 : Int32)), .val (.int w6), .val (.ref b7), .val (.int (w6 + (0 : Int32))), .val (.int (1 : Int32))] []))
    refine own_by (fun _ => XS.iload Y35.here hx rfl (hb hby at_424) rfl) ?_
    show own_Go p e below _ (T35.setTop (mkF m 426 #[.val (.int xa), .val (.int xb), .val (.int xc), .val (.int xd), .val (.int xe), .val (.int xf), .val (.int (0 : Int32)), .val (.int w2), .val (.int w3), .val (.ref b4), .val (.int (0 : Int32)), .val (.int (0 : Int32)), .val (.int (0 : Int32)), .val (.int w6), .val (.ref b7), .val (.int (w6 + (0 : Int32))), .val (.int (1 : Int32))] [(.int (1 : Int32))]))
    refine own_by (fun _ => XS.ifNo Y35.here hx rfl (hb hby at_426) rfl ((if0 _ _).trans (feq (by decide : ¬ ((1 : Int32) = (0 : Int32)))).1)) ?_
    show own_Go p e below _ (T35.setTop (mkF m 429 #[.val (.int xa), .val (.int xb), .val (.int xc), .val (.int xd), .val (.int xe), .val (.int xf), .val (.int (0 : Int32)), .val (.int w2), .val (.int w3), .val (.ref b4), .val (.int (0 : Int32)), .val (.int (0 : Int32)), .val (.int (0 : Int32)), .val (.int w6), .val (.ref b7), .val (.int (w6 + (0 : Int32))), .val (.int (1 : Int32))] []))
    refine own_by (fun _ => XS.aload Y35.here hx rfl (hb hby at_429) rfl rfl) ?_
    show own_Go p e below _ (T35.setTop (mkF m 431 #[.val (.int xa), .val (.int xb), .val (.int xc), .val (.int xd), .val (.int xe), .val (.int xf), .val (.int (0 : Int32)), .val (.int w2), .val (.int w3), .val (.ref b4), .val (.int (0 : Int32)), .val (.int (0 : Int32)), .val (.int (0 : Int32)), .val (.int w6), .val (.ref b7), .val (.int (w6 + (0 : Int32))), .val (.int (1 : Int32))] [(.ref b7)]))
    refine own_by (fun _ => XS.iconst Y35.here hx rfl (hb hby at_431)) ?_
    show own_Go p e below _ (T35.setTop (mkF m 432 #[.val (.int xa), .val (.int xb), .val (.int xc), .val (.int xd), .val (.int xe), .val (.int xf), .val (.int (0 : Int32)), .val (.int w2), .val (.int w3), .val (.ref b4), .val (.int (0 : Int32)), .val (.int (0 : Int32)), .val (.int (0 : Int32)), .val (.int w6), .val (.ref b7), .val (.int (w6 + (0 : Int32))), .val (.int (1 : Int32))] [(.int (4 : Int32)), (.ref b7)]))
    refine own_by (fun _ => XS.iload Y35.here hx rfl (hb hby at_432) rfl) ?_
    show own_Go p e below _ (T35.setTop (mkF m 434 #[.val (.int xa), .val (.int xb), .val (.int xc), .val (.int xd), .val (.int xe), .val (.int xf), .val (.int (0 : Int32)), .val (.int w2), .val (.int w3), .val (.ref b4), .val (.int (0 : Int32)), .val (.int (0 : Int32)), .val (.int (0 : Int32)), .val (.int w6), .val (.ref b7), .val (.int (w6 + (0 : Int32))), .val (.int (1 : Int32))] [(.int w6), (.int (4 : Int32)), (.ref b7)]))
    refine own_by (fun _ => XS.iload Y35.here hx rfl (hb hby at_434) rfl) ?_
    show own_Go p e below _ (T35.setTop (mkF m 436 #[.val (.int xa), .val (.int xb), .val (.int xc), .val (.int xd), .val (.int xe), .val (.int xf), .val (.int (0 : Int32)), .val (.int w2), .val (.int w3), .val (.ref b4), .val (.int (0 : Int32)), .val (.int (0 : Int32)), .val (.int (0 : Int32)), .val (.int w6), .val (.ref b7), .val (.int (w6 + (0 : Int32))), .val (.int (1 : Int32))] [(.int (0 : Int32)), (.int w6), (.int (4 : Int32)), (.ref b7)]))
    refine own_by (fun _ => XS.iload Y35.here hx rfl (hb hby at_436) rfl) ?_
    show own_Go p e below _ (T35.setTop (mkF m 438 #[.val (.int xa), .val (.int xb), .val (.int xc), .val (.int xd), .val (.int xe), .val (.int xf), .val (.int (0 : Int32)), .val (.int w2), .val (.int w3), .val (.ref b4), .val (.int (0 : Int32)), .val (.int (0 : Int32)), .val (.int (0 : Int32)), .val (.int w6), .val (.ref b7), .val (.int (w6 + (0 : Int32))), .val (.int (1 : Int32))] [(.int (0 : Int32)), (.int (0 : Int32)), (.int w6), (.int (4 : Int32)), (.ref b7)]))
    refine own_by (fun _ => XS.iload Y35.here hx rfl (hb hby at_438) rfl) ?_
    show own_Go p e below _ (T35.setTop (mkF m 440 #[.val (.int xa), .val (.int xb), .val (.int xc), .val (.int xd), .val (.int xe), .val (.int xf), .val (.int (0 : Int32)), .val (.int w2), .val (.int w3), .val (.ref b4), .val (.int (0 : Int32)), .val (.int (0 : Int32)), .val (.int (0 : Int32)), .val (.int w6), .val (.ref b7), .val (.int (w6 + (0 : Int32))), .val (.int (1 : Int32))] [(.int (0 : Int32)), (.int (0 : Int32)), (.int (0 : Int32)), (.int w6), (.int (4 : Int32)), (.ref b7)]))
    refine own_by (fun _ => XS.iload Y35.here hx rfl (hb hby at_440) rfl) ?_
    show own_Go p e below _ (T35.setTop (mkF m 442 #[.val (.int xa), .val (.int xb), .val (.int xc), .val (.int xd), .val (.int xe), .val (.int xf), .val (.int (0 : Int32)), .val (.int w2), .val (.int w3), .val (.ref b4), .val (.int (0 : Int32)), .val (.int (0 : Int32)), .val (.int (0 : Int32)), .val (.int w6), .val (.ref b7), .val (.int (w6 + (0 : Int32))), .val (.int (1 : Int32))] [(.int (0 : Int32)), (.int (0 : Int32)), (.int (0 : Int32)), (.int (0 : Int32)), (.int w6), (.int (4 : Int32)), (.ref b7)]))
    refine own_by (fun _ => XS.iload Y35.here hx rfl (hb hby at_442) rfl) ?_
    show own_Go p e below _ (T35.setTop (mkF m 444 #[.val (.int xa), .val (.int xb), .val (.int xc), .val (.int xd), .val (.int xe), .val (.int xf), .val (.int (0 : Int32)), .val (.int w2), .val (.int w3), .val (.ref b4), .val (.int (0 : Int32)), .val (.int (0 : Int32)), .val (.int (0 : Int32)), .val (.int w6), .val (.ref b7), .val (.int (w6 + (0 : Int32))), .val (.int (1 : Int32))] [(.int xe), (.int (0 : Int32)), (.int (0 : Int32)), (.int (0 : Int32)), (.int (0 : Int32)), (.int w6), (.int (4 : Int32)), (.ref b7)]))
    obtain ⟨_, _, ⟨T36, L36, k36, n36⟩, -, X36, ⟨Lc36, hQ36, l36, y36, z36'⟩, st36⟩ := Jvm.LawKit.callS Y35 hx (y := (⟨"com/example/bucketsplit/bucketsplit/core/PageTakeAllPinLaw", "slot", "([IIIIIIII)Z"⟩ : MethodName)) hown (mvT hZ (hw _ (List.mem_of_getElem? (i := 37) rfl))) (mvT hZ (hw _ (List.mem_of_getElem? (i := 38) rfl))) (mvT hZ (hw _ (List.mem_of_getElem? (i := 39) rfl))) (mvT hZ (hw _ (List.mem_of_getElem? (i := 40) rfl))) (by decide) (backOf (W := 0) (own_rm8 l Z a0 hw [] b7 (4 : Int32) w6 (0 : Int32) (0 : Int32) (0 : Int32) (0 : Int32) xe k7 ls29_1 T29.heap n0 z29 fc29_1 (by decide : ¬ ((4 : Int32) < (0 : Int32))) (by decide : (4 : Int32) < (8 : Int32))) hZ (hw _ (List.mem_of_getElem? (i := 40) rfl)) (hw _ (List.mem_of_getElem? (i := 39) rfl)) (by decide) (by decide)) (g := (mkF m 444 #[.val (.int xa), .val (.int xb), .val (.int xc), .val (.int xd), .val (.int xe), .val (.int xf), .val (.int (0 : Int32)), .val (.int w2), .val (.int w3), .val (.ref b4), .val (.int (0 : Int32)), .val (.int (0 : Int32)), .val (.int (0 : Int32)), .val (.int w6), .val (.ref b7), .val (.int (w6 + (0 : Int32))), .val (.int (1 : Int32))] [(.int xe), (.int (0 : Int32)), (.int (0 : Int32)), (.int (0 : Int32)), (.int (0 : Int32)), (.int w6), (.int (4 : Int32)), (.ref b7)])) rfl (by rw [hml]; rfl) (argsL := [(.ref b7), (.int (4 : Int32)), (.int w6), (.int (0 : Int32)), (.int (0 : Int32)), (.int (0 : Int32)), (.int (0 : Int32)), (.int xe)]) (rest := []) (lenOf own_pd3 rfl) rfl (by show 2 * 0 + _ ≤ _; exact Nat.le_of_eq rfl) (hb hby at_444) (fun _ _ => ⟨rfl, e35, (by decide : 3 + 0 ≤ _), (by decide : 14 + 0 ≤ _)⟩)
    dsimp only [Pt.U, Pt.locs, Pt.cells, Pt.slots] at X36 l36 y36 z36' st36 hQ36
    subst l36 y36 z36'
    obtain ⟨rfl, N36q, e36⟩ := hQ36
    have N36 := Fr.app M35 N36q
    refine own_by st36 ?_
    clear st36 Y35
    obtain ⟨lq36, Y36, M36⟩ : ∃ lq, Stand p l e room_1 s m #[(.int xa), (.int xb), (.int xc), (.int xd), (.int xe), (.int xf)] below meth c T36 lq 3 14 ∧ Fr n0 lq := ⟨_, X36, N36⟩
    clear X36 N36
    show own_Go p e below _ (T36.setTop (mkF m 447 #[.val (.int xa), .val (.int xb), .val (.int xc), .val (.int xd), .val (.int xe), .val (.int xf), .val (.int (0 : Int32)), .val (.int w2), .val (.int w3), .val (.ref b4), .val (.int (0 : Int32)), .val (.int (0 : Int32)), .val (.int (0 : Int32)), .val (.int w6), .val (.ref b7), .val (.int (w6 + (0 : Int32))), .val (.int (1 : Int32))] [(.int (own_slot (4 : Int32) w6 (0 : Int32) (0 : Int32) (0 : Int32) (0 : Int32) xe ls29_1))]))
    refine own_by (fun _ => XS.ifNo Y36.here hx rfl (hb hby at_447) rfl ((if0 _ _).trans (feq (own_no0 (own_sl0 xe w6 (4 : Int32) hls29_1 (own_at0 hw6) (by decide)))).1)) ?_
    show own_Go p e below _ (T36.setTop (mkF m 450 #[.val (.int xa), .val (.int xb), .val (.int xc), .val (.int xd), .val (.int xe), .val (.int xf), .val (.int (0 : Int32)), .val (.int w2), .val (.int w3), .val (.ref b4), .val (.int (0 : Int32)), .val (.int (0 : Int32)), .val (.int (0 : Int32)), .val (.int w6), .val (.ref b7), .val (.int (w6 + (0 : Int32))), .val (.int (1 : Int32))] []))
    refine own_by (fun _ => XS.iconst Y36.here hx rfl (hb hby at_450)) ?_
    show own_Go p e below _ (T36.setTop (mkF m 451 #[.val (.int xa), .val (.int xb), .val (.int xc), .val (.int xd), .val (.int xe), .val (.int xf), .val (.int (0 : Int32)), .val (.int w2), .val (.int w3), .val (.ref b4), .val (.int (0 : Int32)), .val (.int (0 : Int32)), .val (.int (0 : Int32)), .val (.int w6), .val (.ref b7), .val (.int (w6 + (0 : Int32))), .val (.int (1 : Int32))] [(.int (1 : Int32))]))
    refine own_by (fun _ => XS.goto Y36.here hx rfl (pc0 := 451) (pc' := 455) rfl (hb hby at_451) (by decide) (by decide)) ?_
    show own_Go p e below _ (T36.setTop (mkF m 455 #[.val (.int xa), .val (.int xb), .val (.int xc), .val (.int xd), .val (.int xe), .val (.int xf), .val (.int (0 : Int32)), .val (.int w2), .val (.int w3), .val (.ref b4), .val (.int (0 : Int32)), .val (.int (0 : Int32)), .val (.int (0 : Int32)), .val (.int w6), .val (.ref b7), .val (.int (w6 + (0 : Int32))), .val (.int (1 : Int32))] [(.int (1 : Int32))]))
    refine own_by (fun _ => XS.istore Y36.here hx rfl (hb hby at_455) rfl (l' := #[.val (.int xa), .val (.int xb), .val (.int xc), .val (.int xd), .val (.int xe), .val (.int xf), .val (.int (0 : Int32)), .val (.int w2), .val (.int w3), .val (.ref b4), .val (.int (0 : Int32)), .val (.int (0 : Int32)), .val (.int (0 : Int32)), .val (.int w6), .val (.ref b7), .val (.int (w6 + (0 : Int32))), .val (.int (1 : Int32))]) rfl) ?_
    show own_Go p e below _ (T36.setTop (mkF m 457 #[.val (.int xa), .val (.int xb), .val (.int xc), .val (.int xd), .val (.int xe), .val (.int xf), .val (.int (0 : Int32)), .val (.int w2), .val (.int w3), .val (.ref b4), .val (.int (0 : Int32)), .val (.int (0 : Int32)), .val (.int (0 : Int32)), .val (.int w6), .val (.ref b7), .val (.int (w6 + (0 : Int32))), .val (.int (1 : Int32))] []))
    refine own_by (fun _ => XS.iload Y36.here hx rfl (hb hby at_457) rfl) ?_
    show own_Go p e below _ (T36.setTop (mkF m 459 #[.val (.int xa), .val (.int xb), .val (.int xc), .val (.int xd), .val (.int xe), .val (.int xf), .val (.int (0 : Int32)), .val (.int w2), .val (.int w3), .val (.ref b4), .val (.int (0 : Int32)), .val (.int (0 : Int32)), .val (.int (0 : Int32)), .val (.int w6), .val (.ref b7), .val (.int (w6 + (0 : Int32))), .val (.int (1 : Int32))] [(.int (1 : Int32))]))
    refine own_by (fun _ => XS.ifNo Y36.here hx rfl (hb hby at_459) rfl ((if0 _ _).trans (feq (by decide : ¬ ((1 : Int32) = (0 : Int32)))).1)) ?_
    show own_Go p e below _ (T36.setTop (mkF m 462 #[.val (.int xa), .val (.int xb), .val (.int xc), .val (.int xd), .val (.int xe), .val (.int xf), .val (.int (0 : Int32)), .val (.int w2), .val (.int w3), .val (.ref b4), .val (.int (0 : Int32)), .val (.int (0 : Int32)), .val (.int (0 : Int32)), .val (.int w6), .val (.ref b7), .val (.int (w6 + (0 : Int32))), .val (.int (1 : Int32))] []))
    refine own_by (fun _ => XS.aload Y36.here hx rfl (hb hby at_462) rfl rfl) ?_
    show own_Go p e below _ (T36.setTop (mkF m 464 #[.val (.int xa), .val (.int xb), .val (.int xc), .val (.int xd), .val (.int xe), .val (.int xf), .val (.int (0 : Int32)), .val (.int w2), .val (.int w3), .val (.ref b4), .val (.int (0 : Int32)), .val (.int (0 : Int32)), .val (.int (0 : Int32)), .val (.int w6), .val (.ref b7), .val (.int (w6 + (0 : Int32))), .val (.int (1 : Int32))] [(.ref b7)]))
    refine own_by (fun _ => XS.iconst Y36.here hx rfl (hb hby at_464)) ?_
    show own_Go p e below _ (T36.setTop (mkF m 465 #[.val (.int xa), .val (.int xb), .val (.int xc), .val (.int xd), .val (.int xe), .val (.int xf), .val (.int (0 : Int32)), .val (.int w2), .val (.int w3), .val (.ref b4), .val (.int (0 : Int32)), .val (.int (0 : Int32)), .val (.int (0 : Int32)), .val (.int w6), .val (.ref b7), .val (.int (w6 + (0 : Int32))), .val (.int (1 : Int32))] [(.int (5 : Int32)), (.ref b7)]))
    refine own_by (fun _ => XS.iload Y36.here hx rfl (hb hby at_465) rfl) ?_
    show own_Go p e below _ (T36.setTop (mkF m 467 #[.val (.int xa), .val (.int xb), .val (.int xc), .val (.int xd), .val (.int xe), .val (.int xf), .val (.int (0 : Int32)), .val (.int w2), .val (.int w3), .val (.ref b4), .val (.int (0 : Int32)), .val (.int (0 : Int32)), .val (.int (0 : Int32)), .val (.int w6), .val (.ref b7), .val (.int (w6 + (0 : Int32))), .val (.int (1 : Int32))] [(.int w6), (.int (5 : Int32)), (.ref b7)]))
    refine own_by (fun _ => XS.iload Y36.here hx rfl (hb hby at_467) rfl) ?_
    show own_Go p e below _ (T36.setTop (mkF m 469 #[.val (.int xa), .val (.int xb), .val (.int xc), .val (.int xd), .val (.int xe), .val (.int xf), .val (.int (0 : Int32)), .val (.int w2), .val (.int w3), .val (.ref b4), .val (.int (0 : Int32)), .val (.int (0 : Int32)), .val (.int (0 : Int32)), .val (.int w6), .val (.ref b7), .val (.int (w6 + (0 : Int32))), .val (.int (1 : Int32))] [(.int (0 : Int32)), (.int w6), (.int (5 : Int32)), (.ref b7)]))
    refine own_by (fun _ => XS.iload Y36.here hx rfl (hb hby at_469) rfl) ?_
    show own_Go p e below _ (T36.setTop (mkF m 471 #[.val (.int xa), .val (.int xb), .val (.int xc), .val (.int xd), .val (.int xe), .val (.int xf), .val (.int (0 : Int32)), .val (.int w2), .val (.int w3), .val (.ref b4), .val (.int (0 : Int32)), .val (.int (0 : Int32)), .val (.int (0 : Int32)), .val (.int w6), .val (.ref b7), .val (.int (w6 + (0 : Int32))), .val (.int (1 : Int32))] [(.int (0 : Int32)), (.int (0 : Int32)), (.int w6), (.int (5 : Int32)), (.ref b7)]))
    refine own_by (fun _ => XS.iload Y36.here hx rfl (hb hby at_471) rfl) ?_
    show own_Go p e below _ (T36.setTop (mkF m 473 #[.val (.int xa), .val (.int xb), .val (.int xc), .val (.int xd), .val (.int xe), .val (.int xf), .val (.int (0 : Int32)), .val (.int w2), .val (.int w3), .val (.ref b4), .val (.int (0 : Int32)), .val (.int (0 : Int32)), .val (.int (0 : Int32)), .val (.int w6), .val (.ref b7), .val (.int (w6 + (0 : Int32))), .val (.int (1 : Int32))] [(.int (0 : Int32)), (.int (0 : Int32)), (.int (0 : Int32)), (.int w6), (.int (5 : Int32)), (.ref b7)]))
    refine own_by (fun _ => XS.iload Y36.here hx rfl (hb hby at_473) rfl) ?_
    show own_Go p e below _ (T36.setTop (mkF m 475 #[.val (.int xa), .val (.int xb), .val (.int xc), .val (.int xd), .val (.int xe), .val (.int xf), .val (.int (0 : Int32)), .val (.int w2), .val (.int w3), .val (.ref b4), .val (.int (0 : Int32)), .val (.int (0 : Int32)), .val (.int (0 : Int32)), .val (.int w6), .val (.ref b7), .val (.int (w6 + (0 : Int32))), .val (.int (1 : Int32))] [(.int (0 : Int32)), (.int (0 : Int32)), (.int (0 : Int32)), (.int (0 : Int32)), (.int w6), (.int (5 : Int32)), (.ref b7)]))
    refine own_by (fun _ => XS.iload Y36.here hx rfl (hb hby at_475) rfl) ?_
    show own_Go p e below _ (T36.setTop (mkF m 477 #[.val (.int xa), .val (.int xb), .val (.int xc), .val (.int xd), .val (.int xe), .val (.int xf), .val (.int (0 : Int32)), .val (.int w2), .val (.int w3), .val (.ref b4), .val (.int (0 : Int32)), .val (.int (0 : Int32)), .val (.int (0 : Int32)), .val (.int w6), .val (.ref b7), .val (.int (w6 + (0 : Int32))), .val (.int (1 : Int32))] [(.int xe), (.int (0 : Int32)), (.int (0 : Int32)), (.int (0 : Int32)), (.int (0 : Int32)), (.int w6), (.int (5 : Int32)), (.ref b7)]))
    obtain ⟨_, _, ⟨T37, L37, k37, n37⟩, -, X37, ⟨Lc37, hQ37, l37, y37, z37'⟩, st37⟩ := Jvm.LawKit.callS Y36 hx (y := (⟨"com/example/bucketsplit/bucketsplit/core/PageTakeAllPinLaw", "slot", "([IIIIIIII)Z"⟩ : MethodName)) hown (mvT hZ (hw _ (List.mem_of_getElem? (i := 37) rfl))) (mvT hZ (hw _ (List.mem_of_getElem? (i := 38) rfl))) (mvT hZ (hw _ (List.mem_of_getElem? (i := 39) rfl))) (mvT hZ (hw _ (List.mem_of_getElem? (i := 40) rfl))) (by decide) (backOf (W := 0) (own_rm8 l Z a0 hw [] b7 (5 : Int32) w6 (0 : Int32) (0 : Int32) (0 : Int32) (0 : Int32) xe k7 ls29_1 T29.heap n0 z29 fc29_1 (by decide : ¬ ((5 : Int32) < (0 : Int32))) (by decide : (5 : Int32) < (8 : Int32))) hZ (hw _ (List.mem_of_getElem? (i := 40) rfl)) (hw _ (List.mem_of_getElem? (i := 39) rfl)) (by decide) (by decide)) (g := (mkF m 477 #[.val (.int xa), .val (.int xb), .val (.int xc), .val (.int xd), .val (.int xe), .val (.int xf), .val (.int (0 : Int32)), .val (.int w2), .val (.int w3), .val (.ref b4), .val (.int (0 : Int32)), .val (.int (0 : Int32)), .val (.int (0 : Int32)), .val (.int w6), .val (.ref b7), .val (.int (w6 + (0 : Int32))), .val (.int (1 : Int32))] [(.int xe), (.int (0 : Int32)), (.int (0 : Int32)), (.int (0 : Int32)), (.int (0 : Int32)), (.int w6), (.int (5 : Int32)), (.ref b7)])) rfl (by rw [hml]; rfl) (argsL := [(.ref b7), (.int (5 : Int32)), (.int w6), (.int (0 : Int32)), (.int (0 : Int32)), (.int (0 : Int32)), (.int (0 : Int32)), (.int xe)]) (rest := []) (lenOf own_pd3 rfl) rfl (by show 2 * 0 + _ ≤ _; exact Nat.le_of_eq rfl) (hb hby at_477) (fun _ _ => ⟨rfl, e36, (by decide : 3 + 0 ≤ _), (by decide : 14 + 0 ≤ _)⟩)
    dsimp only [Pt.U, Pt.locs, Pt.cells, Pt.slots] at X37 l37 y37 z37' st37 hQ37
    subst l37 y37 z37'
    obtain ⟨rfl, N37q, e37⟩ := hQ37
    have N37 := Fr.app M36 N37q
    refine own_by st37 ?_
    clear st37 Y36
    obtain ⟨lq37, Y37, M37⟩ : ∃ lq, Stand p l e room_1 s m #[(.int xa), (.int xb), (.int xc), (.int xd), (.int xe), (.int xf)] below meth c T37 lq 3 14 ∧ Fr n0 lq := ⟨_, X37, N37⟩
    clear X37 N37
    show own_Go p e below _ (T37.setTop (mkF m 480 #[.val (.int xa), .val (.int xb), .val (.int xc), .val (.int xd), .val (.int xe), .val (.int xf), .val (.int (0 : Int32)), .val (.int w2), .val (.int w3), .val (.ref b4), .val (.int (0 : Int32)), .val (.int (0 : Int32)), .val (.int (0 : Int32)), .val (.int w6), .val (.ref b7), .val (.int (w6 + (0 : Int32))), .val (.int (1 : Int32))] [(.int (own_slot (5 : Int32) w6 (0 : Int32) (0 : Int32) (0 : Int32) (0 : Int32) xe ls29_1))]))
    refine own_by (fun _ => XS.ifNo Y37.here hx rfl (hb hby at_480) rfl ((if0 _ _).trans (feq (own_no0 (own_sl0 xe w6 (5 : Int32) hls29_1 (own_at0 hw6) (by decide)))).1)) ?_
    show own_Go p e below _ (T37.setTop (mkF m 483 #[.val (.int xa), .val (.int xb), .val (.int xc), .val (.int xd), .val (.int xe), .val (.int xf), .val (.int (0 : Int32)), .val (.int w2), .val (.int w3), .val (.ref b4), .val (.int (0 : Int32)), .val (.int (0 : Int32)), .val (.int (0 : Int32)), .val (.int w6), .val (.ref b7), .val (.int (w6 + (0 : Int32))), .val (.int (1 : Int32))] []))
    refine own_by (fun _ => XS.iconst Y37.here hx rfl (hb hby at_483)) ?_
    show own_Go p e below _ (T37.setTop (mkF m 484 #[.val (.int xa), .val (.int xb), .val (.int xc), .val (.int xd), .val (.int xe), .val (.int xf), .val (.int (0 : Int32)), .val (.int w2), .val (.int w3), .val (.ref b4), .val (.int (0 : Int32)), .val (.int (0 : Int32)), .val (.int (0 : Int32)), .val (.int w6), .val (.ref b7), .val (.int (w6 + (0 : Int32))), .val (.int (1 : Int32))] [(.int (1 : Int32))]))
    refine own_by (fun _ => XS.goto Y37.here hx rfl (pc0 := 484) (pc' := 488) rfl (hb hby at_484) (by decide) (by decide)) ?_
    show own_Go p e below _ (T37.setTop (mkF m 488 #[.val (.int xa), .val (.int xb), .val (.int xc), .val (.int xd), .val (.int xe), .val (.int xf), .val (.int (0 : Int32)), .val (.int w2), .val (.int w3), .val (.ref b4), .val (.int (0 : Int32)), .val (.int (0 : Int32)), .val (.int (0 : Int32)), .val (.int w6), .val (.ref b7), .val (.int (w6 + (0 : Int32))), .val (.int (1 : Int32))] [(.int (1 : Int32))]))
    refine own_by (fun _ => XS.istore Y37.here hx rfl (hb hby at_488) rfl (l' := #[.val (.int xa), .val (.int xb), .val (.int xc), .val (.int xd), .val (.int xe), .val (.int xf), .val (.int (0 : Int32)), .val (.int w2), .val (.int w3), .val (.ref b4), .val (.int (0 : Int32)), .val (.int (0 : Int32)), .val (.int (0 : Int32)), .val (.int w6), .val (.ref b7), .val (.int (w6 + (0 : Int32))), .val (.int (1 : Int32))]) rfl) ?_
    show own_Go p e below _ (T37.setTop (mkF m 490 #[.val (.int xa), .val (.int xb), .val (.int xc), .val (.int xd), .val (.int xe), .val (.int xf), .val (.int (0 : Int32)), .val (.int w2), .val (.int w3), .val (.ref b4), .val (.int (0 : Int32)), .val (.int (0 : Int32)), .val (.int (0 : Int32)), .val (.int w6), .val (.ref b7), .val (.int (w6 + (0 : Int32))), .val (.int (1 : Int32))] []))
    refine own_by (fun _ => XS.iload Y37.here hx rfl (hb hby at_490) rfl) ?_
    show own_Go p e below _ (T37.setTop (mkF m 492 #[.val (.int xa), .val (.int xb), .val (.int xc), .val (.int xd), .val (.int xe), .val (.int xf), .val (.int (0 : Int32)), .val (.int w2), .val (.int w3), .val (.ref b4), .val (.int (0 : Int32)), .val (.int (0 : Int32)), .val (.int (0 : Int32)), .val (.int w6), .val (.ref b7), .val (.int (w6 + (0 : Int32))), .val (.int (1 : Int32))] [(.int (1 : Int32))]))
    refine own_by (fun _ => XS.ifNo Y37.here hx rfl (hb hby at_492) rfl ((if0 _ _).trans (feq (by decide : ¬ ((1 : Int32) = (0 : Int32)))).1)) ?_
    show own_Go p e below _ (T37.setTop (mkF m 495 #[.val (.int xa), .val (.int xb), .val (.int xc), .val (.int xd), .val (.int xe), .val (.int xf), .val (.int (0 : Int32)), .val (.int w2), .val (.int w3), .val (.ref b4), .val (.int (0 : Int32)), .val (.int (0 : Int32)), .val (.int (0 : Int32)), .val (.int w6), .val (.ref b7), .val (.int (w6 + (0 : Int32))), .val (.int (1 : Int32))] []))
    refine own_by (fun _ => XS.aload Y37.here hx rfl (hb hby at_495) rfl rfl) ?_
    show own_Go p e below _ (T37.setTop (mkF m 497 #[.val (.int xa), .val (.int xb), .val (.int xc), .val (.int xd), .val (.int xe), .val (.int xf), .val (.int (0 : Int32)), .val (.int w2), .val (.int w3), .val (.ref b4), .val (.int (0 : Int32)), .val (.int (0 : Int32)), .val (.int (0 : Int32)), .val (.int w6), .val (.ref b7), .val (.int (w6 + (0 : Int32))), .val (.int (1 : Int32))] [(.ref b7)]))
    refine own_by (fun _ => XS.bipush Y37.here hx rfl (hb hby at_497)) ?_
    show own_Go p e below _ (T37.setTop (mkF m 499 #[.val (.int xa), .val (.int xb), .val (.int xc), .val (.int xd), .val (.int xe), .val (.int xf), .val (.int (0 : Int32)), .val (.int w2), .val (.int w3), .val (.ref b4), .val (.int (0 : Int32)), .val (.int (0 : Int32)), .val (.int (0 : Int32)), .val (.int w6), .val (.ref b7), .val (.int (w6 + (0 : Int32))), .val (.int (1 : Int32))] [(.int (6 : Int32)), (.ref b7)]))
    refine own_by (fun _ => XS.iload Y37.here hx rfl (hb hby at_499) rfl) ?_
    show own_Go p e below _ (T37.setTop (mkF m 501 #[.val (.int xa), .val (.int xb), .val (.int xc), .val (.int xd), .val (.int xe), .val (.int xf), .val (.int (0 : Int32)), .val (.int w2), .val (.int w3), .val (.ref b4), .val (.int (0 : Int32)), .val (.int (0 : Int32)), .val (.int (0 : Int32)), .val (.int w6), .val (.ref b7), .val (.int (w6 + (0 : Int32))), .val (.int (1 : Int32))] [(.int w6), (.int (6 : Int32)), (.ref b7)]))
    refine own_by (fun _ => XS.iload Y37.here hx rfl (hb hby at_501) rfl) ?_
    show own_Go p e below _ (T37.setTop (mkF m 503 #[.val (.int xa), .val (.int xb), .val (.int xc), .val (.int xd), .val (.int xe), .val (.int xf), .val (.int (0 : Int32)), .val (.int w2), .val (.int w3), .val (.ref b4), .val (.int (0 : Int32)), .val (.int (0 : Int32)), .val (.int (0 : Int32)), .val (.int w6), .val (.ref b7), .val (.int (w6 + (0 : Int32))), .val (.int (1 : Int32))] [(.int (0 : Int32)), (.int w6), (.int (6 : Int32)), (.ref b7)]))
    refine own_by (fun _ => XS.iload Y37.here hx rfl (hb hby at_503) rfl) ?_
    show own_Go p e below _ (T37.setTop (mkF m 505 #[.val (.int xa), .val (.int xb), .val (.int xc), .val (.int xd), .val (.int xe), .val (.int xf), .val (.int (0 : Int32)), .val (.int w2), .val (.int w3), .val (.ref b4), .val (.int (0 : Int32)), .val (.int (0 : Int32)), .val (.int (0 : Int32)), .val (.int w6), .val (.ref b7), .val (.int (w6 + (0 : Int32))), .val (.int (1 : Int32))] [(.int (0 : Int32)), (.int (0 : Int32)), (.int w6), (.int (6 : Int32)), (.ref b7)]))
    refine own_by (fun _ => XS.iload Y37.here hx rfl (hb hby at_505) rfl) ?_
    show own_Go p e below _ (T37.setTop (mkF m 507 #[.val (.int xa), .val (.int xb), .val (.int xc), .val (.int xd), .val (.int xe), .val (.int xf), .val (.int (0 : Int32)), .val (.int w2), .val (.int w3), .val (.ref b4), .val (.int (0 : Int32)), .val (.int (0 : Int32)), .val (.int (0 : Int32)), .val (.int w6), .val (.ref b7), .val (.int (w6 + (0 : Int32))), .val (.int (1 : Int32))] [(.int (0 : Int32)), (.int (0 : Int32)), (.int (0 : Int32)), (.int w6), (.int (6 : Int32)), (.ref b7)]))
    refine own_by (fun _ => XS.iload Y37.here hx rfl (hb hby at_507) rfl) ?_
    show own_Go p e below _ (T37.setTop (mkF m 509 #[.val (.int xa), .val (.int xb), .val (.int xc), .val (.int xd), .val (.int xe), .val (.int xf), .val (.int (0 : Int32)), .val (.int w2), .val (.int w3), .val (.ref b4), .val (.int (0 : Int32)), .val (.int (0 : Int32)), .val (.int (0 : Int32)), .val (.int w6), .val (.ref b7), .val (.int (w6 + (0 : Int32))), .val (.int (1 : Int32))] [(.int (0 : Int32)), (.int (0 : Int32)), (.int (0 : Int32)), (.int (0 : Int32)), (.int w6), (.int (6 : Int32)), (.ref b7)]))
    refine own_by (fun _ => XS.iload Y37.here hx rfl (hb hby at_509) rfl) ?_
    show own_Go p e below _ (T37.setTop (mkF m 511 #[.val (.int xa), .val (.int xb), .val (.int xc), .val (.int xd), .val (.int xe), .val (.int xf), .val (.int (0 : Int32)), .val (.int w2), .val (.int w3), .val (.ref b4), .val (.int (0 : Int32)), .val (.int (0 : Int32)), .val (.int (0 : Int32)), .val (.int w6), .val (.ref b7), .val (.int (w6 + (0 : Int32))), .val (.int (1 : Int32))] [(.int xe), (.int (0 : Int32)), (.int (0 : Int32)), (.int (0 : Int32)), (.int (0 : Int32)), (.int w6), (.int (6 : Int32)), (.ref b7)]))
    obtain ⟨_, _, ⟨T38, L38, k38, n38⟩, -, X38, ⟨Lc38, hQ38, l38, y38, z38'⟩, st38⟩ := Jvm.LawKit.callS Y37 hx (y := (⟨"com/example/bucketsplit/bucketsplit/core/PageTakeAllPinLaw", "slot", "([IIIIIIII)Z"⟩ : MethodName)) hown (mvT hZ (hw _ (List.mem_of_getElem? (i := 37) rfl))) (mvT hZ (hw _ (List.mem_of_getElem? (i := 38) rfl))) (mvT hZ (hw _ (List.mem_of_getElem? (i := 39) rfl))) (mvT hZ (hw _ (List.mem_of_getElem? (i := 40) rfl))) (by decide) (backOf (W := 0) (own_rm8 l Z a0 hw [] b7 (6 : Int32) w6 (0 : Int32) (0 : Int32) (0 : Int32) (0 : Int32) xe k7 ls29_1 T29.heap n0 z29 fc29_1 (by decide : ¬ ((6 : Int32) < (0 : Int32))) (by decide : (6 : Int32) < (8 : Int32))) hZ (hw _ (List.mem_of_getElem? (i := 40) rfl)) (hw _ (List.mem_of_getElem? (i := 39) rfl)) (by decide) (by decide)) (g := (mkF m 511 #[.val (.int xa), .val (.int xb), .val (.int xc), .val (.int xd), .val (.int xe), .val (.int xf), .val (.int (0 : Int32)), .val (.int w2), .val (.int w3), .val (.ref b4), .val (.int (0 : Int32)), .val (.int (0 : Int32)), .val (.int (0 : Int32)), .val (.int w6), .val (.ref b7), .val (.int (w6 + (0 : Int32))), .val (.int (1 : Int32))] [(.int xe), (.int (0 : Int32)), (.int (0 : Int32)), (.int (0 : Int32)), (.int (0 : Int32)), (.int w6), (.int (6 : Int32)), (.ref b7)])) rfl (by rw [hml]; rfl) (argsL := [(.ref b7), (.int (6 : Int32)), (.int w6), (.int (0 : Int32)), (.int (0 : Int32)), (.int (0 : Int32)), (.int (0 : Int32)), (.int xe)]) (rest := []) (lenOf own_pd3 rfl) rfl (by show 2 * 0 + _ ≤ _; exact Nat.le_of_eq rfl) (hb hby at_511) (fun _ _ => ⟨rfl, e37, (by decide : 3 + 0 ≤ _), (by decide : 14 + 0 ≤ _)⟩)
    dsimp only [Pt.U, Pt.locs, Pt.cells, Pt.slots] at X38 l38 y38 z38' st38 hQ38
    subst l38 y38 z38'
    obtain ⟨rfl, N38q, e38⟩ := hQ38
    have N38 := Fr.app M37 N38q
    refine own_by st38 ?_
    clear st38 Y37
    obtain ⟨lq38, Y38, M38⟩ : ∃ lq, Stand p l e room_1 s m #[(.int xa), (.int xb), (.int xc), (.int xd), (.int xe), (.int xf)] below meth c T38 lq 3 14 ∧ Fr n0 lq := ⟨_, X38, N38⟩
    clear X38 N38
    show own_Go p e below _ (T38.setTop (mkF m 514 #[.val (.int xa), .val (.int xb), .val (.int xc), .val (.int xd), .val (.int xe), .val (.int xf), .val (.int (0 : Int32)), .val (.int w2), .val (.int w3), .val (.ref b4), .val (.int (0 : Int32)), .val (.int (0 : Int32)), .val (.int (0 : Int32)), .val (.int w6), .val (.ref b7), .val (.int (w6 + (0 : Int32))), .val (.int (1 : Int32))] [(.int (own_slot (6 : Int32) w6 (0 : Int32) (0 : Int32) (0 : Int32) (0 : Int32) xe ls29_1))]))
    refine own_by (fun _ => XS.ifNo Y38.here hx rfl (hb hby at_514) rfl ((if0 _ _).trans (feq (own_no0 (own_sl0 xe w6 (6 : Int32) hls29_1 (own_at0 hw6) (by decide)))).1)) ?_
    show own_Go p e below _ (T38.setTop (mkF m 517 #[.val (.int xa), .val (.int xb), .val (.int xc), .val (.int xd), .val (.int xe), .val (.int xf), .val (.int (0 : Int32)), .val (.int w2), .val (.int w3), .val (.ref b4), .val (.int (0 : Int32)), .val (.int (0 : Int32)), .val (.int (0 : Int32)), .val (.int w6), .val (.ref b7), .val (.int (w6 + (0 : Int32))), .val (.int (1 : Int32))] []))
    refine own_by (fun _ => XS.iconst Y38.here hx rfl (hb hby at_517)) ?_
    show own_Go p e below _ (T38.setTop (mkF m 518 #[.val (.int xa), .val (.int xb), .val (.int xc), .val (.int xd), .val (.int xe), .val (.int xf), .val (.int (0 : Int32)), .val (.int w2), .val (.int w3), .val (.ref b4), .val (.int (0 : Int32)), .val (.int (0 : Int32)), .val (.int (0 : Int32)), .val (.int w6), .val (.ref b7), .val (.int (w6 + (0 : Int32))), .val (.int (1 : Int32))] [(.int (1 : Int32))]))
    refine own_by (fun _ => XS.goto Y38.here hx rfl (pc0 := 518) (pc' := 522) rfl (hb hby at_518) (by decide) (by decide)) ?_
    show own_Go p e below _ (T38.setTop (mkF m 522 #[.val (.int xa), .val (.int xb), .val (.int xc), .val (.int xd), .val (.int xe), .val (.int xf), .val (.int (0 : Int32)), .val (.int w2), .val (.int w3), .val (.ref b4), .val (.int (0 : Int32)), .val (.int (0 : Int32)), .val (.int (0 : Int32)), .val (.int w6), .val (.ref b7), .val (.int (w6 + (0 : Int32))), .val (.int (1 : Int32))] [(.int (1 : Int32))]))
    refine own_by (fun _ => XS.istore Y38.here hx rfl (hb hby at_522) rfl (l' := #[.val (.int xa), .val (.int xb), .val (.int xc), .val (.int xd), .val (.int xe), .val (.int xf), .val (.int (0 : Int32)), .val (.int w2), .val (.int w3), .val (.ref b4), .val (.int (0 : Int32)), .val (.int (0 : Int32)), .val (.int (0 : Int32)), .val (.int w6), .val (.ref b7), .val (.int (w6 + (0 : Int32))), .val (.int (1 : Int32))]) rfl) ?_
    show own_Go p e below _ (T38.setTop (mkF m 524 #[.val (.int xa), .val (.int xb), .val (.int xc), .val (.int xd), .val (.int xe), .val (.int xf), .val (.int (0 : Int32)), .val (.int w2), .val (.int w3), .val (.ref b4), .val (.int (0 : Int32)), .val (.int (0 : Int32)), .val (.int (0 : Int32)), .val (.int w6), .val (.ref b7), .val (.int (w6 + (0 : Int32))), .val (.int (1 : Int32))] []))
    refine own_by (fun _ => XS.iload Y38.here hx rfl (hb hby at_524) rfl) ?_
    show own_Go p e below _ (T38.setTop (mkF m 526 #[.val (.int xa), .val (.int xb), .val (.int xc), .val (.int xd), .val (.int xe), .val (.int xf), .val (.int (0 : Int32)), .val (.int w2), .val (.int w3), .val (.ref b4), .val (.int (0 : Int32)), .val (.int (0 : Int32)), .val (.int (0 : Int32)), .val (.int w6), .val (.ref b7), .val (.int (w6 + (0 : Int32))), .val (.int (1 : Int32))] [(.int (1 : Int32))]))
    refine own_by (fun _ => XS.ifNo Y38.here hx rfl (hb hby at_526) rfl ((if0 _ _).trans (feq (by decide : ¬ ((1 : Int32) = (0 : Int32)))).1)) ?_
    show own_Go p e below _ (T38.setTop (mkF m 529 #[.val (.int xa), .val (.int xb), .val (.int xc), .val (.int xd), .val (.int xe), .val (.int xf), .val (.int (0 : Int32)), .val (.int w2), .val (.int w3), .val (.ref b4), .val (.int (0 : Int32)), .val (.int (0 : Int32)), .val (.int (0 : Int32)), .val (.int w6), .val (.ref b7), .val (.int (w6 + (0 : Int32))), .val (.int (1 : Int32))] []))
    refine own_by (fun _ => XS.aload Y38.here hx rfl (hb hby at_529) rfl rfl) ?_
    show own_Go p e below _ (T38.setTop (mkF m 531 #[.val (.int xa), .val (.int xb), .val (.int xc), .val (.int xd), .val (.int xe), .val (.int xf), .val (.int (0 : Int32)), .val (.int w2), .val (.int w3), .val (.ref b4), .val (.int (0 : Int32)), .val (.int (0 : Int32)), .val (.int (0 : Int32)), .val (.int w6), .val (.ref b7), .val (.int (w6 + (0 : Int32))), .val (.int (1 : Int32))] [(.ref b7)]))
    refine own_by (fun _ => XS.bipush Y38.here hx rfl (hb hby at_531)) ?_
    show own_Go p e below _ (T38.setTop (mkF m 533 #[.val (.int xa), .val (.int xb), .val (.int xc), .val (.int xd), .val (.int xe), .val (.int xf), .val (.int (0 : Int32)), .val (.int w2), .val (.int w3), .val (.ref b4), .val (.int (0 : Int32)), .val (.int (0 : Int32)), .val (.int (0 : Int32)), .val (.int w6), .val (.ref b7), .val (.int (w6 + (0 : Int32))), .val (.int (1 : Int32))] [(.int (7 : Int32)), (.ref b7)]))
    refine own_by (fun _ => XS.iload Y38.here hx rfl (hb hby at_533) rfl) ?_
    show own_Go p e below _ (T38.setTop (mkF m 535 #[.val (.int xa), .val (.int xb), .val (.int xc), .val (.int xd), .val (.int xe), .val (.int xf), .val (.int (0 : Int32)), .val (.int w2), .val (.int w3), .val (.ref b4), .val (.int (0 : Int32)), .val (.int (0 : Int32)), .val (.int (0 : Int32)), .val (.int w6), .val (.ref b7), .val (.int (w6 + (0 : Int32))), .val (.int (1 : Int32))] [(.int w6), (.int (7 : Int32)), (.ref b7)]))
    refine own_by (fun _ => XS.iload Y38.here hx rfl (hb hby at_535) rfl) ?_
    show own_Go p e below _ (T38.setTop (mkF m 537 #[.val (.int xa), .val (.int xb), .val (.int xc), .val (.int xd), .val (.int xe), .val (.int xf), .val (.int (0 : Int32)), .val (.int w2), .val (.int w3), .val (.ref b4), .val (.int (0 : Int32)), .val (.int (0 : Int32)), .val (.int (0 : Int32)), .val (.int w6), .val (.ref b7), .val (.int (w6 + (0 : Int32))), .val (.int (1 : Int32))] [(.int (0 : Int32)), (.int w6), (.int (7 : Int32)), (.ref b7)]))
    refine own_by (fun _ => XS.iload Y38.here hx rfl (hb hby at_537) rfl) ?_
    show own_Go p e below _ (T38.setTop (mkF m 539 #[.val (.int xa), .val (.int xb), .val (.int xc), .val (.int xd), .val (.int xe), .val (.int xf), .val (.int (0 : Int32)), .val (.int w2), .val (.int w3), .val (.ref b4), .val (.int (0 : Int32)), .val (.int (0 : Int32)), .val (.int (0 : Int32)), .val (.int w6), .val (.ref b7), .val (.int (w6 + (0 : Int32))), .val (.int (1 : Int32))] [(.int (0 : Int32)), (.int (0 : Int32)), (.int w6), (.int (7 : Int32)), (.ref b7)]))
    refine own_by (fun _ => XS.iload Y38.here hx rfl (hb hby at_539) rfl) ?_
    show own_Go p e below _ (T38.setTop (mkF m 541 #[.val (.int xa), .val (.int xb), .val (.int xc), .val (.int xd), .val (.int xe), .val (.int xf), .val (.int (0 : Int32)), .val (.int w2), .val (.int w3), .val (.ref b4), .val (.int (0 : Int32)), .val (.int (0 : Int32)), .val (.int (0 : Int32)), .val (.int w6), .val (.ref b7), .val (.int (w6 + (0 : Int32))), .val (.int (1 : Int32))] [(.int (0 : Int32)), (.int (0 : Int32)), (.int (0 : Int32)), (.int w6), (.int (7 : Int32)), (.ref b7)]))
    refine own_by (fun _ => XS.iload Y38.here hx rfl (hb hby at_541) rfl) ?_
    show own_Go p e below _ (T38.setTop (mkF m 543 #[.val (.int xa), .val (.int xb), .val (.int xc), .val (.int xd), .val (.int xe), .val (.int xf), .val (.int (0 : Int32)), .val (.int w2), .val (.int w3), .val (.ref b4), .val (.int (0 : Int32)), .val (.int (0 : Int32)), .val (.int (0 : Int32)), .val (.int w6), .val (.ref b7), .val (.int (w6 + (0 : Int32))), .val (.int (1 : Int32))] [(.int (0 : Int32)), (.int (0 : Int32)), (.int (0 : Int32)), (.int (0 : Int32)), (.int w6), (.int (7 : Int32)), (.ref b7)]))
    refine own_by (fun _ => XS.iload Y38.here hx rfl (hb hby at_543) rfl) ?_
    show own_Go p e below _ (T38.setTop (mkF m 545 #[.val (.int xa), .val (.int xb), .val (.int xc), .val (.int xd), .val (.int xe), .val (.int xf), .val (.int (0 : Int32)), .val (.int w2), .val (.int w3), .val (.ref b4), .val (.int (0 : Int32)), .val (.int (0 : Int32)), .val (.int (0 : Int32)), .val (.int w6), .val (.ref b7), .val (.int (w6 + (0 : Int32))), .val (.int (1 : Int32))] [(.int xe), (.int (0 : Int32)), (.int (0 : Int32)), (.int (0 : Int32)), (.int (0 : Int32)), (.int w6), (.int (7 : Int32)), (.ref b7)]))
    obtain ⟨_, _, ⟨T39, L39, k39, n39⟩, -, X39, ⟨Lc39, hQ39, l39, y39, z39'⟩, st39⟩ := Jvm.LawKit.callS Y38 hx (y := (⟨"com/example/bucketsplit/bucketsplit/core/PageTakeAllPinLaw", "slot", "([IIIIIIII)Z"⟩ : MethodName)) hown (mvT hZ (hw _ (List.mem_of_getElem? (i := 37) rfl))) (mvT hZ (hw _ (List.mem_of_getElem? (i := 38) rfl))) (mvT hZ (hw _ (List.mem_of_getElem? (i := 39) rfl))) (mvT hZ (hw _ (List.mem_of_getElem? (i := 40) rfl))) (by decide) (backOf (W := 0) (own_rm8 l Z a0 hw [] b7 (7 : Int32) w6 (0 : Int32) (0 : Int32) (0 : Int32) (0 : Int32) xe k7 ls29_1 T29.heap n0 z29 fc29_1 (by decide : ¬ ((7 : Int32) < (0 : Int32))) (by decide : (7 : Int32) < (8 : Int32))) hZ (hw _ (List.mem_of_getElem? (i := 40) rfl)) (hw _ (List.mem_of_getElem? (i := 39) rfl)) (by decide) (by decide)) (g := (mkF m 545 #[.val (.int xa), .val (.int xb), .val (.int xc), .val (.int xd), .val (.int xe), .val (.int xf), .val (.int (0 : Int32)), .val (.int w2), .val (.int w3), .val (.ref b4), .val (.int (0 : Int32)), .val (.int (0 : Int32)), .val (.int (0 : Int32)), .val (.int w6), .val (.ref b7), .val (.int (w6 + (0 : Int32))), .val (.int (1 : Int32))] [(.int xe), (.int (0 : Int32)), (.int (0 : Int32)), (.int (0 : Int32)), (.int (0 : Int32)), (.int w6), (.int (7 : Int32)), (.ref b7)])) rfl (by rw [hml]; rfl) (argsL := [(.ref b7), (.int (7 : Int32)), (.int w6), (.int (0 : Int32)), (.int (0 : Int32)), (.int (0 : Int32)), (.int (0 : Int32)), (.int xe)]) (rest := []) (lenOf own_pd3 rfl) rfl (by show 2 * 0 + _ ≤ _; exact Nat.le_of_eq rfl) (hb hby at_545) (fun _ _ => ⟨rfl, e38, (by decide : 3 + 0 ≤ _), (by decide : 14 + 0 ≤ _)⟩)
    dsimp only [Pt.U, Pt.locs, Pt.cells, Pt.slots] at X39 l39 y39 z39' st39 hQ39
    subst l39 y39 z39'
    obtain ⟨rfl, N39q, e39⟩ := hQ39
    have N39 := Fr.app M38 N39q
    refine own_by st39 ?_
    clear st39 Y38
    obtain ⟨lq39, Y39, M39⟩ : ∃ lq, Stand p l e room_1 s m #[(.int xa), (.int xb), (.int xc), (.int xd), (.int xe), (.int xf)] below meth c T39 lq 3 14 ∧ Fr n0 lq := ⟨_, X39, N39⟩
    clear X39 N39
    show own_Go p e below _ (T39.setTop (mkF m 548 #[.val (.int xa), .val (.int xb), .val (.int xc), .val (.int xd), .val (.int xe), .val (.int xf), .val (.int (0 : Int32)), .val (.int w2), .val (.int w3), .val (.ref b4), .val (.int (0 : Int32)), .val (.int (0 : Int32)), .val (.int (0 : Int32)), .val (.int w6), .val (.ref b7), .val (.int (w6 + (0 : Int32))), .val (.int (1 : Int32))] [(.int (own_slot (7 : Int32) w6 (0 : Int32) (0 : Int32) (0 : Int32) (0 : Int32) xe ls29_1))]))
    refine own_by (fun _ => XS.ifNo Y39.here hx rfl (hb hby at_548) rfl ((if0 _ _).trans (feq (own_no0 (own_sl0 xe w6 (7 : Int32) hls29_1 (own_at0 hw6) (by decide)))).1)) ?_
    show own_Go p e below _ (T39.setTop (mkF m 551 #[.val (.int xa), .val (.int xb), .val (.int xc), .val (.int xd), .val (.int xe), .val (.int xf), .val (.int (0 : Int32)), .val (.int w2), .val (.int w3), .val (.ref b4), .val (.int (0 : Int32)), .val (.int (0 : Int32)), .val (.int (0 : Int32)), .val (.int w6), .val (.ref b7), .val (.int (w6 + (0 : Int32))), .val (.int (1 : Int32))] []))
    refine own_by (fun _ => XS.iconst Y39.here hx rfl (hb hby at_551)) ?_
    show own_Go p e below _ (T39.setTop (mkF m 552 #[.val (.int xa), .val (.int xb), .val (.int xc), .val (.int xd), .val (.int xe), .val (.int xf), .val (.int (0 : Int32)), .val (.int w2), .val (.int w3), .val (.ref b4), .val (.int (0 : Int32)), .val (.int (0 : Int32)), .val (.int (0 : Int32)), .val (.int w6), .val (.ref b7), .val (.int (w6 + (0 : Int32))), .val (.int (1 : Int32))] [(.int (1 : Int32))]))
    refine own_by (fun _ => XS.goto Y39.here hx rfl (pc0 := 552) (pc' := 556) rfl (hb hby at_552) (by decide) (by decide)) ?_
    show own_Go p e below _ (T39.setTop (mkF m 556 #[.val (.int xa), .val (.int xb), .val (.int xc), .val (.int xd), .val (.int xe), .val (.int xf), .val (.int (0 : Int32)), .val (.int w2), .val (.int w3), .val (.ref b4), .val (.int (0 : Int32)), .val (.int (0 : Int32)), .val (.int (0 : Int32)), .val (.int w6), .val (.ref b7), .val (.int (w6 + (0 : Int32))), .val (.int (1 : Int32))] [(.int (1 : Int32))]))
    refine own_by (fun _ => XS.istore Y39.here hx rfl (hb hby at_556) rfl (l' := #[.val (.int xa), .val (.int xb), .val (.int xc), .val (.int xd), .val (.int xe), .val (.int xf), .val (.int (0 : Int32)), .val (.int w2), .val (.int w3), .val (.ref b4), .val (.int (0 : Int32)), .val (.int (0 : Int32)), .val (.int (0 : Int32)), .val (.int w6), .val (.ref b7), .val (.int (w6 + (0 : Int32))), .val (.int (1 : Int32))]) rfl) ?_
    show own_Go p e below _ (T39.setTop (mkF m 558 #[.val (.int xa), .val (.int xb), .val (.int xc), .val (.int xd), .val (.int xe), .val (.int xf), .val (.int (0 : Int32)), .val (.int w2), .val (.int w3), .val (.ref b4), .val (.int (0 : Int32)), .val (.int (0 : Int32)), .val (.int (0 : Int32)), .val (.int w6), .val (.ref b7), .val (.int (w6 + (0 : Int32))), .val (.int (1 : Int32))] []))
    refine own_by (fun _ => XS.iload Y39.here hx rfl (hb hby at_558) rfl) ?_
    show own_Go p e below _ (T39.setTop (mkF m 560 #[.val (.int xa), .val (.int xb), .val (.int xc), .val (.int xd), .val (.int xe), .val (.int xf), .val (.int (0 : Int32)), .val (.int w2), .val (.int w3), .val (.ref b4), .val (.int (0 : Int32)), .val (.int (0 : Int32)), .val (.int (0 : Int32)), .val (.int w6), .val (.ref b7), .val (.int (w6 + (0 : Int32))), .val (.int (1 : Int32))] [(.int (1 : Int32))]))
    exact own_retZ Y39 hx hlk e39 (by decide) hret (hb hby at_560) (by decide) (by decide) ⟨rfl, M39⟩
  ·
    skip
    rw [hs1]
    show own_Go p e below _ (s₁.setTop (mkF m 4 #[.val (.int xa), .val (.int xb), .val (.int xc), .val (.int xd), .val (.int xe), .val (.int xf), .unset, .unset, .unset, .unset, .unset, .unset, .unset, .unset, .unset, .unset, .unset] [(.int (1 : Int32))]))
    refine own_by (fun _ => XS.istore X0.here hx rfl (hb hby at_4) rfl (l' := #[.val (.int xa), .val (.int xb), .val (.int xc), .val (.int xd), .val (.int xe), .val (.int xf), .val (.int (1 : Int32)), .unset, .unset, .unset, .unset, .unset, .unset, .unset, .unset, .unset, .unset]) rfl) ?_
    show own_Go p e below _ (s₁.setTop (mkF m 6 #[.val (.int xa), .val (.int xb), .val (.int xc), .val (.int xd), .val (.int xe), .val (.int xf), .val (.int (1 : Int32)), .unset, .unset, .unset, .unset, .unset, .unset, .unset, .unset, .unset, .unset] []))
    refine own_by (fun _ => XS.iloadN X0.here hx rfl (hb hby at_6) rfl) ?_
    show own_Go p e below _ (s₁.setTop (mkF m 7 #[.val (.int xa), .val (.int xb), .val (.int xc), .val (.int xd), .val (.int xe), .val (.int xf), .val (.int (1 : Int32)), .unset, .unset, .unset, .unset, .unset, .unset, .unset, .unset, .unset, .unset] [(.int xa)]))
    refine own_by (fun _ => XS.iloadN X0.here hx rfl (hb hby at_7) rfl) ?_
    show own_Go p e below _ (s₁.setTop (mkF m 8 #[.val (.int xa), .val (.int xb), .val (.int xc), .val (.int xd), .val (.int xe), .val (.int xf), .val (.int (1 : Int32)), .unset, .unset, .unset, .unset, .unset, .unset, .unset, .unset, .unset, .unset] [(.int xb), (.int xa)]))
    refine own_by (fun _ => XS.iconst X0.here hx rfl (hb hby at_8)) ?_
    show own_Go p e below _ (s₁.setTop (mkF m 9 #[.val (.int xa), .val (.int xb), .val (.int xc), .val (.int xd), .val (.int xe), .val (.int xf), .val (.int (1 : Int32)), .unset, .unset, .unset, .unset, .unset, .unset, .unset, .unset, .unset, .unset] [(.int (2 : Int32)), (.int xb), (.int xa)]))
    refine own_by (fun _ => XS.ishl X0.here hx rfl (hb hby at_9) rfl) ?_
    show own_Go p e below _ (s₁.setTop (mkF m 10 #[.val (.int xa), .val (.int xb), .val (.int xc), .val (.int xd), .val (.int xe), .val (.int xf), .val (.int (1 : Int32)), .unset, .unset, .unset, .unset, .unset, .unset, .unset, .unset, .unset, .unset] [(.int (xb <<< ((2 : Int32) &&& 31))), (.int xa)]))
    refine own_by (fun _ => XS.iconst X0.here hx rfl (hb hby at_10)) ?_
    show own_Go p e below _ (s₁.setTop (mkF m 11 #[.val (.int xa), .val (.int xb), .val (.int xc), .val (.int xd), .val (.int xe), .val (.int xf), .val (.int (1 : Int32)), .unset, .unset, .unset, .unset, .unset, .unset, .unset, .unset, .unset, .unset] [(.int (1 : Int32)), (.int (xb <<< ((2 : Int32) &&& 31))), (.int xa)]))
    refine own_by (fun _ => XS.ior X0.here hx rfl (hb hby at_11) rfl) ?_
    show own_Go p e below _ (s₁.setTop (mkF m 12 #[.val (.int xa), .val (.int xb), .val (.int xc), .val (.int xd), .val (.int xe), .val (.int xf), .val (.int (1 : Int32)), .unset, .unset, .unset, .unset, .unset, .unset, .unset, .unset, .unset, .unset] [(.int ((xb <<< ((2 : Int32) &&& 31)) ||| (1 : Int32))), (.int xa)]))
    refine own_by (fun _ => XS.ixor X0.here hx rfl (hb hby at_12) rfl) ?_
    show own_Go p e below _ (s₁.setTop (mkF m 13 #[.val (.int xa), .val (.int xb), .val (.int xc), .val (.int xd), .val (.int xe), .val (.int xf), .val (.int (1 : Int32)), .unset, .unset, .unset, .unset, .unset, .unset, .unset, .unset, .unset, .unset] [(.int (xa ^^^ ((xb <<< ((2 : Int32) &&& 31)) ||| (1 : Int32))))]))
    refine own_by (fun _ => XS.istore X0.here hx rfl (hb hby at_13) rfl (l' := #[.val (.int xa), .val (.int xb), .val (.int xc), .val (.int xd), .val (.int xe), .val (.int xf), .val (.int (1 : Int32)), .val (.int (xa ^^^ ((xb <<< ((2 : Int32) &&& 31)) ||| (1 : Int32)))), .unset, .unset, .unset, .unset, .unset, .unset, .unset, .unset, .unset]) rfl) ?_
    show own_Go p e below _ (s₁.setTop (mkF m 15 #[.val (.int xa), .val (.int xb), .val (.int xc), .val (.int xd), .val (.int xe), .val (.int xf), .val (.int (1 : Int32)), .val (.int (xa ^^^ ((xb <<< ((2 : Int32) &&& 31)) ||| (1 : Int32)))), .unset, .unset, .unset, .unset, .unset, .unset, .unset, .unset, .unset] []))
    obtain ⟨w40, hw40⟩ : ∃ z : Int32, z = (xa ^^^ ((xb <<< ((2 : Int32) &&& 31)) ||| (1 : Int32))) := ⟨_, rfl⟩
    rw [← hw40]
    show own_Go p e below _ (s₁.setTop (mkF m 15 #[.val (.int xa), .val (.int xb), .val (.int xc), .val (.int xd), .val (.int xe), .val (.int xf), .val (.int (1 : Int32)), .val (.int w40), .unset, .unset, .unset, .unset, .unset, .unset, .unset, .unset, .unset] []))
    refine own_by (fun _ => XS.iloadN X0.here hx rfl (hb hby at_15) rfl) ?_
    show own_Go p e below _ (s₁.setTop (mkF m 16 #[.val (.int xa), .val (.int xb), .val (.int xc), .val (.int xd), .val (.int xe), .val (.int xf), .val (.int (1 : Int32)), .val (.int w40), .unset, .unset, .unset, .unset, .unset, .unset, .unset, .unset, .unset] [(.int xa)]))
    refine own_by (fun _ => XS.iloadN X0.here hx rfl (hb hby at_16) rfl) ?_
    show own_Go p e below _ (s₁.setTop (mkF m 17 #[.val (.int xa), .val (.int xb), .val (.int xc), .val (.int xd), .val (.int xe), .val (.int xf), .val (.int (1 : Int32)), .val (.int w40), .unset, .unset, .unset, .unset, .unset, .unset, .unset, .unset, .unset] [(.int xc), (.int xa)]))
    refine own_by (fun _ => XS.iconst X0.here hx rfl (hb hby at_17)) ?_
    show own_Go p e below _ (s₁.setTop (mkF m 18 #[.val (.int xa), .val (.int xb), .val (.int xc), .val (.int xd), .val (.int xe), .val (.int xf), .val (.int (1 : Int32)), .val (.int w40), .unset, .unset, .unset, .unset, .unset, .unset, .unset, .unset, .unset] [(.int (2 : Int32)), (.int xc), (.int xa)]))
    refine own_by (fun _ => XS.ishl X0.here hx rfl (hb hby at_18) rfl) ?_
    show own_Go p e below _ (s₁.setTop (mkF m 19 #[.val (.int xa), .val (.int xb), .val (.int xc), .val (.int xd), .val (.int xe), .val (.int xf), .val (.int (1 : Int32)), .val (.int w40), .unset, .unset, .unset, .unset, .unset, .unset, .unset, .unset, .unset] [(.int (xc <<< ((2 : Int32) &&& 31))), (.int xa)]))
    refine own_by (fun _ => XS.iconst X0.here hx rfl (hb hby at_19)) ?_
    show own_Go p e below _ (s₁.setTop (mkF m 20 #[.val (.int xa), .val (.int xb), .val (.int xc), .val (.int xd), .val (.int xe), .val (.int xf), .val (.int (1 : Int32)), .val (.int w40), .unset, .unset, .unset, .unset, .unset, .unset, .unset, .unset, .unset] [(.int (2 : Int32)), (.int (xc <<< ((2 : Int32) &&& 31))), (.int xa)]))
    refine own_by (fun _ => XS.ior X0.here hx rfl (hb hby at_20) rfl) ?_
    show own_Go p e below _ (s₁.setTop (mkF m 21 #[.val (.int xa), .val (.int xb), .val (.int xc), .val (.int xd), .val (.int xe), .val (.int xf), .val (.int (1 : Int32)), .val (.int w40), .unset, .unset, .unset, .unset, .unset, .unset, .unset, .unset, .unset] [(.int ((xc <<< ((2 : Int32) &&& 31)) ||| (2 : Int32))), (.int xa)]))
    refine own_by (fun _ => XS.ixor X0.here hx rfl (hb hby at_21) rfl) ?_
    show own_Go p e below _ (s₁.setTop (mkF m 22 #[.val (.int xa), .val (.int xb), .val (.int xc), .val (.int xd), .val (.int xe), .val (.int xf), .val (.int (1 : Int32)), .val (.int w40), .unset, .unset, .unset, .unset, .unset, .unset, .unset, .unset, .unset] [(.int (xa ^^^ ((xc <<< ((2 : Int32) &&& 31)) ||| (2 : Int32))))]))
    refine own_by (fun _ => XS.istore X0.here hx rfl (hb hby at_22) rfl (l' := #[.val (.int xa), .val (.int xb), .val (.int xc), .val (.int xd), .val (.int xe), .val (.int xf), .val (.int (1 : Int32)), .val (.int w40), .val (.int (xa ^^^ ((xc <<< ((2 : Int32) &&& 31)) ||| (2 : Int32)))), .unset, .unset, .unset, .unset, .unset, .unset, .unset, .unset]) rfl) ?_
    show own_Go p e below _ (s₁.setTop (mkF m 24 #[.val (.int xa), .val (.int xb), .val (.int xc), .val (.int xd), .val (.int xe), .val (.int xf), .val (.int (1 : Int32)), .val (.int w40), .val (.int (xa ^^^ ((xc <<< ((2 : Int32) &&& 31)) ||| (2 : Int32)))), .unset, .unset, .unset, .unset, .unset, .unset, .unset, .unset] []))
    obtain ⟨w41, hw41⟩ : ∃ z : Int32, z = (xa ^^^ ((xc <<< ((2 : Int32) &&& 31)) ||| (2 : Int32))) := ⟨_, rfl⟩
    rw [← hw41]
    show own_Go p e below _ (s₁.setTop (mkF m 24 #[.val (.int xa), .val (.int xb), .val (.int xc), .val (.int xd), .val (.int xe), .val (.int xf), .val (.int (1 : Int32)), .val (.int w40), .val (.int w41), .unset, .unset, .unset, .unset, .unset, .unset, .unset, .unset] []))
    obtain ⟨T42, h42, X42, e42, E42, A42, D42, -, st42⟩ := newO X0 hx hZ hown (hw _ (List.mem_of_getElem? (i := 0) rfl)) (hw _ (List.mem_of_getElem? (i := 1) rfl)) (hw _ (List.mem_of_getElem? (i := 2) rfl)) e0 (g := (mkF m 24 #[.val (.int xa), .val (.int xb), .val (.int xc), .val (.int xd), .val (.int xe), .val (.int xf), .val (.int (1 : Int32)), .val (.int w40), .val (.int w41), .unset, .unset, .unset, .unset, .unset, .unset, .unset, .unset] [])) rfl (hb hby at_24) (by decide) (by decide)
    obtain ⟨b42, g42⟩ : ∃ z, z = h0.size := ⟨_, rfl⟩
    rw [← g42] at A42 D42 st42
    refine own_by st42 ?_
    clear st42 X0
    have ge42 : n0 ≤ b42 := Nat.le_trans Z0 (Nat.le_of_eq g42.symm)
    have z42 : n0 ≤ h42.size := Nat.le_trans Z0 E42.1
    have fz42_mKeys : Fld Z h42 b42 "com/example/bucketsplit/bucketsplit/core/Page" "mKeys" "[I" .null := D42 (Or.inl (hw _ (List.mem_of_getElem? (i := 11) rfl))) (ty := (.array .int)) (by decide)
    have fz42_mSize : Fld Z h42 b42 "com/example/bucketsplit/bucketsplit/core/Page" "mSize" "I" (.int (0 : Int32)) := D42 (Or.inl (hw _ (List.mem_of_getElem? (i := 18) rfl))) (ty := .int) (by decide)
    show own_Go p e below _ (T42.setTop (mkF m 27 #[.val (.int xa), .val (.int xb), .val (.int xc), .val (.int xd), .val (.int xe), .val (.int xf), .val (.int (1 : Int32)), .val (.int w40), .val (.int w41), .unset, .unset, .unset, .unset, .unset, .unset, .unset, .unset] [(.ref b42)]))
    refine own_by (fun _ => XS.dup X42.here hx rfl (hb hby at_27) rfl rfl) ?_
    show own_Go p e below _ (T42.setTop (mkF m 28 #[.val (.int xa), .val (.int xb), .val (.int xc), .val (.int xd), .val (.int xe), .val (.int xf), .val (.int (1 : Int32)), .val (.int w40), .val (.int w41), .unset, .unset, .unset, .unset, .unset, .unset, .unset, .unset] [(.ref b42), (.ref b42)]))
    obtain ⟨_, _, ⟨T43, L43, k43, n43⟩, -, X43, ⟨Lc43, hQ43, l43, y43, z43'⟩, st43⟩ := X42.specialBack hx (y := (⟨"com/example/bucketsplit/bucketsplit/core/Page", "<init>", "()V"⟩ : MethodName)) rfl hown (mvT hZ (hw _ (List.mem_of_getElem? (i := 3) rfl))) (mvT hZ (hw _ (List.mem_of_getElem? (i := 4) rfl))) (mvT hZ (hw _ (List.mem_of_getElem? (i := 5) rfl))) (by decide) (backOf (W := 1) (own_rm1 l Z a0 hw [] b42 .null h42 n0 z42 A42 fz42_mKeys fz42_mSize ge42) hZ (hw _ (List.mem_of_getElem? (i := 5) rfl)) (hw _ (List.mem_of_getElem? (i := 2) rfl)) (by decide) (by decide)) (g := (mkF m 28 #[.val (.int xa), .val (.int xb), .val (.int xc), .val (.int xd), .val (.int xe), .val (.int xf), .val (.int (1 : Int32)), .val (.int w40), .val (.int w41), .unset, .unset, .unset, .unset, .unset, .unset, .unset, .unset] [(.ref b42), (.ref b42)])) rfl (by rw [hml]; rfl) (Steps.refl _) (a := b42) (argsL := []) (rest := [(.ref b42)]) (lenOf own_pd0 rfl) rfl (by show 2 * 0 + _ ≤ _; exact Nat.le_of_eq rfl) (hb hby at_28) (fun _ _ => ⟨rfl, e42, (by decide : 1 + 1 ≤ _), (by decide : 2 + 4 ≤ _)⟩)
    dsimp only [Pt.U, Pt.locs, Pt.cells, Pt.slots] at X43 l43 y43 z43' st43 hQ43
    subst l43 y43 z43'
    obtain ⟨kx_43, kk_43, rfl, N43q, Kc43, fc43_0, fc43_1, fc43_2, xc43_0⟩ := hQ43
    have N43 := Fr.app N0 N43q
    refine own_tr st43 ?_
    clear st43 X42
    obtain ⟨lq43, Y43, M43⟩ : ∃ lq, Stand p l e room_1 s m #[(.int xa), (.int xb), (.int xc), (.int xd), (.int xe), (.int xf)] below meth c T43 lq 2 6 ∧ Fr n0 lq := ⟨_, X43, N43⟩
    clear X43 N43
    have ge_kx_43 : n0 ≤ kx_43 := Nat.le_trans z42 xc43_0
    have ne43_b42 : b42 ≠ kx_43 := Nat.ne_of_lt (Nat.lt_of_lt_of_le A42.lt xc43_0)
    have z43 : n0 ≤ T43.heap.size := Nat.le_trans z42 Kc43.1
    show own_Go p e below _ (T43.setTop (mkF m 31 #[.val (.int xa), .val (.int xb), .val (.int xc), .val (.int xd), .val (.int xe), .val (.int xf), .val (.int (1 : Int32)), .val (.int w40), .val (.int w41), .unset, .unset, .unset, .unset, .unset, .unset, .unset, .unset] [(.ref b42)]))
    refine own_by (fun _ => XS.astore Y43.here hx rfl (hb hby at_31) rfl rfl (l' := #[.val (.int xa), .val (.int xb), .val (.int xc), .val (.int xd), .val (.int xe), .val (.int xf), .val (.int (1 : Int32)), .val (.int w40), .val (.int w41), .val (.ref b42), .unset, .unset, .unset, .unset, .unset, .unset, .unset]) rfl) ?_
    show own_Go p e below _ (T43.setTop (mkF m 33 #[.val (.int xa), .val (.int xb), .val (.int xc), .val (.int xd), .val (.int xe), .val (.int xf), .val (.int (1 : Int32)), .val (.int w40), .val (.int w41), .val (.ref b42), .unset, .unset, .unset, .unset, .unset, .unset, .unset] []))
    refine own_by (fun _ => XS.iload Y43.here hx rfl (hb hby at_33) rfl) ?_
    show own_Go p e below _ (T43.setTop (mkF m 35 #[.val (.int xa), .val (.int xb), .val (.int xc), .val (.int xd), .val (.int xe), .val (.int xf), .val (.int (1 : Int32)), .val (.int w40), .val (.int w41), .val (.ref b42), .unset, .unset, .unset, .unset, .unset, .unset, .unset] [(.int (1 : Int32))]))
    refine own_by (fun _ => XS.iconst Y43.here hx rfl (hb hby at_35)) ?_
    show own_Go p e below _ (T43.setTop (mkF m 36 #[.val (.int xa), .val (.int xb), .val (.int xc), .val (.int xd), .val (.int xe), .val (.int xf), .val (.int (1 : Int32)), .val (.int w40), .val (.int w41), .val (.ref b42), .unset, .unset, .unset, .unset, .unset, .unset, .unset] [(.int (1 : Int32)), (.int (1 : Int32))]))
    refine own_by (fun _ => XS.icmpNo Y43.here hx rfl (hb hby at_36) rfl (flt (by decide : ¬ ((1 : Int32) < (1 : Int32)))).1) ?_
    show own_Go p e below _ (T43.setTop (mkF m 39 #[.val (.int xa), .val (.int xb), .val (.int xc), .val (.int xd), .val (.int xe), .val (.int xf), .val (.int (1 : Int32)), .val (.int w40), .val (.int w41), .val (.ref b42), .unset, .unset, .unset, .unset, .unset, .unset, .unset] []))
    refine own_by (fun _ => XS.aload Y43.here hx rfl (hb hby at_39) rfl rfl) ?_
    show own_Go p e below _ (T43.setTop (mkF m 41 #[.val (.int xa), .val (.int xb), .val (.int xc), .val (.int xd), .val (.int xe), .val (.int xf), .val (.int (1 : Int32)), .val (.int w40), .val (.int w41), .val (.ref b42), .unset, .unset, .unset, .unset, .unset, .unset, .unset] [(.ref b42)]))
    refine own_by (fun _ => XS.iloadN Y43.here hx rfl (hb hby at_41) rfl) ?_
    show own_Go p e below _ (T43.setTop (mkF m 42 #[.val (.int xa), .val (.int xb), .val (.int xc), .val (.int xd), .val (.int xe), .val (.int xf), .val (.int (1 : Int32)), .val (.int w40), .val (.int w41), .val (.ref b42), .unset, .unset, .unset, .unset, .unset, .unset, .unset] [(.int xa), (.ref b42)]))
    have f44 : Exa Z T43.heap b42 "com/example/bucketsplit/bucketsplit/core/Page" := (A42.keep Kc43)
    obtain ⟨cq45, kq45, q45a, q45b, q45c⟩ := isOf hZ rfl f44
    obtain ⟨_, _, ⟨T45, L45, k45, n45⟩, -, X45, ⟨Lc45, hQ45, l45, y45, z45'⟩, st45⟩ := Y43.virtualBack hx (y := (⟨"com/example/bucketsplit/bucketsplit/core/Page", "add", "(I)V"⟩ : MethodName)) (z := (⟨"com/example/bucketsplit/bucketsplit/core/Page", "add", "(I)V"⟩ : MethodName)) hown (mvT hZ (hw _ (List.mem_of_getElem? (i := 12) rfl))) (mvT hZ (hw _ (List.mem_of_getElem? (i := 13) rfl))) (notFace_of_selects (args := #[]) (mvT hZ (hw _ (List.mem_of_getElem? (i := 15) rfl)))) (mvT hZ (hw _ (List.mem_of_getElem? (i := 15) rfl))) (mvT hZ (hw _ (List.mem_of_getElem? (i := 14) rfl))) (by decide) (backOf (W := 0) (own_rm3_0 l Z a0 hw [] b42 xa kx_43 kk_43 (0 : Int32) (0 : Int32) (0 : Int32) (0 : Int32) T43.heap n0 z43 f44 fc43_0 fc43_1 fc43_2 ne43_b42 ge42 ge_kx_43) hZ (hw _ (List.mem_of_getElem? (i := 16) rfl)) (hw _ (List.mem_of_getElem? (i := 2) rfl)) (by decide) (by decide)) q45a q45c (g := (mkF m 42 #[.val (.int xa), .val (.int xb), .val (.int xc), .val (.int xd), .val (.int xe), .val (.int xf), .val (.int (1 : Int32)), .val (.int w40), .val (.int w41), .val (.ref b42), .unset, .unset, .unset, .unset, .unset, .unset, .unset] [(.int xa), (.ref b42)])) rfl (by rw [hml]; rfl) (Steps.refl _) (argsL := [(.int xa)]) (rest := []) (lenOf own_pd4 rfl) rfl (by show 2 * 0 + _ ≤ _; exact Nat.le_of_eq rfl) (hb hby at_42) (fun _ _ => ⟨rfl, rfl, (by decide : 2 + 0 ≤ _), (by decide : 6 + 0 ≤ _)⟩)
    dsimp only [Pt.U, Pt.locs, Pt.cells, Pt.slots] at X45 l45 y45 z45' st45 hQ45
    subst l45 y45 z45'
    obtain ⟨rfl, N45q, Kc45, fc45_0, fc45_1, fc45_2⟩ := hQ45
    have N45 := Fr.app M43 N45q
    refine own_tr st45 ?_
    clear st45 Y43
    obtain ⟨lq45, Y45, M45⟩ : ∃ lq, Stand p l e room_1 s m #[(.int xa), (.int xb), (.int xc), (.int xd), (.int xe), (.int xf)] below meth c T45 lq 2 6 ∧ Fr n0 lq := ⟨_, X45, N45⟩
    clear X45 N45
    have z45 : n0 ≤ T45.heap.size := Nat.le_trans z43 Kc45.1
    show own_Go p e below _ (T45.setTop (mkF m 45 #[.val (.int xa), .val (.int xb), .val (.int xc), .val (.int xd), .val (.int xe), .val (.int xf), .val (.int (1 : Int32)), .val (.int w40), .val (.int w41), .val (.ref b42), .unset, .unset, .unset, .unset, .unset, .unset, .unset] []))
    refine own_by (fun _ => XS.iload Y45.here hx rfl (hb hby at_45) rfl) ?_
    show own_Go p e below _ (T45.setTop (mkF m 47 #[.val (.int xa), .val (.int xb), .val (.int xc), .val (.int xd), .val (.int xe), .val (.int xf), .val (.int (1 : Int32)), .val (.int w40), .val (.int w41), .val (.ref b42), .unset, .unset, .unset, .unset, .unset, .unset, .unset] [(.int (1 : Int32))]))
    refine own_by (fun _ => XS.iconst Y45.here hx rfl (hb hby at_47)) ?_
    show own_Go p e below _ (T45.setTop (mkF m 48 #[.val (.int xa), .val (.int xb), .val (.int xc), .val (.int xd), .val (.int xe), .val (.int xf), .val (.int (1 : Int32)), .val (.int w40), .val (.int w41), .val (.ref b42), .unset, .unset, .unset, .unset, .unset, .unset, .unset] [(.int (2 : Int32)), (.int (1 : Int32))]))
    refine own_by (fun _ => XS.icmpYes Y45.here hx rfl (pc0 := 48) (pc' := 58) rfl (hb hby at_48) rfl (tlt (by decide : (1 : Int32) < (2 : Int32))).1 (by decide) (by decide)) ?_
    show own_Go p e below _ (T45.setTop (mkF m 58 #[.val (.int xa), .val (.int xb), .val (.int xc), .val (.int xd), .val (.int xe), .val (.int xf), .val (.int (1 : Int32)), .val (.int w40), .val (.int w41), .val (.ref b42), .unset, .unset, .unset, .unset, .unset, .unset, .unset] []))
    refine own_by (fun _ => XS.iload Y45.here hx rfl (hb hby at_58) rfl) ?_
    show own_Go p e below _ (T45.setTop (mkF m 60 #[.val (.int xa), .val (.int xb), .val (.int xc), .val (.int xd), .val (.int xe), .val (.int xf), .val (.int (1 : Int32)), .val (.int w40), .val (.int w41), .val (.ref b42), .unset, .unset, .unset, .unset, .unset, .unset, .unset] [(.int (1 : Int32))]))
    refine own_by (fun _ => XS.iconst Y45.here hx rfl (hb hby at_60)) ?_
    show own_Go p e below _ (T45.setTop (mkF m 61 #[.val (.int xa), .val (.int xb), .val (.int xc), .val (.int xd), .val (.int xe), .val (.int xf), .val (.int (1 : Int32)), .val (.int w40), .val (.int w41), .val (.ref b42), .unset, .unset, .unset, .unset, .unset, .unset, .unset] [(.int (3 : Int32)), (.int (1 : Int32))]))
    refine own_by (fun _ => XS.icmpYes Y45.here hx rfl (pc0 := 61) (pc' := 71) rfl (hb hby at_61) rfl (tlt (by decide : (1 : Int32) < (3 : Int32))).1 (by decide) (by decide)) ?_
    show own_Go p e below _ (T45.setTop (mkF m 71 #[.val (.int xa), .val (.int xb), .val (.int xc), .val (.int xd), .val (.int xe), .val (.int xf), .val (.int (1 : Int32)), .val (.int w40), .val (.int w41), .val (.ref b42), .unset, .unset, .unset, .unset, .unset, .unset, .unset] []))
    refine own_by (fun _ => XS.iconst Y45.here hx rfl (hb hby at_71)) ?_
    show own_Go p e below _ (T45.setTop (mkF m 72 #[.val (.int xa), .val (.int xb), .val (.int xc), .val (.int xd), .val (.int xe), .val (.int xf), .val (.int (1 : Int32)), .val (.int w40), .val (.int w41), .val (.ref b42), .unset, .unset, .unset, .unset, .unset, .unset, .unset] [(.int (0 : Int32))]))
    refine own_by (fun _ => XS.istore Y45.here hx rfl (hb hby at_72) rfl (l' := #[.val (.int xa), .val (.int xb), .val (.int xc), .val (.int xd), .val (.int xe), .val (.int xf), .val (.int (1 : Int32)), .val (.int w40), .val (.int w41), .val (.ref b42), .val (.int (0 : Int32)), .unset, .unset, .unset, .unset, .unset, .unset]) rfl) ?_
    show own_Go p e below _ (T45.setTop (mkF m 74 #[.val (.int xa), .val (.int xb), .val (.int xc), .val (.int xd), .val (.int xe), .val (.int xf), .val (.int (1 : Int32)), .val (.int w40), .val (.int w41), .val (.ref b42), .val (.int (0 : Int32)), .unset, .unset, .unset, .unset, .unset, .unset] []))
    refine own_by (fun _ => XS.iconst Y45.here hx rfl (hb hby at_74)) ?_
    show own_Go p e below _ (T45.setTop (mkF m 75 #[.val (.int xa), .val (.int xb), .val (.int xc), .val (.int xd), .val (.int xe), .val (.int xf), .val (.int (1 : Int32)), .val (.int w40), .val (.int w41), .val (.ref b42), .val (.int (0 : Int32)), .unset, .unset, .unset, .unset, .unset, .unset] [(.int (0 : Int32))]))
    refine own_by (fun _ => XS.istore Y45.here hx rfl (hb hby at_75) rfl (l' := #[.val (.int xa), .val (.int xb), .val (.int xc), .val (.int xd), .val (.int xe), .val (.int xf), .val (.int (1 : Int32)), .val (.int w40), .val (.int w41), .val (.ref b42), .val (.int (0 : Int32)), .val (.int (0 : Int32)), .unset, .unset, .unset, .unset, .unset]) rfl) ?_
    show own_Go p e below _ (T45.setTop (mkF m 77 #[.val (.int xa), .val (.int xb), .val (.int xc), .val (.int xd), .val (.int xe), .val (.int xf), .val (.int (1 : Int32)), .val (.int w40), .val (.int w41), .val (.ref b42), .val (.int (0 : Int32)), .val (.int (0 : Int32)), .unset, .unset, .unset, .unset, .unset] []))
    refine own_by (fun _ => XS.iconst Y45.here hx rfl (hb hby at_77)) ?_
    show own_Go p e below _ (T45.setTop (mkF m 78 #[.val (.int xa), .val (.int xb), .val (.int xc), .val (.int xd), .val (.int xe), .val (.int xf), .val (.int (1 : Int32)), .val (.int w40), .val (.int w41), .val (.ref b42), .val (.int (0 : Int32)), .val (.int (0 : Int32)), .unset, .unset, .unset, .unset, .unset] [(.int (0 : Int32))]))
    refine own_by (fun _ => XS.istore Y45.here hx rfl (hb hby at_78) rfl (l' := #[.val (.int xa), .val (.int xb), .val (.int xc), .val (.int xd), .val (.int xe), .val (.int xf), .val (.int (1 : Int32)), .val (.int w40), .val (.int w41), .val (.ref b42), .val (.int (0 : Int32)), .val (.int (0 : Int32)), .val (.int (0 : Int32)), .unset, .unset, .unset, .unset]) rfl) ?_
    show own_Go p e below _ (T45.setTop (mkF m 80 #[.val (.int xa), .val (.int xb), .val (.int xc), .val (.int xd), .val (.int xe), .val (.int xf), .val (.int (1 : Int32)), .val (.int w40), .val (.int w41), .val (.ref b42), .val (.int (0 : Int32)), .val (.int (0 : Int32)), .val (.int (0 : Int32)), .unset, .unset, .unset, .unset] []))
    refine own_by (fun _ => XS.iload Y45.here hx rfl (hb hby at_80) rfl) ?_
    show own_Go p e below _ (T45.setTop (mkF m 82 #[.val (.int xa), .val (.int xb), .val (.int xc), .val (.int xd), .val (.int xe), .val (.int xf), .val (.int (1 : Int32)), .val (.int w40), .val (.int w41), .val (.ref b42), .val (.int (0 : Int32)), .val (.int (0 : Int32)), .val (.int (0 : Int32)), .unset, .unset, .unset, .unset] [(.int (1 : Int32))]))
    refine own_by (fun _ => XS.iconst Y45.here hx rfl (hb hby at_82)) ?_
    show own_Go p e below _ (T45.setTop (mkF m 83 #[.val (.int xa), .val (.int xb), .val (.int xc), .val (.int xd), .val (.int xe), .val (.int xf), .val (.int (1 : Int32)), .val (.int w40), .val (.int w41), .val (.ref b42), .val (.int (0 : Int32)), .val (.int (0 : Int32)), .val (.int (0 : Int32)), .unset, .unset, .unset, .unset] [(.int (1 : Int32)), (.int (1 : Int32))]))
    refine own_by (fun _ => XS.icmpNo Y45.here hx rfl (hb hby at_83) rfl (teq (by decide : (1 : Int32) = (1 : Int32))).2) ?_
    show own_Go p e below _ (T45.setTop (mkF m 86 #[.val (.int xa), .val (.int xb), .val (.int xc), .val (.int xd), .val (.int xe), .val (.int xf), .val (.int (1 : Int32)), .val (.int w40), .val (.int w41), .val (.ref b42), .val (.int (0 : Int32)), .val (.int (0 : Int32)), .val (.int (0 : Int32)), .unset, .unset, .unset, .unset] []))
    refine own_by (fun _ => XS.iloadN Y45.here hx rfl (hb hby at_86) rfl) ?_
    show own_Go p e below _ (T45.setTop (mkF m 87 #[.val (.int xa), .val (.int xb), .val (.int xc), .val (.int xd), .val (.int xe), .val (.int xf), .val (.int (1 : Int32)), .val (.int w40), .val (.int w41), .val (.ref b42), .val (.int (0 : Int32)), .val (.int (0 : Int32)), .val (.int (0 : Int32)), .unset, .unset, .unset, .unset] [(.int xa)]))
    refine own_by (fun _ => XS.istore Y45.here hx rfl (hb hby at_87) rfl (l' := #[.val (.int xa), .val (.int xb), .val (.int xc), .val (.int xd), .val (.int xe), .val (.int xf), .val (.int (1 : Int32)), .val (.int w40), .val (.int w41), .val (.ref b42), .val (.int xa), .val (.int (0 : Int32)), .val (.int (0 : Int32)), .unset, .unset, .unset, .unset]) rfl) ?_
    show own_Go p e below _ (T45.setTop (mkF m 89 #[.val (.int xa), .val (.int xb), .val (.int xc), .val (.int xd), .val (.int xe), .val (.int xf), .val (.int (1 : Int32)), .val (.int w40), .val (.int w41), .val (.ref b42), .val (.int xa), .val (.int (0 : Int32)), .val (.int (0 : Int32)), .unset, .unset, .unset, .unset] []))
    refine own_by (fun _ => XS.goto Y45.here hx rfl (pc0 := 89) (pc' := 172) rfl (hb hby at_89) (by decide) (by decide)) ?_
    show own_Go p e below _ (T45.setTop (mkF m 172 #[.val (.int xa), .val (.int xb), .val (.int xc), .val (.int xd), .val (.int xe), .val (.int xf), .val (.int (1 : Int32)), .val (.int w40), .val (.int w41), .val (.ref b42), .val (.int xa), .val (.int (0 : Int32)), .val (.int (0 : Int32)), .unset, .unset, .unset, .unset] []))
    refine own_by (fun _ => XS.iloadN Y45.here hx rfl (hb hby at_172) rfl) ?_
    show own_Go p e below _ (T45.setTop (mkF m 173 #[.val (.int xa), .val (.int xb), .val (.int xc), .val (.int xd), .val (.int xe), .val (.int xf), .val (.int (1 : Int32)), .val (.int w40), .val (.int w41), .val (.ref b42), .val (.int xa), .val (.int (0 : Int32)), .val (.int (0 : Int32)), .unset, .unset, .unset, .unset] [(.int xd)]))
    refine own_by (Y45.ldcInt hx hown (mvT hZ (hw _ (List.mem_of_getElem? (i := 26) rfl))) (g := (mkF m 173 #[.val (.int xa), .val (.int xb), .val (.int xc), .val (.int xd), .val (.int xe), .val (.int xf), .val (.int (1 : Int32)), .val (.int w40), .val (.int w41), .val (.ref b42), .val (.int xa), .val (.int (0 : Int32)), .val (.int (0 : Int32)), .unset, .unset, .unset, .unset] [(.int xd)])) rfl (hb hby at_173)) ?_
    show own_Go p e below _ (T45.setTop (mkF m 175 #[.val (.int xa), .val (.int xb), .val (.int xc), .val (.int xd), .val (.int xe), .val (.int xf), .val (.int (1 : Int32)), .val (.int w40), .val (.int w41), .val (.ref b42), .val (.int xa), .val (.int (0 : Int32)), .val (.int (0 : Int32)), .unset, .unset, .unset, .unset] [(.int (2147483647 : Int32)), (.int xd)]))
    refine own_by (fun _ => XS.iand Y45.here hx rfl (hb hby at_175) rfl) ?_
    show own_Go p e below _ (T45.setTop (mkF m 176 #[.val (.int xa), .val (.int xb), .val (.int xc), .val (.int xd), .val (.int xe), .val (.int xf), .val (.int (1 : Int32)), .val (.int w40), .val (.int w41), .val (.ref b42), .val (.int xa), .val (.int (0 : Int32)), .val (.int (0 : Int32)), .unset, .unset, .unset, .unset] [(.int (xd &&& (2147483647 : Int32)))]))
    refine own_by (fun _ => XS.bipush Y45.here hx rfl (hb hby at_176)) ?_
    show own_Go p e below _ (T45.setTop (mkF m 178 #[.val (.int xa), .val (.int xb), .val (.int xc), .val (.int xd), .val (.int xe), .val (.int xf), .val (.int (1 : Int32)), .val (.int w40), .val (.int w41), .val (.ref b42), .val (.int xa), .val (.int (0 : Int32)), .val (.int (0 : Int32)), .unset, .unset, .unset, .unset] [(.int (9 : Int32)), (.int (xd &&& (2147483647 : Int32)))]))
    refine own_by (fun _ => XS.iload Y45.here hx rfl (hb hby at_178) rfl) ?_
    show own_Go p e below _ (T45.setTop (mkF m 180 #[.val (.int xa), .val (.int xb), .val (.int xc), .val (.int xd), .val (.int xe), .val (.int xf), .val (.int (1 : Int32)), .val (.int w40), .val (.int w41), .val (.ref b42), .val (.int xa), .val (.int (0 : Int32)), .val (.int (0 : Int32)), .unset, .unset, .unset, .unset] [(.int (1 : Int32)), (.int (9 : Int32)), (.int (xd &&& (2147483647 : Int32)))]))
    refine own_by (fun _ => XS.isub Y45.here hx rfl (hb hby at_180) rfl) ?_
    show own_Go p e below _ (T45.setTop (mkF m 181 #[.val (.int xa), .val (.int xb), .val (.int xc), .val (.int xd), .val (.int xe), .val (.int xf), .val (.int (1 : Int32)), .val (.int w40), .val (.int w41), .val (.ref b42), .val (.int xa), .val (.int (0 : Int32)), .val (.int (0 : Int32)), .unset, .unset, .unset, .unset] [(.int (8 : Int32)), (.int (xd &&& (2147483647 : Int32)))]))
    refine own_by (fun _ => iremM Y45 hx rfl (hb hby at_181) rfl (by decide)) ?_
    show own_Go p e below _ (T45.setTop (mkF m 182 #[.val (.int xa), .val (.int xb), .val (.int xc), .val (.int xd), .val (.int xe), .val (.int xf), .val (.int (1 : Int32)), .val (.int w40), .val (.int w41), .val (.ref b42), .val (.int xa), .val (.int (0 : Int32)), .val (.int (0 : Int32)), .unset, .unset, .unset, .unset] [(.int ((xd &&& (2147483647 : Int32)) % (8 : Int32)))]))
    refine own_by (fun _ => XS.istore Y45.here hx rfl (hb hby at_182) rfl (l' := #[.val (.int xa), .val (.int xb), .val (.int xc), .val (.int xd), .val (.int xe), .val (.int xf), .val (.int (1 : Int32)), .val (.int w40), .val (.int w41), .val (.ref b42), .val (.int xa), .val (.int (0 : Int32)), .val (.int (0 : Int32)), .val (.int ((xd &&& (2147483647 : Int32)) % (8 : Int32))), .unset, .unset, .unset]) rfl) ?_
    show own_Go p e below _ (T45.setTop (mkF m 184 #[.val (.int xa), .val (.int xb), .val (.int xc), .val (.int xd), .val (.int xe), .val (.int xf), .val (.int (1 : Int32)), .val (.int w40), .val (.int w41), .val (.ref b42), .val (.int xa), .val (.int (0 : Int32)), .val (.int (0 : Int32)), .val (.int ((xd &&& (2147483647 : Int32)) % (8 : Int32))), .unset, .unset, .unset] []))
    obtain ⟨w46, hw46⟩ : ∃ z : Int32, z = ((xd &&& (2147483647 : Int32)) % (8 : Int32)) := ⟨_, rfl⟩
    rw [← hw46]
    show own_Go p e below _ (T45.setTop (mkF m 184 #[.val (.int xa), .val (.int xb), .val (.int xc), .val (.int xd), .val (.int xe), .val (.int xf), .val (.int (1 : Int32)), .val (.int w40), .val (.int w41), .val (.ref b42), .val (.int xa), .val (.int (0 : Int32)), .val (.int (0 : Int32)), .val (.int w46), .unset, .unset, .unset] []))
    refine own_by (fun _ => XS.bipush Y45.here hx rfl (hb hby at_184)) ?_
    show own_Go p e below _ (T45.setTop (mkF m 186 #[.val (.int xa), .val (.int xb), .val (.int xc), .val (.int xd), .val (.int xe), .val (.int xf), .val (.int (1 : Int32)), .val (.int w40), .val (.int w41), .val (.ref b42), .val (.int xa), .val (.int (0 : Int32)), .val (.int (0 : Int32)), .val (.int w46), .unset, .unset, .unset] [(.int (8 : Int32))]))
    obtain ⟨T47, h47, k47, X47, e47, E47, A47, st47⟩ := newP Y45 hx hZ (hw _ (List.mem_of_getElem? (i := 9) rfl)) rfl (g := (mkF m 186 #[.val (.int xa), .val (.int xb), .val (.int xc), .val (.int xd), .val (.int xe), .val (.int xf), .val (.int (1 : Int32)), .val (.int w40), .val (.int w41), .val (.ref b42), .val (.int xa), .val (.int (0 : Int32)), .val (.int (0 : Int32)), .val (.int w46), .unset, .unset, .unset] [(.int (8 : Int32))])) rfl (hb hby at_186) rfl (by decide) (cap := 8) (by decide) (by decide) (by decide) (by decide)
    obtain ⟨b47, g47⟩ : ∃ z, z = T45.heap.size := ⟨_, rfl⟩
    rw [← g47] at A47 st47
    refine own_by st47 ?_
    clear st47 Y45
    have ge47 : n0 ≤ b47 := Nat.le_trans z45 (Nat.le_of_eq g47.symm)
    have f48 : Exa Z T45.heap b42 "com/example/bucketsplit/bucketsplit/core/Page" := (f44.keep Kc45)
    have ne47_b42 : b42 ≠ b47 := Nat.ne_of_lt (Nat.lt_of_lt_of_le f48.lt (Nat.le_of_eq g47.symm))
    have ne47_kx_43 : kx_43 ≠ b47 := Nat.ne_of_lt (Nat.lt_of_lt_of_le fc45_2.lt (Nat.le_of_eq g47.symm))
    have z47 : n0 ≤ h47.size := Nat.le_trans z45 E47.1
    have va47 : Arv Z h47 b47 k47 .int (8 : Int32) [(.int (0 : Int32)), (.int (0 : Int32)), (.int (0 : Int32)), (.int (0 : Int32)), (.int (0 : Int32)), (.int (0 : Int32)), (.int (0 : Int32)), (.int (0 : Int32))] (.int (0 : Int32)) := (Arv.new A47 (by decide)).pad (pad_rep [] (.int (0 : Int32)) 8)
    show own_Go p e below _ (T47.setTop (mkF m 188 #[.val (.int xa), .val (.int xb), .val (.int xc), .val (.int xd), .val (.int xe), .val (.int xf), .val (.int (1 : Int32)), .val (.int w40), .val (.int w41), .val (.ref b42), .val (.int xa), .val (.int (0 : Int32)), .val (.int (0 : Int32)), .val (.int w46), .unset, .unset, .unset] [(.ref b47)]))
    refine own_by (fun _ => XS.astore X47.here hx rfl (hb hby at_188) rfl rfl (l' := #[.val (.int xa), .val (.int xb), .val (.int xc), .val (.int xd), .val (.int xe), .val (.int xf), .val (.int (1 : Int32)), .val (.int w40), .val (.int w41), .val (.ref b42), .val (.int xa), .val (.int (0 : Int32)), .val (.int (0 : Int32)), .val (.int w46), .val (.ref b47), .unset, .unset]) rfl) ?_
    show own_Go p e below _ (T47.setTop (mkF m 190 #[.val (.int xa), .val (.int xb), .val (.int xc), .val (.int xd), .val (.int xe), .val (.int xf), .val (.int (1 : Int32)), .val (.int w40), .val (.int w41), .val (.ref b42), .val (.int xa), .val (.int (0 : Int32)), .val (.int (0 : Int32)), .val (.int w46), .val (.ref b47), .unset, .unset] []))
    refine own_by (fun _ => XS.aload X47.here hx rfl (hb hby at_190) rfl rfl) ?_
    show own_Go p e below _ (T47.setTop (mkF m 192 #[.val (.int xa), .val (.int xb), .val (.int xc), .val (.int xd), .val (.int xe), .val (.int xf), .val (.int (1 : Int32)), .val (.int w40), .val (.int w41), .val (.ref b42), .val (.int xa), .val (.int (0 : Int32)), .val (.int (0 : Int32)), .val (.int w46), .val (.ref b47), .unset, .unset] [(.ref b47)]))
    refine own_by (fun _ => XS.iconst X47.here hx rfl (hb hby at_192)) ?_
    show own_Go p e below _ (T47.setTop (mkF m 193 #[.val (.int xa), .val (.int xb), .val (.int xc), .val (.int xd), .val (.int xe), .val (.int xf), .val (.int (1 : Int32)), .val (.int w40), .val (.int w41), .val (.ref b42), .val (.int xa), .val (.int (0 : Int32)), .val (.int (0 : Int32)), .val (.int w46), .val (.ref b47), .unset, .unset] [(.int (0 : Int32)), (.ref b47)]))
    refine own_by (fun _ => XS.iload X47.here hx rfl (hb hby at_193) rfl) ?_
    show own_Go p e below _ (T47.setTop (mkF m 195 #[.val (.int xa), .val (.int xb), .val (.int xc), .val (.int xd), .val (.int xe), .val (.int xf), .val (.int (1 : Int32)), .val (.int w40), .val (.int w41), .val (.ref b42), .val (.int xa), .val (.int (0 : Int32)), .val (.int (0 : Int32)), .val (.int w46), .val (.ref b47), .unset, .unset] [(.int xe), (.int (0 : Int32)), (.ref b47)]))
    obtain ⟨cl49, ar49, q49, sz49, nn49, hs49, gs49⟩ := id va47
    have hin49 : ¬ ((0 : Int32) < 0 ∨ cl49.slots.size ≤ ((0 : Int32)).toNatClampNeg) := inb_of sz49 ⟨by decide, by decide⟩
    obtain ⟨T50, h50, X50, e50, W50, st50⟩ := stI X47 hx hZ e47 ar49 (j := (0 : Int32)) hin49 (g := (mkF m 195 #[.val (.int xa), .val (.int xb), .val (.int xc), .val (.int xd), .val (.int xe), .val (.int xf), .val (.int (1 : Int32)), .val (.int w40), .val (.int w41), .val (.ref b42), .val (.int xa), .val (.int (0 : Int32)), .val (.int (0 : Int32)), .val (.int w46), .val (.ref b47), .unset, .unset] [(.int xe), (.int (0 : Int32)), (.ref b47)])) rfl rfl (hb hby at_195)
    refine own_by st50 ?_
    clear st50 X47
    have va50 : Arv Z h50 b47 k47 .int (8 : Int32) [(.int xe), (.int (0 : Int32)), (.int (0 : Int32)), (.int (0 : Int32)), (.int (0 : Int32)), (.int (0 : Int32)), (.int (0 : Int32)), (.int (0 : Int32))] (.int (0 : Int32)) := Arv.set ar49 q49 sz49 nn49 hs49 gs49 rfl W50 0 rfl (Nat.le_of_ble_eq_true rfl)
    have z50 : n0 ≤ h50.size := Nat.le_trans z47 (Keep.of_wr W50).1
    have N50 := Fr.snoc X50 M45 ge47
    obtain ⟨lq50, Y50, M50⟩ : ∃ lq, Stand p l e room_1 s m #[(.int xa), (.int xb), (.int xc), (.int xd), (.int xe), (.int xf)] below meth c T50 lq 3 14 ∧ Fr n0 lq := ⟨_, X50, N50⟩
    clear X50 N50
    show own_Go p e below _ (T50.setTop (mkF m 196 #[.val (.int xa), .val (.int xb), .val (.int xc), .val (.int xd), .val (.int xe), .val (.int xf), .val (.int (1 : Int32)), .val (.int w40), .val (.int w41), .val (.ref b42), .val (.int xa), .val (.int (0 : Int32)), .val (.int (0 : Int32)), .val (.int w46), .val (.ref b47), .unset, .unset] []))
    refine own_by (fun _ => XS.aload Y50.here hx rfl (hb hby at_196) rfl rfl) ?_
    show own_Go p e below _ (T50.setTop (mkF m 198 #[.val (.int xa), .val (.int xb), .val (.int xc), .val (.int xd), .val (.int xe), .val (.int xf), .val (.int (1 : Int32)), .val (.int w40), .val (.int w41), .val (.ref b42), .val (.int xa), .val (.int (0 : Int32)), .val (.int (0 : Int32)), .val (.int w46), .val (.ref b47), .unset, .unset] [(.ref b47)]))
    refine own_by (fun _ => XS.iconst Y50.here hx rfl (hb hby at_198)) ?_
    show own_Go p e below _ (T50.setTop (mkF m 199 #[.val (.int xa), .val (.int xb), .val (.int xc), .val (.int xd), .val (.int xe), .val (.int xf), .val (.int (1 : Int32)), .val (.int w40), .val (.int w41), .val (.ref b42), .val (.int xa), .val (.int (0 : Int32)), .val (.int (0 : Int32)), .val (.int w46), .val (.ref b47), .unset, .unset] [(.int (1 : Int32)), (.ref b47)]))
    refine own_by (fun _ => XS.iload Y50.here hx rfl (hb hby at_199) rfl) ?_
    show own_Go p e below _ (T50.setTop (mkF m 201 #[.val (.int xa), .val (.int xb), .val (.int xc), .val (.int xd), .val (.int xe), .val (.int xf), .val (.int (1 : Int32)), .val (.int w40), .val (.int w41), .val (.ref b42), .val (.int xa), .val (.int (0 : Int32)), .val (.int (0 : Int32)), .val (.int w46), .val (.ref b47), .unset, .unset] [(.int xe), (.int (1 : Int32)), (.ref b47)]))
    refine own_by (fun _ => XS.iconst Y50.here hx rfl (hb hby at_201)) ?_
    show own_Go p e below _ (T50.setTop (mkF m 202 #[.val (.int xa), .val (.int xb), .val (.int xc), .val (.int xd), .val (.int xe), .val (.int xf), .val (.int (1 : Int32)), .val (.int w40), .val (.int w41), .val (.ref b42), .val (.int xa), .val (.int (0 : Int32)), .val (.int (0 : Int32)), .val (.int w46), .val (.ref b47), .unset, .unset] [(.int (1 : Int32)), (.int xe), (.int (1 : Int32)), (.ref b47)]))
    refine own_by (fun _ => XS.iadd Y50.here hx rfl (hb hby at_202) rfl) ?_
    show own_Go p e below _ (T50.setTop (mkF m 203 #[.val (.int xa), .val (.int xb), .val (.int xc), .val (.int xd), .val (.int xe), .val (.int xf), .val (.int (1 : Int32)), .val (.int w40), .val (.int w41), .val (.ref b42), .val (.int xa), .val (.int (0 : Int32)), .val (.int (0 : Int32)), .val (.int w46), .val (.ref b47), .unset, .unset] [(.int (xe + (1 : Int32))), (.int (1 : Int32)), (.ref b47)]))
    obtain ⟨cl51, ar51, q51, sz51, nn51, hs51, gs51⟩ := id va50
    have hin51 : ¬ ((1 : Int32) < 0 ∨ cl51.slots.size ≤ ((1 : Int32)).toNatClampNeg) := inb_of sz51 ⟨by decide, by decide⟩
    obtain ⟨T52, h52, X52, e52, W52, st52⟩ := stI Y50 hx hZ e50 ar51 (j := (1 : Int32)) hin51 (g := (mkF m 203 #[.val (.int xa), .val (.int xb), .val (.int xc), .val (.int xd), .val (.int xe), .val (.int xf), .val (.int (1 : Int32)), .val (.int w40), .val (.int w41), .val (.ref b42), .val (.int xa), .val (.int (0 : Int32)), .val (.int (0 : Int32)), .val (.int w46), .val (.ref b47), .unset, .unset] [(.int (xe + (1 : Int32))), (.int (1 : Int32)), (.ref b47)])) rfl rfl (hb hby at_203)
    refine own_by st52 ?_
    clear st52 Y50
    have va52 : Arv Z h52 b47 k47 .int (8 : Int32) [(.int xe), (.int (xe + (1 : Int32))), (.int (0 : Int32)), (.int (0 : Int32)), (.int (0 : Int32)), (.int (0 : Int32)), (.int (0 : Int32)), (.int (0 : Int32))] (.int (0 : Int32)) := Arv.set ar51 q51 sz51 nn51 hs51 gs51 rfl W52 1 rfl (Nat.le_of_ble_eq_true rfl)
    have z52 : n0 ≤ h52.size := Nat.le_trans z50 (Keep.of_wr W52).1
    have N52 := Fr.snoc X52 M50 ge47
    obtain ⟨lq52, Y52, M52⟩ : ∃ lq, Stand p l e room_1 s m #[(.int xa), (.int xb), (.int xc), (.int xd), (.int xe), (.int xf)] below meth c T52 lq 3 14 ∧ Fr n0 lq := ⟨_, X52, N52⟩
    clear X52 N52
    show own_Go p e below _ (T52.setTop (mkF m 204 #[.val (.int xa), .val (.int xb), .val (.int xc), .val (.int xd), .val (.int xe), .val (.int xf), .val (.int (1 : Int32)), .val (.int w40), .val (.int w41), .val (.ref b42), .val (.int xa), .val (.int (0 : Int32)), .val (.int (0 : Int32)), .val (.int w46), .val (.ref b47), .unset, .unset] []))
    refine own_by (fun _ => XS.aload Y52.here hx rfl (hb hby at_204) rfl rfl) ?_
    show own_Go p e below _ (T52.setTop (mkF m 206 #[.val (.int xa), .val (.int xb), .val (.int xc), .val (.int xd), .val (.int xe), .val (.int xf), .val (.int (1 : Int32)), .val (.int w40), .val (.int w41), .val (.ref b42), .val (.int xa), .val (.int (0 : Int32)), .val (.int (0 : Int32)), .val (.int w46), .val (.ref b47), .unset, .unset] [(.ref b47)]))
    refine own_by (fun _ => XS.iconst Y52.here hx rfl (hb hby at_206)) ?_
    show own_Go p e below _ (T52.setTop (mkF m 207 #[.val (.int xa), .val (.int xb), .val (.int xc), .val (.int xd), .val (.int xe), .val (.int xf), .val (.int (1 : Int32)), .val (.int w40), .val (.int w41), .val (.ref b42), .val (.int xa), .val (.int (0 : Int32)), .val (.int (0 : Int32)), .val (.int w46), .val (.ref b47), .unset, .unset] [(.int (2 : Int32)), (.ref b47)]))
    refine own_by (fun _ => XS.iload Y52.here hx rfl (hb hby at_207) rfl) ?_
    show own_Go p e below _ (T52.setTop (mkF m 209 #[.val (.int xa), .val (.int xb), .val (.int xc), .val (.int xd), .val (.int xe), .val (.int xf), .val (.int (1 : Int32)), .val (.int w40), .val (.int w41), .val (.ref b42), .val (.int xa), .val (.int (0 : Int32)), .val (.int (0 : Int32)), .val (.int w46), .val (.ref b47), .unset, .unset] [(.int xe), (.int (2 : Int32)), (.ref b47)]))
    refine own_by (fun _ => XS.iconst Y52.here hx rfl (hb hby at_209)) ?_
    show own_Go p e below _ (T52.setTop (mkF m 210 #[.val (.int xa), .val (.int xb), .val (.int xc), .val (.int xd), .val (.int xe), .val (.int xf), .val (.int (1 : Int32)), .val (.int w40), .val (.int w41), .val (.ref b42), .val (.int xa), .val (.int (0 : Int32)), .val (.int (0 : Int32)), .val (.int w46), .val (.ref b47), .unset, .unset] [(.int (2 : Int32)), (.int xe), (.int (2 : Int32)), (.ref b47)]))
    refine own_by (fun _ => XS.iadd Y52.here hx rfl (hb hby at_210) rfl) ?_
    show own_Go p e below _ (T52.setTop (mkF m 211 #[.val (.int xa), .val (.int xb), .val (.int xc), .val (.int xd), .val (.int xe), .val (.int xf), .val (.int (1 : Int32)), .val (.int w40), .val (.int w41), .val (.ref b42), .val (.int xa), .val (.int (0 : Int32)), .val (.int (0 : Int32)), .val (.int w46), .val (.ref b47), .unset, .unset] [(.int (xe + (2 : Int32))), (.int (2 : Int32)), (.ref b47)]))
    obtain ⟨cl53, ar53, q53, sz53, nn53, hs53, gs53⟩ := id va52
    have hin53 : ¬ ((2 : Int32) < 0 ∨ cl53.slots.size ≤ ((2 : Int32)).toNatClampNeg) := inb_of sz53 ⟨by decide, by decide⟩
    obtain ⟨T54, h54, X54, e54, W54, st54⟩ := stI Y52 hx hZ e52 ar53 (j := (2 : Int32)) hin53 (g := (mkF m 211 #[.val (.int xa), .val (.int xb), .val (.int xc), .val (.int xd), .val (.int xe), .val (.int xf), .val (.int (1 : Int32)), .val (.int w40), .val (.int w41), .val (.ref b42), .val (.int xa), .val (.int (0 : Int32)), .val (.int (0 : Int32)), .val (.int w46), .val (.ref b47), .unset, .unset] [(.int (xe + (2 : Int32))), (.int (2 : Int32)), (.ref b47)])) rfl rfl (hb hby at_211)
    refine own_by st54 ?_
    clear st54 Y52
    have va54 : Arv Z h54 b47 k47 .int (8 : Int32) [(.int xe), (.int (xe + (1 : Int32))), (.int (xe + (2 : Int32))), (.int (0 : Int32)), (.int (0 : Int32)), (.int (0 : Int32)), (.int (0 : Int32)), (.int (0 : Int32))] (.int (0 : Int32)) := Arv.set ar53 q53 sz53 nn53 hs53 gs53 rfl W54 2 rfl (Nat.le_of_ble_eq_true rfl)
    have z54 : n0 ≤ h54.size := Nat.le_trans z52 (Keep.of_wr W54).1
    have N54 := Fr.snoc X54 M52 ge47
    obtain ⟨lq54, Y54, M54⟩ : ∃ lq, Stand p l e room_1 s m #[(.int xa), (.int xb), (.int xc), (.int xd), (.int xe), (.int xf)] below meth c T54 lq 3 14 ∧ Fr n0 lq := ⟨_, X54, N54⟩
    clear X54 N54
    show own_Go p e below _ (T54.setTop (mkF m 212 #[.val (.int xa), .val (.int xb), .val (.int xc), .val (.int xd), .val (.int xe), .val (.int xf), .val (.int (1 : Int32)), .val (.int w40), .val (.int w41), .val (.ref b42), .val (.int xa), .val (.int (0 : Int32)), .val (.int (0 : Int32)), .val (.int w46), .val (.ref b47), .unset, .unset] []))
    refine own_by (fun _ => XS.aload Y54.here hx rfl (hb hby at_212) rfl rfl) ?_
    show own_Go p e below _ (T54.setTop (mkF m 214 #[.val (.int xa), .val (.int xb), .val (.int xc), .val (.int xd), .val (.int xe), .val (.int xf), .val (.int (1 : Int32)), .val (.int w40), .val (.int w41), .val (.ref b42), .val (.int xa), .val (.int (0 : Int32)), .val (.int (0 : Int32)), .val (.int w46), .val (.ref b47), .unset, .unset] [(.ref b47)]))
    refine own_by (fun _ => XS.iconst Y54.here hx rfl (hb hby at_214)) ?_
    show own_Go p e below _ (T54.setTop (mkF m 215 #[.val (.int xa), .val (.int xb), .val (.int xc), .val (.int xd), .val (.int xe), .val (.int xf), .val (.int (1 : Int32)), .val (.int w40), .val (.int w41), .val (.ref b42), .val (.int xa), .val (.int (0 : Int32)), .val (.int (0 : Int32)), .val (.int w46), .val (.ref b47), .unset, .unset] [(.int (3 : Int32)), (.ref b47)]))
    refine own_by (fun _ => XS.iload Y54.here hx rfl (hb hby at_215) rfl) ?_
    show own_Go p e below _ (T54.setTop (mkF m 217 #[.val (.int xa), .val (.int xb), .val (.int xc), .val (.int xd), .val (.int xe), .val (.int xf), .val (.int (1 : Int32)), .val (.int w40), .val (.int w41), .val (.ref b42), .val (.int xa), .val (.int (0 : Int32)), .val (.int (0 : Int32)), .val (.int w46), .val (.ref b47), .unset, .unset] [(.int xe), (.int (3 : Int32)), (.ref b47)]))
    refine own_by (fun _ => XS.iconst Y54.here hx rfl (hb hby at_217)) ?_
    show own_Go p e below _ (T54.setTop (mkF m 218 #[.val (.int xa), .val (.int xb), .val (.int xc), .val (.int xd), .val (.int xe), .val (.int xf), .val (.int (1 : Int32)), .val (.int w40), .val (.int w41), .val (.ref b42), .val (.int xa), .val (.int (0 : Int32)), .val (.int (0 : Int32)), .val (.int w46), .val (.ref b47), .unset, .unset] [(.int (3 : Int32)), (.int xe), (.int (3 : Int32)), (.ref b47)]))
    refine own_by (fun _ => XS.iadd Y54.here hx rfl (hb hby at_218) rfl) ?_
    show own_Go p e below _ (T54.setTop (mkF m 219 #[.val (.int xa), .val (.int xb), .val (.int xc), .val (.int xd), .val (.int xe), .val (.int xf), .val (.int (1 : Int32)), .val (.int w40), .val (.int w41), .val (.ref b42), .val (.int xa), .val (.int (0 : Int32)), .val (.int (0 : Int32)), .val (.int w46), .val (.ref b47), .unset, .unset] [(.int (xe + (3 : Int32))), (.int (3 : Int32)), (.ref b47)]))
    obtain ⟨cl55, ar55, q55, sz55, nn55, hs55, gs55⟩ := id va54
    have hin55 : ¬ ((3 : Int32) < 0 ∨ cl55.slots.size ≤ ((3 : Int32)).toNatClampNeg) := inb_of sz55 ⟨by decide, by decide⟩
    obtain ⟨T56, h56, X56, e56, W56, st56⟩ := stI Y54 hx hZ e54 ar55 (j := (3 : Int32)) hin55 (g := (mkF m 219 #[.val (.int xa), .val (.int xb), .val (.int xc), .val (.int xd), .val (.int xe), .val (.int xf), .val (.int (1 : Int32)), .val (.int w40), .val (.int w41), .val (.ref b42), .val (.int xa), .val (.int (0 : Int32)), .val (.int (0 : Int32)), .val (.int w46), .val (.ref b47), .unset, .unset] [(.int (xe + (3 : Int32))), (.int (3 : Int32)), (.ref b47)])) rfl rfl (hb hby at_219)
    refine own_by st56 ?_
    clear st56 Y54
    have va56 : Arv Z h56 b47 k47 .int (8 : Int32) [(.int xe), (.int (xe + (1 : Int32))), (.int (xe + (2 : Int32))), (.int (xe + (3 : Int32))), (.int (0 : Int32)), (.int (0 : Int32)), (.int (0 : Int32)), (.int (0 : Int32))] (.int (0 : Int32)) := Arv.set ar55 q55 sz55 nn55 hs55 gs55 rfl W56 3 rfl (Nat.le_of_ble_eq_true rfl)
    have z56 : n0 ≤ h56.size := Nat.le_trans z54 (Keep.of_wr W56).1
    have N56 := Fr.snoc X56 M54 ge47
    obtain ⟨lq56, Y56, M56⟩ : ∃ lq, Stand p l e room_1 s m #[(.int xa), (.int xb), (.int xc), (.int xd), (.int xe), (.int xf)] below meth c T56 lq 3 14 ∧ Fr n0 lq := ⟨_, X56, N56⟩
    clear X56 N56
    show own_Go p e below _ (T56.setTop (mkF m 220 #[.val (.int xa), .val (.int xb), .val (.int xc), .val (.int xd), .val (.int xe), .val (.int xf), .val (.int (1 : Int32)), .val (.int w40), .val (.int w41), .val (.ref b42), .val (.int xa), .val (.int (0 : Int32)), .val (.int (0 : Int32)), .val (.int w46), .val (.ref b47), .unset, .unset] []))
    refine own_by (fun _ => XS.aload Y56.here hx rfl (hb hby at_220) rfl rfl) ?_
    show own_Go p e below _ (T56.setTop (mkF m 222 #[.val (.int xa), .val (.int xb), .val (.int xc), .val (.int xd), .val (.int xe), .val (.int xf), .val (.int (1 : Int32)), .val (.int w40), .val (.int w41), .val (.ref b42), .val (.int xa), .val (.int (0 : Int32)), .val (.int (0 : Int32)), .val (.int w46), .val (.ref b47), .unset, .unset] [(.ref b47)]))
    refine own_by (fun _ => XS.iconst Y56.here hx rfl (hb hby at_222)) ?_
    show own_Go p e below _ (T56.setTop (mkF m 223 #[.val (.int xa), .val (.int xb), .val (.int xc), .val (.int xd), .val (.int xe), .val (.int xf), .val (.int (1 : Int32)), .val (.int w40), .val (.int w41), .val (.ref b42), .val (.int xa), .val (.int (0 : Int32)), .val (.int (0 : Int32)), .val (.int w46), .val (.ref b47), .unset, .unset] [(.int (4 : Int32)), (.ref b47)]))
    refine own_by (fun _ => XS.iload Y56.here hx rfl (hb hby at_223) rfl) ?_
    show own_Go p e below _ (T56.setTop (mkF m 225 #[.val (.int xa), .val (.int xb), .val (.int xc), .val (.int xd), .val (.int xe), .val (.int xf), .val (.int (1 : Int32)), .val (.int w40), .val (.int w41), .val (.ref b42), .val (.int xa), .val (.int (0 : Int32)), .val (.int (0 : Int32)), .val (.int w46), .val (.ref b47), .unset, .unset] [(.int xe), (.int (4 : Int32)), (.ref b47)]))
    refine own_by (fun _ => XS.iconst Y56.here hx rfl (hb hby at_225)) ?_
    show own_Go p e below _ (T56.setTop (mkF m 226 #[.val (.int xa), .val (.int xb), .val (.int xc), .val (.int xd), .val (.int xe), .val (.int xf), .val (.int (1 : Int32)), .val (.int w40), .val (.int w41), .val (.ref b42), .val (.int xa), .val (.int (0 : Int32)), .val (.int (0 : Int32)), .val (.int w46), .val (.ref b47), .unset, .unset] [(.int (4 : Int32)), (.int xe), (.int (4 : Int32)), (.ref b47)]))
    refine own_by (fun _ => XS.iadd Y56.here hx rfl (hb hby at_226) rfl) ?_
    show own_Go p e below _ (T56.setTop (mkF m 227 #[.val (.int xa), .val (.int xb), .val (.int xc), .val (.int xd), .val (.int xe), .val (.int xf), .val (.int (1 : Int32)), .val (.int w40), .val (.int w41), .val (.ref b42), .val (.int xa), .val (.int (0 : Int32)), .val (.int (0 : Int32)), .val (.int w46), .val (.ref b47), .unset, .unset] [(.int (xe + (4 : Int32))), (.int (4 : Int32)), (.ref b47)]))
    obtain ⟨cl57, ar57, q57, sz57, nn57, hs57, gs57⟩ := id va56
    have hin57 : ¬ ((4 : Int32) < 0 ∨ cl57.slots.size ≤ ((4 : Int32)).toNatClampNeg) := inb_of sz57 ⟨by decide, by decide⟩
    obtain ⟨T58, h58, X58, e58, W58, st58⟩ := stI Y56 hx hZ e56 ar57 (j := (4 : Int32)) hin57 (g := (mkF m 227 #[.val (.int xa), .val (.int xb), .val (.int xc), .val (.int xd), .val (.int xe), .val (.int xf), .val (.int (1 : Int32)), .val (.int w40), .val (.int w41), .val (.ref b42), .val (.int xa), .val (.int (0 : Int32)), .val (.int (0 : Int32)), .val (.int w46), .val (.ref b47), .unset, .unset] [(.int (xe + (4 : Int32))), (.int (4 : Int32)), (.ref b47)])) rfl rfl (hb hby at_227)
    refine own_by st58 ?_
    clear st58 Y56
    have va58 : Arv Z h58 b47 k47 .int (8 : Int32) [(.int xe), (.int (xe + (1 : Int32))), (.int (xe + (2 : Int32))), (.int (xe + (3 : Int32))), (.int (xe + (4 : Int32))), (.int (0 : Int32)), (.int (0 : Int32)), (.int (0 : Int32))] (.int (0 : Int32)) := Arv.set ar57 q57 sz57 nn57 hs57 gs57 rfl W58 4 rfl (Nat.le_of_ble_eq_true rfl)
    have z58 : n0 ≤ h58.size := Nat.le_trans z56 (Keep.of_wr W58).1
    have N58 := Fr.snoc X58 M56 ge47
    obtain ⟨lq58, Y58, M58⟩ : ∃ lq, Stand p l e room_1 s m #[(.int xa), (.int xb), (.int xc), (.int xd), (.int xe), (.int xf)] below meth c T58 lq 3 14 ∧ Fr n0 lq := ⟨_, X58, N58⟩
    clear X58 N58
    show own_Go p e below _ (T58.setTop (mkF m 228 #[.val (.int xa), .val (.int xb), .val (.int xc), .val (.int xd), .val (.int xe), .val (.int xf), .val (.int (1 : Int32)), .val (.int w40), .val (.int w41), .val (.ref b42), .val (.int xa), .val (.int (0 : Int32)), .val (.int (0 : Int32)), .val (.int w46), .val (.ref b47), .unset, .unset] []))
    refine own_by (fun _ => XS.aload Y58.here hx rfl (hb hby at_228) rfl rfl) ?_
    show own_Go p e below _ (T58.setTop (mkF m 230 #[.val (.int xa), .val (.int xb), .val (.int xc), .val (.int xd), .val (.int xe), .val (.int xf), .val (.int (1 : Int32)), .val (.int w40), .val (.int w41), .val (.ref b42), .val (.int xa), .val (.int (0 : Int32)), .val (.int (0 : Int32)), .val (.int w46), .val (.ref b47), .unset, .unset] [(.ref b47)]))
    refine own_by (fun _ => XS.iconst Y58.here hx rfl (hb hby at_230)) ?_
    show own_Go p e below _ (T58.setTop (mkF m 231 #[.val (.int xa), .val (.int xb), .val (.int xc), .val (.int xd), .val (.int xe), .val (.int xf), .val (.int (1 : Int32)), .val (.int w40), .val (.int w41), .val (.ref b42), .val (.int xa), .val (.int (0 : Int32)), .val (.int (0 : Int32)), .val (.int w46), .val (.ref b47), .unset, .unset] [(.int (5 : Int32)), (.ref b47)]))
    refine own_by (fun _ => XS.iload Y58.here hx rfl (hb hby at_231) rfl) ?_
    show own_Go p e below _ (T58.setTop (mkF m 233 #[.val (.int xa), .val (.int xb), .val (.int xc), .val (.int xd), .val (.int xe), .val (.int xf), .val (.int (1 : Int32)), .val (.int w40), .val (.int w41), .val (.ref b42), .val (.int xa), .val (.int (0 : Int32)), .val (.int (0 : Int32)), .val (.int w46), .val (.ref b47), .unset, .unset] [(.int xe), (.int (5 : Int32)), (.ref b47)]))
    refine own_by (fun _ => XS.iconst Y58.here hx rfl (hb hby at_233)) ?_
    show own_Go p e below _ (T58.setTop (mkF m 234 #[.val (.int xa), .val (.int xb), .val (.int xc), .val (.int xd), .val (.int xe), .val (.int xf), .val (.int (1 : Int32)), .val (.int w40), .val (.int w41), .val (.ref b42), .val (.int xa), .val (.int (0 : Int32)), .val (.int (0 : Int32)), .val (.int w46), .val (.ref b47), .unset, .unset] [(.int (5 : Int32)), (.int xe), (.int (5 : Int32)), (.ref b47)]))
    refine own_by (fun _ => XS.iadd Y58.here hx rfl (hb hby at_234) rfl) ?_
    show own_Go p e below _ (T58.setTop (mkF m 235 #[.val (.int xa), .val (.int xb), .val (.int xc), .val (.int xd), .val (.int xe), .val (.int xf), .val (.int (1 : Int32)), .val (.int w40), .val (.int w41), .val (.ref b42), .val (.int xa), .val (.int (0 : Int32)), .val (.int (0 : Int32)), .val (.int w46), .val (.ref b47), .unset, .unset] [(.int (xe + (5 : Int32))), (.int (5 : Int32)), (.ref b47)]))
    obtain ⟨cl59, ar59, q59, sz59, nn59, hs59, gs59⟩ := id va58
    have hin59 : ¬ ((5 : Int32) < 0 ∨ cl59.slots.size ≤ ((5 : Int32)).toNatClampNeg) := inb_of sz59 ⟨by decide, by decide⟩
    obtain ⟨T60, h60, X60, e60, W60, st60⟩ := stI Y58 hx hZ e58 ar59 (j := (5 : Int32)) hin59 (g := (mkF m 235 #[.val (.int xa), .val (.int xb), .val (.int xc), .val (.int xd), .val (.int xe), .val (.int xf), .val (.int (1 : Int32)), .val (.int w40), .val (.int w41), .val (.ref b42), .val (.int xa), .val (.int (0 : Int32)), .val (.int (0 : Int32)), .val (.int w46), .val (.ref b47), .unset, .unset] [(.int (xe + (5 : Int32))), (.int (5 : Int32)), (.ref b47)])) rfl rfl (hb hby at_235)
    refine own_by st60 ?_
    clear st60 Y58
    have va60 : Arv Z h60 b47 k47 .int (8 : Int32) [(.int xe), (.int (xe + (1 : Int32))), (.int (xe + (2 : Int32))), (.int (xe + (3 : Int32))), (.int (xe + (4 : Int32))), (.int (xe + (5 : Int32))), (.int (0 : Int32)), (.int (0 : Int32))] (.int (0 : Int32)) := Arv.set ar59 q59 sz59 nn59 hs59 gs59 rfl W60 5 rfl (Nat.le_of_ble_eq_true rfl)
    have z60 : n0 ≤ h60.size := Nat.le_trans z58 (Keep.of_wr W60).1
    have N60 := Fr.snoc X60 M58 ge47
    obtain ⟨lq60, Y60, M60⟩ : ∃ lq, Stand p l e room_1 s m #[(.int xa), (.int xb), (.int xc), (.int xd), (.int xe), (.int xf)] below meth c T60 lq 3 14 ∧ Fr n0 lq := ⟨_, X60, N60⟩
    clear X60 N60
    show own_Go p e below _ (T60.setTop (mkF m 236 #[.val (.int xa), .val (.int xb), .val (.int xc), .val (.int xd), .val (.int xe), .val (.int xf), .val (.int (1 : Int32)), .val (.int w40), .val (.int w41), .val (.ref b42), .val (.int xa), .val (.int (0 : Int32)), .val (.int (0 : Int32)), .val (.int w46), .val (.ref b47), .unset, .unset] []))
    refine own_by (fun _ => XS.aload Y60.here hx rfl (hb hby at_236) rfl rfl) ?_
    show own_Go p e below _ (T60.setTop (mkF m 238 #[.val (.int xa), .val (.int xb), .val (.int xc), .val (.int xd), .val (.int xe), .val (.int xf), .val (.int (1 : Int32)), .val (.int w40), .val (.int w41), .val (.ref b42), .val (.int xa), .val (.int (0 : Int32)), .val (.int (0 : Int32)), .val (.int w46), .val (.ref b47), .unset, .unset] [(.ref b47)]))
    refine own_by (fun _ => XS.bipush Y60.here hx rfl (hb hby at_238)) ?_
    show own_Go p e below _ (T60.setTop (mkF m 240 #[.val (.int xa), .val (.int xb), .val (.int xc), .val (.int xd), .val (.int xe), .val (.int xf), .val (.int (1 : Int32)), .val (.int w40), .val (.int w41), .val (.ref b42), .val (.int xa), .val (.int (0 : Int32)), .val (.int (0 : Int32)), .val (.int w46), .val (.ref b47), .unset, .unset] [(.int (6 : Int32)), (.ref b47)]))
    refine own_by (fun _ => XS.iload Y60.here hx rfl (hb hby at_240) rfl) ?_
    show own_Go p e below _ (T60.setTop (mkF m 242 #[.val (.int xa), .val (.int xb), .val (.int xc), .val (.int xd), .val (.int xe), .val (.int xf), .val (.int (1 : Int32)), .val (.int w40), .val (.int w41), .val (.ref b42), .val (.int xa), .val (.int (0 : Int32)), .val (.int (0 : Int32)), .val (.int w46), .val (.ref b47), .unset, .unset] [(.int xe), (.int (6 : Int32)), (.ref b47)]))
    refine own_by (fun _ => XS.bipush Y60.here hx rfl (hb hby at_242)) ?_
    show own_Go p e below _ (T60.setTop (mkF m 244 #[.val (.int xa), .val (.int xb), .val (.int xc), .val (.int xd), .val (.int xe), .val (.int xf), .val (.int (1 : Int32)), .val (.int w40), .val (.int w41), .val (.ref b42), .val (.int xa), .val (.int (0 : Int32)), .val (.int (0 : Int32)), .val (.int w46), .val (.ref b47), .unset, .unset] [(.int (6 : Int32)), (.int xe), (.int (6 : Int32)), (.ref b47)]))
    refine own_by (fun _ => XS.iadd Y60.here hx rfl (hb hby at_244) rfl) ?_
    show own_Go p e below _ (T60.setTop (mkF m 245 #[.val (.int xa), .val (.int xb), .val (.int xc), .val (.int xd), .val (.int xe), .val (.int xf), .val (.int (1 : Int32)), .val (.int w40), .val (.int w41), .val (.ref b42), .val (.int xa), .val (.int (0 : Int32)), .val (.int (0 : Int32)), .val (.int w46), .val (.ref b47), .unset, .unset] [(.int (xe + (6 : Int32))), (.int (6 : Int32)), (.ref b47)]))
    obtain ⟨cl61, ar61, q61, sz61, nn61, hs61, gs61⟩ := id va60
    have hin61 : ¬ ((6 : Int32) < 0 ∨ cl61.slots.size ≤ ((6 : Int32)).toNatClampNeg) := inb_of sz61 ⟨by decide, by decide⟩
    obtain ⟨T62, h62, X62, e62, W62, st62⟩ := stI Y60 hx hZ e60 ar61 (j := (6 : Int32)) hin61 (g := (mkF m 245 #[.val (.int xa), .val (.int xb), .val (.int xc), .val (.int xd), .val (.int xe), .val (.int xf), .val (.int (1 : Int32)), .val (.int w40), .val (.int w41), .val (.ref b42), .val (.int xa), .val (.int (0 : Int32)), .val (.int (0 : Int32)), .val (.int w46), .val (.ref b47), .unset, .unset] [(.int (xe + (6 : Int32))), (.int (6 : Int32)), (.ref b47)])) rfl rfl (hb hby at_245)
    refine own_by st62 ?_
    clear st62 Y60
    have va62 : Arv Z h62 b47 k47 .int (8 : Int32) [(.int xe), (.int (xe + (1 : Int32))), (.int (xe + (2 : Int32))), (.int (xe + (3 : Int32))), (.int (xe + (4 : Int32))), (.int (xe + (5 : Int32))), (.int (xe + (6 : Int32))), (.int (0 : Int32))] (.int (0 : Int32)) := Arv.set ar61 q61 sz61 nn61 hs61 gs61 rfl W62 6 rfl (Nat.le_of_ble_eq_true rfl)
    have z62 : n0 ≤ h62.size := Nat.le_trans z60 (Keep.of_wr W62).1
    have N62 := Fr.snoc X62 M60 ge47
    obtain ⟨lq62, Y62, M62⟩ : ∃ lq, Stand p l e room_1 s m #[(.int xa), (.int xb), (.int xc), (.int xd), (.int xe), (.int xf)] below meth c T62 lq 3 14 ∧ Fr n0 lq := ⟨_, X62, N62⟩
    clear X62 N62
    show own_Go p e below _ (T62.setTop (mkF m 246 #[.val (.int xa), .val (.int xb), .val (.int xc), .val (.int xd), .val (.int xe), .val (.int xf), .val (.int (1 : Int32)), .val (.int w40), .val (.int w41), .val (.ref b42), .val (.int xa), .val (.int (0 : Int32)), .val (.int (0 : Int32)), .val (.int w46), .val (.ref b47), .unset, .unset] []))
    refine own_by (fun _ => XS.aload Y62.here hx rfl (hb hby at_246) rfl rfl) ?_
    show own_Go p e below _ (T62.setTop (mkF m 248 #[.val (.int xa), .val (.int xb), .val (.int xc), .val (.int xd), .val (.int xe), .val (.int xf), .val (.int (1 : Int32)), .val (.int w40), .val (.int w41), .val (.ref b42), .val (.int xa), .val (.int (0 : Int32)), .val (.int (0 : Int32)), .val (.int w46), .val (.ref b47), .unset, .unset] [(.ref b47)]))
    refine own_by (fun _ => XS.bipush Y62.here hx rfl (hb hby at_248)) ?_
    show own_Go p e below _ (T62.setTop (mkF m 250 #[.val (.int xa), .val (.int xb), .val (.int xc), .val (.int xd), .val (.int xe), .val (.int xf), .val (.int (1 : Int32)), .val (.int w40), .val (.int w41), .val (.ref b42), .val (.int xa), .val (.int (0 : Int32)), .val (.int (0 : Int32)), .val (.int w46), .val (.ref b47), .unset, .unset] [(.int (7 : Int32)), (.ref b47)]))
    refine own_by (fun _ => XS.iload Y62.here hx rfl (hb hby at_250) rfl) ?_
    show own_Go p e below _ (T62.setTop (mkF m 252 #[.val (.int xa), .val (.int xb), .val (.int xc), .val (.int xd), .val (.int xe), .val (.int xf), .val (.int (1 : Int32)), .val (.int w40), .val (.int w41), .val (.ref b42), .val (.int xa), .val (.int (0 : Int32)), .val (.int (0 : Int32)), .val (.int w46), .val (.ref b47), .unset, .unset] [(.int xe), (.int (7 : Int32)), (.ref b47)]))
    refine own_by (fun _ => XS.bipush Y62.here hx rfl (hb hby at_252)) ?_
    show own_Go p e below _ (T62.setTop (mkF m 254 #[.val (.int xa), .val (.int xb), .val (.int xc), .val (.int xd), .val (.int xe), .val (.int xf), .val (.int (1 : Int32)), .val (.int w40), .val (.int w41), .val (.ref b42), .val (.int xa), .val (.int (0 : Int32)), .val (.int (0 : Int32)), .val (.int w46), .val (.ref b47), .unset, .unset] [(.int (7 : Int32)), (.int xe), (.int (7 : Int32)), (.ref b47)]))
    refine own_by (fun _ => XS.iadd Y62.here hx rfl (hb hby at_254) rfl) ?_
    show own_Go p e below _ (T62.setTop (mkF m 255 #[.val (.int xa), .val (.int xb), .val (.int xc), .val (.int xd), .val (.int xe), .val (.int xf), .val (.int (1 : Int32)), .val (.int w40), .val (.int w41), .val (.ref b42), .val (.int xa), .val (.int (0 : Int32)), .val (.int (0 : Int32)), .val (.int w46), .val (.ref b47), .unset, .unset] [(.int (xe + (7 : Int32))), (.int (7 : Int32)), (.ref b47)]))
    obtain ⟨cl63, ar63, q63, sz63, nn63, hs63, gs63⟩ := id va62
    have hin63 : ¬ ((7 : Int32) < 0 ∨ cl63.slots.size ≤ ((7 : Int32)).toNatClampNeg) := inb_of sz63 ⟨by decide, by decide⟩
    obtain ⟨T64, h64, X64, e64, W64, st64⟩ := stI Y62 hx hZ e62 ar63 (j := (7 : Int32)) hin63 (g := (mkF m 255 #[.val (.int xa), .val (.int xb), .val (.int xc), .val (.int xd), .val (.int xe), .val (.int xf), .val (.int (1 : Int32)), .val (.int w40), .val (.int w41), .val (.ref b42), .val (.int xa), .val (.int (0 : Int32)), .val (.int (0 : Int32)), .val (.int w46), .val (.ref b47), .unset, .unset] [(.int (xe + (7 : Int32))), (.int (7 : Int32)), (.ref b47)])) rfl rfl (hb hby at_255)
    refine own_by st64 ?_
    clear st64 Y62
    have va64 : Arv Z h64 b47 k47 .int (8 : Int32) [(.int xe), (.int (xe + (1 : Int32))), (.int (xe + (2 : Int32))), (.int (xe + (3 : Int32))), (.int (xe + (4 : Int32))), (.int (xe + (5 : Int32))), (.int (xe + (6 : Int32))), (.int (xe + (7 : Int32)))] (.int (0 : Int32)) := Arv.set ar63 q63 sz63 nn63 hs63 gs63 rfl W64 7 rfl (Nat.le_of_ble_eq_true rfl)
    have z64 : n0 ≤ h64.size := Nat.le_trans z62 (Keep.of_wr W64).1
    have N64 := Fr.snoc X64 M62 ge47
    obtain ⟨lq64, Y64, M64⟩ : ∃ lq, Stand p l e room_1 s m #[(.int xa), (.int xb), (.int xc), (.int xd), (.int xe), (.int xf)] below meth c T64 lq 3 14 ∧ Fr n0 lq := ⟨_, X64, N64⟩
    clear X64 N64
    show own_Go p e below _ (T64.setTop (mkF m 256 #[.val (.int xa), .val (.int xb), .val (.int xc), .val (.int xd), .val (.int xe), .val (.int xf), .val (.int (1 : Int32)), .val (.int w40), .val (.int w41), .val (.ref b42), .val (.int xa), .val (.int (0 : Int32)), .val (.int (0 : Int32)), .val (.int w46), .val (.ref b47), .unset, .unset] []))
    refine own_by (fun _ => XS.aload Y64.here hx rfl (hb hby at_256) rfl rfl) ?_
    show own_Go p e below _ (T64.setTop (mkF m 258 #[.val (.int xa), .val (.int xb), .val (.int xc), .val (.int xd), .val (.int xe), .val (.int xf), .val (.int (1 : Int32)), .val (.int w40), .val (.int w41), .val (.ref b42), .val (.int xa), .val (.int (0 : Int32)), .val (.int (0 : Int32)), .val (.int w46), .val (.ref b47), .unset, .unset] [(.ref b42)]))
    refine own_by (fun _ => XS.aload Y64.here hx rfl (hb hby at_258) rfl rfl) ?_
    show own_Go p e below _ (T64.setTop (mkF m 260 #[.val (.int xa), .val (.int xb), .val (.int xc), .val (.int xd), .val (.int xe), .val (.int xf), .val (.int (1 : Int32)), .val (.int w40), .val (.int w41), .val (.ref b42), .val (.int xa), .val (.int (0 : Int32)), .val (.int (0 : Int32)), .val (.int w46), .val (.ref b47), .unset, .unset] [(.ref b47), (.ref b42)]))
    refine own_by (fun _ => XS.iload Y64.here hx rfl (hb hby at_260) rfl) ?_
    show own_Go p e below _ (T64.setTop (mkF m 262 #[.val (.int xa), .val (.int xb), .val (.int xc), .val (.int xd), .val (.int xe), .val (.int xf), .val (.int (1 : Int32)), .val (.int w40), .val (.int w41), .val (.ref b42), .val (.int xa), .val (.int (0 : Int32)), .val (.int (0 : Int32)), .val (.int w46), .val (.ref b47), .unset, .unset] [(.int w46), (.ref b47), (.ref b42)]))
    have f65 : Exa Z h64 b42 "com/example/bucketsplit/bucketsplit/core/Page" := (((((((((f48.ext E47).wr W50).wr W52).wr W54).wr W56).wr W58).wr W60).wr W62).wr W64)
    have f66 : Fld Z h64 b42 "com/example/bucketsplit/bucketsplit/core/Page" "mKeys" "[I" (.ref kx_43) := (((((((((fc45_0.ext E47).other W50 (Or.inl ne47_b42)).other W52 (Or.inl ne47_b42)).other W54 (Or.inl ne47_b42)).other W56 (Or.inl ne47_b42)).other W58 (Or.inl ne47_b42)).other W60 (Or.inl ne47_b42)).other W62 (Or.inl ne47_b42)).other W64 (Or.inl ne47_b42))
    have f67 : Fld Z h64 b42 "com/example/bucketsplit/bucketsplit/core/Page" "mSize" "I" (.int (1 : Int32)) := (((((((((fc45_1.ext E47).other W50 (Or.inl ne47_b42)).other W52 (Or.inl ne47_b42)).other W54 (Or.inl ne47_b42)).other W56 (Or.inl ne47_b42)).other W58 (Or.inl ne47_b42)).other W60 (Or.inl ne47_b42)).other W62 (Or.inl ne47_b42)).other W64 (Or.inl ne47_b42))
    have f68 : Arv Z h64 kx_43 kk_43 .int (4 : Int32) [(.int xa), (.int (0 : Int32)), (.int (0 : Int32)), (.int (0 : Int32))] (.int (0 : Int32)) := (((((((((fc45_2.ext E47).other W50 ne47_kx_43).other W52 ne47_kx_43).other W54 ne47_kx_43).other W56 ne47_kx_43).other W58 ne47_kx_43).other W60 ne47_kx_43).other W62 ne47_kx_43).other W64 ne47_kx_43)
    obtain ⟨cq69, kq69, q69a, q69b, q69c⟩ := isOf hZ e64 f65
    obtain ⟨_, _, ⟨T69, L69, k69, n69⟩, -, X69, ⟨Lc69, hQ69, l69, y69, z69'⟩, st69⟩ := Y64.virtualBack hx (y := (⟨"com/example/bucketsplit/bucketsplit/core/Page", "takeAll", "([II)I"⟩ : MethodName)) (z := (⟨"com/example/bucketsplit/bucketsplit/core/Page", "takeAll", "([II)I"⟩ : MethodName)) hown (mvT hZ (hw _ (List.mem_of_getElem? (i := 27) rfl))) (mvT hZ (hw _ (List.mem_of_getElem? (i := 28) rfl))) (notFace_of_selects (args := #[]) (mvT hZ (hw _ (List.mem_of_getElem? (i := 30) rfl)))) (mvT hZ (hw _ (List.mem_of_getElem? (i := 30) rfl))) (mvT hZ (hw _ (List.mem_of_getElem? (i := 29) rfl))) (by decide) (backOf (W := 0) (own_rm6_1 l Z a0 hw [] b42 b47 w46 kx_43 kk_43 k47 [xe, (xe + (1 : Int32)), (xe + (2 : Int32)), (xe + (3 : Int32)), (xe + (4 : Int32)), (xe + (5 : Int32)), (xe + (6 : Int32)), (xe + (7 : Int32))] xa (0 : Int32) (0 : Int32) (0 : Int32) h64 n0 z64 f65 f66 f67 f68 va64 ne43_b42 ne47_b42 ne47_kx_43 ge42 ge47 ((own_atlo hw46) : ¬ (w46 < (0 : Int32))) ((own_athi hw46) : w46 < (8 : Int32)) ((by first | rfl | simp) : [xe, (xe + (1 : Int32)), (xe + (2 : Int32)), (xe + (3 : Int32)), (xe + (4 : Int32)), (xe + (5 : Int32)), (xe + (6 : Int32)), (xe + (7 : Int32))].length = 8)) hZ (hw _ (List.mem_of_getElem? (i := 31) rfl)) (hw _ (List.mem_of_getElem? (i := 2) rfl)) (by decide) (by decide)) q69a q69c (g := (mkF m 262 #[.val (.int xa), .val (.int xb), .val (.int xc), .val (.int xd), .val (.int xe), .val (.int xf), .val (.int (1 : Int32)), .val (.int w40), .val (.int w41), .val (.ref b42), .val (.int xa), .val (.int (0 : Int32)), .val (.int (0 : Int32)), .val (.int w46), .val (.ref b47), .unset, .unset] [(.int w46), (.ref b47), (.ref b42)])) rfl (by rw [hml]; rfl) (Steps.refl _) (argsL := [(.ref b47), (.int w46)]) (rest := []) (lenOf own_pd1 rfl) rfl (by show 2 * 0 + _ ≤ _; exact Nat.le_of_eq rfl) (hb hby at_262) (fun _ _ => ⟨rfl, e64, (by decide : 3 + 0 ≤ _), (by decide : 14 + 0 ≤ _)⟩)
    dsimp only [Pt.U, Pt.locs, Pt.cells, Pt.slots] at X69 l69 y69 z69' st69 hQ69
    subst l69 y69 z69'
    obtain ⟨rfl, N69q, Kc69, fc69_0, fc69_1⟩ := hQ69
    have N69 := Fr.app M64 N69q
    refine own_tr st69 ?_
    clear st69 Y64
    obtain ⟨lq69, Y69, M69⟩ : ∃ lq, Stand p l e room_1 s m #[(.int xa), (.int xb), (.int xc), (.int xd), (.int xe), (.int xf)] below meth c T69 lq 3 14 ∧ Fr n0 lq := ⟨_, X69, N69⟩
    clear X69 N69
    have z69 : n0 ≤ T69.heap.size := Nat.le_trans z64 Kc69.1
    obtain ⟨ls69_1, hls69_1⟩ : ∃ z : List Int32, z = ([xe, (xe + (1 : Int32)), (xe + (2 : Int32)), (xe + (3 : Int32)), (xe + (4 : Int32)), (xe + (5 : Int32)), (xe + (6 : Int32)), (xe + (7 : Int32))].set ((w46 + (0 : Int32))).toNatClampNeg xa) := ⟨_, rfl⟩
    rw [← hls69_1] at fc69_1
    show own_Go p e below _ (T69.setTop (mkF m 265 #[.val (.int xa), .val (.int xb), .val (.int xc), .val (.int xd), .val (.int xe), .val (.int xf), .val (.int (1 : Int32)), .val (.int w40), .val (.int w41), .val (.ref b42), .val (.int xa), .val (.int (0 : Int32)), .val (.int (0 : Int32)), .val (.int w46), .val (.ref b47), .unset, .unset] [(.int (w46 + (1 : Int32)))]))
    refine own_by (fun _ => XS.istore Y69.here hx rfl (hb hby at_265) rfl (l' := #[.val (.int xa), .val (.int xb), .val (.int xc), .val (.int xd), .val (.int xe), .val (.int xf), .val (.int (1 : Int32)), .val (.int w40), .val (.int w41), .val (.ref b42), .val (.int xa), .val (.int (0 : Int32)), .val (.int (0 : Int32)), .val (.int w46), .val (.ref b47), .val (.int (w46 + (1 : Int32))), .unset]) rfl) ?_
    show own_Go p e below _ (T69.setTop (mkF m 267 #[.val (.int xa), .val (.int xb), .val (.int xc), .val (.int xd), .val (.int xe), .val (.int xf), .val (.int (1 : Int32)), .val (.int w40), .val (.int w41), .val (.ref b42), .val (.int xa), .val (.int (0 : Int32)), .val (.int (0 : Int32)), .val (.int w46), .val (.ref b47), .val (.int (w46 + (1 : Int32))), .unset] []))
    refine own_by (fun _ => XS.iload Y69.here hx rfl (hb hby at_267) rfl) ?_
    show own_Go p e below _ (T69.setTop (mkF m 269 #[.val (.int xa), .val (.int xb), .val (.int xc), .val (.int xd), .val (.int xe), .val (.int xf), .val (.int (1 : Int32)), .val (.int w40), .val (.int w41), .val (.ref b42), .val (.int xa), .val (.int (0 : Int32)), .val (.int (0 : Int32)), .val (.int w46), .val (.ref b47), .val (.int (w46 + (1 : Int32))), .unset] [(.int (w46 + (1 : Int32)))]))
    refine own_by (fun _ => XS.iload Y69.here hx rfl (hb hby at_269) rfl) ?_
    show own_Go p e below _ (T69.setTop (mkF m 271 #[.val (.int xa), .val (.int xb), .val (.int xc), .val (.int xd), .val (.int xe), .val (.int xf), .val (.int (1 : Int32)), .val (.int w40), .val (.int w41), .val (.ref b42), .val (.int xa), .val (.int (0 : Int32)), .val (.int (0 : Int32)), .val (.int w46), .val (.ref b47), .val (.int (w46 + (1 : Int32))), .unset] [(.int w46), (.int (w46 + (1 : Int32)))]))
    refine own_by (fun _ => XS.iload Y69.here hx rfl (hb hby at_271) rfl) ?_
    show own_Go p e below _ (T69.setTop (mkF m 273 #[.val (.int xa), .val (.int xb), .val (.int xc), .val (.int xd), .val (.int xe), .val (.int xf), .val (.int (1 : Int32)), .val (.int w40), .val (.int w41), .val (.ref b42), .val (.int xa), .val (.int (0 : Int32)), .val (.int (0 : Int32)), .val (.int w46), .val (.ref b47), .val (.int (w46 + (1 : Int32))), .unset] [(.int (1 : Int32)), (.int w46), (.int (w46 + (1 : Int32)))]))
    refine own_by (fun _ => XS.iadd Y69.here hx rfl (hb hby at_273) rfl) ?_
    show own_Go p e below _ (T69.setTop (mkF m 274 #[.val (.int xa), .val (.int xb), .val (.int xc), .val (.int xd), .val (.int xe), .val (.int xf), .val (.int (1 : Int32)), .val (.int w40), .val (.int w41), .val (.ref b42), .val (.int xa), .val (.int (0 : Int32)), .val (.int (0 : Int32)), .val (.int w46), .val (.ref b47), .val (.int (w46 + (1 : Int32))), .unset] [(.int (w46 + (1 : Int32))), (.int (w46 + (1 : Int32)))]))
    refine own_by (fun _ => XS.icmpNo Y69.here hx rfl (hb hby at_274) rfl (teq (rfl : (w46 + (1 : Int32)) = (w46 + (1 : Int32)))).2) ?_
    show own_Go p e below _ (T69.setTop (mkF m 277 #[.val (.int xa), .val (.int xb), .val (.int xc), .val (.int xd), .val (.int xe), .val (.int xf), .val (.int (1 : Int32)), .val (.int w40), .val (.int w41), .val (.ref b42), .val (.int xa), .val (.int (0 : Int32)), .val (.int (0 : Int32)), .val (.int w46), .val (.ref b47), .val (.int (w46 + (1 : Int32))), .unset] []))
    refine own_by (fun _ => XS.aload Y69.here hx rfl (hb hby at_277) rfl rfl) ?_
    show own_Go p e below _ (T69.setTop (mkF m 279 #[.val (.int xa), .val (.int xb), .val (.int xc), .val (.int xd), .val (.int xe), .val (.int xf), .val (.int (1 : Int32)), .val (.int w40), .val (.int w41), .val (.ref b42), .val (.int xa), .val (.int (0 : Int32)), .val (.int (0 : Int32)), .val (.int w46), .val (.ref b47), .val (.int (w46 + (1 : Int32))), .unset] [(.ref b42)]))
    have f71 : Exa Z T69.heap b42 "com/example/bucketsplit/bucketsplit/core/Page" := (f65.keep Kc69)
    obtain ⟨cq70, kq70, q70a, q70b, q70c⟩ := isOf hZ rfl f71
    obtain ⟨_, _, ⟨T70, L70, k70, n70⟩, -, X70, ⟨Lc70, hQ70, l70, y70, z70'⟩, st70⟩ := Y69.virtualBack hx (y := (⟨"com/example/bucketsplit/bucketsplit/core/Page", "size", "()I"⟩ : MethodName)) (z := (⟨"com/example/bucketsplit/bucketsplit/core/Page", "size", "()I"⟩ : MethodName)) hown (mvT hZ (hw _ (List.mem_of_getElem? (i := 32) rfl))) (mvT hZ (hw _ (List.mem_of_getElem? (i := 33) rfl))) (notFace_of_selects (args := #[]) (mvT hZ (hw _ (List.mem_of_getElem? (i := 35) rfl)))) (mvT hZ (hw _ (List.mem_of_getElem? (i := 35) rfl))) (mvT hZ (hw _ (List.mem_of_getElem? (i := 34) rfl))) (by decide) (backOf (W := 0) (own_rm7 l Z a0 hw [] b42 (0 : Int32) T69.heap n0 z69 fc69_0) hZ (hw _ (List.mem_of_getElem? (i := 36) rfl)) (hw _ (List.mem_of_getElem? (i := 2) rfl)) (by decide) (by decide)) q70a q70c (g := (mkF m 279 #[.val (.int xa), .val (.int xb), .val (.int xc), .val (.int xd), .val (.int xe), .val (.int xf), .val (.int (1 : Int32)), .val (.int w40), .val (.int w41), .val (.ref b42), .val (.int xa), .val (.int (0 : Int32)), .val (.int (0 : Int32)), .val (.int w46), .val (.ref b47), .val (.int (w46 + (1 : Int32))), .unset] [(.ref b42)])) rfl (by rw [hml]; rfl) (Steps.refl _) (argsL := []) (rest := []) (lenOf own_pd2 rfl) rfl (by show 2 * 0 + _ ≤ _; exact Nat.le_of_eq rfl) (hb hby at_279) (fun _ _ => ⟨rfl, rfl, (by decide : 3 + 0 ≤ _), (by decide : 14 + 0 ≤ _)⟩)
    dsimp only [Pt.U, Pt.locs, Pt.cells, Pt.slots] at X70 l70 y70 z70' st70 hQ70
    subst l70 y70 z70'
    obtain ⟨rfl, N70q, e70⟩ := hQ70
    have N70 := Fr.app M69 N70q
    refine own_tr st70 ?_
    clear st70 Y69
    obtain ⟨lq70, Y70, M70⟩ : ∃ lq, Stand p l e room_1 s m #[(.int xa), (.int xb), (.int xc), (.int xd), (.int xe), (.int xf)] below meth c T70 lq 3 14 ∧ Fr n0 lq := ⟨_, X70, N70⟩
    clear X70 N70
    show own_Go p e below _ (T70.setTop (mkF m 282 #[.val (.int xa), .val (.int xb), .val (.int xc), .val (.int xd), .val (.int xe), .val (.int xf), .val (.int (1 : Int32)), .val (.int w40), .val (.int w41), .val (.ref b42), .val (.int xa), .val (.int (0 : Int32)), .val (.int (0 : Int32)), .val (.int w46), .val (.ref b47), .val (.int (w46 + (1 : Int32))), .unset] [(.int (0 : Int32))]))
    refine own_by (fun _ => XS.ifNo Y70.here hx rfl (hb hby at_282) rfl ((if0 _ _).trans (teq (by decide : (0 : Int32) = (0 : Int32))).2)) ?_
    show own_Go p e below _ (T70.setTop (mkF m 285 #[.val (.int xa), .val (.int xb), .val (.int xc), .val (.int xd), .val (.int xe), .val (.int xf), .val (.int (1 : Int32)), .val (.int w40), .val (.int w41), .val (.ref b42), .val (.int xa), .val (.int (0 : Int32)), .val (.int (0 : Int32)), .val (.int w46), .val (.ref b47), .val (.int (w46 + (1 : Int32))), .unset] []))
    refine own_by (fun _ => XS.iconst Y70.here hx rfl (hb hby at_285)) ?_
    show own_Go p e below _ (T70.setTop (mkF m 286 #[.val (.int xa), .val (.int xb), .val (.int xc), .val (.int xd), .val (.int xe), .val (.int xf), .val (.int (1 : Int32)), .val (.int w40), .val (.int w41), .val (.ref b42), .val (.int xa), .val (.int (0 : Int32)), .val (.int (0 : Int32)), .val (.int w46), .val (.ref b47), .val (.int (w46 + (1 : Int32))), .unset] [(.int (1 : Int32))]))
    refine own_by (fun _ => XS.goto Y70.here hx rfl (pc0 := 286) (pc' := 290) rfl (hb hby at_286) (by decide) (by decide)) ?_
    show own_Go p e below _ (T70.setTop (mkF m 290 #[.val (.int xa), .val (.int xb), .val (.int xc), .val (.int xd), .val (.int xe), .val (.int xf), .val (.int (1 : Int32)), .val (.int w40), .val (.int w41), .val (.ref b42), .val (.int xa), .val (.int (0 : Int32)), .val (.int (0 : Int32)), .val (.int w46), .val (.ref b47), .val (.int (w46 + (1 : Int32))), .unset] [(.int (1 : Int32))]))
    refine own_by (fun _ => XS.istore Y70.here hx rfl (hb hby at_290) rfl (l' := #[.val (.int xa), .val (.int xb), .val (.int xc), .val (.int xd), .val (.int xe), .val (.int xf), .val (.int (1 : Int32)), .val (.int w40), .val (.int w41), .val (.ref b42), .val (.int xa), .val (.int (0 : Int32)), .val (.int (0 : Int32)), .val (.int w46), .val (.ref b47), .val (.int (w46 + (1 : Int32))), .val (.int (1 : Int32))]) rfl) ?_
    show own_Go p e below _ (T70.setTop (mkF m 292 #[.val (.int xa), .val (.int xb), .val (.int xc), .val (.int xd), .val (.int xe), .val (.int xf), .val (.int (1 : Int32)), .val (.int w40), .val (.int w41), .val (.ref b42), .val (.int xa), .val (.int (0 : Int32)), .val (.int (0 : Int32)), .val (.int w46), .val (.ref b47), .val (.int (w46 + (1 : Int32))), .val (.int (1 : Int32))] []))
    refine own_by (fun _ => XS.iload Y70.here hx rfl (hb hby at_292) rfl) ?_
    show own_Go p e below _ (T70.setTop (mkF m 294 #[.val (.int xa), .val (.int xb), .val (.int xc), .val (.int xd), .val (.int xe), .val (.int xf), .val (.int (1 : Int32)), .val (.int w40), .val (.int w41), .val (.ref b42), .val (.int xa), .val (.int (0 : Int32)), .val (.int (0 : Int32)), .val (.int w46), .val (.ref b47), .val (.int (w46 + (1 : Int32))), .val (.int (1 : Int32))] [(.int (1 : Int32))]))
    refine own_by (fun _ => XS.ifNo Y70.here hx rfl (hb hby at_294) rfl ((if0 _ _).trans (feq (by decide : ¬ ((1 : Int32) = (0 : Int32)))).1)) ?_
    show own_Go p e below _ (T70.setTop (mkF m 297 #[.val (.int xa), .val (.int xb), .val (.int xc), .val (.int xd), .val (.int xe), .val (.int xf), .val (.int (1 : Int32)), .val (.int w40), .val (.int w41), .val (.ref b42), .val (.int xa), .val (.int (0 : Int32)), .val (.int (0 : Int32)), .val (.int w46), .val (.ref b47), .val (.int (w46 + (1 : Int32))), .val (.int (1 : Int32))] []))
    refine own_by (fun _ => XS.aload Y70.here hx rfl (hb hby at_297) rfl rfl) ?_
    show own_Go p e below _ (T70.setTop (mkF m 299 #[.val (.int xa), .val (.int xb), .val (.int xc), .val (.int xd), .val (.int xe), .val (.int xf), .val (.int (1 : Int32)), .val (.int w40), .val (.int w41), .val (.ref b42), .val (.int xa), .val (.int (0 : Int32)), .val (.int (0 : Int32)), .val (.int w46), .val (.ref b47), .val (.int (w46 + (1 : Int32))), .val (.int (1 : Int32))] [(.ref b47)]))
    refine own_by (fun _ => XS.iconst Y70.here hx rfl (hb hby at_299)) ?_
    show own_Go p e below _ (T70.setTop (mkF m 300 #[.val (.int xa), .val (.int xb), .val (.int xc), .val (.int xd), .val (.int xe), .val (.int xf), .val (.int (1 : Int32)), .val (.int w40), .val (.int w41), .val (.ref b42), .val (.int xa), .val (.int (0 : Int32)), .val (.int (0 : Int32)), .val (.int w46), .val (.ref b47), .val (.int (w46 + (1 : Int32))), .val (.int (1 : Int32))] [(.int (0 : Int32)), (.ref b47)]))
    refine own_by (fun _ => XS.iload Y70.here hx rfl (hb hby at_300) rfl) ?_
    show own_Go p e below _ (T70.setTop (mkF m 302 #[.val (.int xa), .val (.int xb), .val (.int xc), .val (.int xd), .val (.int xe), .val (.int xf), .val (.int (1 : Int32)), .val (.int w40), .val (.int w41), .val (.ref b42), .val (.int xa), .val (.int (0 : Int32)), .val (.int (0 : Int32)), .val (.int w46), .val (.ref b47), .val (.int (w46 + (1 : Int32))), .val (.int (1 : Int32))] [(.int w46), (.int (0 : Int32)), (.ref b47)]))
    refine own_by (fun _ => XS.iload Y70.here hx rfl (hb hby at_302) rfl) ?_
    show own_Go p e below _ (T70.setTop (mkF m 304 #[.val (.int xa), .val (.int xb), .val (.int xc), .val (.int xd), .val (.int xe), .val (.int xf), .val (.int (1 : Int32)), .val (.int w40), .val (.int w41), .val (.ref b42), .val (.int xa), .val (.int (0 : Int32)), .val (.int (0 : Int32)), .val (.int w46), .val (.ref b47), .val (.int (w46 + (1 : Int32))), .val (.int (1 : Int32))] [(.int (1 : Int32)), (.int w46), (.int (0 : Int32)), (.ref b47)]))
    refine own_by (fun _ => XS.iload Y70.here hx rfl (hb hby at_304) rfl) ?_
    show own_Go p e below _ (T70.setTop (mkF m 306 #[.val (.int xa), .val (.int xb), .val (.int xc), .val (.int xd), .val (.int xe), .val (.int xf), .val (.int (1 : Int32)), .val (.int w40), .val (.int w41), .val (.ref b42), .val (.int xa), .val (.int (0 : Int32)), .val (.int (0 : Int32)), .val (.int w46), .val (.ref b47), .val (.int (w46 + (1 : Int32))), .val (.int (1 : Int32))] [(.int xa), (.int (1 : Int32)), (.int w46), (.int (0 : Int32)), (.ref b47)]))
    refine own_by (fun _ => XS.iload Y70.here hx rfl (hb hby at_306) rfl) ?_
    show own_Go p e below _ (T70.setTop (mkF m 308 #[.val (.int xa), .val (.int xb), .val (.int xc), .val (.int xd), .val (.int xe), .val (.int xf), .val (.int (1 : Int32)), .val (.int w40), .val (.int w41), .val (.ref b42), .val (.int xa), .val (.int (0 : Int32)), .val (.int (0 : Int32)), .val (.int w46), .val (.ref b47), .val (.int (w46 + (1 : Int32))), .val (.int (1 : Int32))] [(.int (0 : Int32)), (.int xa), (.int (1 : Int32)), (.int w46), (.int (0 : Int32)), (.ref b47)]))
    refine own_by (fun _ => XS.iload Y70.here hx rfl (hb hby at_308) rfl) ?_
    show own_Go p e below _ (T70.setTop (mkF m 310 #[.val (.int xa), .val (.int xb), .val (.int xc), .val (.int xd), .val (.int xe), .val (.int xf), .val (.int (1 : Int32)), .val (.int w40), .val (.int w41), .val (.ref b42), .val (.int xa), .val (.int (0 : Int32)), .val (.int (0 : Int32)), .val (.int w46), .val (.ref b47), .val (.int (w46 + (1 : Int32))), .val (.int (1 : Int32))] [(.int (0 : Int32)), (.int (0 : Int32)), (.int xa), (.int (1 : Int32)), (.int w46), (.int (0 : Int32)), (.ref b47)]))
    refine own_by (fun _ => XS.iload Y70.here hx rfl (hb hby at_310) rfl) ?_
    show own_Go p e below _ (T70.setTop (mkF m 312 #[.val (.int xa), .val (.int xb), .val (.int xc), .val (.int xd), .val (.int xe), .val (.int xf), .val (.int (1 : Int32)), .val (.int w40), .val (.int w41), .val (.ref b42), .val (.int xa), .val (.int (0 : Int32)), .val (.int (0 : Int32)), .val (.int w46), .val (.ref b47), .val (.int (w46 + (1 : Int32))), .val (.int (1 : Int32))] [(.int xe), (.int (0 : Int32)), (.int (0 : Int32)), (.int xa), (.int (1 : Int32)), (.int w46), (.int (0 : Int32)), (.ref b47)]))
    obtain ⟨_, _, ⟨T72, L72, k72, n72⟩, -, X72, ⟨Lc72, hQ72, l72, y72, z72'⟩, st72⟩ := Jvm.LawKit.callS Y70 hx (y := (⟨"com/example/bucketsplit/bucketsplit/core/PageTakeAllPinLaw", "slot", "([IIIIIIII)Z"⟩ : MethodName)) hown (mvT hZ (hw _ (List.mem_of_getElem? (i := 37) rfl))) (mvT hZ (hw _ (List.mem_of_getElem? (i := 38) rfl))) (mvT hZ (hw _ (List.mem_of_getElem? (i := 39) rfl))) (mvT hZ (hw _ (List.mem_of_getElem? (i := 40) rfl))) (by decide) (backOf (W := 0) (own_rm8 l Z a0 hw [] b47 (0 : Int32) w46 (1 : Int32) xa (0 : Int32) (0 : Int32) xe k47 ls69_1 T69.heap n0 z69 fc69_1 (by decide : ¬ ((0 : Int32) < (0 : Int32))) (by decide : (0 : Int32) < (8 : Int32))) hZ (hw _ (List.mem_of_getElem? (i := 40) rfl)) (hw _ (List.mem_of_getElem? (i := 39) rfl)) (by decide) (by decide)) (g := (mkF m 312 #[.val (.int xa), .val (.int xb), .val (.int xc), .val (.int xd), .val (.int xe), .val (.int xf), .val (.int (1 : Int32)), .val (.int w40), .val (.int w41), .val (.ref b42), .val (.int xa), .val (.int (0 : Int32)), .val (.int (0 : Int32)), .val (.int w46), .val (.ref b47), .val (.int (w46 + (1 : Int32))), .val (.int (1 : Int32))] [(.int xe), (.int (0 : Int32)), (.int (0 : Int32)), (.int xa), (.int (1 : Int32)), (.int w46), (.int (0 : Int32)), (.ref b47)])) rfl (by rw [hml]; rfl) (argsL := [(.ref b47), (.int (0 : Int32)), (.int w46), (.int (1 : Int32)), (.int xa), (.int (0 : Int32)), (.int (0 : Int32)), (.int xe)]) (rest := []) (lenOf own_pd3 rfl) rfl (by show 2 * 0 + _ ≤ _; exact Nat.le_of_eq rfl) (hb hby at_312) (fun _ _ => ⟨rfl, e70, (by decide : 3 + 0 ≤ _), (by decide : 14 + 0 ≤ _)⟩)
    dsimp only [Pt.U, Pt.locs, Pt.cells, Pt.slots] at X72 l72 y72 z72' st72 hQ72
    subst l72 y72 z72'
    obtain ⟨rfl, N72q, e72⟩ := hQ72
    have N72 := Fr.app M70 N72q
    refine own_by st72 ?_
    clear st72 Y70
    obtain ⟨lq72, Y72, M72⟩ : ∃ lq, Stand p l e room_1 s m #[(.int xa), (.int xb), (.int xc), (.int xd), (.int xe), (.int xf)] below meth c T72 lq 3 14 ∧ Fr n0 lq := ⟨_, X72, N72⟩
    clear X72 N72
    show own_Go p e below _ (T72.setTop (mkF m 315 #[.val (.int xa), .val (.int xb), .val (.int xc), .val (.int xd), .val (.int xe), .val (.int xf), .val (.int (1 : Int32)), .val (.int w40), .val (.int w41), .val (.ref b42), .val (.int xa), .val (.int (0 : Int32)), .val (.int (0 : Int32)), .val (.int w46), .val (.ref b47), .val (.int (w46 + (1 : Int32))), .val (.int (1 : Int32))] [(.int (own_slot (0 : Int32) w46 (1 : Int32) xa (0 : Int32) (0 : Int32) xe ls69_1))]))
    refine own_by (fun _ => XS.ifNo Y72.here hx rfl (hb hby at_315) rfl ((if0 _ _).trans (feq (own_no0 (own_sl1 xe xa w46 (0 : Int32) hls69_1 (own_at1 hw46) (by decide)))).1)) ?_
    show own_Go p e below _ (T72.setTop (mkF m 318 #[.val (.int xa), .val (.int xb), .val (.int xc), .val (.int xd), .val (.int xe), .val (.int xf), .val (.int (1 : Int32)), .val (.int w40), .val (.int w41), .val (.ref b42), .val (.int xa), .val (.int (0 : Int32)), .val (.int (0 : Int32)), .val (.int w46), .val (.ref b47), .val (.int (w46 + (1 : Int32))), .val (.int (1 : Int32))] []))
    refine own_by (fun _ => XS.iconst Y72.here hx rfl (hb hby at_318)) ?_
    show own_Go p e below _ (T72.setTop (mkF m 319 #[.val (.int xa), .val (.int xb), .val (.int xc), .val (.int xd), .val (.int xe), .val (.int xf), .val (.int (1 : Int32)), .val (.int w40), .val (.int w41), .val (.ref b42), .val (.int xa), .val (.int (0 : Int32)), .val (.int (0 : Int32)), .val (.int w46), .val (.ref b47), .val (.int (w46 + (1 : Int32))), .val (.int (1 : Int32))] [(.int (1 : Int32))]))
    refine own_by (fun _ => XS.goto Y72.here hx rfl (pc0 := 319) (pc' := 323) rfl (hb hby at_319) (by decide) (by decide)) ?_
    show own_Go p e below _ (T72.setTop (mkF m 323 #[.val (.int xa), .val (.int xb), .val (.int xc), .val (.int xd), .val (.int xe), .val (.int xf), .val (.int (1 : Int32)), .val (.int w40), .val (.int w41), .val (.ref b42), .val (.int xa), .val (.int (0 : Int32)), .val (.int (0 : Int32)), .val (.int w46), .val (.ref b47), .val (.int (w46 + (1 : Int32))), .val (.int (1 : Int32))] [(.int (1 : Int32))]))
    refine own_by (fun _ => XS.istore Y72.here hx rfl (hb hby at_323) rfl (l' := #[.val (.int xa), .val (.int xb), .val (.int xc), .val (.int xd), .val (.int xe), .val (.int xf), .val (.int (1 : Int32)), .val (.int w40), .val (.int w41), .val (.ref b42), .val (.int xa), .val (.int (0 : Int32)), .val (.int (0 : Int32)), .val (.int w46), .val (.ref b47), .val (.int (w46 + (1 : Int32))), .val (.int (1 : Int32))]) rfl) ?_
    show own_Go p e below _ (T72.setTop (mkF m 325 #[.val (.int xa), .val (.int xb), .val (.int xc), .val (.int xd), .val (.int xe), .val (.int xf), .val (.int (1 : Int32)), .val (.int w40), .val (.int w41), .val (.ref b42), .val (.int xa), .val (.int (0 : Int32)), .val (.int (0 : Int32)), .val (.int w46), .val (.ref b47), .val (.int (w46 + (1 : Int32))), .val (.int (1 : Int32))] []))
    refine own_by (fun _ => XS.iload Y72.here hx rfl (hb hby at_325) rfl) ?_
    show own_Go p e below _ (T72.setTop (mkF m 327 #[.val (.int xa), .val (.int xb), .val (.int xc), .val (.int xd), .val (.int xe), .val (.int xf), .val (.int (1 : Int32)), .val (.int w40), .val (.int w41), .val (.ref b42), .val (.int xa), .val (.int (0 : Int32)), .val (.int (0 : Int32)), .val (.int w46), .val (.ref b47), .val (.int (w46 + (1 : Int32))), .val (.int (1 : Int32))] [(.int (1 : Int32))]))
    refine own_by (fun _ => XS.ifNo Y72.here hx rfl (hb hby at_327) rfl ((if0 _ _).trans (feq (by decide : ¬ ((1 : Int32) = (0 : Int32)))).1)) ?_
    show own_Go p e below _ (T72.setTop (mkF m 330 #[.val (.int xa), .val (.int xb), .val (.int xc), .val (.int xd), .val (.int xe), .val (.int xf), .val (.int (1 : Int32)), .val (.int w40), .val (.int w41), .val (.ref b42), .val (.int xa), .val (.int (0 : Int32)), .val (.int (0 : Int32)), .val (.int w46), .val (.ref b47), .val (.int (w46 + (1 : Int32))), .val (.int (1 : Int32))] []))
    refine own_by (fun _ => XS.aload Y72.here hx rfl (hb hby at_330) rfl rfl) ?_
    show own_Go p e below _ (T72.setTop (mkF m 332 #[.val (.int xa), .val (.int xb), .val (.int xc), .val (.int xd), .val (.int xe), .val (.int xf), .val (.int (1 : Int32)), .val (.int w40), .val (.int w41), .val (.ref b42), .val (.int xa), .val (.int (0 : Int32)), .val (.int (0 : Int32)), .val (.int w46), .val (.ref b47), .val (.int (w46 + (1 : Int32))), .val (.int (1 : Int32))] [(.ref b47)]))
    refine own_by (fun _ => XS.iconst Y72.here hx rfl (hb hby at_332)) ?_
    show own_Go p e below _ (T72.setTop (mkF m 333 #[.val (.int xa), .val (.int xb), .val (.int xc), .val (.int xd), .val (.int xe), .val (.int xf), .val (.int (1 : Int32)), .val (.int w40), .val (.int w41), .val (.ref b42), .val (.int xa), .val (.int (0 : Int32)), .val (.int (0 : Int32)), .val (.int w46), .val (.ref b47), .val (.int (w46 + (1 : Int32))), .val (.int (1 : Int32))] [(.int (1 : Int32)), (.ref b47)]))
    refine own_by (fun _ => XS.iload Y72.here hx rfl (hb hby at_333) rfl) ?_
    show own_Go p e below _ (T72.setTop (mkF m 335 #[.val (.int xa), .val (.int xb), .val (.int xc), .val (.int xd), .val (.int xe), .val (.int xf), .val (.int (1 : Int32)), .val (.int w40), .val (.int w41), .val (.ref b42), .val (.int xa), .val (.int (0 : Int32)), .val (.int (0 : Int32)), .val (.int w46), .val (.ref b47), .val (.int (w46 + (1 : Int32))), .val (.int (1 : Int32))] [(.int w46), (.int (1 : Int32)), (.ref b47)]))
    refine own_by (fun _ => XS.iload Y72.here hx rfl (hb hby at_335) rfl) ?_
    show own_Go p e below _ (T72.setTop (mkF m 337 #[.val (.int xa), .val (.int xb), .val (.int xc), .val (.int xd), .val (.int xe), .val (.int xf), .val (.int (1 : Int32)), .val (.int w40), .val (.int w41), .val (.ref b42), .val (.int xa), .val (.int (0 : Int32)), .val (.int (0 : Int32)), .val (.int w46), .val (.ref b47), .val (.int (w46 + (1 : Int32))), .val (.int (1 : Int32))] [(.int (1 : Int32)), (.int w46), (.int (1 : Int32)), (.ref b47)]))
    refine own_by (fun _ => XS.iload Y72.here hx rfl (hb hby at_337) rfl) ?_
    show own_Go p e below _ (T72.setTop (mkF m 339 #[.val (.int xa), .val (.int xb), .val (.int xc), .val (.int xd), .val (.int xe), .val (.int xf), .val (.int (1 : Int32)), .val (.int w40), .val (.int w41), .val (.ref b42), .val (.int xa), .val (.int (0 : Int32)), .val (.int (0 : Int32)), .val (.int w46), .val (.ref b47), .val (.int (w46 + (1 : Int32))), .val (.int (1 : Int32))] [(.int xa), (.int (1 : Int32)), (.int w46), (.int (1 : Int32)), (.ref b47)]))
    refine own_by (fun _ => XS.iload Y72.here hx rfl (hb hby at_339) rfl) ?_
    show own_Go p e below _ (T72.setTop (mkF m 341 #[.val (.int xa), .val (.int xb), .val (.int xc), .val (.int xd), .val (.int xe), .val (.int xf), .val (.int (1 : Int32)), .val (.int w40), .val (.int w41), .val (.ref b42), .val (.int xa), .val (.int (0 : Int32)), .val (.int (0 : Int32)), .val (.int w46), .val (.ref b47), .val (.int (w46 + (1 : Int32))), .val (.int (1 : Int32))] [(.int (0 : Int32)), (.int xa), (.int (1 : Int32)), (.int w46), (.int (1 : Int32)), (.ref b47)]))
    refine own_by (fun _ => XS.iload Y72.here hx rfl (hb hby at_341) rfl) ?_
    show own_Go p e below _ (T72.setTop (mkF m 343 #[.val (.int xa), .val (.int xb), .val (.int xc), .val (.int xd), .val (.int xe), .val (.int xf), .val (.int (1 : Int32)), .val (.int w40), .val (.int w41), .val (.ref b42), .val (.int xa), .val (.int (0 : Int32)), .val (.int (0 : Int32)), .val (.int w46), .val (.ref b47), .val (.int (w46 + (1 : Int32))), .val (.int (1 : Int32))] [(.int (0 : Int32)), (.int (0 : Int32)), (.int xa), (.int (1 : Int32)), (.int w46), (.int (1 : Int32)), (.ref b47)]))
    refine own_by (fun _ => XS.iload Y72.here hx rfl (hb hby at_343) rfl) ?_
    show own_Go p e below _ (T72.setTop (mkF m 345 #[.val (.int xa), .val (.int xb), .val (.int xc), .val (.int xd), .val (.int xe), .val (.int xf), .val (.int (1 : Int32)), .val (.int w40), .val (.int w41), .val (.ref b42), .val (.int xa), .val (.int (0 : Int32)), .val (.int (0 : Int32)), .val (.int w46), .val (.ref b47), .val (.int (w46 + (1 : Int32))), .val (.int (1 : Int32))] [(.int xe), (.int (0 : Int32)), (.int (0 : Int32)), (.int xa), (.int (1 : Int32)), (.int w46), (.int (1 : Int32)), (.ref b47)]))
    obtain ⟨_, _, ⟨T73, L73, k73, n73⟩, -, X73, ⟨Lc73, hQ73, l73, y73, z73'⟩, st73⟩ := Jvm.LawKit.callS Y72 hx (y := (⟨"com/example/bucketsplit/bucketsplit/core/PageTakeAllPinLaw", "slot", "([IIIIIIII)Z"⟩ : MethodName)) hown (mvT hZ (hw _ (List.mem_of_getElem? (i := 37) rfl))) (mvT hZ (hw _ (List.mem_of_getElem? (i := 38) rfl))) (mvT hZ (hw _ (List.mem_of_getElem? (i := 39) rfl))) (mvT hZ (hw _ (List.mem_of_getElem? (i := 40) rfl))) (by decide) (backOf (W := 0) (own_rm8 l Z a0 hw [] b47 (1 : Int32) w46 (1 : Int32) xa (0 : Int32) (0 : Int32) xe k47 ls69_1 T69.heap n0 z69 fc69_1 (by decide : ¬ ((1 : Int32) < (0 : Int32))) (by decide : (1 : Int32) < (8 : Int32))) hZ (hw _ (List.mem_of_getElem? (i := 40) rfl)) (hw _ (List.mem_of_getElem? (i := 39) rfl)) (by decide) (by decide)) (g := (mkF m 345 #[.val (.int xa), .val (.int xb), .val (.int xc), .val (.int xd), .val (.int xe), .val (.int xf), .val (.int (1 : Int32)), .val (.int w40), .val (.int w41), .val (.ref b42), .val (.int xa), .val (.int (0 : Int32)), .val (.int (0 : Int32)), .val (.int w46), .val (.ref b47), .val (.int (w46 + (1 : Int32))), .val (.int (1 : Int32))] [(.int xe), (.int (0 : Int32)), (.int (0 : Int32)), (.int xa), (.int (1 : Int32)), (.int w46), (.int (1 : Int32)), (.ref b47)])) rfl (by rw [hml]; rfl) (argsL := [(.ref b47), (.int (1 : Int32)), (.int w46), (.int (1 : Int32)), (.int xa), (.int (0 : Int32)), (.int (0 : Int32)), (.int xe)]) (rest := []) (lenOf own_pd3 rfl) rfl (by show 2 * 0 + _ ≤ _; exact Nat.le_of_eq rfl) (hb hby at_345) (fun _ _ => ⟨rfl, e72, (by decide : 3 + 0 ≤ _), (by decide : 14 + 0 ≤ _)⟩)
    dsimp only [Pt.U, Pt.locs, Pt.cells, Pt.slots] at X73 l73 y73 z73' st73 hQ73
    subst l73 y73 z73'
    obtain ⟨rfl, N73q, e73⟩ := hQ73
    have N73 := Fr.app M72 N73q
    refine own_by st73 ?_
    clear st73 Y72
    obtain ⟨lq73, Y73, M73⟩ : ∃ lq, Stand p l e room_1 s m #[(.int xa), (.int xb), (.int xc), (.int xd), (.int xe), (.int xf)] below meth c T73 lq 3 14 ∧ Fr n0 lq := ⟨_, X73, N73⟩
    clear X73 N73
    show own_Go p e below _ (T73.setTop (mkF m 348 #[.val (.int xa), .val (.int xb), .val (.int xc), .val (.int xd), .val (.int xe), .val (.int xf), .val (.int (1 : Int32)), .val (.int w40), .val (.int w41), .val (.ref b42), .val (.int xa), .val (.int (0 : Int32)), .val (.int (0 : Int32)), .val (.int w46), .val (.ref b47), .val (.int (w46 + (1 : Int32))), .val (.int (1 : Int32))] [(.int (own_slot (1 : Int32) w46 (1 : Int32) xa (0 : Int32) (0 : Int32) xe ls69_1))]))
    refine own_by (fun _ => XS.ifNo Y73.here hx rfl (hb hby at_348) rfl ((if0 _ _).trans (feq (own_no0 (own_sl1 xe xa w46 (1 : Int32) hls69_1 (own_at1 hw46) (by decide)))).1)) ?_
    show own_Go p e below _ (T73.setTop (mkF m 351 #[.val (.int xa), .val (.int xb), .val (.int xc), .val (.int xd), .val (.int xe), .val (.int xf), .val (.int (1 : Int32)), .val (.int w40), .val (.int w41), .val (.ref b42), .val (.int xa), .val (.int (0 : Int32)), .val (.int (0 : Int32)), .val (.int w46), .val (.ref b47), .val (.int (w46 + (1 : Int32))), .val (.int (1 : Int32))] []))
    refine own_by (fun _ => XS.iconst Y73.here hx rfl (hb hby at_351)) ?_
    show own_Go p e below _ (T73.setTop (mkF m 352 #[.val (.int xa), .val (.int xb), .val (.int xc), .val (.int xd), .val (.int xe), .val (.int xf), .val (.int (1 : Int32)), .val (.int w40), .val (.int w41), .val (.ref b42), .val (.int xa), .val (.int (0 : Int32)), .val (.int (0 : Int32)), .val (.int w46), .val (.ref b47), .val (.int (w46 + (1 : Int32))), .val (.int (1 : Int32))] [(.int (1 : Int32))]))
    refine own_by (fun _ => XS.goto Y73.here hx rfl (pc0 := 352) (pc' := 356) rfl (hb hby at_352) (by decide) (by decide)) ?_
    show own_Go p e below _ (T73.setTop (mkF m 356 #[.val (.int xa), .val (.int xb), .val (.int xc), .val (.int xd), .val (.int xe), .val (.int xf), .val (.int (1 : Int32)), .val (.int w40), .val (.int w41), .val (.ref b42), .val (.int xa), .val (.int (0 : Int32)), .val (.int (0 : Int32)), .val (.int w46), .val (.ref b47), .val (.int (w46 + (1 : Int32))), .val (.int (1 : Int32))] [(.int (1 : Int32))]))
    refine own_by (fun _ => XS.istore Y73.here hx rfl (hb hby at_356) rfl (l' := #[.val (.int xa), .val (.int xb), .val (.int xc), .val (.int xd), .val (.int xe), .val (.int xf), .val (.int (1 : Int32)), .val (.int w40), .val (.int w41), .val (.ref b42), .val (.int xa), .val (.int (0 : Int32)), .val (.int (0 : Int32)), .val (.int w46), .val (.ref b47), .val (.int (w46 + (1 : Int32))), .val (.int (1 : Int32))]) rfl) ?_
    show own_Go p e below _ (T73.setTop (mkF m 358 #[.val (.int xa), .val (.int xb), .val (.int xc), .val (.int xd), .val (.int xe), .val (.int xf), .val (.int (1 : Int32)), .val (.int w40), .val (.int w41), .val (.ref b42), .val (.int xa), .val (.int (0 : Int32)), .val (.int (0 : Int32)), .val (.int w46), .val (.ref b47), .val (.int (w46 + (1 : Int32))), .val (.int (1 : Int32))] []))
    refine own_by (fun _ => XS.iload Y73.here hx rfl (hb hby at_358) rfl) ?_
    show own_Go p e below _ (T73.setTop (mkF m 360 #[.val (.int xa), .val (.int xb), .val (.int xc), .val (.int xd), .val (.int xe), .val (.int xf), .val (.int (1 : Int32)), .val (.int w40), .val (.int w41), .val (.ref b42), .val (.int xa), .val (.int (0 : Int32)), .val (.int (0 : Int32)), .val (.int w46), .val (.ref b47), .val (.int (w46 + (1 : Int32))), .val (.int (1 : Int32))] [(.int (1 : Int32))]))
    refine own_by (fun _ => XS.ifNo Y73.here hx rfl (hb hby at_360) rfl ((if0 _ _).trans (feq (by decide : ¬ ((1 : Int32) = (0 : Int32)))).1)) ?_
    show own_Go p e below _ (T73.setTop (mkF m 363 #[.val (.int xa), .val (.int xb), .val (.int xc), .val (.int xd), .val (.int xe), .val (.int xf), .val (.int (1 : Int32)), .val (.int w40), .val (.int w41), .val (.ref b42), .val (.int xa), .val (.int (0 : Int32)), .val (.int (0 : Int32)), .val (.int w46), .val (.ref b47), .val (.int (w46 + (1 : Int32))), .val (.int (1 : Int32))] []))
    refine own_by (fun _ => XS.aload Y73.here hx rfl (hb hby at_363) rfl rfl) ?_
    show own_Go p e below _ (T73.setTop (mkF m 365 #[.val (.int xa), .val (.int xb), .val (.int xc), .val (.int xd), .val (.int xe), .val (.int xf), .val (.int (1 : Int32)), .val (.int w40), .val (.int w41), .val (.ref b42), .val (.int xa), .val (.int (0 : Int32)), .val (.int (0 : Int32)), .val (.int w46), .val (.ref b47), .val (.int (w46 + (1 : Int32))), .val (.int (1 : Int32))] [(.ref b47)]))
    refine own_by (fun _ => XS.iconst Y73.here hx rfl (hb hby at_365)) ?_
    show own_Go p e below _ (T73.setTop (mkF m 366 #[.val (.int xa), .val (.int xb), .val (.int xc), .val (.int xd), .val (.int xe), .val (.int xf), .val (.int (1 : Int32)), .val (.int w40), .val (.int w41), .val (.ref b42), .val (.int xa), .val (.int (0 : Int32)), .val (.int (0 : Int32)), .val (.int w46), .val (.ref b47), .val (.int (w46 + (1 : Int32))), .val (.int (1 : Int32))] [(.int (2 : Int32)), (.ref b47)]))
    refine own_by (fun _ => XS.iload Y73.here hx rfl (hb hby at_366) rfl) ?_
    show own_Go p e below _ (T73.setTop (mkF m 368 #[.val (.int xa), .val (.int xb), .val (.int xc), .val (.int xd), .val (.int xe), .val (.int xf), .val (.int (1 : Int32)), .val (.int w40), .val (.int w41), .val (.ref b42), .val (.int xa), .val (.int (0 : Int32)), .val (.int (0 : Int32)), .val (.int w46), .val (.ref b47), .val (.int (w46 + (1 : Int32))), .val (.int (1 : Int32))] [(.int w46), (.int (2 : Int32)), (.ref b47)]))
    refine own_by (fun _ => XS.iload Y73.here hx rfl (hb hby at_368) rfl) ?_
    show own_Go p e below _ (T73.setTop (mkF m 370 #[.val (.int xa), .val (.int xb), .val (.int xc), .val (.int xd), .val (.int xe), .val (.int xf), .val (.int (1 : Int32)), .val (.int w40), .val (.int w41), .val (.ref b42), .val (.int xa), .val (.int (0 : Int32)), .val (.int (0 : Int32)), .val (.int w46), .val (.ref b47), .val (.int (w46 + (1 : Int32))), .val (.int (1 : Int32))] [(.int (1 : Int32)), (.int w46), (.int (2 : Int32)), (.ref b47)]))
    refine own_by (fun _ => XS.iload Y73.here hx rfl (hb hby at_370) rfl) ?_
    show own_Go p e below _ (T73.setTop (mkF m 372 #[.val (.int xa), .val (.int xb), .val (.int xc), .val (.int xd), .val (.int xe), .val (.int xf), .val (.int (1 : Int32)), .val (.int w40), .val (.int w41), .val (.ref b42), .val (.int xa), .val (.int (0 : Int32)), .val (.int (0 : Int32)), .val (.int w46), .val (.ref b47), .val (.int (w46 + (1 : Int32))), .val (.int (1 : Int32))] [(.int xa), (.int (1 : Int32)), (.int w46), (.int (2 : Int32)), (.ref b47)]))
    refine own_by (fun _ => XS.iload Y73.here hx rfl (hb hby at_372) rfl) ?_
    show own_Go p e below _ (T73.setTop (mkF m 374 #[.val (.int xa), .val (.int xb), .val (.int xc), .val (.int xd), .val (.int xe), .val (.int xf), .val (.int (1 : Int32)), .val (.int w40), .val (.int w41), .val (.ref b42), .val (.int xa), .val (.int (0 : Int32)), .val (.int (0 : Int32)), .val (.int w46), .val (.ref b47), .val (.int (w46 + (1 : Int32))), .val (.int (1 : Int32))] [(.int (0 : Int32)), (.int xa), (.int (1 : Int32)), (.int w46), (.int (2 : Int32)), (.ref b47)]))
    refine own_by (fun _ => XS.iload Y73.here hx rfl (hb hby at_374) rfl) ?_
    show own_Go p e below _ (T73.setTop (mkF m 376 #[.val (.int xa), .val (.int xb), .val (.int xc), .val (.int xd), .val (.int xe), .val (.int xf), .val (.int (1 : Int32)), .val (.int w40), .val (.int w41), .val (.ref b42), .val (.int xa), .val (.int (0 : Int32)), .val (.int (0 : Int32)), .val (.int w46), .val (.ref b47), .val (.int (w46 + (1 : Int32))), .val (.int (1 : Int32))] [(.int (0 : Int32)), (.int (0 : Int32)), (.int xa), (.int (1 : Int32)), (.int w46), (.int (2 : Int32)), (.ref b47)]))
    refine own_by (fun _ => XS.iload Y73.here hx rfl (hb hby at_376) rfl) ?_
    show own_Go p e below _ (T73.setTop (mkF m 378 #[.val (.int xa), .val (.int xb), .val (.int xc), .val (.int xd), .val (.int xe), .val (.int xf), .val (.int (1 : Int32)), .val (.int w40), .val (.int w41), .val (.ref b42), .val (.int xa), .val (.int (0 : Int32)), .val (.int (0 : Int32)), .val (.int w46), .val (.ref b47), .val (.int (w46 + (1 : Int32))), .val (.int (1 : Int32))] [(.int xe), (.int (0 : Int32)), (.int (0 : Int32)), (.int xa), (.int (1 : Int32)), (.int w46), (.int (2 : Int32)), (.ref b47)]))
    obtain ⟨_, _, ⟨T74, L74, k74, n74⟩, -, X74, ⟨Lc74, hQ74, l74, y74, z74'⟩, st74⟩ := Jvm.LawKit.callS Y73 hx (y := (⟨"com/example/bucketsplit/bucketsplit/core/PageTakeAllPinLaw", "slot", "([IIIIIIII)Z"⟩ : MethodName)) hown (mvT hZ (hw _ (List.mem_of_getElem? (i := 37) rfl))) (mvT hZ (hw _ (List.mem_of_getElem? (i := 38) rfl))) (mvT hZ (hw _ (List.mem_of_getElem? (i := 39) rfl))) (mvT hZ (hw _ (List.mem_of_getElem? (i := 40) rfl))) (by decide) (backOf (W := 0) (own_rm8 l Z a0 hw [] b47 (2 : Int32) w46 (1 : Int32) xa (0 : Int32) (0 : Int32) xe k47 ls69_1 T69.heap n0 z69 fc69_1 (by decide : ¬ ((2 : Int32) < (0 : Int32))) (by decide : (2 : Int32) < (8 : Int32))) hZ (hw _ (List.mem_of_getElem? (i := 40) rfl)) (hw _ (List.mem_of_getElem? (i := 39) rfl)) (by decide) (by decide)) (g := (mkF m 378 #[.val (.int xa), .val (.int xb), .val (.int xc), .val (.int xd), .val (.int xe), .val (.int xf), .val (.int (1 : Int32)), .val (.int w40), .val (.int w41), .val (.ref b42), .val (.int xa), .val (.int (0 : Int32)), .val (.int (0 : Int32)), .val (.int w46), .val (.ref b47), .val (.int (w46 + (1 : Int32))), .val (.int (1 : Int32))] [(.int xe), (.int (0 : Int32)), (.int (0 : Int32)), (.int xa), (.int (1 : Int32)), (.int w46), (.int (2 : Int32)), (.ref b47)])) rfl (by rw [hml]; rfl) (argsL := [(.ref b47), (.int (2 : Int32)), (.int w46), (.int (1 : Int32)), (.int xa), (.int (0 : Int32)), (.int (0 : Int32)), (.int xe)]) (rest := []) (lenOf own_pd3 rfl) rfl (by show 2 * 0 + _ ≤ _; exact Nat.le_of_eq rfl) (hb hby at_378) (fun _ _ => ⟨rfl, e73, (by decide : 3 + 0 ≤ _), (by decide : 14 + 0 ≤ _)⟩)
    dsimp only [Pt.U, Pt.locs, Pt.cells, Pt.slots] at X74 l74 y74 z74' st74 hQ74
    subst l74 y74 z74'
    obtain ⟨rfl, N74q, e74⟩ := hQ74
    have N74 := Fr.app M73 N74q
    refine own_by st74 ?_
    clear st74 Y73
    obtain ⟨lq74, Y74, M74⟩ : ∃ lq, Stand p l e room_1 s m #[(.int xa), (.int xb), (.int xc), (.int xd), (.int xe), (.int xf)] below meth c T74 lq 3 14 ∧ Fr n0 lq := ⟨_, X74, N74⟩
    clear X74 N74
    show own_Go p e below _ (T74.setTop (mkF m 381 #[.val (.int xa), .val (.int xb), .val (.int xc), .val (.int xd), .val (.int xe), .val (.int xf), .val (.int (1 : Int32)), .val (.int w40), .val (.int w41), .val (.ref b42), .val (.int xa), .val (.int (0 : Int32)), .val (.int (0 : Int32)), .val (.int w46), .val (.ref b47), .val (.int (w46 + (1 : Int32))), .val (.int (1 : Int32))] [(.int (own_slot (2 : Int32) w46 (1 : Int32) xa (0 : Int32) (0 : Int32) xe ls69_1))]))
    refine own_by (fun _ => XS.ifNo Y74.here hx rfl (hb hby at_381) rfl ((if0 _ _).trans (feq (own_no0 (own_sl1 xe xa w46 (2 : Int32) hls69_1 (own_at1 hw46) (by decide)))).1)) ?_
    show own_Go p e below _ (T74.setTop (mkF m 384 #[.val (.int xa), .val (.int xb), .val (.int xc), .val (.int xd), .val (.int xe), .val (.int xf), .val (.int (1 : Int32)), .val (.int w40), .val (.int w41), .val (.ref b42), .val (.int xa), .val (.int (0 : Int32)), .val (.int (0 : Int32)), .val (.int w46), .val (.ref b47), .val (.int (w46 + (1 : Int32))), .val (.int (1 : Int32))] []))
    refine own_by (fun _ => XS.iconst Y74.here hx rfl (hb hby at_384)) ?_
    show own_Go p e below _ (T74.setTop (mkF m 385 #[.val (.int xa), .val (.int xb), .val (.int xc), .val (.int xd), .val (.int xe), .val (.int xf), .val (.int (1 : Int32)), .val (.int w40), .val (.int w41), .val (.ref b42), .val (.int xa), .val (.int (0 : Int32)), .val (.int (0 : Int32)), .val (.int w46), .val (.ref b47), .val (.int (w46 + (1 : Int32))), .val (.int (1 : Int32))] [(.int (1 : Int32))]))
    refine own_by (fun _ => XS.goto Y74.here hx rfl (pc0 := 385) (pc' := 389) rfl (hb hby at_385) (by decide) (by decide)) ?_
    show own_Go p e below _ (T74.setTop (mkF m 389 #[.val (.int xa), .val (.int xb), .val (.int xc), .val (.int xd), .val (.int xe), .val (.int xf), .val (.int (1 : Int32)), .val (.int w40), .val (.int w41), .val (.ref b42), .val (.int xa), .val (.int (0 : Int32)), .val (.int (0 : Int32)), .val (.int w46), .val (.ref b47), .val (.int (w46 + (1 : Int32))), .val (.int (1 : Int32))] [(.int (1 : Int32))]))
    refine own_by (fun _ => XS.istore Y74.here hx rfl (hb hby at_389) rfl (l' := #[.val (.int xa), .val (.int xb), .val (.int xc), .val (.int xd), .val (.int xe), .val (.int xf), .val (.int (1 : Int32)), .val (.int w40), .val (.int w41), .val (.ref b42), .val (.int xa), .val (.int (0 : Int32)), .val (.int (0 : Int32)), .val (.int w46), .val (.ref b47), .val (.int (w46 + (1 : Int32))), .val (.int (1 : Int32))]) rfl) ?_
    show own_Go p e below _ (T74.setTop (mkF m 391 #[.val (.int xa), .val (.int xb), .val (.int xc), .val (.int xd), .val (.int xe), .val (.int xf), .val (.int (1 : Int32)), .val (.int w40), .val (.int w41), .val (.ref b42), .val (.int xa), .val (.int (0 : Int32)), .val (.int (0 : Int32)), .val (.int w46), .val (.ref b47), .val (.int (w46 + (1 : Int32))), .val (.int (1 : Int32))] []))
    refine own_by (fun _ => XS.iload Y74.here hx rfl (hb hby at_391) rfl) ?_
    show own_Go p e below _ (T74.setTop (mkF m 393 #[.val (.int xa), .val (.int xb), .val (.int xc), .val (.int xd), .val (.int xe), .val (.int xf), .val (.int (1 : Int32)), .val (.int w40), .val (.int w41), .val (.ref b42), .val (.int xa), .val (.int (0 : Int32)), .val (.int (0 : Int32)), .val (.int w46), .val (.ref b47), .val (.int (w46 + (1 : Int32))), .val (.int (1 : Int32))] [(.int (1 : Int32))]))
    refine own_by (fun _ => XS.ifNo Y74.here hx rfl (hb hby at_393) rfl ((if0 _ _).trans (feq (by decide : ¬ ((1 : Int32) = (0 : Int32)))).1)) ?_
    show own_Go p e below _ (T74.setTop (mkF m 396 #[.val (.int xa), .val (.int xb), .val (.int xc), .val (.int xd), .val (.int xe), .val (.int xf), .val (.int (1 : Int32)), .val (.int w40), .val (.int w41), .val (.ref b42), .val (.int xa), .val (.int (0 : Int32)), .val (.int (0 : Int32)), .val (.int w46), .val (.ref b47), .val (.int (w46 + (1 : Int32))), .val (.int (1 : Int32))] []))
    refine own_by (fun _ => XS.aload Y74.here hx rfl (hb hby at_396) rfl rfl) ?_
    show own_Go p e below _ (T74.setTop (mkF m 398 #[.val (.int xa), .val (.int xb), .val (.int xc), .val (.int xd), .val (.int xe), .val (.int xf), .val (.int (1 : Int32)), .val (.int w40), .val (.int w41), .val (.ref b42), .val (.int xa), .val (.int (0 : Int32)), .val (.int (0 : Int32)), .val (.int w46), .val (.ref b47), .val (.int (w46 + (1 : Int32))), .val (.int (1 : Int32))] [(.ref b47)]))
    refine own_by (fun _ => XS.iconst Y74.here hx rfl (hb hby at_398)) ?_
    show own_Go p e below _ (T74.setTop (mkF m 399 #[.val (.int xa), .val (.int xb), .val (.int xc), .val (.int xd), .val (.int xe), .val (.int xf), .val (.int (1 : Int32)), .val (.int w40), .val (.int w41), .val (.ref b42), .val (.int xa), .val (.int (0 : Int32)), .val (.int (0 : Int32)), .val (.int w46), .val (.ref b47), .val (.int (w46 + (1 : Int32))), .val (.int (1 : Int32))] [(.int (3 : Int32)), (.ref b47)]))
    refine own_by (fun _ => XS.iload Y74.here hx rfl (hb hby at_399) rfl) ?_
    show own_Go p e below _ (T74.setTop (mkF m 401 #[.val (.int xa), .val (.int xb), .val (.int xc), .val (.int xd), .val (.int xe), .val (.int xf), .val (.int (1 : Int32)), .val (.int w40), .val (.int w41), .val (.ref b42), .val (.int xa), .val (.int (0 : Int32)), .val (.int (0 : Int32)), .val (.int w46), .val (.ref b47), .val (.int (w46 + (1 : Int32))), .val (.int (1 : Int32))] [(.int w46), (.int (3 : Int32)), (.ref b47)]))
    refine own_by (fun _ => XS.iload Y74.here hx rfl (hb hby at_401) rfl) ?_
    show own_Go p e below _ (T74.setTop (mkF m 403 #[.val (.int xa), .val (.int xb), .val (.int xc), .val (.int xd), .val (.int xe), .val (.int xf), .val (.int (1 : Int32)), .val (.int w40), .val (.int w41), .val (.ref b42), .val (.int xa), .val (.int (0 : Int32)), .val (.int (0 : Int32)), .val (.int w46), .val (.ref b47), .val (.int (w46 + (1 : Int32))), .val (.int (1 : Int32))] [(.int (1 : Int32)), (.int w46), (.int (3 : Int32)), (.ref b47)]))
    refine own_by (fun _ => XS.iload Y74.here hx rfl (hb hby at_403) rfl) ?_
    show own_Go p e below _ (T74.setTop (mkF m 405 #[.val (.int xa), .val (.int xb), .val (.int xc), .val (.int xd), .val (.int xe), .val (.int xf), .val (.int (1 : Int32)), .val (.int w40), .val (.int w41), .val (.ref b42), .val (.int xa), .val (.int (0 : Int32)), .val (.int (0 : Int32)), .val (.int w46), .val (.ref b47), .val (.int (w46 + (1 : Int32))), .val (.int (1 : Int32))] [(.int xa), (.int (1 : Int32)), (.int w46), (.int (3 : Int32)), (.ref b47)]))
    refine own_by (fun _ => XS.iload Y74.here hx rfl (hb hby at_405) rfl) ?_
    show own_Go p e below _ (T74.setTop (mkF m 407 #[.val (.int xa), .val (.int xb), .val (.int xc), .val (.int xd), .val (.int xe), .val (.int xf), .val (.int (1 : Int32)), .val (.int w40), .val (.int w41), .val (.ref b42), .val (.int xa), .val (.int (0 : Int32)), .val (.int (0 : Int32)), .val (.int w46), .val (.ref b47), .val (.int (w46 + (1 : Int32))), .val (.int (1 : Int32))] [(.int (0 : Int32)), (.int xa), (.int (1 : Int32)), (.int w46), (.int (3 : Int32)), (.ref b47)]))
    refine own_by (fun _ => XS.iload Y74.here hx rfl (hb hby at_407) rfl) ?_
    show own_Go p e below _ (T74.setTop (mkF m 409 #[.val (.int xa), .val (.int xb), .val (.int xc), .val (.int xd), .val (.int xe), .val (.int xf), .val (.int (1 : Int32)), .val (.int w40), .val (.int w41), .val (.ref b42), .val (.int xa), .val (.int (0 : Int32)), .val (.int (0 : Int32)), .val (.int w46), .val (.ref b47), .val (.int (w46 + (1 : Int32))), .val (.int (1 : Int32))] [(.int (0 : Int32)), (.int (0 : Int32)), (.int xa), (.int (1 : Int32)), (.int w46), (.int (3 : Int32)), (.ref b47)]))
    refine own_by (fun _ => XS.iload Y74.here hx rfl (hb hby at_409) rfl) ?_
    show own_Go p e below _ (T74.setTop (mkF m 411 #[.val (.int xa), .val (.int xb), .val (.int xc), .val (.int xd), .val (.int xe), .val (.int xf), .val (.int (1 : Int32)), .val (.int w40), .val (.int w41), .val (.ref b42), .val (.int xa), .val (.int (0 : Int32)), .val (.int (0 : Int32)), .val (.int w46), .val (.ref b47), .val (.int (w46 + (1 : Int32))), .val (.int (1 : Int32))] [(.int xe), (.int (0 : Int32)), (.int (0 : Int32)), (.int xa), (.int (1 : Int32)), (.int w46), (.int (3 : Int32)), (.ref b47)]))
    obtain ⟨_, _, ⟨T75, L75, k75, n75⟩, -, X75, ⟨Lc75, hQ75, l75, y75, z75'⟩, st75⟩ := Jvm.LawKit.callS Y74 hx (y := (⟨"com/example/bucketsplit/bucketsplit/core/PageTakeAllPinLaw", "slot", "([IIIIIIII)Z"⟩ : MethodName)) hown (mvT hZ (hw _ (List.mem_of_getElem? (i := 37) rfl))) (mvT hZ (hw _ (List.mem_of_getElem? (i := 38) rfl))) (mvT hZ (hw _ (List.mem_of_getElem? (i := 39) rfl))) (mvT hZ (hw _ (List.mem_of_getElem? (i := 40) rfl))) (by decide) (backOf (W := 0) (own_rm8 l Z a0 hw [] b47 (3 : Int32) w46 (1 : Int32) xa (0 : Int32) (0 : Int32) xe k47 ls69_1 T69.heap n0 z69 fc69_1 (by decide : ¬ ((3 : Int32) < (0 : Int32))) (by decide : (3 : Int32) < (8 : Int32))) hZ (hw _ (List.mem_of_getElem? (i := 40) rfl)) (hw _ (List.mem_of_getElem? (i := 39) rfl)) (by decide) (by decide)) (g := (mkF m 411 #[.val (.int xa), .val (.int xb), .val (.int xc), .val (.int xd), .val (.int xe), .val (.int xf), .val (.int (1 : Int32)), .val (.int w40), .val (.int w41), .val (.ref b42), .val (.int xa), .val (.int (0 : Int32)), .val (.int (0 : Int32)), .val (.int w46), .val (.ref b47), .val (.int (w46 + (1 : Int32))), .val (.int (1 : Int32))] [(.int xe), (.int (0 : Int32)), (.int (0 : Int32)), (.int xa), (.int (1 : Int32)), (.int w46), (.int (3 : Int32)), (.ref b47)])) rfl (by rw [hml]; rfl) (argsL := [(.ref b47), (.int (3 : Int32)), (.int w46), (.int (1 : Int32)), (.int xa), (.int (0 : Int32)), (.int (0 : Int32)), (.int xe)]) (rest := []) (lenOf own_pd3 rfl) rfl (by show 2 * 0 + _ ≤ _; exact Nat.le_of_eq rfl) (hb hby at_411) (fun _ _ => ⟨rfl, e74, (by decide : 3 + 0 ≤ _), (by decide : 14 + 0 ≤ _)⟩)
    dsimp only [Pt.U, Pt.locs, Pt.cells, Pt.slots] at X75 l75 y75 z75' st75 hQ75
    subst l75 y75 z75'
    obtain ⟨rfl, N75q, e75⟩ := hQ75
    have N75 := Fr.app M74 N75q
    refine own_by st75 ?_
    clear st75 Y74
    obtain ⟨lq75, Y75, M75⟩ : ∃ lq, Stand p l e room_1 s m #[(.int xa), (.int xb), (.int xc), (.int xd), (.int xe), (.int xf)] below meth c T75 lq 3 14 ∧ Fr n0 lq := ⟨_, X75, N75⟩
    clear X75 N75
    show own_Go p e below _ (T75.setTop (mkF m 414 #[.val (.int xa), .val (.int xb), .val (.int xc), .val (.int xd), .val (.int xe), .val (.int xf), .val (.int (1 : Int32)), .val (.int w40), .val (.int w41), .val (.ref b42), .val (.int xa), .val (.int (0 : Int32)), .val (.int (0 : Int32)), .val (.int w46), .val (.ref b47), .val (.int (w46 + (1 : Int32))), .val (.int (1 : Int32))] [(.int (own_slot (3 : Int32) w46 (1 : Int32) xa (0 : Int32) (0 : Int32) xe ls69_1))]))
    refine own_by (fun _ => XS.ifNo Y75.here hx rfl (hb hby at_414) rfl ((if0 _ _).trans (feq (own_no0 (own_sl1 xe xa w46 (3 : Int32) hls69_1 (own_at1 hw46) (by decide)))).1)) ?_
    show own_Go p e below _ (T75.setTop (mkF m 417 #[.val (.int xa), .val (.int xb), .val (.int xc), .val (.int xd), .val (.int xe), .val (.int xf), .val (.int (1 : Int32)), .val (.int w40), .val (.int w41), .val (.ref b42), .val (.int xa), .val (.int (0 : Int32)), .val (.int (0 : Int32)), .val (.int w46), .val (.ref b47), .val (.int (w46 + (1 : Int32))), .val (.int (1 : Int32))] []))
    refine own_by (fun _ => XS.iconst Y75.here hx rfl (hb hby at_417)) ?_
    show own_Go p e below _ (T75.setTop (mkF m 418 #[.val (.int xa), .val (.int xb), .val (.int xc), .val (.int xd), .val (.int xe), .val (.int xf), .val (.int (1 : Int32)), .val (.int w40), .val (.int w41), .val (.ref b42), .val (.int xa), .val (.int (0 : Int32)), .val (.int (0 : Int32)), .val (.int w46), .val (.ref b47), .val (.int (w46 + (1 : Int32))), .val (.int (1 : Int32))] [(.int (1 : Int32))]))
    refine own_by (fun _ => XS.goto Y75.here hx rfl (pc0 := 418) (pc' := 422) rfl (hb hby at_418) (by decide) (by decide)) ?_
    show own_Go p e below _ (T75.setTop (mkF m 422 #[.val (.int xa), .val (.int xb), .val (.int xc), .val (.int xd), .val (.int xe), .val (.int xf), .val (.int (1 : Int32)), .val (.int w40), .val (.int w41), .val (.ref b42), .val (.int xa), .val (.int (0 : Int32)), .val (.int (0 : Int32)), .val (.int w46), .val (.ref b47), .val (.int (w46 + (1 : Int32))), .val (.int (1 : Int32))] [(.int (1 : Int32))]))
    refine own_by (fun _ => XS.istore Y75.here hx rfl (hb hby at_422) rfl (l' := #[.val (.int xa), .val (.int xb), .val (.int xc), .val (.int xd), .val (.int xe), .val (.int xf), .val (.int (1 : Int32)), .val (.int w40), .val (.int w41), .val (.ref b42), .val (.int xa), .val (.int (0 : Int32)), .val (.int (0 : Int32)), .val (.int w46), .val (.ref b47), .val (.int (w46 + (1 : Int32))), .val (.int (1 : Int32))]) rfl) ?_
    show own_Go p e below _ (T75.setTop (mkF m 424 #[.val (.int xa), .val (.int xb), .val (.int xc), .val (.int xd), .val (.int xe), .val (.int xf), .val (.int (1 : Int32)), .val (.int w40), .val (.int w41), .val (.ref b42), .val (.int xa), .val (.int (0 : Int32)), .val (.int (0 : Int32)), .val (.int w46), .val (.ref b47), .val (.int (w46 + (1 : Int32))), .val (.int (1 : Int32))] []))
    refine own_by (fun _ => XS.iload Y75.here hx rfl (hb hby at_424) rfl) ?_
    show own_Go p e below _ (T75.setTop (mkF m 426 #[.val (.int xa), .val (.int xb), .val (.int xc), .val (.int xd), .val (.int xe), .val (.int xf), .val (.int (1 : Int32)), .val (.int w40), .val (.int w41), .val (.ref b42), .val (.int xa), .val (.int (0 : Int32)), .val (.int (0 : Int32)), .val (.int w46), .val (.ref b47), .val (.int (w46 + (1 : Int32))), .val (.int (1 : Int32))] [(.int (1 : Int32))]))
    refine own_by (fun _ => XS.ifNo Y75.here hx rfl (hb hby at_426) rfl ((if0 _ _).trans (feq (by decide : ¬ ((1 : Int32) = (0 : Int32)))).1)) ?_
    show own_Go p e below _ (T75.setTop (mkF m 429 #[.val (.int xa), .val (.int xb), .val (.int xc), .val (.int xd), .val (.int xe), .val (.int xf), .val (.int (1 : Int32)), .val (.int w40), .val (.int w41), .val (.ref b42), .val (.int xa), .val (.int (0 : Int32)), .val (.int (0 : Int32)), .val (.int w46), .val (.ref b47), .val (.int (w46 + (1 : Int32))), .val (.int (1 : Int32))] []))
    refine own_by (fun _ => XS.aload Y75.here hx rfl (hb hby at_429) rfl rfl) ?_
    show own_Go p e below _ (T75.setTop (mkF m 431 #[.val (.int xa), .val (.int xb), .val (.int xc), .val (.int xd), .val (.int xe), .val (.int xf), .val (.int (1 : Int32)), .val (.int w40), .val (.int w41), .val (.ref b42), .val (.int xa), .val (.int (0 : Int32)), .val (.int (0 : Int32)), .val (.int w46), .val (.ref b47), .val (.int (w46 + (1 : Int32))), .val (.int (1 : Int32))] [(.ref b47)]))
    refine own_by (fun _ => XS.iconst Y75.here hx rfl (hb hby at_431)) ?_
    show own_Go p e below _ (T75.setTop (mkF m 432 #[.val (.int xa), .val (.int xb), .val (.int xc), .val (.int xd), .val (.int xe), .val (.int xf), .val (.int (1 : Int32)), .val (.int w40), .val (.int w41), .val (.ref b42), .val (.int xa), .val (.int (0 : Int32)), .val (.int (0 : Int32)), .val (.int w46), .val (.ref b47), .val (.int (w46 + (1 : Int32))), .val (.int (1 : Int32))] [(.int (4 : Int32)), (.ref b47)]))
    refine own_by (fun _ => XS.iload Y75.here hx rfl (hb hby at_432) rfl) ?_
    show own_Go p e below _ (T75.setTop (mkF m 434 #[.val (.int xa), .val (.int xb), .val (.int xc), .val (.int xd), .val (.int xe), .val (.int xf), .val (.int (1 : Int32)), .val (.int w40), .val (.int w41), .val (.ref b42), .val (.int xa), .val (.int (0 : Int32)), .val (.int (0 : Int32)), .val (.int w46), .val (.ref b47), .val (.int (w46 + (1 : Int32))), .val (.int (1 : Int32))] [(.int w46), (.int (4 : Int32)), (.ref b47)]))
    refine own_by (fun _ => XS.iload Y75.here hx rfl (hb hby at_434) rfl) ?_
    show own_Go p e below _ (T75.setTop (mkF m 436 #[.val (.int xa), .val (.int xb), .val (.int xc), .val (.int xd), .val (.int xe), .val (.int xf), .val (.int (1 : Int32)), .val (.int w40), .val (.int w41), .val (.ref b42), .val (.int xa), .val (.int (0 : Int32)), .val (.int (0 : Int32)), .val (.int w46), .val (.ref b47), .val (.int (w46 + (1 : Int32))), .val (.int (1 : Int32))] [(.int (1 : Int32)), (.int w46), (.int (4 : Int32)), (.ref b47)]))
    refine own_by (fun _ => XS.iload Y75.here hx rfl (hb hby at_436) rfl) ?_
    show own_Go p e below _ (T75.setTop (mkF m 438 #[.val (.int xa), .val (.int xb), .val (.int xc), .val (.int xd), .val (.int xe), .val (.int xf), .val (.int (1 : Int32)), .val (.int w40), .val (.int w41), .val (.ref b42), .val (.int xa), .val (.int (0 : Int32)), .val (.int (0 : Int32)), .val (.int w46), .val (.ref b47), .val (.int (w46 + (1 : Int32))), .val (.int (1 : Int32))] [(.int xa), (.int (1 : Int32)), (.int w46), (.int (4 : Int32)), (.ref b47)]))
    refine own_by (fun _ => XS.iload Y75.here hx rfl (hb hby at_438) rfl) ?_
    show own_Go p e below _ (T75.setTop (mkF m 440 #[.val (.int xa), .val (.int xb), .val (.int xc), .val (.int xd), .val (.int xe), .val (.int xf), .val (.int (1 : Int32)), .val (.int w40), .val (.int w41), .val (.ref b42), .val (.int xa), .val (.int (0 : Int32)), .val (.int (0 : Int32)), .val (.int w46), .val (.ref b47), .val (.int (w46 + (1 : Int32))), .val (.int (1 : Int32))] [(.int (0 : Int32)), (.int xa), (.int (1 : Int32)), (.int w46), (.int (4 : Int32)), (.ref b47)]))
    refine own_by (fun _ => XS.iload Y75.here hx rfl (hb hby at_440) rfl) ?_
    show own_Go p e below _ (T75.setTop (mkF m 442 #[.val (.int xa), .val (.int xb), .val (.int xc), .val (.int xd), .val (.int xe), .val (.int xf), .val (.int (1 : Int32)), .val (.int w40), .val (.int w41), .val (.ref b42), .val (.int xa), .val (.int (0 : Int32)), .val (.int (0 : Int32)), .val (.int w46), .val (.ref b47), .val (.int (w46 + (1 : Int32))), .val (.int (1 : Int32))] [(.int (0 : Int32)), (.int (0 : Int32)), (.int xa), (.int (1 : Int32)), (.int w46), (.int (4 : Int32)), (.ref b47)]))
    refine own_by (fun _ => XS.iload Y75.here hx rfl (hb hby at_442) rfl) ?_
    show own_Go p e below _ (T75.setTop (mkF m 444 #[.val (.int xa), .val (.int xb), .val (.int xc), .val (.int xd), .val (.int xe), .val (.int xf), .val (.int (1 : Int32)), .val (.int w40), .val (.int w41), .val (.ref b42), .val (.int xa), .val (.int (0 : Int32)), .val (.int (0 : Int32)), .val (.int w46), .val (.ref b47), .val (.int (w46 + (1 : Int32))), .val (.int (1 : Int32))] [(.int xe), (.int (0 : Int32)), (.int (0 : Int32)), (.int xa), (.int (1 : Int32)), (.int w46), (.int (4 : Int32)), (.ref b47)]))
    obtain ⟨_, _, ⟨T76, L76, k76, n76⟩, -, X76, ⟨Lc76, hQ76, l76, y76, z76'⟩, st76⟩ := Jvm.LawKit.callS Y75 hx (y := (⟨"com/example/bucketsplit/bucketsplit/core/PageTakeAllPinLaw", "slot", "([IIIIIIII)Z"⟩ : MethodName)) hown (mvT hZ (hw _ (List.mem_of_getElem? (i := 37) rfl))) (mvT hZ (hw _ (List.mem_of_getElem? (i := 38) rfl))) (mvT hZ (hw _ (List.mem_of_getElem? (i := 39) rfl))) (mvT hZ (hw _ (List.mem_of_getElem? (i := 40) rfl))) (by decide) (backOf (W := 0) (own_rm8 l Z a0 hw [] b47 (4 : Int32) w46 (1 : Int32) xa (0 : Int32) (0 : Int32) xe k47 ls69_1 T69.heap n0 z69 fc69_1 (by decide : ¬ ((4 : Int32) < (0 : Int32))) (by decide : (4 : Int32) < (8 : Int32))) hZ (hw _ (List.mem_of_getElem? (i := 40) rfl)) (hw _ (List.mem_of_getElem? (i := 39) rfl)) (by decide) (by decide)) (g := (mkF m 444 #[.val (.int xa), .val (.int xb), .val (.int xc), .val (.int xd), .val (.int xe), .val (.int xf), .val (.int (1 : Int32)), .val (.int w40), .val (.int w41), .val (.ref b42), .val (.int xa), .val (.int (0 : Int32)), .val (.int (0 : Int32)), .val (.int w46), .val (.ref b47), .val (.int (w46 + (1 : Int32))), .val (.int (1 : Int32))] [(.int xe), (.int (0 : Int32)), (.int (0 : Int32)), (.int xa), (.int (1 : Int32)), (.int w46), (.int (4 : Int32)), (.ref b47)])) rfl (by rw [hml]; rfl) (argsL := [(.ref b47), (.int (4 : Int32)), (.int w46), (.int (1 : Int32)), (.int xa), (.int (0 : Int32)), (.int (0 : Int32)), (.int xe)]) (rest := []) (lenOf own_pd3 rfl) rfl (by show 2 * 0 + _ ≤ _; exact Nat.le_of_eq rfl) (hb hby at_444) (fun _ _ => ⟨rfl, e75, (by decide : 3 + 0 ≤ _), (by decide : 14 + 0 ≤ _)⟩)
    dsimp only [Pt.U, Pt.locs, Pt.cells, Pt.slots] at X76 l76 y76 z76' st76 hQ76
    subst l76 y76 z76'
    obtain ⟨rfl, N76q, e76⟩ := hQ76
    have N76 := Fr.app M75 N76q
    refine own_by st76 ?_
    clear st76 Y75
    obtain ⟨lq76, Y76, M76⟩ : ∃ lq, Stand p l e room_1 s m #[(.int xa), (.int xb), (.int xc), (.int xd), (.int xe), (.int xf)] below meth c T76 lq 3 14 ∧ Fr n0 lq := ⟨_, X76, N76⟩
    clear X76 N76
    show own_Go p e below _ (T76.setTop (mkF m 447 #[.val (.int xa), .val (.int xb), .val (.int xc), .val (.int xd), .val (.int xe), .val (.int xf), .val (.int (1 : Int32)), .val (.int w40), .val (.int w41), .val (.ref b42), .val (.int xa), .val (.int (0 : Int32)), .val (.int (0 : Int32)), .val (.int w46), .val (.ref b47), .val (.int (w46 + (1 : Int32))), .val (.int (1 : Int32))] [(.int (own_slot (4 : Int32) w46 (1 : Int32) xa (0 : Int32) (0 : Int32) xe ls69_1))]))
    refine own_by (fun _ => XS.ifNo Y76.here hx rfl (hb hby at_447) rfl ((if0 _ _).trans (feq (own_no0 (own_sl1 xe xa w46 (4 : Int32) hls69_1 (own_at1 hw46) (by decide)))).1)) ?_
    show own_Go p e below _ (T76.setTop (mkF m 450 #[.val (.int xa), .val (.int xb), .val (.int xc), .val (.int xd), .val (.int xe), .val (.int xf), .val (.int (1 : Int32)), .val (.int w40), .val (.int w41), .val (.ref b42), .val (.int xa), .val (.int (0 : Int32)), .val (.int (0 : Int32)), .val (.int w46), .val (.ref b47), .val (.int (w46 + (1 : Int32))), .val (.int (1 : Int32))] []))
    refine own_by (fun _ => XS.iconst Y76.here hx rfl (hb hby at_450)) ?_
    show own_Go p e below _ (T76.setTop (mkF m 451 #[.val (.int xa), .val (.int xb), .val (.int xc), .val (.int xd), .val (.int xe), .val (.int xf), .val (.int (1 : Int32)), .val (.int w40), .val (.int w41), .val (.ref b42), .val (.int xa), .val (.int (0 : Int32)), .val (.int (0 : Int32)), .val (.int w46), .val (.ref b47), .val (.int (w46 + (1 : Int32))), .val (.int (1 : Int32))] [(.int (1 : Int32))]))
    refine own_by (fun _ => XS.goto Y76.here hx rfl (pc0 := 451) (pc' := 455) rfl (hb hby at_451) (by decide) (by decide)) ?_
    show own_Go p e below _ (T76.setTop (mkF m 455 #[.val (.int xa), .val (.int xb), .val (.int xc), .val (.int xd), .val (.int xe), .val (.int xf), .val (.int (1 : Int32)), .val (.int w40), .val (.int w41), .val (.ref b42), .val (.int xa), .val (.int (0 : Int32)), .val (.int (0 : Int32)), .val (.int w46), .val (.ref b47), .val (.int (w46 + (1 : Int32))), .val (.int (1 : Int32))] [(.int (1 : Int32))]))
    refine own_by (fun _ => XS.istore Y76.here hx rfl (hb hby at_455) rfl (l' := #[.val (.int xa), .val (.int xb), .val (.int xc), .val (.int xd), .val (.int xe), .val (.int xf), .val (.int (1 : Int32)), .val (.int w40), .val (.int w41), .val (.ref b42), .val (.int xa), .val (.int (0 : Int32)), .val (.int (0 : Int32)), .val (.int w46), .val (.ref b47), .val (.int (w46 + (1 : Int32))), .val (.int (1 : Int32))]) rfl) ?_
    show own_Go p e below _ (T76.setTop (mkF m 457 #[.val (.int xa), .val (.int xb), .val (.int xc), .val (.int xd), .val (.int xe), .val (.int xf), .val (.int (1 : Int32)), .val (.int w40), .val (.int w41), .val (.ref b42), .val (.int xa), .val (.int (0 : Int32)), .val (.int (0 : Int32)), .val (.int w46), .val (.ref b47), .val (.int (w46 + (1 : Int32))), .val (.int (1 : Int32))] []))
    refine own_by (fun _ => XS.iload Y76.here hx rfl (hb hby at_457) rfl) ?_
    show own_Go p e below _ (T76.setTop (mkF m 459 #[.val (.int xa), .val (.int xb), .val (.int xc), .val (.int xd), .val (.int xe), .val (.int xf), .val (.int (1 : Int32)), .val (.int w40), .val (.int w41), .val (.ref b42), .val (.int xa), .val (.int (0 : Int32)), .val (.int (0 : Int32)), .val (.int w46), .val (.ref b47), .val (.int (w46 + (1 : Int32))), .val (.int (1 : Int32))] [(.int (1 : Int32))]))
    refine own_by (fun _ => XS.ifNo Y76.here hx rfl (hb hby at_459) rfl ((if0 _ _).trans (feq (by decide : ¬ ((1 : Int32) = (0 : Int32)))).1)) ?_
    show own_Go p e below _ (T76.setTop (mkF m 462 #[.val (.int xa), .val (.int xb), .val (.int xc), .val (.int xd), .val (.int xe), .val (.int xf), .val (.int (1 : Int32)), .val (.int w40), .val (.int w41), .val (.ref b42), .val (.int xa), .val (.int (0 : Int32)), .val (.int (0 : Int32)), .val (.int w46), .val (.ref b47), .val (.int (w46 + (1 : Int32))), .val (.int (1 : Int32))] []))
    refine own_by (fun _ => XS.aload Y76.here hx rfl (hb hby at_462) rfl rfl) ?_
    show own_Go p e below _ (T76.setTop (mkF m 464 #[.val (.int xa), .val (.int xb), .val (.int xc), .val (.int xd), .val (.int xe), .val (.int xf), .val (.int (1 : Int32)), .val (.int w40), .val (.int w41), .val (.ref b42), .val (.int xa), .val (.int (0 : Int32)), .val (.int (0 : Int32)), .val (.int w46), .val (.ref b47), .val (.int (w46 + (1 : Int32))), .val (.int (1 : Int32))] [(.ref b47)]))
    refine own_by (fun _ => XS.iconst Y76.here hx rfl (hb hby at_464)) ?_
    show own_Go p e below _ (T76.setTop (mkF m 465 #[.val (.int xa), .val (.int xb), .val (.int xc), .val (.int xd), .val (.int xe), .val (.int xf), .val (.int (1 : Int32)), .val (.int w40), .val (.int w41), .val (.ref b42), .val (.int xa), .val (.int (0 : Int32)), .val (.int (0 : Int32)), .val (.int w46), .val (.ref b47), .val (.int (w46 + (1 : Int32))), .val (.int (1 : Int32))] [(.int (5 : Int32)), (.ref b47)]))
    refine own_by (fun _ => XS.iload Y76.here hx rfl (hb hby at_465) rfl) ?_
    show own_Go p e below _ (T76.setTop (mkF m 467 #[.val (.int xa), .val (.int xb), .val (.int xc), .val (.int xd), .val (.int xe), .val (.int xf), .val (.int (1 : Int32)), .val (.int w40), .val (.int w41), .val (.ref b42), .val (.int xa), .val (.int (0 : Int32)), .val (.int (0 : Int32)), .val (.int w46), .val (.ref b47), .val (.int (w46 + (1 : Int32))), .val (.int (1 : Int32))] [(.int w46), (.int (5 : Int32)), (.ref b47)]))
    refine own_by (fun _ => XS.iload Y76.here hx rfl (hb hby at_467) rfl) ?_
    show own_Go p e below _ (T76.setTop (mkF m 469 #[.val (.int xa), .val (.int xb), .val (.int xc), .val (.int xd), .val (.int xe), .val (.int xf), .val (.int (1 : Int32)), .val (.int w40), .val (.int w41), .val (.ref b42), .val (.int xa), .val (.int (0 : Int32)), .val (.int (0 : Int32)), .val (.int w46), .val (.ref b47), .val (.int (w46 + (1 : Int32))), .val (.int (1 : Int32))] [(.int (1 : Int32)), (.int w46), (.int (5 : Int32)), (.ref b47)]))
    refine own_by (fun _ => XS.iload Y76.here hx rfl (hb hby at_469) rfl) ?_
    show own_Go p e below _ (T76.setTop (mkF m 471 #[.val (.int xa), .val (.int xb), .val (.int xc), .val (.int xd), .val (.int xe), .val (.int xf), .val (.int (1 : Int32)), .val (.int w40), .val (.int w41), .val (.ref b42), .val (.int xa), .val (.int (0 : Int32)), .val (.int (0 : Int32)), .val (.int w46), .val (.ref b47), .val (.int (w46 + (1 : Int32))), .val (.int (1 : Int32))] [(.int xa), (.int (1 : Int32)), (.int w46), (.int (5 : Int32)), (.ref b47)]))
    refine own_by (fun _ => XS.iload Y76.here hx rfl (hb hby at_471) rfl) ?_
    show own_Go p e below _ (T76.setTop (mkF m 473 #[.val (.int xa), .val (.int xb), .val (.int xc), .val (.int xd), .val (.int xe), .val (.int xf), .val (.int (1 : Int32)), .val (.int w40), .val (.int w41), .val (.ref b42), .val (.int xa), .val (.int (0 : Int32)), .val (.int (0 : Int32)), .val (.int w46), .val (.ref b47), .val (.int (w46 + (1 : Int32))), .val (.int (1 : Int32))] [(.int (0 : Int32)), (.int xa), (.int (1 : Int32)), (.int w46), (.int (5 : Int32)), (.ref b47)]))
    refine own_by (fun _ => XS.iload Y76.here hx rfl (hb hby at_473) rfl) ?_
    show own_Go p e below _ (T76.setTop (mkF m 475 #[.val (.int xa), .val (.int xb), .val (.int xc), .val (.int xd), .val (.int xe), .val (.int xf), .val (.int (1 : Int32)), .val (.int w40), .val (.int w41), .val (.ref b42), .val (.int xa), .val (.int (0 : Int32)), .val (.int (0 : Int32)), .val (.int w46), .val (.ref b47), .val (.int (w46 + (1 : Int32))), .val (.int (1 : Int32))] [(.int (0 : Int32)), (.int (0 : Int32)), (.int xa), (.int (1 : Int32)), (.int w46), (.int (5 : Int32)), (.ref b47)]))
    refine own_by (fun _ => XS.iload Y76.here hx rfl (hb hby at_475) rfl) ?_
    show own_Go p e below _ (T76.setTop (mkF m 477 #[.val (.int xa), .val (.int xb), .val (.int xc), .val (.int xd), .val (.int xe), .val (.int xf), .val (.int (1 : Int32)), .val (.int w40), .val (.int w41), .val (.ref b42), .val (.int xa), .val (.int (0 : Int32)), .val (.int (0 : Int32)), .val (.int w46), .val (.ref b47), .val (.int (w46 + (1 : Int32))), .val (.int (1 : Int32))] [(.int xe), (.int (0 : Int32)), (.int (0 : Int32)), (.int xa), (.int (1 : Int32)), (.int w46), (.int (5 : Int32)), (.ref b47)]))
    obtain ⟨_, _, ⟨T77, L77, k77, n77⟩, -, X77, ⟨Lc77, hQ77, l77, y77, z77'⟩, st77⟩ := Jvm.LawKit.callS Y76 hx (y := (⟨"com/example/bucketsplit/bucketsplit/core/PageTakeAllPinLaw", "slot", "([IIIIIIII)Z"⟩ : MethodName)) hown (mvT hZ (hw _ (List.mem_of_getElem? (i := 37) rfl))) (mvT hZ (hw _ (List.mem_of_getElem? (i := 38) rfl))) (mvT hZ (hw _ (List.mem_of_getElem? (i := 39) rfl))) (mvT hZ (hw _ (List.mem_of_getElem? (i := 40) rfl))) (by decide) (backOf (W := 0) (own_rm8 l Z a0 hw [] b47 (5 : Int32) w46 (1 : Int32) xa (0 : Int32) (0 : Int32) xe k47 ls69_1 T69.heap n0 z69 fc69_1 (by decide : ¬ ((5 : Int32) < (0 : Int32))) (by decide : (5 : Int32) < (8 : Int32))) hZ (hw _ (List.mem_of_getElem? (i := 40) rfl)) (hw _ (List.mem_of_getElem? (i := 39) rfl)) (by decide) (by decide)) (g := (mkF m 477 #[.val (.int xa), .val (.int xb), .val (.int xc), .val (.int xd), .val (.int xe), .val (.int xf), .val (.int (1 : Int32)), .val (.int w40), .val (.int w41), .val (.ref b42), .val (.int xa), .val (.int (0 : Int32)), .val (.int (0 : Int32)), .val (.int w46), .val (.ref b47), .val (.int (w46 + (1 : Int32))), .val (.int (1 : Int32))] [(.int xe), (.int (0 : Int32)), (.int (0 : Int32)), (.int xa), (.int (1 : Int32)), (.int w46), (.int (5 : Int32)), (.ref b47)])) rfl (by rw [hml]; rfl) (argsL := [(.ref b47), (.int (5 : Int32)), (.int w46), (.int (1 : Int32)), (.int xa), (.int (0 : Int32)), (.int (0 : Int32)), (.int xe)]) (rest := []) (lenOf own_pd3 rfl) rfl (by show 2 * 0 + _ ≤ _; exact Nat.le_of_eq rfl) (hb hby at_477) (fun _ _ => ⟨rfl, e76, (by decide : 3 + 0 ≤ _), (by decide : 14 + 0 ≤ _)⟩)
    dsimp only [Pt.U, Pt.locs, Pt.cells, Pt.slots] at X77 l77 y77 z77' st77 hQ77
    subst l77 y77 z77'
    obtain ⟨rfl, N77q, e77⟩ := hQ77
    have N77 := Fr.app M76 N77q
    refine own_by st77 ?_
    clear st77 Y76
    obtain ⟨lq77, Y77, M77⟩ : ∃ lq, Stand p l e room_1 s m #[(.int xa), (.int xb), (.int xc), (.int xd), (.int xe), (.int xf)] below meth c T77 lq 3 14 ∧ Fr n0 lq := ⟨_, X77, N77⟩
    clear X77 N77
    show own_Go p e below _ (T77.setTop (mkF m 480 #[.val (.int xa), .val (.int xb), .val (.int xc), .val (.int xd), .val (.int xe), .val (.int xf), .val (.int (1 : Int32)), .val (.int w40), .val (.int w41), .val (.ref b42), .val (.int xa), .val (.int (0 : Int32)), .val (.int (0 : Int32)), .val (.int w46), .val (.ref b47), .val (.int (w46 + (1 : Int32))), .val (.int (1 : Int32))] [(.int (own_slot (5 : Int32) w46 (1 : Int32) xa (0 : Int32) (0 : Int32) xe ls69_1))]))
    refine own_by (fun _ => XS.ifNo Y77.here hx rfl (hb hby at_480) rfl ((if0 _ _).trans (feq (own_no0 (own_sl1 xe xa w46 (5 : Int32) hls69_1 (own_at1 hw46) (by decide)))).1)) ?_
    show own_Go p e below _ (T77.setTop (mkF m 483 #[.val (.int xa), .val (.int xb), .val (.int xc), .val (.int xd), .val (.int xe), .val (.int xf), .val (.int (1 : Int32)), .val (.int w40), .val (.int w41), .val (.ref b42), .val (.int xa), .val (.int (0 : Int32)), .val (.int (0 : Int32)), .val (.int w46), .val (.ref b47), .val (.int (w46 + (1 : Int32))), .val (.int (1 : Int32))] []))
    refine own_by (fun _ => XS.iconst Y77.here hx rfl (hb hby at_483)) ?_
    show own_Go p e below _ (T77.setTop (mkF m 484 #[.val (.int xa), .val (.int xb), .val (.int xc), .val (.int xd), .val (.int xe), .val (.int xf), .val (.int (1 : Int32)), .val (.int w40), .val (.int w41), .val (.ref b42), .val (.int xa), .val (.int (0 : Int32)), .val (.int (0 : Int32)), .val (.int w46), .val (.ref b47), .val (.int (w46 + (1 : Int32))), .val (.int (1 : Int32))] [(.int (1 : Int32))]))
    refine own_by (fun _ => XS.goto Y77.here hx rfl (pc0 := 484) (pc' := 488) rfl (hb hby at_484) (by decide) (by decide)) ?_
    show own_Go p e below _ (T77.setTop (mkF m 488 #[.val (.int xa), .val (.int xb), .val (.int xc), .val (.int xd), .val (.int xe), .val (.int xf), .val (.int (1 : Int32)), .val (.int w40), .val (.int w41), .val (.ref b42), .val (.int xa), .val (.int (0 : Int32)), .val (.int (0 : Int32)), .val (.int w46), .val (.ref b47), .val (.int (w46 + (1 : Int32))), .val (.int (1 : Int32))] [(.int (1 : Int32))]))
    refine own_by (fun _ => XS.istore Y77.here hx rfl (hb hby at_488) rfl (l' := #[.val (.int xa), .val (.int xb), .val (.int xc), .val (.int xd), .val (.int xe), .val (.int xf), .val (.int (1 : Int32)), .val (.int w40), .val (.int w41), .val (.ref b42), .val (.int xa), .val (.int (0 : Int32)), .val (.int (0 : Int32)), .val (.int w46), .val (.ref b47), .val (.int (w46 + (1 : Int32))), .val (.int (1 : Int32))]) rfl) ?_
    show own_Go p e below _ (T77.setTop (mkF m 490 #[.val (.int xa), .val (.int xb), .val (.int xc), .val (.int xd), .val (.int xe), .val (.int xf), .val (.int (1 : Int32)), .val (.int w40), .val (.int w41), .val (.ref b42), .val (.int xa), .val (.int (0 : Int32)), .val (.int (0 : Int32)), .val (.int w46), .val (.ref b47), .val (.int (w46 + (1 : Int32))), .val (.int (1 : Int32))] []))
    refine own_by (fun _ => XS.iload Y77.here hx rfl (hb hby at_490) rfl) ?_
    show own_Go p e below _ (T77.setTop (mkF m 492 #[.val (.int xa), .val (.int xb), .val (.int xc), .val (.int xd), .val (.int xe), .val (.int xf), .val (.int (1 : Int32)), .val (.int w40), .val (.int w41), .val (.ref b42), .val (.int xa), .val (.int (0 : Int32)), .val (.int (0 : Int32)), .val (.int w46), .val (.ref b47), .val (.int (w46 + (1 : Int32))), .val (.int (1 : Int32))] [(.int (1 : Int32))]))
    refine own_by (fun _ => XS.ifNo Y77.here hx rfl (hb hby at_492) rfl ((if0 _ _).trans (feq (by decide : ¬ ((1 : Int32) = (0 : Int32)))).1)) ?_
    show own_Go p e below _ (T77.setTop (mkF m 495 #[.val (.int xa), .val (.int xb), .val (.int xc), .val (.int xd), .val (.int xe), .val (.int xf), .val (.int (1 : Int32)), .val (.int w40), .val (.int w41), .val (.ref b42), .val (.int xa), .val (.int (0 : Int32)), .val (.int (0 : Int32)), .val (.int w46), .val (.ref b47), .val (.int (w46 + (1 : Int32))), .val (.int (1 : Int32))] []))
    refine own_by (fun _ => XS.aload Y77.here hx rfl (hb hby at_495) rfl rfl) ?_
    show own_Go p e below _ (T77.setTop (mkF m 497 #[.val (.int xa), .val (.int xb), .val (.int xc), .val (.int xd), .val (.int xe), .val (.int xf), .val (.int (1 : Int32)), .val (.int w40), .val (.int w41), .val (.ref b42), .val (.int xa), .val (.int (0 : Int32)), .val (.int (0 : Int32)), .val (.int w46), .val (.ref b47), .val (.int (w46 + (1 : Int32))), .val (.int (1 : Int32))] [(.ref b47)]))
    refine own_by (fun _ => XS.bipush Y77.here hx rfl (hb hby at_497)) ?_
    show own_Go p e below _ (T77.setTop (mkF m 499 #[.val (.int xa), .val (.int xb), .val (.int xc), .val (.int xd), .val (.int xe), .val (.int xf), .val (.int (1 : Int32)), .val (.int w40), .val (.int w41), .val (.ref b42), .val (.int xa), .val (.int (0 : Int32)), .val (.int (0 : Int32)), .val (.int w46), .val (.ref b47), .val (.int (w46 + (1 : Int32))), .val (.int (1 : Int32))] [(.int (6 : Int32)), (.ref b47)]))
    refine own_by (fun _ => XS.iload Y77.here hx rfl (hb hby at_499) rfl) ?_
    show own_Go p e below _ (T77.setTop (mkF m 501 #[.val (.int xa), .val (.int xb), .val (.int xc), .val (.int xd), .val (.int xe), .val (.int xf), .val (.int (1 : Int32)), .val (.int w40), .val (.int w41), .val (.ref b42), .val (.int xa), .val (.int (0 : Int32)), .val (.int (0 : Int32)), .val (.int w46), .val (.ref b47), .val (.int (w46 + (1 : Int32))), .val (.int (1 : Int32))] [(.int w46), (.int (6 : Int32)), (.ref b47)]))
    refine own_by (fun _ => XS.iload Y77.here hx rfl (hb hby at_501) rfl) ?_
    show own_Go p e below _ (T77.setTop (mkF m 503 #[.val (.int xa), .val (.int xb), .val (.int xc), .val (.int xd), .val (.int xe), .val (.int xf), .val (.int (1 : Int32)), .val (.int w40), .val (.int w41), .val (.ref b42), .val (.int xa), .val (.int (0 : Int32)), .val (.int (0 : Int32)), .val (.int w46), .val (.ref b47), .val (.int (w46 + (1 : Int32))), .val (.int (1 : Int32))] [(.int (1 : Int32)), (.int w46), (.int (6 : Int32)), (.ref b47)]))
    refine own_by (fun _ => XS.iload Y77.here hx rfl (hb hby at_503) rfl) ?_
    show own_Go p e below _ (T77.setTop (mkF m 505 #[.val (.int xa), .val (.int xb), .val (.int xc), .val (.int xd), .val (.int xe), .val (.int xf), .val (.int (1 : Int32)), .val (.int w40), .val (.int w41), .val (.ref b42), .val (.int xa), .val (.int (0 : Int32)), .val (.int (0 : Int32)), .val (.int w46), .val (.ref b47), .val (.int (w46 + (1 : Int32))), .val (.int (1 : Int32))] [(.int xa), (.int (1 : Int32)), (.int w46), (.int (6 : Int32)), (.ref b47)]))
    refine own_by (fun _ => XS.iload Y77.here hx rfl (hb hby at_505) rfl) ?_
    show own_Go p e below _ (T77.setTop (mkF m 507 #[.val (.int xa), .val (.int xb), .val (.int xc), .val (.int xd), .val (.int xe), .val (.int xf), .val (.int (1 : Int32)), .val (.int w40), .val (.int w41), .val (.ref b42), .val (.int xa), .val (.int (0 : Int32)), .val (.int (0 : Int32)), .val (.int w46), .val (.ref b47), .val (.int (w46 + (1 : Int32))), .val (.int (1 : Int32))] [(.int (0 : Int32)), (.int xa), (.int (1 : Int32)), (.int w46), (.int (6 : Int32)), (.ref b47)]))
    refine own_by (fun _ => XS.iload Y77.here hx rfl (hb hby at_507) rfl) ?_
    show own_Go p e below _ (T77.setTop (mkF m 509 #[.val (.int xa), .val (.int xb), .val (.int xc), .val (.int xd), .val (.int xe), .val (.int xf), .val (.int (1 : Int32)), .val (.int w40), .val (.int w41), .val (.ref b42), .val (.int xa), .val (.int (0 : Int32)), .val (.int (0 : Int32)), .val (.int w46), .val (.ref b47), .val (.int (w46 + (1 : Int32))), .val (.int (1 : Int32))] [(.int (0 : Int32)), (.int (0 : Int32)), (.int xa), (.int (1 : Int32)), (.int w46), (.int (6 : Int32)), (.ref b47)]))
    refine own_by (fun _ => XS.iload Y77.here hx rfl (hb hby at_509) rfl) ?_
    show own_Go p e below _ (T77.setTop (mkF m 511 #[.val (.int xa), .val (.int xb), .val (.int xc), .val (.int xd), .val (.int xe), .val (.int xf), .val (.int (1 : Int32)), .val (.int w40), .val (.int w41), .val (.ref b42), .val (.int xa), .val (.int (0 : Int32)), .val (.int (0 : Int32)), .val (.int w46), .val (.ref b47), .val (.int (w46 + (1 : Int32))), .val (.int (1 : Int32))] [(.int xe), (.int (0 : Int32)), (.int (0 : Int32)), (.int xa), (.int (1 : Int32)), (.int w46), (.int (6 : Int32)), (.ref b47)]))
    obtain ⟨_, _, ⟨T78, L78, k78, n78⟩, -, X78, ⟨Lc78, hQ78, l78, y78, z78'⟩, st78⟩ := Jvm.LawKit.callS Y77 hx (y := (⟨"com/example/bucketsplit/bucketsplit/core/PageTakeAllPinLaw", "slot", "([IIIIIIII)Z"⟩ : MethodName)) hown (mvT hZ (hw _ (List.mem_of_getElem? (i := 37) rfl))) (mvT hZ (hw _ (List.mem_of_getElem? (i := 38) rfl))) (mvT hZ (hw _ (List.mem_of_getElem? (i := 39) rfl))) (mvT hZ (hw _ (List.mem_of_getElem? (i := 40) rfl))) (by decide) (backOf (W := 0) (own_rm8 l Z a0 hw [] b47 (6 : Int32) w46 (1 : Int32) xa (0 : Int32) (0 : Int32) xe k47 ls69_1 T69.heap n0 z69 fc69_1 (by decide : ¬ ((6 : Int32) < (0 : Int32))) (by decide : (6 : Int32) < (8 : Int32))) hZ (hw _ (List.mem_of_getElem? (i := 40) rfl)) (hw _ (List.mem_of_getElem? (i := 39) rfl)) (by decide) (by decide)) (g := (mkF m 511 #[.val (.int xa), .val (.int xb), .val (.int xc), .val (.int xd), .val (.int xe), .val (.int xf), .val (.int (1 : Int32)), .val (.int w40), .val (.int w41), .val (.ref b42), .val (.int xa), .val (.int (0 : Int32)), .val (.int (0 : Int32)), .val (.int w46), .val (.ref b47), .val (.int (w46 + (1 : Int32))), .val (.int (1 : Int32))] [(.int xe), (.int (0 : Int32)), (.int (0 : Int32)), (.int xa), (.int (1 : Int32)), (.int w46), (.int (6 : Int32)), (.ref b47)])) rfl (by rw [hml]; rfl) (argsL := [(.ref b47), (.int (6 : Int32)), (.int w46), (.int (1 : Int32)), (.int xa), (.int (0 : Int32)), (.int (0 : Int32)), (.int xe)]) (rest := []) (lenOf own_pd3 rfl) rfl (by show 2 * 0 + _ ≤ _; exact Nat.le_of_eq rfl) (hb hby at_511) (fun _ _ => ⟨rfl, e77, (by decide : 3 + 0 ≤ _), (by decide : 14 + 0 ≤ _)⟩)
    dsimp only [Pt.U, Pt.locs, Pt.cells, Pt.slots] at X78 l78 y78 z78' st78 hQ78
    subst l78 y78 z78'
    obtain ⟨rfl, N78q, e78⟩ := hQ78
    have N78 := Fr.app M77 N78q
    refine own_by st78 ?_
    clear st78 Y77
    obtain ⟨lq78, Y78, M78⟩ : ∃ lq, Stand p l e room_1 s m #[(.int xa), (.int xb), (.int xc), (.int xd), (.int xe), (.int xf)] below meth c T78 lq 3 14 ∧ Fr n0 lq := ⟨_, X78, N78⟩
    clear X78 N78
    show own_Go p e below _ (T78.setTop (mkF m 514 #[.val (.int xa), .val (.int xb), .val (.int xc), .val (.int xd), .val (.int xe), .val (.int xf), .val (.int (1 : Int32)), .val (.int w40), .val (.int w41), .val (.ref b42), .val (.int xa), .val (.int (0 : Int32)), .val (.int (0 : Int32)), .val (.int w46), .val (.ref b47), .val (.int (w46 + (1 : Int32))), .val (.int (1 : Int32))] [(.int (own_slot (6 : Int32) w46 (1 : Int32) xa (0 : Int32) (0 : Int32) xe ls69_1))]))
    refine own_by (fun _ => XS.ifNo Y78.here hx rfl (hb hby at_514) rfl ((if0 _ _).trans (feq (own_no0 (own_sl1 xe xa w46 (6 : Int32) hls69_1 (own_at1 hw46) (by decide)))).1)) ?_
    show own_Go p e below _ (T78.setTop (mkF m 517 #[.val (.int xa), .val (.int xb), .val (.int xc), .val (.int xd), .val (.int xe), .val (.int xf), .val (.int (1 : Int32)), .val (.int w40), .val (.int w41), .val (.ref b42), .val (.int xa), .val (.int (0 : Int32)), .val (.int (0 : Int32)), .val (.int w46), .val (.ref b47), .val (.int (w46 + (1 : Int32))), .val (.int (1 : Int32))] []))
    refine own_by (fun _ => XS.iconst Y78.here hx rfl (hb hby at_517)) ?_
    show own_Go p e below _ (T78.setTop (mkF m 518 #[.val (.int xa), .val (.int xb), .val (.int xc), .val (.int xd), .val (.int xe), .val (.int xf), .val (.int (1 : Int32)), .val (.int w40), .val (.int w41), .val (.ref b42), .val (.int xa), .val (.int (0 : Int32)), .val (.int (0 : Int32)), .val (.int w46), .val (.ref b47), .val (.int (w46 + (1 : Int32))), .val (.int (1 : Int32))] [(.int (1 : Int32))]))
    refine own_by (fun _ => XS.goto Y78.here hx rfl (pc0 := 518) (pc' := 522) rfl (hb hby at_518) (by decide) (by decide)) ?_
    show own_Go p e below _ (T78.setTop (mkF m 522 #[.val (.int xa), .val (.int xb), .val (.int xc), .val (.int xd), .val (.int xe), .val (.int xf), .val (.int (1 : Int32)), .val (.int w40), .val (.int w41), .val (.ref b42), .val (.int xa), .val (.int (0 : Int32)), .val (.int (0 : Int32)), .val (.int w46), .val (.ref b47), .val (.int (w46 + (1 : Int32))), .val (.int (1 : Int32))] [(.int (1 : Int32))]))
    refine own_by (fun _ => XS.istore Y78.here hx rfl (hb hby at_522) rfl (l' := #[.val (.int xa), .val (.int xb), .val (.int xc), .val (.int xd), .val (.int xe), .val (.int xf), .val (.int (1 : Int32)), .val (.int w40), .val (.int w41), .val (.ref b42), .val (.int xa), .val (.int (0 : Int32)), .val (.int (0 : Int32)), .val (.int w46), .val (.ref b47), .val (.int (w46 + (1 : Int32))), .val (.int (1 : Int32))]) rfl) ?_
    show own_Go p e below _ (T78.setTop (mkF m 524 #[.val (.int xa), .val (.int xb), .val (.int xc), .val (.int xd), .val (.int xe), .val (.int xf), .val (.int (1 : Int32)), .val (.int w40), .val (.int w41), .val (.ref b42), .val (.int xa), .val (.int (0 : Int32)), .val (.int (0 : Int32)), .val (.int w46), .val (.ref b47), .val (.int (w46 + (1 : Int32))), .val (.int (1 : Int32))] []))
    refine own_by (fun _ => XS.iload Y78.here hx rfl (hb hby at_524) rfl) ?_
    show own_Go p e below _ (T78.setTop (mkF m 526 #[.val (.int xa), .val (.int xb), .val (.int xc), .val (.int xd), .val (.int xe), .val (.int xf), .val (.int (1 : Int32)), .val (.int w40), .val (.int w41), .val (.ref b42), .val (.int xa), .val (.int (0 : Int32)), .val (.int (0 : Int32)), .val (.int w46), .val (.ref b47), .val (.int (w46 + (1 : Int32))), .val (.int (1 : Int32))] [(.int (1 : Int32))]))
    refine own_by (fun _ => XS.ifNo Y78.here hx rfl (hb hby at_526) rfl ((if0 _ _).trans (feq (by decide : ¬ ((1 : Int32) = (0 : Int32)))).1)) ?_
    show own_Go p e below _ (T78.setTop (mkF m 529 #[.val (.int xa), .val (.int xb), .val (.int xc), .val (.int xd), .val (.int xe), .val (.int xf), .val (.int (1 : Int32)), .val (.int w40), .val (.int w41), .val (.ref b42), .val (.int xa), .val (.int (0 : Int32)), .val (.int (0 : Int32)), .val (.int w46), .val (.ref b47), .val (.int (w46 + (1 : Int32))), .val (.int (1 : Int32))] []))
    refine own_by (fun _ => XS.aload Y78.here hx rfl (hb hby at_529) rfl rfl) ?_
    show own_Go p e below _ (T78.setTop (mkF m 531 #[.val (.int xa), .val (.int xb), .val (.int xc), .val (.int xd), .val (.int xe), .val (.int xf), .val (.int (1 : Int32)), .val (.int w40), .val (.int w41), .val (.ref b42), .val (.int xa), .val (.int (0 : Int32)), .val (.int (0 : Int32)), .val (.int w46), .val (.ref b47), .val (.int (w46 + (1 : Int32))), .val (.int (1 : Int32))] [(.ref b47)]))
    refine own_by (fun _ => XS.bipush Y78.here hx rfl (hb hby at_531)) ?_
    show own_Go p e below _ (T78.setTop (mkF m 533 #[.val (.int xa), .val (.int xb), .val (.int xc), .val (.int xd), .val (.int xe), .val (.int xf), .val (.int (1 : Int32)), .val (.int w40), .val (.int w41), .val (.ref b42), .val (.int xa), .val (.int (0 : Int32)), .val (.int (0 : Int32)), .val (.int w46), .val (.ref b47), .val (.int (w46 + (1 : Int32))), .val (.int (1 : Int32))] [(.int (7 : Int32)), (.ref b47)]))
    refine own_by (fun _ => XS.iload Y78.here hx rfl (hb hby at_533) rfl) ?_
    show own_Go p e below _ (T78.setTop (mkF m 535 #[.val (.int xa), .val (.int xb), .val (.int xc), .val (.int xd), .val (.int xe), .val (.int xf), .val (.int (1 : Int32)), .val (.int w40), .val (.int w41), .val (.ref b42), .val (.int xa), .val (.int (0 : Int32)), .val (.int (0 : Int32)), .val (.int w46), .val (.ref b47), .val (.int (w46 + (1 : Int32))), .val (.int (1 : Int32))] [(.int w46), (.int (7 : Int32)), (.ref b47)]))
    refine own_by (fun _ => XS.iload Y78.here hx rfl (hb hby at_535) rfl) ?_
    show own_Go p e below _ (T78.setTop (mkF m 537 #[.val (.int xa), .val (.int xb), .val (.int xc), .val (.int xd), .val (.int xe), .val (.int xf), .val (.int (1 : Int32)), .val (.int w40), .val (.int w41), .val (.ref b42), .val (.int xa), .val (.int (0 : Int32)), .val (.int (0 : Int32)), .val (.int w46), .val (.ref b47), .val (.int (w46 + (1 : Int32))), .val (.int (1 : Int32))] [(.int (1 : Int32)), (.int w46), (.int (7 : Int32)), (.ref b47)]))
    refine own_by (fun _ => XS.iload Y78.here hx rfl (hb hby at_537) rfl) ?_
    show own_Go p e below _ (T78.setTop (mkF m 539 #[.val (.int xa), .val (.int xb), .val (.int xc), .val (.int xd), .val (.int xe), .val (.int xf), .val (.int (1 : Int32)), .val (.int w40), .val (.int w41), .val (.ref b42), .val (.int xa), .val (.int (0 : Int32)), .val (.int (0 : Int32)), .val (.int w46), .val (.ref b47), .val (.int (w46 + (1 : Int32))), .val (.int (1 : Int32))] [(.int xa), (.int (1 : Int32)), (.int w46), (.int (7 : Int32)), (.ref b47)]))
    refine own_by (fun _ => XS.iload Y78.here hx rfl (hb hby at_539) rfl) ?_
    show own_Go p e below _ (T78.setTop (mkF m 541 #[.val (.int xa), .val (.int xb), .val (.int xc), .val (.int xd), .val (.int xe), .val (.int xf), .val (.int (1 : Int32)), .val (.int w40), .val (.int w41), .val (.ref b42), .val (.int xa), .val (.int (0 : Int32)), .val (.int (0 : Int32)), .val (.int w46), .val (.ref b47), .val (.int (w46 + (1 : Int32))), .val (.int (1 : Int32))] [(.int (0 : Int32)), (.int xa), (.int (1 : Int32)), (.int w46), (.int (7 : Int32)), (.ref b47)]))
    refine own_by (fun _ => XS.iload Y78.here hx rfl (hb hby at_541) rfl) ?_
    show own_Go p e below _ (T78.setTop (mkF m 543 #[.val (.int xa), .val (.int xb), .val (.int xc), .val (.int xd), .val (.int xe), .val (.int xf), .val (.int (1 : Int32)), .val (.int w40), .val (.int w41), .val (.ref b42), .val (.int xa), .val (.int (0 : Int32)), .val (.int (0 : Int32)), .val (.int w46), .val (.ref b47), .val (.int (w46 + (1 : Int32))), .val (.int (1 : Int32))] [(.int (0 : Int32)), (.int (0 : Int32)), (.int xa), (.int (1 : Int32)), (.int w46), (.int (7 : Int32)), (.ref b47)]))
    refine own_by (fun _ => XS.iload Y78.here hx rfl (hb hby at_543) rfl) ?_
    show own_Go p e below _ (T78.setTop (mkF m 545 #[.val (.int xa), .val (.int xb), .val (.int xc), .val (.int xd), .val (.int xe), .val (.int xf), .val (.int (1 : Int32)), .val (.int w40), .val (.int w41), .val (.ref b42), .val (.int xa), .val (.int (0 : Int32)), .val (.int (0 : Int32)), .val (.int w46), .val (.ref b47), .val (.int (w46 + (1 : Int32))), .val (.int (1 : Int32))] [(.int xe), (.int (0 : Int32)), (.int (0 : Int32)), (.int xa), (.int (1 : Int32)), (.int w46), (.int (7 : Int32)), (.ref b47)]))
    obtain ⟨_, _, ⟨T79, L79, k79, n79⟩, -, X79, ⟨Lc79, hQ79, l79, y79, z79'⟩, st79⟩ := Jvm.LawKit.callS Y78 hx (y := (⟨"com/example/bucketsplit/bucketsplit/core/PageTakeAllPinLaw", "slot", "([IIIIIIII)Z"⟩ : MethodName)) hown (mvT hZ (hw _ (List.mem_of_getElem? (i := 37) rfl))) (mvT hZ (hw _ (List.mem_of_getElem? (i := 38) rfl))) (mvT hZ (hw _ (List.mem_of_getElem? (i := 39) rfl))) (mvT hZ (hw _ (List.mem_of_getElem? (i := 40) rfl))) (by decide) (backOf (W := 0) (own_rm8 l Z a0 hw [] b47 (7 : Int32) w46 (1 : Int32) xa (0 : Int32) (0 : Int32) xe k47 ls69_1 T69.heap n0 z69 fc69_1 (by decide : ¬ ((7 : Int32) < (0 : Int32))) (by decide : (7 : Int32) < (8 : Int32))) hZ (hw _ (List.mem_of_getElem? (i := 40) rfl)) (hw _ (List.mem_of_getElem? (i := 39) rfl)) (by decide) (by decide)) (g := (mkF m 545 #[.val (.int xa), .val (.int xb), .val (.int xc), .val (.int xd), .val (.int xe), .val (.int xf), .val (.int (1 : Int32)), .val (.int w40), .val (.int w41), .val (.ref b42), .val (.int xa), .val (.int (0 : Int32)), .val (.int (0 : Int32)), .val (.int w46), .val (.ref b47), .val (.int (w46 + (1 : Int32))), .val (.int (1 : Int32))] [(.int xe), (.int (0 : Int32)), (.int (0 : Int32)), (.int xa), (.int (1 : Int32)), (.int w46), (.int (7 : Int32)), (.ref b47)])) rfl (by rw [hml]; rfl) (argsL := [(.ref b47), (.int (7 : Int32)), (.int w46), (.int (1 : Int32)), (.int xa), (.int (0 : Int32)), (.int (0 : Int32)), (.int xe)]) (rest := []) (lenOf own_pd3 rfl) rfl (by show 2 * 0 + _ ≤ _; exact Nat.le_of_eq rfl) (hb hby at_545) (fun _ _ => ⟨rfl, e78, (by decide : 3 + 0 ≤ _), (by decide : 14 + 0 ≤ _)⟩)
    dsimp only [Pt.U, Pt.locs, Pt.cells, Pt.slots] at X79 l79 y79 z79' st79 hQ79
    subst l79 y79 z79'
    obtain ⟨rfl, N79q, e79⟩ := hQ79
    have N79 := Fr.app M78 N79q
    refine own_by st79 ?_
    clear st79 Y78
    obtain ⟨lq79, Y79, M79⟩ : ∃ lq, Stand p l e room_1 s m #[(.int xa), (.int xb), (.int xc), (.int xd), (.int xe), (.int xf)] below meth c T79 lq 3 14 ∧ Fr n0 lq := ⟨_, X79, N79⟩
    clear X79 N79
    show own_Go p e below _ (T79.setTop (mkF m 548 #[.val (.int xa), .val (.int xb), .val (.int xc), .val (.int xd), .val (.int xe), .val (.int xf), .val (.int (1 : Int32)), .val (.int w40), .val (.int w41), .val (.ref b42), .val (.int xa), .val (.int (0 : Int32)), .val (.int (0 : Int32)), .val (.int w46), .val (.ref b47), .val (.int (w46 + (1 : Int32))), .val (.int (1 : Int32))] [(.int (own_slot (7 : Int32) w46 (1 : Int32) xa (0 : Int32) (0 : Int32) xe ls69_1))]))
    refine own_by (fun _ => XS.ifNo Y79.here hx rfl (hb hby at_548) rfl ((if0 _ _).trans (feq (own_no0 (own_sl1 xe xa w46 (7 : Int32) hls69_1 (own_at1 hw46) (by decide)))).1)) ?_
    show own_Go p e below _ (T79.setTop (mkF m 551 #[.val (.int xa), .val (.int xb), .val (.int xc), .val (.int xd), .val (.int xe), .val (.int xf), .val (.int (1 : Int32)), .val (.int w40), .val (.int w41), .val (.ref b42), .val (.int xa), .val (.int (0 : Int32)), .val (.int (0 : Int32)), .val (.int w46), .val (.ref b47), .val (.int (w46 + (1 : Int32))), .val (.int (1 : Int32))] []))
    refine own_by (fun _ => XS.iconst Y79.here hx rfl (hb hby at_551)) ?_
    show own_Go p e below _ (T79.setTop (mkF m 552 #[.val (.int xa), .val (.int xb), .val (.int xc), .val (.int xd), .val (.int xe), .val (.int xf), .val (.int (1 : Int32)), .val (.int w40), .val (.int w41), .val (.ref b42), .val (.int xa), .val (.int (0 : Int32)), .val (.int (0 : Int32)), .val (.int w46), .val (.ref b47), .val (.int (w46 + (1 : Int32))), .val (.int (1 : Int32))] [(.int (1 : Int32))]))
    refine own_by (fun _ => XS.goto Y79.here hx rfl (pc0 := 552) (pc' := 556) rfl (hb hby at_552) (by decide) (by decide)) ?_
    show own_Go p e below _ (T79.setTop (mkF m 556 #[.val (.int xa), .val (.int xb), .val (.int xc), .val (.int xd), .val (.int xe), .val (.int xf), .val (.int (1 : Int32)), .val (.int w40), .val (.int w41), .val (.ref b42), .val (.int xa), .val (.int (0 : Int32)), .val (.int (0 : Int32)), .val (.int w46), .val (.ref b47), .val (.int (w46 + (1 : Int32))), .val (.int (1 : Int32))] [(.int (1 : Int32))]))
    refine own_by (fun _ => XS.istore Y79.here hx rfl (hb hby at_556) rfl (l' := #[.val (.int xa), .val (.int xb), .val (.int xc), .val (.int xd), .val (.int xe), .val (.int xf), .val (.int (1 : Int32)), .val (.int w40), .val (.int w41), .val (.ref b42), .val (.int xa), .val (.int (0 : Int32)), .val (.int (0 : Int32)), .val (.int w46), .val (.ref b47), .val (.int (w46 + (1 : Int32))), .val (.int (1 : Int32))]) rfl) ?_
    show own_Go p e below _ (T79.setTop (mkF m 558 #[.val (.int xa), .val (.int xb), .val (.int xc), .val (.int xd), .val (.int xe), .val (.int xf), .val (.int (1 : Int32)), .val (.int w40), .val (.int w41), .val (.ref b42), .val (.int xa), .val (.int (0 : Int32)), .val (.int (0 : Int32)), .val (.int w46), .val (.ref b47), .val (.int (w46 + (1 : Int32))), .val (.int (1 : Int32))] []))
    refine own_by (fun _ => XS.iload Y79.here hx rfl (hb hby at_558) rfl) ?_
    show own_Go p e below _ (T79.setTop (mkF m 560 #[.val (.int xa), .val (.int xb), .val (.int xc), .val (.int xd), .val (.int xe), .val (.int xf), .val (.int (1 : Int32)), .val (.int w40), .val (.int w41), .val (.ref b42), .val (.int xa), .val (.int (0 : Int32)), .val (.int (0 : Int32)), .val (.int w46), .val (.ref b47), .val (.int (w46 + (1 : Int32))), .val (.int (1 : Int32))] [(.int (1 : Int32))]))
    exact own_retZ Y79 hx hlk e79 (by decide) hret (hb hby at_560) (by decide) (by decide) ⟨rfl, M79⟩
  ·
    skip
    rw [hs1]
    show own_Go p e below _ (s₁.setTop (mkF m 4 #[.val (.int xa), .val (.int xb), .val (.int xc), .val (.int xd), .val (.int xe), .val (.int xf), .unset, .unset, .unset, .unset, .unset, .unset, .unset, .unset, .unset, .unset, .unset] [(.int (2 : Int32))]))
    refine own_by (fun _ => XS.istore X0.here hx rfl (hb hby at_4) rfl (l' := #[.val (.int xa), .val (.int xb), .val (.int xc), .val (.int xd), .val (.int xe), .val (.int xf), .val (.int (2 : Int32)), .unset, .unset, .unset, .unset, .unset, .unset, .unset, .unset, .unset, .unset]) rfl) ?_
    show own_Go p e below _ (s₁.setTop (mkF m 6 #[.val (.int xa), .val (.int xb), .val (.int xc), .val (.int xd), .val (.int xe), .val (.int xf), .val (.int (2 : Int32)), .unset, .unset, .unset, .unset, .unset, .unset, .unset, .unset, .unset, .unset] []))
    refine own_by (fun _ => XS.iloadN X0.here hx rfl (hb hby at_6) rfl) ?_
    show own_Go p e below _ (s₁.setTop (mkF m 7 #[.val (.int xa), .val (.int xb), .val (.int xc), .val (.int xd), .val (.int xe), .val (.int xf), .val (.int (2 : Int32)), .unset, .unset, .unset, .unset, .unset, .unset, .unset, .unset, .unset, .unset] [(.int xa)]))
    refine own_by (fun _ => XS.iloadN X0.here hx rfl (hb hby at_7) rfl) ?_
    show own_Go p e below _ (s₁.setTop (mkF m 8 #[.val (.int xa), .val (.int xb), .val (.int xc), .val (.int xd), .val (.int xe), .val (.int xf), .val (.int (2 : Int32)), .unset, .unset, .unset, .unset, .unset, .unset, .unset, .unset, .unset, .unset] [(.int xb), (.int xa)]))
    refine own_by (fun _ => XS.iconst X0.here hx rfl (hb hby at_8)) ?_
    show own_Go p e below _ (s₁.setTop (mkF m 9 #[.val (.int xa), .val (.int xb), .val (.int xc), .val (.int xd), .val (.int xe), .val (.int xf), .val (.int (2 : Int32)), .unset, .unset, .unset, .unset, .unset, .unset, .unset, .unset, .unset, .unset] [(.int (2 : Int32)), (.int xb), (.int xa)]))
    refine own_by (fun _ => XS.ishl X0.here hx rfl (hb hby at_9) rfl) ?_
    show own_Go p e below _ (s₁.setTop (mkF m 10 #[.val (.int xa), .val (.int xb), .val (.int xc), .val (.int xd), .val (.int xe), .val (.int xf), .val (.int (2 : Int32)), .unset, .unset, .unset, .unset, .unset, .unset, .unset, .unset, .unset, .unset] [(.int (xb <<< ((2 : Int32) &&& 31))), (.int xa)]))
    refine own_by (fun _ => XS.iconst X0.here hx rfl (hb hby at_10)) ?_
    show own_Go p e below _ (s₁.setTop (mkF m 11 #[.val (.int xa), .val (.int xb), .val (.int xc), .val (.int xd), .val (.int xe), .val (.int xf), .val (.int (2 : Int32)), .unset, .unset, .unset, .unset, .unset, .unset, .unset, .unset, .unset, .unset] [(.int (1 : Int32)), (.int (xb <<< ((2 : Int32) &&& 31))), (.int xa)]))
    refine own_by (fun _ => XS.ior X0.here hx rfl (hb hby at_11) rfl) ?_
    show own_Go p e below _ (s₁.setTop (mkF m 12 #[.val (.int xa), .val (.int xb), .val (.int xc), .val (.int xd), .val (.int xe), .val (.int xf), .val (.int (2 : Int32)), .unset, .unset, .unset, .unset, .unset, .unset, .unset, .unset, .unset, .unset] [(.int ((xb <<< ((2 : Int32) &&& 31)) ||| (1 : Int32))), (.int xa)]))
    refine own_by (fun _ => XS.ixor X0.here hx rfl (hb hby at_12) rfl) ?_
    show own_Go p e below _ (s₁.setTop (mkF m 13 #[.val (.int xa), .val (.int xb), .val (.int xc), .val (.int xd), .val (.int xe), .val (.int xf), .val (.int (2 : Int32)), .unset, .unset, .unset, .unset, .unset, .unset, .unset, .unset, .unset, .unset] [(.int (xa ^^^ ((xb <<< ((2 : Int32) &&& 31)) ||| (1 : Int32))))]))
    refine own_by (fun _ => XS.istore X0.here hx rfl (hb hby at_13) rfl (l' := #[.val (.int xa), .val (.int xb), .val (.int xc), .val (.int xd), .val (.int xe), .val (.int xf), .val (.int (2 : Int32)), .val (.int (xa ^^^ ((xb <<< ((2 : Int32) &&& 31)) ||| (1 : Int32)))), .unset, .unset, .unset, .unset, .unset, .unset, .unset, .unset, .unset]) rfl) ?_
    show own_Go p e below _ (s₁.setTop (mkF m 15 #[.val (.int xa), .val (.int xb), .val (.int xc), .val (.int xd), .val (.int xe), .val (.int xf), .val (.int (2 : Int32)), .val (.int (xa ^^^ ((xb <<< ((2 : Int32) &&& 31)) ||| (1 : Int32)))), .unset, .unset, .unset, .unset, .unset, .unset, .unset, .unset, .unset] []))
    obtain ⟨w80, hw80⟩ : ∃ z : Int32, z = (xa ^^^ ((xb <<< ((2 : Int32) &&& 31)) ||| (1 : Int32))) := ⟨_, rfl⟩
    rw [← hw80]
    show own_Go p e below _ (s₁.setTop (mkF m 15 #[.val (.int xa), .val (.int xb), .val (.int xc), .val (.int xd), .val (.int xe), .val (.int xf), .val (.int (2 : Int32)), .val (.int w80), .unset, .unset, .unset, .unset, .unset, .unset, .unset, .unset, .unset] []))
    refine own_by (fun _ => XS.iloadN X0.here hx rfl (hb hby at_15) rfl) ?_
    show own_Go p e below _ (s₁.setTop (mkF m 16 #[.val (.int xa), .val (.int xb), .val (.int xc), .val (.int xd), .val (.int xe), .val (.int xf), .val (.int (2 : Int32)), .val (.int w80), .unset, .unset, .unset, .unset, .unset, .unset, .unset, .unset, .unset] [(.int xa)]))
    refine own_by (fun _ => XS.iloadN X0.here hx rfl (hb hby at_16) rfl) ?_
    show own_Go p e below _ (s₁.setTop (mkF m 17 #[.val (.int xa), .val (.int xb), .val (.int xc), .val (.int xd), .val (.int xe), .val (.int xf), .val (.int (2 : Int32)), .val (.int w80), .unset, .unset, .unset, .unset, .unset, .unset, .unset, .unset, .unset] [(.int xc), (.int xa)]))
    refine own_by (fun _ => XS.iconst X0.here hx rfl (hb hby at_17)) ?_
    show own_Go p e below _ (s₁.setTop (mkF m 18 #[.val (.int xa), .val (.int xb), .val (.int xc), .val (.int xd), .val (.int xe), .val (.int xf), .val (.int (2 : Int32)), .val (.int w80), .unset, .unset, .unset, .unset, .unset, .unset, .unset, .unset, .unset] [(.int (2 : Int32)), (.int xc), (.int xa)]))
    refine own_by (fun _ => XS.ishl X0.here hx rfl (hb hby at_18) rfl) ?_
    show own_Go p e below _ (s₁.setTop (mkF m 19 #[.val (.int xa), .val (.int xb), .val (.int xc), .val (.int xd), .val (.int xe), .val (.int xf), .val (.int (2 : Int32)), .val (.int w80), .unset, .unset, .unset, .unset, .unset, .unset, .unset, .unset, .unset] [(.int (xc <<< ((2 : Int32) &&& 31))), (.int xa)]))
    refine own_by (fun _ => XS.iconst X0.here hx rfl (hb hby at_19)) ?_
    show own_Go p e below _ (s₁.setTop (mkF m 20 #[.val (.int xa), .val (.int xb), .val (.int xc), .val (.int xd), .val (.int xe), .val (.int xf), .val (.int (2 : Int32)), .val (.int w80), .unset, .unset, .unset, .unset, .unset, .unset, .unset, .unset, .unset] [(.int (2 : Int32)), (.int (xc <<< ((2 : Int32) &&& 31))), (.int xa)]))
    refine own_by (fun _ => XS.ior X0.here hx rfl (hb hby at_20) rfl) ?_
    show own_Go p e below _ (s₁.setTop (mkF m 21 #[.val (.int xa), .val (.int xb), .val (.int xc), .val (.int xd), .val (.int xe), .val (.int xf), .val (.int (2 : Int32)), .val (.int w80), .unset, .unset, .unset, .unset, .unset, .unset, .unset, .unset, .unset] [(.int ((xc <<< ((2 : Int32) &&& 31)) ||| (2 : Int32))), (.int xa)]))
    refine own_by (fun _ => XS.ixor X0.here hx rfl (hb hby at_21) rfl) ?_
    show own_Go p e below _ (s₁.setTop (mkF m 22 #[.val (.int xa), .val (.int xb), .val (.int xc), .val (.int xd), .val (.int xe), .val (.int xf), .val (.int (2 : Int32)), .val (.int w80), .unset, .unset, .unset, .unset, .unset, .unset, .unset, .unset, .unset] [(.int (xa ^^^ ((xc <<< ((2 : Int32) &&& 31)) ||| (2 : Int32))))]))
    refine own_by (fun _ => XS.istore X0.here hx rfl (hb hby at_22) rfl (l' := #[.val (.int xa), .val (.int xb), .val (.int xc), .val (.int xd), .val (.int xe), .val (.int xf), .val (.int (2 : Int32)), .val (.int w80), .val (.int (xa ^^^ ((xc <<< ((2 : Int32) &&& 31)) ||| (2 : Int32)))), .unset, .unset, .unset, .unset, .unset, .unset, .unset, .unset]) rfl) ?_
    show own_Go p e below _ (s₁.setTop (mkF m 24 #[.val (.int xa), .val (.int xb), .val (.int xc), .val (.int xd), .val (.int xe), .val (.int xf), .val (.int (2 : Int32)), .val (.int w80), .val (.int (xa ^^^ ((xc <<< ((2 : Int32) &&& 31)) ||| (2 : Int32)))), .unset, .unset, .unset, .unset, .unset, .unset, .unset, .unset] []))
    obtain ⟨w81, hw81⟩ : ∃ z : Int32, z = (xa ^^^ ((xc <<< ((2 : Int32) &&& 31)) ||| (2 : Int32))) := ⟨_, rfl⟩
    rw [← hw81]
    show own_Go p e below _ (s₁.setTop (mkF m 24 #[.val (.int xa), .val (.int xb), .val (.int xc), .val (.int xd), .val (.int xe), .val (.int xf), .val (.int (2 : Int32)), .val (.int w80), .val (.int w81), .unset, .unset, .unset, .unset, .unset, .unset, .unset, .unset] []))
    obtain ⟨T82, h82, X82, e82, E82, A82, D82, -, st82⟩ := newO X0 hx hZ hown (hw _ (List.mem_of_getElem? (i := 0) rfl)) (hw _ (List.mem_of_getElem? (i := 1) rfl)) (hw _ (List.mem_of_getElem? (i := 2) rfl)) e0 (g := (mkF m 24 #[.val (.int xa), .val (.int xb), .val (.int xc), .val (.int xd), .val (.int xe), .val (.int xf), .val (.int (2 : Int32)), .val (.int w80), .val (.int w81), .unset, .unset, .unset, .unset, .unset, .unset, .unset, .unset] [])) rfl (hb hby at_24) (by decide) (by decide)
    obtain ⟨b82, g82⟩ : ∃ z, z = h0.size := ⟨_, rfl⟩
    rw [← g82] at A82 D82 st82
    refine own_by st82 ?_
    clear st82 X0
    have ge82 : n0 ≤ b82 := Nat.le_trans Z0 (Nat.le_of_eq g82.symm)
    have z82 : n0 ≤ h82.size := Nat.le_trans Z0 E82.1
    have fz82_mKeys : Fld Z h82 b82 "com/example/bucketsplit/bucketsplit/core/Page" "mKeys" "[I" .null := D82 (Or.inl (hw _ (List.mem_of_getElem? (i := 11) rfl))) (ty := (.array .int)) (by decide)
    have fz82_mSize : Fld Z h82 b82 "com/example/bucketsplit/bucketsplit/core/Page" "mSize" "I" (.int (0 : Int32)) := D82 (Or.inl (hw _ (List.mem_of_getElem? (i := 18) rfl))) (ty := .int) (by decide)
    show own_Go p e below _ (T82.setTop (mkF m 27 #[.val (.int xa), .val (.int xb), .val (.int xc), .val (.int xd), .val (.int xe), .val (.int xf), .val (.int (2 : Int32)), .val (.int w80), .val (.int w81), .unset, .unset, .unset, .unset, .unset, .unset, .unset, .unset] [(.ref b82)]))
    refine own_by (fun _ => XS.dup X82.here hx rfl (hb hby at_27) rfl rfl) ?_
    show own_Go p e below _ (T82.setTop (mkF m 28 #[.val (.int xa), .val (.int xb), .val (.int xc), .val (.int xd), .val (.int xe), .val (.int xf), .val (.int (2 : Int32)), .val (.int w80), .val (.int w81), .unset, .unset, .unset, .unset, .unset, .unset, .unset, .unset] [(.ref b82), (.ref b82)]))
    obtain ⟨_, _, ⟨T83, L83, k83, n83⟩, -, X83, ⟨Lc83, hQ83, l83, y83, z83'⟩, st83⟩ := X82.specialBack hx (y := (⟨"com/example/bucketsplit/bucketsplit/core/Page", "<init>", "()V"⟩ : MethodName)) rfl hown (mvT hZ (hw _ (List.mem_of_getElem? (i := 3) rfl))) (mvT hZ (hw _ (List.mem_of_getElem? (i := 4) rfl))) (mvT hZ (hw _ (List.mem_of_getElem? (i := 5) rfl))) (by decide) (backOf (W := 1) (own_rm1 l Z a0 hw [] b82 .null h82 n0 z82 A82 fz82_mKeys fz82_mSize ge82) hZ (hw _ (List.mem_of_getElem? (i := 5) rfl)) (hw _ (List.mem_of_getElem? (i := 2) rfl)) (by decide) (by decide)) (g := (mkF m 28 #[.val (.int xa), .val (.int xb), .val (.int xc), .val (.int xd), .val (.int xe), .val (.int xf), .val (.int (2 : Int32)), .val (.int w80), .val (.int w81), .unset, .unset, .unset, .unset, .unset, .unset, .unset, .unset] [(.ref b82), (.ref b82)])) rfl (by rw [hml]; rfl) (Steps.refl _) (a := b82) (argsL := []) (rest := [(.ref b82)]) (lenOf own_pd0 rfl) rfl (by show 2 * 0 + _ ≤ _; exact Nat.le_of_eq rfl) (hb hby at_28) (fun _ _ => ⟨rfl, e82, (by decide : 1 + 1 ≤ _), (by decide : 2 + 4 ≤ _)⟩)
    dsimp only [Pt.U, Pt.locs, Pt.cells, Pt.slots] at X83 l83 y83 z83' st83 hQ83
    subst l83 y83 z83'
    obtain ⟨kx_83, kk_83, rfl, N83q, Kc83, fc83_0, fc83_1, fc83_2, xc83_0⟩ := hQ83
    have N83 := Fr.app N0 N83q
    refine own_tr st83 ?_
    clear st83 X82
    obtain ⟨lq83, Y83, M83⟩ : ∃ lq, Stand p l e room_1 s m #[(.int xa), (.int xb), (.int xc), (.int xd), (.int xe), (.int xf)] below meth c T83 lq 2 6 ∧ Fr n0 lq := ⟨_, X83, N83⟩
    clear X83 N83
    have ge_kx_83 : n0 ≤ kx_83 := Nat.le_trans z82 xc83_0
    have ne83_b82 : b82 ≠ kx_83 := Nat.ne_of_lt (Nat.lt_of_lt_of_le A82.lt xc83_0)
    have z83 : n0 ≤ T83.heap.size := Nat.le_trans z82 Kc83.1
    show own_Go p e below _ (T83.setTop (mkF m 31 #[.val (.int xa), .val (.int xb), .val (.int xc), .val (.int xd), .val (.int xe), .val (.int xf), .val (.int (2 : Int32)), .val (.int w80), .val (.int w81), .unset, .unset, .unset, .unset, .unset, .unset, .unset, .unset] [(.ref b82)]))
    refine own_by (fun _ => XS.astore Y83.here hx rfl (hb hby at_31) rfl rfl (l' := #[.val (.int xa), .val (.int xb), .val (.int xc), .val (.int xd), .val (.int xe), .val (.int xf), .val (.int (2 : Int32)), .val (.int w80), .val (.int w81), .val (.ref b82), .unset, .unset, .unset, .unset, .unset, .unset, .unset]) rfl) ?_
    show own_Go p e below _ (T83.setTop (mkF m 33 #[.val (.int xa), .val (.int xb), .val (.int xc), .val (.int xd), .val (.int xe), .val (.int xf), .val (.int (2 : Int32)), .val (.int w80), .val (.int w81), .val (.ref b82), .unset, .unset, .unset, .unset, .unset, .unset, .unset] []))
    refine own_by (fun _ => XS.iload Y83.here hx rfl (hb hby at_33) rfl) ?_
    show own_Go p e below _ (T83.setTop (mkF m 35 #[.val (.int xa), .val (.int xb), .val (.int xc), .val (.int xd), .val (.int xe), .val (.int xf), .val (.int (2 : Int32)), .val (.int w80), .val (.int w81), .val (.ref b82), .unset, .unset, .unset, .unset, .unset, .unset, .unset] [(.int (2 : Int32))]))
    refine own_by (fun _ => XS.iconst Y83.here hx rfl (hb hby at_35)) ?_
    show own_Go p e below _ (T83.setTop (mkF m 36 #[.val (.int xa), .val (.int xb), .val (.int xc), .val (.int xd), .val (.int xe), .val (.int xf), .val (.int (2 : Int32)), .val (.int w80), .val (.int w81), .val (.ref b82), .unset, .unset, .unset, .unset, .unset, .unset, .unset] [(.int (1 : Int32)), (.int (2 : Int32))]))
    refine own_by (fun _ => XS.icmpNo Y83.here hx rfl (hb hby at_36) rfl (flt (by decide : ¬ ((2 : Int32) < (1 : Int32)))).1) ?_
    show own_Go p e below _ (T83.setTop (mkF m 39 #[.val (.int xa), .val (.int xb), .val (.int xc), .val (.int xd), .val (.int xe), .val (.int xf), .val (.int (2 : Int32)), .val (.int w80), .val (.int w81), .val (.ref b82), .unset, .unset, .unset, .unset, .unset, .unset, .unset] []))
    refine own_by (fun _ => XS.aload Y83.here hx rfl (hb hby at_39) rfl rfl) ?_
    show own_Go p e below _ (T83.setTop (mkF m 41 #[.val (.int xa), .val (.int xb), .val (.int xc), .val (.int xd), .val (.int xe), .val (.int xf), .val (.int (2 : Int32)), .val (.int w80), .val (.int w81), .val (.ref b82), .unset, .unset, .unset, .unset, .unset, .unset, .unset] [(.ref b82)]))
    refine own_by (fun _ => XS.iloadN Y83.here hx rfl (hb hby at_41) rfl) ?_
    show own_Go p e below _ (T83.setTop (mkF m 42 #[.val (.int xa), .val (.int xb), .val (.int xc), .val (.int xd), .val (.int xe), .val (.int xf), .val (.int (2 : Int32)), .val (.int w80), .val (.int w81), .val (.ref b82), .unset, .unset, .unset, .unset, .unset, .unset, .unset] [(.int xa), (.ref b82)]))
    have f84 : Exa Z T83.heap b82 "com/example/bucketsplit/bucketsplit/core/Page" := (A82.keep Kc83)
    obtain ⟨cq85, kq85, q85a, q85b, q85c⟩ := isOf hZ rfl f84
    obtain ⟨_, _, ⟨T85, L85, k85, n85⟩, -, X85, ⟨Lc85, hQ85, l85, y85, z85'⟩, st85⟩ := Y83.virtualBack hx (y := (⟨"com/example/bucketsplit/bucketsplit/core/Page", "add", "(I)V"⟩ : MethodName)) (z := (⟨"com/example/bucketsplit/bucketsplit/core/Page", "add", "(I)V"⟩ : MethodName)) hown (mvT hZ (hw _ (List.mem_of_getElem? (i := 12) rfl))) (mvT hZ (hw _ (List.mem_of_getElem? (i := 13) rfl))) (notFace_of_selects (args := #[]) (mvT hZ (hw _ (List.mem_of_getElem? (i := 15) rfl)))) (mvT hZ (hw _ (List.mem_of_getElem? (i := 15) rfl))) (mvT hZ (hw _ (List.mem_of_getElem? (i := 14) rfl))) (by decide) (backOf (W := 0) (own_rm3_0 l Z a0 hw [] b82 xa kx_83 kk_83 (0 : Int32) (0 : Int32) (0 : Int32) (0 : Int32) T83.heap n0 z83 f84 fc83_0 fc83_1 fc83_2 ne83_b82 ge82 ge_kx_83) hZ (hw _ (List.mem_of_getElem? (i := 16) rfl)) (hw _ (List.mem_of_getElem? (i := 2) rfl)) (by decide) (by decide)) q85a q85c (g := (mkF m 42 #[.val (.int xa), .val (.int xb), .val (.int xc), .val (.int xd), .val (.int xe), .val (.int xf), .val (.int (2 : Int32)), .val (.int w80), .val (.int w81), .val (.ref b82), .unset, .unset, .unset, .unset, .unset, .unset, .unset] [(.int xa), (.ref b82)])) rfl (by rw [hml]; rfl) (Steps.refl _) (argsL := [(.int xa)]) (rest := []) (lenOf own_pd4 rfl) rfl (by show 2 * 0 + _ ≤ _; exact Nat.le_of_eq rfl) (hb hby at_42) (fun _ _ => ⟨rfl, rfl, (by decide : 2 + 0 ≤ _), (by decide : 6 + 0 ≤ _)⟩)
    dsimp only [Pt.U, Pt.locs, Pt.cells, Pt.slots] at X85 l85 y85 z85' st85 hQ85
    subst l85 y85 z85'
    obtain ⟨rfl, N85q, Kc85, fc85_0, fc85_1, fc85_2⟩ := hQ85
    have N85 := Fr.app M83 N85q
    refine own_tr st85 ?_
    clear st85 Y83
    obtain ⟨lq85, Y85, M85⟩ : ∃ lq, Stand p l e room_1 s m #[(.int xa), (.int xb), (.int xc), (.int xd), (.int xe), (.int xf)] below meth c T85 lq 2 6 ∧ Fr n0 lq := ⟨_, X85, N85⟩
    clear X85 N85
    have z85 : n0 ≤ T85.heap.size := Nat.le_trans z83 Kc85.1
    show own_Go p e below _ (T85.setTop (mkF m 45 #[.val (.int xa), .val (.int xb), .val (.int xc), .val (.int xd), .val (.int xe), .val (.int xf), .val (.int (2 : Int32)), .val (.int w80), .val (.int w81), .val (.ref b82), .unset, .unset, .unset, .unset, .unset, .unset, .unset] []))
    refine own_by (fun _ => XS.iload Y85.here hx rfl (hb hby at_45) rfl) ?_
    show own_Go p e below _ (T85.setTop (mkF m 47 #[.val (.int xa), .val (.int xb), .val (.int xc), .val (.int xd), .val (.int xe), .val (.int xf), .val (.int (2 : Int32)), .val (.int w80), .val (.int w81), .val (.ref b82), .unset, .unset, .unset, .unset, .unset, .unset, .unset] [(.int (2 : Int32))]))
    refine own_by (fun _ => XS.iconst Y85.here hx rfl (hb hby at_47)) ?_
    show own_Go p e below _ (T85.setTop (mkF m 48 #[.val (.int xa), .val (.int xb), .val (.int xc), .val (.int xd), .val (.int xe), .val (.int xf), .val (.int (2 : Int32)), .val (.int w80), .val (.int w81), .val (.ref b82), .unset, .unset, .unset, .unset, .unset, .unset, .unset] [(.int (2 : Int32)), (.int (2 : Int32))]))
    refine own_by (fun _ => XS.icmpNo Y85.here hx rfl (hb hby at_48) rfl (flt (by decide : ¬ ((2 : Int32) < (2 : Int32)))).1) ?_
    show own_Go p e below _ (T85.setTop (mkF m 51 #[.val (.int xa), .val (.int xb), .val (.int xc), .val (.int xd), .val (.int xe), .val (.int xf), .val (.int (2 : Int32)), .val (.int w80), .val (.int w81), .val (.ref b82), .unset, .unset, .unset, .unset, .unset, .unset, .unset] []))
    refine own_by (fun _ => XS.aload Y85.here hx rfl (hb hby at_51) rfl rfl) ?_
    show own_Go p e below _ (T85.setTop (mkF m 53 #[.val (.int xa), .val (.int xb), .val (.int xc), .val (.int xd), .val (.int xe), .val (.int xf), .val (.int (2 : Int32)), .val (.int w80), .val (.int w81), .val (.ref b82), .unset, .unset, .unset, .unset, .unset, .unset, .unset] [(.ref b82)]))
    refine own_by (fun _ => XS.iload Y85.here hx rfl (hb hby at_53) rfl) ?_
    show own_Go p e below _ (T85.setTop (mkF m 55 #[.val (.int xa), .val (.int xb), .val (.int xc), .val (.int xd), .val (.int xe), .val (.int xf), .val (.int (2 : Int32)), .val (.int w80), .val (.int w81), .val (.ref b82), .unset, .unset, .unset, .unset, .unset, .unset, .unset] [(.int w80), (.ref b82)]))
    have f86 : Exa Z T85.heap b82 "com/example/bucketsplit/bucketsplit/core/Page" := (f84.keep Kc85)
    obtain ⟨cq87, kq87, q87a, q87b, q87c⟩ := isOf hZ rfl f86
    obtain ⟨_, _, ⟨T87, L87, k87, n87⟩, -, X87, ⟨Lc87, hQ87, l87, y87, z87'⟩, st87⟩ := Y85.virtualBack hx (y := (⟨"com/example/bucketsplit/bucketsplit/core/Page", "add", "(I)V"⟩ : MethodName)) (z := (⟨"com/example/bucketsplit/bucketsplit/core/Page", "add", "(I)V"⟩ : MethodName)) hown (mvT hZ (hw _ (List.mem_of_getElem? (i := 12) rfl))) (mvT hZ (hw _ (List.mem_of_getElem? (i := 13) rfl))) (notFace_of_selects (args := #[]) (mvT hZ (hw _ (List.mem_of_getElem? (i := 15) rfl)))) (mvT hZ (hw _ (List.mem_of_getElem? (i := 15) rfl))) (mvT hZ (hw _ (List.mem_of_getElem? (i := 14) rfl))) (by decide) (backOf (W := 0) (own_rm3_1 l Z a0 hw [] b82 w80 kx_83 kk_83 xa (0 : Int32) (0 : Int32) (0 : Int32) T85.heap n0 z85 f86 fc85_0 fc85_1 fc85_2 ne83_b82 ge82 ge_kx_83) hZ (hw _ (List.mem_of_getElem? (i := 16) rfl)) (hw _ (List.mem_of_getElem? (i := 2) rfl)) (by decide) (by decide)) q87a q87c (g := (mkF m 55 #[.val (.int xa), .val (.int xb), .val (.int xc), .val (.int xd), .val (.int xe), .val (.int xf), .val (.int (2 : Int32)), .val (.int w80), .val (.int w81), .val (.ref b82), .unset, .unset, .unset, .unset, .unset, .unset, .unset] [(.int w80), (.ref b82)])) rfl (by rw [hml]; rfl) (Steps.refl _) (argsL := [(.int w80)]) (rest := []) (lenOf own_pd4 rfl) rfl (by show 2 * 0 + _ ≤ _; exact Nat.le_of_eq rfl) (hb hby at_55) (fun _ _ => ⟨rfl, rfl, (by decide : 2 + 0 ≤ _), (by decide : 6 + 0 ≤ _)⟩)
    dsimp only [Pt.U, Pt.locs, Pt.cells, Pt.slots] at X87 l87 y87 z87' st87 hQ87
    subst l87 y87 z87'
    obtain ⟨rfl, N87q, Kc87, fc87_0, fc87_1, fc87_2⟩ := hQ87
    have N87 := Fr.app M85 N87q
    refine own_tr st87 ?_
    clear st87 Y85
    obtain ⟨lq87, Y87, M87⟩ : ∃ lq, Stand p l e room_1 s m #[(.int xa), (.int xb), (.int xc), (.int xd), (.int xe), (.int xf)] below meth c T87 lq 2 6 ∧ Fr n0 lq := ⟨_, X87, N87⟩
    clear X87 N87
    have z87 : n0 ≤ T87.heap.size := Nat.le_trans z85 Kc87.1
    show own_Go p e below _ (T87.setTop (mkF m 58 #[.val (.int xa), .val (.int xb), .val (.int xc), .val (.int xd), .val (.int xe), .val (.int xf), .val (.int (2 : Int32)), .val (.int w80), .val (.int w81), .val (.ref b82), .unset, .unset, .unset, .unset, .unset, .unset, .unset] []))
    refine own_by (fun _ => XS.iload Y87.here hx rfl (hb hby at_58) rfl) ?_
    show own_Go p e below _ (T87.setTop (mkF m 60 #[.val (.int xa), .val (.int xb), .val (.int xc), .val (.int xd), .val (.int xe), .val (.int xf), .val (.int (2 : Int32)), .val (.int w80), .val (.int w81), .val (.ref b82), .unset, .unset, .unset, .unset, .unset, .unset, .unset] [(.int (2 : Int32))]))
    refine own_by (fun _ => XS.iconst Y87.here hx rfl (hb hby at_60)) ?_
    show own_Go p e below _ (T87.setTop (mkF m 61 #[.val (.int xa), .val (.int xb), .val (.int xc), .val (.int xd), .val (.int xe), .val (.int xf), .val (.int (2 : Int32)), .val (.int w80), .val (.int w81), .val (.ref b82), .unset, .unset, .unset, .unset, .unset, .unset, .unset] [(.int (3 : Int32)), (.int (2 : Int32))]))
    refine own_by (fun _ => XS.icmpYes Y87.here hx rfl (pc0 := 61) (pc' := 71) rfl (hb hby at_61) rfl (tlt (by decide : (2 : Int32) < (3 : Int32))).1 (by decide) (by decide)) ?_
    show own_Go p e below _ (T87.setTop (mkF m 71 #[.val (.int xa), .val (.int xb), .val (.int xc), .val (.int xd), .val (.int xe), .val (.int xf), .val (.int (2 : Int32)), .val (.int w80), .val (.int w81), .val (.ref b82), .unset, .unset, .unset, .unset, .unset, .unset, .unset] []))
    refine own_by (fun _ => XS.iconst Y87.here hx rfl (hb hby at_71)) ?_
    show own_Go p e below _ (T87.setTop (mkF m 72 #[.val (.int xa), .val (.int xb), .val (.int xc), .val (.int xd), .val (.int xe), .val (.int xf), .val (.int (2 : Int32)), .val (.int w80), .val (.int w81), .val (.ref b82), .unset, .unset, .unset, .unset, .unset, .unset, .unset] [(.int (0 : Int32))]))
    refine own_by (fun _ => XS.istore Y87.here hx rfl (hb hby at_72) rfl (l' := #[.val (.int xa), .val (.int xb), .val (.int xc), .val (.int xd), .val (.int xe), .val (.int xf), .val (.int (2 : Int32)), .val (.int w80), .val (.int w81), .val (.ref b82), .val (.int (0 : Int32)), .unset, .unset, .unset, .unset, .unset, .unset]) rfl) ?_
    show own_Go p e below _ (T87.setTop (mkF m 74 #[.val (.int xa), .val (.int xb), .val (.int xc), .val (.int xd), .val (.int xe), .val (.int xf), .val (.int (2 : Int32)), .val (.int w80), .val (.int w81), .val (.ref b82), .val (.int (0 : Int32)), .unset, .unset, .unset, .unset, .unset, .unset] []))
    refine own_by (fun _ => XS.iconst Y87.here hx rfl (hb hby at_74)) ?_
    show own_Go p e below _ (T87.setTop (mkF m 75 #[.val (.int xa), .val (.int xb), .val (.int xc), .val (.int xd), .val (.int xe), .val (.int xf), .val (.int (2 : Int32)), .val (.int w80), .val (.int w81), .val (.ref b82), .val (.int (0 : Int32)), .unset, .unset, .unset, .unset, .unset, .unset] [(.int (0 : Int32))]))
    refine own_by (fun _ => XS.istore Y87.here hx rfl (hb hby at_75) rfl (l' := #[.val (.int xa), .val (.int xb), .val (.int xc), .val (.int xd), .val (.int xe), .val (.int xf), .val (.int (2 : Int32)), .val (.int w80), .val (.int w81), .val (.ref b82), .val (.int (0 : Int32)), .val (.int (0 : Int32)), .unset, .unset, .unset, .unset, .unset]) rfl) ?_
    show own_Go p e below _ (T87.setTop (mkF m 77 #[.val (.int xa), .val (.int xb), .val (.int xc), .val (.int xd), .val (.int xe), .val (.int xf), .val (.int (2 : Int32)), .val (.int w80), .val (.int w81), .val (.ref b82), .val (.int (0 : Int32)), .val (.int (0 : Int32)), .unset, .unset, .unset, .unset, .unset] []))
    refine own_by (fun _ => XS.iconst Y87.here hx rfl (hb hby at_77)) ?_
    show own_Go p e below _ (T87.setTop (mkF m 78 #[.val (.int xa), .val (.int xb), .val (.int xc), .val (.int xd), .val (.int xe), .val (.int xf), .val (.int (2 : Int32)), .val (.int w80), .val (.int w81), .val (.ref b82), .val (.int (0 : Int32)), .val (.int (0 : Int32)), .unset, .unset, .unset, .unset, .unset] [(.int (0 : Int32))]))
    refine own_by (fun _ => XS.istore Y87.here hx rfl (hb hby at_78) rfl (l' := #[.val (.int xa), .val (.int xb), .val (.int xc), .val (.int xd), .val (.int xe), .val (.int xf), .val (.int (2 : Int32)), .val (.int w80), .val (.int w81), .val (.ref b82), .val (.int (0 : Int32)), .val (.int (0 : Int32)), .val (.int (0 : Int32)), .unset, .unset, .unset, .unset]) rfl) ?_
    show own_Go p e below _ (T87.setTop (mkF m 80 #[.val (.int xa), .val (.int xb), .val (.int xc), .val (.int xd), .val (.int xe), .val (.int xf), .val (.int (2 : Int32)), .val (.int w80), .val (.int w81), .val (.ref b82), .val (.int (0 : Int32)), .val (.int (0 : Int32)), .val (.int (0 : Int32)), .unset, .unset, .unset, .unset] []))
    refine own_by (fun _ => XS.iload Y87.here hx rfl (hb hby at_80) rfl) ?_
    show own_Go p e below _ (T87.setTop (mkF m 82 #[.val (.int xa), .val (.int xb), .val (.int xc), .val (.int xd), .val (.int xe), .val (.int xf), .val (.int (2 : Int32)), .val (.int w80), .val (.int w81), .val (.ref b82), .val (.int (0 : Int32)), .val (.int (0 : Int32)), .val (.int (0 : Int32)), .unset, .unset, .unset, .unset] [(.int (2 : Int32))]))
    refine own_by (fun _ => XS.iconst Y87.here hx rfl (hb hby at_82)) ?_
    show own_Go p e below _ (T87.setTop (mkF m 83 #[.val (.int xa), .val (.int xb), .val (.int xc), .val (.int xd), .val (.int xe), .val (.int xf), .val (.int (2 : Int32)), .val (.int w80), .val (.int w81), .val (.ref b82), .val (.int (0 : Int32)), .val (.int (0 : Int32)), .val (.int (0 : Int32)), .unset, .unset, .unset, .unset] [(.int (1 : Int32)), (.int (2 : Int32))]))
    refine own_by (fun _ => XS.icmpYes Y87.here hx rfl (pc0 := 83) (pc' := 92) rfl (hb hby at_83) rfl (feq (by decide : ¬ ((2 : Int32) = (1 : Int32)))).2 (by decide) (by decide)) ?_
    show own_Go p e below _ (T87.setTop (mkF m 92 #[.val (.int xa), .val (.int xb), .val (.int xc), .val (.int xd), .val (.int xe), .val (.int xf), .val (.int (2 : Int32)), .val (.int w80), .val (.int w81), .val (.ref b82), .val (.int (0 : Int32)), .val (.int (0 : Int32)), .val (.int (0 : Int32)), .unset, .unset, .unset, .unset] []))
    refine own_by (fun _ => XS.iload Y87.here hx rfl (hb hby at_92) rfl) ?_
    show own_Go p e below _ (T87.setTop (mkF m 94 #[.val (.int xa), .val (.int xb), .val (.int xc), .val (.int xd), .val (.int xe), .val (.int xf), .val (.int (2 : Int32)), .val (.int w80), .val (.int w81), .val (.ref b82), .val (.int (0 : Int32)), .val (.int (0 : Int32)), .val (.int (0 : Int32)), .unset, .unset, .unset, .unset] [(.int (2 : Int32))]))
    refine own_by (fun _ => XS.iconst Y87.here hx rfl (hb hby at_94)) ?_
    show own_Go p e below _ (T87.setTop (mkF m 95 #[.val (.int xa), .val (.int xb), .val (.int xc), .val (.int xd), .val (.int xe), .val (.int xf), .val (.int (2 : Int32)), .val (.int w80), .val (.int w81), .val (.ref b82), .val (.int (0 : Int32)), .val (.int (0 : Int32)), .val (.int (0 : Int32)), .unset, .unset, .unset, .unset] [(.int (2 : Int32)), (.int (2 : Int32))]))
    refine own_by (fun _ => XS.icmpNo Y87.here hx rfl (hb hby at_95) rfl (teq (by decide : (2 : Int32) = (2 : Int32))).2) ?_
    show own_Go p e below _ (T87.setTop (mkF m 98 #[.val (.int xa), .val (.int xb), .val (.int xc), .val (.int xd), .val (.int xe), .val (.int xf), .val (.int (2 : Int32)), .val (.int w80), .val (.int w81), .val (.ref b82), .val (.int (0 : Int32)), .val (.int (0 : Int32)), .val (.int (0 : Int32)), .unset, .unset, .unset, .unset] []))
    refine own_by (fun _ => XS.iloadN Y87.here hx rfl (hb hby at_98) rfl) ?_
    show own_Go p e below _ (T87.setTop (mkF m 99 #[.val (.int xa), .val (.int xb), .val (.int xc), .val (.int xd), .val (.int xe), .val (.int xf), .val (.int (2 : Int32)), .val (.int w80), .val (.int w81), .val (.ref b82), .val (.int (0 : Int32)), .val (.int (0 : Int32)), .val (.int (0 : Int32)), .unset, .unset, .unset, .unset] [(.int xa)]))
    refine own_by (fun _ => XS.iload Y87.here hx rfl (hb hby at_99) rfl) ?_
    show own_Go p e below _ (T87.setTop (mkF m 101 #[.val (.int xa), .val (.int xb), .val (.int xc), .val (.int xd), .val (.int xe), .val (.int xf), .val (.int (2 : Int32)), .val (.int w80), .val (.int w81), .val (.ref b82), .val (.int (0 : Int32)), .val (.int (0 : Int32)), .val (.int (0 : Int32)), .unset, .unset, .unset, .unset] [(.int w80), (.int xa)]))
    obtain ⟨_, _, ⟨T88, L88, k88, n88⟩, -, X88, ⟨Lc88, hQ88, l88, y88, z88'⟩, st88⟩ := Jvm.LawKit.callS Y87 hx (y := (⟨"java/lang/Math", "min", "(II)I"⟩ : MethodName)) hown (mvT hZ (hw _ (List.mem_of_getElem? (i := 19) rfl))) (mvT hZ (hw _ (List.mem_of_getElem? (i := 20) rfl))) (mvT hZ (hw _ (List.mem_of_getElem? (i := 21) rfl))) (mvT hZ (hw _ (List.mem_of_getElem? (i := 22) rfl))) (by decide) (backOf (W := 0) (own_rm4 l Z a0 hw [] xa w80 T87.heap n0 z87 ) hZ (hw _ (List.mem_of_getElem? (i := 22) rfl)) (hw _ (List.mem_of_getElem? (i := 21) rfl)) (by decide) (by decide)) (g := (mkF m 101 #[.val (.int xa), .val (.int xb), .val (.int xc), .val (.int xd), .val (.int xe), .val (.int xf), .val (.int (2 : Int32)), .val (.int w80), .val (.int w81), .val (.ref b82), .val (.int (0 : Int32)), .val (.int (0 : Int32)), .val (.int (0 : Int32)), .unset, .unset, .unset, .unset] [(.int w80), (.int xa)])) rfl (by rw [hml]; rfl) (argsL := [(.int xa), (.int w80)]) (rest := []) (lenOf own_pd5 rfl) rfl (by show 2 * 0 + _ ≤ _; exact Nat.le_of_eq rfl) (hb hby at_101) (fun _ _ => ⟨rfl, rfl, (by decide : 2 + 0 ≤ _), (by decide : 6 + 0 ≤ _)⟩)
    dsimp only [Pt.U, Pt.locs, Pt.cells, Pt.slots] at X88 l88 y88 z88' st88 hQ88
    subst l88 y88 z88'
    obtain ⟨rfl, N88q, e88⟩ := hQ88
    have N88 := Fr.app M87 N88q
    refine own_by st88 ?_
    clear st88 Y87
    obtain ⟨lq88, Y88, M88⟩ : ∃ lq, Stand p l e room_1 s m #[(.int xa), (.int xb), (.int xc), (.int xd), (.int xe), (.int xf)] below meth c T88 lq 2 6 ∧ Fr n0 lq := ⟨_, X88, N88⟩
    clear X88 N88
    show own_Go p e below _ (T88.setTop (mkF m 104 #[.val (.int xa), .val (.int xb), .val (.int xc), .val (.int xd), .val (.int xe), .val (.int xf), .val (.int (2 : Int32)), .val (.int w80), .val (.int w81), .val (.ref b82), .val (.int (0 : Int32)), .val (.int (0 : Int32)), .val (.int (0 : Int32)), .unset, .unset, .unset, .unset] [(.int (own_min xa w80))]))
    refine own_by (fun _ => XS.istore Y88.here hx rfl (hb hby at_104) rfl (l' := #[.val (.int xa), .val (.int xb), .val (.int xc), .val (.int xd), .val (.int xe), .val (.int xf), .val (.int (2 : Int32)), .val (.int w80), .val (.int w81), .val (.ref b82), .val (.int (own_min xa w80)), .val (.int (0 : Int32)), .val (.int (0 : Int32)), .unset, .unset, .unset, .unset]) rfl) ?_
    show own_Go p e below _ (T88.setTop (mkF m 106 #[.val (.int xa), .val (.int xb), .val (.int xc), .val (.int xd), .val (.int xe), .val (.int xf), .val (.int (2 : Int32)), .val (.int w80), .val (.int w81), .val (.ref b82), .val (.int (own_min xa w80)), .val (.int (0 : Int32)), .val (.int (0 : Int32)), .unset, .unset, .unset, .unset] []))
    refine own_by (fun _ => XS.iloadN Y88.here hx rfl (hb hby at_106) rfl) ?_
    show own_Go p e below _ (T88.setTop (mkF m 107 #[.val (.int xa), .val (.int xb), .val (.int xc), .val (.int xd), .val (.int xe), .val (.int xf), .val (.int (2 : Int32)), .val (.int w80), .val (.int w81), .val (.ref b82), .val (.int (own_min xa w80)), .val (.int (0 : Int32)), .val (.int (0 : Int32)), .unset, .unset, .unset, .unset] [(.int xa)]))
    refine own_by (fun _ => XS.iload Y88.here hx rfl (hb hby at_107) rfl) ?_
    show own_Go p e below _ (T88.setTop (mkF m 109 #[.val (.int xa), .val (.int xb), .val (.int xc), .val (.int xd), .val (.int xe), .val (.int xf), .val (.int (2 : Int32)), .val (.int w80), .val (.int w81), .val (.ref b82), .val (.int (own_min xa w80)), .val (.int (0 : Int32)), .val (.int (0 : Int32)), .unset, .unset, .unset, .unset] [(.int w80), (.int xa)]))
    obtain ⟨_, _, ⟨T89, L89, k89, n89⟩, -, X89, ⟨Lc89, hQ89, l89, y89, z89'⟩, st89⟩ := Jvm.LawKit.callS Y88 hx (y := (⟨"java/lang/Math", "max", "(II)I"⟩ : MethodName)) hown (mvT hZ (hw _ (List.mem_of_getElem? (i := 23) rfl))) (mvT hZ (hw _ (List.mem_of_getElem? (i := 24) rfl))) (mvT hZ (hw _ (List.mem_of_getElem? (i := 21) rfl))) (mvT hZ (hw _ (List.mem_of_getElem? (i := 25) rfl))) (by decide) (backOf (W := 0) (own_rm5 l Z a0 hw [] xa w80 T87.heap n0 z87 ) hZ (hw _ (List.mem_of_getElem? (i := 25) rfl)) (hw _ (List.mem_of_getElem? (i := 21) rfl)) (by decide) (by decide)) (g := (mkF m 109 #[.val (.int xa), .val (.int xb), .val (.int xc), .val (.int xd), .val (.int xe), .val (.int xf), .val (.int (2 : Int32)), .val (.int w80), .val (.int w81), .val (.ref b82), .val (.int (own_min xa w80)), .val (.int (0 : Int32)), .val (.int (0 : Int32)), .unset, .unset, .unset, .unset] [(.int w80), (.int xa)])) rfl (by rw [hml]; rfl) (argsL := [(.int xa), (.int w80)]) (rest := []) (lenOf own_pd5 rfl) rfl (by show 2 * 0 + _ ≤ _; exact Nat.le_of_eq rfl) (hb hby at_109) (fun _ _ => ⟨rfl, e88, (by decide : 2 + 0 ≤ _), (by decide : 6 + 0 ≤ _)⟩)
    dsimp only [Pt.U, Pt.locs, Pt.cells, Pt.slots] at X89 l89 y89 z89' st89 hQ89
    subst l89 y89 z89'
    obtain ⟨rfl, N89q, e89⟩ := hQ89
    have N89 := Fr.app M88 N89q
    refine own_by st89 ?_
    clear st89 Y88
    obtain ⟨lq89, Y89, M89⟩ : ∃ lq, Stand p l e room_1 s m #[(.int xa), (.int xb), (.int xc), (.int xd), (.int xe), (.int xf)] below meth c T89 lq 2 6 ∧ Fr n0 lq := ⟨_, X89, N89⟩
    clear X89 N89
    show own_Go p e below _ (T89.setTop (mkF m 112 #[.val (.int xa), .val (.int xb), .val (.int xc), .val (.int xd), .val (.int xe), .val (.int xf), .val (.int (2 : Int32)), .val (.int w80), .val (.int w81), .val (.ref b82), .val (.int (own_min xa w80)), .val (.int (0 : Int32)), .val (.int (0 : Int32)), .unset, .unset, .unset, .unset] [(.int (own_max xa w80))]))
    refine own_by (fun _ => XS.istore Y89.here hx rfl (hb hby at_112) rfl (l' := #[.val (.int xa), .val (.int xb), .val (.int xc), .val (.int xd), .val (.int xe), .val (.int xf), .val (.int (2 : Int32)), .val (.int w80), .val (.int w81), .val (.ref b82), .val (.int (own_min xa w80)), .val (.int (own_max xa w80)), .val (.int (0 : Int32)), .unset, .unset, .unset, .unset]) rfl) ?_
    show own_Go p e below _ (T89.setTop (mkF m 114 #[.val (.int xa), .val (.int xb), .val (.int xc), .val (.int xd), .val (.int xe), .val (.int xf), .val (.int (2 : Int32)), .val (.int w80), .val (.int w81), .val (.ref b82), .val (.int (own_min xa w80)), .val (.int (own_max xa w80)), .val (.int (0 : Int32)), .unset, .unset, .unset, .unset] []))
    refine own_by (fun _ => XS.goto Y89.here hx rfl (pc0 := 114) (pc' := 172) rfl (hb hby at_114) (by decide) (by decide)) ?_
    show own_Go p e below _ (T89.setTop (mkF m 172 #[.val (.int xa), .val (.int xb), .val (.int xc), .val (.int xd), .val (.int xe), .val (.int xf), .val (.int (2 : Int32)), .val (.int w80), .val (.int w81), .val (.ref b82), .val (.int (own_min xa w80)), .val (.int (own_max xa w80)), .val (.int (0 : Int32)), .unset, .unset, .unset, .unset] []))
    refine own_by (fun _ => XS.iloadN Y89.here hx rfl (hb hby at_172) rfl) ?_
    show own_Go p e below _ (T89.setTop (mkF m 173 #[.val (.int xa), .val (.int xb), .val (.int xc), .val (.int xd), .val (.int xe), .val (.int xf), .val (.int (2 : Int32)), .val (.int w80), .val (.int w81), .val (.ref b82), .val (.int (own_min xa w80)), .val (.int (own_max xa w80)), .val (.int (0 : Int32)), .unset, .unset, .unset, .unset] [(.int xd)]))
    refine own_by (Y89.ldcInt hx hown (mvT hZ (hw _ (List.mem_of_getElem? (i := 26) rfl))) (g := (mkF m 173 #[.val (.int xa), .val (.int xb), .val (.int xc), .val (.int xd), .val (.int xe), .val (.int xf), .val (.int (2 : Int32)), .val (.int w80), .val (.int w81), .val (.ref b82), .val (.int (own_min xa w80)), .val (.int (own_max xa w80)), .val (.int (0 : Int32)), .unset, .unset, .unset, .unset] [(.int xd)])) rfl (hb hby at_173)) ?_
    show own_Go p e below _ (T89.setTop (mkF m 175 #[.val (.int xa), .val (.int xb), .val (.int xc), .val (.int xd), .val (.int xe), .val (.int xf), .val (.int (2 : Int32)), .val (.int w80), .val (.int w81), .val (.ref b82), .val (.int (own_min xa w80)), .val (.int (own_max xa w80)), .val (.int (0 : Int32)), .unset, .unset, .unset, .unset] [(.int (2147483647 : Int32)), (.int xd)]))
    refine own_by (fun _ => XS.iand Y89.here hx rfl (hb hby at_175) rfl) ?_
    show own_Go p e below _ (T89.setTop (mkF m 176 #[.val (.int xa), .val (.int xb), .val (.int xc), .val (.int xd), .val (.int xe), .val (.int xf), .val (.int (2 : Int32)), .val (.int w80), .val (.int w81), .val (.ref b82), .val (.int (own_min xa w80)), .val (.int (own_max xa w80)), .val (.int (0 : Int32)), .unset, .unset, .unset, .unset] [(.int (xd &&& (2147483647 : Int32)))]))
    refine own_by (fun _ => XS.bipush Y89.here hx rfl (hb hby at_176)) ?_
    show own_Go p e below _ (T89.setTop (mkF m 178 #[.val (.int xa), .val (.int xb), .val (.int xc), .val (.int xd), .val (.int xe), .val (.int xf), .val (.int (2 : Int32)), .val (.int w80), .val (.int w81), .val (.ref b82), .val (.int (own_min xa w80)), .val (.int (own_max xa w80)), .val (.int (0 : Int32)), .unset, .unset, .unset, .unset] [(.int (9 : Int32)), (.int (xd &&& (2147483647 : Int32)))]))
    refine own_by (fun _ => XS.iload Y89.here hx rfl (hb hby at_178) rfl) ?_
    show own_Go p e below _ (T89.setTop (mkF m 180 #[.val (.int xa), .val (.int xb), .val (.int xc), .val (.int xd), .val (.int xe), .val (.int xf), .val (.int (2 : Int32)), .val (.int w80), .val (.int w81), .val (.ref b82), .val (.int (own_min xa w80)), .val (.int (own_max xa w80)), .val (.int (0 : Int32)), .unset, .unset, .unset, .unset] [(.int (2 : Int32)), (.int (9 : Int32)), (.int (xd &&& (2147483647 : Int32)))]))
    refine own_by (fun _ => XS.isub Y89.here hx rfl (hb hby at_180) rfl) ?_
    show own_Go p e below _ (T89.setTop (mkF m 181 #[.val (.int xa), .val (.int xb), .val (.int xc), .val (.int xd), .val (.int xe), .val (.int xf), .val (.int (2 : Int32)), .val (.int w80), .val (.int w81), .val (.ref b82), .val (.int (own_min xa w80)), .val (.int (own_max xa w80)), .val (.int (0 : Int32)), .unset, .unset, .unset, .unset] [(.int (7 : Int32)), (.int (xd &&& (2147483647 : Int32)))]))
    refine own_by (fun _ => iremM Y89 hx rfl (hb hby at_181) rfl (by decide)) ?_
    show own_Go p e below _ (T89.setTop (mkF m 182 #[.val (.int xa), .val (.int xb), .val (.int xc), .val (.int xd), .val (.int xe), .val (.int xf), .val (.int (2 : Int32)), .val (.int w80), .val (.int w81), .val (.ref b82), .val (.int (own_min xa w80)), .val (.int (own_max xa w80)), .val (.int (0 : Int32)), .unset, .unset, .unset, .unset] [(.int ((xd &&& (2147483647 : Int32)) % (7 : Int32)))]))
    refine own_by (fun _ => XS.istore Y89.here hx rfl (hb hby at_182) rfl (l' := #[.val (.int xa), .val (.int xb), .val (.int xc), .val (.int xd), .val (.int xe), .val (.int xf), .val (.int (2 : Int32)), .val (.int w80), .val (.int w81), .val (.ref b82), .val (.int (own_min xa w80)), .val (.int (own_max xa w80)), .val (.int (0 : Int32)), .val (.int ((xd &&& (2147483647 : Int32)) % (7 : Int32))), .unset, .unset, .unset]) rfl) ?_
    show own_Go p e below _ (T89.setTop (mkF m 184 #[.val (.int xa), .val (.int xb), .val (.int xc), .val (.int xd), .val (.int xe), .val (.int xf), .val (.int (2 : Int32)), .val (.int w80), .val (.int w81), .val (.ref b82), .val (.int (own_min xa w80)), .val (.int (own_max xa w80)), .val (.int (0 : Int32)), .val (.int ((xd &&& (2147483647 : Int32)) % (7 : Int32))), .unset, .unset, .unset] []))
    obtain ⟨w90, hw90⟩ : ∃ z : Int32, z = ((xd &&& (2147483647 : Int32)) % (7 : Int32)) := ⟨_, rfl⟩
    rw [← hw90]
    show own_Go p e below _ (T89.setTop (mkF m 184 #[.val (.int xa), .val (.int xb), .val (.int xc), .val (.int xd), .val (.int xe), .val (.int xf), .val (.int (2 : Int32)), .val (.int w80), .val (.int w81), .val (.ref b82), .val (.int (own_min xa w80)), .val (.int (own_max xa w80)), .val (.int (0 : Int32)), .val (.int w90), .unset, .unset, .unset] []))
    refine own_by (fun _ => XS.bipush Y89.here hx rfl (hb hby at_184)) ?_
    show own_Go p e below _ (T89.setTop (mkF m 186 #[.val (.int xa), .val (.int xb), .val (.int xc), .val (.int xd), .val (.int xe), .val (.int xf), .val (.int (2 : Int32)), .val (.int w80), .val (.int w81), .val (.ref b82), .val (.int (own_min xa w80)), .val (.int (own_max xa w80)), .val (.int (0 : Int32)), .val (.int w90), .unset, .unset, .unset] [(.int (8 : Int32))]))
    obtain ⟨T91, h91, k91, X91, e91, E91, A91, st91⟩ := newP Y89 hx hZ (hw _ (List.mem_of_getElem? (i := 9) rfl)) e89 (g := (mkF m 186 #[.val (.int xa), .val (.int xb), .val (.int xc), .val (.int xd), .val (.int xe), .val (.int xf), .val (.int (2 : Int32)), .val (.int w80), .val (.int w81), .val (.ref b82), .val (.int (own_min xa w80)), .val (.int (own_max xa w80)), .val (.int (0 : Int32)), .val (.int w90), .unset, .unset, .unset] [(.int (8 : Int32))])) rfl (hb hby at_186) rfl (by decide) (cap := 8) (by decide) (by decide) (by decide) (by decide)
    obtain ⟨b91, g91⟩ : ∃ z, z = T87.heap.size := ⟨_, rfl⟩
    rw [← g91] at A91 st91
    refine own_by st91 ?_
    clear st91 Y89
    have ge91 : n0 ≤ b91 := Nat.le_trans z87 (Nat.le_of_eq g91.symm)
    have f92 : Exa Z T87.heap b82 "com/example/bucketsplit/bucketsplit/core/Page" := (f86.keep Kc87)
    have ne91_b82 : b82 ≠ b91 := Nat.ne_of_lt (Nat.lt_of_lt_of_le f92.lt (Nat.le_of_eq g91.symm))
    have ne91_kx_83 : kx_83 ≠ b91 := Nat.ne_of_lt (Nat.lt_of_lt_of_le fc87_2.lt (Nat.le_of_eq g91.symm))
    have z91 : n0 ≤ h91.size := Nat.le_trans z87 E91.1
    have va91 : Arv Z h91 b91 k91 .int (8 : Int32) [(.int (0 : Int32)), (.int (0 : Int32)), (.int (0 : Int32)), (.int (0 : Int32)), (.int (0 : Int32)), (.int (0 : Int32)), (.int (0 : Int32)), (.int (0 : Int32))] (.int (0 : Int32)) := (Arv.new A91 (by decide)).pad (pad_rep [] (.int (0 : Int32)) 8)
    show own_Go p e below _ (T91.setTop (mkF m 188 #[.val (.int xa), .val (.int xb), .val (.int xc), .val (.int xd), .val (.int xe), .val (.int xf), .val (.int (2 : Int32)), .val (.int w80), .val (.int w81), .val (.ref b82), .val (.int (own_min xa w80)), .val (.int (own_max xa w80)), .val (.int (0 : Int32)), .val (.int w90), .unset, .unset, .unset] [(.ref b91)]))
    refine own_by (fun _ => XS.astore X91.here hx rfl (hb hby at_188) rfl rfl (l' := #[.val (.int xa), .val (.int xb), .val (.int xc), .val (.int xd), .val (.int xe), .val (.int xf), .val (.int (2 : Int32)), .val (.int w80), .val (.int w81), .val (.ref b82), .val (.int (own_min xa w80)), .val (.int (own_max xa w80)), .val (.int (0 : Int32)), .val (.int w90), .val (.ref b91), .unset, .unset]) rfl) ?_
    show own_Go p e below _ (T91.setTop (mkF m 190 #[.val (.int xa), .val (.int xb), .val (.int xc), .val (.int xd), .val (.int xe), .val (.int xf), .val (.int (2 : Int32)), .val (.int w80), .val (.int w81), .val (.ref b82), .val (.int (own_min xa w80)), .val (.int (own_max xa w80)), .val (.int (0 : Int32)), .val (.int w90), .val (.ref b91), .unset, .unset] []))
    refine own_by (fun _ => XS.aload X91.here hx rfl (hb hby at_190) rfl rfl) ?_
    show own_Go p e below _ (T91.setTop (mkF m 192 #[.val (.int xa), .val (.int xb), .val (.int xc), .val (.int xd), .val (.int xe), .val (.int xf), .val (.int (2 : Int32)), .val (.int w80), .val (.int w81), .val (.ref b82), .val (.int (own_min xa w80)), .val (.int (own_max xa w80)), .val (.int (0 : Int32)), .val (.int w90), .val (.ref b91), .unset, .unset] [(.ref b91)]))
    refine own_by (fun _ => XS.iconst X91.here hx rfl (hb hby at_192)) ?_
    show own_Go p e below _ (T91.setTop (mkF m 193 #[.val (.int xa), .val (.int xb), .val (.int xc), .val (.int xd), .val (.int xe), .val (.int xf), .val (.int (2 : Int32)), .val (.int w80), .val (.int w81), .val (.ref b82), .val (.int (own_min xa w80)), .val (.int (own_max xa w80)), .val (.int (0 : Int32)), .val (.int w90), .val (.ref b91), .unset, .unset] [(.int (0 : Int32)), (.ref b91)]))
    refine own_by (fun _ => XS.iload X91.here hx rfl (hb hby at_193) rfl) ?_
    show own_Go p e below _ (T91.setTop (mkF m 195 #[.val (.int xa), .val (.int xb), .val (.int xc), .val (.int xd), .val (.int xe), .val (.int xf), .val (.int (2 : Int32)), .val (.int w80), .val (.int w81), .val (.ref b82), .val (.int (own_min xa w80)), .val (.int (own_max xa w80)), .val (.int (0 : Int32)), .val (.int w90), .val (.ref b91), .unset, .unset] [(.int xe), (.int (0 : Int32)), (.ref b91)]))
    obtain ⟨cl93, ar93, q93, sz93, nn93, hs93, gs93⟩ := id va91
    have hin93 : ¬ ((0 : Int32) < 0 ∨ cl93.slots.size ≤ ((0 : Int32)).toNatClampNeg) := inb_of sz93 ⟨by decide, by decide⟩
    obtain ⟨T94, h94, X94, e94, W94, st94⟩ := stI X91 hx hZ e91 ar93 (j := (0 : Int32)) hin93 (g := (mkF m 195 #[.val (.int xa), .val (.int xb), .val (.int xc), .val (.int xd), .val (.int xe), .val (.int xf), .val (.int (2 : Int32)), .val (.int w80), .val (.int w81), .val (.ref b82), .val (.int (own_min xa w80)), .val (.int (own_max xa w80)), .val (.int (0 : Int32)), .val (.int w90), .val (.ref b91), .unset, .unset] [(.int xe), (.int (0 : Int32)), (.ref b91)])) rfl rfl (hb hby at_195)
    refine own_by st94 ?_
    clear st94 X91
    have va94 : Arv Z h94 b91 k91 .int (8 : Int32) [(.int xe), (.int (0 : Int32)), (.int (0 : Int32)), (.int (0 : Int32)), (.int (0 : Int32)), (.int (0 : Int32)), (.int (0 : Int32)), (.int (0 : Int32))] (.int (0 : Int32)) := Arv.set ar93 q93 sz93 nn93 hs93 gs93 rfl W94 0 rfl (Nat.le_of_ble_eq_true rfl)
    have z94 : n0 ≤ h94.size := Nat.le_trans z91 (Keep.of_wr W94).1
    have N94 := Fr.snoc X94 M89 ge91
    obtain ⟨lq94, Y94, M94⟩ : ∃ lq, Stand p l e room_1 s m #[(.int xa), (.int xb), (.int xc), (.int xd), (.int xe), (.int xf)] below meth c T94 lq 3 14 ∧ Fr n0 lq := ⟨_, X94, N94⟩
    clear X94 N94
    show own_Go p e below _ (T94.setTop (mkF m 196 #[.val (.int xa), .val (.int xb), .val (.int xc), .val (.int xd), .val (.int xe), .val (.int xf), .val (.int (2 : Int32)), .val (.int w80), .val (.int w81), .val (.ref b82), .val (.int (own_min xa w80)), .val (.int (own_max xa w80)), .val (.int (0 : Int32)), .val (.int w90), .val (.ref b91), .unset, .unset] []))
    refine own_by (fun _ => XS.aload Y94.here hx rfl (hb hby at_196) rfl rfl) ?_
    show own_Go p e below _ (T94.setTop (mkF m 198 #[.val (.int xa), .val (.int xb), .val (.int xc), .val (.int xd), .val (.int xe), .val (.int xf), .val (.int (2 : Int32)), .val (.int w80), .val (.int w81), .val (.ref b82), .val (.int (own_min xa w80)), .val (.int (own_max xa w80)), .val (.int (0 : Int32)), .val (.int w90), .val (.ref b91), .unset, .unset] [(.ref b91)]))
    refine own_by (fun _ => XS.iconst Y94.here hx rfl (hb hby at_198)) ?_
    show own_Go p e below _ (T94.setTop (mkF m 199 #[.val (.int xa), .val (.int xb), .val (.int xc), .val (.int xd), .val (.int xe), .val (.int xf), .val (.int (2 : Int32)), .val (.int w80), .val (.int w81), .val (.ref b82), .val (.int (own_min xa w80)), .val (.int (own_max xa w80)), .val (.int (0 : Int32)), .val (.int w90), .val (.ref b91), .unset, .unset] [(.int (1 : Int32)), (.ref b91)]))
    refine own_by (fun _ => XS.iload Y94.here hx rfl (hb hby at_199) rfl) ?_
    show own_Go p e below _ (T94.setTop (mkF m 201 #[.val (.int xa), .val (.int xb), .val (.int xc), .val (.int xd), .val (.int xe), .val (.int xf), .val (.int (2 : Int32)), .val (.int w80), .val (.int w81), .val (.ref b82), .val (.int (own_min xa w80)), .val (.int (own_max xa w80)), .val (.int (0 : Int32)), .val (.int w90), .val (.ref b91), .unset, .unset] [(.int xe), (.int (1 : Int32)), (.ref b91)]))
    refine own_by (fun _ => XS.iconst Y94.here hx rfl (hb hby at_201)) ?_
    show own_Go p e below _ (T94.setTop (mkF m 202 #[.val (.int xa), .val (.int xb), .val (.int xc), .val (.int xd), .val (.int xe), .val (.int xf), .val (.int (2 : Int32)), .val (.int w80), .val (.int w81), .val (.ref b82), .val (.int (own_min xa w80)), .val (.int (own_max xa w80)), .val (.int (0 : Int32)), .val (.int w90), .val (.ref b91), .unset, .unset] [(.int (1 : Int32)), (.int xe), (.int (1 : Int32)), (.ref b91)]))
    refine own_by (fun _ => XS.iadd Y94.here hx rfl (hb hby at_202) rfl) ?_
    show own_Go p e below _ (T94.setTop (mkF m 203 #[.val (.int xa), .val (.int xb), .val (.int xc), .val (.int xd), .val (.int xe), .val (.int xf), .val (.int (2 : Int32)), .val (.int w80), .val (.int w81), .val (.ref b82), .val (.int (own_min xa w80)), .val (.int (own_max xa w80)), .val (.int (0 : Int32)), .val (.int w90), .val (.ref b91), .unset, .unset] [(.int (xe + (1 : Int32))), (.int (1 : Int32)), (.ref b91)]))
    obtain ⟨cl95, ar95, q95, sz95, nn95, hs95, gs95⟩ := id va94
    have hin95 : ¬ ((1 : Int32) < 0 ∨ cl95.slots.size ≤ ((1 : Int32)).toNatClampNeg) := inb_of sz95 ⟨by decide, by decide⟩
    obtain ⟨T96, h96, X96, e96, W96, st96⟩ := stI Y94 hx hZ e94 ar95 (j := (1 : Int32)) hin95 (g := (mkF m 203 #[.val (.int xa), .val (.int xb), .val (.int xc), .val (.int xd), .val (.int xe), .val (.int xf), .val (.int (2 : Int32)), .val (.int w80), .val (.int w81), .val (.ref b82), .val (.int (own_min xa w80)), .val (.int (own_max xa w80)), .val (.int (0 : Int32)), .val (.int w90), .val (.ref b91), .unset, .unset] [(.int (xe + (1 : Int32))), (.int (1 : Int32)), (.ref b91)])) rfl rfl (hb hby at_203)
    refine own_by st96 ?_
    clear st96 Y94
    have va96 : Arv Z h96 b91 k91 .int (8 : Int32) [(.int xe), (.int (xe + (1 : Int32))), (.int (0 : Int32)), (.int (0 : Int32)), (.int (0 : Int32)), (.int (0 : Int32)), (.int (0 : Int32)), (.int (0 : Int32))] (.int (0 : Int32)) := Arv.set ar95 q95 sz95 nn95 hs95 gs95 rfl W96 1 rfl (Nat.le_of_ble_eq_true rfl)
    have z96 : n0 ≤ h96.size := Nat.le_trans z94 (Keep.of_wr W96).1
    have N96 := Fr.snoc X96 M94 ge91
    obtain ⟨lq96, Y96, M96⟩ : ∃ lq, Stand p l e room_1 s m #[(.int xa), (.int xb), (.int xc), (.int xd), (.int xe), (.int xf)] below meth c T96 lq 3 14 ∧ Fr n0 lq := ⟨_, X96, N96⟩
    clear X96 N96
    show own_Go p e below _ (T96.setTop (mkF m 204 #[.val (.int xa), .val (.int xb), .val (.int xc), .val (.int xd), .val (.int xe), .val (.int xf), .val (.int (2 : Int32)), .val (.int w80), .val (.int w81), .val (.ref b82), .val (.int (own_min xa w80)), .val (.int (own_max xa w80)), .val (.int (0 : Int32)), .val (.int w90), .val (.ref b91), .unset, .unset] []))
    refine own_by (fun _ => XS.aload Y96.here hx rfl (hb hby at_204) rfl rfl) ?_
    show own_Go p e below _ (T96.setTop (mkF m 206 #[.val (.int xa), .val (.int xb), .val (.int xc), .val (.int xd), .val (.int xe), .val (.int xf), .val (.int (2 : Int32)), .val (.int w80), .val (.int w81), .val (.ref b82), .val (.int (own_min xa w80)), .val (.int (own_max xa w80)), .val (.int (0 : Int32)), .val (.int w90), .val (.ref b91), .unset, .unset] [(.ref b91)]))
    refine own_by (fun _ => XS.iconst Y96.here hx rfl (hb hby at_206)) ?_
    show own_Go p e below _ (T96.setTop (mkF m 207 #[.val (.int xa), .val (.int xb), .val (.int xc), .val (.int xd), .val (.int xe), .val (.int xf), .val (.int (2 : Int32)), .val (.int w80), .val (.int w81), .val (.ref b82), .val (.int (own_min xa w80)), .val (.int (own_max xa w80)), .val (.int (0 : Int32)), .val (.int w90), .val (.ref b91), .unset, .unset] [(.int (2 : Int32)), (.ref b91)]))
    refine own_by (fun _ => XS.iload Y96.here hx rfl (hb hby at_207) rfl) ?_
    show own_Go p e below _ (T96.setTop (mkF m 209 #[.val (.int xa), .val (.int xb), .val (.int xc), .val (.int xd), .val (.int xe), .val (.int xf), .val (.int (2 : Int32)), .val (.int w80), .val (.int w81), .val (.ref b82), .val (.int (own_min xa w80)), .val (.int (own_max xa w80)), .val (.int (0 : Int32)), .val (.int w90), .val (.ref b91), .unset, .unset] [(.int xe), (.int (2 : Int32)), (.ref b91)]))
    refine own_by (fun _ => XS.iconst Y96.here hx rfl (hb hby at_209)) ?_
    show own_Go p e below _ (T96.setTop (mkF m 210 #[.val (.int xa), .val (.int xb), .val (.int xc), .val (.int xd), .val (.int xe), .val (.int xf), .val (.int (2 : Int32)), .val (.int w80), .val (.int w81), .val (.ref b82), .val (.int (own_min xa w80)), .val (.int (own_max xa w80)), .val (.int (0 : Int32)), .val (.int w90), .val (.ref b91), .unset, .unset] [(.int (2 : Int32)), (.int xe), (.int (2 : Int32)), (.ref b91)]))
    refine own_by (fun _ => XS.iadd Y96.here hx rfl (hb hby at_210) rfl) ?_
    show own_Go p e below _ (T96.setTop (mkF m 211 #[.val (.int xa), .val (.int xb), .val (.int xc), .val (.int xd), .val (.int xe), .val (.int xf), .val (.int (2 : Int32)), .val (.int w80), .val (.int w81), .val (.ref b82), .val (.int (own_min xa w80)), .val (.int (own_max xa w80)), .val (.int (0 : Int32)), .val (.int w90), .val (.ref b91), .unset, .unset] [(.int (xe + (2 : Int32))), (.int (2 : Int32)), (.ref b91)]))
    obtain ⟨cl97, ar97, q97, sz97, nn97, hs97, gs97⟩ := id va96
    have hin97 : ¬ ((2 : Int32) < 0 ∨ cl97.slots.size ≤ ((2 : Int32)).toNatClampNeg) := inb_of sz97 ⟨by decide, by decide⟩
    obtain ⟨T98, h98, X98, e98, W98, st98⟩ := stI Y96 hx hZ e96 ar97 (j := (2 : Int32)) hin97 (g := (mkF m 211 #[.val (.int xa), .val (.int xb), .val (.int xc), .val (.int xd), .val (.int xe), .val (.int xf), .val (.int (2 : Int32)), .val (.int w80), .val (.int w81), .val (.ref b82), .val (.int (own_min xa w80)), .val (.int (own_max xa w80)), .val (.int (0 : Int32)), .val (.int w90), .val (.ref b91), .unset, .unset] [(.int (xe + (2 : Int32))), (.int (2 : Int32)), (.ref b91)])) rfl rfl (hb hby at_211)
    refine own_by st98 ?_
    clear st98 Y96
    have va98 : Arv Z h98 b91 k91 .int (8 : Int32) [(.int xe), (.int (xe + (1 : Int32))), (.int (xe + (2 : Int32))), (.int (0 : Int32)), (.int (0 : Int32)), (.int (0 : Int32)), (.int (0 : Int32)), (.int (0 : Int32))] (.int (0 : Int32)) := Arv.set ar97 q97 sz97 nn97 hs97 gs97 rfl W98 2 rfl (Nat.le_of_ble_eq_true rfl)
    have z98 : n0 ≤ h98.size := Nat.le_trans z96 (Keep.of_wr W98).1
    have N98 := Fr.snoc X98 M96 ge91
    obtain ⟨lq98, Y98, M98⟩ : ∃ lq, Stand p l e room_1 s m #[(.int xa), (.int xb), (.int xc), (.int xd), (.int xe), (.int xf)] below meth c T98 lq 3 14 ∧ Fr n0 lq := ⟨_, X98, N98⟩
    clear X98 N98
    show own_Go p e below _ (T98.setTop (mkF m 212 #[.val (.int xa), .val (.int xb), .val (.int xc), .val (.int xd), .val (.int xe), .val (.int xf), .val (.int (2 : Int32)), .val (.int w80), .val (.int w81), .val (.ref b82), .val (.int (own_min xa w80)), .val (.int (own_max xa w80)), .val (.int (0 : Int32)), .val (.int w90), .val (.ref b91), .unset, .unset] []))
    refine own_by (fun _ => XS.aload Y98.here hx rfl (hb hby at_212) rfl rfl) ?_
    show own_Go p e below _ (T98.setTop (mkF m 214 #[.val (.int xa), .val (.int xb), .val (.int xc), .val (.int xd), .val (.int xe), .val (.int xf), .val (.int (2 : Int32)), .val (.int w80), .val (.int w81), .val (.ref b82), .val (.int (own_min xa w80)), .val (.int (own_max xa w80)), .val (.int (0 : Int32)), .val (.int w90), .val (.ref b91), .unset, .unset] [(.ref b91)]))
    refine own_by (fun _ => XS.iconst Y98.here hx rfl (hb hby at_214)) ?_
    show own_Go p e below _ (T98.setTop (mkF m 215 #[.val (.int xa), .val (.int xb), .val (.int xc), .val (.int xd), .val (.int xe), .val (.int xf), .val (.int (2 : Int32)), .val (.int w80), .val (.int w81), .val (.ref b82), .val (.int (own_min xa w80)), .val (.int (own_max xa w80)), .val (.int (0 : Int32)), .val (.int w90), .val (.ref b91), .unset, .unset] [(.int (3 : Int32)), (.ref b91)]))
    refine own_by (fun _ => XS.iload Y98.here hx rfl (hb hby at_215) rfl) ?_
    show own_Go p e below _ (T98.setTop (mkF m 217 #[.val (.int xa), .val (.int xb), .val (.int xc), .val (.int xd), .val (.int xe), .val (.int xf), .val (.int (2 : Int32)), .val (.int w80), .val (.int w81), .val (.ref b82), .val (.int (own_min xa w80)), .val (.int (own_max xa w80)), .val (.int (0 : Int32)), .val (.int w90), .val (.ref b91), .unset, .unset] [(.int xe), (.int (3 : Int32)), (.ref b91)]))
    refine own_by (fun _ => XS.iconst Y98.here hx rfl (hb hby at_217)) ?_
    show own_Go p e below _ (T98.setTop (mkF m 218 #[.val (.int xa), .val (.int xb), .val (.int xc), .val (.int xd), .val (.int xe), .val (.int xf), .val (.int (2 : Int32)), .val (.int w80), .val (.int w81), .val (.ref b82), .val (.int (own_min xa w80)), .val (.int (own_max xa w80)), .val (.int (0 : Int32)), .val (.int w90), .val (.ref b91), .unset, .unset] [(.int (3 : Int32)), (.int xe), (.int (3 : Int32)), (.ref b91)]))
    refine own_by (fun _ => XS.iadd Y98.here hx rfl (hb hby at_218) rfl) ?_
    show own_Go p e below _ (T98.setTop (mkF m 219 #[.val (.int xa), .val (.int xb), .val (.int xc), .val (.int xd), .val (.int xe), .val (.int xf), .val (.int (2 : Int32)), .val (.int w80), .val (.int w81), .val (.ref b82), .val (.int (own_min xa w80)), .val (.int (own_max xa w80)), .val (.int (0 : Int32)), .val (.int w90), .val (.ref b91), .unset, .unset] [(.int (xe + (3 : Int32))), (.int (3 : Int32)), (.ref b91)]))
    obtain ⟨cl99, ar99, q99, sz99, nn99, hs99, gs99⟩ := id va98
    have hin99 : ¬ ((3 : Int32) < 0 ∨ cl99.slots.size ≤ ((3 : Int32)).toNatClampNeg) := inb_of sz99 ⟨by decide, by decide⟩
    obtain ⟨T100, h100, X100, e100, W100, st100⟩ := stI Y98 hx hZ e98 ar99 (j := (3 : Int32)) hin99 (g := (mkF m 219 #[.val (.int xa), .val (.int xb), .val (.int xc), .val (.int xd), .val (.int xe), .val (.int xf), .val (.int (2 : Int32)), .val (.int w80), .val (.int w81), .val (.ref b82), .val (.int (own_min xa w80)), .val (.int (own_max xa w80)), .val (.int (0 : Int32)), .val (.int w90), .val (.ref b91), .unset, .unset] [(.int (xe + (3 : Int32))), (.int (3 : Int32)), (.ref b91)])) rfl rfl (hb hby at_219)
    refine own_by st100 ?_
    clear st100 Y98
    have va100 : Arv Z h100 b91 k91 .int (8 : Int32) [(.int xe), (.int (xe + (1 : Int32))), (.int (xe + (2 : Int32))), (.int (xe + (3 : Int32))), (.int (0 : Int32)), (.int (0 : Int32)), (.int (0 : Int32)), (.int (0 : Int32))] (.int (0 : Int32)) := Arv.set ar99 q99 sz99 nn99 hs99 gs99 rfl W100 3 rfl (Nat.le_of_ble_eq_true rfl)
    have z100 : n0 ≤ h100.size := Nat.le_trans z98 (Keep.of_wr W100).1
    have N100 := Fr.snoc X100 M98 ge91
    obtain ⟨lq100, Y100, M100⟩ : ∃ lq, Stand p l e room_1 s m #[(.int xa), (.int xb), (.int xc), (.int xd), (.int xe), (.int xf)] below meth c T100 lq 3 14 ∧ Fr n0 lq := ⟨_, X100, N100⟩
    clear X100 N100
    show own_Go p e below _ (T100.setTop (mkF m 220 #[.val (.int xa), .val (.int xb), .val (.int xc), .val (.int xd), .val (.int xe), .val (.int xf), .val (.int (2 : Int32)), .val (.int w80), .val (.int w81), .val (.ref b82), .val (.int (own_min xa w80)), .val (.int (own_max xa w80)), .val (.int (0 : Int32)), .val (.int w90), .val (.ref b91), .unset, .unset] []))
    refine own_by (fun _ => XS.aload Y100.here hx rfl (hb hby at_220) rfl rfl) ?_
    show own_Go p e below _ (T100.setTop (mkF m 222 #[.val (.int xa), .val (.int xb), .val (.int xc), .val (.int xd), .val (.int xe), .val (.int xf), .val (.int (2 : Int32)), .val (.int w80), .val (.int w81), .val (.ref b82), .val (.int (own_min xa w80)), .val (.int (own_max xa w80)), .val (.int (0 : Int32)), .val (.int w90), .val (.ref b91), .unset, .unset] [(.ref b91)]))
    refine own_by (fun _ => XS.iconst Y100.here hx rfl (hb hby at_222)) ?_
    show own_Go p e below _ (T100.setTop (mkF m 223 #[.val (.int xa), .val (.int xb), .val (.int xc), .val (.int xd), .val (.int xe), .val (.int xf), .val (.int (2 : Int32)), .val (.int w80), .val (.int w81), .val (.ref b82), .val (.int (own_min xa w80)), .val (.int (own_max xa w80)), .val (.int (0 : Int32)), .val (.int w90), .val (.ref b91), .unset, .unset] [(.int (4 : Int32)), (.ref b91)]))
    refine own_by (fun _ => XS.iload Y100.here hx rfl (hb hby at_223) rfl) ?_
    show own_Go p e below _ (T100.setTop (mkF m 225 #[.val (.int xa), .val (.int xb), .val (.int xc), .val (.int xd), .val (.int xe), .val (.int xf), .val (.int (2 : Int32)), .val (.int w80), .val (.int w81), .val (.ref b82), .val (.int (own_min xa w80)), .val (.int (own_max xa w80)), .val (.int (0 : Int32)), .val (.int w90), .val (.ref b91), .unset, .unset] [(.int xe), (.int (4 : Int32)), (.ref b91)]))
    refine own_by (fun _ => XS.iconst Y100.here hx rfl (hb hby at_225)) ?_
    show own_Go p e below _ (T100.setTop (mkF m 226 #[.val (.int xa), .val (.int xb), .val (.int xc), .val (.int xd), .val (.int xe), .val (.int xf), .val (.int (2 : Int32)), .val (.int w80), .val (.int w81), .val (.ref b82), .val (.int (own_min xa w80)), .val (.int (own_max xa w80)), .val (.int (0 : Int32)), .val (.int w90), .val (.ref b91), .unset, .unset] [(.int (4 : Int32)), (.int xe), (.int (4 : Int32)), (.ref b91)]))
    refine own_by (fun _ => XS.iadd Y100.here hx rfl (hb hby at_226) rfl) ?_
    show own_Go p e below _ (T100.setTop (mkF m 227 #[.val (.int xa), .val (.int xb), .val (.int xc), .val (.int xd), .val (.int xe), .val (.int xf), .val (.int (2 : Int32)), .val (.int w80), .val (.int w81), .val (.ref b82), .val (.int (own_min xa w80)), .val (.int (own_max xa w80)), .val (.int (0 : Int32)), .val (.int w90), .val (.ref b91), .unset, .unset] [(.int (xe + (4 : Int32))), (.int (4 : Int32)), (.ref b91)]))
    obtain ⟨cl101, ar101, q101, sz101, nn101, hs101, gs101⟩ := id va100
    have hin101 : ¬ ((4 : Int32) < 0 ∨ cl101.slots.size ≤ ((4 : Int32)).toNatClampNeg) := inb_of sz101 ⟨by decide, by decide⟩
    obtain ⟨T102, h102, X102, e102, W102, st102⟩ := stI Y100 hx hZ e100 ar101 (j := (4 : Int32)) hin101 (g := (mkF m 227 #[.val (.int xa), .val (.int xb), .val (.int xc), .val (.int xd), .val (.int xe), .val (.int xf), .val (.int (2 : Int32)), .val (.int w80), .val (.int w81), .val (.ref b82), .val (.int (own_min xa w80)), .val (.int (own_max xa w80)), .val (.int (0 : Int32)), .val (.int w90), .val (.ref b91), .unset, .unset] [(.int (xe + (4 : Int32))), (.int (4 : Int32)), (.ref b91)])) rfl rfl (hb hby at_227)
    refine own_by st102 ?_
    clear st102 Y100
    have va102 : Arv Z h102 b91 k91 .int (8 : Int32) [(.int xe), (.int (xe + (1 : Int32))), (.int (xe + (2 : Int32))), (.int (xe + (3 : Int32))), (.int (xe + (4 : Int32))), (.int (0 : Int32)), (.int (0 : Int32)), (.int (0 : Int32))] (.int (0 : Int32)) := Arv.set ar101 q101 sz101 nn101 hs101 gs101 rfl W102 4 rfl (Nat.le_of_ble_eq_true rfl)
    have z102 : n0 ≤ h102.size := Nat.le_trans z100 (Keep.of_wr W102).1
    have N102 := Fr.snoc X102 M100 ge91
    obtain ⟨lq102, Y102, M102⟩ : ∃ lq, Stand p l e room_1 s m #[(.int xa), (.int xb), (.int xc), (.int xd), (.int xe), (.int xf)] below meth c T102 lq 3 14 ∧ Fr n0 lq := ⟨_, X102, N102⟩
    clear X102 N102
    show own_Go p e below _ (T102.setTop (mkF m 228 #[.val (.int xa), .val (.int xb), .val (.int xc), .val (.int xd), .val (.int xe), .val (.int xf), .val (.int (2 : Int32)), .val (.int w80), .val (.int w81), .val (.ref b82), .val (.int (own_min xa w80)), .val (.int (own_max xa w80)), .val (.int (0 : Int32)), .val (.int w90), .val (.ref b91), .unset, .unset] []))
    refine own_by (fun _ => XS.aload Y102.here hx rfl (hb hby at_228) rfl rfl) ?_
    show own_Go p e below _ (T102.setTop (mkF m 230 #[.val (.int xa), .val (.int xb), .val (.int xc), .val (.int xd), .val (.int xe), .val (.int xf), .val (.int (2 : Int32)), .val (.int w80), .val (.int w81), .val (.ref b82), .val (.int (own_min xa w80)), .val (.int (own_max xa w80)), .val (.int (0 : Int32)), .val (.int w90), .val (.ref b91), .unset, .unset] [(.ref b91)]))
    refine own_by (fun _ => XS.iconst Y102.here hx rfl (hb hby at_230)) ?_
    show own_Go p e below _ (T102.setTop (mkF m 231 #[.val (.int xa), .val (.int xb), .val (.int xc), .val (.int xd), .val (.int xe), .val (.int xf), .val (.int (2 : Int32)), .val (.int w80), .val (.int w81), .val (.ref b82), .val (.int (own_min xa w80)), .val (.int (own_max xa w80)), .val (.int (0 : Int32)), .val (.int w90), .val (.ref b91), .unset, .unset] [(.int (5 : Int32)), (.ref b91)]))
    refine own_by (fun _ => XS.iload Y102.here hx rfl (hb hby at_231) rfl) ?_
    show own_Go p e below _ (T102.setTop (mkF m 233 #[.val (.int xa), .val (.int xb), .val (.int xc), .val (.int xd), .val (.int xe), .val (.int xf), .val (.int (2 : Int32)), .val (.int w80), .val (.int w81), .val (.ref b82), .val (.int (own_min xa w80)), .val (.int (own_max xa w80)), .val (.int (0 : Int32)), .val (.int w90), .val (.ref b91), .unset, .unset] [(.int xe), (.int (5 : Int32)), (.ref b91)]))
    refine own_by (fun _ => XS.iconst Y102.here hx rfl (hb hby at_233)) ?_
    show own_Go p e below _ (T102.setTop (mkF m 234 #[.val (.int xa), .val (.int xb), .val (.int xc), .val (.int xd), .val (.int xe), .val (.int xf), .val (.int (2 : Int32)), .val (.int w80), .val (.int w81), .val (.ref b82), .val (.int (own_min xa w80)), .val (.int (own_max xa w80)), .val (.int (0 : Int32)), .val (.int w90), .val (.ref b91), .unset, .unset] [(.int (5 : Int32)), (.int xe), (.int (5 : Int32)), (.ref b91)]))
    refine own_by (fun _ => XS.iadd Y102.here hx rfl (hb hby at_234) rfl) ?_
    show own_Go p e below _ (T102.setTop (mkF m 235 #[.val (.int xa), .val (.int xb), .val (.int xc), .val (.int xd), .val (.int xe), .val (.int xf), .val (.int (2 : Int32)), .val (.int w80), .val (.int w81), .val (.ref b82), .val (.int (own_min xa w80)), .val (.int (own_max xa w80)), .val (.int (0 : Int32)), .val (.int w90), .val (.ref b91), .unset, .unset] [(.int (xe + (5 : Int32))), (.int (5 : Int32)), (.ref b91)]))
    obtain ⟨cl103, ar103, q103, sz103, nn103, hs103, gs103⟩ := id va102
    have hin103 : ¬ ((5 : Int32) < 0 ∨ cl103.slots.size ≤ ((5 : Int32)).toNatClampNeg) := inb_of sz103 ⟨by decide, by decide⟩
    obtain ⟨T104, h104, X104, e104, W104, st104⟩ := stI Y102 hx hZ e102 ar103 (j := (5 : Int32)) hin103 (g := (mkF m 235 #[.val (.int xa), .val (.int xb), .val (.int xc), .val (.int xd), .val (.int xe), .val (.int xf), .val (.int (2 : Int32)), .val (.int w80), .val (.int w81), .val (.ref b82), .val (.int (own_min xa w80)), .val (.int (own_max xa w80)), .val (.int (0 : Int32)), .val (.int w90), .val (.ref b91), .unset, .unset] [(.int (xe + (5 : Int32))), (.int (5 : Int32)), (.ref b91)])) rfl rfl (hb hby at_235)
    refine own_by st104 ?_
    clear st104 Y102
    have va104 : Arv Z h104 b91 k91 .int (8 : Int32) [(.int xe), (.int (xe + (1 : Int32))), (.int (xe + (2 : Int32))), (.int (xe + (3 : Int32))), (.int (xe + (4 : Int32))), (.int (xe + (5 : Int32))), (.int (0 : Int32)), (.int (0 : Int32))] (.int (0 : Int32)) := Arv.set ar103 q103 sz103 nn103 hs103 gs103 rfl W104 5 rfl (Nat.le_of_ble_eq_true rfl)
    have z104 : n0 ≤ h104.size := Nat.le_trans z102 (Keep.of_wr W104).1
    have N104 := Fr.snoc X104 M102 ge91
    obtain ⟨lq104, Y104, M104⟩ : ∃ lq, Stand p l e room_1 s m #[(.int xa), (.int xb), (.int xc), (.int xd), (.int xe), (.int xf)] below meth c T104 lq 3 14 ∧ Fr n0 lq := ⟨_, X104, N104⟩
    clear X104 N104
    show own_Go p e below _ (T104.setTop (mkF m 236 #[.val (.int xa), .val (.int xb), .val (.int xc), .val (.int xd), .val (.int xe), .val (.int xf), .val (.int (2 : Int32)), .val (.int w80), .val (.int w81), .val (.ref b82), .val (.int (own_min xa w80)), .val (.int (own_max xa w80)), .val (.int (0 : Int32)), .val (.int w90), .val (.ref b91), .unset, .unset] []))
    refine own_by (fun _ => XS.aload Y104.here hx rfl (hb hby at_236) rfl rfl) ?_
    show own_Go p e below _ (T104.setTop (mkF m 238 #[.val (.int xa), .val (.int xb), .val (.int xc), .val (.int xd), .val (.int xe), .val (.int xf), .val (.int (2 : Int32)), .val (.int w80), .val (.int w81), .val (.ref b82), .val (.int (own_min xa w80)), .val (.int (own_max xa w80)), .val (.int (0 : Int32)), .val (.int w90), .val (.ref b91), .unset, .unset] [(.ref b91)]))
    refine own_by (fun _ => XS.bipush Y104.here hx rfl (hb hby at_238)) ?_
    show own_Go p e below _ (T104.setTop (mkF m 240 #[.val (.int xa), .val (.int xb), .val (.int xc), .val (.int xd), .val (.int xe), .val (.int xf), .val (.int (2 : Int32)), .val (.int w80), .val (.int w81), .val (.ref b82), .val (.int (own_min xa w80)), .val (.int (own_max xa w80)), .val (.int (0 : Int32)), .val (.int w90), .val (.ref b91), .unset, .unset] [(.int (6 : Int32)), (.ref b91)]))
    refine own_by (fun _ => XS.iload Y104.here hx rfl (hb hby at_240) rfl) ?_
    show own_Go p e below _ (T104.setTop (mkF m 242 #[.val (.int xa), .val (.int xb), .val (.int xc), .val (.int xd), .val (.int xe), .val (.int xf), .val (.int (2 : Int32)), .val (.int w80), .val (.int w81), .val (.ref b82), .val (.int (own_min xa w80)), .val (.int (own_max xa w80)), .val (.int (0 : Int32)), .val (.int w90), .val (.ref b91), .unset, .unset] [(.int xe), (.int (6 : Int32)), (.ref b91)]))
    refine own_by (fun _ => XS.bipush Y104.here hx rfl (hb hby at_242)) ?_
    show own_Go p e below _ (T104.setTop (mkF m 244 #[.val (.int xa), .val (.int xb), .val (.int xc), .val (.int xd), .val (.int xe), .val (.int xf), .val (.int (2 : Int32)), .val (.int w80), .val (.int w81), .val (.ref b82), .val (.int (own_min xa w80)), .val (.int (own_max xa w80)), .val (.int (0 : Int32)), .val (.int w90), .val (.ref b91), .unset, .unset] [(.int (6 : Int32)), (.int xe), (.int (6 : Int32)), (.ref b91)]))
    refine own_by (fun _ => XS.iadd Y104.here hx rfl (hb hby at_244) rfl) ?_
    show own_Go p e below _ (T104.setTop (mkF m 245 #[.val (.int xa), .val (.int xb), .val (.int xc), .val (.int xd), .val (.int xe), .val (.int xf), .val (.int (2 : Int32)), .val (.int w80), .val (.int w81), .val (.ref b82), .val (.int (own_min xa w80)), .val (.int (own_max xa w80)), .val (.int (0 : Int32)), .val (.int w90), .val (.ref b91), .unset, .unset] [(.int (xe + (6 : Int32))), (.int (6 : Int32)), (.ref b91)]))
    obtain ⟨cl105, ar105, q105, sz105, nn105, hs105, gs105⟩ := id va104
    have hin105 : ¬ ((6 : Int32) < 0 ∨ cl105.slots.size ≤ ((6 : Int32)).toNatClampNeg) := inb_of sz105 ⟨by decide, by decide⟩
    obtain ⟨T106, h106, X106, e106, W106, st106⟩ := stI Y104 hx hZ e104 ar105 (j := (6 : Int32)) hin105 (g := (mkF m 245 #[.val (.int xa), .val (.int xb), .val (.int xc), .val (.int xd), .val (.int xe), .val (.int xf), .val (.int (2 : Int32)), .val (.int w80), .val (.int w81), .val (.ref b82), .val (.int (own_min xa w80)), .val (.int (own_max xa w80)), .val (.int (0 : Int32)), .val (.int w90), .val (.ref b91), .unset, .unset] [(.int (xe + (6 : Int32))), (.int (6 : Int32)), (.ref b91)])) rfl rfl (hb hby at_245)
    refine own_by st106 ?_
    clear st106 Y104
    have va106 : Arv Z h106 b91 k91 .int (8 : Int32) [(.int xe), (.int (xe + (1 : Int32))), (.int (xe + (2 : Int32))), (.int (xe + (3 : Int32))), (.int (xe + (4 : Int32))), (.int (xe + (5 : Int32))), (.int (xe + (6 : Int32))), (.int (0 : Int32))] (.int (0 : Int32)) := Arv.set ar105 q105 sz105 nn105 hs105 gs105 rfl W106 6 rfl (Nat.le_of_ble_eq_true rfl)
    have z106 : n0 ≤ h106.size := Nat.le_trans z104 (Keep.of_wr W106).1
    have N106 := Fr.snoc X106 M104 ge91
    obtain ⟨lq106, Y106, M106⟩ : ∃ lq, Stand p l e room_1 s m #[(.int xa), (.int xb), (.int xc), (.int xd), (.int xe), (.int xf)] below meth c T106 lq 3 14 ∧ Fr n0 lq := ⟨_, X106, N106⟩
    clear X106 N106
    show own_Go p e below _ (T106.setTop (mkF m 246 #[.val (.int xa), .val (.int xb), .val (.int xc), .val (.int xd), .val (.int xe), .val (.int xf), .val (.int (2 : Int32)), .val (.int w80), .val (.int w81), .val (.ref b82), .val (.int (own_min xa w80)), .val (.int (own_max xa w80)), .val (.int (0 : Int32)), .val (.int w90), .val (.ref b91), .unset, .unset] []))
    refine own_by (fun _ => XS.aload Y106.here hx rfl (hb hby at_246) rfl rfl) ?_
    show own_Go p e below _ (T106.setTop (mkF m 248 #[.val (.int xa), .val (.int xb), .val (.int xc), .val (.int xd), .val (.int xe), .val (.int xf), .val (.int (2 : Int32)), .val (.int w80), .val (.int w81), .val (.ref b82), .val (.int (own_min xa w80)), .val (.int (own_max xa w80)), .val (.int (0 : Int32)), .val (.int w90), .val (.ref b91), .unset, .unset] [(.ref b91)]))
    refine own_by (fun _ => XS.bipush Y106.here hx rfl (hb hby at_248)) ?_
    show own_Go p e below _ (T106.setTop (mkF m 250 #[.val (.int xa), .val (.int xb), .val (.int xc), .val (.int xd), .val (.int xe), .val (.int xf), .val (.int (2 : Int32)), .val (.int w80), .val (.int w81), .val (.ref b82), .val (.int (own_min xa w80)), .val (.int (own_max xa w80)), .val (.int (0 : Int32)), .val (.int w90), .val (.ref b91), .unset, .unset] [(.int (7 : Int32)), (.ref b91)]))
    refine own_by (fun _ => XS.iload Y106.here hx rfl (hb hby at_250) rfl) ?_
    show own_Go p e below _ (T106.setTop (mkF m 252 #[.val (.int xa), .val (.int xb), .val (.int xc), .val (.int xd), .val (.int xe), .val (.int xf), .val (.int (2 : Int32)), .val (.int w80), .val (.int w81), .val (.ref b82), .val (.int (own_min xa w80)), .val (.int (own_max xa w80)), .val (.int (0 : Int32)), .val (.int w90), .val (.ref b91), .unset, .unset] [(.int xe), (.int (7 : Int32)), (.ref b91)]))
    refine own_by (fun _ => XS.bipush Y106.here hx rfl (hb hby at_252)) ?_
    show own_Go p e below _ (T106.setTop (mkF m 254 #[.val (.int xa), .val (.int xb), .val (.int xc), .val (.int xd), .val (.int xe), .val (.int xf), .val (.int (2 : Int32)), .val (.int w80), .val (.int w81), .val (.ref b82), .val (.int (own_min xa w80)), .val (.int (own_max xa w80)), .val (.int (0 : Int32)), .val (.int w90), .val (.ref b91), .unset, .unset] [(.int (7 : Int32)), (.int xe), (.int (7 : Int32)), (.ref b91)]))
    refine own_by (fun _ => XS.iadd Y106.here hx rfl (hb hby at_254) rfl) ?_
    show own_Go p e below _ (T106.setTop (mkF m 255 #[.val (.int xa), .val (.int xb), .val (.int xc), .val (.int xd), .val (.int xe), .val (.int xf), .val (.int (2 : Int32)), .val (.int w80), .val (.int w81), .val (.ref b82), .val (.int (own_min xa w80)), .val (.int (own_max xa w80)), .val (.int (0 : Int32)), .val (.int w90), .val (.ref b91), .unset, .unset] [(.int (xe + (7 : Int32))), (.int (7 : Int32)), (.ref b91)]))
    obtain ⟨cl107, ar107, q107, sz107, nn107, hs107, gs107⟩ := id va106
    have hin107 : ¬ ((7 : Int32) < 0 ∨ cl107.slots.size ≤ ((7 : Int32)).toNatClampNeg) := inb_of sz107 ⟨by decide, by decide⟩
    obtain ⟨T108, h108, X108, e108, W108, st108⟩ := stI Y106 hx hZ e106 ar107 (j := (7 : Int32)) hin107 (g := (mkF m 255 #[.val (.int xa), .val (.int xb), .val (.int xc), .val (.int xd), .val (.int xe), .val (.int xf), .val (.int (2 : Int32)), .val (.int w80), .val (.int w81), .val (.ref b82), .val (.int (own_min xa w80)), .val (.int (own_max xa w80)), .val (.int (0 : Int32)), .val (.int w90), .val (.ref b91), .unset, .unset] [(.int (xe + (7 : Int32))), (.int (7 : Int32)), (.ref b91)])) rfl rfl (hb hby at_255)
    refine own_by st108 ?_
    clear st108 Y106
    have va108 : Arv Z h108 b91 k91 .int (8 : Int32) [(.int xe), (.int (xe + (1 : Int32))), (.int (xe + (2 : Int32))), (.int (xe + (3 : Int32))), (.int (xe + (4 : Int32))), (.int (xe + (5 : Int32))), (.int (xe + (6 : Int32))), (.int (xe + (7 : Int32)))] (.int (0 : Int32)) := Arv.set ar107 q107 sz107 nn107 hs107 gs107 rfl W108 7 rfl (Nat.le_of_ble_eq_true rfl)
    have z108 : n0 ≤ h108.size := Nat.le_trans z106 (Keep.of_wr W108).1
    have N108 := Fr.snoc X108 M106 ge91
    obtain ⟨lq108, Y108, M108⟩ : ∃ lq, Stand p l e room_1 s m #[(.int xa), (.int xb), (.int xc), (.int xd), (.int xe), (.int xf)] below meth c T108 lq 3 14 ∧ Fr n0 lq := ⟨_, X108, N108⟩
    clear X108 N108
    show own_Go p e below _ (T108.setTop (mkF m 256 #[.val (.int xa), .val (.int xb), .val (.int xc), .val (.int xd), .val (.int xe), .val (.int xf), .val (.int (2 : Int32)), .val (.int w80), .val (.int w81), .val (.ref b82), .val (.int (own_min xa w80)), .val (.int (own_max xa w80)), .val (.int (0 : Int32)), .val (.int w90), .val (.ref b91), .unset, .unset] []))
    refine own_by (fun _ => XS.aload Y108.here hx rfl (hb hby at_256) rfl rfl) ?_
    show own_Go p e below _ (T108.setTop (mkF m 258 #[.val (.int xa), .val (.int xb), .val (.int xc), .val (.int xd), .val (.int xe), .val (.int xf), .val (.int (2 : Int32)), .val (.int w80), .val (.int w81), .val (.ref b82), .val (.int (own_min xa w80)), .val (.int (own_max xa w80)), .val (.int (0 : Int32)), .val (.int w90), .val (.ref b91), .unset, .unset] [(.ref b82)]))
    refine own_by (fun _ => XS.aload Y108.here hx rfl (hb hby at_258) rfl rfl) ?_
    show own_Go p e below _ (T108.setTop (mkF m 260 #[.val (.int xa), .val (.int xb), .val (.int xc), .val (.int xd), .val (.int xe), .val (.int xf), .val (.int (2 : Int32)), .val (.int w80), .val (.int w81), .val (.ref b82), .val (.int (own_min xa w80)), .val (.int (own_max xa w80)), .val (.int (0 : Int32)), .val (.int w90), .val (.ref b91), .unset, .unset] [(.ref b91), (.ref b82)]))
    refine own_by (fun _ => XS.iload Y108.here hx rfl (hb hby at_260) rfl) ?_
    show own_Go p e below _ (T108.setTop (mkF m 262 #[.val (.int xa), .val (.int xb), .val (.int xc), .val (.int xd), .val (.int xe), .val (.int xf), .val (.int (2 : Int32)), .val (.int w80), .val (.int w81), .val (.ref b82), .val (.int (own_min xa w80)), .val (.int (own_max xa w80)), .val (.int (0 : Int32)), .val (.int w90), .val (.ref b91), .unset, .unset] [(.int w90), (.ref b91), (.ref b82)]))
    have f109 : Exa Z h108 b82 "com/example/bucketsplit/bucketsplit/core/Page" := (((((((((f92.ext E91).wr W94).wr W96).wr W98).wr W100).wr W102).wr W104).wr W106).wr W108)
    have f110 : Fld Z h108 b82 "com/example/bucketsplit/bucketsplit/core/Page" "mKeys" "[I" (.ref kx_83) := (((((((((fc87_0.ext E91).other W94 (Or.inl ne91_b82)).other W96 (Or.inl ne91_b82)).other W98 (Or.inl ne91_b82)).other W100 (Or.inl ne91_b82)).other W102 (Or.inl ne91_b82)).other W104 (Or.inl ne91_b82)).other W106 (Or.inl ne91_b82)).other W108 (Or.inl ne91_b82))
    have f111 : Fld Z h108 b82 "com/example/bucketsplit/bucketsplit/core/Page" "mSize" "I" (.int (2 : Int32)) := (((((((((fc87_1.ext E91).other W94 (Or.inl ne91_b82)).other W96 (Or.inl ne91_b82)).other W98 (Or.inl ne91_b82)).other W100 (Or.inl ne91_b82)).other W102 (Or.inl ne91_b82)).other W104 (Or.inl ne91_b82)).other W106 (Or.inl ne91_b82)).other W108 (Or.inl ne91_b82))
    have f112 : Arv Z h108 kx_83 kk_83 .int (4 : Int32) [(.int (if w80 < xa then w80 else xa)), (.int (if w80 < xa then xa else w80)), (.int (0 : Int32)), (.int (0 : Int32))] (.int (0 : Int32)) := (((((((((fc87_2.ext E91).other W94 ne91_kx_83).other W96 ne91_kx_83).other W98 ne91_kx_83).other W100 ne91_kx_83).other W102 ne91_kx_83).other W104 ne91_kx_83).other W106 ne91_kx_83).other W108 ne91_kx_83)
    obtain ⟨cq113, kq113, q113a, q113b, q113c⟩ := isOf hZ e108 f109
    obtain ⟨_, _, ⟨T113, L113, k113, n113⟩, -, X113, ⟨Lc113, hQ113, l113, y113, z113'⟩, st113⟩ := Y108.virtualBack hx (y := (⟨"com/example/bucketsplit/bucketsplit/core/Page", "takeAll", "([II)I"⟩ : MethodName)) (z := (⟨"com/example/bucketsplit/bucketsplit/core/Page", "takeAll", "([II)I"⟩ : MethodName)) hown (mvT hZ (hw _ (List.mem_of_getElem? (i := 27) rfl))) (mvT hZ (hw _ (List.mem_of_getElem? (i := 28) rfl))) (notFace_of_selects (args := #[]) (mvT hZ (hw _ (List.mem_of_getElem? (i := 30) rfl)))) (mvT hZ (hw _ (List.mem_of_getElem? (i := 30) rfl))) (mvT hZ (hw _ (List.mem_of_getElem? (i := 29) rfl))) (by decide) (backOf (W := 0) (own_rm6_2 l Z a0 hw [] b82 b91 w90 kx_83 kk_83 k91 [xe, (xe + (1 : Int32)), (xe + (2 : Int32)), (xe + (3 : Int32)), (xe + (4 : Int32)), (xe + (5 : Int32)), (xe + (6 : Int32)), (xe + (7 : Int32))] (if w80 < xa then w80 else xa) (if w80 < xa then xa else w80) (0 : Int32) (0 : Int32) h108 n0 z108 f109 f110 f111 f112 va108 ne83_b82 ne91_b82 ne91_kx_83 ge82 ge91 ((own_atlo hw90) : ¬ (w90 < (0 : Int32))) ((own_athi hw90) : w90 < (7 : Int32)) ((by first | rfl | simp) : [xe, (xe + (1 : Int32)), (xe + (2 : Int32)), (xe + (3 : Int32)), (xe + (4 : Int32)), (xe + (5 : Int32)), (xe + (6 : Int32)), (xe + (7 : Int32))].length = 8)) hZ (hw _ (List.mem_of_getElem? (i := 31) rfl)) (hw _ (List.mem_of_getElem? (i := 2) rfl)) (by decide) (by decide)) q113a q113c (g := (mkF m 262 #[.val (.int xa), .val (.int xb), .val (.int xc), .val (.int xd), .val (.int xe), .val (.int xf), .val (.int (2 : Int32)), .val (.int w80), .val (.int w81), .val (.ref b82), .val (.int (own_min xa w80)), .val (.int (own_max xa w80)), .val (.int (0 : Int32)), .val (.int w90), .val (.ref b91), .unset, .unset] [(.int w90), (.ref b91), (.ref b82)])) rfl (by rw [hml]; rfl) (Steps.refl _) (argsL := [(.ref b91), (.int w90)]) (rest := []) (lenOf own_pd1 rfl) rfl (by show 2 * 0 + _ ≤ _; exact Nat.le_of_eq rfl) (hb hby at_262) (fun _ _ => ⟨rfl, e108, (by decide : 3 + 0 ≤ _), (by decide : 14 + 0 ≤ _)⟩)
    dsimp only [Pt.U, Pt.locs, Pt.cells, Pt.slots] at X113 l113 y113 z113' st113 hQ113
    subst l113 y113 z113'
    obtain ⟨rfl, N113q, Kc113, fc113_0, fc113_1⟩ := hQ113
    have N113 := Fr.app M108 N113q
    refine own_tr st113 ?_
    clear st113 Y108
    obtain ⟨lq113, Y113, M113⟩ : ∃ lq, Stand p l e room_1 s m #[(.int xa), (.int xb), (.int xc), (.int xd), (.int xe), (.int xf)] below meth c T113 lq 3 14 ∧ Fr n0 lq := ⟨_, X113, N113⟩
    clear X113 N113
    have z113 : n0 ≤ T113.heap.size := Nat.le_trans z108 Kc113.1
    obtain ⟨ls113_1, hls113_1⟩ : ∃ z : List Int32, z = (([xe, (xe + (1 : Int32)), (xe + (2 : Int32)), (xe + (3 : Int32)), (xe + (4 : Int32)), (xe + (5 : Int32)), (xe + (6 : Int32)), (xe + (7 : Int32))].set ((w90 + (0 : Int32))).toNatClampNeg (if w80 < xa then w80 else xa)).set ((w90 + (1 : Int32))).toNatClampNeg (if w80 < xa then xa else w80)) := ⟨_, rfl⟩
    rw [← hls113_1] at fc113_1
    show own_Go p e below _ (T113.setTop (mkF m 265 #[.val (.int xa), .val (.int xb), .val (.int xc), .val (.int xd), .val (.int xe), .val (.int xf), .val (.int (2 : Int32)), .val (.int w80), .val (.int w81), .val (.ref b82), .val (.int (own_min xa w80)), .val (.int (own_max xa w80)), .val (.int (0 : Int32)), .val (.int w90), .val (.ref b91), .unset, .unset] [(.int (w90 + (2 : Int32)))]))
    refine own_by (fun _ => XS.istore Y113.here hx rfl (hb hby at_265) rfl (l' := #[.val (.int xa), .val (.int xb), .val (.int xc), .val (.int xd), .val (.int xe), .val (.int xf), .val (.int (2 : Int32)), .val (.int w80), .val (.int w81), .val (.ref b82), .val (.int (own_min xa w80)), .val (.int (own_max xa w80)), .val (.int (0 : Int32)), .val (.int w90), .val (.ref b91), .val (.int (w90 + (2 : Int32))), .unset]) rfl) ?_
    show own_Go p e below _ (T113.setTop (mkF m 267 #[.val (.int xa), .val (.int xb), .val (.int xc), .val (.int xd), .val (.int xe), .val (.int xf), .val (.int (2 : Int32)), .val (.int w80), .val (.int w81), .val (.ref b82), .val (.int (own_min xa w80)), .val (.int (own_max xa w80)), .val (.int (0 : Int32)), .val (.int w90), .val (.ref b91), .val (.int (w90 + (2 : Int32))), .unset] []))
    refine own_by (fun _ => XS.iload Y113.here hx rfl (hb hby at_267) rfl) ?_
    show own_Go p e below _ (T113.setTop (mkF m 269 #[.val (.int xa), .val (.int xb), .val (.int xc), .val (.int xd), .val (.int xe), .val (.int xf), .val (.int (2 : Int32)), .val (.int w80), .val (.int w81), .val (.ref b82), .val (.int (own_min xa w80)), .val (.int (own_max xa w80)), .val (.int (0 : Int32)), .val (.int w90), .val (.ref b91), .val (.int (w90 + (2 : Int32))), .unset] [(.int (w90 + (2 : Int32)))]))
    refine own_by (fun _ => XS.iload Y113.here hx rfl (hb hby at_269) rfl) ?_
    show own_Go p e below _ (T113.setTop (mkF m 271 #[.val (.int xa), .val (.int xb), .val (.int xc), .val (.int xd), .val (.int xe), .val (.int xf), .val (.int (2 : Int32)), .val (.int w80), .val (.int w81), .val (.ref b82), .val (.int (own_min xa w80)), .val (.int (own_max xa w80)), .val (.int (0 : Int32)), .val (.int w90), .val (.ref b91), .val (.int (w90 + (2 : Int32))), .unset] [(.int w90), (.int (w90 + (2 : Int32)))]))
    refine own_by (fun _ => XS.iload Y113.here hx rfl (hb hby at_271) rfl) ?_
    show own_Go p e below _ (T113.setTop (mkF m 273 #[.val (.int xa), .val (.int xb), .val (.int xc), .val (.int xd), .val (.int xe), .val (.int xf), .val (.int (2 : Int32)), .val (.int w80), .val (.int w81), .val (.ref b82), .val (.int (own_min xa w80)), .val (.int (own_max xa w80)), .val (.int (0 : Int32)), .val (.int w90), .val (.ref b91), .val (.int (w90 + (2 : Int32))), .unset] [(.int (2 : Int32)), (.int w90), (.int (w90 + (2 : Int32)))]))
    refine own_by (fun _ => XS.iadd Y113.here hx rfl (hb hby at_273) rfl) ?_
    show own_Go p e below _ (T113.setTop (mkF m 274 #[.val (.int xa), .val (.int xb), .val (.int xc), .val (.int xd), .val (.int xe), .val (.int xf), .val (.int (2 : Int32)), .val (.int w80), .val (.int w81), .val (.ref b82), .val (.int (own_min xa w80)), .val (.int (own_max xa w80)), .val (.int (0 : Int32)), .val (.int w90), .val (.ref b91), .val (.int (w90 + (2 : Int32))), .unset] [(.int (w90 + (2 : Int32))), (.int (w90 + (2 : Int32)))]))
    refine own_by (fun _ => XS.icmpNo Y113.here hx rfl (hb hby at_274) rfl (teq (rfl : (w90 + (2 : Int32)) = (w90 + (2 : Int32)))).2) ?_
    show own_Go p e below _ (T113.setTop (mkF m 277 #[.val (.int xa), .val (.int xb), .val (.int xc), .val (.int xd), .val (.int xe), .val (.int xf), .val (.int (2 : Int32)), .val (.int w80), .val (.int w81), .val (.ref b82), .val (.int (own_min xa w80)), .val (.int (own_max xa w80)), .val (.int (0 : Int32)), .val (.int w90), .val (.ref b91), .val (.int (w90 + (2 : Int32))), .unset] []))
    refine own_by (fun _ => XS.aload Y113.here hx rfl (hb hby at_277) rfl rfl) ?_
    show own_Go p e below _ (T113.setTop (mkF m 279 #[.val (.int xa), .val (.int xb), .val (.int xc), .val (.int xd), .val (.int xe), .val (.int xf), .val (.int (2 : Int32)), .val (.int w80), .val (.int w81), .val (.ref b82), .val (.int (own_min xa w80)), .val (.int (own_max xa w80)), .val (.int (0 : Int32)), .val (.int w90), .val (.ref b91), .val (.int (w90 + (2 : Int32))), .unset] [(.ref b82)]))
    have f115 : Exa Z T113.heap b82 "com/example/bucketsplit/bucketsplit/core/Page" := (f109.keep Kc113)
    obtain ⟨cq114, kq114, q114a, q114b, q114c⟩ := isOf hZ rfl f115
    obtain ⟨_, _, ⟨T114, L114, k114, n114⟩, -, X114, ⟨Lc114, hQ114, l114, y114, z114'⟩, st114⟩ := Y113.virtualBack hx (y := (⟨"com/example/bucketsplit/bucketsplit/core/Page", "size", "()I"⟩ : MethodName)) (z := (⟨"com/example/bucketsplit/bucketsplit/core/Page", "size", "()I"⟩ : MethodName)) hown (mvT hZ (hw _ (List.mem_of_getElem? (i := 32) rfl))) (mvT hZ (hw _ (List.mem_of_getElem? (i := 33) rfl))) (notFace_of_selects (args := #[]) (mvT hZ (hw _ (List.mem_of_getElem? (i := 35) rfl)))) (mvT hZ (hw _ (List.mem_of_getElem? (i := 35) rfl))) (mvT hZ (hw _ (List.mem_of_getElem? (i := 34) rfl))) (by decide) (backOf (W := 0) (own_rm7 l Z a0 hw [] b82 (0 : Int32) T113.heap n0 z113 fc113_0) hZ (hw _ (List.mem_of_getElem? (i := 36) rfl)) (hw _ (List.mem_of_getElem? (i := 2) rfl)) (by decide) (by decide)) q114a q114c (g := (mkF m 279 #[.val (.int xa), .val (.int xb), .val (.int xc), .val (.int xd), .val (.int xe), .val (.int xf), .val (.int (2 : Int32)), .val (.int w80), .val (.int w81), .val (.ref b82), .val (.int (own_min xa w80)), .val (.int (own_max xa w80)), .val (.int (0 : Int32)), .val (.int w90), .val (.ref b91), .val (.int (w90 + (2 : Int32))), .unset] [(.ref b82)])) rfl (by rw [hml]; rfl) (Steps.refl _) (argsL := []) (rest := []) (lenOf own_pd2 rfl) rfl (by show 2 * 0 + _ ≤ _; exact Nat.le_of_eq rfl) (hb hby at_279) (fun _ _ => ⟨rfl, rfl, (by decide : 3 + 0 ≤ _), (by decide : 14 + 0 ≤ _)⟩)
    dsimp only [Pt.U, Pt.locs, Pt.cells, Pt.slots] at X114 l114 y114 z114' st114 hQ114
    subst l114 y114 z114'
    obtain ⟨rfl, N114q, e114⟩ := hQ114
    have N114 := Fr.app M113 N114q
    refine own_tr st114 ?_
    clear st114 Y113
    obtain ⟨lq114, Y114, M114⟩ : ∃ lq, Stand p l e room_1 s m #[(.int xa), (.int xb), (.int xc), (.int xd), (.int xe), (.int xf)] below meth c T114 lq 3 14 ∧ Fr n0 lq := ⟨_, X114, N114⟩
    clear X114 N114
    show own_Go p e below _ (T114.setTop (mkF m 282 #[.val (.int xa), .val (.int xb), .val (.int xc), .val (.int xd), .val (.int xe), .val (.int xf), .val (.int (2 : Int32)), .val (.int w80), .val (.int w81), .val (.ref b82), .val (.int (own_min xa w80)), .val (.int (own_max xa w80)), .val (.int (0 : Int32)), .val (.int w90), .val (.ref b91), .val (.int (w90 + (2 : Int32))), .unset] [(.int (0 : Int32))]))
    refine own_by (fun _ => XS.ifNo Y114.here hx rfl (hb hby at_282) rfl ((if0 _ _).trans (teq (by decide : (0 : Int32) = (0 : Int32))).2)) ?_
    show own_Go p e below _ (T114.setTop (mkF m 285 #[.val (.int xa), .val (.int xb), .val (.int xc), .val (.int xd), .val (.int xe), .val (.int xf), .val (.int (2 : Int32)), .val (.int w80), .val (.int w81), .val (.ref b82), .val (.int (own_min xa w80)), .val (.int (own_max xa w80)), .val (.int (0 : Int32)), .val (.int w90), .val (.ref b91), .val (.int (w90 + (2 : Int32))), .unset] []))
    refine own_by (fun _ => XS.iconst Y114.here hx rfl (hb hby at_285)) ?_
    show own_Go p e below _ (T114.setTop (mkF m 286 #[.val (.int xa), .val (.int xb), .val (.int xc), .val (.int xd), .val (.int xe), .val (.int xf), .val (.int (2 : Int32)), .val (.int w80), .val (.int w81), .val (.ref b82), .val (.int (own_min xa w80)), .val (.int (own_max xa w80)), .val (.int (0 : Int32)), .val (.int w90), .val (.ref b91), .val (.int (w90 + (2 : Int32))), .unset] [(.int (1 : Int32))]))
    refine own_by (fun _ => XS.goto Y114.here hx rfl (pc0 := 286) (pc' := 290) rfl (hb hby at_286) (by decide) (by decide)) ?_
    show own_Go p e below _ (T114.setTop (mkF m 290 #[.val (.int xa), .val (.int xb), .val (.int xc), .val (.int xd), .val (.int xe), .val (.int xf), .val (.int (2 : Int32)), .val (.int w80), .val (.int w81), .val (.ref b82), .val (.int (own_min xa w80)), .val (.int (own_max xa w80)), .val (.int (0 : Int32)), .val (.int w90), .val (.ref b91), .val (.int (w90 + (2 : Int32))), .unset] [(.int (1 : Int32))]))
    refine own_by (fun _ => XS.istore Y114.here hx rfl (hb hby at_290) rfl (l' := #[.val (.int xa), .val (.int xb), .val (.int xc), .val (.int xd), .val (.int xe), .val (.int xf), .val (.int (2 : Int32)), .val (.int w80), .val (.int w81), .val (.ref b82), .val (.int (own_min xa w80)), .val (.int (own_max xa w80)), .val (.int (0 : Int32)), .val (.int w90), .val (.ref b91), .val (.int (w90 + (2 : Int32))), .val (.int (1 : Int32))]) rfl) ?_
    show own_Go p e below _ (T114.setTop (mkF m 292 #[.val (.int xa), .val (.int xb), .val (.int xc), .val (.int xd), .val (.int xe), .val (.int xf), .val (.int (2 : Int32)), .val (.int w80), .val (.int w81), .val (.ref b82), .val (.int (own_min xa w80)), .val (.int (own_max xa w80)), .val (.int (0 : Int32)), .val (.int w90), .val (.ref b91), .val (.int (w90 + (2 : Int32))), .val (.int (1 : Int32))] []))
    refine own_by (fun _ => XS.iload Y114.here hx rfl (hb hby at_292) rfl) ?_
    show own_Go p e below _ (T114.setTop (mkF m 294 #[.val (.int xa), .val (.int xb), .val (.int xc), .val (.int xd), .val (.int xe), .val (.int xf), .val (.int (2 : Int32)), .val (.int w80), .val (.int w81), .val (.ref b82), .val (.int (own_min xa w80)), .val (.int (own_max xa w80)), .val (.int (0 : Int32)), .val (.int w90), .val (.ref b91), .val (.int (w90 + (2 : Int32))), .val (.int (1 : Int32))] [(.int (1 : Int32))]))
    refine own_by (fun _ => XS.ifNo Y114.here hx rfl (hb hby at_294) rfl ((if0 _ _).trans (feq (by decide : ¬ ((1 : Int32) = (0 : Int32)))).1)) ?_
    show own_Go p e below _ (T114.setTop (mkF m 297 #[.val (.int xa), .val (.int xb), .val (.int xc), .val (.int xd), .val (.int xe), .val (.int xf), .val (.int (2 : Int32)), .val (.int w80), .val (.int w81), .val (.ref b82), .val (.int (own_min xa w80)), .val (.int (own_max xa w80)), .val (.int (0 : Int32)), .val (.int w90), .val (.ref b91), .val (.int (w90 + (2 : Int32))), .val (.int (1 : Int32))] []))
    refine own_by (fun _ => XS.aload Y114.here hx rfl (hb hby at_297) rfl rfl) ?_
    show own_Go p e below _ (T114.setTop (mkF m 299 #[.val (.int xa), .val (.int xb), .val (.int xc), .val (.int xd), .val (.int xe), .val (.int xf), .val (.int (2 : Int32)), .val (.int w80), .val (.int w81), .val (.ref b82), .val (.int (own_min xa w80)), .val (.int (own_max xa w80)), .val (.int (0 : Int32)), .val (.int w90), .val (.ref b91), .val (.int (w90 + (2 : Int32))), .val (.int (1 : Int32))] [(.ref b91)]))
    refine own_by (fun _ => XS.iconst Y114.here hx rfl (hb hby at_299)) ?_
    show own_Go p e below _ (T114.setTop (mkF m 300 #[.val (.int xa), .val (.int xb), .val (.int xc), .val (.int xd), .val (.int xe), .val (.int xf), .val (.int (2 : Int32)), .val (.int w80), .val (.int w81), .val (.ref b82), .val (.int (own_min xa w80)), .val (.int (own_max xa w80)), .val (.int (0 : Int32)), .val (.int w90), .val (.ref b91), .val (.int (w90 + (2 : Int32))), .val (.int (1 : Int32))] [(.int (0 : Int32)), (.ref b91)]))
    refine own_by (fun _ => XS.iload Y114.here hx rfl (hb hby at_300) rfl) ?_
    show own_Go p e below _ (T114.setTop (mkF m 302 #[.val (.int xa), .val (.int xb), .val (.int xc), .val (.int xd), .val (.int xe), .val (.int xf), .val (.int (2 : Int32)), .val (.int w80), .val (.int w81), .val (.ref b82), .val (.int (own_min xa w80)), .val (.int (own_max xa w80)), .val (.int (0 : Int32)), .val (.int w90), .val (.ref b91), .val (.int (w90 + (2 : Int32))), .val (.int (1 : Int32))] [(.int w90), (.int (0 : Int32)), (.ref b91)]))
    refine own_by (fun _ => XS.iload Y114.here hx rfl (hb hby at_302) rfl) ?_
    show own_Go p e below _ (T114.setTop (mkF m 304 #[.val (.int xa), .val (.int xb), .val (.int xc), .val (.int xd), .val (.int xe), .val (.int xf), .val (.int (2 : Int32)), .val (.int w80), .val (.int w81), .val (.ref b82), .val (.int (own_min xa w80)), .val (.int (own_max xa w80)), .val (.int (0 : Int32)), .val (.int w90), .val (.ref b91), .val (.int (w90 + (2 : Int32))), .val (.int (1 : Int32))] [(.int (2 : Int32)), (.int w90), (.int (0 : Int32)), (.ref b91)]))
    refine own_by (fun _ => XS.iload Y114.here hx rfl (hb hby at_304) rfl) ?_
    show own_Go p e below _ (T114.setTop (mkF m 306 #[.val (.int xa), .val (.int xb), .val (.int xc), .val (.int xd), .val (.int xe), .val (.int xf), .val (.int (2 : Int32)), .val (.int w80), .val (.int w81), .val (.ref b82), .val (.int (own_min xa w80)), .val (.int (own_max xa w80)), .val (.int (0 : Int32)), .val (.int w90), .val (.ref b91), .val (.int (w90 + (2 : Int32))), .val (.int (1 : Int32))] [(.int (own_min xa w80)), (.int (2 : Int32)), (.int w90), (.int (0 : Int32)), (.ref b91)]))
    refine own_by (fun _ => XS.iload Y114.here hx rfl (hb hby at_306) rfl) ?_
    show own_Go p e below _ (T114.setTop (mkF m 308 #[.val (.int xa), .val (.int xb), .val (.int xc), .val (.int xd), .val (.int xe), .val (.int xf), .val (.int (2 : Int32)), .val (.int w80), .val (.int w81), .val (.ref b82), .val (.int (own_min xa w80)), .val (.int (own_max xa w80)), .val (.int (0 : Int32)), .val (.int w90), .val (.ref b91), .val (.int (w90 + (2 : Int32))), .val (.int (1 : Int32))] [(.int (own_max xa w80)), (.int (own_min xa w80)), (.int (2 : Int32)), (.int w90), (.int (0 : Int32)), (.ref b91)]))
    refine own_by (fun _ => XS.iload Y114.here hx rfl (hb hby at_308) rfl) ?_
    show own_Go p e below _ (T114.setTop (mkF m 310 #[.val (.int xa), .val (.int xb), .val (.int xc), .val (.int xd), .val (.int xe), .val (.int xf), .val (.int (2 : Int32)), .val (.int w80), .val (.int w81), .val (.ref b82), .val (.int (own_min xa w80)), .val (.int (own_max xa w80)), .val (.int (0 : Int32)), .val (.int w90), .val (.ref b91), .val (.int (w90 + (2 : Int32))), .val (.int (1 : Int32))] [(.int (0 : Int32)), (.int (own_max xa w80)), (.int (own_min xa w80)), (.int (2 : Int32)), (.int w90), (.int (0 : Int32)), (.ref b91)]))
    refine own_by (fun _ => XS.iload Y114.here hx rfl (hb hby at_310) rfl) ?_
    show own_Go p e below _ (T114.setTop (mkF m 312 #[.val (.int xa), .val (.int xb), .val (.int xc), .val (.int xd), .val (.int xe), .val (.int xf), .val (.int (2 : Int32)), .val (.int w80), .val (.int w81), .val (.ref b82), .val (.int (own_min xa w80)), .val (.int (own_max xa w80)), .val (.int (0 : Int32)), .val (.int w90), .val (.ref b91), .val (.int (w90 + (2 : Int32))), .val (.int (1 : Int32))] [(.int xe), (.int (0 : Int32)), (.int (own_max xa w80)), (.int (own_min xa w80)), (.int (2 : Int32)), (.int w90), (.int (0 : Int32)), (.ref b91)]))
    obtain ⟨_, _, ⟨T116, L116, k116, n116⟩, -, X116, ⟨Lc116, hQ116, l116, y116, z116'⟩, st116⟩ := Jvm.LawKit.callS Y114 hx (y := (⟨"com/example/bucketsplit/bucketsplit/core/PageTakeAllPinLaw", "slot", "([IIIIIIII)Z"⟩ : MethodName)) hown (mvT hZ (hw _ (List.mem_of_getElem? (i := 37) rfl))) (mvT hZ (hw _ (List.mem_of_getElem? (i := 38) rfl))) (mvT hZ (hw _ (List.mem_of_getElem? (i := 39) rfl))) (mvT hZ (hw _ (List.mem_of_getElem? (i := 40) rfl))) (by decide) (backOf (W := 0) (own_rm8 l Z a0 hw [] b91 (0 : Int32) w90 (2 : Int32) (own_min xa w80) (own_max xa w80) (0 : Int32) xe k91 ls113_1 T113.heap n0 z113 fc113_1 (by decide : ¬ ((0 : Int32) < (0 : Int32))) (by decide : (0 : Int32) < (8 : Int32))) hZ (hw _ (List.mem_of_getElem? (i := 40) rfl)) (hw _ (List.mem_of_getElem? (i := 39) rfl)) (by decide) (by decide)) (g := (mkF m 312 #[.val (.int xa), .val (.int xb), .val (.int xc), .val (.int xd), .val (.int xe), .val (.int xf), .val (.int (2 : Int32)), .val (.int w80), .val (.int w81), .val (.ref b82), .val (.int (own_min xa w80)), .val (.int (own_max xa w80)), .val (.int (0 : Int32)), .val (.int w90), .val (.ref b91), .val (.int (w90 + (2 : Int32))), .val (.int (1 : Int32))] [(.int xe), (.int (0 : Int32)), (.int (own_max xa w80)), (.int (own_min xa w80)), (.int (2 : Int32)), (.int w90), (.int (0 : Int32)), (.ref b91)])) rfl (by rw [hml]; rfl) (argsL := [(.ref b91), (.int (0 : Int32)), (.int w90), (.int (2 : Int32)), (.int (own_min xa w80)), (.int (own_max xa w80)), (.int (0 : Int32)), (.int xe)]) (rest := []) (lenOf own_pd3 rfl) rfl (by show 2 * 0 + _ ≤ _; exact Nat.le_of_eq rfl) (hb hby at_312) (fun _ _ => ⟨rfl, e114, (by decide : 3 + 0 ≤ _), (by decide : 14 + 0 ≤ _)⟩)
    dsimp only [Pt.U, Pt.locs, Pt.cells, Pt.slots] at X116 l116 y116 z116' st116 hQ116
    subst l116 y116 z116'
    obtain ⟨rfl, N116q, e116⟩ := hQ116
    have N116 := Fr.app M114 N116q
    refine own_by st116 ?_
    clear st116 Y114
    obtain ⟨lq116, Y116, M116⟩ : ∃ lq, Stand p l e room_1 s m #[(.int xa), (.int xb), (.int xc), (.int xd), (.int xe), (.int xf)] below meth c T116 lq 3 14 ∧ Fr n0 lq := ⟨_, X116, N116⟩
    clear X116 N116
    show own_Go p e below _ (T116.setTop (mkF m 315 #[.val (.int xa), .val (.int xb), .val (.int xc), .val (.int xd), .val (.int xe), .val (.int xf), .val (.int (2 : Int32)), .val (.int w80), .val (.int w81), .val (.ref b82), .val (.int (own_min xa w80)), .val (.int (own_max xa w80)), .val (.int (0 : Int32)), .val (.int w90), .val (.ref b91), .val (.int (w90 + (2 : Int32))), .val (.int (1 : Int32))] [(.int (own_slot (0 : Int32) w90 (2 : Int32) (own_min xa w80) (own_max xa w80) (0 : Int32) xe ls113_1))]))
    refine own_by (fun _ => XS.ifNo Y116.here hx rfl (hb hby at_315) rfl ((if0 _ _).trans (feq (own_no0 (own_sl2 xe w90 (0 : Int32) hls113_1 (own_at2 hw90) (by decide)))).1)) ?_
    show own_Go p e below _ (T116.setTop (mkF m 318 #[.val (.int xa), .val (.int xb), .val (.int xc), .val (.int xd), .val (.int xe), .val (.int xf), .val (.int (2 : Int32)), .val (.int w80), .val (.int w81), .val (.ref b82), .val (.int (own_min xa w80)), .val (.int (own_max xa w80)), .val (.int (0 : Int32)), .val (.int w90), .val (.ref b91), .val (.int (w90 + (2 : Int32))), .val (.int (1 : Int32))] []))
    refine own_by (fun _ => XS.iconst Y116.here hx rfl (hb hby at_318)) ?_
    show own_Go p e below _ (T116.setTop (mkF m 319 #[.val (.int xa), .val (.int xb), .val (.int xc), .val (.int xd), .val (.int xe), .val (.int xf), .val (.int (2 : Int32)), .val (.int w80), .val (.int w81), .val (.ref b82), .val (.int (own_min xa w80)), .val (.int (own_max xa w80)), .val (.int (0 : Int32)), .val (.int w90), .val (.ref b91), .val (.int (w90 + (2 : Int32))), .val (.int (1 : Int32))] [(.int (1 : Int32))]))
    refine own_by (fun _ => XS.goto Y116.here hx rfl (pc0 := 319) (pc' := 323) rfl (hb hby at_319) (by decide) (by decide)) ?_
    show own_Go p e below _ (T116.setTop (mkF m 323 #[.val (.int xa), .val (.int xb), .val (.int xc), .val (.int xd), .val (.int xe), .val (.int xf), .val (.int (2 : Int32)), .val (.int w80), .val (.int w81), .val (.ref b82), .val (.int (own_min xa w80)), .val (.int (own_max xa w80)), .val (.int (0 : Int32)), .val (.int w90), .val (.ref b91), .val (.int (w90 + (2 : Int32))), .val (.int (1 : Int32))] [(.int (1 : Int32))]))
    refine own_by (fun _ => XS.istore Y116.here hx rfl (hb hby at_323) rfl (l' := #[.val (.int xa), .val (.int xb), .val (.int xc), .val (.int xd), .val (.int xe), .val (.int xf), .val (.int (2 : Int32)), .val (.int w80), .val (.int w81), .val (.ref b82), .val (.int (own_min xa w80)), .val (.int (own_max xa w80)), .val (.int (0 : Int32)), .val (.int w90), .val (.ref b91), .val (.int (w90 + (2 : Int32))), .val (.int (1 : Int32))]) rfl) ?_
    show own_Go p e below _ (T116.setTop (mkF m 325 #[.val (.int xa), .val (.int xb), .val (.int xc), .val (.int xd), .val (.int xe), .val (.int xf), .val (.int (2 : Int32)), .val (.int w80), .val (.int w81), .val (.ref b82), .val (.int (own_min xa w80)), .val (.int (own_max xa w80)), .val (.int (0 : Int32)), .val (.int w90), .val (.ref b91), .val (.int (w90 + (2 : Int32))), .val (.int (1 : Int32))] []))
    refine own_by (fun _ => XS.iload Y116.here hx rfl (hb hby at_325) rfl) ?_
    show own_Go p e below _ (T116.setTop (mkF m 327 #[.val (.int xa), .val (.int xb), .val (.int xc), .val (.int xd), .val (.int xe), .val (.int xf), .val (.int (2 : Int32)), .val (.int w80), .val (.int w81), .val (.ref b82), .val (.int (own_min xa w80)), .val (.int (own_max xa w80)), .val (.int (0 : Int32)), .val (.int w90), .val (.ref b91), .val (.int (w90 + (2 : Int32))), .val (.int (1 : Int32))] [(.int (1 : Int32))]))
    refine own_by (fun _ => XS.ifNo Y116.here hx rfl (hb hby at_327) rfl ((if0 _ _).trans (feq (by decide : ¬ ((1 : Int32) = (0 : Int32)))).1)) ?_
    show own_Go p e below _ (T116.setTop (mkF m 330 #[.val (.int xa), .val (.int xb), .val (.int xc), .val (.int xd), .val (.int xe), .val (.int xf), .val (.int (2 : Int32)), .val (.int w80), .val (.int w81), .val (.ref b82), .val (.int (own_min xa w80)), .val (.int (own_max xa w80)), .val (.int (0 : Int32)), .val (.int w90), .val (.ref b91), .val (.int (w90 + (2 : Int32))), .val (.int (1 : Int32))] []))
    refine own_by (fun _ => XS.aload Y116.here hx rfl (hb hby at_330) rfl rfl) ?_
    show own_Go p e below _ (T116.setTop (mkF m 332 #[.val (.int xa), .val (.int xb), .val (.int xc), .val (.int xd), .val (.int xe), .val (.int xf), .val (.int (2 : Int32)), .val (.int w80), .val (.int w81), .val (.ref b82), .val (.int (own_min xa w80)), .val (.int (own_max xa w80)), .val (.int (0 : Int32)), .val (.int w90), .val (.ref b91), .val (.int (w90 + (2 : Int32))), .val (.int (1 : Int32))] [(.ref b91)]))
    refine own_by (fun _ => XS.iconst Y116.here hx rfl (hb hby at_332)) ?_
    show own_Go p e below _ (T116.setTop (mkF m 333 #[.val (.int xa), .val (.int xb), .val (.int xc), .val (.int xd), .val (.int xe), .val (.int xf), .val (.int (2 : Int32)), .val (.int w80), .val (.int w81), .val (.ref b82), .val (.int (own_min xa w80)), .val (.int (own_max xa w80)), .val (.int (0 : Int32)), .val (.int w90), .val (.ref b91), .val (.int (w90 + (2 : Int32))), .val (.int (1 : Int32))] [(.int (1 : Int32)), (.ref b91)]))
    refine own_by (fun _ => XS.iload Y116.here hx rfl (hb hby at_333) rfl) ?_
    show own_Go p e below _ (T116.setTop (mkF m 335 #[.val (.int xa), .val (.int xb), .val (.int xc), .val (.int xd), .val (.int xe), .val (.int xf), .val (.int (2 : Int32)), .val (.int w80), .val (.int w81), .val (.ref b82), .val (.int (own_min xa w80)), .val (.int (own_max xa w80)), .val (.int (0 : Int32)), .val (.int w90), .val (.ref b91), .val (.int (w90 + (2 : Int32))), .val (.int (1 : Int32))] [(.int w90), (.int (1 : Int32)), (.ref b91)]))
    refine own_by (fun _ => XS.iload Y116.here hx rfl (hb hby at_335) rfl) ?_
    show own_Go p e below _ (T116.setTop (mkF m 337 #[.val (.int xa), .val (.int xb), .val (.int xc), .val (.int xd), .val (.int xe), .val (.int xf), .val (.int (2 : Int32)), .val (.int w80), .val (.int w81), .val (.ref b82), .val (.int (own_min xa w80)), .val (.int (own_max xa w80)), .val (.int (0 : Int32)), .val (.int w90), .val (.ref b91), .val (.int (w90 + (2 : Int32))), .val (.int (1 : Int32))] [(.int (2 : Int32)), (.int w90), (.int (1 : Int32)), (.ref b91)]))
    refine own_by (fun _ => XS.iload Y116.here hx rfl (hb hby at_337) rfl) ?_
    show own_Go p e below _ (T116.setTop (mkF m 339 #[.val (.int xa), .val (.int xb), .val (.int xc), .val (.int xd), .val (.int xe), .val (.int xf), .val (.int (2 : Int32)), .val (.int w80), .val (.int w81), .val (.ref b82), .val (.int (own_min xa w80)), .val (.int (own_max xa w80)), .val (.int (0 : Int32)), .val (.int w90), .val (.ref b91), .val (.int (w90 + (2 : Int32))), .val (.int (1 : Int32))] [(.int (own_min xa w80)), (.int (2 : Int32)), (.int w90), (.int (1 : Int32)), (.ref b91)]))
    refine own_by (fun _ => XS.iload Y116.here hx rfl (hb hby at_339) rfl) ?_
    show own_Go p e below _ (T116.setTop (mkF m 341 #[.val (.int xa), .val (.int xb), .val (.int xc), .val (.int xd), .val (.int xe), .val (.int xf), .val (.int (2 : Int32)), .val (.int w80), .val (.int w81), .val (.ref b82), .val (.int (own_min xa w80)), .val (.int (own_max xa w80)), .val (.int (0 : Int32)), .val (.int w90), .val (.ref b91), .val (.int (w90 + (2 : Int32))), .val (.int (1 : Int32))] [(.int (own_max xa w80)), (.int (own_min xa w80)), (.int (2 : Int32)), (.int w90), (.int (1 : Int32)), (.ref b91)]))
    refine own_by (fun _ => XS.iload Y116.here hx rfl (hb hby at_341) rfl) ?_
    show own_Go p e below _ (T116.setTop (mkF m 343 #[.val (.int xa), .val (.int xb), .val (.int xc), .val (.int xd), .val (.int xe), .val (.int xf), .val (.int (2 : Int32)), .val (.int w80), .val (.int w81), .val (.ref b82), .val (.int (own_min xa w80)), .val (.int (own_max xa w80)), .val (.int (0 : Int32)), .val (.int w90), .val (.ref b91), .val (.int (w90 + (2 : Int32))), .val (.int (1 : Int32))] [(.int (0 : Int32)), (.int (own_max xa w80)), (.int (own_min xa w80)), (.int (2 : Int32)), (.int w90), (.int (1 : Int32)), (.ref b91)]))
    refine own_by (fun _ => XS.iload Y116.here hx rfl (hb hby at_343) rfl) ?_
    show own_Go p e below _ (T116.setTop (mkF m 345 #[.val (.int xa), .val (.int xb), .val (.int xc), .val (.int xd), .val (.int xe), .val (.int xf), .val (.int (2 : Int32)), .val (.int w80), .val (.int w81), .val (.ref b82), .val (.int (own_min xa w80)), .val (.int (own_max xa w80)), .val (.int (0 : Int32)), .val (.int w90), .val (.ref b91), .val (.int (w90 + (2 : Int32))), .val (.int (1 : Int32))] [(.int xe), (.int (0 : Int32)), (.int (own_max xa w80)), (.int (own_min xa w80)), (.int (2 : Int32)), (.int w90), (.int (1 : Int32)), (.ref b91)]))
    obtain ⟨_, _, ⟨T117, L117, k117, n117⟩, -, X117, ⟨Lc117, hQ117, l117, y117, z117'⟩, st117⟩ := Jvm.LawKit.callS Y116 hx (y := (⟨"com/example/bucketsplit/bucketsplit/core/PageTakeAllPinLaw", "slot", "([IIIIIIII)Z"⟩ : MethodName)) hown (mvT hZ (hw _ (List.mem_of_getElem? (i := 37) rfl))) (mvT hZ (hw _ (List.mem_of_getElem? (i := 38) rfl))) (mvT hZ (hw _ (List.mem_of_getElem? (i := 39) rfl))) (mvT hZ (hw _ (List.mem_of_getElem? (i := 40) rfl))) (by decide) (backOf (W := 0) (own_rm8 l Z a0 hw [] b91 (1 : Int32) w90 (2 : Int32) (own_min xa w80) (own_max xa w80) (0 : Int32) xe k91 ls113_1 T113.heap n0 z113 fc113_1 (by decide : ¬ ((1 : Int32) < (0 : Int32))) (by decide : (1 : Int32) < (8 : Int32))) hZ (hw _ (List.mem_of_getElem? (i := 40) rfl)) (hw _ (List.mem_of_getElem? (i := 39) rfl)) (by decide) (by decide)) (g := (mkF m 345 #[.val (.int xa), .val (.int xb), .val (.int xc), .val (.int xd), .val (.int xe), .val (.int xf), .val (.int (2 : Int32)), .val (.int w80), .val (.int w81), .val (.ref b82), .val (.int (own_min xa w80)), .val (.int (own_max xa w80)), .val (.int (0 : Int32)), .val (.int w90), .val (.ref b91), .val (.int (w90 + (2 : Int32))), .val (.int (1 : Int32))] [(.int xe), (.int (0 : Int32)), (.int (own_max xa w80)), (.int (own_min xa w80)), (.int (2 : Int32)), (.int w90), (.int (1 : Int32)), (.ref b91)])) rfl (by rw [hml]; rfl) (argsL := [(.ref b91), (.int (1 : Int32)), (.int w90), (.int (2 : Int32)), (.int (own_min xa w80)), (.int (own_max xa w80)), (.int (0 : Int32)), (.int xe)]) (rest := []) (lenOf own_pd3 rfl) rfl (by show 2 * 0 + _ ≤ _; exact Nat.le_of_eq rfl) (hb hby at_345) (fun _ _ => ⟨rfl, e116, (by decide : 3 + 0 ≤ _), (by decide : 14 + 0 ≤ _)⟩)
    dsimp only [Pt.U, Pt.locs, Pt.cells, Pt.slots] at X117 l117 y117 z117' st117 hQ117
    subst l117 y117 z117'
    obtain ⟨rfl, N117q, e117⟩ := hQ117
    have N117 := Fr.app M116 N117q
    refine own_by st117 ?_
    clear st117 Y116
    obtain ⟨lq117, Y117, M117⟩ : ∃ lq, Stand p l e room_1 s m #[(.int xa), (.int xb), (.int xc), (.int xd), (.int xe), (.int xf)] below meth c T117 lq 3 14 ∧ Fr n0 lq := ⟨_, X117, N117⟩
    clear X117 N117
    show own_Go p e below _ (T117.setTop (mkF m 348 #[.val (.int xa), .val (.int xb), .val (.int xc), .val (.int xd), .val (.int xe), .val (.int xf), .val (.int (2 : Int32)), .val (.int w80), .val (.int w81), .val (.ref b82), .val (.int (own_min xa w80)), .val (.int (own_max xa w80)), .val (.int (0 : Int32)), .val (.int w90), .val (.ref b91), .val (.int (w90 + (2 : Int32))), .val (.int (1 : Int32))] [(.int (own_slot (1 : Int32) w90 (2 : Int32) (own_min xa w80) (own_max xa w80) (0 : Int32) xe ls113_1))]))
    refine own_by (fun _ => XS.ifNo Y117.here hx rfl (hb hby at_348) rfl ((if0 _ _).trans (feq (own_no0 (own_sl2 xe w90 (1 : Int32) hls113_1 (own_at2 hw90) (by decide)))).1)) ?_
    show own_Go p e below _ (T117.setTop (mkF m 351 #[.val (.int xa), .val (.int xb), .val (.int xc), .val (.int xd), .val (.int xe), .val (.int xf), .val (.int (2 : Int32)), .val (.int w80), .val (.int w81), .val (.ref b82), .val (.int (own_min xa w80)), .val (.int (own_max xa w80)), .val (.int (0 : Int32)), .val (.int w90), .val (.ref b91), .val (.int (w90 + (2 : Int32))), .val (.int (1 : Int32))] []))
    refine own_by (fun _ => XS.iconst Y117.here hx rfl (hb hby at_351)) ?_
    show own_Go p e below _ (T117.setTop (mkF m 352 #[.val (.int xa), .val (.int xb), .val (.int xc), .val (.int xd), .val (.int xe), .val (.int xf), .val (.int (2 : Int32)), .val (.int w80), .val (.int w81), .val (.ref b82), .val (.int (own_min xa w80)), .val (.int (own_max xa w80)), .val (.int (0 : Int32)), .val (.int w90), .val (.ref b91), .val (.int (w90 + (2 : Int32))), .val (.int (1 : Int32))] [(.int (1 : Int32))]))
    refine own_by (fun _ => XS.goto Y117.here hx rfl (pc0 := 352) (pc' := 356) rfl (hb hby at_352) (by decide) (by decide)) ?_
    show own_Go p e below _ (T117.setTop (mkF m 356 #[.val (.int xa), .val (.int xb), .val (.int xc), .val (.int xd), .val (.int xe), .val (.int xf), .val (.int (2 : Int32)), .val (.int w80), .val (.int w81), .val (.ref b82), .val (.int (own_min xa w80)), .val (.int (own_max xa w80)), .val (.int (0 : Int32)), .val (.int w90), .val (.ref b91), .val (.int (w90 + (2 : Int32))), .val (.int (1 : Int32))] [(.int (1 : Int32))]))
    refine own_by (fun _ => XS.istore Y117.here hx rfl (hb hby at_356) rfl (l' := #[.val (.int xa), .val (.int xb), .val (.int xc), .val (.int xd), .val (.int xe), .val (.int xf), .val (.int (2 : Int32)), .val (.int w80), .val (.int w81), .val (.ref b82), .val (.int (own_min xa w80)), .val (.int (own_max xa w80)), .val (.int (0 : Int32)), .val (.int w90), .val (.ref b91), .val (.int (w90 + (2 : Int32))), .val (.int (1 : Int32))]) rfl) ?_
    show own_Go p e below _ (T117.setTop (mkF m 358 #[.val (.int xa), .val (.int xb), .val (.int xc), .val (.int xd), .val (.int xe), .val (.int xf), .val (.int (2 : Int32)), .val (.int w80), .val (.int w81), .val (.ref b82), .val (.int (own_min xa w80)), .val (.int (own_max xa w80)), .val (.int (0 : Int32)), .val (.int w90), .val (.ref b91), .val (.int (w90 + (2 : Int32))), .val (.int (1 : Int32))] []))
    refine own_by (fun _ => XS.iload Y117.here hx rfl (hb hby at_358) rfl) ?_
    show own_Go p e below _ (T117.setTop (mkF m 360 #[.val (.int xa), .val (.int xb), .val (.int xc), .val (.int xd), .val (.int xe), .val (.int xf), .val (.int (2 : Int32)), .val (.int w80), .val (.int w81), .val (.ref b82), .val (.int (own_min xa w80)), .val (.int (own_max xa w80)), .val (.int (0 : Int32)), .val (.int w90), .val (.ref b91), .val (.int (w90 + (2 : Int32))), .val (.int (1 : Int32))] [(.int (1 : Int32))]))
    refine own_by (fun _ => XS.ifNo Y117.here hx rfl (hb hby at_360) rfl ((if0 _ _).trans (feq (by decide : ¬ ((1 : Int32) = (0 : Int32)))).1)) ?_
    show own_Go p e below _ (T117.setTop (mkF m 363 #[.val (.int xa), .val (.int xb), .val (.int xc), .val (.int xd), .val (.int xe), .val (.int xf), .val (.int (2 : Int32)), .val (.int w80), .val (.int w81), .val (.ref b82), .val (.int (own_min xa w80)), .val (.int (own_max xa w80)), .val (.int (0 : Int32)), .val (.int w90), .val (.ref b91), .val (.int (w90 + (2 : Int32))), .val (.int (1 : Int32))] []))
    refine own_by (fun _ => XS.aload Y117.here hx rfl (hb hby at_363) rfl rfl) ?_
    show own_Go p e below _ (T117.setTop (mkF m 365 #[.val (.int xa), .val (.int xb), .val (.int xc), .val (.int xd), .val (.int xe), .val (.int xf), .val (.int (2 : Int32)), .val (.int w80), .val (.int w81), .val (.ref b82), .val (.int (own_min xa w80)), .val (.int (own_max xa w80)), .val (.int (0 : Int32)), .val (.int w90), .val (.ref b91), .val (.int (w90 + (2 : Int32))), .val (.int (1 : Int32))] [(.ref b91)]))
    refine own_by (fun _ => XS.iconst Y117.here hx rfl (hb hby at_365)) ?_
    show own_Go p e below _ (T117.setTop (mkF m 366 #[.val (.int xa), .val (.int xb), .val (.int xc), .val (.int xd), .val (.int xe), .val (.int xf), .val (.int (2 : Int32)), .val (.int w80), .val (.int w81), .val (.ref b82), .val (.int (own_min xa w80)), .val (.int (own_max xa w80)), .val (.int (0 : Int32)), .val (.int w90), .val (.ref b91), .val (.int (w90 + (2 : Int32))), .val (.int (1 : Int32))] [(.int (2 : Int32)), (.ref b91)]))
    refine own_by (fun _ => XS.iload Y117.here hx rfl (hb hby at_366) rfl) ?_
    show own_Go p e below _ (T117.setTop (mkF m 368 #[.val (.int xa), .val (.int xb), .val (.int xc), .val (.int xd), .val (.int xe), .val (.int xf), .val (.int (2 : Int32)), .val (.int w80), .val (.int w81), .val (.ref b82), .val (.int (own_min xa w80)), .val (.int (own_max xa w80)), .val (.int (0 : Int32)), .val (.int w90), .val (.ref b91), .val (.int (w90 + (2 : Int32))), .val (.int (1 : Int32))] [(.int w90), (.int (2 : Int32)), (.ref b91)]))
    refine own_by (fun _ => XS.iload Y117.here hx rfl (hb hby at_368) rfl) ?_
    show own_Go p e below _ (T117.setTop (mkF m 370 #[.val (.int xa), .val (.int xb), .val (.int xc), .val (.int xd), .val (.int xe), .val (.int xf), .val (.int (2 : Int32)), .val (.int w80), .val (.int w81), .val (.ref b82), .val (.int (own_min xa w80)), .val (.int (own_max xa w80)), .val (.int (0 : Int32)), .val (.int w90), .val (.ref b91), .val (.int (w90 + (2 : Int32))), .val (.int (1 : Int32))] [(.int (2 : Int32)), (.int w90), (.int (2 : Int32)), (.ref b91)]))
    refine own_by (fun _ => XS.iload Y117.here hx rfl (hb hby at_370) rfl) ?_
    show own_Go p e below _ (T117.setTop (mkF m 372 #[.val (.int xa), .val (.int xb), .val (.int xc), .val (.int xd), .val (.int xe), .val (.int xf), .val (.int (2 : Int32)), .val (.int w80), .val (.int w81), .val (.ref b82), .val (.int (own_min xa w80)), .val (.int (own_max xa w80)), .val (.int (0 : Int32)), .val (.int w90), .val (.ref b91), .val (.int (w90 + (2 : Int32))), .val (.int (1 : Int32))] [(.int (own_min xa w80)), (.int (2 : Int32)), (.int w90), (.int (2 : Int32)), (.ref b91)]))
    refine own_by (fun _ => XS.iload Y117.here hx rfl (hb hby at_372) rfl) ?_
    show own_Go p e below _ (T117.setTop (mkF m 374 #[.val (.int xa), .val (.int xb), .val (.int xc), .val (.int xd), .val (.int xe), .val (.int xf), .val (.int (2 : Int32)), .val (.int w80), .val (.int w81), .val (.ref b82), .val (.int (own_min xa w80)), .val (.int (own_max xa w80)), .val (.int (0 : Int32)), .val (.int w90), .val (.ref b91), .val (.int (w90 + (2 : Int32))), .val (.int (1 : Int32))] [(.int (own_max xa w80)), (.int (own_min xa w80)), (.int (2 : Int32)), (.int w90), (.int (2 : Int32)), (.ref b91)]))
    refine own_by (fun _ => XS.iload Y117.here hx rfl (hb hby at_374) rfl) ?_
    show own_Go p e below _ (T117.setTop (mkF m 376 #[.val (.int xa), .val (.int xb), .val (.int xc), .val (.int xd), .val (.int xe), .val (.int xf), .val (.int (2 : Int32)), .val (.int w80), .val (.int w81), .val (.ref b82), .val (.int (own_min xa w80)), .val (.int (own_max xa w80)), .val (.int (0 : Int32)), .val (.int w90), .val (.ref b91), .val (.int (w90 + (2 : Int32))), .val (.int (1 : Int32))] [(.int (0 : Int32)), (.int (own_max xa w80)), (.int (own_min xa w80)), (.int (2 : Int32)), (.int w90), (.int (2 : Int32)), (.ref b91)]))
    refine own_by (fun _ => XS.iload Y117.here hx rfl (hb hby at_376) rfl) ?_
    show own_Go p e below _ (T117.setTop (mkF m 378 #[.val (.int xa), .val (.int xb), .val (.int xc), .val (.int xd), .val (.int xe), .val (.int xf), .val (.int (2 : Int32)), .val (.int w80), .val (.int w81), .val (.ref b82), .val (.int (own_min xa w80)), .val (.int (own_max xa w80)), .val (.int (0 : Int32)), .val (.int w90), .val (.ref b91), .val (.int (w90 + (2 : Int32))), .val (.int (1 : Int32))] [(.int xe), (.int (0 : Int32)), (.int (own_max xa w80)), (.int (own_min xa w80)), (.int (2 : Int32)), (.int w90), (.int (2 : Int32)), (.ref b91)]))
    obtain ⟨_, _, ⟨T118, L118, k118, n118⟩, -, X118, ⟨Lc118, hQ118, l118, y118, z118'⟩, st118⟩ := Jvm.LawKit.callS Y117 hx (y := (⟨"com/example/bucketsplit/bucketsplit/core/PageTakeAllPinLaw", "slot", "([IIIIIIII)Z"⟩ : MethodName)) hown (mvT hZ (hw _ (List.mem_of_getElem? (i := 37) rfl))) (mvT hZ (hw _ (List.mem_of_getElem? (i := 38) rfl))) (mvT hZ (hw _ (List.mem_of_getElem? (i := 39) rfl))) (mvT hZ (hw _ (List.mem_of_getElem? (i := 40) rfl))) (by decide) (backOf (W := 0) (own_rm8 l Z a0 hw [] b91 (2 : Int32) w90 (2 : Int32) (own_min xa w80) (own_max xa w80) (0 : Int32) xe k91 ls113_1 T113.heap n0 z113 fc113_1 (by decide : ¬ ((2 : Int32) < (0 : Int32))) (by decide : (2 : Int32) < (8 : Int32))) hZ (hw _ (List.mem_of_getElem? (i := 40) rfl)) (hw _ (List.mem_of_getElem? (i := 39) rfl)) (by decide) (by decide)) (g := (mkF m 378 #[.val (.int xa), .val (.int xb), .val (.int xc), .val (.int xd), .val (.int xe), .val (.int xf), .val (.int (2 : Int32)), .val (.int w80), .val (.int w81), .val (.ref b82), .val (.int (own_min xa w80)), .val (.int (own_max xa w80)), .val (.int (0 : Int32)), .val (.int w90), .val (.ref b91), .val (.int (w90 + (2 : Int32))), .val (.int (1 : Int32))] [(.int xe), (.int (0 : Int32)), (.int (own_max xa w80)), (.int (own_min xa w80)), (.int (2 : Int32)), (.int w90), (.int (2 : Int32)), (.ref b91)])) rfl (by rw [hml]; rfl) (argsL := [(.ref b91), (.int (2 : Int32)), (.int w90), (.int (2 : Int32)), (.int (own_min xa w80)), (.int (own_max xa w80)), (.int (0 : Int32)), (.int xe)]) (rest := []) (lenOf own_pd3 rfl) rfl (by show 2 * 0 + _ ≤ _; exact Nat.le_of_eq rfl) (hb hby at_378) (fun _ _ => ⟨rfl, e117, (by decide : 3 + 0 ≤ _), (by decide : 14 + 0 ≤ _)⟩)
    dsimp only [Pt.U, Pt.locs, Pt.cells, Pt.slots] at X118 l118 y118 z118' st118 hQ118
    subst l118 y118 z118'
    obtain ⟨rfl, N118q, e118⟩ := hQ118
    have N118 := Fr.app M117 N118q
    refine own_by st118 ?_
    clear st118 Y117
    obtain ⟨lq118, Y118, M118⟩ : ∃ lq, Stand p l e room_1 s m #[(.int xa), (.int xb), (.int xc), (.int xd), (.int xe), (.int xf)] below meth c T118 lq 3 14 ∧ Fr n0 lq := ⟨_, X118, N118⟩
    clear X118 N118
    show own_Go p e below _ (T118.setTop (mkF m 381 #[.val (.int xa), .val (.int xb), .val (.int xc), .val (.int xd), .val (.int xe), .val (.int xf), .val (.int (2 : Int32)), .val (.int w80), .val (.int w81), .val (.ref b82), .val (.int (own_min xa w80)), .val (.int (own_max xa w80)), .val (.int (0 : Int32)), .val (.int w90), .val (.ref b91), .val (.int (w90 + (2 : Int32))), .val (.int (1 : Int32))] [(.int (own_slot (2 : Int32) w90 (2 : Int32) (own_min xa w80) (own_max xa w80) (0 : Int32) xe ls113_1))]))
    refine own_by (fun _ => XS.ifNo Y118.here hx rfl (hb hby at_381) rfl ((if0 _ _).trans (feq (own_no0 (own_sl2 xe w90 (2 : Int32) hls113_1 (own_at2 hw90) (by decide)))).1)) ?_
    show own_Go p e below _ (T118.setTop (mkF m 384 #[.val (.int xa), .val (.int xb), .val (.int xc), .val (.int xd), .val (.int xe), .val (.int xf), .val (.int (2 : Int32)), .val (.int w80), .val (.int w81), .val (.ref b82), .val (.int (own_min xa w80)), .val (.int (own_max xa w80)), .val (.int (0 : Int32)), .val (.int w90), .val (.ref b91), .val (.int (w90 + (2 : Int32))), .val (.int (1 : Int32))] []))
    refine own_by (fun _ => XS.iconst Y118.here hx rfl (hb hby at_384)) ?_
    show own_Go p e below _ (T118.setTop (mkF m 385 #[.val (.int xa), .val (.int xb), .val (.int xc), .val (.int xd), .val (.int xe), .val (.int xf), .val (.int (2 : Int32)), .val (.int w80), .val (.int w81), .val (.ref b82), .val (.int (own_min xa w80)), .val (.int (own_max xa w80)), .val (.int (0 : Int32)), .val (.int w90), .val (.ref b91), .val (.int (w90 + (2 : Int32))), .val (.int (1 : Int32))] [(.int (1 : Int32))]))
    refine own_by (fun _ => XS.goto Y118.here hx rfl (pc0 := 385) (pc' := 389) rfl (hb hby at_385) (by decide) (by decide)) ?_
    show own_Go p e below _ (T118.setTop (mkF m 389 #[.val (.int xa), .val (.int xb), .val (.int xc), .val (.int xd), .val (.int xe), .val (.int xf), .val (.int (2 : Int32)), .val (.int w80), .val (.int w81), .val (.ref b82), .val (.int (own_min xa w80)), .val (.int (own_max xa w80)), .val (.int (0 : Int32)), .val (.int w90), .val (.ref b91), .val (.int (w90 + (2 : Int32))), .val (.int (1 : Int32))] [(.int (1 : Int32))]))
    refine own_by (fun _ => XS.istore Y118.here hx rfl (hb hby at_389) rfl (l' := #[.val (.int xa), .val (.int xb), .val (.int xc), .val (.int xd), .val (.int xe), .val (.int xf), .val (.int (2 : Int32)), .val (.int w80), .val (.int w81), .val (.ref b82), .val (.int (own_min xa w80)), .val (.int (own_max xa w80)), .val (.int (0 : Int32)), .val (.int w90), .val (.ref b91), .val (.int (w90 + (2 : Int32))), .val (.int (1 : Int32))]) rfl) ?_
    show own_Go p e below _ (T118.setTop (mkF m 391 #[.val (.int xa), .val (.int xb), .val (.int xc), .val (.int xd), .val (.int xe), .val (.int xf), .val (.int (2 : Int32)), .val (.int w80), .val (.int w81), .val (.ref b82), .val (.int (own_min xa w80)), .val (.int (own_max xa w80)), .val (.int (0 : Int32)), .val (.int w90), .val (.ref b91), .val (.int (w90 + (2 : Int32))), .val (.int (1 : Int32))] []))
    refine own_by (fun _ => XS.iload Y118.here hx rfl (hb hby at_391) rfl) ?_
    show own_Go p e below _ (T118.setTop (mkF m 393 #[.val (.int xa), .val (.int xb), .val (.int xc), .val (.int xd), .val (.int xe), .val (.int xf), .val (.int (2 : Int32)), .val (.int w80), .val (.int w81), .val (.ref b82), .val (.int (own_min xa w80)), .val (.int (own_max xa w80)), .val (.int (0 : Int32)), .val (.int w90), .val (.ref b91), .val (.int (w90 + (2 : Int32))), .val (.int (1 : Int32))] [(.int (1 : Int32))]))
    refine own_by (fun _ => XS.ifNo Y118.here hx rfl (hb hby at_393) rfl ((if0 _ _).trans (feq (by decide : ¬ ((1 : Int32) = (0 : Int32)))).1)) ?_
    show own_Go p e below _ (T118.setTop (mkF m 396 #[.val (.int xa), .val (.int xb), .val (.int xc), .val (.int xd), .val (.int xe), .val (.int xf), .val (.int (2 : Int32)), .val (.int w80), .val (.int w81), .val (.ref b82), .val (.int (own_min xa w80)), .val (.int (own_max xa w80)), .val (.int (0 : Int32)), .val (.int w90), .val (.ref b91), .val (.int (w90 + (2 : Int32))), .val (.int (1 : Int32))] []))
    refine own_by (fun _ => XS.aload Y118.here hx rfl (hb hby at_396) rfl rfl) ?_
    show own_Go p e below _ (T118.setTop (mkF m 398 #[.val (.int xa), .val (.int xb), .val (.int xc), .val (.int xd), .val (.int xe), .val (.int xf), .val (.int (2 : Int32)), .val (.int w80), .val (.int w81), .val (.ref b82), .val (.int (own_min xa w80)), .val (.int (own_max xa w80)), .val (.int (0 : Int32)), .val (.int w90), .val (.ref b91), .val (.int (w90 + (2 : Int32))), .val (.int (1 : Int32))] [(.ref b91)]))
    refine own_by (fun _ => XS.iconst Y118.here hx rfl (hb hby at_398)) ?_
    show own_Go p e below _ (T118.setTop (mkF m 399 #[.val (.int xa), .val (.int xb), .val (.int xc), .val (.int xd), .val (.int xe), .val (.int xf), .val (.int (2 : Int32)), .val (.int w80), .val (.int w81), .val (.ref b82), .val (.int (own_min xa w80)), .val (.int (own_max xa w80)), .val (.int (0 : Int32)), .val (.int w90), .val (.ref b91), .val (.int (w90 + (2 : Int32))), .val (.int (1 : Int32))] [(.int (3 : Int32)), (.ref b91)]))
    refine own_by (fun _ => XS.iload Y118.here hx rfl (hb hby at_399) rfl) ?_
    show own_Go p e below _ (T118.setTop (mkF m 401 #[.val (.int xa), .val (.int xb), .val (.int xc), .val (.int xd), .val (.int xe), .val (.int xf), .val (.int (2 : Int32)), .val (.int w80), .val (.int w81), .val (.ref b82), .val (.int (own_min xa w80)), .val (.int (own_max xa w80)), .val (.int (0 : Int32)), .val (.int w90), .val (.ref b91), .val (.int (w90 + (2 : Int32))), .val (.int (1 : Int32))] [(.int w90), (.int (3 : Int32)), (.ref b91)]))
    refine own_by (fun _ => XS.iload Y118.here hx rfl (hb hby at_401) rfl) ?_
    show own_Go p e below _ (T118.setTop (mkF m 403 #[.val (.int xa), .val (.int xb), .val (.int xc), .val (.int xd), .val (.int xe), .val (.int xf), .val (.int (2 : Int32)), .val (.int w80), .val (.int w81), .val (.ref b82), .val (.int (own_min xa w80)), .val (.int (own_max xa w80)), .val (.int (0 : Int32)), .val (.int w90), .val (.ref b91), .val (.int (w90 + (2 : Int32))), .val (.int (1 : Int32))] [(.int (2 : Int32)), (.int w90), (.int (3 : Int32)), (.ref b91)]))
    refine own_by (fun _ => XS.iload Y118.here hx rfl (hb hby at_403) rfl) ?_
    show own_Go p e below _ (T118.setTop (mkF m 405 #[.val (.int xa), .val (.int xb), .val (.int xc), .val (.int xd), .val (.int xe), .val (.int xf), .val (.int (2 : Int32)), .val (.int w80), .val (.int w81), .val (.ref b82), .val (.int (own_min xa w80)), .val (.int (own_max xa w80)), .val (.int (0 : Int32)), .val (.int w90), .val (.ref b91), .val (.int (w90 + (2 : Int32))), .val (.int (1 : Int32))] [(.int (own_min xa w80)), (.int (2 : Int32)), (.int w90), (.int (3 : Int32)), (.ref b91)]))
    refine own_by (fun _ => XS.iload Y118.here hx rfl (hb hby at_405) rfl) ?_
    show own_Go p e below _ (T118.setTop (mkF m 407 #[.val (.int xa), .val (.int xb), .val (.int xc), .val (.int xd), .val (.int xe), .val (.int xf), .val (.int (2 : Int32)), .val (.int w80), .val (.int w81), .val (.ref b82), .val (.int (own_min xa w80)), .val (.int (own_max xa w80)), .val (.int (0 : Int32)), .val (.int w90), .val (.ref b91), .val (.int (w90 + (2 : Int32))), .val (.int (1 : Int32))] [(.int (own_max xa w80)), (.int (own_min xa w80)), (.int (2 : Int32)), (.int w90), (.int (3 : Int32)), (.ref b91)]))
    refine own_by (fun _ => XS.iload Y118.here hx rfl (hb hby at_407) rfl) ?_
    show own_Go p e below _ (T118.setTop (mkF m 409 #[.val (.int xa), .val (.int xb), .val (.int xc), .val (.int xd), .val (.int xe), .val (.int xf), .val (.int (2 : Int32)), .val (.int w80), .val (.int w81), .val (.ref b82), .val (.int (own_min xa w80)), .val (.int (own_max xa w80)), .val (.int (0 : Int32)), .val (.int w90), .val (.ref b91), .val (.int (w90 + (2 : Int32))), .val (.int (1 : Int32))] [(.int (0 : Int32)), (.int (own_max xa w80)), (.int (own_min xa w80)), (.int (2 : Int32)), (.int w90), (.int (3 : Int32)), (.ref b91)]))
    refine own_by (fun _ => XS.iload Y118.here hx rfl (hb hby at_409) rfl) ?_
    show own_Go p e below _ (T118.setTop (mkF m 411 #[.val (.int xa), .val (.int xb), .val (.int xc), .val (.int xd), .val (.int xe), .val (.int xf), .val (.int (2 : Int32)), .val (.int w80), .val (.int w81), .val (.ref b82), .val (.int (own_min xa w80)), .val (.int (own_max xa w80)), .val (.int (0 : Int32)), .val (.int w90), .val (.ref b91), .val (.int (w90 + (2 : Int32))), .val (.int (1 : Int32))] [(.int xe), (.int (0 : Int32)), (.int (own_max xa w80)), (.int (own_min xa w80)), (.int (2 : Int32)), (.int w90), (.int (3 : Int32)), (.ref b91)]))
    obtain ⟨_, _, ⟨T119, L119, k119, n119⟩, -, X119, ⟨Lc119, hQ119, l119, y119, z119'⟩, st119⟩ := Jvm.LawKit.callS Y118 hx (y := (⟨"com/example/bucketsplit/bucketsplit/core/PageTakeAllPinLaw", "slot", "([IIIIIIII)Z"⟩ : MethodName)) hown (mvT hZ (hw _ (List.mem_of_getElem? (i := 37) rfl))) (mvT hZ (hw _ (List.mem_of_getElem? (i := 38) rfl))) (mvT hZ (hw _ (List.mem_of_getElem? (i := 39) rfl))) (mvT hZ (hw _ (List.mem_of_getElem? (i := 40) rfl))) (by decide) (backOf (W := 0) (own_rm8 l Z a0 hw [] b91 (3 : Int32) w90 (2 : Int32) (own_min xa w80) (own_max xa w80) (0 : Int32) xe k91 ls113_1 T113.heap n0 z113 fc113_1 (by decide : ¬ ((3 : Int32) < (0 : Int32))) (by decide : (3 : Int32) < (8 : Int32))) hZ (hw _ (List.mem_of_getElem? (i := 40) rfl)) (hw _ (List.mem_of_getElem? (i := 39) rfl)) (by decide) (by decide)) (g := (mkF m 411 #[.val (.int xa), .val (.int xb), .val (.int xc), .val (.int xd), .val (.int xe), .val (.int xf), .val (.int (2 : Int32)), .val (.int w80), .val (.int w81), .val (.ref b82), .val (.int (own_min xa w80)), .val (.int (own_max xa w80)), .val (.int (0 : Int32)), .val (.int w90), .val (.ref b91), .val (.int (w90 + (2 : Int32))), .val (.int (1 : Int32))] [(.int xe), (.int (0 : Int32)), (.int (own_max xa w80)), (.int (own_min xa w80)), (.int (2 : Int32)), (.int w90), (.int (3 : Int32)), (.ref b91)])) rfl (by rw [hml]; rfl) (argsL := [(.ref b91), (.int (3 : Int32)), (.int w90), (.int (2 : Int32)), (.int (own_min xa w80)), (.int (own_max xa w80)), (.int (0 : Int32)), (.int xe)]) (rest := []) (lenOf own_pd3 rfl) rfl (by show 2 * 0 + _ ≤ _; exact Nat.le_of_eq rfl) (hb hby at_411) (fun _ _ => ⟨rfl, e118, (by decide : 3 + 0 ≤ _), (by decide : 14 + 0 ≤ _)⟩)
    dsimp only [Pt.U, Pt.locs, Pt.cells, Pt.slots] at X119 l119 y119 z119' st119 hQ119
    subst l119 y119 z119'
    obtain ⟨rfl, N119q, e119⟩ := hQ119
    have N119 := Fr.app M118 N119q
    refine own_by st119 ?_
    clear st119 Y118
    obtain ⟨lq119, Y119, M119⟩ : ∃ lq, Stand p l e room_1 s m #[(.int xa), (.int xb), (.int xc), (.int xd), (.int xe), (.int xf)] below meth c T119 lq 3 14 ∧ Fr n0 lq := ⟨_, X119, N119⟩
    clear X119 N119
    show own_Go p e below _ (T119.setTop (mkF m 414 #[.val (.int xa), .val (.int xb), .val (.int xc), .val (.int xd), .val (.int xe), .val (.int xf), .val (.int (2 : Int32)), .val (.int w80), .val (.int w81), .val (.ref b82), .val (.int (own_min xa w80)), .val (.int (own_max xa w80)), .val (.int (0 : Int32)), .val (.int w90), .val (.ref b91), .val (.int (w90 + (2 : Int32))), .val (.int (1 : Int32))] [(.int (own_slot (3 : Int32) w90 (2 : Int32) (own_min xa w80) (own_max xa w80) (0 : Int32) xe ls113_1))]))
    refine own_by (fun _ => XS.ifNo Y119.here hx rfl (hb hby at_414) rfl ((if0 _ _).trans (feq (own_no0 (own_sl2 xe w90 (3 : Int32) hls113_1 (own_at2 hw90) (by decide)))).1)) ?_
    show own_Go p e below _ (T119.setTop (mkF m 417 #[.val (.int xa), .val (.int xb), .val (.int xc), .val (.int xd), .val (.int xe), .val (.int xf), .val (.int (2 : Int32)), .val (.int w80), .val (.int w81), .val (.ref b82), .val (.int (own_min xa w80)), .val (.int (own_max xa w80)), .val (.int (0 : Int32)), .val (.int w90), .val (.ref b91), .val (.int (w90 + (2 : Int32))), .val (.int (1 : Int32))] []))
    refine own_by (fun _ => XS.iconst Y119.here hx rfl (hb hby at_417)) ?_
    show own_Go p e below _ (T119.setTop (mkF m 418 #[.val (.int xa), .val (.int xb), .val (.int xc), .val (.int xd), .val (.int xe), .val (.int xf), .val (.int (2 : Int32)), .val (.int w80), .val (.int w81), .val (.ref b82), .val (.int (own_min xa w80)), .val (.int (own_max xa w80)), .val (.int (0 : Int32)), .val (.int w90), .val (.ref b91), .val (.int (w90 + (2 : Int32))), .val (.int (1 : Int32))] [(.int (1 : Int32))]))
    refine own_by (fun _ => XS.goto Y119.here hx rfl (pc0 := 418) (pc' := 422) rfl (hb hby at_418) (by decide) (by decide)) ?_
    show own_Go p e below _ (T119.setTop (mkF m 422 #[.val (.int xa), .val (.int xb), .val (.int xc), .val (.int xd), .val (.int xe), .val (.int xf), .val (.int (2 : Int32)), .val (.int w80), .val (.int w81), .val (.ref b82), .val (.int (own_min xa w80)), .val (.int (own_max xa w80)), .val (.int (0 : Int32)), .val (.int w90), .val (.ref b91), .val (.int (w90 + (2 : Int32))), .val (.int (1 : Int32))] [(.int (1 : Int32))]))
    refine own_by (fun _ => XS.istore Y119.here hx rfl (hb hby at_422) rfl (l' := #[.val (.int xa), .val (.int xb), .val (.int xc), .val (.int xd), .val (.int xe), .val (.int xf), .val (.int (2 : Int32)), .val (.int w80), .val (.int w81), .val (.ref b82), .val (.int (own_min xa w80)), .val (.int (own_max xa w80)), .val (.int (0 : Int32)), .val (.int w90), .val (.ref b91), .val (.int (w90 + (2 : Int32))), .val (.int (1 : Int32))]) rfl) ?_
    show own_Go p e below _ (T119.setTop (mkF m 424 #[.val (.int xa), .val (.int xb), .val (.int xc), .val (.int xd), .val (.int xe), .val (.int xf), .val (.int (2 : Int32)), .val (.int w80), .val (.int w81), .val (.ref b82), .val (.int (own_min xa w80)), .val (.int (own_max xa w80)), .val (.int (0 : Int32)), .val (.int w90), .val (.ref b91), .val (.int (w90 + (2 : Int32))), .val (.int (1 : Int32))] []))
    refine own_by (fun _ => XS.iload Y119.here hx rfl (hb hby at_424) rfl) ?_
    show own_Go p e below _ (T119.setTop (mkF m 426 #[.val (.int xa), .val (.int xb), .val (.int xc), .val (.int xd), .val (.int xe), .val (.int xf), .val (.int (2 : Int32)), .val (.int w80), .val (.int w81), .val (.ref b82), .val (.int (own_min xa w80)), .val (.int (own_max xa w80)), .val (.int (0 : Int32)), .val (.int w90), .val (.ref b91), .val (.int (w90 + (2 : Int32))), .val (.int (1 : Int32))] [(.int (1 : Int32))]))
    refine own_by (fun _ => XS.ifNo Y119.here hx rfl (hb hby at_426) rfl ((if0 _ _).trans (feq (by decide : ¬ ((1 : Int32) = (0 : Int32)))).1)) ?_
    show own_Go p e below _ (T119.setTop (mkF m 429 #[.val (.int xa), .val (.int xb), .val (.int xc), .val (.int xd), .val (.int xe), .val (.int xf), .val (.int (2 : Int32)), .val (.int w80), .val (.int w81), .val (.ref b82), .val (.int (own_min xa w80)), .val (.int (own_max xa w80)), .val (.int (0 : Int32)), .val (.int w90), .val (.ref b91), .val (.int (w90 + (2 : Int32))), .val (.int (1 : Int32))] []))
    refine own_by (fun _ => XS.aload Y119.here hx rfl (hb hby at_429) rfl rfl) ?_
    show own_Go p e below _ (T119.setTop (mkF m 431 #[.val (.int xa), .val (.int xb), .val (.int xc), .val (.int xd), .val (.int xe), .val (.int xf), .val (.int (2 : Int32)), .val (.int w80), .val (.int w81), .val (.ref b82), .val (.int (own_min xa w80)), .val (.int (own_max xa w80)), .val (.int (0 : Int32)), .val (.int w90), .val (.ref b91), .val (.int (w90 + (2 : Int32))), .val (.int (1 : Int32))] [(.ref b91)]))
    refine own_by (fun _ => XS.iconst Y119.here hx rfl (hb hby at_431)) ?_
    show own_Go p e below _ (T119.setTop (mkF m 432 #[.val (.int xa), .val (.int xb), .val (.int xc), .val (.int xd), .val (.int xe), .val (.int xf), .val (.int (2 : Int32)), .val (.int w80), .val (.int w81), .val (.ref b82), .val (.int (own_min xa w80)), .val (.int (own_max xa w80)), .val (.int (0 : Int32)), .val (.int w90), .val (.ref b91), .val (.int (w90 + (2 : Int32))), .val (.int (1 : Int32))] [(.int (4 : Int32)), (.ref b91)]))
    refine own_by (fun _ => XS.iload Y119.here hx rfl (hb hby at_432) rfl) ?_
    show own_Go p e below _ (T119.setTop (mkF m 434 #[.val (.int xa), .val (.int xb), .val (.int xc), .val (.int xd), .val (.int xe), .val (.int xf), .val (.int (2 : Int32)), .val (.int w80), .val (.int w81), .val (.ref b82), .val (.int (own_min xa w80)), .val (.int (own_max xa w80)), .val (.int (0 : Int32)), .val (.int w90), .val (.ref b91), .val (.int (w90 + (2 : Int32))), .val (.int (1 : Int32))] [(.int w90), (.int (4 : Int32)), (.ref b91)]))
    refine own_by (fun _ => XS.iload Y119.here hx rfl (hb hby at_434) rfl) ?_
    show own_Go p e below _ (T119.setTop (mkF m 436 #[.val (.int xa), .val (.int xb), .val (.int xc), .val (.int xd), .val (.int xe), .val (.int xf), .val (.int (2 : Int32)), .val (.int w80), .val (.int w81), .val (.ref b82), .val (.int (own_min xa w80)), .val (.int (own_max xa w80)), .val (.int (0 : Int32)), .val (.int w90), .val (.ref b91), .val (.int (w90 + (2 : Int32))), .val (.int (1 : Int32))] [(.int (2 : Int32)), (.int w90), (.int (4 : Int32)), (.ref b91)]))
    refine own_by (fun _ => XS.iload Y119.here hx rfl (hb hby at_436) rfl) ?_
    show own_Go p e below _ (T119.setTop (mkF m 438 #[.val (.int xa), .val (.int xb), .val (.int xc), .val (.int xd), .val (.int xe), .val (.int xf), .val (.int (2 : Int32)), .val (.int w80), .val (.int w81), .val (.ref b82), .val (.int (own_min xa w80)), .val (.int (own_max xa w80)), .val (.int (0 : Int32)), .val (.int w90), .val (.ref b91), .val (.int (w90 + (2 : Int32))), .val (.int (1 : Int32))] [(.int (own_min xa w80)), (.int (2 : Int32)), (.int w90), (.int (4 : Int32)), (.ref b91)]))
    refine own_by (fun _ => XS.iload Y119.here hx rfl (hb hby at_438) rfl) ?_
    show own_Go p e below _ (T119.setTop (mkF m 440 #[.val (.int xa), .val (.int xb), .val (.int xc), .val (.int xd), .val (.int xe), .val (.int xf), .val (.int (2 : Int32)), .val (.int w80), .val (.int w81), .val (.ref b82), .val (.int (own_min xa w80)), .val (.int (own_max xa w80)), .val (.int (0 : Int32)), .val (.int w90), .val (.ref b91), .val (.int (w90 + (2 : Int32))), .val (.int (1 : Int32))] [(.int (own_max xa w80)), (.int (own_min xa w80)), (.int (2 : Int32)), (.int w90), (.int (4 : Int32)), (.ref b91)]))
    refine own_by (fun _ => XS.iload Y119.here hx rfl (hb hby at_440) rfl) ?_
    show own_Go p e below _ (T119.setTop (mkF m 442 #[.val (.int xa), .val (.int xb), .val (.int xc), .val (.int xd), .val (.int xe), .val (.int xf), .val (.int (2 : Int32)), .val (.int w80), .val (.int w81), .val (.ref b82), .val (.int (own_min xa w80)), .val (.int (own_max xa w80)), .val (.int (0 : Int32)), .val (.int w90), .val (.ref b91), .val (.int (w90 + (2 : Int32))), .val (.int (1 : Int32))] [(.int (0 : Int32)), (.int (own_max xa w80)), (.int (own_min xa w80)), (.int (2 : Int32)), (.int w90), (.int (4 : Int32)), (.ref b91)]))
    refine own_by (fun _ => XS.iload Y119.here hx rfl (hb hby at_442) rfl) ?_
    show own_Go p e below _ (T119.setTop (mkF m 444 #[.val (.int xa), .val (.int xb), .val (.int xc), .val (.int xd), .val (.int xe), .val (.int xf), .val (.int (2 : Int32)), .val (.int w80), .val (.int w81), .val (.ref b82), .val (.int (own_min xa w80)), .val (.int (own_max xa w80)), .val (.int (0 : Int32)), .val (.int w90), .val (.ref b91), .val (.int (w90 + (2 : Int32))), .val (.int (1 : Int32))] [(.int xe), (.int (0 : Int32)), (.int (own_max xa w80)), (.int (own_min xa w80)), (.int (2 : Int32)), (.int w90), (.int (4 : Int32)), (.ref b91)]))
    obtain ⟨_, _, ⟨T120, L120, k120, n120⟩, -, X120, ⟨Lc120, hQ120, l120, y120, z120'⟩, st120⟩ := Jvm.LawKit.callS Y119 hx (y := (⟨"com/example/bucketsplit/bucketsplit/core/PageTakeAllPinLaw", "slot", "([IIIIIIII)Z"⟩ : MethodName)) hown (mvT hZ (hw _ (List.mem_of_getElem? (i := 37) rfl))) (mvT hZ (hw _ (List.mem_of_getElem? (i := 38) rfl))) (mvT hZ (hw _ (List.mem_of_getElem? (i := 39) rfl))) (mvT hZ (hw _ (List.mem_of_getElem? (i := 40) rfl))) (by decide) (backOf (W := 0) (own_rm8 l Z a0 hw [] b91 (4 : Int32) w90 (2 : Int32) (own_min xa w80) (own_max xa w80) (0 : Int32) xe k91 ls113_1 T113.heap n0 z113 fc113_1 (by decide : ¬ ((4 : Int32) < (0 : Int32))) (by decide : (4 : Int32) < (8 : Int32))) hZ (hw _ (List.mem_of_getElem? (i := 40) rfl)) (hw _ (List.mem_of_getElem? (i := 39) rfl)) (by decide) (by decide)) (g := (mkF m 444 #[.val (.int xa), .val (.int xb), .val (.int xc), .val (.int xd), .val (.int xe), .val (.int xf), .val (.int (2 : Int32)), .val (.int w80), .val (.int w81), .val (.ref b82), .val (.int (own_min xa w80)), .val (.int (own_max xa w80)), .val (.int (0 : Int32)), .val (.int w90), .val (.ref b91), .val (.int (w90 + (2 : Int32))), .val (.int (1 : Int32))] [(.int xe), (.int (0 : Int32)), (.int (own_max xa w80)), (.int (own_min xa w80)), (.int (2 : Int32)), (.int w90), (.int (4 : Int32)), (.ref b91)])) rfl (by rw [hml]; rfl) (argsL := [(.ref b91), (.int (4 : Int32)), (.int w90), (.int (2 : Int32)), (.int (own_min xa w80)), (.int (own_max xa w80)), (.int (0 : Int32)), (.int xe)]) (rest := []) (lenOf own_pd3 rfl) rfl (by show 2 * 0 + _ ≤ _; exact Nat.le_of_eq rfl) (hb hby at_444) (fun _ _ => ⟨rfl, e119, (by decide : 3 + 0 ≤ _), (by decide : 14 + 0 ≤ _)⟩)
    dsimp only [Pt.U, Pt.locs, Pt.cells, Pt.slots] at X120 l120 y120 z120' st120 hQ120
    subst l120 y120 z120'
    obtain ⟨rfl, N120q, e120⟩ := hQ120
    have N120 := Fr.app M119 N120q
    refine own_by st120 ?_
    clear st120 Y119
    obtain ⟨lq120, Y120, M120⟩ : ∃ lq, Stand p l e room_1 s m #[(.int xa), (.int xb), (.int xc), (.int xd), (.int xe), (.int xf)] below meth c T120 lq 3 14 ∧ Fr n0 lq := ⟨_, X120, N120⟩
    clear X120 N120
    show own_Go p e below _ (T120.setTop (mkF m 447 #[.val (.int xa), .val (.int xb), .val (.int xc), .val (.int xd), .val (.int xe), .val (.int xf), .val (.int (2 : Int32)), .val (.int w80), .val (.int w81), .val (.ref b82), .val (.int (own_min xa w80)), .val (.int (own_max xa w80)), .val (.int (0 : Int32)), .val (.int w90), .val (.ref b91), .val (.int (w90 + (2 : Int32))), .val (.int (1 : Int32))] [(.int (own_slot (4 : Int32) w90 (2 : Int32) (own_min xa w80) (own_max xa w80) (0 : Int32) xe ls113_1))]))
    refine own_by (fun _ => XS.ifNo Y120.here hx rfl (hb hby at_447) rfl ((if0 _ _).trans (feq (own_no0 (own_sl2 xe w90 (4 : Int32) hls113_1 (own_at2 hw90) (by decide)))).1)) ?_
    show own_Go p e below _ (T120.setTop (mkF m 450 #[.val (.int xa), .val (.int xb), .val (.int xc), .val (.int xd), .val (.int xe), .val (.int xf), .val (.int (2 : Int32)), .val (.int w80), .val (.int w81), .val (.ref b82), .val (.int (own_min xa w80)), .val (.int (own_max xa w80)), .val (.int (0 : Int32)), .val (.int w90), .val (.ref b91), .val (.int (w90 + (2 : Int32))), .val (.int (1 : Int32))] []))
    refine own_by (fun _ => XS.iconst Y120.here hx rfl (hb hby at_450)) ?_
    show own_Go p e below _ (T120.setTop (mkF m 451 #[.val (.int xa), .val (.int xb), .val (.int xc), .val (.int xd), .val (.int xe), .val (.int xf), .val (.int (2 : Int32)), .val (.int w80), .val (.int w81), .val (.ref b82), .val (.int (own_min xa w80)), .val (.int (own_max xa w80)), .val (.int (0 : Int32)), .val (.int w90), .val (.ref b91), .val (.int (w90 + (2 : Int32))), .val (.int (1 : Int32))] [(.int (1 : Int32))]))
    refine own_by (fun _ => XS.goto Y120.here hx rfl (pc0 := 451) (pc' := 455) rfl (hb hby at_451) (by decide) (by decide)) ?_
    show own_Go p e below _ (T120.setTop (mkF m 455 #[.val (.int xa), .val (.int xb), .val (.int xc), .val (.int xd), .val (.int xe), .val (.int xf), .val (.int (2 : Int32)), .val (.int w80), .val (.int w81), .val (.ref b82), .val (.int (own_min xa w80)), .val (.int (own_max xa w80)), .val (.int (0 : Int32)), .val (.int w90), .val (.ref b91), .val (.int (w90 + (2 : Int32))), .val (.int (1 : Int32))] [(.int (1 : Int32))]))
    refine own_by (fun _ => XS.istore Y120.here hx rfl (hb hby at_455) rfl (l' := #[.val (.int xa), .val (.int xb), .val (.int xc), .val (.int xd), .val (.int xe), .val (.int xf), .val (.int (2 : Int32)), .val (.int w80), .val (.int w81), .val (.ref b82), .val (.int (own_min xa w80)), .val (.int (own_max xa w80)), .val (.int (0 : Int32)), .val (.int w90), .val (.ref b91), .val (.int (w90 + (2 : Int32))), .val (.int (1 : Int32))]) rfl) ?_
    show own_Go p e below _ (T120.setTop (mkF m 457 #[.val (.int xa), .val (.int xb), .val (.int xc), .val (.int xd), .val (.int xe), .val (.int xf), .val (.int (2 : Int32)), .val (.int w80), .val (.int w81), .val (.ref b82), .val (.int (own_min xa w80)), .val (.int (own_max xa w80)), .val (.int (0 : Int32)), .val (.int w90), .val (.ref b91), .val (.int (w90 + (2 : Int32))), .val (.int (1 : Int32))] []))
    refine own_by (fun _ => XS.iload Y120.here hx rfl (hb hby at_457) rfl) ?_
    show own_Go p e below _ (T120.setTop (mkF m 459 #[.val (.int xa), .val (.int xb), .val (.int xc), .val (.int xd), .val (.int xe), .val (.int xf), .val (.int (2 : Int32)), .val (.int w80), .val (.int w81), .val (.ref b82), .val (.int (own_min xa w80)), .val (.int (own_max xa w80)), .val (.int (0 : Int32)), .val (.int w90), .val (.ref b91), .val (.int (w90 + (2 : Int32))), .val (.int (1 : Int32))] [(.int (1 : Int32))]))
    refine own_by (fun _ => XS.ifNo Y120.here hx rfl (hb hby at_459) rfl ((if0 _ _).trans (feq (by decide : ¬ ((1 : Int32) = (0 : Int32)))).1)) ?_
    show own_Go p e below _ (T120.setTop (mkF m 462 #[.val (.int xa), .val (.int xb), .val (.int xc), .val (.int xd), .val (.int xe), .val (.int xf), .val (.int (2 : Int32)), .val (.int w80), .val (.int w81), .val (.ref b82), .val (.int (own_min xa w80)), .val (.int (own_max xa w80)), .val (.int (0 : Int32)), .val (.int w90), .val (.ref b91), .val (.int (w90 + (2 : Int32))), .val (.int (1 : Int32))] []))
    refine own_by (fun _ => XS.aload Y120.here hx rfl (hb hby at_462) rfl rfl) ?_
    show own_Go p e below _ (T120.setTop (mkF m 464 #[.val (.int xa), .val (.int xb), .val (.int xc), .val (.int xd), .val (.int xe), .val (.int xf), .val (.int (2 : Int32)), .val (.int w80), .val (.int w81), .val (.ref b82), .val (.int (own_min xa w80)), .val (.int (own_max xa w80)), .val (.int (0 : Int32)), .val (.int w90), .val (.ref b91), .val (.int (w90 + (2 : Int32))), .val (.int (1 : Int32))] [(.ref b91)]))
    refine own_by (fun _ => XS.iconst Y120.here hx rfl (hb hby at_464)) ?_
    show own_Go p e below _ (T120.setTop (mkF m 465 #[.val (.int xa), .val (.int xb), .val (.int xc), .val (.int xd), .val (.int xe), .val (.int xf), .val (.int (2 : Int32)), .val (.int w80), .val (.int w81), .val (.ref b82), .val (.int (own_min xa w80)), .val (.int (own_max xa w80)), .val (.int (0 : Int32)), .val (.int w90), .val (.ref b91), .val (.int (w90 + (2 : Int32))), .val (.int (1 : Int32))] [(.int (5 : Int32)), (.ref b91)]))
    refine own_by (fun _ => XS.iload Y120.here hx rfl (hb hby at_465) rfl) ?_
    show own_Go p e below _ (T120.setTop (mkF m 467 #[.val (.int xa), .val (.int xb), .val (.int xc), .val (.int xd), .val (.int xe), .val (.int xf), .val (.int (2 : Int32)), .val (.int w80), .val (.int w81), .val (.ref b82), .val (.int (own_min xa w80)), .val (.int (own_max xa w80)), .val (.int (0 : Int32)), .val (.int w90), .val (.ref b91), .val (.int (w90 + (2 : Int32))), .val (.int (1 : Int32))] [(.int w90), (.int (5 : Int32)), (.ref b91)]))
    refine own_by (fun _ => XS.iload Y120.here hx rfl (hb hby at_467) rfl) ?_
    show own_Go p e below _ (T120.setTop (mkF m 469 #[.val (.int xa), .val (.int xb), .val (.int xc), .val (.int xd), .val (.int xe), .val (.int xf), .val (.int (2 : Int32)), .val (.int w80), .val (.int w81), .val (.ref b82), .val (.int (own_min xa w80)), .val (.int (own_max xa w80)), .val (.int (0 : Int32)), .val (.int w90), .val (.ref b91), .val (.int (w90 + (2 : Int32))), .val (.int (1 : Int32))] [(.int (2 : Int32)), (.int w90), (.int (5 : Int32)), (.ref b91)]))
    refine own_by (fun _ => XS.iload Y120.here hx rfl (hb hby at_469) rfl) ?_
    show own_Go p e below _ (T120.setTop (mkF m 471 #[.val (.int xa), .val (.int xb), .val (.int xc), .val (.int xd), .val (.int xe), .val (.int xf), .val (.int (2 : Int32)), .val (.int w80), .val (.int w81), .val (.ref b82), .val (.int (own_min xa w80)), .val (.int (own_max xa w80)), .val (.int (0 : Int32)), .val (.int w90), .val (.ref b91), .val (.int (w90 + (2 : Int32))), .val (.int (1 : Int32))] [(.int (own_min xa w80)), (.int (2 : Int32)), (.int w90), (.int (5 : Int32)), (.ref b91)]))
    refine own_by (fun _ => XS.iload Y120.here hx rfl (hb hby at_471) rfl) ?_
    show own_Go p e below _ (T120.setTop (mkF m 473 #[.val (.int xa), .val (.int xb), .val (.int xc), .val (.int xd), .val (.int xe), .val (.int xf), .val (.int (2 : Int32)), .val (.int w80), .val (.int w81), .val (.ref b82), .val (.int (own_min xa w80)), .val (.int (own_max xa w80)), .val (.int (0 : Int32)), .val (.int w90), .val (.ref b91), .val (.int (w90 + (2 : Int32))), .val (.int (1 : Int32))] [(.int (own_max xa w80)), (.int (own_min xa w80)), (.int (2 : Int32)), (.int w90), (.int (5 : Int32)), (.ref b91)]))
    refine own_by (fun _ => XS.iload Y120.here hx rfl (hb hby at_473) rfl) ?_
    show own_Go p e below _ (T120.setTop (mkF m 475 #[.val (.int xa), .val (.int xb), .val (.int xc), .val (.int xd), .val (.int xe), .val (.int xf), .val (.int (2 : Int32)), .val (.int w80), .val (.int w81), .val (.ref b82), .val (.int (own_min xa w80)), .val (.int (own_max xa w80)), .val (.int (0 : Int32)), .val (.int w90), .val (.ref b91), .val (.int (w90 + (2 : Int32))), .val (.int (1 : Int32))] [(.int (0 : Int32)), (.int (own_max xa w80)), (.int (own_min xa w80)), (.int (2 : Int32)), (.int w90), (.int (5 : Int32)), (.ref b91)]))
    refine own_by (fun _ => XS.iload Y120.here hx rfl (hb hby at_475) rfl) ?_
    show own_Go p e below _ (T120.setTop (mkF m 477 #[.val (.int xa), .val (.int xb), .val (.int xc), .val (.int xd), .val (.int xe), .val (.int xf), .val (.int (2 : Int32)), .val (.int w80), .val (.int w81), .val (.ref b82), .val (.int (own_min xa w80)), .val (.int (own_max xa w80)), .val (.int (0 : Int32)), .val (.int w90), .val (.ref b91), .val (.int (w90 + (2 : Int32))), .val (.int (1 : Int32))] [(.int xe), (.int (0 : Int32)), (.int (own_max xa w80)), (.int (own_min xa w80)), (.int (2 : Int32)), (.int w90), (.int (5 : Int32)), (.ref b91)]))
    obtain ⟨_, _, ⟨T121, L121, k121, n121⟩, -, X121, ⟨Lc121, hQ121, l121, y121, z121'⟩, st121⟩ := Jvm.LawKit.callS Y120 hx (y := (⟨"com/example/bucketsplit/bucketsplit/core/PageTakeAllPinLaw", "slot", "([IIIIIIII)Z"⟩ : MethodName)) hown (mvT hZ (hw _ (List.mem_of_getElem? (i := 37) rfl))) (mvT hZ (hw _ (List.mem_of_getElem? (i := 38) rfl))) (mvT hZ (hw _ (List.mem_of_getElem? (i := 39) rfl))) (mvT hZ (hw _ (List.mem_of_getElem? (i := 40) rfl))) (by decide) (backOf (W := 0) (own_rm8 l Z a0 hw [] b91 (5 : Int32) w90 (2 : Int32) (own_min xa w80) (own_max xa w80) (0 : Int32) xe k91 ls113_1 T113.heap n0 z113 fc113_1 (by decide : ¬ ((5 : Int32) < (0 : Int32))) (by decide : (5 : Int32) < (8 : Int32))) hZ (hw _ (List.mem_of_getElem? (i := 40) rfl)) (hw _ (List.mem_of_getElem? (i := 39) rfl)) (by decide) (by decide)) (g := (mkF m 477 #[.val (.int xa), .val (.int xb), .val (.int xc), .val (.int xd), .val (.int xe), .val (.int xf), .val (.int (2 : Int32)), .val (.int w80), .val (.int w81), .val (.ref b82), .val (.int (own_min xa w80)), .val (.int (own_max xa w80)), .val (.int (0 : Int32)), .val (.int w90), .val (.ref b91), .val (.int (w90 + (2 : Int32))), .val (.int (1 : Int32))] [(.int xe), (.int (0 : Int32)), (.int (own_max xa w80)), (.int (own_min xa w80)), (.int (2 : Int32)), (.int w90), (.int (5 : Int32)), (.ref b91)])) rfl (by rw [hml]; rfl) (argsL := [(.ref b91), (.int (5 : Int32)), (.int w90), (.int (2 : Int32)), (.int (own_min xa w80)), (.int (own_max xa w80)), (.int (0 : Int32)), (.int xe)]) (rest := []) (lenOf own_pd3 rfl) rfl (by show 2 * 0 + _ ≤ _; exact Nat.le_of_eq rfl) (hb hby at_477) (fun _ _ => ⟨rfl, e120, (by decide : 3 + 0 ≤ _), (by decide : 14 + 0 ≤ _)⟩)
    dsimp only [Pt.U, Pt.locs, Pt.cells, Pt.slots] at X121 l121 y121 z121' st121 hQ121
    subst l121 y121 z121'
    obtain ⟨rfl, N121q, e121⟩ := hQ121
    have N121 := Fr.app M120 N121q
    refine own_by st121 ?_
    clear st121 Y120
    obtain ⟨lq121, Y121, M121⟩ : ∃ lq, Stand p l e room_1 s m #[(.int xa), (.int xb), (.int xc), (.int xd), (.int xe), (.int xf)] below meth c T121 lq 3 14 ∧ Fr n0 lq := ⟨_, X121, N121⟩
    clear X121 N121
    show own_Go p e below _ (T121.setTop (mkF m 480 #[.val (.int xa), .val (.int xb), .val (.int xc), .val (.int xd), .val (.int xe), .val (.int xf), .val (.int (2 : Int32)), .val (.int w80), .val (.int w81), .val (.ref b82), .val (.int (own_min xa w80)), .val (.int (own_max xa w80)), .val (.int (0 : Int32)), .val (.int w90), .val (.ref b91), .val (.int (w90 + (2 : Int32))), .val (.int (1 : Int32))] [(.int (own_slot (5 : Int32) w90 (2 : Int32) (own_min xa w80) (own_max xa w80) (0 : Int32) xe ls113_1))]))
    refine own_by (fun _ => XS.ifNo Y121.here hx rfl (hb hby at_480) rfl ((if0 _ _).trans (feq (own_no0 (own_sl2 xe w90 (5 : Int32) hls113_1 (own_at2 hw90) (by decide)))).1)) ?_
    show own_Go p e below _ (T121.setTop (mkF m 483 #[.val (.int xa), .val (.int xb), .val (.int xc), .val (.int xd), .val (.int xe), .val (.int xf), .val (.int (2 : Int32)), .val (.int w80), .val (.int w81), .val (.ref b82), .val (.int (own_min xa w80)), .val (.int (own_max xa w80)), .val (.int (0 : Int32)), .val (.int w90), .val (.ref b91), .val (.int (w90 + (2 : Int32))), .val (.int (1 : Int32))] []))
    refine own_by (fun _ => XS.iconst Y121.here hx rfl (hb hby at_483)) ?_
    show own_Go p e below _ (T121.setTop (mkF m 484 #[.val (.int xa), .val (.int xb), .val (.int xc), .val (.int xd), .val (.int xe), .val (.int xf), .val (.int (2 : Int32)), .val (.int w80), .val (.int w81), .val (.ref b82), .val (.int (own_min xa w80)), .val (.int (own_max xa w80)), .val (.int (0 : Int32)), .val (.int w90), .val (.ref b91), .val (.int (w90 + (2 : Int32))), .val (.int (1 : Int32))] [(.int (1 : Int32))]))
    refine own_by (fun _ => XS.goto Y121.here hx rfl (pc0 := 484) (pc' := 488) rfl (hb hby at_484) (by decide) (by decide)) ?_
    show own_Go p e below _ (T121.setTop (mkF m 488 #[.val (.int xa), .val (.int xb), .val (.int xc), .val (.int xd), .val (.int xe), .val (.int xf), .val (.int (2 : Int32)), .val (.int w80), .val (.int w81), .val (.ref b82), .val (.int (own_min xa w80)), .val (.int (own_max xa w80)), .val (.int (0 : Int32)), .val (.int w90), .val (.ref b91), .val (.int (w90 + (2 : Int32))), .val (.int (1 : Int32))] [(.int (1 : Int32))]))
    refine own_by (fun _ => XS.istore Y121.here hx rfl (hb hby at_488) rfl (l' := #[.val (.int xa), .val (.int xb), .val (.int xc), .val (.int xd), .val (.int xe), .val (.int xf), .val (.int (2 : Int32)), .val (.int w80), .val (.int w81), .val (.ref b82), .val (.int (own_min xa w80)), .val (.int (own_max xa w80)), .val (.int (0 : Int32)), .val (.int w90), .val (.ref b91), .val (.int (w90 + (2 : Int32))), .val (.int (1 : Int32))]) rfl) ?_
    show own_Go p e below _ (T121.setTop (mkF m 490 #[.val (.int xa), .val (.int xb), .val (.int xc), .val (.int xd), .val (.int xe), .val (.int xf), .val (.int (2 : Int32)), .val (.int w80), .val (.int w81), .val (.ref b82), .val (.int (own_min xa w80)), .val (.int (own_max xa w80)), .val (.int (0 : Int32)), .val (.int w90), .val (.ref b91), .val (.int (w90 + (2 : Int32))), .val (.int (1 : Int32))] []))
    refine own_by (fun _ => XS.iload Y121.here hx rfl (hb hby at_490) rfl) ?_
    show own_Go p e below _ (T121.setTop (mkF m 492 #[.val (.int xa), .val (.int xb), .val (.int xc), .val (.int xd), .val (.int xe), .val (.int xf), .val (.int (2 : Int32)), .val (.int w80), .val (.int w81), .val (.ref b82), .val (.int (own_min xa w80)), .val (.int (own_max xa w80)), .val (.int (0 : Int32)), .val (.int w90), .val (.ref b91), .val (.int (w90 + (2 : Int32))), .val (.int (1 : Int32))] [(.int (1 : Int32))]))
    refine own_by (fun _ => XS.ifNo Y121.here hx rfl (hb hby at_492) rfl ((if0 _ _).trans (feq (by decide : ¬ ((1 : Int32) = (0 : Int32)))).1)) ?_
    show own_Go p e below _ (T121.setTop (mkF m 495 #[.val (.int xa), .val (.int xb), .val (.int xc), .val (.int xd), .val (.int xe), .val (.int xf), .val (.int (2 : Int32)), .val (.int w80), .val (.int w81), .val (.ref b82), .val (.int (own_min xa w80)), .val (.int (own_max xa w80)), .val (.int (0 : Int32)), .val (.int w90), .val (.ref b91), .val (.int (w90 + (2 : Int32))), .val (.int (1 : Int32))] []))
    refine own_by (fun _ => XS.aload Y121.here hx rfl (hb hby at_495) rfl rfl) ?_
    show own_Go p e below _ (T121.setTop (mkF m 497 #[.val (.int xa), .val (.int xb), .val (.int xc), .val (.int xd), .val (.int xe), .val (.int xf), .val (.int (2 : Int32)), .val (.int w80), .val (.int w81), .val (.ref b82), .val (.int (own_min xa w80)), .val (.int (own_max xa w80)), .val (.int (0 : Int32)), .val (.int w90), .val (.ref b91), .val (.int (w90 + (2 : Int32))), .val (.int (1 : Int32))] [(.ref b91)]))
    refine own_by (fun _ => XS.bipush Y121.here hx rfl (hb hby at_497)) ?_
    show own_Go p e below _ (T121.setTop (mkF m 499 #[.val (.int xa), .val (.int xb), .val (.int xc), .val (.int xd), .val (.int xe), .val (.int xf), .val (.int (2 : Int32)), .val (.int w80), .val (.int w81), .val (.ref b82), .val (.int (own_min xa w80)), .val (.int (own_max xa w80)), .val (.int (0 : Int32)), .val (.int w90), .val (.ref b91), .val (.int (w90 + (2 : Int32))), .val (.int (1 : Int32))] [(.int (6 : Int32)), (.ref b91)]))
    refine own_by (fun _ => XS.iload Y121.here hx rfl (hb hby at_499) rfl) ?_
    show own_Go p e below _ (T121.setTop (mkF m 501 #[.val (.int xa), .val (.int xb), .val (.int xc), .val (.int xd), .val (.int xe), .val (.int xf), .val (.int (2 : Int32)), .val (.int w80), .val (.int w81), .val (.ref b82), .val (.int (own_min xa w80)), .val (.int (own_max xa w80)), .val (.int (0 : Int32)), .val (.int w90), .val (.ref b91), .val (.int (w90 + (2 : Int32))), .val (.int (1 : Int32))] [(.int w90), (.int (6 : Int32)), (.ref b91)]))
    refine own_by (fun _ => XS.iload Y121.here hx rfl (hb hby at_501) rfl) ?_
    show own_Go p e below _ (T121.setTop (mkF m 503 #[.val (.int xa), .val (.int xb), .val (.int xc), .val (.int xd), .val (.int xe), .val (.int xf), .val (.int (2 : Int32)), .val (.int w80), .val (.int w81), .val (.ref b82), .val (.int (own_min xa w80)), .val (.int (own_max xa w80)), .val (.int (0 : Int32)), .val (.int w90), .val (.ref b91), .val (.int (w90 + (2 : Int32))), .val (.int (1 : Int32))] [(.int (2 : Int32)), (.int w90), (.int (6 : Int32)), (.ref b91)]))
    refine own_by (fun _ => XS.iload Y121.here hx rfl (hb hby at_503) rfl) ?_
    show own_Go p e below _ (T121.setTop (mkF m 505 #[.val (.int xa), .val (.int xb), .val (.int xc), .val (.int xd), .val (.int xe), .val (.int xf), .val (.int (2 : Int32)), .val (.int w80), .val (.int w81), .val (.ref b82), .val (.int (own_min xa w80)), .val (.int (own_max xa w80)), .val (.int (0 : Int32)), .val (.int w90), .val (.ref b91), .val (.int (w90 + (2 : Int32))), .val (.int (1 : Int32))] [(.int (own_min xa w80)), (.int (2 : Int32)), (.int w90), (.int (6 : Int32)), (.ref b91)]))
    refine own_by (fun _ => XS.iload Y121.here hx rfl (hb hby at_505) rfl) ?_
    show own_Go p e below _ (T121.setTop (mkF m 507 #[.val (.int xa), .val (.int xb), .val (.int xc), .val (.int xd), .val (.int xe), .val (.int xf), .val (.int (2 : Int32)), .val (.int w80), .val (.int w81), .val (.ref b82), .val (.int (own_min xa w80)), .val (.int (own_max xa w80)), .val (.int (0 : Int32)), .val (.int w90), .val (.ref b91), .val (.int (w90 + (2 : Int32))), .val (.int (1 : Int32))] [(.int (own_max xa w80)), (.int (own_min xa w80)), (.int (2 : Int32)), (.int w90), (.int (6 : Int32)), (.ref b91)]))
    refine own_by (fun _ => XS.iload Y121.here hx rfl (hb hby at_507) rfl) ?_
    show own_Go p e below _ (T121.setTop (mkF m 509 #[.val (.int xa), .val (.int xb), .val (.int xc), .val (.int xd), .val (.int xe), .val (.int xf), .val (.int (2 : Int32)), .val (.int w80), .val (.int w81), .val (.ref b82), .val (.int (own_min xa w80)), .val (.int (own_max xa w80)), .val (.int (0 : Int32)), .val (.int w90), .val (.ref b91), .val (.int (w90 + (2 : Int32))), .val (.int (1 : Int32))] [(.int (0 : Int32)), (.int (own_max xa w80)), (.int (own_min xa w80)), (.int (2 : Int32)), (.int w90), (.int (6 : Int32)), (.ref b91)]))
    refine own_by (fun _ => XS.iload Y121.here hx rfl (hb hby at_509) rfl) ?_
    show own_Go p e below _ (T121.setTop (mkF m 511 #[.val (.int xa), .val (.int xb), .val (.int xc), .val (.int xd), .val (.int xe), .val (.int xf), .val (.int (2 : Int32)), .val (.int w80), .val (.int w81), .val (.ref b82), .val (.int (own_min xa w80)), .val (.int (own_max xa w80)), .val (.int (0 : Int32)), .val (.int w90), .val (.ref b91), .val (.int (w90 + (2 : Int32))), .val (.int (1 : Int32))] [(.int xe), (.int (0 : Int32)), (.int (own_max xa w80)), (.int (own_min xa w80)), (.int (2 : Int32)), (.int w90), (.int (6 : Int32)), (.ref b91)]))
    obtain ⟨_, _, ⟨T122, L122, k122, n122⟩, -, X122, ⟨Lc122, hQ122, l122, y122, z122'⟩, st122⟩ := Jvm.LawKit.callS Y121 hx (y := (⟨"com/example/bucketsplit/bucketsplit/core/PageTakeAllPinLaw", "slot", "([IIIIIIII)Z"⟩ : MethodName)) hown (mvT hZ (hw _ (List.mem_of_getElem? (i := 37) rfl))) (mvT hZ (hw _ (List.mem_of_getElem? (i := 38) rfl))) (mvT hZ (hw _ (List.mem_of_getElem? (i := 39) rfl))) (mvT hZ (hw _ (List.mem_of_getElem? (i := 40) rfl))) (by decide) (backOf (W := 0) (own_rm8 l Z a0 hw [] b91 (6 : Int32) w90 (2 : Int32) (own_min xa w80) (own_max xa w80) (0 : Int32) xe k91 ls113_1 T113.heap n0 z113 fc113_1 (by decide : ¬ ((6 : Int32) < (0 : Int32))) (by decide : (6 : Int32) < (8 : Int32))) hZ (hw _ (List.mem_of_getElem? (i := 40) rfl)) (hw _ (List.mem_of_getElem? (i := 39) rfl)) (by decide) (by decide)) (g := (mkF m 511 #[.val (.int xa), .val (.int xb), .val (.int xc), .val (.int xd), .val (.int xe), .val (.int xf), .val (.int (2 : Int32)), .val (.int w80), .val (.int w81), .val (.ref b82), .val (.int (own_min xa w80)), .val (.int (own_max xa w80)), .val (.int (0 : Int32)), .val (.int w90), .val (.ref b91), .val (.int (w90 + (2 : Int32))), .val (.int (1 : Int32))] [(.int xe), (.int (0 : Int32)), (.int (own_max xa w80)), (.int (own_min xa w80)), (.int (2 : Int32)), (.int w90), (.int (6 : Int32)), (.ref b91)])) rfl (by rw [hml]; rfl) (argsL := [(.ref b91), (.int (6 : Int32)), (.int w90), (.int (2 : Int32)), (.int (own_min xa w80)), (.int (own_max xa w80)), (.int (0 : Int32)), (.int xe)]) (rest := []) (lenOf own_pd3 rfl) rfl (by show 2 * 0 + _ ≤ _; exact Nat.le_of_eq rfl) (hb hby at_511) (fun _ _ => ⟨rfl, e121, (by decide : 3 + 0 ≤ _), (by decide : 14 + 0 ≤ _)⟩)
    dsimp only [Pt.U, Pt.locs, Pt.cells, Pt.slots] at X122 l122 y122 z122' st122 hQ122
    subst l122 y122 z122'
    obtain ⟨rfl, N122q, e122⟩ := hQ122
    have N122 := Fr.app M121 N122q
    refine own_by st122 ?_
    clear st122 Y121
    obtain ⟨lq122, Y122, M122⟩ : ∃ lq, Stand p l e room_1 s m #[(.int xa), (.int xb), (.int xc), (.int xd), (.int xe), (.int xf)] below meth c T122 lq 3 14 ∧ Fr n0 lq := ⟨_, X122, N122⟩
    clear X122 N122
    show own_Go p e below _ (T122.setTop (mkF m 514 #[.val (.int xa), .val (.int xb), .val (.int xc), .val (.int xd), .val (.int xe), .val (.int xf), .val (.int (2 : Int32)), .val (.int w80), .val (.int w81), .val (.ref b82), .val (.int (own_min xa w80)), .val (.int (own_max xa w80)), .val (.int (0 : Int32)), .val (.int w90), .val (.ref b91), .val (.int (w90 + (2 : Int32))), .val (.int (1 : Int32))] [(.int (own_slot (6 : Int32) w90 (2 : Int32) (own_min xa w80) (own_max xa w80) (0 : Int32) xe ls113_1))]))
    refine own_by (fun _ => XS.ifNo Y122.here hx rfl (hb hby at_514) rfl ((if0 _ _).trans (feq (own_no0 (own_sl2 xe w90 (6 : Int32) hls113_1 (own_at2 hw90) (by decide)))).1)) ?_
    show own_Go p e below _ (T122.setTop (mkF m 517 #[.val (.int xa), .val (.int xb), .val (.int xc), .val (.int xd), .val (.int xe), .val (.int xf), .val (.int (2 : Int32)), .val (.int w80), .val (.int w81), .val (.ref b82), .val (.int (own_min xa w80)), .val (.int (own_max xa w80)), .val (.int (0 : Int32)), .val (.int w90), .val (.ref b91), .val (.int (w90 + (2 : Int32))), .val (.int (1 : Int32))] []))
    refine own_by (fun _ => XS.iconst Y122.here hx rfl (hb hby at_517)) ?_
    show own_Go p e below _ (T122.setTop (mkF m 518 #[.val (.int xa), .val (.int xb), .val (.int xc), .val (.int xd), .val (.int xe), .val (.int xf), .val (.int (2 : Int32)), .val (.int w80), .val (.int w81), .val (.ref b82), .val (.int (own_min xa w80)), .val (.int (own_max xa w80)), .val (.int (0 : Int32)), .val (.int w90), .val (.ref b91), .val (.int (w90 + (2 : Int32))), .val (.int (1 : Int32))] [(.int (1 : Int32))]))
    refine own_by (fun _ => XS.goto Y122.here hx rfl (pc0 := 518) (pc' := 522) rfl (hb hby at_518) (by decide) (by decide)) ?_
    show own_Go p e below _ (T122.setTop (mkF m 522 #[.val (.int xa), .val (.int xb), .val (.int xc), .val (.int xd), .val (.int xe), .val (.int xf), .val (.int (2 : Int32)), .val (.int w80), .val (.int w81), .val (.ref b82), .val (.int (own_min xa w80)), .val (.int (own_max xa w80)), .val (.int (0 : Int32)), .val (.int w90), .val (.ref b91), .val (.int (w90 + (2 : Int32))), .val (.int (1 : Int32))] [(.int (1 : Int32))]))
    refine own_by (fun _ => XS.istore Y122.here hx rfl (hb hby at_522) rfl (l' := #[.val (.int xa), .val (.int xb), .val (.int xc), .val (.int xd), .val (.int xe), .val (.int xf), .val (.int (2 : Int32)), .val (.int w80), .val (.int w81), .val (.ref b82), .val (.int (own_min xa w80)), .val (.int (own_max xa w80)), .val (.int (0 : Int32)), .val (.int w90), .val (.ref b91), .val (.int (w90 + (2 : Int32))), .val (.int (1 : Int32))]) rfl) ?_
    show own_Go p e below _ (T122.setTop (mkF m 524 #[.val (.int xa), .val (.int xb), .val (.int xc), .val (.int xd), .val (.int xe), .val (.int xf), .val (.int (2 : Int32)), .val (.int w80), .val (.int w81), .val (.ref b82), .val (.int (own_min xa w80)), .val (.int (own_max xa w80)), .val (.int (0 : Int32)), .val (.int w90), .val (.ref b91), .val (.int (w90 + (2 : Int32))), .val (.int (1 : Int32))] []))
    refine own_by (fun _ => XS.iload Y122.here hx rfl (hb hby at_524) rfl) ?_
    show own_Go p e below _ (T122.setTop (mkF m 526 #[.val (.int xa), .val (.int xb), .val (.int xc), .val (.int xd), .val (.int xe), .val (.int xf), .val (.int (2 : Int32)), .val (.int w80), .val (.int w81), .val (.ref b82), .val (.int (own_min xa w80)), .val (.int (own_max xa w80)), .val (.int (0 : Int32)), .val (.int w90), .val (.ref b91), .val (.int (w90 + (2 : Int32))), .val (.int (1 : Int32))] [(.int (1 : Int32))]))
    refine own_by (fun _ => XS.ifNo Y122.here hx rfl (hb hby at_526) rfl ((if0 _ _).trans (feq (by decide : ¬ ((1 : Int32) = (0 : Int32)))).1)) ?_
    show own_Go p e below _ (T122.setTop (mkF m 529 #[.val (.int xa), .val (.int xb), .val (.int xc), .val (.int xd), .val (.int xe), .val (.int xf), .val (.int (2 : Int32)), .val (.int w80), .val (.int w81), .val (.ref b82), .val (.int (own_min xa w80)), .val (.int (own_max xa w80)), .val (.int (0 : Int32)), .val (.int w90), .val (.ref b91), .val (.int (w90 + (2 : Int32))), .val (.int (1 : Int32))] []))
    refine own_by (fun _ => XS.aload Y122.here hx rfl (hb hby at_529) rfl rfl) ?_
    show own_Go p e below _ (T122.setTop (mkF m 531 #[.val (.int xa), .val (.int xb), .val (.int xc), .val (.int xd), .val (.int xe), .val (.int xf), .val (.int (2 : Int32)), .val (.int w80), .val (.int w81), .val (.ref b82), .val (.int (own_min xa w80)), .val (.int (own_max xa w80)), .val (.int (0 : Int32)), .val (.int w90), .val (.ref b91), .val (.int (w90 + (2 : Int32))), .val (.int (1 : Int32))] [(.ref b91)]))
    refine own_by (fun _ => XS.bipush Y122.here hx rfl (hb hby at_531)) ?_
    show own_Go p e below _ (T122.setTop (mkF m 533 #[.val (.int xa), .val (.int xb), .val (.int xc), .val (.int xd), .val (.int xe), .val (.int xf), .val (.int (2 : Int32)), .val (.int w80), .val (.int w81), .val (.ref b82), .val (.int (own_min xa w80)), .val (.int (own_max xa w80)), .val (.int (0 : Int32)), .val (.int w90), .val (.ref b91), .val (.int (w90 + (2 : Int32))), .val (.int (1 : Int32))] [(.int (7 : Int32)), (.ref b91)]))
    refine own_by (fun _ => XS.iload Y122.here hx rfl (hb hby at_533) rfl) ?_
    show own_Go p e below _ (T122.setTop (mkF m 535 #[.val (.int xa), .val (.int xb), .val (.int xc), .val (.int xd), .val (.int xe), .val (.int xf), .val (.int (2 : Int32)), .val (.int w80), .val (.int w81), .val (.ref b82), .val (.int (own_min xa w80)), .val (.int (own_max xa w80)), .val (.int (0 : Int32)), .val (.int w90), .val (.ref b91), .val (.int (w90 + (2 : Int32))), .val (.int (1 : Int32))] [(.int w90), (.int (7 : Int32)), (.ref b91)]))
    refine own_by (fun _ => XS.iload Y122.here hx rfl (hb hby at_535) rfl) ?_
    show own_Go p e below _ (T122.setTop (mkF m 537 #[.val (.int xa), .val (.int xb), .val (.int xc), .val (.int xd), .val (.int xe), .val (.int xf), .val (.int (2 : Int32)), .val (.int w80), .val (.int w81), .val (.ref b82), .val (.int (own_min xa w80)), .val (.int (own_max xa w80)), .val (.int (0 : Int32)), .val (.int w90), .val (.ref b91), .val (.int (w90 + (2 : Int32))), .val (.int (1 : Int32))] [(.int (2 : Int32)), (.int w90), (.int (7 : Int32)), (.ref b91)]))
    refine own_by (fun _ => XS.iload Y122.here hx rfl (hb hby at_537) rfl) ?_
    show own_Go p e below _ (T122.setTop (mkF m 539 #[.val (.int xa), .val (.int xb), .val (.int xc), .val (.int xd), .val (.int xe), .val (.int xf), .val (.int (2 : Int32)), .val (.int w80), .val (.int w81), .val (.ref b82), .val (.int (own_min xa w80)), .val (.int (own_max xa w80)), .val (.int (0 : Int32)), .val (.int w90), .val (.ref b91), .val (.int (w90 + (2 : Int32))), .val (.int (1 : Int32))] [(.int (own_min xa w80)), (.int (2 : Int32)), (.int w90), (.int (7 : Int32)), (.ref b91)]))
    refine own_by (fun _ => XS.iload Y122.here hx rfl (hb hby at_539) rfl) ?_
    show own_Go p e below _ (T122.setTop (mkF m 541 #[.val (.int xa), .val (.int xb), .val (.int xc), .val (.int xd), .val (.int xe), .val (.int xf), .val (.int (2 : Int32)), .val (.int w80), .val (.int w81), .val (.ref b82), .val (.int (own_min xa w80)), .val (.int (own_max xa w80)), .val (.int (0 : Int32)), .val (.int w90), .val (.ref b91), .val (.int (w90 + (2 : Int32))), .val (.int (1 : Int32))] [(.int (own_max xa w80)), (.int (own_min xa w80)), (.int (2 : Int32)), (.int w90), (.int (7 : Int32)), (.ref b91)]))
    refine own_by (fun _ => XS.iload Y122.here hx rfl (hb hby at_541) rfl) ?_
    show own_Go p e below _ (T122.setTop (mkF m 543 #[.val (.int xa), .val (.int xb), .val (.int xc), .val (.int xd), .val (.int xe), .val (.int xf), .val (.int (2 : Int32)), .val (.int w80), .val (.int w81), .val (.ref b82), .val (.int (own_min xa w80)), .val (.int (own_max xa w80)), .val (.int (0 : Int32)), .val (.int w90), .val (.ref b91), .val (.int (w90 + (2 : Int32))), .val (.int (1 : Int32))] [(.int (0 : Int32)), (.int (own_max xa w80)), (.int (own_min xa w80)), (.int (2 : Int32)), (.int w90), (.int (7 : Int32)), (.ref b91)]))
    refine own_by (fun _ => XS.iload Y122.here hx rfl (hb hby at_543) rfl) ?_
    show own_Go p e below _ (T122.setTop (mkF m 545 #[.val (.int xa), .val (.int xb), .val (.int xc), .val (.int xd), .val (.int xe), .val (.int xf), .val (.int (2 : Int32)), .val (.int w80), .val (.int w81), .val (.ref b82), .val (.int (own_min xa w80)), .val (.int (own_max xa w80)), .val (.int (0 : Int32)), .val (.int w90), .val (.ref b91), .val (.int (w90 + (2 : Int32))), .val (.int (1 : Int32))] [(.int xe), (.int (0 : Int32)), (.int (own_max xa w80)), (.int (own_min xa w80)), (.int (2 : Int32)), (.int w90), (.int (7 : Int32)), (.ref b91)]))
    obtain ⟨_, _, ⟨T123, L123, k123, n123⟩, -, X123, ⟨Lc123, hQ123, l123, y123, z123'⟩, st123⟩ := Jvm.LawKit.callS Y122 hx (y := (⟨"com/example/bucketsplit/bucketsplit/core/PageTakeAllPinLaw", "slot", "([IIIIIIII)Z"⟩ : MethodName)) hown (mvT hZ (hw _ (List.mem_of_getElem? (i := 37) rfl))) (mvT hZ (hw _ (List.mem_of_getElem? (i := 38) rfl))) (mvT hZ (hw _ (List.mem_of_getElem? (i := 39) rfl))) (mvT hZ (hw _ (List.mem_of_getElem? (i := 40) rfl))) (by decide) (backOf (W := 0) (own_rm8 l Z a0 hw [] b91 (7 : Int32) w90 (2 : Int32) (own_min xa w80) (own_max xa w80) (0 : Int32) xe k91 ls113_1 T113.heap n0 z113 fc113_1 (by decide : ¬ ((7 : Int32) < (0 : Int32))) (by decide : (7 : Int32) < (8 : Int32))) hZ (hw _ (List.mem_of_getElem? (i := 40) rfl)) (hw _ (List.mem_of_getElem? (i := 39) rfl)) (by decide) (by decide)) (g := (mkF m 545 #[.val (.int xa), .val (.int xb), .val (.int xc), .val (.int xd), .val (.int xe), .val (.int xf), .val (.int (2 : Int32)), .val (.int w80), .val (.int w81), .val (.ref b82), .val (.int (own_min xa w80)), .val (.int (own_max xa w80)), .val (.int (0 : Int32)), .val (.int w90), .val (.ref b91), .val (.int (w90 + (2 : Int32))), .val (.int (1 : Int32))] [(.int xe), (.int (0 : Int32)), (.int (own_max xa w80)), (.int (own_min xa w80)), (.int (2 : Int32)), (.int w90), (.int (7 : Int32)), (.ref b91)])) rfl (by rw [hml]; rfl) (argsL := [(.ref b91), (.int (7 : Int32)), (.int w90), (.int (2 : Int32)), (.int (own_min xa w80)), (.int (own_max xa w80)), (.int (0 : Int32)), (.int xe)]) (rest := []) (lenOf own_pd3 rfl) rfl (by show 2 * 0 + _ ≤ _; exact Nat.le_of_eq rfl) (hb hby at_545) (fun _ _ => ⟨rfl, e122, (by decide : 3 + 0 ≤ _), (by decide : 14 + 0 ≤ _)⟩)
    dsimp only [Pt.U, Pt.locs, Pt.cells, Pt.slots] at X123 l123 y123 z123' st123 hQ123
    subst l123 y123 z123'
    obtain ⟨rfl, N123q, e123⟩ := hQ123
    have N123 := Fr.app M122 N123q
    refine own_by st123 ?_
    clear st123 Y122
    obtain ⟨lq123, Y123, M123⟩ : ∃ lq, Stand p l e room_1 s m #[(.int xa), (.int xb), (.int xc), (.int xd), (.int xe), (.int xf)] below meth c T123 lq 3 14 ∧ Fr n0 lq := ⟨_, X123, N123⟩
    clear X123 N123
    show own_Go p e below _ (T123.setTop (mkF m 548 #[.val (.int xa), .val (.int xb), .val (.int xc), .val (.int xd), .val (.int xe), .val (.int xf), .val (.int (2 : Int32)), .val (.int w80), .val (.int w81), .val (.ref b82), .val (.int (own_min xa w80)), .val (.int (own_max xa w80)), .val (.int (0 : Int32)), .val (.int w90), .val (.ref b91), .val (.int (w90 + (2 : Int32))), .val (.int (1 : Int32))] [(.int (own_slot (7 : Int32) w90 (2 : Int32) (own_min xa w80) (own_max xa w80) (0 : Int32) xe ls113_1))]))
    refine own_by (fun _ => XS.ifNo Y123.here hx rfl (hb hby at_548) rfl ((if0 _ _).trans (feq (own_no0 (own_sl2 xe w90 (7 : Int32) hls113_1 (own_at2 hw90) (by decide)))).1)) ?_
    show own_Go p e below _ (T123.setTop (mkF m 551 #[.val (.int xa), .val (.int xb), .val (.int xc), .val (.int xd), .val (.int xe), .val (.int xf), .val (.int (2 : Int32)), .val (.int w80), .val (.int w81), .val (.ref b82), .val (.int (own_min xa w80)), .val (.int (own_max xa w80)), .val (.int (0 : Int32)), .val (.int w90), .val (.ref b91), .val (.int (w90 + (2 : Int32))), .val (.int (1 : Int32))] []))
    refine own_by (fun _ => XS.iconst Y123.here hx rfl (hb hby at_551)) ?_
    show own_Go p e below _ (T123.setTop (mkF m 552 #[.val (.int xa), .val (.int xb), .val (.int xc), .val (.int xd), .val (.int xe), .val (.int xf), .val (.int (2 : Int32)), .val (.int w80), .val (.int w81), .val (.ref b82), .val (.int (own_min xa w80)), .val (.int (own_max xa w80)), .val (.int (0 : Int32)), .val (.int w90), .val (.ref b91), .val (.int (w90 + (2 : Int32))), .val (.int (1 : Int32))] [(.int (1 : Int32))]))
    refine own_by (fun _ => XS.goto Y123.here hx rfl (pc0 := 552) (pc' := 556) rfl (hb hby at_552) (by decide) (by decide)) ?_
    show own_Go p e below _ (T123.setTop (mkF m 556 #[.val (.int xa), .val (.int xb), .val (.int xc), .val (.int xd), .val (.int xe), .val (.int xf), .val (.int (2 : Int32)), .val (.int w80), .val (.int w81), .val (.ref b82), .val (.int (own_min xa w80)), .val (.int (own_max xa w80)), .val (.int (0 : Int32)), .val (.int w90), .val (.ref b91), .val (.int (w90 + (2 : Int32))), .val (.int (1 : Int32))] [(.int (1 : Int32))]))
    refine own_by (fun _ => XS.istore Y123.here hx rfl (hb hby at_556) rfl (l' := #[.val (.int xa), .val (.int xb), .val (.int xc), .val (.int xd), .val (.int xe), .val (.int xf), .val (.int (2 : Int32)), .val (.int w80), .val (.int w81), .val (.ref b82), .val (.int (own_min xa w80)), .val (.int (own_max xa w80)), .val (.int (0 : Int32)), .val (.int w90), .val (.ref b91), .val (.int (w90 + (2 : Int32))), .val (.int (1 : Int32))]) rfl) ?_
    show own_Go p e below _ (T123.setTop (mkF m 558 #[.val (.int xa), .val (.int xb), .val (.int xc), .val (.int xd), .val (.int xe), .val (.int xf), .val (.int (2 : Int32)), .val (.int w80), .val (.int w81), .val (.ref b82), .val (.int (own_min xa w80)), .val (.int (own_max xa w80)), .val (.int (0 : Int32)), .val (.int w90), .val (.ref b91), .val (.int (w90 + (2 : Int32))), .val (.int (1 : Int32))] []))
    refine own_by (fun _ => XS.iload Y123.here hx rfl (hb hby at_558) rfl) ?_
    show own_Go p e below _ (T123.setTop (mkF m 560 #[.val (.int xa), .val (.int xb), .val (.int xc), .val (.int xd), .val (.int xe), .val (.int xf), .val (.int (2 : Int32)), .val (.int w80), .val (.int w81), .val (.ref b82), .val (.int (own_min xa w80)), .val (.int (own_max xa w80)), .val (.int (0 : Int32)), .val (.int w90), .val (.ref b91), .val (.int (w90 + (2 : Int32))), .val (.int (1 : Int32))] [(.int (1 : Int32))]))
    exact own_retZ Y123 hx hlk e123 (by decide) hret (hb hby at_560) (by decide) (by decide) ⟨rfl, M123⟩
  ·
    skip
    rw [hs1]
    show own_Go p e below _ (s₁.setTop (mkF m 4 #[.val (.int xa), .val (.int xb), .val (.int xc), .val (.int xd), .val (.int xe), .val (.int xf), .unset, .unset, .unset, .unset, .unset, .unset, .unset, .unset, .unset, .unset, .unset] [(.int (3 : Int32))]))
    refine own_by (fun _ => XS.istore X0.here hx rfl (hb hby at_4) rfl (l' := #[.val (.int xa), .val (.int xb), .val (.int xc), .val (.int xd), .val (.int xe), .val (.int xf), .val (.int (3 : Int32)), .unset, .unset, .unset, .unset, .unset, .unset, .unset, .unset, .unset, .unset]) rfl) ?_
    show own_Go p e below _ (s₁.setTop (mkF m 6 #[.val (.int xa), .val (.int xb), .val (.int xc), .val (.int xd), .val (.int xe), .val (.int xf), .val (.int (3 : Int32)), .unset, .unset, .unset, .unset, .unset, .unset, .unset, .unset, .unset, .unset] []))
    refine own_by (fun _ => XS.iloadN X0.here hx rfl (hb hby at_6) rfl) ?_
    show own_Go p e below _ (s₁.setTop (mkF m 7 #[.val (.int xa), .val (.int xb), .val (.int xc), .val (.int xd), .val (.int xe), .val (.int xf), .val (.int (3 : Int32)), .unset, .unset, .unset, .unset, .unset, .unset, .unset, .unset, .unset, .unset] [(.int xa)]))
    refine own_by (fun _ => XS.iloadN X0.here hx rfl (hb hby at_7) rfl) ?_
    show own_Go p e below _ (s₁.setTop (mkF m 8 #[.val (.int xa), .val (.int xb), .val (.int xc), .val (.int xd), .val (.int xe), .val (.int xf), .val (.int (3 : Int32)), .unset, .unset, .unset, .unset, .unset, .unset, .unset, .unset, .unset, .unset] [(.int xb), (.int xa)]))
    refine own_by (fun _ => XS.iconst X0.here hx rfl (hb hby at_8)) ?_
    show own_Go p e below _ (s₁.setTop (mkF m 9 #[.val (.int xa), .val (.int xb), .val (.int xc), .val (.int xd), .val (.int xe), .val (.int xf), .val (.int (3 : Int32)), .unset, .unset, .unset, .unset, .unset, .unset, .unset, .unset, .unset, .unset] [(.int (2 : Int32)), (.int xb), (.int xa)]))
    refine own_by (fun _ => XS.ishl X0.here hx rfl (hb hby at_9) rfl) ?_
    show own_Go p e below _ (s₁.setTop (mkF m 10 #[.val (.int xa), .val (.int xb), .val (.int xc), .val (.int xd), .val (.int xe), .val (.int xf), .val (.int (3 : Int32)), .unset, .unset, .unset, .unset, .unset, .unset, .unset, .unset, .unset, .unset] [(.int (xb <<< ((2 : Int32) &&& 31))), (.int xa)]))
    refine own_by (fun _ => XS.iconst X0.here hx rfl (hb hby at_10)) ?_
    show own_Go p e below _ (s₁.setTop (mkF m 11 #[.val (.int xa), .val (.int xb), .val (.int xc), .val (.int xd), .val (.int xe), .val (.int xf), .val (.int (3 : Int32)), .unset, .unset, .unset, .unset, .unset, .unset, .unset, .unset, .unset, .unset] [(.int (1 : Int32)), (.int (xb <<< ((2 : Int32) &&& 31))), (.int xa)]))
    refine own_by (fun _ => XS.ior X0.here hx rfl (hb hby at_11) rfl) ?_
    show own_Go p e below _ (s₁.setTop (mkF m 12 #[.val (.int xa), .val (.int xb), .val (.int xc), .val (.int xd), .val (.int xe), .val (.int xf), .val (.int (3 : Int32)), .unset, .unset, .unset, .unset, .unset, .unset, .unset, .unset, .unset, .unset] [(.int ((xb <<< ((2 : Int32) &&& 31)) ||| (1 : Int32))), (.int xa)]))
    refine own_by (fun _ => XS.ixor X0.here hx rfl (hb hby at_12) rfl) ?_
    show own_Go p e below _ (s₁.setTop (mkF m 13 #[.val (.int xa), .val (.int xb), .val (.int xc), .val (.int xd), .val (.int xe), .val (.int xf), .val (.int (3 : Int32)), .unset, .unset, .unset, .unset, .unset, .unset, .unset, .unset, .unset, .unset] [(.int (xa ^^^ ((xb <<< ((2 : Int32) &&& 31)) ||| (1 : Int32))))]))
    refine own_by (fun _ => XS.istore X0.here hx rfl (hb hby at_13) rfl (l' := #[.val (.int xa), .val (.int xb), .val (.int xc), .val (.int xd), .val (.int xe), .val (.int xf), .val (.int (3 : Int32)), .val (.int (xa ^^^ ((xb <<< ((2 : Int32) &&& 31)) ||| (1 : Int32)))), .unset, .unset, .unset, .unset, .unset, .unset, .unset, .unset, .unset]) rfl) ?_
    show own_Go p e below _ (s₁.setTop (mkF m 15 #[.val (.int xa), .val (.int xb), .val (.int xc), .val (.int xd), .val (.int xe), .val (.int xf), .val (.int (3 : Int32)), .val (.int (xa ^^^ ((xb <<< ((2 : Int32) &&& 31)) ||| (1 : Int32)))), .unset, .unset, .unset, .unset, .unset, .unset, .unset, .unset, .unset] []))
    obtain ⟨w124, hw124⟩ : ∃ z : Int32, z = (xa ^^^ ((xb <<< ((2 : Int32) &&& 31)) ||| (1 : Int32))) := ⟨_, rfl⟩
    rw [← hw124]
    show own_Go p e below _ (s₁.setTop (mkF m 15 #[.val (.int xa), .val (.int xb), .val (.int xc), .val (.int xd), .val (.int xe), .val (.int xf), .val (.int (3 : Int32)), .val (.int w124), .unset, .unset, .unset, .unset, .unset, .unset, .unset, .unset, .unset] []))
    refine own_by (fun _ => XS.iloadN X0.here hx rfl (hb hby at_15) rfl) ?_
    show own_Go p e below _ (s₁.setTop (mkF m 16 #[.val (.int xa), .val (.int xb), .val (.int xc), .val (.int xd), .val (.int xe), .val (.int xf), .val (.int (3 : Int32)), .val (.int w124), .unset, .unset, .unset, .unset, .unset, .unset, .unset, .unset, .unset] [(.int xa)]))
    refine own_by (fun _ => XS.iloadN X0.here hx rfl (hb hby at_16) rfl) ?_
    show own_Go p e below _ (s₁.setTop (mkF m 17 #[.val (.int xa), .val (.int xb), .val (.int xc), .val (.int xd), .val (.int xe), .val (.int xf), .val (.int (3 : Int32)), .val (.int w124), .unset, .unset, .unset, .unset, .unset, .unset, .unset, .unset, .unset] [(.int xc), (.int xa)]))
    refine own_by (fun _ => XS.iconst X0.here hx rfl (hb hby at_17)) ?_
    show own_Go p e below _ (s₁.setTop (mkF m 18 #[.val (.int xa), .val (.int xb), .val (.int xc), .val (.int xd), .val (.int xe), .val (.int xf), .val (.int (3 : Int32)), .val (.int w124), .unset, .unset, .unset, .unset, .unset, .unset, .unset, .unset, .unset] [(.int (2 : Int32)), (.int xc), (.int xa)]))
    refine own_by (fun _ => XS.ishl X0.here hx rfl (hb hby at_18) rfl) ?_
    show own_Go p e below _ (s₁.setTop (mkF m 19 #[.val (.int xa), .val (.int xb), .val (.int xc), .val (.int xd), .val (.int xe), .val (.int xf), .val (.int (3 : Int32)), .val (.int w124), .unset, .unset, .unset, .unset, .unset, .unset, .unset, .unset, .unset] [(.int (xc <<< ((2 : Int32) &&& 31))), (.int xa)]))
    refine own_by (fun _ => XS.iconst X0.here hx rfl (hb hby at_19)) ?_
    show own_Go p e below _ (s₁.setTop (mkF m 20 #[.val (.int xa), .val (.int xb), .val (.int xc), .val (.int xd), .val (.int xe), .val (.int xf), .val (.int (3 : Int32)), .val (.int w124), .unset, .unset, .unset, .unset, .unset, .unset, .unset, .unset, .unset] [(.int (2 : Int32)), (.int (xc <<< ((2 : Int32) &&& 31))), (.int xa)]))
    refine own_by (fun _ => XS.ior X0.here hx rfl (hb hby at_20) rfl) ?_
    show own_Go p e below _ (s₁.setTop (mkF m 21 #[.val (.int xa), .val (.int xb), .val (.int xc), .val (.int xd), .val (.int xe), .val (.int xf), .val (.int (3 : Int32)), .val (.int w124), .unset, .unset, .unset, .unset, .unset, .unset, .unset, .unset, .unset] [(.int ((xc <<< ((2 : Int32) &&& 31)) ||| (2 : Int32))), (.int xa)]))
    refine own_by (fun _ => XS.ixor X0.here hx rfl (hb hby at_21) rfl) ?_
    show own_Go p e below _ (s₁.setTop (mkF m 22 #[.val (.int xa), .val (.int xb), .val (.int xc), .val (.int xd), .val (.int xe), .val (.int xf), .val (.int (3 : Int32)), .val (.int w124), .unset, .unset, .unset, .unset, .unset, .unset, .unset, .unset, .unset] [(.int (xa ^^^ ((xc <<< ((2 : Int32) &&& 31)) ||| (2 : Int32))))]))
    refine own_by (fun _ => XS.istore X0.here hx rfl (hb hby at_22) rfl (l' := #[.val (.int xa), .val (.int xb), .val (.int xc), .val (.int xd), .val (.int xe), .val (.int xf), .val (.int (3 : Int32)), .val (.int w124), .val (.int (xa ^^^ ((xc <<< ((2 : Int32) &&& 31)) ||| (2 : Int32)))), .unset, .unset, .unset, .unset, .unset, .unset, .unset, .unset]) rfl) ?_
    show own_Go p e below _ (s₁.setTop (mkF m 24 #[.val (.int xa), .val (.int xb), .val (.int xc), .val (.int xd), .val (.int xe), .val (.int xf), .val (.int (3 : Int32)), .val (.int w124), .val (.int (xa ^^^ ((xc <<< ((2 : Int32) &&& 31)) ||| (2 : Int32)))), .unset, .unset, .unset, .unset, .unset, .unset, .unset, .unset] []))
    obtain ⟨w125, hw125⟩ : ∃ z : Int32, z = (xa ^^^ ((xc <<< ((2 : Int32) &&& 31)) ||| (2 : Int32))) := ⟨_, rfl⟩
    rw [← hw125]
    show own_Go p e below _ (s₁.setTop (mkF m 24 #[.val (.int xa), .val (.int xb), .val (.int xc), .val (.int xd), .val (.int xe), .val (.int xf), .val (.int (3 : Int32)), .val (.int w124), .val (.int w125), .unset, .unset, .unset, .unset, .unset, .unset, .unset, .unset] []))
    obtain ⟨T126, h126, X126, e126, E126, A126, D126, -, st126⟩ := newO X0 hx hZ hown (hw _ (List.mem_of_getElem? (i := 0) rfl)) (hw _ (List.mem_of_getElem? (i := 1) rfl)) (hw _ (List.mem_of_getElem? (i := 2) rfl)) e0 (g := (mkF m 24 #[.val (.int xa), .val (.int xb), .val (.int xc), .val (.int xd), .val (.int xe), .val (.int xf), .val (.int (3 : Int32)), .val (.int w124), .val (.int w125), .unset, .unset, .unset, .unset, .unset, .unset, .unset, .unset] [])) rfl (hb hby at_24) (by decide) (by decide)
    obtain ⟨b126, g126⟩ : ∃ z, z = h0.size := ⟨_, rfl⟩
    rw [← g126] at A126 D126 st126
    refine own_by st126 ?_
    clear st126 X0
    have ge126 : n0 ≤ b126 := Nat.le_trans Z0 (Nat.le_of_eq g126.symm)
    have z126 : n0 ≤ h126.size := Nat.le_trans Z0 E126.1
    have fz126_mKeys : Fld Z h126 b126 "com/example/bucketsplit/bucketsplit/core/Page" "mKeys" "[I" .null := D126 (Or.inl (hw _ (List.mem_of_getElem? (i := 11) rfl))) (ty := (.array .int)) (by decide)
    have fz126_mSize : Fld Z h126 b126 "com/example/bucketsplit/bucketsplit/core/Page" "mSize" "I" (.int (0 : Int32)) := D126 (Or.inl (hw _ (List.mem_of_getElem? (i := 18) rfl))) (ty := .int) (by decide)
    show own_Go p e below _ (T126.setTop (mkF m 27 #[.val (.int xa), .val (.int xb), .val (.int xc), .val (.int xd), .val (.int xe), .val (.int xf), .val (.int (3 : Int32)), .val (.int w124), .val (.int w125), .unset, .unset, .unset, .unset, .unset, .unset, .unset, .unset] [(.ref b126)]))
    refine own_by (fun _ => XS.dup X126.here hx rfl (hb hby at_27) rfl rfl) ?_
    show own_Go p e below _ (T126.setTop (mkF m 28 #[.val (.int xa), .val (.int xb), .val (.int xc), .val (.int xd), .val (.int xe), .val (.int xf), .val (.int (3 : Int32)), .val (.int w124), .val (.int w125), .unset, .unset, .unset, .unset, .unset, .unset, .unset, .unset] [(.ref b126), (.ref b126)]))
    obtain ⟨_, _, ⟨T127, L127, k127, n127⟩, -, X127, ⟨Lc127, hQ127, l127, y127, z127'⟩, st127⟩ := X126.specialBack hx (y := (⟨"com/example/bucketsplit/bucketsplit/core/Page", "<init>", "()V"⟩ : MethodName)) rfl hown (mvT hZ (hw _ (List.mem_of_getElem? (i := 3) rfl))) (mvT hZ (hw _ (List.mem_of_getElem? (i := 4) rfl))) (mvT hZ (hw _ (List.mem_of_getElem? (i := 5) rfl))) (by decide) (backOf (W := 1) (own_rm1 l Z a0 hw [] b126 .null h126 n0 z126 A126 fz126_mKeys fz126_mSize ge126) hZ (hw _ (List.mem_of_getElem? (i := 5) rfl)) (hw _ (List.mem_of_getElem? (i := 2) rfl)) (by decide) (by decide)) (g := (mkF m 28 #[.val (.int xa), .val (.int xb), .val (.int xc), .val (.int xd), .val (.int xe), .val (.int xf), .val (.int (3 : Int32)), .val (.int w124), .val (.int w125), .unset, .unset, .unset, .unset, .unset, .unset, .unset, .unset] [(.ref b126), (.ref b126)])) rfl (by rw [hml]; rfl) (Steps.refl _) (a := b126) (argsL := []) (rest := [(.ref b126)]) (lenOf own_pd0 rfl) rfl (by show 2 * 0 + _ ≤ _; exact Nat.le_of_eq rfl) (hb hby at_28) (fun _ _ => ⟨rfl, e126, (by decide : 1 + 1 ≤ _), (by decide : 2 + 4 ≤ _)⟩)
    dsimp only [Pt.U, Pt.locs, Pt.cells, Pt.slots] at X127 l127 y127 z127' st127 hQ127
    subst l127 y127 z127'
    obtain ⟨kx_127, kk_127, rfl, N127q, Kc127, fc127_0, fc127_1, fc127_2, xc127_0⟩ := hQ127
    have N127 := Fr.app N0 N127q
    refine own_tr st127 ?_
    clear st127 X126
    obtain ⟨lq127, Y127, M127⟩ : ∃ lq, Stand p l e room_1 s m #[(.int xa), (.int xb), (.int xc), (.int xd), (.int xe), (.int xf)] below meth c T127 lq 2 6 ∧ Fr n0 lq := ⟨_, X127, N127⟩
    clear X127 N127
    have ge_kx_127 : n0 ≤ kx_127 := Nat.le_trans z126 xc127_0
    have ne127_b126 : b126 ≠ kx_127 := Nat.ne_of_lt (Nat.lt_of_lt_of_le A126.lt xc127_0)
    have z127 : n0 ≤ T127.heap.size := Nat.le_trans z126 Kc127.1
    show own_Go p e below _ (T127.setTop (mkF m 31 #[.val (.int xa), .val (.int xb), .val (.int xc), .val (.int xd), .val (.int xe), .val (.int xf), .val (.int (3 : Int32)), .val (.int w124), .val (.int w125), .unset, .unset, .unset, .unset, .unset, .unset, .unset, .unset] [(.ref b126)]))
    refine own_by (fun _ => XS.astore Y127.here hx rfl (hb hby at_31) rfl rfl (l' := #[.val (.int xa), .val (.int xb), .val (.int xc), .val (.int xd), .val (.int xe), .val (.int xf), .val (.int (3 : Int32)), .val (.int w124), .val (.int w125), .val (.ref b126), .unset, .unset, .unset, .unset, .unset, .unset, .unset]) rfl) ?_
    show own_Go p e below _ (T127.setTop (mkF m 33 #[.val (.int xa), .val (.int xb), .val (.int xc), .val (.int xd), .val (.int xe), .val (.int xf), .val (.int (3 : Int32)), .val (.int w124), .val (.int w125), .val (.ref b126), .unset, .unset, .unset, .unset, .unset, .unset, .unset] []))
    refine own_by (fun _ => XS.iload Y127.here hx rfl (hb hby at_33) rfl) ?_
    show own_Go p e below _ (T127.setTop (mkF m 35 #[.val (.int xa), .val (.int xb), .val (.int xc), .val (.int xd), .val (.int xe), .val (.int xf), .val (.int (3 : Int32)), .val (.int w124), .val (.int w125), .val (.ref b126), .unset, .unset, .unset, .unset, .unset, .unset, .unset] [(.int (3 : Int32))]))
    refine own_by (fun _ => XS.iconst Y127.here hx rfl (hb hby at_35)) ?_
    show own_Go p e below _ (T127.setTop (mkF m 36 #[.val (.int xa), .val (.int xb), .val (.int xc), .val (.int xd), .val (.int xe), .val (.int xf), .val (.int (3 : Int32)), .val (.int w124), .val (.int w125), .val (.ref b126), .unset, .unset, .unset, .unset, .unset, .unset, .unset] [(.int (1 : Int32)), (.int (3 : Int32))]))
    refine own_by (fun _ => XS.icmpNo Y127.here hx rfl (hb hby at_36) rfl (flt (by decide : ¬ ((3 : Int32) < (1 : Int32)))).1) ?_
    show own_Go p e below _ (T127.setTop (mkF m 39 #[.val (.int xa), .val (.int xb), .val (.int xc), .val (.int xd), .val (.int xe), .val (.int xf), .val (.int (3 : Int32)), .val (.int w124), .val (.int w125), .val (.ref b126), .unset, .unset, .unset, .unset, .unset, .unset, .unset] []))
    refine own_by (fun _ => XS.aload Y127.here hx rfl (hb hby at_39) rfl rfl) ?_
    show own_Go p e below _ (T127.setTop (mkF m 41 #[.val (.int xa), .val (.int xb), .val (.int xc), .val (.int xd), .val (.int xe), .val (.int xf), .val (.int (3 : Int32)), .val (.int w124), .val (.int w125), .val (.ref b126), .unset, .unset, .unset, .unset, .unset, .unset, .unset] [(.ref b126)]))
    refine own_by (fun _ => XS.iloadN Y127.here hx rfl (hb hby at_41) rfl) ?_
    show own_Go p e below _ (T127.setTop (mkF m 42 #[.val (.int xa), .val (.int xb), .val (.int xc), .val (.int xd), .val (.int xe), .val (.int xf), .val (.int (3 : Int32)), .val (.int w124), .val (.int w125), .val (.ref b126), .unset, .unset, .unset, .unset, .unset, .unset, .unset] [(.int xa), (.ref b126)]))
    have f128 : Exa Z T127.heap b126 "com/example/bucketsplit/bucketsplit/core/Page" := (A126.keep Kc127)
    obtain ⟨cq129, kq129, q129a, q129b, q129c⟩ := isOf hZ rfl f128
    obtain ⟨_, _, ⟨T129, L129, k129, n129⟩, -, X129, ⟨Lc129, hQ129, l129, y129, z129'⟩, st129⟩ := Y127.virtualBack hx (y := (⟨"com/example/bucketsplit/bucketsplit/core/Page", "add", "(I)V"⟩ : MethodName)) (z := (⟨"com/example/bucketsplit/bucketsplit/core/Page", "add", "(I)V"⟩ : MethodName)) hown (mvT hZ (hw _ (List.mem_of_getElem? (i := 12) rfl))) (mvT hZ (hw _ (List.mem_of_getElem? (i := 13) rfl))) (notFace_of_selects (args := #[]) (mvT hZ (hw _ (List.mem_of_getElem? (i := 15) rfl)))) (mvT hZ (hw _ (List.mem_of_getElem? (i := 15) rfl))) (mvT hZ (hw _ (List.mem_of_getElem? (i := 14) rfl))) (by decide) (backOf (W := 0) (own_rm3_0 l Z a0 hw [] b126 xa kx_127 kk_127 (0 : Int32) (0 : Int32) (0 : Int32) (0 : Int32) T127.heap n0 z127 f128 fc127_0 fc127_1 fc127_2 ne127_b126 ge126 ge_kx_127) hZ (hw _ (List.mem_of_getElem? (i := 16) rfl)) (hw _ (List.mem_of_getElem? (i := 2) rfl)) (by decide) (by decide)) q129a q129c (g := (mkF m 42 #[.val (.int xa), .val (.int xb), .val (.int xc), .val (.int xd), .val (.int xe), .val (.int xf), .val (.int (3 : Int32)), .val (.int w124), .val (.int w125), .val (.ref b126), .unset, .unset, .unset, .unset, .unset, .unset, .unset] [(.int xa), (.ref b126)])) rfl (by rw [hml]; rfl) (Steps.refl _) (argsL := [(.int xa)]) (rest := []) (lenOf own_pd4 rfl) rfl (by show 2 * 0 + _ ≤ _; exact Nat.le_of_eq rfl) (hb hby at_42) (fun _ _ => ⟨rfl, rfl, (by decide : 2 + 0 ≤ _), (by decide : 6 + 0 ≤ _)⟩)
    dsimp only [Pt.U, Pt.locs, Pt.cells, Pt.slots] at X129 l129 y129 z129' st129 hQ129
    subst l129 y129 z129'
    obtain ⟨rfl, N129q, Kc129, fc129_0, fc129_1, fc129_2⟩ := hQ129
    have N129 := Fr.app M127 N129q
    refine own_tr st129 ?_
    clear st129 Y127
    obtain ⟨lq129, Y129, M129⟩ : ∃ lq, Stand p l e room_1 s m #[(.int xa), (.int xb), (.int xc), (.int xd), (.int xe), (.int xf)] below meth c T129 lq 2 6 ∧ Fr n0 lq := ⟨_, X129, N129⟩
    clear X129 N129
    have z129 : n0 ≤ T129.heap.size := Nat.le_trans z127 Kc129.1
    show own_Go p e below _ (T129.setTop (mkF m 45 #[.val (.int xa), .val (.int xb), .val (.int xc), .val (.int xd), .val (.int xe), .val (.int xf), .val (.int (3 : Int32)), .val (.int w124), .val (.int w125), .val (.ref b126), .unset, .unset, .unset, .unset, .unset, .unset, .unset] []))
    refine own_by (fun _ => XS.iload Y129.here hx rfl (hb hby at_45) rfl) ?_
    show own_Go p e below _ (T129.setTop (mkF m 47 #[.val (.int xa), .val (.int xb), .val (.int xc), .val (.int xd), .val (.int xe), .val (.int xf), .val (.int (3 : Int32)), .val (.int w124), .val (.int w125), .val (.ref b126), .unset, .unset, .unset, .unset, .unset, .unset, .unset] [(.int (3 : Int32))]))
    refine own_by (fun _ => XS.iconst Y129.here hx rfl (hb hby at_47)) ?_
    show own_Go p e below _ (T129.setTop (mkF m 48 #[.val (.int xa), .val (.int xb), .val (.int xc), .val (.int xd), .val (.int xe), .val (.int xf), .val (.int (3 : Int32)), .val (.int w124), .val (.int w125), .val (.ref b126), .unset, .unset, .unset, .unset, .unset, .unset, .unset] [(.int (2 : Int32)), (.int (3 : Int32))]))
    refine own_by (fun _ => XS.icmpNo Y129.here hx rfl (hb hby at_48) rfl (flt (by decide : ¬ ((3 : Int32) < (2 : Int32)))).1) ?_
    show own_Go p e below _ (T129.setTop (mkF m 51 #[.val (.int xa), .val (.int xb), .val (.int xc), .val (.int xd), .val (.int xe), .val (.int xf), .val (.int (3 : Int32)), .val (.int w124), .val (.int w125), .val (.ref b126), .unset, .unset, .unset, .unset, .unset, .unset, .unset] []))
    refine own_by (fun _ => XS.aload Y129.here hx rfl (hb hby at_51) rfl rfl) ?_
    show own_Go p e below _ (T129.setTop (mkF m 53 #[.val (.int xa), .val (.int xb), .val (.int xc), .val (.int xd), .val (.int xe), .val (.int xf), .val (.int (3 : Int32)), .val (.int w124), .val (.int w125), .val (.ref b126), .unset, .unset, .unset, .unset, .unset, .unset, .unset] [(.ref b126)]))
    refine own_by (fun _ => XS.iload Y129.here hx rfl (hb hby at_53) rfl) ?_
    show own_Go p e below _ (T129.setTop (mkF m 55 #[.val (.int xa), .val (.int xb), .val (.int xc), .val (.int xd), .val (.int xe), .val (.int xf), .val (.int (3 : Int32)), .val (.int w124), .val (.int w125), .val (.ref b126), .unset, .unset, .unset, .unset, .unset, .unset, .unset] [(.int w124), (.ref b126)]))
    have f130 : Exa Z T129.heap b126 "com/example/bucketsplit/bucketsplit/core/Page" := (f128.keep Kc129)
    obtain ⟨cq131, kq131, q131a, q131b, q131c⟩ := isOf hZ rfl f130
    obtain ⟨_, _, ⟨T131, L131, k131, n131⟩, -, X131, ⟨Lc131, hQ131, l131, y131, z131'⟩, st131⟩ := Y129.virtualBack hx (y := (⟨"com/example/bucketsplit/bucketsplit/core/Page", "add", "(I)V"⟩ : MethodName)) (z := (⟨"com/example/bucketsplit/bucketsplit/core/Page", "add", "(I)V"⟩ : MethodName)) hown (mvT hZ (hw _ (List.mem_of_getElem? (i := 12) rfl))) (mvT hZ (hw _ (List.mem_of_getElem? (i := 13) rfl))) (notFace_of_selects (args := #[]) (mvT hZ (hw _ (List.mem_of_getElem? (i := 15) rfl)))) (mvT hZ (hw _ (List.mem_of_getElem? (i := 15) rfl))) (mvT hZ (hw _ (List.mem_of_getElem? (i := 14) rfl))) (by decide) (backOf (W := 0) (own_rm3_1 l Z a0 hw [] b126 w124 kx_127 kk_127 xa (0 : Int32) (0 : Int32) (0 : Int32) T129.heap n0 z129 f130 fc129_0 fc129_1 fc129_2 ne127_b126 ge126 ge_kx_127) hZ (hw _ (List.mem_of_getElem? (i := 16) rfl)) (hw _ (List.mem_of_getElem? (i := 2) rfl)) (by decide) (by decide)) q131a q131c (g := (mkF m 55 #[.val (.int xa), .val (.int xb), .val (.int xc), .val (.int xd), .val (.int xe), .val (.int xf), .val (.int (3 : Int32)), .val (.int w124), .val (.int w125), .val (.ref b126), .unset, .unset, .unset, .unset, .unset, .unset, .unset] [(.int w124), (.ref b126)])) rfl (by rw [hml]; rfl) (Steps.refl _) (argsL := [(.int w124)]) (rest := []) (lenOf own_pd4 rfl) rfl (by show 2 * 0 + _ ≤ _; exact Nat.le_of_eq rfl) (hb hby at_55) (fun _ _ => ⟨rfl, rfl, (by decide : 2 + 0 ≤ _), (by decide : 6 + 0 ≤ _)⟩)
    dsimp only [Pt.U, Pt.locs, Pt.cells, Pt.slots] at X131 l131 y131 z131' st131 hQ131
    subst l131 y131 z131'
    obtain ⟨rfl, N131q, Kc131, fc131_0, fc131_1, fc131_2⟩ := hQ131
    have N131 := Fr.app M129 N131q
    refine own_tr st131 ?_
    clear st131 Y129
    obtain ⟨lq131, Y131, M131⟩ : ∃ lq, Stand p l e room_1 s m #[(.int xa), (.int xb), (.int xc), (.int xd), (.int xe), (.int xf)] below meth c T131 lq 2 6 ∧ Fr n0 lq := ⟨_, X131, N131⟩
    clear X131 N131
    have z131 : n0 ≤ T131.heap.size := Nat.le_trans z129 Kc131.1
    show own_Go p e below _ (T131.setTop (mkF m 58 #[.val (.int xa), .val (.int xb), .val (.int xc), .val (.int xd), .val (.int xe), .val (.int xf), .val (.int (3 : Int32)), .val (.int w124), .val (.int w125), .val (.ref b126), .unset, .unset, .unset, .unset, .unset, .unset, .unset] []))
    refine own_by (fun _ => XS.iload Y131.here hx rfl (hb hby at_58) rfl) ?_
    show own_Go p e below _ (T131.setTop (mkF m 60 #[.val (.int xa), .val (.int xb), .val (.int xc), .val (.int xd), .val (.int xe), .val (.int xf), .val (.int (3 : Int32)), .val (.int w124), .val (.int w125), .val (.ref b126), .unset, .unset, .unset, .unset, .unset, .unset, .unset] [(.int (3 : Int32))]))
    refine own_by (fun _ => XS.iconst Y131.here hx rfl (hb hby at_60)) ?_
    show own_Go p e below _ (T131.setTop (mkF m 61 #[.val (.int xa), .val (.int xb), .val (.int xc), .val (.int xd), .val (.int xe), .val (.int xf), .val (.int (3 : Int32)), .val (.int w124), .val (.int w125), .val (.ref b126), .unset, .unset, .unset, .unset, .unset, .unset, .unset] [(.int (3 : Int32)), (.int (3 : Int32))]))
    refine own_by (fun _ => XS.icmpNo Y131.here hx rfl (hb hby at_61) rfl (flt (by decide : ¬ ((3 : Int32) < (3 : Int32)))).1) ?_
    show own_Go p e below _ (T131.setTop (mkF m 64 #[.val (.int xa), .val (.int xb), .val (.int xc), .val (.int xd), .val (.int xe), .val (.int xf), .val (.int (3 : Int32)), .val (.int w124), .val (.int w125), .val (.ref b126), .unset, .unset, .unset, .unset, .unset, .unset, .unset] []))
    refine own_by (fun _ => XS.aload Y131.here hx rfl (hb hby at_64) rfl rfl) ?_
    show own_Go p e below _ (T131.setTop (mkF m 66 #[.val (.int xa), .val (.int xb), .val (.int xc), .val (.int xd), .val (.int xe), .val (.int xf), .val (.int (3 : Int32)), .val (.int w124), .val (.int w125), .val (.ref b126), .unset, .unset, .unset, .unset, .unset, .unset, .unset] [(.ref b126)]))
    refine own_by (fun _ => XS.iload Y131.here hx rfl (hb hby at_66) rfl) ?_
    show own_Go p e below _ (T131.setTop (mkF m 68 #[.val (.int xa), .val (.int xb), .val (.int xc), .val (.int xd), .val (.int xe), .val (.int xf), .val (.int (3 : Int32)), .val (.int w124), .val (.int w125), .val (.ref b126), .unset, .unset, .unset, .unset, .unset, .unset, .unset] [(.int w125), (.ref b126)]))
    have f132 : Exa Z T131.heap b126 "com/example/bucketsplit/bucketsplit/core/Page" := (f130.keep Kc131)
    obtain ⟨cq133, kq133, q133a, q133b, q133c⟩ := isOf hZ rfl f132
    obtain ⟨_, _, ⟨T133, L133, k133, n133⟩, -, X133, ⟨Lc133, hQ133, l133, y133, z133'⟩, st133⟩ := Y131.virtualBack hx (y := (⟨"com/example/bucketsplit/bucketsplit/core/Page", "add", "(I)V"⟩ : MethodName)) (z := (⟨"com/example/bucketsplit/bucketsplit/core/Page", "add", "(I)V"⟩ : MethodName)) hown (mvT hZ (hw _ (List.mem_of_getElem? (i := 12) rfl))) (mvT hZ (hw _ (List.mem_of_getElem? (i := 13) rfl))) (notFace_of_selects (args := #[]) (mvT hZ (hw _ (List.mem_of_getElem? (i := 15) rfl)))) (mvT hZ (hw _ (List.mem_of_getElem? (i := 15) rfl))) (mvT hZ (hw _ (List.mem_of_getElem? (i := 14) rfl))) (by decide) (backOf (W := 0) (own_rm3_2 l Z a0 hw [] b126 w125 kx_127 kk_127 (if w124 < xa then w124 else xa) (if w124 < xa then xa else w124) (0 : Int32) (0 : Int32) T131.heap n0 z131 f132 fc131_0 fc131_1 fc131_2 ne127_b126 ge126 ge_kx_127) hZ (hw _ (List.mem_of_getElem? (i := 16) rfl)) (hw _ (List.mem_of_getElem? (i := 2) rfl)) (by decide) (by decide)) q133a q133c (g := (mkF m 68 #[.val (.int xa), .val (.int xb), .val (.int xc), .val (.int xd), .val (.int xe), .val (.int xf), .val (.int (3 : Int32)), .val (.int w124), .val (.int w125), .val (.ref b126), .unset, .unset, .unset, .unset, .unset, .unset, .unset] [(.int w125), (.ref b126)])) rfl (by rw [hml]; rfl) (Steps.refl _) (argsL := [(.int w125)]) (rest := []) (lenOf own_pd4 rfl) rfl (by show 2 * 0 + _ ≤ _; exact Nat.le_of_eq rfl) (hb hby at_68) (fun _ _ => ⟨rfl, rfl, (by decide : 2 + 0 ≤ _), (by decide : 6 + 0 ≤ _)⟩)
    dsimp only [Pt.U, Pt.locs, Pt.cells, Pt.slots] at X133 l133 y133 z133' st133 hQ133
    subst l133 y133 z133'
    obtain ⟨rfl, N133q, Kc133, fc133_0, fc133_1, fc133_2⟩ := hQ133
    have N133 := Fr.app M131 N133q
    refine own_tr st133 ?_
    clear st133 Y131
    obtain ⟨lq133, Y133, M133⟩ : ∃ lq, Stand p l e room_1 s m #[(.int xa), (.int xb), (.int xc), (.int xd), (.int xe), (.int xf)] below meth c T133 lq 2 6 ∧ Fr n0 lq := ⟨_, X133, N133⟩
    clear X133 N133
    have z133 : n0 ≤ T133.heap.size := Nat.le_trans z131 Kc133.1
    show own_Go p e below _ (T133.setTop (mkF m 71 #[.val (.int xa), .val (.int xb), .val (.int xc), .val (.int xd), .val (.int xe), .val (.int xf), .val (.int (3 : Int32)), .val (.int w124), .val (.int w125), .val (.ref b126), .unset, .unset, .unset, .unset, .unset, .unset, .unset] []))
    refine own_by (fun _ => XS.iconst Y133.here hx rfl (hb hby at_71)) ?_
    show own_Go p e below _ (T133.setTop (mkF m 72 #[.val (.int xa), .val (.int xb), .val (.int xc), .val (.int xd), .val (.int xe), .val (.int xf), .val (.int (3 : Int32)), .val (.int w124), .val (.int w125), .val (.ref b126), .unset, .unset, .unset, .unset, .unset, .unset, .unset] [(.int (0 : Int32))]))
    refine own_by (fun _ => XS.istore Y133.here hx rfl (hb hby at_72) rfl (l' := #[.val (.int xa), .val (.int xb), .val (.int xc), .val (.int xd), .val (.int xe), .val (.int xf), .val (.int (3 : Int32)), .val (.int w124), .val (.int w125), .val (.ref b126), .val (.int (0 : Int32)), .unset, .unset, .unset, .unset, .unset, .unset]) rfl) ?_
    show own_Go p e below _ (T133.setTop (mkF m 74 #[.val (.int xa), .val (.int xb), .val (.int xc), .val (.int xd), .val (.int xe), .val (.int xf), .val (.int (3 : Int32)), .val (.int w124), .val (.int w125), .val (.ref b126), .val (.int (0 : Int32)), .unset, .unset, .unset, .unset, .unset, .unset] []))
    refine own_by (fun _ => XS.iconst Y133.here hx rfl (hb hby at_74)) ?_
    show own_Go p e below _ (T133.setTop (mkF m 75 #[.val (.int xa), .val (.int xb), .val (.int xc), .val (.int xd), .val (.int xe), .val (.int xf), .val (.int (3 : Int32)), .val (.int w124), .val (.int w125), .val (.ref b126), .val (.int (0 : Int32)), .unset, .unset, .unset, .unset, .unset, .unset] [(.int (0 : Int32))]))
    refine own_by (fun _ => XS.istore Y133.here hx rfl (hb hby at_75) rfl (l' := #[.val (.int xa), .val (.int xb), .val (.int xc), .val (.int xd), .val (.int xe), .val (.int xf), .val (.int (3 : Int32)), .val (.int w124), .val (.int w125), .val (.ref b126), .val (.int (0 : Int32)), .val (.int (0 : Int32)), .unset, .unset, .unset, .unset, .unset]) rfl) ?_
    show own_Go p e below _ (T133.setTop (mkF m 77 #[.val (.int xa), .val (.int xb), .val (.int xc), .val (.int xd), .val (.int xe), .val (.int xf), .val (.int (3 : Int32)), .val (.int w124), .val (.int w125), .val (.ref b126), .val (.int (0 : Int32)), .val (.int (0 : Int32)), .unset, .unset, .unset, .unset, .unset] []))
    refine own_by (fun _ => XS.iconst Y133.here hx rfl (hb hby at_77)) ?_
    show own_Go p e below _ (T133.setTop (mkF m 78 #[.val (.int xa), .val (.int xb), .val (.int xc), .val (.int xd), .val (.int xe), .val (.int xf), .val (.int (3 : Int32)), .val (.int w124), .val (.int w125), .val (.ref b126), .val (.int (0 : Int32)), .val (.int (0 : Int32)), .unset, .unset, .unset, .unset, .unset] [(.int (0 : Int32))]))
    refine own_by (fun _ => XS.istore Y133.here hx rfl (hb hby at_78) rfl (l' := #[.val (.int xa), .val (.int xb), .val (.int xc), .val (.int xd), .val (.int xe), .val (.int xf), .val (.int (3 : Int32)), .val (.int w124), .val (.int w125), .val (.ref b126), .val (.int (0 : Int32)), .val (.int (0 : Int32)), .val (.int (0 : Int32)), .unset, .unset, .unset, .unset]) rfl) ?_
    show own_Go p e below _ (T133.setTop (mkF m 80 #[.val (.int xa), .val (.int xb), .val (.int xc), .val (.int xd), .val (.int xe), .val (.int xf), .val (.int (3 : Int32)), .val (.int w124), .val (.int w125), .val (.ref b126), .val (.int (0 : Int32)), .val (.int (0 : Int32)), .val (.int (0 : Int32)), .unset, .unset, .unset, .unset] []))
    refine own_by (fun _ => XS.iload Y133.here hx rfl (hb hby at_80) rfl) ?_
    show own_Go p e below _ (T133.setTop (mkF m 82 #[.val (.int xa), .val (.int xb), .val (.int xc), .val (.int xd), .val (.int xe), .val (.int xf), .val (.int (3 : Int32)), .val (.int w124), .val (.int w125), .val (.ref b126), .val (.int (0 : Int32)), .val (.int (0 : Int32)), .val (.int (0 : Int32)), .unset, .unset, .unset, .unset] [(.int (3 : Int32))]))
    refine own_by (fun _ => XS.iconst Y133.here hx rfl (hb hby at_82)) ?_
    show own_Go p e below _ (T133.setTop (mkF m 83 #[.val (.int xa), .val (.int xb), .val (.int xc), .val (.int xd), .val (.int xe), .val (.int xf), .val (.int (3 : Int32)), .val (.int w124), .val (.int w125), .val (.ref b126), .val (.int (0 : Int32)), .val (.int (0 : Int32)), .val (.int (0 : Int32)), .unset, .unset, .unset, .unset] [(.int (1 : Int32)), (.int (3 : Int32))]))
    refine own_by (fun _ => XS.icmpYes Y133.here hx rfl (pc0 := 83) (pc' := 92) rfl (hb hby at_83) rfl (feq (by decide : ¬ ((3 : Int32) = (1 : Int32)))).2 (by decide) (by decide)) ?_
    show own_Go p e below _ (T133.setTop (mkF m 92 #[.val (.int xa), .val (.int xb), .val (.int xc), .val (.int xd), .val (.int xe), .val (.int xf), .val (.int (3 : Int32)), .val (.int w124), .val (.int w125), .val (.ref b126), .val (.int (0 : Int32)), .val (.int (0 : Int32)), .val (.int (0 : Int32)), .unset, .unset, .unset, .unset] []))
    refine own_by (fun _ => XS.iload Y133.here hx rfl (hb hby at_92) rfl) ?_
    show own_Go p e below _ (T133.setTop (mkF m 94 #[.val (.int xa), .val (.int xb), .val (.int xc), .val (.int xd), .val (.int xe), .val (.int xf), .val (.int (3 : Int32)), .val (.int w124), .val (.int w125), .val (.ref b126), .val (.int (0 : Int32)), .val (.int (0 : Int32)), .val (.int (0 : Int32)), .unset, .unset, .unset, .unset] [(.int (3 : Int32))]))
    refine own_by (fun _ => XS.iconst Y133.here hx rfl (hb hby at_94)) ?_
    show own_Go p e below _ (T133.setTop (mkF m 95 #[.val (.int xa), .val (.int xb), .val (.int xc), .val (.int xd), .val (.int xe), .val (.int xf), .val (.int (3 : Int32)), .val (.int w124), .val (.int w125), .val (.ref b126), .val (.int (0 : Int32)), .val (.int (0 : Int32)), .val (.int (0 : Int32)), .unset, .unset, .unset, .unset] [(.int (2 : Int32)), (.int (3 : Int32))]))
    refine own_by (fun _ => XS.icmpYes Y133.here hx rfl (pc0 := 95) (pc' := 117) rfl (hb hby at_95) rfl (feq (by decide : ¬ ((3 : Int32) = (2 : Int32)))).2 (by decide) (by decide)) ?_
    show own_Go p e below _ (T133.setTop (mkF m 117 #[.val (.int xa), .val (.int xb), .val (.int xc), .val (.int xd), .val (.int xe), .val (.int xf), .val (.int (3 : Int32)), .val (.int w124), .val (.int w125), .val (.ref b126), .val (.int (0 : Int32)), .val (.int (0 : Int32)), .val (.int (0 : Int32)), .unset, .unset, .unset, .unset] []))
    refine own_by (fun _ => XS.iload Y133.here hx rfl (hb hby at_117) rfl) ?_
    show own_Go p e below _ (T133.setTop (mkF m 119 #[.val (.int xa), .val (.int xb), .val (.int xc), .val (.int xd), .val (.int xe), .val (.int xf), .val (.int (3 : Int32)), .val (.int w124), .val (.int w125), .val (.ref b126), .val (.int (0 : Int32)), .val (.int (0 : Int32)), .val (.int (0 : Int32)), .unset, .unset, .unset, .unset] [(.int (3 : Int32))]))
    refine own_by (fun _ => XS.iconst Y133.here hx rfl (hb hby at_119)) ?_
    show own_Go p e below _ (T133.setTop (mkF m 120 #[.val (.int xa), .val (.int xb), .val (.int xc), .val (.int xd), .val (.int xe), .val (.int xf), .val (.int (3 : Int32)), .val (.int w124), .val (.int w125), .val (.ref b126), .val (.int (0 : Int32)), .val (.int (0 : Int32)), .val (.int (0 : Int32)), .unset, .unset, .unset, .unset] [(.int (3 : Int32)), (.int (3 : Int32))]))
    refine own_by (fun _ => XS.icmpNo Y133.here hx rfl (hb hby at_120) rfl (teq (by decide : (3 : Int32) = (3 : Int32))).2) ?_
    show own_Go p e below _ (T133.setTop (mkF m 123 #[.val (.int xa), .val (.int xb), .val (.int xc), .val (.int xd), .val (.int xe), .val (.int xf), .val (.int (3 : Int32)), .val (.int w124), .val (.int w125), .val (.ref b126), .val (.int (0 : Int32)), .val (.int (0 : Int32)), .val (.int (0 : Int32)), .unset, .unset, .unset, .unset] []))
    refine own_by (fun _ => XS.iloadN Y133.here hx rfl (hb hby at_123) rfl) ?_
    show own_Go p e below _ (T133.setTop (mkF m 124 #[.val (.int xa), .val (.int xb), .val (.int xc), .val (.int xd), .val (.int xe), .val (.int xf), .val (.int (3 : Int32)), .val (.int w124), .val (.int w125), .val (.ref b126), .val (.int (0 : Int32)), .val (.int (0 : Int32)), .val (.int (0 : Int32)), .unset, .unset, .unset, .unset] [(.int xa)]))
    refine own_by (fun _ => XS.iload Y133.here hx rfl (hb hby at_124) rfl) ?_
    show own_Go p e below _ (T133.setTop (mkF m 126 #[.val (.int xa), .val (.int xb), .val (.int xc), .val (.int xd), .val (.int xe), .val (.int xf), .val (.int (3 : Int32)), .val (.int w124), .val (.int w125), .val (.ref b126), .val (.int (0 : Int32)), .val (.int (0 : Int32)), .val (.int (0 : Int32)), .unset, .unset, .unset, .unset] [(.int w124), (.int xa)]))
    obtain ⟨_, _, ⟨T134, L134, k134, n134⟩, -, X134, ⟨Lc134, hQ134, l134, y134, z134'⟩, st134⟩ := Jvm.LawKit.callS Y133 hx (y := (⟨"java/lang/Math", "min", "(II)I"⟩ : MethodName)) hown (mvT hZ (hw _ (List.mem_of_getElem? (i := 19) rfl))) (mvT hZ (hw _ (List.mem_of_getElem? (i := 20) rfl))) (mvT hZ (hw _ (List.mem_of_getElem? (i := 21) rfl))) (mvT hZ (hw _ (List.mem_of_getElem? (i := 22) rfl))) (by decide) (backOf (W := 0) (own_rm4 l Z a0 hw [] xa w124 T133.heap n0 z133 ) hZ (hw _ (List.mem_of_getElem? (i := 22) rfl)) (hw _ (List.mem_of_getElem? (i := 21) rfl)) (by decide) (by decide)) (g := (mkF m 126 #[.val (.int xa), .val (.int xb), .val (.int xc), .val (.int xd), .val (.int xe), .val (.int xf), .val (.int (3 : Int32)), .val (.int w124), .val (.int w125), .val (.ref b126), .val (.int (0 : Int32)), .val (.int (0 : Int32)), .val (.int (0 : Int32)), .unset, .unset, .unset, .unset] [(.int w124), (.int xa)])) rfl (by rw [hml]; rfl) (argsL := [(.int xa), (.int w124)]) (rest := []) (lenOf own_pd5 rfl) rfl (by show 2 * 0 + _ ≤ _; exact Nat.le_of_eq rfl) (hb hby at_126) (fun _ _ => ⟨rfl, rfl, (by decide : 2 + 0 ≤ _), (by decide : 6 + 0 ≤ _)⟩)
    dsimp only [Pt.U, Pt.locs, Pt.cells, Pt.slots] at X134 l134 y134 z134' st134 hQ134
    subst l134 y134 z134'
    obtain ⟨rfl, N134q, e134⟩ := hQ134
    have N134 := Fr.app M133 N134q
    refine own_by st134 ?_
    clear st134 Y133
    obtain ⟨lq134, Y134, M134⟩ : ∃ lq, Stand p l e room_1 s m #[(.int xa), (.int xb), (.int xc), (.int xd), (.int xe), (.int xf)] below meth c T134 lq 2 6 ∧ Fr n0 lq := ⟨_, X134, N134⟩
    clear X134 N134
    show own_Go p e below _ (T134.setTop (mkF m 129 #[.val (.int xa), .val (.int xb), .val (.int xc), .val (.int xd), .val (.int xe), .val (.int xf), .val (.int (3 : Int32)), .val (.int w124), .val (.int w125), .val (.ref b126), .val (.int (0 : Int32)), .val (.int (0 : Int32)), .val (.int (0 : Int32)), .unset, .unset, .unset, .unset] [(.int (own_min xa w124))]))
    refine own_by (fun _ => XS.iload Y134.here hx rfl (hb hby at_129) rfl) ?_
    show own_Go p e below _ (T134.setTop (mkF m 131 #[.val (.int xa), .val (.int xb), .val (.int xc), .val (.int xd), .val (.int xe), .val (.int xf), .val (.int (3 : Int32)), .val (.int w124), .val (.int w125), .val (.ref b126), .val (.int (0 : Int32)), .val (.int (0 : Int32)), .val (.int (0 : Int32)), .unset, .unset, .unset, .unset] [(.int w125), (.int (own_min xa w124))]))
    obtain ⟨_, _, ⟨T135, L135, k135, n135⟩, -, X135, ⟨Lc135, hQ135, l135, y135, z135'⟩, st135⟩ := Jvm.LawKit.callS Y134 hx (y := (⟨"java/lang/Math", "min", "(II)I"⟩ : MethodName)) hown (mvT hZ (hw _ (List.mem_of_getElem? (i := 19) rfl))) (mvT hZ (hw _ (List.mem_of_getElem? (i := 20) rfl))) (mvT hZ (hw _ (List.mem_of_getElem? (i := 21) rfl))) (mvT hZ (hw _ (List.mem_of_getElem? (i := 22) rfl))) (by decide) (backOf (W := 0) (own_rm4 l Z a0 hw [] (own_min xa w124) w125 T133.heap n0 z133 ) hZ (hw _ (List.mem_of_getElem? (i := 22) rfl)) (hw _ (List.mem_of_getElem? (i := 21) rfl)) (by decide) (by decide)) (g := (mkF m 131 #[.val (.int xa), .val (.int xb), .val (.int xc), .val (.int xd), .val (.int xe), .val (.int xf), .val (.int (3 : Int32)), .val (.int w124), .val (.int w125), .val (.ref b126), .val (.int (0 : Int32)), .val (.int (0 : Int32)), .val (.int (0 : Int32)), .unset, .unset, .unset, .unset] [(.int w125), (.int (own_min xa w124))])) rfl (by rw [hml]; rfl) (argsL := [(.int (own_min xa w124)), (.int w125)]) (rest := []) (lenOf own_pd5 rfl) rfl (by show 2 * 0 + _ ≤ _; exact Nat.le_of_eq rfl) (hb hby at_131) (fun _ _ => ⟨rfl, e134, (by decide : 2 + 0 ≤ _), (by decide : 6 + 0 ≤ _)⟩)
    dsimp only [Pt.U, Pt.locs, Pt.cells, Pt.slots] at X135 l135 y135 z135' st135 hQ135
    subst l135 y135 z135'
    obtain ⟨rfl, N135q, e135⟩ := hQ135
    have N135 := Fr.app M134 N135q
    refine own_by st135 ?_
    clear st135 Y134
    obtain ⟨lq135, Y135, M135⟩ : ∃ lq, Stand p l e room_1 s m #[(.int xa), (.int xb), (.int xc), (.int xd), (.int xe), (.int xf)] below meth c T135 lq 2 6 ∧ Fr n0 lq := ⟨_, X135, N135⟩
    clear X135 N135
    show own_Go p e below _ (T135.setTop (mkF m 134 #[.val (.int xa), .val (.int xb), .val (.int xc), .val (.int xd), .val (.int xe), .val (.int xf), .val (.int (3 : Int32)), .val (.int w124), .val (.int w125), .val (.ref b126), .val (.int (0 : Int32)), .val (.int (0 : Int32)), .val (.int (0 : Int32)), .unset, .unset, .unset, .unset] [(.int (own_min (own_min xa w124) w125))]))
    refine own_by (fun _ => XS.istore Y135.here hx rfl (hb hby at_134) rfl (l' := #[.val (.int xa), .val (.int xb), .val (.int xc), .val (.int xd), .val (.int xe), .val (.int xf), .val (.int (3 : Int32)), .val (.int w124), .val (.int w125), .val (.ref b126), .val (.int (0 : Int32)), .val (.int (0 : Int32)), .val (.int (0 : Int32)), .val (.int (own_min (own_min xa w124) w125)), .unset, .unset, .unset]) rfl) ?_
    show own_Go p e below _ (T135.setTop (mkF m 136 #[.val (.int xa), .val (.int xb), .val (.int xc), .val (.int xd), .val (.int xe), .val (.int xf), .val (.int (3 : Int32)), .val (.int w124), .val (.int w125), .val (.ref b126), .val (.int (0 : Int32)), .val (.int (0 : Int32)), .val (.int (0 : Int32)), .val (.int (own_min (own_min xa w124) w125)), .unset, .unset, .unset] []))
    obtain ⟨w136, hw136⟩ : ∃ z : Int32, z = (own_min (own_min xa w124) w125) := ⟨_, rfl⟩
    rw [← hw136]
    show own_Go p e below _ (T135.setTop (mkF m 136 #[.val (.int xa), .val (.int xb), .val (.int xc), .val (.int xd), .val (.int xe), .val (.int xf), .val (.int (3 : Int32)), .val (.int w124), .val (.int w125), .val (.ref b126), .val (.int (0 : Int32)), .val (.int (0 : Int32)), .val (.int (0 : Int32)), .val (.int w136), .unset, .unset, .unset] []))
    refine own_by (fun _ => XS.iloadN Y135.here hx rfl (hb hby at_136) rfl) ?_
    show own_Go p e below _ (T135.setTop (mkF m 137 #[.val (.int xa), .val (.int xb), .val (.int xc), .val (.int xd), .val (.int xe), .val (.int xf), .val (.int (3 : Int32)), .val (.int w124), .val (.int w125), .val (.ref b126), .val (.int (0 : Int32)), .val (.int (0 : Int32)), .val (.int (0 : Int32)), .val (.int w136), .unset, .unset, .unset] [(.int xa)]))
    refine own_by (fun _ => XS.iload Y135.here hx rfl (hb hby at_137) rfl) ?_
    show own_Go p e below _ (T135.setTop (mkF m 139 #[.val (.int xa), .val (.int xb), .val (.int xc), .val (.int xd), .val (.int xe), .val (.int xf), .val (.int (3 : Int32)), .val (.int w124), .val (.int w125), .val (.ref b126), .val (.int (0 : Int32)), .val (.int (0 : Int32)), .val (.int (0 : Int32)), .val (.int w136), .unset, .unset, .unset] [(.int w124), (.int xa)]))
    obtain ⟨_, _, ⟨T137, L137, k137, n137⟩, -, X137, ⟨Lc137, hQ137, l137, y137, z137'⟩, st137⟩ := Jvm.LawKit.callS Y135 hx (y := (⟨"java/lang/Math", "max", "(II)I"⟩ : MethodName)) hown (mvT hZ (hw _ (List.mem_of_getElem? (i := 23) rfl))) (mvT hZ (hw _ (List.mem_of_getElem? (i := 24) rfl))) (mvT hZ (hw _ (List.mem_of_getElem? (i := 21) rfl))) (mvT hZ (hw _ (List.mem_of_getElem? (i := 25) rfl))) (by decide) (backOf (W := 0) (own_rm5 l Z a0 hw [] xa w124 T133.heap n0 z133 ) hZ (hw _ (List.mem_of_getElem? (i := 25) rfl)) (hw _ (List.mem_of_getElem? (i := 21) rfl)) (by decide) (by decide)) (g := (mkF m 139 #[.val (.int xa), .val (.int xb), .val (.int xc), .val (.int xd), .val (.int xe), .val (.int xf), .val (.int (3 : Int32)), .val (.int w124), .val (.int w125), .val (.ref b126), .val (.int (0 : Int32)), .val (.int (0 : Int32)), .val (.int (0 : Int32)), .val (.int w136), .unset, .unset, .unset] [(.int w124), (.int xa)])) rfl (by rw [hml]; rfl) (argsL := [(.int xa), (.int w124)]) (rest := []) (lenOf own_pd5 rfl) rfl (by show 2 * 0 + _ ≤ _; exact Nat.le_of_eq rfl) (hb hby at_139) (fun _ _ => ⟨rfl, e135, (by decide : 2 + 0 ≤ _), (by decide : 6 + 0 ≤ _)⟩)
    dsimp only [Pt.U, Pt.locs, Pt.cells, Pt.slots] at X137 l137 y137 z137' st137 hQ137
    subst l137 y137 z137'
    obtain ⟨rfl, N137q, e137⟩ := hQ137
    have N137 := Fr.app M135 N137q
    refine own_by st137 ?_
    clear st137 Y135
    obtain ⟨lq137, Y137, M137⟩ : ∃ lq, Stand p l e room_1 s m #[(.int xa), (.int xb), (.int xc), (.int xd), (.int xe), (.int xf)] below meth c T137 lq 2 6 ∧ Fr n0 lq := ⟨_, X137, N137⟩
    clear X137 N137
    show own_Go p e below _ (T137.setTop (mkF m 142 #[.val (.int xa), .val (.int xb), .val (.int xc), .val (.int xd), .val (.int xe), .val (.int xf), .val (.int (3 : Int32)), .val (.int w124), .val (.int w125), .val (.ref b126), .val (.int (0 : Int32)), .val (.int (0 : Int32)), .val (.int (0 : Int32)), .val (.int w136), .unset, .unset, .unset] [(.int (own_max xa w124))]))
    refine own_by (fun _ => XS.iload Y137.here hx rfl (hb hby at_142) rfl) ?_
    show own_Go p e below _ (T137.setTop (mkF m 144 #[.val (.int xa), .val (.int xb), .val (.int xc), .val (.int xd), .val (.int xe), .val (.int xf), .val (.int (3 : Int32)), .val (.int w124), .val (.int w125), .val (.ref b126), .val (.int (0 : Int32)), .val (.int (0 : Int32)), .val (.int (0 : Int32)), .val (.int w136), .unset, .unset, .unset] [(.int w125), (.int (own_max xa w124))]))
    obtain ⟨_, _, ⟨T138, L138, k138, n138⟩, -, X138, ⟨Lc138, hQ138, l138, y138, z138'⟩, st138⟩ := Jvm.LawKit.callS Y137 hx (y := (⟨"java/lang/Math", "max", "(II)I"⟩ : MethodName)) hown (mvT hZ (hw _ (List.mem_of_getElem? (i := 23) rfl))) (mvT hZ (hw _ (List.mem_of_getElem? (i := 24) rfl))) (mvT hZ (hw _ (List.mem_of_getElem? (i := 21) rfl))) (mvT hZ (hw _ (List.mem_of_getElem? (i := 25) rfl))) (by decide) (backOf (W := 0) (own_rm5 l Z a0 hw [] (own_max xa w124) w125 T133.heap n0 z133 ) hZ (hw _ (List.mem_of_getElem? (i := 25) rfl)) (hw _ (List.mem_of_getElem? (i := 21) rfl)) (by decide) (by decide)) (g := (mkF m 144 #[.val (.int xa), .val (.int xb), .val (.int xc), .val (.int xd), .val (.int xe), .val (.int xf), .val (.int (3 : Int32)), .val (.int w124), .val (.int w125), .val (.ref b126), .val (.int (0 : Int32)), .val (.int (0 : Int32)), .val (.int (0 : Int32)), .val (.int w136), .unset, .unset, .unset] [(.int w125), (.int (own_max xa w124))])) rfl (by rw [hml]; rfl) (argsL := [(.int (own_max xa w124)), (.int w125)]) (rest := []) (lenOf own_pd5 rfl) rfl (by show 2 * 0 + _ ≤ _; exact Nat.le_of_eq rfl) (hb hby at_144) (fun _ _ => ⟨rfl, e137, (by decide : 2 + 0 ≤ _), (by decide : 6 + 0 ≤ _)⟩)
    dsimp only [Pt.U, Pt.locs, Pt.cells, Pt.slots] at X138 l138 y138 z138' st138 hQ138
    subst l138 y138 z138'
    obtain ⟨rfl, N138q, e138⟩ := hQ138
    have N138 := Fr.app M137 N138q
    refine own_by st138 ?_
    clear st138 Y137
    obtain ⟨lq138, Y138, M138⟩ : ∃ lq, Stand p l e room_1 s m #[(.int xa), (.int xb), (.int xc), (.int xd), (.int xe), (.int xf)] below meth c T138 lq 2 6 ∧ Fr n0 lq := ⟨_, X138, N138⟩
    clear X138 N138
    show own_Go p e below _ (T138.setTop (mkF m 147 #[.val (.int xa), .val (.int xb), .val (.int xc), .val (.int xd), .val (.int xe), .val (.int xf), .val (.int (3 : Int32)), .val (.int w124), .val (.int w125), .val (.ref b126), .val (.int (0 : Int32)), .val (.int (0 : Int32)), .val (.int (0 : Int32)), .val (.int w136), .unset, .unset, .unset] [(.int (own_max (own_max xa w124) w125))]))
    refine own_by (fun _ => XS.istore Y138.here hx rfl (hb hby at_147) rfl (l' := #[.val (.int xa), .val (.int xb), .val (.int xc), .val (.int xd), .val (.int xe), .val (.int xf), .val (.int (3 : Int32)), .val (.int w124), .val (.int w125), .val (.ref b126), .val (.int (0 : Int32)), .val (.int (0 : Int32)), .val (.int (0 : Int32)), .val (.int w136), .val (.int (own_max (own_max xa w124) w125)), .unset, .unset]) rfl) ?_
    show own_Go p e below _ (T138.setTop (mkF m 149 #[.val (.int xa), .val (.int xb), .val (.int xc), .val (.int xd), .val (.int xe), .val (.int xf), .val (.int (3 : Int32)), .val (.int w124), .val (.int w125), .val (.ref b126), .val (.int (0 : Int32)), .val (.int (0 : Int32)), .val (.int (0 : Int32)), .val (.int w136), .val (.int (own_max (own_max xa w124) w125)), .unset, .unset] []))
    obtain ⟨w139, hw139⟩ : ∃ z : Int32, z = (own_max (own_max xa w124) w125) := ⟨_, rfl⟩
    rw [← hw139]
    show own_Go p e below _ (T138.setTop (mkF m 149 #[.val (.int xa), .val (.int xb), .val (.int xc), .val (.int xd), .val (.int xe), .val (.int xf), .val (.int (3 : Int32)), .val (.int w124), .val (.int w125), .val (.ref b126), .val (.int (0 : Int32)), .val (.int (0 : Int32)), .val (.int (0 : Int32)), .val (.int w136), .val (.int w139), .unset, .unset] []))
    refine own_by (fun _ => XS.iload Y138.here hx rfl (hb hby at_149) rfl) ?_
    show own_Go p e below _ (T138.setTop (mkF m 151 #[.val (.int xa), .val (.int xb), .val (.int xc), .val (.int xd), .val (.int xe), .val (.int xf), .val (.int (3 : Int32)), .val (.int w124), .val (.int w125), .val (.ref b126), .val (.int (0 : Int32)), .val (.int (0 : Int32)), .val (.int (0 : Int32)), .val (.int w136), .val (.int w139), .unset, .unset] [(.int w136)]))
    refine own_by (fun _ => XS.istore Y138.here hx rfl (hb hby at_151) rfl (l' := #[.val (.int xa), .val (.int xb), .val (.int xc), .val (.int xd), .val (.int xe), .val (.int xf), .val (.int (3 : Int32)), .val (.int w124), .val (.int w125), .val (.ref b126), .val (.int w136), .val (.int (0 : Int32)), .val (.int (0 : Int32)), .val (.int w136), .val (.int w139), .unset, .unset]) rfl) ?_
    show own_Go p e below _ (T138.setTop (mkF m 153 #[.val (.int xa), .val (.int xb), .val (.int xc), .val (.int xd), .val (.int xe), .val (.int xf), .val (.int (3 : Int32)), .val (.int w124), .val (.int w125), .val (.ref b126), .val (.int w136), .val (.int (0 : Int32)), .val (.int (0 : Int32)), .val (.int w136), .val (.int w139), .unset, .unset] []))
    refine own_by (fun _ => XS.iloadN Y138.here hx rfl (hb hby at_153) rfl) ?_
    show own_Go p e below _ (T138.setTop (mkF m 154 #[.val (.int xa), .val (.int xb), .val (.int xc), .val (.int xd), .val (.int xe), .val (.int xf), .val (.int (3 : Int32)), .val (.int w124), .val (.int w125), .val (.ref b126), .val (.int w136), .val (.int (0 : Int32)), .val (.int (0 : Int32)), .val (.int w136), .val (.int w139), .unset, .unset] [(.int xa)]))
    refine own_by (fun _ => XS.iload Y138.here hx rfl (hb hby at_154) rfl) ?_
    show own_Go p e below _ (T138.setTop (mkF m 156 #[.val (.int xa), .val (.int xb), .val (.int xc), .val (.int xd), .val (.int xe), .val (.int xf), .val (.int (3 : Int32)), .val (.int w124), .val (.int w125), .val (.ref b126), .val (.int w136), .val (.int (0 : Int32)), .val (.int (0 : Int32)), .val (.int w136), .val (.int w139), .unset, .unset] [(.int w124), (.int xa)]))
    refine own_by (fun _ => XS.ixor Y138.here hx rfl (hb hby at_156) rfl) ?_
    show own_Go p e below _ (T138.setTop (mkF m 157 #[.val (.int xa), .val (.int xb), .val (.int xc), .val (.int xd), .val (.int xe), .val (.int xf), .val (.int (3 : Int32)), .val (.int w124), .val (.int w125), .val (.ref b126), .val (.int w136), .val (.int (0 : Int32)), .val (.int (0 : Int32)), .val (.int w136), .val (.int w139), .unset, .unset] [(.int (xa ^^^ w124))]))
    refine own_by (fun _ => XS.iload Y138.here hx rfl (hb hby at_157) rfl) ?_
    show own_Go p e below _ (T138.setTop (mkF m 159 #[.val (.int xa), .val (.int xb), .val (.int xc), .val (.int xd), .val (.int xe), .val (.int xf), .val (.int (3 : Int32)), .val (.int w124), .val (.int w125), .val (.ref b126), .val (.int w136), .val (.int (0 : Int32)), .val (.int (0 : Int32)), .val (.int w136), .val (.int w139), .unset, .unset] [(.int w125), (.int (xa ^^^ w124))]))
    refine own_by (fun _ => XS.ixor Y138.here hx rfl (hb hby at_159) rfl) ?_
    show own_Go p e below _ (T138.setTop (mkF m 160 #[.val (.int xa), .val (.int xb), .val (.int xc), .val (.int xd), .val (.int xe), .val (.int xf), .val (.int (3 : Int32)), .val (.int w124), .val (.int w125), .val (.ref b126), .val (.int w136), .val (.int (0 : Int32)), .val (.int (0 : Int32)), .val (.int w136), .val (.int w139), .unset, .unset] [(.int ((xa ^^^ w124) ^^^ w125))]))
    refine own_by (fun _ => XS.iload Y138.here hx rfl (hb hby at_160) rfl) ?_
    show own_Go p e below _ (T138.setTop (mkF m 162 #[.val (.int xa), .val (.int xb), .val (.int xc), .val (.int xd), .val (.int xe), .val (.int xf), .val (.int (3 : Int32)), .val (.int w124), .val (.int w125), .val (.ref b126), .val (.int w136), .val (.int (0 : Int32)), .val (.int (0 : Int32)), .val (.int w136), .val (.int w139), .unset, .unset] [(.int w136), (.int ((xa ^^^ w124) ^^^ w125))]))
    refine own_by (fun _ => XS.ixor Y138.here hx rfl (hb hby at_162) rfl) ?_
    show own_Go p e below _ (T138.setTop (mkF m 163 #[.val (.int xa), .val (.int xb), .val (.int xc), .val (.int xd), .val (.int xe), .val (.int xf), .val (.int (3 : Int32)), .val (.int w124), .val (.int w125), .val (.ref b126), .val (.int w136), .val (.int (0 : Int32)), .val (.int (0 : Int32)), .val (.int w136), .val (.int w139), .unset, .unset] [(.int (((xa ^^^ w124) ^^^ w125) ^^^ w136))]))
    refine own_by (fun _ => XS.iload Y138.here hx rfl (hb hby at_163) rfl) ?_
    show own_Go p e below _ (T138.setTop (mkF m 165 #[.val (.int xa), .val (.int xb), .val (.int xc), .val (.int xd), .val (.int xe), .val (.int xf), .val (.int (3 : Int32)), .val (.int w124), .val (.int w125), .val (.ref b126), .val (.int w136), .val (.int (0 : Int32)), .val (.int (0 : Int32)), .val (.int w136), .val (.int w139), .unset, .unset] [(.int w139), (.int (((xa ^^^ w124) ^^^ w125) ^^^ w136))]))
    refine own_by (fun _ => XS.ixor Y138.here hx rfl (hb hby at_165) rfl) ?_
    show own_Go p e below _ (T138.setTop (mkF m 166 #[.val (.int xa), .val (.int xb), .val (.int xc), .val (.int xd), .val (.int xe), .val (.int xf), .val (.int (3 : Int32)), .val (.int w124), .val (.int w125), .val (.ref b126), .val (.int w136), .val (.int (0 : Int32)), .val (.int (0 : Int32)), .val (.int w136), .val (.int w139), .unset, .unset] [(.int ((((xa ^^^ w124) ^^^ w125) ^^^ w136) ^^^ w139))]))
    refine own_by (fun _ => XS.istore Y138.here hx rfl (hb hby at_166) rfl (l' := #[.val (.int xa), .val (.int xb), .val (.int xc), .val (.int xd), .val (.int xe), .val (.int xf), .val (.int (3 : Int32)), .val (.int w124), .val (.int w125), .val (.ref b126), .val (.int w136), .val (.int ((((xa ^^^ w124) ^^^ w125) ^^^ w136) ^^^ w139)), .val (.int (0 : Int32)), .val (.int w136), .val (.int w139), .unset, .unset]) rfl) ?_
    show own_Go p e below _ (T138.setTop (mkF m 168 #[.val (.int xa), .val (.int xb), .val (.int xc), .val (.int xd), .val (.int xe), .val (.int xf), .val (.int (3 : Int32)), .val (.int w124), .val (.int w125), .val (.ref b126), .val (.int w136), .val (.int ((((xa ^^^ w124) ^^^ w125) ^^^ w136) ^^^ w139)), .val (.int (0 : Int32)), .val (.int w136), .val (.int w139), .unset, .unset] []))
    obtain ⟨w140, hw140⟩ : ∃ z : Int32, z = ((((xa ^^^ w124) ^^^ w125) ^^^ w136) ^^^ w139) := ⟨_, rfl⟩
    rw [← hw140]
    show own_Go p e below _ (T138.setTop (mkF m 168 #[.val (.int xa), .val (.int xb), .val (.int xc), .val (.int xd), .val (.int xe), .val (.int xf), .val (.int (3 : Int32)), .val (.int w124), .val (.int w125), .val (.ref b126), .val (.int w136), .val (.int w140), .val (.int (0 : Int32)), .val (.int w136), .val (.int w139), .unset, .unset] []))
    refine own_by (fun _ => XS.iload Y138.here hx rfl (hb hby at_168) rfl) ?_
    show own_Go p e below _ (T138.setTop (mkF m 170 #[.val (.int xa), .val (.int xb), .val (.int xc), .val (.int xd), .val (.int xe), .val (.int xf), .val (.int (3 : Int32)), .val (.int w124), .val (.int w125), .val (.ref b126), .val (.int w136), .val (.int w140), .val (.int (0 : Int32)), .val (.int w136), .val (.int w139), .unset, .unset] [(.int w139)]))
    refine own_by (fun _ => XS.istore Y138.here hx rfl (hb hby at_170) rfl (l' := #[.val (.int xa), .val (.int xb), .val (.int xc), .val (.int xd), .val (.int xe), .val (.int xf), .val (.int (3 : Int32)), .val (.int w124), .val (.int w125), .val (.ref b126), .val (.int w136), .val (.int w140), .val (.int w139), .val (.int w136), .val (.int w139), .unset, .unset]) rfl) ?_
    show own_Go p e below _ (T138.setTop (mkF m 172 #[.val (.int xa), .val (.int xb), .val (.int xc), .val (.int xd), .val (.int xe), .val (.int xf), .val (.int (3 : Int32)), .val (.int w124), .val (.int w125), .val (.ref b126), .val (.int w136), .val (.int w140), .val (.int w139), .val (.int w136), .val (.int w139), .unset, .unset] []))
    refine own_by (fun _ => XS.iloadN Y138.here hx rfl (hb hby at_172) rfl) ?_
    show own_Go p e below _ (T138.setTop (mkF m 173 #[.val (.int xa), .val (.int xb), .val (.int xc), .val (.int xd), .val (.int xe), .val (.int xf), .val (.int (3 : Int32)), .val (.int w124), .val (.int w125), .val (.ref b126), .val (.int w136), .val (.int w140), .val (.int w139), .val (.int w136), .val (.int w139), .unset, .unset] [(.int xd)]))
    refine own_by (Y138.ldcInt hx hown (mvT hZ (hw _ (List.mem_of_getElem? (i := 26) rfl))) (g := (mkF m 173 #[.val (.int xa), .val (.int xb), .val (.int xc), .val (.int xd), .val (.int xe), .val (.int xf), .val (.int (3 : Int32)), .val (.int w124), .val (.int w125), .val (.ref b126), .val (.int w136), .val (.int w140), .val (.int w139), .val (.int w136), .val (.int w139), .unset, .unset] [(.int xd)])) rfl (hb hby at_173)) ?_
    show own_Go p e below _ (T138.setTop (mkF m 175 #[.val (.int xa), .val (.int xb), .val (.int xc), .val (.int xd), .val (.int xe), .val (.int xf), .val (.int (3 : Int32)), .val (.int w124), .val (.int w125), .val (.ref b126), .val (.int w136), .val (.int w140), .val (.int w139), .val (.int w136), .val (.int w139), .unset, .unset] [(.int (2147483647 : Int32)), (.int xd)]))
    refine own_by (fun _ => XS.iand Y138.here hx rfl (hb hby at_175) rfl) ?_
    show own_Go p e below _ (T138.setTop (mkF m 176 #[.val (.int xa), .val (.int xb), .val (.int xc), .val (.int xd), .val (.int xe), .val (.int xf), .val (.int (3 : Int32)), .val (.int w124), .val (.int w125), .val (.ref b126), .val (.int w136), .val (.int w140), .val (.int w139), .val (.int w136), .val (.int w139), .unset, .unset] [(.int (xd &&& (2147483647 : Int32)))]))
    refine own_by (fun _ => XS.bipush Y138.here hx rfl (hb hby at_176)) ?_
    show own_Go p e below _ (T138.setTop (mkF m 178 #[.val (.int xa), .val (.int xb), .val (.int xc), .val (.int xd), .val (.int xe), .val (.int xf), .val (.int (3 : Int32)), .val (.int w124), .val (.int w125), .val (.ref b126), .val (.int w136), .val (.int w140), .val (.int w139), .val (.int w136), .val (.int w139), .unset, .unset] [(.int (9 : Int32)), (.int (xd &&& (2147483647 : Int32)))]))
    refine own_by (fun _ => XS.iload Y138.here hx rfl (hb hby at_178) rfl) ?_
    show own_Go p e below _ (T138.setTop (mkF m 180 #[.val (.int xa), .val (.int xb), .val (.int xc), .val (.int xd), .val (.int xe), .val (.int xf), .val (.int (3 : Int32)), .val (.int w124), .val (.int w125), .val (.ref b126), .val (.int w136), .val (.int w140), .val (.int w139), .val (.int w136), .val (.int w139), .unset, .unset] [(.int (3 : Int32)), (.int (9 : Int32)), (.int (xd &&& (2147483647 : Int32)))]))
    refine own_by (fun _ => XS.isub Y138.here hx rfl (hb hby at_180) rfl) ?_
    show own_Go p e below _ (T138.setTop (mkF m 181 #[.val (.int xa), .val (.int xb), .val (.int xc), .val (.int xd), .val (.int xe), .val (.int xf), .val (.int (3 : Int32)), .val (.int w124), .val (.int w125), .val (.ref b126), .val (.int w136), .val (.int w140), .val (.int w139), .val (.int w136), .val (.int w139), .unset, .unset] [(.int (6 : Int32)), (.int (xd &&& (2147483647 : Int32)))]))
    refine own_by (fun _ => iremM Y138 hx rfl (hb hby at_181) rfl (by decide)) ?_
    show own_Go p e below _ (T138.setTop (mkF m 182 #[.val (.int xa), .val (.int xb), .val (.int xc), .val (.int xd), .val (.int xe), .val (.int xf), .val (.int (3 : Int32)), .val (.int w124), .val (.int w125), .val (.ref b126), .val (.int w136), .val (.int w140), .val (.int w139), .val (.int w136), .val (.int w139), .unset, .unset] [(.int ((xd &&& (2147483647 : Int32)) % (6 : Int32)))]))
    refine own_by (fun _ => XS.istore Y138.here hx rfl (hb hby at_182) rfl (l' := #[.val (.int xa), .val (.int xb), .val (.int xc), .val (.int xd), .val (.int xe), .val (.int xf), .val (.int (3 : Int32)), .val (.int w124), .val (.int w125), .val (.ref b126), .val (.int w136), .val (.int w140), .val (.int w139), .val (.int ((xd &&& (2147483647 : Int32)) % (6 : Int32))), .val (.int w139), .unset, .unset]) rfl) ?_
    show own_Go p e below _ (T138.setTop (mkF m 184 #[.val (.int xa), .val (.int xb), .val (.int xc), .val (.int xd), .val (.int xe), .val (.int xf), .val (.int (3 : Int32)), .val (.int w124), .val (.int w125), .val (.ref b126), .val (.int w136), .val (.int w140), .val (.int w139), .val (.int ((xd &&& (2147483647 : Int32)) % (6 : Int32))), .val (.int w139), .unset, .unset] []))
    obtain ⟨w141, hw141⟩ : ∃ z : Int32, z = ((xd &&& (2147483647 : Int32)) % (6 : Int32)) := ⟨_, rfl⟩
    rw [← hw141]
    show own_Go p e below _ (T138.setTop (mkF m 184 #[.val (.int xa), .val (.int xb), .val (.int xc), .val (.int xd), .val (.int xe), .val (.int xf), .val (.int (3 : Int32)), .val (.int w124), .val (.int w125), .val (.ref b126), .val (.int w136), .val (.int w140), .val (.int w139), .val (.int w141), .val (.int w139), .unset, .unset] []))
    refine own_by (fun _ => XS.bipush Y138.here hx rfl (hb hby at_184)) ?_
    show own_Go p e below _ (T138.setTop (mkF m 186 #[.val (.int xa), .val (.int xb), .val (.int xc), .val (.int xd), .val (.int xe), .val (.int xf), .val (.int (3 : Int32)), .val (.int w124), .val (.int w125), .val (.ref b126), .val (.int w136), .val (.int w140), .val (.int w139), .val (.int w141), .val (.int w139), .unset, .unset] [(.int (8 : Int32))]))
    obtain ⟨T142, h142, k142, X142, e142, E142, A142, st142⟩ := newP Y138 hx hZ (hw _ (List.mem_of_getElem? (i := 9) rfl)) e138 (g := (mkF m 186 #[.val (.int xa), .val (.int xb), .val (.int xc), .val (.int xd), .val (.int xe), .val (.int xf), .val (.int (3 : Int32)), .val (.int w124), .val (.int w125), .val (.ref b126), .val (.int w136), .val (.int w140), .val (.int w139), .val (.int w141), .val (.int w139), .unset, .unset] [(.int (8 : Int32))])) rfl (hb hby at_186) rfl (by decide) (cap := 8) (by decide) (by decide) (by decide) (by decide)
    obtain ⟨b142, g142⟩ : ∃ z, z = T133.heap.size := ⟨_, rfl⟩
    rw [← g142] at A142 st142
    refine own_by st142 ?_
    clear st142 Y138
    have ge142 : n0 ≤ b142 := Nat.le_trans z133 (Nat.le_of_eq g142.symm)
    have f143 : Exa Z T133.heap b126 "com/example/bucketsplit/bucketsplit/core/Page" := (f132.keep Kc133)
    have ne142_b126 : b126 ≠ b142 := Nat.ne_of_lt (Nat.lt_of_lt_of_le f143.lt (Nat.le_of_eq g142.symm))
    have ne142_kx_127 : kx_127 ≠ b142 := Nat.ne_of_lt (Nat.lt_of_lt_of_le fc133_2.lt (Nat.le_of_eq g142.symm))
    have z142 : n0 ≤ h142.size := Nat.le_trans z133 E142.1
    have va142 : Arv Z h142 b142 k142 .int (8 : Int32) [(.int (0 : Int32)), (.int (0 : Int32)), (.int (0 : Int32)), (.int (0 : Int32)), (.int (0 : Int32)), (.int (0 : Int32)), (.int (0 : Int32)), (.int (0 : Int32))] (.int (0 : Int32)) := (Arv.new A142 (by decide)).pad (pad_rep [] (.int (0 : Int32)) 8)
    show own_Go p e below _ (T142.setTop (mkF m 188 #[.val (.int xa), .val (.int xb), .val (.int xc), .val (.int xd), .val (.int xe), .val (.int xf), .val (.int (3 : Int32)), .val (.int w124), .val (.int w125), .val (.ref b126), .val (.int w136), .val (.int w140), .val (.int w139), .val (.int w141), .val (.int w139), .unset, .unset] [(.ref b142)]))
    refine own_by (fun _ => XS.astore X142.here hx rfl (hb hby at_188) rfl rfl (l' := #[.val (.int xa), .val (.int xb), .val (.int xc), .val (.int xd), .val (.int xe), .val (.int xf), .val (.int (3 : Int32)), .val (.int w124), .val (.int w125), .val (.ref b126), .val (.int w136), .val (.int w140), .val (.int w139), .val (.int w141), .val (.ref b142), .unset, .unset]) rfl) ?_
    show own_Go p e below _ (T142.setTop (mkF m 190 #[.val (.int xa), .val (.int xb), .val (.int xc), .val (.int xd), .val (.int xe), .val (.int xf), .val (.int (3 : Int32)), .val (.int w124), .val (.int w125), .val (.ref b126), .val (.int w136), .val (.int w140), .val (.int w139), .val (.int w141), .val (.ref b142), .unset, .unset] []))
    refine own_by (fun _ => XS.aload X142.here hx rfl (hb hby at_190) rfl rfl) ?_
    show own_Go p e below _ (T142.setTop (mkF m 192 #[.val (.int xa), .val (.int xb), .val (.int xc), .val (.int xd), .val (.int xe), .val (.int xf), .val (.int (3 : Int32)), .val (.int w124), .val (.int w125), .val (.ref b126), .val (.int w136), .val (.int w140), .val (.int w139), .val (.int w141), .val (.ref b142), .unset, .unset] [(.ref b142)]))
    refine own_by (fun _ => XS.iconst X142.here hx rfl (hb hby at_192)) ?_
    show own_Go p e below _ (T142.setTop (mkF m 193 #[.val (.int xa), .val (.int xb), .val (.int xc), .val (.int xd), .val (.int xe), .val (.int xf), .val (.int (3 : Int32)), .val (.int w124), .val (.int w125), .val (.ref b126), .val (.int w136), .val (.int w140), .val (.int w139), .val (.int w141), .val (.ref b142), .unset, .unset] [(.int (0 : Int32)), (.ref b142)]))
    refine own_by (fun _ => XS.iload X142.here hx rfl (hb hby at_193) rfl) ?_
    show own_Go p e below _ (T142.setTop (mkF m 195 #[.val (.int xa), .val (.int xb), .val (.int xc), .val (.int xd), .val (.int xe), .val (.int xf), .val (.int (3 : Int32)), .val (.int w124), .val (.int w125), .val (.ref b126), .val (.int w136), .val (.int w140), .val (.int w139), .val (.int w141), .val (.ref b142), .unset, .unset] [(.int xe), (.int (0 : Int32)), (.ref b142)]))
    obtain ⟨cl144, ar144, q144, sz144, nn144, hs144, gs144⟩ := id va142
    have hin144 : ¬ ((0 : Int32) < 0 ∨ cl144.slots.size ≤ ((0 : Int32)).toNatClampNeg) := inb_of sz144 ⟨by decide, by decide⟩
    obtain ⟨T145, h145, X145, e145, W145, st145⟩ := stI X142 hx hZ e142 ar144 (j := (0 : Int32)) hin144 (g := (mkF m 195 #[.val (.int xa), .val (.int xb), .val (.int xc), .val (.int xd), .val (.int xe), .val (.int xf), .val (.int (3 : Int32)), .val (.int w124), .val (.int w125), .val (.ref b126), .val (.int w136), .val (.int w140), .val (.int w139), .val (.int w141), .val (.ref b142), .unset, .unset] [(.int xe), (.int (0 : Int32)), (.ref b142)])) rfl rfl (hb hby at_195)
    refine own_by st145 ?_
    clear st145 X142
    have va145 : Arv Z h145 b142 k142 .int (8 : Int32) [(.int xe), (.int (0 : Int32)), (.int (0 : Int32)), (.int (0 : Int32)), (.int (0 : Int32)), (.int (0 : Int32)), (.int (0 : Int32)), (.int (0 : Int32))] (.int (0 : Int32)) := Arv.set ar144 q144 sz144 nn144 hs144 gs144 rfl W145 0 rfl (Nat.le_of_ble_eq_true rfl)
    have z145 : n0 ≤ h145.size := Nat.le_trans z142 (Keep.of_wr W145).1
    have N145 := Fr.snoc X145 M138 ge142
    obtain ⟨lq145, Y145, M145⟩ : ∃ lq, Stand p l e room_1 s m #[(.int xa), (.int xb), (.int xc), (.int xd), (.int xe), (.int xf)] below meth c T145 lq 3 14 ∧ Fr n0 lq := ⟨_, X145, N145⟩
    clear X145 N145
    show own_Go p e below _ (T145.setTop (mkF m 196 #[.val (.int xa), .val (.int xb), .val (.int xc), .val (.int xd), .val (.int xe), .val (.int xf), .val (.int (3 : Int32)), .val (.int w124), .val (.int w125), .val (.ref b126), .val (.int w136), .val (.int w140), .val (.int w139), .val (.int w141), .val (.ref b142), .unset, .unset] []))
    refine own_by (fun _ => XS.aload Y145.here hx rfl (hb hby at_196) rfl rfl) ?_
    show own_Go p e below _ (T145.setTop (mkF m 198 #[.val (.int xa), .val (.int xb), .val (.int xc), .val (.int xd), .val (.int xe), .val (.int xf), .val (.int (3 : Int32)), .val (.int w124), .val (.int w125), .val (.ref b126), .val (.int w136), .val (.int w140), .val (.int w139), .val (.int w141), .val (.ref b142), .unset, .unset] [(.ref b142)]))
    refine own_by (fun _ => XS.iconst Y145.here hx rfl (hb hby at_198)) ?_
    show own_Go p e below _ (T145.setTop (mkF m 199 #[.val (.int xa), .val (.int xb), .val (.int xc), .val (.int xd), .val (.int xe), .val (.int xf), .val (.int (3 : Int32)), .val (.int w124), .val (.int w125), .val (.ref b126), .val (.int w136), .val (.int w140), .val (.int w139), .val (.int w141), .val (.ref b142), .unset, .unset] [(.int (1 : Int32)), (.ref b142)]))
    refine own_by (fun _ => XS.iload Y145.here hx rfl (hb hby at_199) rfl) ?_
    show own_Go p e below _ (T145.setTop (mkF m 201 #[.val (.int xa), .val (.int xb), .val (.int xc), .val (.int xd), .val (.int xe), .val (.int xf), .val (.int (3 : Int32)), .val (.int w124), .val (.int w125), .val (.ref b126), .val (.int w136), .val (.int w140), .val (.int w139), .val (.int w141), .val (.ref b142), .unset, .unset] [(.int xe), (.int (1 : Int32)), (.ref b142)]))
    refine own_by (fun _ => XS.iconst Y145.here hx rfl (hb hby at_201)) ?_
    show own_Go p e below _ (T145.setTop (mkF m 202 #[.val (.int xa), .val (.int xb), .val (.int xc), .val (.int xd), .val (.int xe), .val (.int xf), .val (.int (3 : Int32)), .val (.int w124), .val (.int w125), .val (.ref b126), .val (.int w136), .val (.int w140), .val (.int w139), .val (.int w141), .val (.ref b142), .unset, .unset] [(.int (1 : Int32)), (.int xe), (.int (1 : Int32)), (.ref b142)]))
    refine own_by (fun _ => XS.iadd Y145.here hx rfl (hb hby at_202) rfl) ?_
    show own_Go p e below _ (T145.setTop (mkF m 203 #[.val (.int xa), .val (.int xb), .val (.int xc), .val (.int xd), .val (.int xe), .val (.int xf), .val (.int (3 : Int32)), .val (.int w124), .val (.int w125), .val (.ref b126), .val (.int w136), .val (.int w140), .val (.int w139), .val (.int w141), .val (.ref b142), .unset, .unset] [(.int (xe + (1 : Int32))), (.int (1 : Int32)), (.ref b142)]))
    obtain ⟨cl146, ar146, q146, sz146, nn146, hs146, gs146⟩ := id va145
    have hin146 : ¬ ((1 : Int32) < 0 ∨ cl146.slots.size ≤ ((1 : Int32)).toNatClampNeg) := inb_of sz146 ⟨by decide, by decide⟩
    obtain ⟨T147, h147, X147, e147, W147, st147⟩ := stI Y145 hx hZ e145 ar146 (j := (1 : Int32)) hin146 (g := (mkF m 203 #[.val (.int xa), .val (.int xb), .val (.int xc), .val (.int xd), .val (.int xe), .val (.int xf), .val (.int (3 : Int32)), .val (.int w124), .val (.int w125), .val (.ref b126), .val (.int w136), .val (.int w140), .val (.int w139), .val (.int w141), .val (.ref b142), .unset, .unset] [(.int (xe + (1 : Int32))), (.int (1 : Int32)), (.ref b142)])) rfl rfl (hb hby at_203)
    refine own_by st147 ?_
    clear st147 Y145
    have va147 : Arv Z h147 b142 k142 .int (8 : Int32) [(.int xe), (.int (xe + (1 : Int32))), (.int (0 : Int32)), (.int (0 : Int32)), (.int (0 : Int32)), (.int (0 : Int32)), (.int (0 : Int32)), (.int (0 : Int32))] (.int (0 : Int32)) := Arv.set ar146 q146 sz146 nn146 hs146 gs146 rfl W147 1 rfl (Nat.le_of_ble_eq_true rfl)
    have z147 : n0 ≤ h147.size := Nat.le_trans z145 (Keep.of_wr W147).1
    have N147 := Fr.snoc X147 M145 ge142
    obtain ⟨lq147, Y147, M147⟩ : ∃ lq, Stand p l e room_1 s m #[(.int xa), (.int xb), (.int xc), (.int xd), (.int xe), (.int xf)] below meth c T147 lq 3 14 ∧ Fr n0 lq := ⟨_, X147, N147⟩
    clear X147 N147
    show own_Go p e below _ (T147.setTop (mkF m 204 #[.val (.int xa), .val (.int xb), .val (.int xc), .val (.int xd), .val (.int xe), .val (.int xf), .val (.int (3 : Int32)), .val (.int w124), .val (.int w125), .val (.ref b126), .val (.int w136), .val (.int w140), .val (.int w139), .val (.int w141), .val (.ref b142), .unset, .unset] []))
    refine own_by (fun _ => XS.aload Y147.here hx rfl (hb hby at_204) rfl rfl) ?_
    show own_Go p e below _ (T147.setTop (mkF m 206 #[.val (.int xa), .val (.int xb), .val (.int xc), .val (.int xd), .val (.int xe), .val (.int xf), .val (.int (3 : Int32)), .val (.int w124), .val (.int w125), .val (.ref b126), .val (.int w136), .val (.int w140), .val (.int w139), .val (.int w141), .val (.ref b142), .unset, .unset] [(.ref b142)]))
    refine own_by (fun _ => XS.iconst Y147.here hx rfl (hb hby at_206)) ?_
    show own_Go p e below _ (T147.setTop (mkF m 207 #[.val (.int xa), .val (.int xb), .val (.int xc), .val (.int xd), .val (.int xe), .val (.int xf), .val (.int (3 : Int32)), .val (.int w124), .val (.int w125), .val (.ref b126), .val (.int w136), .val (.int w140), .val (.int w139), .val (.int w141), .val (.ref b142), .unset, .unset] [(.int (2 : Int32)), (.ref b142)]))
    refine own_by (fun _ => XS.iload Y147.here hx rfl (hb hby at_207) rfl) ?_
    show own_Go p e below _ (T147.setTop (mkF m 209 #[.val (.int xa), .val (.int xb), .val (.int xc), .val (.int xd), .val (.int xe), .val (.int xf), .val (.int (3 : Int32)), .val (.int w124), .val (.int w125), .val (.ref b126), .val (.int w136), .val (.int w140), .val (.int w139), .val (.int w141), .val (.ref b142), .unset, .unset] [(.int xe), (.int (2 : Int32)), (.ref b142)]))
    refine own_by (fun _ => XS.iconst Y147.here hx rfl (hb hby at_209)) ?_
    show own_Go p e below _ (T147.setTop (mkF m 210 #[.val (.int xa), .val (.int xb), .val (.int xc), .val (.int xd), .val (.int xe), .val (.int xf), .val (.int (3 : Int32)), .val (.int w124), .val (.int w125), .val (.ref b126), .val (.int w136), .val (.int w140), .val (.int w139), .val (.int w141), .val (.ref b142), .unset, .unset] [(.int (2 : Int32)), (.int xe), (.int (2 : Int32)), (.ref b142)]))
    refine own_by (fun _ => XS.iadd Y147.here hx rfl (hb hby at_210) rfl) ?_
    show own_Go p e below _ (T147.setTop (mkF m 211 #[.val (.int xa), .val (.int xb), .val (.int xc), .val (.int xd), .val (.int xe), .val (.int xf), .val (.int (3 : Int32)), .val (.int w124), .val (.int w125), .val (.ref b126), .val (.int w136), .val (.int w140), .val (.int w139), .val (.int w141), .val (.ref b142), .unset, .unset] [(.int (xe + (2 : Int32))), (.int (2 : Int32)), (.ref b142)]))
    obtain ⟨cl148, ar148, q148, sz148, nn148, hs148, gs148⟩ := id va147
    have hin148 : ¬ ((2 : Int32) < 0 ∨ cl148.slots.size ≤ ((2 : Int32)).toNatClampNeg) := inb_of sz148 ⟨by decide, by decide⟩
    obtain ⟨T149, h149, X149, e149, W149, st149⟩ := stI Y147 hx hZ e147 ar148 (j := (2 : Int32)) hin148 (g := (mkF m 211 #[.val (.int xa), .val (.int xb), .val (.int xc), .val (.int xd), .val (.int xe), .val (.int xf), .val (.int (3 : Int32)), .val (.int w124), .val (.int w125), .val (.ref b126), .val (.int w136), .val (.int w140), .val (.int w139), .val (.int w141), .val (.ref b142), .unset, .unset] [(.int (xe + (2 : Int32))), (.int (2 : Int32)), (.ref b142)])) rfl rfl (hb hby at_211)
    refine own_by st149 ?_
    clear st149 Y147
    have va149 : Arv Z h149 b142 k142 .int (8 : Int32) [(.int xe), (.int (xe + (1 : Int32))), (.int (xe + (2 : Int32))), (.int (0 : Int32)), (.int (0 : Int32)), (.int (0 : Int32)), (.int (0 : Int32)), (.int (0 : Int32))] (.int (0 : Int32)) := Arv.set ar148 q148 sz148 nn148 hs148 gs148 rfl W149 2 rfl (Nat.le_of_ble_eq_true rfl)
    have z149 : n0 ≤ h149.size := Nat.le_trans z147 (Keep.of_wr W149).1
    have N149 := Fr.snoc X149 M147 ge142
    obtain ⟨lq149, Y149, M149⟩ : ∃ lq, Stand p l e room_1 s m #[(.int xa), (.int xb), (.int xc), (.int xd), (.int xe), (.int xf)] below meth c T149 lq 3 14 ∧ Fr n0 lq := ⟨_, X149, N149⟩
    clear X149 N149
    show own_Go p e below _ (T149.setTop (mkF m 212 #[.val (.int xa), .val (.int xb), .val (.int xc), .val (.int xd), .val (.int xe), .val (.int xf), .val (.int (3 : Int32)), .val (.int w124), .val (.int w125), .val (.ref b126), .val (.int w136), .val (.int w140), .val (.int w139), .val (.int w141), .val (.ref b142), .unset, .unset] []))
    refine own_by (fun _ => XS.aload Y149.here hx rfl (hb hby at_212) rfl rfl) ?_
    show own_Go p e below _ (T149.setTop (mkF m 214 #[.val (.int xa), .val (.int xb), .val (.int xc), .val (.int xd), .val (.int xe), .val (.int xf), .val (.int (3 : Int32)), .val (.int w124), .val (.int w125), .val (.ref b126), .val (.int w136), .val (.int w140), .val (.int w139), .val (.int w141), .val (.ref b142), .unset, .unset] [(.ref b142)]))
    refine own_by (fun _ => XS.iconst Y149.here hx rfl (hb hby at_214)) ?_
    show own_Go p e below _ (T149.setTop (mkF m 215 #[.val (.int xa), .val (.int xb), .val (.int xc), .val (.int xd), .val (.int xe), .val (.int xf), .val (.int (3 : Int32)), .val (.int w124), .val (.int w125), .val (.ref b126), .val (.int w136), .val (.int w140), .val (.int w139), .val (.int w141), .val (.ref b142), .unset, .unset] [(.int (3 : Int32)), (.ref b142)]))
    refine own_by (fun _ => XS.iload Y149.here hx rfl (hb hby at_215) rfl) ?_
    show own_Go p e below _ (T149.setTop (mkF m 217 #[.val (.int xa), .val (.int xb), .val (.int xc), .val (.int xd), .val (.int xe), .val (.int xf), .val (.int (3 : Int32)), .val (.int w124), .val (.int w125), .val (.ref b126), .val (.int w136), .val (.int w140), .val (.int w139), .val (.int w141), .val (.ref b142), .unset, .unset] [(.int xe), (.int (3 : Int32)), (.ref b142)]))
    refine own_by (fun _ => XS.iconst Y149.here hx rfl (hb hby at_217)) ?_
    show own_Go p e below _ (T149.setTop (mkF m 218 #[.val (.int xa), .val (.int xb), .val (.int xc), .val (.int xd), .val (.int xe), .val (.int xf), .val (.int (3 : Int32)), .val (.int w124), .val (.int w125), .val (.ref b126), .val (.int w136), .val (.int w140), .val (.int w139), .val (.int w141), .val (.ref b142), .unset, .unset] [(.int (3 : Int32)), (.int xe), (.int (3 : Int32)), (.ref b142)]))
    refine own_by (fun _ => XS.iadd Y149.here hx rfl (hb hby at_218) rfl) ?_
    show own_Go p e below _ (T149.setTop (mkF m 219 #[.val (.int xa), .val (.int xb), .val (.int xc), .val (.int xd), .val (.int xe), .val (.int xf), .val (.int (3 : Int32)), .val (.int w124), .val (.int w125), .val (.ref b126), .val (.int w136), .val (.int w140), .val (.int w139), .val (.int w141), .val (.ref b142), .unset, .unset] [(.int (xe + (3 : Int32))), (.int (3 : Int32)), (.ref b142)]))
    obtain ⟨cl150, ar150, q150, sz150, nn150, hs150, gs150⟩ := id va149
    have hin150 : ¬ ((3 : Int32) < 0 ∨ cl150.slots.size ≤ ((3 : Int32)).toNatClampNeg) := inb_of sz150 ⟨by decide, by decide⟩
    obtain ⟨T151, h151, X151, e151, W151, st151⟩ := stI Y149 hx hZ e149 ar150 (j := (3 : Int32)) hin150 (g := (mkF m 219 #[.val (.int xa), .val (.int xb), .val (.int xc), .val (.int xd), .val (.int xe), .val (.int xf), .val (.int (3 : Int32)), .val (.int w124), .val (.int w125), .val (.ref b126), .val (.int w136), .val (.int w140), .val (.int w139), .val (.int w141), .val (.ref b142), .unset, .unset] [(.int (xe + (3 : Int32))), (.int (3 : Int32)), (.ref b142)])) rfl rfl (hb hby at_219)
    refine own_by st151 ?_
    clear st151 Y149
    have va151 : Arv Z h151 b142 k142 .int (8 : Int32) [(.int xe), (.int (xe + (1 : Int32))), (.int (xe + (2 : Int32))), (.int (xe + (3 : Int32))), (.int (0 : Int32)), (.int (0 : Int32)), (.int (0 : Int32)), (.int (0 : Int32))] (.int (0 : Int32)) := Arv.set ar150 q150 sz150 nn150 hs150 gs150 rfl W151 3 rfl (Nat.le_of_ble_eq_true rfl)
    have z151 : n0 ≤ h151.size := Nat.le_trans z149 (Keep.of_wr W151).1
    have N151 := Fr.snoc X151 M149 ge142
    obtain ⟨lq151, Y151, M151⟩ : ∃ lq, Stand p l e room_1 s m #[(.int xa), (.int xb), (.int xc), (.int xd), (.int xe), (.int xf)] below meth c T151 lq 3 14 ∧ Fr n0 lq := ⟨_, X151, N151⟩
    clear X151 N151
    show own_Go p e below _ (T151.setTop (mkF m 220 #[.val (.int xa), .val (.int xb), .val (.int xc), .val (.int xd), .val (.int xe), .val (.int xf), .val (.int (3 : Int32)), .val (.int w124), .val (.int w125), .val (.ref b126), .val (.int w136), .val (.int w140), .val (.int w139), .val (.int w141), .val (.ref b142), .unset, .unset] []))
    refine own_by (fun _ => XS.aload Y151.here hx rfl (hb hby at_220) rfl rfl) ?_
    show own_Go p e below _ (T151.setTop (mkF m 222 #[.val (.int xa), .val (.int xb), .val (.int xc), .val (.int xd), .val (.int xe), .val (.int xf), .val (.int (3 : Int32)), .val (.int w124), .val (.int w125), .val (.ref b126), .val (.int w136), .val (.int w140), .val (.int w139), .val (.int w141), .val (.ref b142), .unset, .unset] [(.ref b142)]))
    refine own_by (fun _ => XS.iconst Y151.here hx rfl (hb hby at_222)) ?_
    show own_Go p e below _ (T151.setTop (mkF m 223 #[.val (.int xa), .val (.int xb), .val (.int xc), .val (.int xd), .val (.int xe), .val (.int xf), .val (.int (3 : Int32)), .val (.int w124), .val (.int w125), .val (.ref b126), .val (.int w136), .val (.int w140), .val (.int w139), .val (.int w141), .val (.ref b142), .unset, .unset] [(.int (4 : Int32)), (.ref b142)]))
    refine own_by (fun _ => XS.iload Y151.here hx rfl (hb hby at_223) rfl) ?_
    show own_Go p e below _ (T151.setTop (mkF m 225 #[.val (.int xa), .val (.int xb), .val (.int xc), .val (.int xd), .val (.int xe), .val (.int xf), .val (.int (3 : Int32)), .val (.int w124), .val (.int w125), .val (.ref b126), .val (.int w136), .val (.int w140), .val (.int w139), .val (.int w141), .val (.ref b142), .unset, .unset] [(.int xe), (.int (4 : Int32)), (.ref b142)]))
    refine own_by (fun _ => XS.iconst Y151.here hx rfl (hb hby at_225)) ?_
    show own_Go p e below _ (T151.setTop (mkF m 226 #[.val (.int xa), .val (.int xb), .val (.int xc), .val (.int xd), .val (.int xe), .val (.int xf), .val (.int (3 : Int32)), .val (.int w124), .val (.int w125), .val (.ref b126), .val (.int w136), .val (.int w140), .val (.int w139), .val (.int w141), .val (.ref b142), .unset, .unset] [(.int (4 : Int32)), (.int xe), (.int (4 : Int32)), (.ref b142)]))
    refine own_by (fun _ => XS.iadd Y151.here hx rfl (hb hby at_226) rfl) ?_
    show own_Go p e below _ (T151.setTop (mkF m 227 #[.val (.int xa), .val (.int xb), .val (.int xc), .val (.int xd), .val (.int xe), .val (.int xf), .val (.int (3 : Int32)), .val (.int w124), .val (.int w125), .val (.ref b126), .val (.int w136), .val (.int w140), .val (.int w139), .val (.int w141), .val (.ref b142), .unset, .unset] [(.int (xe + (4 : Int32))), (.int (4 : Int32)), (.ref b142)]))
    obtain ⟨cl152, ar152, q152, sz152, nn152, hs152, gs152⟩ := id va151
    have hin152 : ¬ ((4 : Int32) < 0 ∨ cl152.slots.size ≤ ((4 : Int32)).toNatClampNeg) := inb_of sz152 ⟨by decide, by decide⟩
    obtain ⟨T153, h153, X153, e153, W153, st153⟩ := stI Y151 hx hZ e151 ar152 (j := (4 : Int32)) hin152 (g := (mkF m 227 #[.val (.int xa), .val (.int xb), .val (.int xc), .val (.int xd), .val (.int xe), .val (.int xf), .val (.int (3 : Int32)), .val (.int w124), .val (.int w125), .val (.ref b126), .val (.int w136), .val (.int w140), .val (.int w139), .val (.int w141), .val (.ref b142), .unset, .unset] [(.int (xe + (4 : Int32))), (.int (4 : Int32)), (.ref b142)])) rfl rfl (hb hby at_227)
    refine own_by st153 ?_
    clear st153 Y151
    have va153 : Arv Z h153 b142 k142 .int (8 : Int32) [(.int xe), (.int (xe + (1 : Int32))), (.int (xe + (2 : Int32))), (.int (xe + (3 : Int32))), (.int (xe + (4 : Int32))), (.int (0 : Int32)), (.int (0 : Int32)), (.int (0 : Int32))] (.int (0 : Int32)) := Arv.set ar152 q152 sz152 nn152 hs152 gs152 rfl W153 4 rfl (Nat.le_of_ble_eq_true rfl)
    have z153 : n0 ≤ h153.size := Nat.le_trans z151 (Keep.of_wr W153).1
    have N153 := Fr.snoc X153 M151 ge142
    obtain ⟨lq153, Y153, M153⟩ : ∃ lq, Stand p l e room_1 s m #[(.int xa), (.int xb), (.int xc), (.int xd), (.int xe), (.int xf)] below meth c T153 lq 3 14 ∧ Fr n0 lq := ⟨_, X153, N153⟩
    clear X153 N153
    show own_Go p e below _ (T153.setTop (mkF m 228 #[.val (.int xa), .val (.int xb), .val (.int xc), .val (.int xd), .val (.int xe), .val (.int xf), .val (.int (3 : Int32)), .val (.int w124), .val (.int w125), .val (.ref b126), .val (.int w136), .val (.int w140), .val (.int w139), .val (.int w141), .val (.ref b142), .unset, .unset] []))
    refine own_by (fun _ => XS.aload Y153.here hx rfl (hb hby at_228) rfl rfl) ?_
    show own_Go p e below _ (T153.setTop (mkF m 230 #[.val (.int xa), .val (.int xb), .val (.int xc), .val (.int xd), .val (.int xe), .val (.int xf), .val (.int (3 : Int32)), .val (.int w124), .val (.int w125), .val (.ref b126), .val (.int w136), .val (.int w140), .val (.int w139), .val (.int w141), .val (.ref b142), .unset, .unset] [(.ref b142)]))
    refine own_by (fun _ => XS.iconst Y153.here hx rfl (hb hby at_230)) ?_
    show own_Go p e below _ (T153.setTop (mkF m 231 #[.val (.int xa), .val (.int xb), .val (.int xc), .val (.int xd), .val (.int xe), .val (.int xf), .val (.int (3 : Int32)), .val (.int w124), .val (.int w125), .val (.ref b126), .val (.int w136), .val (.int w140), .val (.int w139), .val (.int w141), .val (.ref b142), .unset, .unset] [(.int (5 : Int32)), (.ref b142)]))
    refine own_by (fun _ => XS.iload Y153.here hx rfl (hb hby at_231) rfl) ?_
    show own_Go p e below _ (T153.setTop (mkF m 233 #[.val (.int xa), .val (.int xb), .val (.int xc), .val (.int xd), .val (.int xe), .val (.int xf), .val (.int (3 : Int32)), .val (.int w124), .val (.int w125), .val (.ref b126), .val (.int w136), .val (.int w140), .val (.int w139), .val (.int w141), .val (.ref b142), .unset, .unset] [(.int xe), (.int (5 : Int32)), (.ref b142)]))
    refine own_by (fun _ => XS.iconst Y153.here hx rfl (hb hby at_233)) ?_
    show own_Go p e below _ (T153.setTop (mkF m 234 #[.val (.int xa), .val (.int xb), .val (.int xc), .val (.int xd), .val (.int xe), .val (.int xf), .val (.int (3 : Int32)), .val (.int w124), .val (.int w125), .val (.ref b126), .val (.int w136), .val (.int w140), .val (.int w139), .val (.int w141), .val (.ref b142), .unset, .unset] [(.int (5 : Int32)), (.int xe), (.int (5 : Int32)), (.ref b142)]))
    refine own_by (fun _ => XS.iadd Y153.here hx rfl (hb hby at_234) rfl) ?_
    show own_Go p e below _ (T153.setTop (mkF m 235 #[.val (.int xa), .val (.int xb), .val (.int xc), .val (.int xd), .val (.int xe), .val (.int xf), .val (.int (3 : Int32)), .val (.int w124), .val (.int w125), .val (.ref b126), .val (.int w136), .val (.int w140), .val (.int w139), .val (.int w141), .val (.ref b142), .unset, .unset] [(.int (xe + (5 : Int32))), (.int (5 : Int32)), (.ref b142)]))
    obtain ⟨cl154, ar154, q154, sz154, nn154, hs154, gs154⟩ := id va153
    have hin154 : ¬ ((5 : Int32) < 0 ∨ cl154.slots.size ≤ ((5 : Int32)).toNatClampNeg) := inb_of sz154 ⟨by decide, by decide⟩
    obtain ⟨T155, h155, X155, e155, W155, st155⟩ := stI Y153 hx hZ e153 ar154 (j := (5 : Int32)) hin154 (g := (mkF m 235 #[.val (.int xa), .val (.int xb), .val (.int xc), .val (.int xd), .val (.int xe), .val (.int xf), .val (.int (3 : Int32)), .val (.int w124), .val (.int w125), .val (.ref b126), .val (.int w136), .val (.int w140), .val (.int w139), .val (.int w141), .val (.ref b142), .unset, .unset] [(.int (xe + (5 : Int32))), (.int (5 : Int32)), (.ref b142)])) rfl rfl (hb hby at_235)
    refine own_by st155 ?_
    clear st155 Y153
    have va155 : Arv Z h155 b142 k142 .int (8 : Int32) [(.int xe), (.int (xe + (1 : Int32))), (.int (xe + (2 : Int32))), (.int (xe + (3 : Int32))), (.int (xe + (4 : Int32))), (.int (xe + (5 : Int32))), (.int (0 : Int32)), (.int (0 : Int32))] (.int (0 : Int32)) := Arv.set ar154 q154 sz154 nn154 hs154 gs154 rfl W155 5 rfl (Nat.le_of_ble_eq_true rfl)
    have z155 : n0 ≤ h155.size := Nat.le_trans z153 (Keep.of_wr W155).1
    have N155 := Fr.snoc X155 M153 ge142
    obtain ⟨lq155, Y155, M155⟩ : ∃ lq, Stand p l e room_1 s m #[(.int xa), (.int xb), (.int xc), (.int xd), (.int xe), (.int xf)] below meth c T155 lq 3 14 ∧ Fr n0 lq := ⟨_, X155, N155⟩
    clear X155 N155
    show own_Go p e below _ (T155.setTop (mkF m 236 #[.val (.int xa), .val (.int xb), .val (.int xc), .val (.int xd), .val (.int xe), .val (.int xf), .val (.int (3 : Int32)), .val (.int w124), .val (.int w125), .val (.ref b126), .val (.int w136), .val (.int w140), .val (.int w139), .val (.int w141), .val (.ref b142), .unset, .unset] []))
    refine own_by (fun _ => XS.aload Y155.here hx rfl (hb hby at_236) rfl rfl) ?_
    show own_Go p e below _ (T155.setTop (mkF m 238 #[.val (.int xa), .val (.int xb), .val (.int xc), .val (.int xd), .val (.int xe), .val (.int xf), .val (.int (3 : Int32)), .val (.int w124), .val (.int w125), .val (.ref b126), .val (.int w136), .val (.int w140), .val (.int w139), .val (.int w141), .val (.ref b142), .unset, .unset] [(.ref b142)]))
    refine own_by (fun _ => XS.bipush Y155.here hx rfl (hb hby at_238)) ?_
    show own_Go p e below _ (T155.setTop (mkF m 240 #[.val (.int xa), .val (.int xb), .val (.int xc), .val (.int xd), .val (.int xe), .val (.int xf), .val (.int (3 : Int32)), .val (.int w124), .val (.int w125), .val (.ref b126), .val (.int w136), .val (.int w140), .val (.int w139), .val (.int w141), .val (.ref b142), .unset, .unset] [(.int (6 : Int32)), (.ref b142)]))
    refine own_by (fun _ => XS.iload Y155.here hx rfl (hb hby at_240) rfl) ?_
    show own_Go p e below _ (T155.setTop (mkF m 242 #[.val (.int xa), .val (.int xb), .val (.int xc), .val (.int xd), .val (.int xe), .val (.int xf), .val (.int (3 : Int32)), .val (.int w124), .val (.int w125), .val (.ref b126), .val (.int w136), .val (.int w140), .val (.int w139), .val (.int w141), .val (.ref b142), .unset, .unset] [(.int xe), (.int (6 : Int32)), (.ref b142)]))
    refine own_by (fun _ => XS.bipush Y155.here hx rfl (hb hby at_242)) ?_
    show own_Go p e below _ (T155.setTop (mkF m 244 #[.val (.int xa), .val (.int xb), .val (.int xc), .val (.int xd), .val (.int xe), .val (.int xf), .val (.int (3 : Int32)), .val (.int w124), .val (.int w125), .val (.ref b126), .val (.int w136), .val (.int w140), .val (.int w139), .val (.int w141), .val (.ref b142), .unset, .unset] [(.int (6 : Int32)), (.int xe), (.int (6 : Int32)), (.ref b142)]))
    refine own_by (fun _ => XS.iadd Y155.here hx rfl (hb hby at_244) rfl) ?_
    show own_Go p e below _ (T155.setTop (mkF m 245 #[.val (.int xa), .val (.int xb), .val (.int xc), .val (.int xd), .val (.int xe), .val (.int xf), .val (.int (3 : Int32)), .val (.int w124), .val (.int w125), .val (.ref b126), .val (.int w136), .val (.int w140), .val (.int w139), .val (.int w141), .val (.ref b142), .unset, .unset] [(.int (xe + (6 : Int32))), (.int (6 : Int32)), (.ref b142)]))
    obtain ⟨cl156, ar156, q156, sz156, nn156, hs156, gs156⟩ := id va155
    have hin156 : ¬ ((6 : Int32) < 0 ∨ cl156.slots.size ≤ ((6 : Int32)).toNatClampNeg) := inb_of sz156 ⟨by decide, by decide⟩
    obtain ⟨T157, h157, X157, e157, W157, st157⟩ := stI Y155 hx hZ e155 ar156 (j := (6 : Int32)) hin156 (g := (mkF m 245 #[.val (.int xa), .val (.int xb), .val (.int xc), .val (.int xd), .val (.int xe), .val (.int xf), .val (.int (3 : Int32)), .val (.int w124), .val (.int w125), .val (.ref b126), .val (.int w136), .val (.int w140), .val (.int w139), .val (.int w141), .val (.ref b142), .unset, .unset] [(.int (xe + (6 : Int32))), (.int (6 : Int32)), (.ref b142)])) rfl rfl (hb hby at_245)
    refine own_by st157 ?_
    clear st157 Y155
    have va157 : Arv Z h157 b142 k142 .int (8 : Int32) [(.int xe), (.int (xe + (1 : Int32))), (.int (xe + (2 : Int32))), (.int (xe + (3 : Int32))), (.int (xe + (4 : Int32))), (.int (xe + (5 : Int32))), (.int (xe + (6 : Int32))), (.int (0 : Int32))] (.int (0 : Int32)) := Arv.set ar156 q156 sz156 nn156 hs156 gs156 rfl W157 6 rfl (Nat.le_of_ble_eq_true rfl)
    have z157 : n0 ≤ h157.size := Nat.le_trans z155 (Keep.of_wr W157).1
    have N157 := Fr.snoc X157 M155 ge142
    obtain ⟨lq157, Y157, M157⟩ : ∃ lq, Stand p l e room_1 s m #[(.int xa), (.int xb), (.int xc), (.int xd), (.int xe), (.int xf)] below meth c T157 lq 3 14 ∧ Fr n0 lq := ⟨_, X157, N157⟩
    clear X157 N157
    show own_Go p e below _ (T157.setTop (mkF m 246 #[.val (.int xa), .val (.int xb), .val (.int xc), .val (.int xd), .val (.int xe), .val (.int xf), .val (.int (3 : Int32)), .val (.int w124), .val (.int w125), .val (.ref b126), .val (.int w136), .val (.int w140), .val (.int w139), .val (.int w141), .val (.ref b142), .unset, .unset] []))
    refine own_by (fun _ => XS.aload Y157.here hx rfl (hb hby at_246) rfl rfl) ?_
    show own_Go p e below _ (T157.setTop (mkF m 248 #[.val (.int xa), .val (.int xb), .val (.int xc), .val (.int xd), .val (.int xe), .val (.int xf), .val (.int (3 : Int32)), .val (.int w124), .val (.int w125), .val (.ref b126), .val (.int w136), .val (.int w140), .val (.int w139), .val (.int w141), .val (.ref b142), .unset, .unset] [(.ref b142)]))
    refine own_by (fun _ => XS.bipush Y157.here hx rfl (hb hby at_248)) ?_
    show own_Go p e below _ (T157.setTop (mkF m 250 #[.val (.int xa), .val (.int xb), .val (.int xc), .val (.int xd), .val (.int xe), .val (.int xf), .val (.int (3 : Int32)), .val (.int w124), .val (.int w125), .val (.ref b126), .val (.int w136), .val (.int w140), .val (.int w139), .val (.int w141), .val (.ref b142), .unset, .unset] [(.int (7 : Int32)), (.ref b142)]))
    refine own_by (fun _ => XS.iload Y157.here hx rfl (hb hby at_250) rfl) ?_
    show own_Go p e below _ (T157.setTop (mkF m 252 #[.val (.int xa), .val (.int xb), .val (.int xc), .val (.int xd), .val (.int xe), .val (.int xf), .val (.int (3 : Int32)), .val (.int w124), .val (.int w125), .val (.ref b126), .val (.int w136), .val (.int w140), .val (.int w139), .val (.int w141), .val (.ref b142), .unset, .unset] [(.int xe), (.int (7 : Int32)), (.ref b142)]))
    refine own_by (fun _ => XS.bipush Y157.here hx rfl (hb hby at_252)) ?_
    show own_Go p e below _ (T157.setTop (mkF m 254 #[.val (.int xa), .val (.int xb), .val (.int xc), .val (.int xd), .val (.int xe), .val (.int xf), .val (.int (3 : Int32)), .val (.int w124), .val (.int w125), .val (.ref b126), .val (.int w136), .val (.int w140), .val (.int w139), .val (.int w141), .val (.ref b142), .unset, .unset] [(.int (7 : Int32)), (.int xe), (.int (7 : Int32)), (.ref b142)]))
    refine own_by (fun _ => XS.iadd Y157.here hx rfl (hb hby at_254) rfl) ?_
    show own_Go p e below _ (T157.setTop (mkF m 255 #[.val (.int xa), .val (.int xb), .val (.int xc), .val (.int xd), .val (.int xe), .val (.int xf), .val (.int (3 : Int32)), .val (.int w124), .val (.int w125), .val (.ref b126), .val (.int w136), .val (.int w140), .val (.int w139), .val (.int w141), .val (.ref b142), .unset, .unset] [(.int (xe + (7 : Int32))), (.int (7 : Int32)), (.ref b142)]))
    obtain ⟨cl158, ar158, q158, sz158, nn158, hs158, gs158⟩ := id va157
    have hin158 : ¬ ((7 : Int32) < 0 ∨ cl158.slots.size ≤ ((7 : Int32)).toNatClampNeg) := inb_of sz158 ⟨by decide, by decide⟩
    obtain ⟨T159, h159, X159, e159, W159, st159⟩ := stI Y157 hx hZ e157 ar158 (j := (7 : Int32)) hin158 (g := (mkF m 255 #[.val (.int xa), .val (.int xb), .val (.int xc), .val (.int xd), .val (.int xe), .val (.int xf), .val (.int (3 : Int32)), .val (.int w124), .val (.int w125), .val (.ref b126), .val (.int w136), .val (.int w140), .val (.int w139), .val (.int w141), .val (.ref b142), .unset, .unset] [(.int (xe + (7 : Int32))), (.int (7 : Int32)), (.ref b142)])) rfl rfl (hb hby at_255)
    refine own_by st159 ?_
    clear st159 Y157
    have va159 : Arv Z h159 b142 k142 .int (8 : Int32) [(.int xe), (.int (xe + (1 : Int32))), (.int (xe + (2 : Int32))), (.int (xe + (3 : Int32))), (.int (xe + (4 : Int32))), (.int (xe + (5 : Int32))), (.int (xe + (6 : Int32))), (.int (xe + (7 : Int32)))] (.int (0 : Int32)) := Arv.set ar158 q158 sz158 nn158 hs158 gs158 rfl W159 7 rfl (Nat.le_of_ble_eq_true rfl)
    have z159 : n0 ≤ h159.size := Nat.le_trans z157 (Keep.of_wr W159).1
    have N159 := Fr.snoc X159 M157 ge142
    obtain ⟨lq159, Y159, M159⟩ : ∃ lq, Stand p l e room_1 s m #[(.int xa), (.int xb), (.int xc), (.int xd), (.int xe), (.int xf)] below meth c T159 lq 3 14 ∧ Fr n0 lq := ⟨_, X159, N159⟩
    clear X159 N159
    show own_Go p e below _ (T159.setTop (mkF m 256 #[.val (.int xa), .val (.int xb), .val (.int xc), .val (.int xd), .val (.int xe), .val (.int xf), .val (.int (3 : Int32)), .val (.int w124), .val (.int w125), .val (.ref b126), .val (.int w136), .val (.int w140), .val (.int w139), .val (.int w141), .val (.ref b142), .unset, .unset] []))
    refine own_by (fun _ => XS.aload Y159.here hx rfl (hb hby at_256) rfl rfl) ?_
    show own_Go p e below _ (T159.setTop (mkF m 258 #[.val (.int xa), .val (.int xb), .val (.int xc), .val (.int xd), .val (.int xe), .val (.int xf), .val (.int (3 : Int32)), .val (.int w124), .val (.int w125), .val (.ref b126), .val (.int w136), .val (.int w140), .val (.int w139), .val (.int w141), .val (.ref b142), .unset, .unset] [(.ref b126)]))
    refine own_by (fun _ => XS.aload Y159.here hx rfl (hb hby at_258) rfl rfl) ?_
    show own_Go p e below _ (T159.setTop (mkF m 260 #[.val (.int xa), .val (.int xb), .val (.int xc), .val (.int xd), .val (.int xe), .val (.int xf), .val (.int (3 : Int32)), .val (.int w124), .val (.int w125), .val (.ref b126), .val (.int w136), .val (.int w140), .val (.int w139), .val (.int w141), .val (.ref b142), .unset, .unset] [(.ref b142), (.ref b126)]))
    refine own_by (fun _ => XS.iload Y159.here hx rfl (hb hby at_260) rfl) ?_
    show own_Go p e below _ (T159.setTop (mkF m 262 #[.val (.int xa), .val (.int xb), .val (.int xc), .val (.int xd), .val (.int xe), .val (.int xf), .val (.int (3 : Int32)), .val (.int w124), .val (.int w125), .val (.ref b126), .val (.int w136), .val (.int w140), .val (.int w139), .val (.int w141), .val (.ref b142), .unset, .unset] [(.int w141), (.ref b142), (.ref b126)]))
    have f160 : Exa Z h159 b126 "com/example/bucketsplit/bucketsplit/core/Page" := (((((((((f143.ext E142).wr W145).wr W147).wr W149).wr W151).wr W153).wr W155).wr W157).wr W159)
    have f161 : Fld Z h159 b126 "com/example/bucketsplit/bucketsplit/core/Page" "mKeys" "[I" (.ref kx_127) := (((((((((fc133_0.ext E142).other W145 (Or.inl ne142_b126)).other W147 (Or.inl ne142_b126)).other W149 (Or.inl ne142_b126)).other W151 (Or.inl ne142_b126)).other W153 (Or.inl ne142_b126)).other W155 (Or.inl ne142_b126)).other W157 (Or.inl ne142_b126)).other W159 (Or.inl ne142_b126))
    have f162 : Fld Z h159 b126 "com/example/bucketsplit/bucketsplit/core/Page" "mSize" "I" (.int (3 : Int32)) := (((((((((fc133_1.ext E142).other W145 (Or.inl ne142_b126)).other W147 (Or.inl ne142_b126)).other W149 (Or.inl ne142_b126)).other W151 (Or.inl ne142_b126)).other W153 (Or.inl ne142_b126)).other W155 (Or.inl ne142_b126)).other W157 (Or.inl ne142_b126)).other W159 (Or.inl ne142_b126))
    have f163 : Arv Z h159 kx_127 kk_127 .int (4 : Int32) [(.int (if w125 < (if w124 < xa then xa else w124) then (if w125 < (if w124 < xa then w124 else xa) then w125 else (if w124 < xa then w124 else xa)) else (if w124 < xa then w124 else xa))), (.int (if w125 < (if w124 < xa then xa else w124) then (if w125 < (if w124 < xa then w124 else xa) then (if w124 < xa then w124 else xa) else w125) else (if w124 < xa then xa else w124))), (.int (if w125 < (if w124 < xa then xa else w124) then (if w124 < xa then xa else w124) else w125)), (.int (0 : Int32))] (.int (0 : Int32)) := (((((((((fc133_2.ext E142).other W145 ne142_kx_127).other W147 ne142_kx_127).other W149 ne142_kx_127).other W151 ne142_kx_127).other W153 ne142_kx_127).other W155 ne142_kx_127).other W157 ne142_kx_127).other W159 ne142_kx_127)
    obtain ⟨cq164, kq164, q164a, q164b, q164c⟩ := isOf hZ e159 f160
    obtain ⟨_, _, ⟨T164, L164, k164, n164⟩, -, X164, ⟨Lc164, hQ164, l164, y164, z164'⟩, st164⟩ := Y159.virtualBack hx (y := (⟨"com/example/bucketsplit/bucketsplit/core/Page", "takeAll", "([II)I"⟩ : MethodName)) (z := (⟨"com/example/bucketsplit/bucketsplit/core/Page", "takeAll", "([II)I"⟩ : MethodName)) hown (mvT hZ (hw _ (List.mem_of_getElem? (i := 27) rfl))) (mvT hZ (hw _ (List.mem_of_getElem? (i := 28) rfl))) (notFace_of_selects (args := #[]) (mvT hZ (hw _ (List.mem_of_getElem? (i := 30) rfl)))) (mvT hZ (hw _ (List.mem_of_getElem? (i := 30) rfl))) (mvT hZ (hw _ (List.mem_of_getElem? (i := 29) rfl))) (by decide) (backOf (W := 0) (own_rm6_3 l Z a0 hw [] b126 b142 w141 kx_127 kk_127 k142 [xe, (xe + (1 : Int32)), (xe + (2 : Int32)), (xe + (3 : Int32)), (xe + (4 : Int32)), (xe + (5 : Int32)), (xe + (6 : Int32)), (xe + (7 : Int32))] (if w125 < (if w124 < xa then xa else w124) then (if w125 < (if w124 < xa then w124 else xa) then w125 else (if w124 < xa then w124 else xa)) else (if w124 < xa then w124 else xa)) (if w125 < (if w124 < xa then xa else w124) then (if w125 < (if w124 < xa then w124 else xa) then (if w124 < xa then w124 else xa) else w125) else (if w124 < xa then xa else w124)) (if w125 < (if w124 < xa then xa else w124) then (if w124 < xa then xa else w124) else w125) (0 : Int32) h159 n0 z159 f160 f161 f162 f163 va159 ne127_b126 ne142_b126 ne142_kx_127 ge126 ge142 ((own_atlo hw141) : ¬ (w141 < (0 : Int32))) ((own_athi hw141) : w141 < (6 : Int32)) ((by first | rfl | simp) : [xe, (xe + (1 : Int32)), (xe + (2 : Int32)), (xe + (3 : Int32)), (xe + (4 : Int32)), (xe + (5 : Int32)), (xe + (6 : Int32)), (xe + (7 : Int32))].length = 8)) hZ (hw _ (List.mem_of_getElem? (i := 31) rfl)) (hw _ (List.mem_of_getElem? (i := 2) rfl)) (by decide) (by decide)) q164a q164c (g := (mkF m 262 #[.val (.int xa), .val (.int xb), .val (.int xc), .val (.int xd), .val (.int xe), .val (.int xf), .val (.int (3 : Int32)), .val (.int w124), .val (.int w125), .val (.ref b126), .val (.int w136), .val (.int w140), .val (.int w139), .val (.int w141), .val (.ref b142), .unset, .unset] [(.int w141), (.ref b142), (.ref b126)])) rfl (by rw [hml]; rfl) (Steps.refl _) (argsL := [(.ref b142), (.int w141)]) (rest := []) (lenOf own_pd1 rfl) rfl (by show 2 * 0 + _ ≤ _; exact Nat.le_of_eq rfl) (hb hby at_262) (fun _ _ => ⟨rfl, e159, (by decide : 3 + 0 ≤ _), (by decide : 14 + 0 ≤ _)⟩)
    dsimp only [Pt.U, Pt.locs, Pt.cells, Pt.slots] at X164 l164 y164 z164' st164 hQ164
    subst l164 y164 z164'
    obtain ⟨rfl, N164q, Kc164, fc164_0, fc164_1⟩ := hQ164
    have N164 := Fr.app M159 N164q
    refine own_tr st164 ?_
    clear st164 Y159
    obtain ⟨lq164, Y164, M164⟩ : ∃ lq, Stand p l e room_1 s m #[(.int xa), (.int xb), (.int xc), (.int xd), (.int xe), (.int xf)] below meth c T164 lq 3 14 ∧ Fr n0 lq := ⟨_, X164, N164⟩
    clear X164 N164
    have z164 : n0 ≤ T164.heap.size := Nat.le_trans z159 Kc164.1
    obtain ⟨ls164_1, hls164_1⟩ : ∃ z : List Int32, z = ((([xe, (xe + (1 : Int32)), (xe + (2 : Int32)), (xe + (3 : Int32)), (xe + (4 : Int32)), (xe + (5 : Int32)), (xe + (6 : Int32)), (xe + (7 : Int32))].set ((w141 + (0 : Int32))).toNatClampNeg (if w125 < (if w124 < xa then xa else w124) then (if w125 < (if w124 < xa then w124 else xa) then w125 else (if w124 < xa then w124 else xa)) else (if w124 < xa then w124 else xa))).set ((w141 + (1 : Int32))).toNatClampNeg (if w125 < (if w124 < xa then xa else w124) then (if w125 < (if w124 < xa then w124 else xa) then (if w124 < xa then w124 else xa) else w125) else (if w124 < xa then xa else w124))).set ((w141 + (2 : Int32))).toNatClampNeg (if w125 < (if w124 < xa then xa else w124) then (if w124 < xa then xa else w124) else w125)) := ⟨_, rfl⟩
    rw [← hls164_1] at fc164_1
    show own_Go p e below _ (T164.setTop (mkF m 265 #[.val (.int xa), .val (.int xb), .val (.int xc), .val (.int xd), .val (.int xe), .val (.int xf), .val (.int (3 : Int32)), .val (.int w124), .val (.int w125), .val (.ref b126), .val (.int w136), .val (.int w140), .val (.int w139), .val (.int w141), .val (.ref b142), .unset, .unset] [(.int (w141 + (3 : Int32)))]))
    refine own_by (fun _ => XS.istore Y164.here hx rfl (hb hby at_265) rfl (l' := #[.val (.int xa), .val (.int xb), .val (.int xc), .val (.int xd), .val (.int xe), .val (.int xf), .val (.int (3 : Int32)), .val (.int w124), .val (.int w125), .val (.ref b126), .val (.int w136), .val (.int w140), .val (.int w139), .val (.int w141), .val (.ref b142), .val (.int (w141 + (3 : Int32))), .unset]) rfl) ?_
    show own_Go p e below _ (T164.setTop (mkF m 267 #[.val (.int xa), .val (.int xb), .val (.int xc), .val (.int xd), .val (.int xe), .val (.int xf), .val (.int (3 : Int32)), .val (.int w124), .val (.int w125), .val (.ref b126), .val (.int w136), .val (.int w140), .val (.int w139), .val (.int w141), .val (.ref b142), .val (.int (w141 + (3 : Int32))), .unset] []))
    refine own_by (fun _ => XS.iload Y164.here hx rfl (hb hby at_267) rfl) ?_
    show own_Go p e below _ (T164.setTop (mkF m 269 #[.val (.int xa), .val (.int xb), .val (.int xc), .val (.int xd), .val (.int xe), .val (.int xf), .val (.int (3 : Int32)), .val (.int w124), .val (.int w125), .val (.ref b126), .val (.int w136), .val (.int w140), .val (.int w139), .val (.int w141), .val (.ref b142), .val (.int (w141 + (3 : Int32))), .unset] [(.int (w141 + (3 : Int32)))]))
    refine own_by (fun _ => XS.iload Y164.here hx rfl (hb hby at_269) rfl) ?_
    show own_Go p e below _ (T164.setTop (mkF m 271 #[.val (.int xa), .val (.int xb), .val (.int xc), .val (.int xd), .val (.int xe), .val (.int xf), .val (.int (3 : Int32)), .val (.int w124), .val (.int w125), .val (.ref b126), .val (.int w136), .val (.int w140), .val (.int w139), .val (.int w141), .val (.ref b142), .val (.int (w141 + (3 : Int32))), .unset] [(.int w141), (.int (w141 + (3 : Int32)))]))
    refine own_by (fun _ => XS.iload Y164.here hx rfl (hb hby at_271) rfl) ?_
    show own_Go p e below _ (T164.setTop (mkF m 273 #[.val (.int xa), .val (.int xb), .val (.int xc), .val (.int xd), .val (.int xe), .val (.int xf), .val (.int (3 : Int32)), .val (.int w124), .val (.int w125), .val (.ref b126), .val (.int w136), .val (.int w140), .val (.int w139), .val (.int w141), .val (.ref b142), .val (.int (w141 + (3 : Int32))), .unset] [(.int (3 : Int32)), (.int w141), (.int (w141 + (3 : Int32)))]))
    refine own_by (fun _ => XS.iadd Y164.here hx rfl (hb hby at_273) rfl) ?_
    show own_Go p e below _ (T164.setTop (mkF m 274 #[.val (.int xa), .val (.int xb), .val (.int xc), .val (.int xd), .val (.int xe), .val (.int xf), .val (.int (3 : Int32)), .val (.int w124), .val (.int w125), .val (.ref b126), .val (.int w136), .val (.int w140), .val (.int w139), .val (.int w141), .val (.ref b142), .val (.int (w141 + (3 : Int32))), .unset] [(.int (w141 + (3 : Int32))), (.int (w141 + (3 : Int32)))]))
    refine own_by (fun _ => XS.icmpNo Y164.here hx rfl (hb hby at_274) rfl (teq (rfl : (w141 + (3 : Int32)) = (w141 + (3 : Int32)))).2) ?_
    show own_Go p e below _ (T164.setTop (mkF m 277 #[.val (.int xa), .val (.int xb), .val (.int xc), .val (.int xd), .val (.int xe), .val (.int xf), .val (.int (3 : Int32)), .val (.int w124), .val (.int w125), .val (.ref b126), .val (.int w136), .val (.int w140), .val (.int w139), .val (.int w141), .val (.ref b142), .val (.int (w141 + (3 : Int32))), .unset] []))
    refine own_by (fun _ => XS.aload Y164.here hx rfl (hb hby at_277) rfl rfl) ?_
    show own_Go p e below _ (T164.setTop (mkF m 279 #[.val (.int xa), .val (.int xb), .val (.int xc), .val (.int xd), .val (.int xe), .val (.int xf), .val (.int (3 : Int32)), .val (.int w124), .val (.int w125), .val (.ref b126), .val (.int w136), .val (.int w140), .val (.int w139), .val (.int w141), .val (.ref b142), .val (.int (w141 + (3 : Int32))), .unset] [(.ref b126)]))
    have f166 : Exa Z T164.heap b126 "com/example/bucketsplit/bucketsplit/core/Page" := (f160.keep Kc164)
    obtain ⟨cq165, kq165, q165a, q165b, q165c⟩ := isOf hZ rfl f166
    obtain ⟨_, _, ⟨T165, L165, k165, n165⟩, -, X165, ⟨Lc165, hQ165, l165, y165, z165'⟩, st165⟩ := Y164.virtualBack hx (y := (⟨"com/example/bucketsplit/bucketsplit/core/Page", "size", "()I"⟩ : MethodName)) (z := (⟨"com/example/bucketsplit/bucketsplit/core/Page", "size", "()I"⟩ : MethodName)) hown (mvT hZ (hw _ (List.mem_of_getElem? (i := 32) rfl))) (mvT hZ (hw _ (List.mem_of_getElem? (i := 33) rfl))) (notFace_of_selects (args := #[]) (mvT hZ (hw _ (List.mem_of_getElem? (i := 35) rfl)))) (mvT hZ (hw _ (List.mem_of_getElem? (i := 35) rfl))) (mvT hZ (hw _ (List.mem_of_getElem? (i := 34) rfl))) (by decide) (backOf (W := 0) (own_rm7 l Z a0 hw [] b126 (0 : Int32) T164.heap n0 z164 fc164_0) hZ (hw _ (List.mem_of_getElem? (i := 36) rfl)) (hw _ (List.mem_of_getElem? (i := 2) rfl)) (by decide) (by decide)) q165a q165c (g := (mkF m 279 #[.val (.int xa), .val (.int xb), .val (.int xc), .val (.int xd), .val (.int xe), .val (.int xf), .val (.int (3 : Int32)), .val (.int w124), .val (.int w125), .val (.ref b126), .val (.int w136), .val (.int w140), .val (.int w139), .val (.int w141), .val (.ref b142), .val (.int (w141 + (3 : Int32))), .unset] [(.ref b126)])) rfl (by rw [hml]; rfl) (Steps.refl _) (argsL := []) (rest := []) (lenOf own_pd2 rfl) rfl (by show 2 * 0 + _ ≤ _; exact Nat.le_of_eq rfl) (hb hby at_279) (fun _ _ => ⟨rfl, rfl, (by decide : 3 + 0 ≤ _), (by decide : 14 + 0 ≤ _)⟩)
    dsimp only [Pt.U, Pt.locs, Pt.cells, Pt.slots] at X165 l165 y165 z165' st165 hQ165
    subst l165 y165 z165'
    obtain ⟨rfl, N165q, e165⟩ := hQ165
    have N165 := Fr.app M164 N165q
    refine own_tr st165 ?_
    clear st165 Y164
    obtain ⟨lq165, Y165, M165⟩ : ∃ lq, Stand p l e room_1 s m #[(.int xa), (.int xb), (.int xc), (.int xd), (.int xe), (.int xf)] below meth c T165 lq 3 14 ∧ Fr n0 lq := ⟨_, X165, N165⟩
    clear X165 N165
    show own_Go p e below _ (T165.setTop (mkF m 282 #[.val (.int xa), .val (.int xb), .val (.int xc), .val (.int xd), .val (.int xe), .val (.int xf), .val (.int (3 : Int32)), .val (.int w124), .val (.int w125), .val (.ref b126), .val (.int w136), .val (.int w140), .val (.int w139), .val (.int w141), .val (.ref b142), .val (.int (w141 + (3 : Int32))), .unset] [(.int (0 : Int32))]))
    refine own_by (fun _ => XS.ifNo Y165.here hx rfl (hb hby at_282) rfl ((if0 _ _).trans (teq (by decide : (0 : Int32) = (0 : Int32))).2)) ?_
    show own_Go p e below _ (T165.setTop (mkF m 285 #[.val (.int xa), .val (.int xb), .val (.int xc), .val (.int xd), .val (.int xe), .val (.int xf), .val (.int (3 : Int32)), .val (.int w124), .val (.int w125), .val (.ref b126), .val (.int w136), .val (.int w140), .val (.int w139), .val (.int w141), .val (.ref b142), .val (.int (w141 + (3 : Int32))), .unset] []))
    refine own_by (fun _ => XS.iconst Y165.here hx rfl (hb hby at_285)) ?_
    show own_Go p e below _ (T165.setTop (mkF m 286 #[.val (.int xa), .val (.int xb), .val (.int xc), .val (.int xd), .val (.int xe), .val (.int xf), .val (.int (3 : Int32)), .val (.int w124), .val (.int w125), .val (.ref b126), .val (.int w136), .val (.int w140), .val (.int w139), .val (.int w141), .val (.ref b142), .val (.int (w141 + (3 : Int32))), .unset] [(.int (1 : Int32))]))
    refine own_by (fun _ => XS.goto Y165.here hx rfl (pc0 := 286) (pc' := 290) rfl (hb hby at_286) (by decide) (by decide)) ?_
    show own_Go p e below _ (T165.setTop (mkF m 290 #[.val (.int xa), .val (.int xb), .val (.int xc), .val (.int xd), .val (.int xe), .val (.int xf), .val (.int (3 : Int32)), .val (.int w124), .val (.int w125), .val (.ref b126), .val (.int w136), .val (.int w140), .val (.int w139), .val (.int w141), .val (.ref b142), .val (.int (w141 + (3 : Int32))), .unset] [(.int (1 : Int32))]))
    refine own_by (fun _ => XS.istore Y165.here hx rfl (hb hby at_290) rfl (l' := #[.val (.int xa), .val (.int xb), .val (.int xc), .val (.int xd), .val (.int xe), .val (.int xf), .val (.int (3 : Int32)), .val (.int w124), .val (.int w125), .val (.ref b126), .val (.int w136), .val (.int w140), .val (.int w139), .val (.int w141), .val (.ref b142), .val (.int (w141 + (3 : Int32))), .val (.int (1 : Int32))]) rfl) ?_
    show own_Go p e below _ (T165.setTop (mkF m 292 #[.val (.int xa), .val (.int xb), .val (.int xc), .val (.int xd), .val (.int xe), .val (.int xf), .val (.int (3 : Int32)), .val (.int w124), .val (.int w125), .val (.ref b126), .val (.int w136), .val (.int w140), .val (.int w139), .val (.int w141), .val (.ref b142), .val (.int (w141 + (3 : Int32))), .val (.int (1 : Int32))] []))
    refine own_by (fun _ => XS.iload Y165.here hx rfl (hb hby at_292) rfl) ?_
    show own_Go p e below _ (T165.setTop (mkF m 294 #[.val (.int xa), .val (.int xb), .val (.int xc), .val (.int xd), .val (.int xe), .val (.int xf), .val (.int (3 : Int32)), .val (.int w124), .val (.int w125), .val (.ref b126), .val (.int w136), .val (.int w140), .val (.int w139), .val (.int w141), .val (.ref b142), .val (.int (w141 + (3 : Int32))), .val (.int (1 : Int32))] [(.int (1 : Int32))]))
    refine own_by (fun _ => XS.ifNo Y165.here hx rfl (hb hby at_294) rfl ((if0 _ _).trans (feq (by decide : ¬ ((1 : Int32) = (0 : Int32)))).1)) ?_
    show own_Go p e below _ (T165.setTop (mkF m 297 #[.val (.int xa), .val (.int xb), .val (.int xc), .val (.int xd), .val (.int xe), .val (.int xf), .val (.int (3 : Int32)), .val (.int w124), .val (.int w125), .val (.ref b126), .val (.int w136), .val (.int w140), .val (.int w139), .val (.int w141), .val (.ref b142), .val (.int (w141 + (3 : Int32))), .val (.int (1 : Int32))] []))
    refine own_by (fun _ => XS.aload Y165.here hx rfl (hb hby at_297) rfl rfl) ?_
    show own_Go p e below _ (T165.setTop (mkF m 299 #[.val (.int xa), .val (.int xb), .val (.int xc), .val (.int xd), .val (.int xe), .val (.int xf), .val (.int (3 : Int32)), .val (.int w124), .val (.int w125), .val (.ref b126), .val (.int w136), .val (.int w140), .val (.int w139), .val (.int w141), .val (.ref b142), .val (.int (w141 + (3 : Int32))), .val (.int (1 : Int32))] [(.ref b142)]))
    refine own_by (fun _ => XS.iconst Y165.here hx rfl (hb hby at_299)) ?_
    show own_Go p e below _ (T165.setTop (mkF m 300 #[.val (.int xa), .val (.int xb), .val (.int xc), .val (.int xd), .val (.int xe), .val (.int xf), .val (.int (3 : Int32)), .val (.int w124), .val (.int w125), .val (.ref b126), .val (.int w136), .val (.int w140), .val (.int w139), .val (.int w141), .val (.ref b142), .val (.int (w141 + (3 : Int32))), .val (.int (1 : Int32))] [(.int (0 : Int32)), (.ref b142)]))
    refine own_by (fun _ => XS.iload Y165.here hx rfl (hb hby at_300) rfl) ?_
    show own_Go p e below _ (T165.setTop (mkF m 302 #[.val (.int xa), .val (.int xb), .val (.int xc), .val (.int xd), .val (.int xe), .val (.int xf), .val (.int (3 : Int32)), .val (.int w124), .val (.int w125), .val (.ref b126), .val (.int w136), .val (.int w140), .val (.int w139), .val (.int w141), .val (.ref b142), .val (.int (w141 + (3 : Int32))), .val (.int (1 : Int32))] [(.int w141), (.int (0 : Int32)), (.ref b142)]))
    refine own_by (fun _ => XS.iload Y165.here hx rfl (hb hby at_302) rfl) ?_
    show own_Go p e below _ (T165.setTop (mkF m 304 #[.val (.int xa), .val (.int xb), .val (.int xc), .val (.int xd), .val (.int xe), .val (.int xf), .val (.int (3 : Int32)), .val (.int w124), .val (.int w125), .val (.ref b126), .val (.int w136), .val (.int w140), .val (.int w139), .val (.int w141), .val (.ref b142), .val (.int (w141 + (3 : Int32))), .val (.int (1 : Int32))] [(.int (3 : Int32)), (.int w141), (.int (0 : Int32)), (.ref b142)]))
    refine own_by (fun _ => XS.iload Y165.here hx rfl (hb hby at_304) rfl) ?_
    show own_Go p e below _ (T165.setTop (mkF m 306 #[.val (.int xa), .val (.int xb), .val (.int xc), .val (.int xd), .val (.int xe), .val (.int xf), .val (.int (3 : Int32)), .val (.int w124), .val (.int w125), .val (.ref b126), .val (.int w136), .val (.int w140), .val (.int w139), .val (.int w141), .val (.ref b142), .val (.int (w141 + (3 : Int32))), .val (.int (1 : Int32))] [(.int w136), (.int (3 : Int32)), (.int w141), (.int (0 : Int32)), (.ref b142)]))
    refine own_by (fun _ => XS.iload Y165.here hx rfl (hb hby at_306) rfl) ?_
    show own_Go p e below _ (T165.setTop (mkF m 308 #[.val (.int xa), .val (.int xb), .val (.int xc), .val (.int xd), .val (.int xe), .val (.int xf), .val (.int (3 : Int32)), .val (.int w124), .val (.int w125), .val (.ref b126), .val (.int w136), .val (.int w140), .val (.int w139), .val (.int w141), .val (.ref b142), .val (.int (w141 + (3 : Int32))), .val (.int (1 : Int32))] [(.int w140), (.int w136), (.int (3 : Int32)), (.int w141), (.int (0 : Int32)), (.ref b142)]))
    refine own_by (fun _ => XS.iload Y165.here hx rfl (hb hby at_308) rfl) ?_
    show own_Go p e below _ (T165.setTop (mkF m 310 #[.val (.int xa), .val (.int xb), .val (.int xc), .val (.int xd), .val (.int xe), .val (.int xf), .val (.int (3 : Int32)), .val (.int w124), .val (.int w125), .val (.ref b126), .val (.int w136), .val (.int w140), .val (.int w139), .val (.int w141), .val (.ref b142), .val (.int (w141 + (3 : Int32))), .val (.int (1 : Int32))] [(.int w139), (.int w140), (.int w136), (.int (3 : Int32)), (.int w141), (.int (0 : Int32)), (.ref b142)]))
    refine own_by (fun _ => XS.iload Y165.here hx rfl (hb hby at_310) rfl) ?_
    show own_Go p e below _ (T165.setTop (mkF m 312 #[.val (.int xa), .val (.int xb), .val (.int xc), .val (.int xd), .val (.int xe), .val (.int xf), .val (.int (3 : Int32)), .val (.int w124), .val (.int w125), .val (.ref b126), .val (.int w136), .val (.int w140), .val (.int w139), .val (.int w141), .val (.ref b142), .val (.int (w141 + (3 : Int32))), .val (.int (1 : Int32))] [(.int xe), (.int w139), (.int w140), (.int w136), (.int (3 : Int32)), (.int w141), (.int (0 : Int32)), (.ref b142)]))
    obtain ⟨_, _, ⟨T167, L167, k167, n167⟩, -, X167, ⟨Lc167, hQ167, l167, y167, z167'⟩, st167⟩ := Jvm.LawKit.callS Y165 hx (y := (⟨"com/example/bucketsplit/bucketsplit/core/PageTakeAllPinLaw", "slot", "([IIIIIIII)Z"⟩ : MethodName)) hown (mvT hZ (hw _ (List.mem_of_getElem? (i := 37) rfl))) (mvT hZ (hw _ (List.mem_of_getElem? (i := 38) rfl))) (mvT hZ (hw _ (List.mem_of_getElem? (i := 39) rfl))) (mvT hZ (hw _ (List.mem_of_getElem? (i := 40) rfl))) (by decide) (backOf (W := 0) (own_rm8 l Z a0 hw [] b142 (0 : Int32) w141 (3 : Int32) w136 w140 w139 xe k142 ls164_1 T164.heap n0 z164 fc164_1 (by decide : ¬ ((0 : Int32) < (0 : Int32))) (by decide : (0 : Int32) < (8 : Int32))) hZ (hw _ (List.mem_of_getElem? (i := 40) rfl)) (hw _ (List.mem_of_getElem? (i := 39) rfl)) (by decide) (by decide)) (g := (mkF m 312 #[.val (.int xa), .val (.int xb), .val (.int xc), .val (.int xd), .val (.int xe), .val (.int xf), .val (.int (3 : Int32)), .val (.int w124), .val (.int w125), .val (.ref b126), .val (.int w136), .val (.int w140), .val (.int w139), .val (.int w141), .val (.ref b142), .val (.int (w141 + (3 : Int32))), .val (.int (1 : Int32))] [(.int xe), (.int w139), (.int w140), (.int w136), (.int (3 : Int32)), (.int w141), (.int (0 : Int32)), (.ref b142)])) rfl (by rw [hml]; rfl) (argsL := [(.ref b142), (.int (0 : Int32)), (.int w141), (.int (3 : Int32)), (.int w136), (.int w140), (.int w139), (.int xe)]) (rest := []) (lenOf own_pd3 rfl) rfl (by show 2 * 0 + _ ≤ _; exact Nat.le_of_eq rfl) (hb hby at_312) (fun _ _ => ⟨rfl, e165, (by decide : 3 + 0 ≤ _), (by decide : 14 + 0 ≤ _)⟩)
    dsimp only [Pt.U, Pt.locs, Pt.cells, Pt.slots] at X167 l167 y167 z167' st167 hQ167
    subst l167 y167 z167'
    obtain ⟨rfl, N167q, e167⟩ := hQ167
    have N167 := Fr.app M165 N167q
    refine own_by st167 ?_
    clear st167 Y165
    obtain ⟨lq167, Y167, M167⟩ : ∃ lq, Stand p l e room_1 s m #[(.int xa), (.int xb), (.int xc), (.int xd), (.int xe), (.int xf)] below meth c T167 lq 3 14 ∧ Fr n0 lq := ⟨_, X167, N167⟩
    clear X167 N167
    show own_Go p e below _ (T167.setTop (mkF m 315 #[.val (.int xa), .val (.int xb), .val (.int xc), .val (.int xd), .val (.int xe), .val (.int xf), .val (.int (3 : Int32)), .val (.int w124), .val (.int w125), .val (.ref b126), .val (.int w136), .val (.int w140), .val (.int w139), .val (.int w141), .val (.ref b142), .val (.int (w141 + (3 : Int32))), .val (.int (1 : Int32))] [(.int (own_slot (0 : Int32) w141 (3 : Int32) w136 w140 w139 xe ls164_1))]))
    refine own_by (fun _ => XS.ifNo Y167.here hx rfl (hb hby at_315) rfl ((if0 _ _).trans (feq (own_no0 (own_sl3 xe w141 (0 : Int32) hls164_1 hw136 hw140 hw139 (own_at3 hw141) (by decide)))).1)) ?_
    show own_Go p e below _ (T167.setTop (mkF m 318 #[.val (.int xa), .val (.int xb), .val (.int xc), .val (.int xd), .val (.int xe), .val (.int xf), .val (.int (3 : Int32)), .val (.int w124), .val (.int w125), .val (.ref b126), .val (.int w136), .val (.int w140), .val (.int w139), .val (.int w141), .val (.ref b142), .val (.int (w141 + (3 : Int32))), .val (.int (1 : Int32))] []))
    refine own_by (fun _ => XS.iconst Y167.here hx rfl (hb hby at_318)) ?_
    show own_Go p e below _ (T167.setTop (mkF m 319 #[.val (.int xa), .val (.int xb), .val (.int xc), .val (.int xd), .val (.int xe), .val (.int xf), .val (.int (3 : Int32)), .val (.int w124), .val (.int w125), .val (.ref b126), .val (.int w136), .val (.int w140), .val (.int w139), .val (.int w141), .val (.ref b142), .val (.int (w141 + (3 : Int32))), .val (.int (1 : Int32))] [(.int (1 : Int32))]))
    refine own_by (fun _ => XS.goto Y167.here hx rfl (pc0 := 319) (pc' := 323) rfl (hb hby at_319) (by decide) (by decide)) ?_
    show own_Go p e below _ (T167.setTop (mkF m 323 #[.val (.int xa), .val (.int xb), .val (.int xc), .val (.int xd), .val (.int xe), .val (.int xf), .val (.int (3 : Int32)), .val (.int w124), .val (.int w125), .val (.ref b126), .val (.int w136), .val (.int w140), .val (.int w139), .val (.int w141), .val (.ref b142), .val (.int (w141 + (3 : Int32))), .val (.int (1 : Int32))] [(.int (1 : Int32))]))
    refine own_by (fun _ => XS.istore Y167.here hx rfl (hb hby at_323) rfl (l' := #[.val (.int xa), .val (.int xb), .val (.int xc), .val (.int xd), .val (.int xe), .val (.int xf), .val (.int (3 : Int32)), .val (.int w124), .val (.int w125), .val (.ref b126), .val (.int w136), .val (.int w140), .val (.int w139), .val (.int w141), .val (.ref b142), .val (.int (w141 + (3 : Int32))), .val (.int (1 : Int32))]) rfl) ?_
    show own_Go p e below _ (T167.setTop (mkF m 325 #[.val (.int xa), .val (.int xb), .val (.int xc), .val (.int xd), .val (.int xe), .val (.int xf), .val (.int (3 : Int32)), .val (.int w124), .val (.int w125), .val (.ref b126), .val (.int w136), .val (.int w140), .val (.int w139), .val (.int w141), .val (.ref b142), .val (.int (w141 + (3 : Int32))), .val (.int (1 : Int32))] []))
    refine own_by (fun _ => XS.iload Y167.here hx rfl (hb hby at_325) rfl) ?_
    show own_Go p e below _ (T167.setTop (mkF m 327 #[.val (.int xa), .val (.int xb), .val (.int xc), .val (.int xd), .val (.int xe), .val (.int xf), .val (.int (3 : Int32)), .val (.int w124), .val (.int w125), .val (.ref b126), .val (.int w136), .val (.int w140), .val (.int w139), .val (.int w141), .val (.ref b142), .val (.int (w141 + (3 : Int32))), .val (.int (1 : Int32))] [(.int (1 : Int32))]))
    refine own_by (fun _ => XS.ifNo Y167.here hx rfl (hb hby at_327) rfl ((if0 _ _).trans (feq (by decide : ¬ ((1 : Int32) = (0 : Int32)))).1)) ?_
    show own_Go p e below _ (T167.setTop (mkF m 330 #[.val (.int xa), .val (.int xb), .val (.int xc), .val (.int xd), .val (.int xe), .val (.int xf), .val (.int (3 : Int32)), .val (.int w124), .val (.int w125), .val (.ref b126), .val (.int w136), .val (.int w140), .val (.int w139), .val (.int w141), .val (.ref b142), .val (.int (w141 + (3 : Int32))), .val (.int (1 : Int32))] []))
    refine own_by (fun _ => XS.aload Y167.here hx rfl (hb hby at_330) rfl rfl) ?_
    show own_Go p e below _ (T167.setTop (mkF m 332 #[.val (.int xa), .val (.int xb), .val (.int xc), .val (.int xd), .val (.int xe), .val (.int xf), .val (.int (3 : Int32)), .val (.int w124), .val (.int w125), .val (.ref b126), .val (.int w136), .val (.int w140), .val (.int w139), .val (.int w141), .val (.ref b142), .val (.int (w141 + (3 : Int32))), .val (.int (1 : Int32))] [(.ref b142)]))
    refine own_by (fun _ => XS.iconst Y167.here hx rfl (hb hby at_332)) ?_
    show own_Go p e below _ (T167.setTop (mkF m 333 #[.val (.int xa), .val (.int xb), .val (.int xc), .val (.int xd), .val (.int xe), .val (.int xf), .val (.int (3 : Int32)), .val (.int w124), .val (.int w125), .val (.ref b126), .val (.int w136), .val (.int w140), .val (.int w139), .val (.int w141), .val (.ref b142), .val (.int (w141 + (3 : Int32))), .val (.int (1 : Int32))] [(.int (1 : Int32)), (.ref b142)]))
    refine own_by (fun _ => XS.iload Y167.here hx rfl (hb hby at_333) rfl) ?_
    show own_Go p e below _ (T167.setTop (mkF m 335 #[.val (.int xa), .val (.int xb), .val (.int xc), .val (.int xd), .val (.int xe), .val (.int xf), .val (.int (3 : Int32)), .val (.int w124), .val (.int w125), .val (.ref b126), .val (.int w136), .val (.int w140), .val (.int w139), .val (.int w141), .val (.ref b142), .val (.int (w141 + (3 : Int32))), .val (.int (1 : Int32))] [(.int w141), (.int (1 : Int32)), (.ref b142)]))
    refine own_by (fun _ => XS.iload Y167.here hx rfl (hb hby at_335) rfl) ?_
    show own_Go p e below _ (T167.setTop (mkF m 337 #[.val (.int xa), .val (.int xb), .val (.int xc), .val (.int xd), .val (.int xe), .val (.int xf), .val (.int (3 : Int32)), .val (.int w124), .val (.int w125), .val (.ref b126), .val (.int w136), .val (.int w140), .val (.int w139), .val (.int w141), .val (.ref b142), .val (.int (w141 + (3 : Int32))), .val (.int (1 : Int32))] [(.int (3 : Int32)), (.int w141), (.int (1 : Int32)), (.ref b142)]))
    refine own_by (fun _ => XS.iload Y167.here hx rfl (hb hby at_337) rfl) ?_
    show own_Go p e below _ (T167.setTop (mkF m 339 #[.val (.int xa), .val (.int xb), .val (.int xc), .val (.int xd), .val (.int xe), .val (.int xf), .val (.int (3 : Int32)), .val (.int w124), .val (.int w125), .val (.ref b126), .val (.int w136), .val (.int w140), .val (.int w139), .val (.int w141), .val (.ref b142), .val (.int (w141 + (3 : Int32))), .val (.int (1 : Int32))] [(.int w136), (.int (3 : Int32)), (.int w141), (.int (1 : Int32)), (.ref b142)]))
    refine own_by (fun _ => XS.iload Y167.here hx rfl (hb hby at_339) rfl) ?_
    show own_Go p e below _ (T167.setTop (mkF m 341 #[.val (.int xa), .val (.int xb), .val (.int xc), .val (.int xd), .val (.int xe), .val (.int xf), .val (.int (3 : Int32)), .val (.int w124), .val (.int w125), .val (.ref b126), .val (.int w136), .val (.int w140), .val (.int w139), .val (.int w141), .val (.ref b142), .val (.int (w141 + (3 : Int32))), .val (.int (1 : Int32))] [(.int w140), (.int w136), (.int (3 : Int32)), (.int w141), (.int (1 : Int32)), (.ref b142)]))
    refine own_by (fun _ => XS.iload Y167.here hx rfl (hb hby at_341) rfl) ?_
    show own_Go p e below _ (T167.setTop (mkF m 343 #[.val (.int xa), .val (.int xb), .val (.int xc), .val (.int xd), .val (.int xe), .val (.int xf), .val (.int (3 : Int32)), .val (.int w124), .val (.int w125), .val (.ref b126), .val (.int w136), .val (.int w140), .val (.int w139), .val (.int w141), .val (.ref b142), .val (.int (w141 + (3 : Int32))), .val (.int (1 : Int32))] [(.int w139), (.int w140), (.int w136), (.int (3 : Int32)), (.int w141), (.int (1 : Int32)), (.ref b142)]))
    refine own_by (fun _ => XS.iload Y167.here hx rfl (hb hby at_343) rfl) ?_
    show own_Go p e below _ (T167.setTop (mkF m 345 #[.val (.int xa), .val (.int xb), .val (.int xc), .val (.int xd), .val (.int xe), .val (.int xf), .val (.int (3 : Int32)), .val (.int w124), .val (.int w125), .val (.ref b126), .val (.int w136), .val (.int w140), .val (.int w139), .val (.int w141), .val (.ref b142), .val (.int (w141 + (3 : Int32))), .val (.int (1 : Int32))] [(.int xe), (.int w139), (.int w140), (.int w136), (.int (3 : Int32)), (.int w141), (.int (1 : Int32)), (.ref b142)]))
    obtain ⟨_, _, ⟨T168, L168, k168, n168⟩, -, X168, ⟨Lc168, hQ168, l168, y168, z168'⟩, st168⟩ := Jvm.LawKit.callS Y167 hx (y := (⟨"com/example/bucketsplit/bucketsplit/core/PageTakeAllPinLaw", "slot", "([IIIIIIII)Z"⟩ : MethodName)) hown (mvT hZ (hw _ (List.mem_of_getElem? (i := 37) rfl))) (mvT hZ (hw _ (List.mem_of_getElem? (i := 38) rfl))) (mvT hZ (hw _ (List.mem_of_getElem? (i := 39) rfl))) (mvT hZ (hw _ (List.mem_of_getElem? (i := 40) rfl))) (by decide) (backOf (W := 0) (own_rm8 l Z a0 hw [] b142 (1 : Int32) w141 (3 : Int32) w136 w140 w139 xe k142 ls164_1 T164.heap n0 z164 fc164_1 (by decide : ¬ ((1 : Int32) < (0 : Int32))) (by decide : (1 : Int32) < (8 : Int32))) hZ (hw _ (List.mem_of_getElem? (i := 40) rfl)) (hw _ (List.mem_of_getElem? (i := 39) rfl)) (by decide) (by decide)) (g := (mkF m 345 #[.val (.int xa), .val (.int xb), .val (.int xc), .val (.int xd), .val (.int xe), .val (.int xf), .val (.int (3 : Int32)), .val (.int w124), .val (.int w125), .val (.ref b126), .val (.int w136), .val (.int w140), .val (.int w139), .val (.int w141), .val (.ref b142), .val (.int (w141 + (3 : Int32))), .val (.int (1 : Int32))] [(.int xe), (.int w139), (.int w140), (.int w136), (.int (3 : Int32)), (.int w141), (.int (1 : Int32)), (.ref b142)])) rfl (by rw [hml]; rfl) (argsL := [(.ref b142), (.int (1 : Int32)), (.int w141), (.int (3 : Int32)), (.int w136), (.int w140), (.int w139), (.int xe)]) (rest := []) (lenOf own_pd3 rfl) rfl (by show 2 * 0 + _ ≤ _; exact Nat.le_of_eq rfl) (hb hby at_345) (fun _ _ => ⟨rfl, e167, (by decide : 3 + 0 ≤ _), (by decide : 14 + 0 ≤ _)⟩)
    dsimp only [Pt.U, Pt.locs, Pt.cells, Pt.slots] at X168 l168 y168 z168' st168 hQ168
    subst l168 y168 z168'
    obtain ⟨rfl, N168q, e168⟩ := hQ168
    have N168 := Fr.app M167 N168q
    refine own_by st168 ?_
    clear st168 Y167
    obtain ⟨lq168, Y168, M168⟩ : ∃ lq, Stand p l e room_1 s m #[(.int xa), (.int xb), (.int xc), (.int xd), (.int xe), (.int xf)] below meth c T168 lq 3 14 ∧ Fr n0 lq := ⟨_, X168, N168⟩
    clear X168 N168
    show own_Go p e below _ (T168.setTop (mkF m 348 #[.val (.int xa), .val (.int xb), .val (.int xc), .val (.int xd), .val (.int xe), .val (.int xf), .val (.int (3 : Int32)), .val (.int w124), .val (.int w125), .val (.ref b126), .val (.int w136), .val (.int w140), .val (.int w139), .val (.int w141), .val (.ref b142), .val (.int (w141 + (3 : Int32))), .val (.int (1 : Int32))] [(.int (own_slot (1 : Int32) w141 (3 : Int32) w136 w140 w139 xe ls164_1))]))
    refine own_by (fun _ => XS.ifNo Y168.here hx rfl (hb hby at_348) rfl ((if0 _ _).trans (feq (own_no0 (own_sl3 xe w141 (1 : Int32) hls164_1 hw136 hw140 hw139 (own_at3 hw141) (by decide)))).1)) ?_
    show own_Go p e below _ (T168.setTop (mkF m 351 #[.val (.int xa), .val (.int xb), .val (.int xc), .val (.int xd), .val (.int xe), .val (.int xf), .val (.int (3 : Int32)), .val (.int w124), .val (.int w125), .val (.ref b126), .val (.int w136), .val (.int w140), .val (.int w139), .val (.int w141), .val (.ref b142), .val (.int (w141 + (3 : Int32))), .val (.int (1 : Int32))] []))
    refine own_by (fun _ => XS.iconst Y168.here hx rfl (hb hby at_351)) ?_
    show own_Go p e below _ (T168.setTop (mkF m 352 #[.val (.int xa), .val (.int xb), .val (.int xc), .val (.int xd), .val (.int xe), .val (.int xf), .val (.int (3 : Int32)), .val (.int w124), .val (.int w125), .val (.ref b126), .val (.int w136), .val (.int w140), .val (.int w139), .val (.int w141), .val (.ref b142), .val (.int (w141 + (3 : Int32))), .val (.int (1 : Int32))] [(.int (1 : Int32))]))
    refine own_by (fun _ => XS.goto Y168.here hx rfl (pc0 := 352) (pc' := 356) rfl (hb hby at_352) (by decide) (by decide)) ?_
    show own_Go p e below _ (T168.setTop (mkF m 356 #[.val (.int xa), .val (.int xb), .val (.int xc), .val (.int xd), .val (.int xe), .val (.int xf), .val (.int (3 : Int32)), .val (.int w124), .val (.int w125), .val (.ref b126), .val (.int w136), .val (.int w140), .val (.int w139), .val (.int w141), .val (.ref b142), .val (.int (w141 + (3 : Int32))), .val (.int (1 : Int32))] [(.int (1 : Int32))]))
    refine own_by (fun _ => XS.istore Y168.here hx rfl (hb hby at_356) rfl (l' := #[.val (.int xa), .val (.int xb), .val (.int xc), .val (.int xd), .val (.int xe), .val (.int xf), .val (.int (3 : Int32)), .val (.int w124), .val (.int w125), .val (.ref b126), .val (.int w136), .val (.int w140), .val (.int w139), .val (.int w141), .val (.ref b142), .val (.int (w141 + (3 : Int32))), .val (.int (1 : Int32))]) rfl) ?_
    show own_Go p e below _ (T168.setTop (mkF m 358 #[.val (.int xa), .val (.int xb), .val (.int xc), .val (.int xd), .val (.int xe), .val (.int xf), .val (.int (3 : Int32)), .val (.int w124), .val (.int w125), .val (.ref b126), .val (.int w136), .val (.int w140), .val (.int w139), .val (.int w141), .val (.ref b142), .val (.int (w141 + (3 : Int32))), .val (.int (1 : Int32))] []))
    refine own_by (fun _ => XS.iload Y168.here hx rfl (hb hby at_358) rfl) ?_
    show own_Go p e below _ (T168.setTop (mkF m 360 #[.val (.int xa), .val (.int xb), .val (.int xc), .val (.int xd), .val (.int xe), .val (.int xf), .val (.int (3 : Int32)), .val (.int w124), .val (.int w125), .val (.ref b126), .val (.int w136), .val (.int w140), .val (.int w139), .val (.int w141), .val (.ref b142), .val (.int (w141 + (3 : Int32))), .val (.int (1 : Int32))] [(.int (1 : Int32))]))
    refine own_by (fun _ => XS.ifNo Y168.here hx rfl (hb hby at_360) rfl ((if0 _ _).trans (feq (by decide : ¬ ((1 : Int32) = (0 : Int32)))).1)) ?_
    show own_Go p e below _ (T168.setTop (mkF m 363 #[.val (.int xa), .val (.int xb), .val (.int xc), .val (.int xd), .val (.int xe), .val (.int xf), .val (.int (3 : Int32)), .val (.int w124), .val (.int w125), .val (.ref b126), .val (.int w136), .val (.int w140), .val (.int w139), .val (.int w141), .val (.ref b142), .val (.int (w141 + (3 : Int32))), .val (.int (1 : Int32))] []))
    refine own_by (fun _ => XS.aload Y168.here hx rfl (hb hby at_363) rfl rfl) ?_
    show own_Go p e below _ (T168.setTop (mkF m 365 #[.val (.int xa), .val (.int xb), .val (.int xc), .val (.int xd), .val (.int xe), .val (.int xf), .val (.int (3 : Int32)), .val (.int w124), .val (.int w125), .val (.ref b126), .val (.int w136), .val (.int w140), .val (.int w139), .val (.int w141), .val (.ref b142), .val (.int (w141 + (3 : Int32))), .val (.int (1 : Int32))] [(.ref b142)]))
    refine own_by (fun _ => XS.iconst Y168.here hx rfl (hb hby at_365)) ?_
    show own_Go p e below _ (T168.setTop (mkF m 366 #[.val (.int xa), .val (.int xb), .val (.int xc), .val (.int xd), .val (.int xe), .val (.int xf), .val (.int (3 : Int32)), .val (.int w124), .val (.int w125), .val (.ref b126), .val (.int w136), .val (.int w140), .val (.int w139), .val (.int w141), .val (.ref b142), .val (.int (w141 + (3 : Int32))), .val (.int (1 : Int32))] [(.int (2 : Int32)), (.ref b142)]))
    refine own_by (fun _ => XS.iload Y168.here hx rfl (hb hby at_366) rfl) ?_
    show own_Go p e below _ (T168.setTop (mkF m 368 #[.val (.int xa), .val (.int xb), .val (.int xc), .val (.int xd), .val (.int xe), .val (.int xf), .val (.int (3 : Int32)), .val (.int w124), .val (.int w125), .val (.ref b126), .val (.int w136), .val (.int w140), .val (.int w139), .val (.int w141), .val (.ref b142), .val (.int (w141 + (3 : Int32))), .val (.int (1 : Int32))] [(.int w141), (.int (2 : Int32)), (.ref b142)]))
    refine own_by (fun _ => XS.iload Y168.here hx rfl (hb hby at_368) rfl) ?_
    show own_Go p e below _ (T168.setTop (mkF m 370 #[.val (.int xa), .val (.int xb), .val (.int xc), .val (.int xd), .val (.int xe), .val (.int xf), .val (.int (3 : Int32)), .val (.int w124), .val (.int w125), .val (.ref b126), .val (.int w136), .val (.int w140), .val (.int w139), .val (.int w141), .val (.ref b142), .val (.int (w141 + (3 : Int32))), .val (.int (1 : Int32))] [(.int (3 : Int32)), (.int w141), (.int (2 : Int32)), (.ref b142)]))
    refine own_by (fun _ => XS.iload Y168.here hx rfl (hb hby at_370) rfl) ?_
    show own_Go p e below _ (T168.setTop (mkF m 372 #[.val (.int xa), .val (.int xb), .val (.int xc), .val (.int xd), .val (.int xe), .val (.int xf), .val (.int (3 : Int32)), .val (.int w124), .val (.int w125), .val (.ref b126), .val (.int w136), .val (.int w140), .val (.int w139), .val (.int w141), .val (.ref b142), .val (.int (w141 + (3 : Int32))), .val (.int (1 : Int32))] [(.int w136), (.int (3 : Int32)), (.int w141), (.int (2 : Int32)), (.ref b142)]))
    refine own_by (fun _ => XS.iload Y168.here hx rfl (hb hby at_372) rfl) ?_
    show own_Go p e below _ (T168.setTop (mkF m 374 #[.val (.int xa), .val (.int xb), .val (.int xc), .val (.int xd), .val (.int xe), .val (.int xf), .val (.int (3 : Int32)), .val (.int w124), .val (.int w125), .val (.ref b126), .val (.int w136), .val (.int w140), .val (.int w139), .val (.int w141), .val (.ref b142), .val (.int (w141 + (3 : Int32))), .val (.int (1 : Int32))] [(.int w140), (.int w136), (.int (3 : Int32)), (.int w141), (.int (2 : Int32)), (.ref b142)]))
    refine own_by (fun _ => XS.iload Y168.here hx rfl (hb hby at_374) rfl) ?_
    show own_Go p e below _ (T168.setTop (mkF m 376 #[.val (.int xa), .val (.int xb), .val (.int xc), .val (.int xd), .val (.int xe), .val (.int xf), .val (.int (3 : Int32)), .val (.int w124), .val (.int w125), .val (.ref b126), .val (.int w136), .val (.int w140), .val (.int w139), .val (.int w141), .val (.ref b142), .val (.int (w141 + (3 : Int32))), .val (.int (1 : Int32))] [(.int w139), (.int w140), (.int w136), (.int (3 : Int32)), (.int w141), (.int (2 : Int32)), (.ref b142)]))
    refine own_by (fun _ => XS.iload Y168.here hx rfl (hb hby at_376) rfl) ?_
    show own_Go p e below _ (T168.setTop (mkF m 378 #[.val (.int xa), .val (.int xb), .val (.int xc), .val (.int xd), .val (.int xe), .val (.int xf), .val (.int (3 : Int32)), .val (.int w124), .val (.int w125), .val (.ref b126), .val (.int w136), .val (.int w140), .val (.int w139), .val (.int w141), .val (.ref b142), .val (.int (w141 + (3 : Int32))), .val (.int (1 : Int32))] [(.int xe), (.int w139), (.int w140), (.int w136), (.int (3 : Int32)), (.int w141), (.int (2 : Int32)), (.ref b142)]))
    obtain ⟨_, _, ⟨T169, L169, k169, n169⟩, -, X169, ⟨Lc169, hQ169, l169, y169, z169'⟩, st169⟩ := Jvm.LawKit.callS Y168 hx (y := (⟨"com/example/bucketsplit/bucketsplit/core/PageTakeAllPinLaw", "slot", "([IIIIIIII)Z"⟩ : MethodName)) hown (mvT hZ (hw _ (List.mem_of_getElem? (i := 37) rfl))) (mvT hZ (hw _ (List.mem_of_getElem? (i := 38) rfl))) (mvT hZ (hw _ (List.mem_of_getElem? (i := 39) rfl))) (mvT hZ (hw _ (List.mem_of_getElem? (i := 40) rfl))) (by decide) (backOf (W := 0) (own_rm8 l Z a0 hw [] b142 (2 : Int32) w141 (3 : Int32) w136 w140 w139 xe k142 ls164_1 T164.heap n0 z164 fc164_1 (by decide : ¬ ((2 : Int32) < (0 : Int32))) (by decide : (2 : Int32) < (8 : Int32))) hZ (hw _ (List.mem_of_getElem? (i := 40) rfl)) (hw _ (List.mem_of_getElem? (i := 39) rfl)) (by decide) (by decide)) (g := (mkF m 378 #[.val (.int xa), .val (.int xb), .val (.int xc), .val (.int xd), .val (.int xe), .val (.int xf), .val (.int (3 : Int32)), .val (.int w124), .val (.int w125), .val (.ref b126), .val (.int w136), .val (.int w140), .val (.int w139), .val (.int w141), .val (.ref b142), .val (.int (w141 + (3 : Int32))), .val (.int (1 : Int32))] [(.int xe), (.int w139), (.int w140), (.int w136), (.int (3 : Int32)), (.int w141), (.int (2 : Int32)), (.ref b142)])) rfl (by rw [hml]; rfl) (argsL := [(.ref b142), (.int (2 : Int32)), (.int w141), (.int (3 : Int32)), (.int w136), (.int w140), (.int w139), (.int xe)]) (rest := []) (lenOf own_pd3 rfl) rfl (by show 2 * 0 + _ ≤ _; exact Nat.le_of_eq rfl) (hb hby at_378) (fun _ _ => ⟨rfl, e168, (by decide : 3 + 0 ≤ _), (by decide : 14 + 0 ≤ _)⟩)
    dsimp only [Pt.U, Pt.locs, Pt.cells, Pt.slots] at X169 l169 y169 z169' st169 hQ169
    subst l169 y169 z169'
    obtain ⟨rfl, N169q, e169⟩ := hQ169
    have N169 := Fr.app M168 N169q
    refine own_by st169 ?_
    clear st169 Y168
    obtain ⟨lq169, Y169, M169⟩ : ∃ lq, Stand p l e room_1 s m #[(.int xa), (.int xb), (.int xc), (.int xd), (.int xe), (.int xf)] below meth c T169 lq 3 14 ∧ Fr n0 lq := ⟨_, X169, N169⟩
    clear X169 N169
    show own_Go p e below _ (T169.setTop (mkF m 381 #[.val (.int xa), .val (.int xb), .val (.int xc), .val (.int xd), .val (.int xe), .val (.int xf), .val (.int (3 : Int32)), .val (.int w124), .val (.int w125), .val (.ref b126), .val (.int w136), .val (.int w140), .val (.int w139), .val (.int w141), .val (.ref b142), .val (.int (w141 + (3 : Int32))), .val (.int (1 : Int32))] [(.int (own_slot (2 : Int32) w141 (3 : Int32) w136 w140 w139 xe ls164_1))]))
    refine own_by (fun _ => XS.ifNo Y169.here hx rfl (hb hby at_381) rfl ((if0 _ _).trans (feq (own_no0 (own_sl3 xe w141 (2 : Int32) hls164_1 hw136 hw140 hw139 (own_at3 hw141) (by decide)))).1)) ?_
    show own_Go p e below _ (T169.setTop (mkF m 384 #[.val (.int xa), .val (.int xb), .val (.int xc), .val (.int xd), .val (.int xe), .val (.int xf), .val (.int (3 : Int32)), .val (.int w124), .val (.int w125), .val (.ref b126), .val (.int w136), .val (.int w140), .val (.int w139), .val (.int w141), .val (.ref b142), .val (.int (w141 + (3 : Int32))), .val (.int (1 : Int32))] []))
    refine own_by (fun _ => XS.iconst Y169.here hx rfl (hb hby at_384)) ?_
    show own_Go p e below _ (T169.setTop (mkF m 385 #[.val (.int xa), .val (.int xb), .val (.int xc), .val (.int xd), .val (.int xe), .val (.int xf), .val (.int (3 : Int32)), .val (.int w124), .val (.int w125), .val (.ref b126), .val (.int w136), .val (.int w140), .val (.int w139), .val (.int w141), .val (.ref b142), .val (.int (w141 + (3 : Int32))), .val (.int (1 : Int32))] [(.int (1 : Int32))]))
    refine own_by (fun _ => XS.goto Y169.here hx rfl (pc0 := 385) (pc' := 389) rfl (hb hby at_385) (by decide) (by decide)) ?_
    show own_Go p e below _ (T169.setTop (mkF m 389 #[.val (.int xa), .val (.int xb), .val (.int xc), .val (.int xd), .val (.int xe), .val (.int xf), .val (.int (3 : Int32)), .val (.int w124), .val (.int w125), .val (.ref b126), .val (.int w136), .val (.int w140), .val (.int w139), .val (.int w141), .val (.ref b142), .val (.int (w141 + (3 : Int32))), .val (.int (1 : Int32))] [(.int (1 : Int32))]))
    refine own_by (fun _ => XS.istore Y169.here hx rfl (hb hby at_389) rfl (l' := #[.val (.int xa), .val (.int xb), .val (.int xc), .val (.int xd), .val (.int xe), .val (.int xf), .val (.int (3 : Int32)), .val (.int w124), .val (.int w125), .val (.ref b126), .val (.int w136), .val (.int w140), .val (.int w139), .val (.int w141), .val (.ref b142), .val (.int (w141 + (3 : Int32))), .val (.int (1 : Int32))]) rfl) ?_
    show own_Go p e below _ (T169.setTop (mkF m 391 #[.val (.int xa), .val (.int xb), .val (.int xc), .val (.int xd), .val (.int xe), .val (.int xf), .val (.int (3 : Int32)), .val (.int w124), .val (.int w125), .val (.ref b126), .val (.int w136), .val (.int w140), .val (.int w139), .val (.int w141), .val (.ref b142), .val (.int (w141 + (3 : Int32))), .val (.int (1 : Int32))] []))
    refine own_by (fun _ => XS.iload Y169.here hx rfl (hb hby at_391) rfl) ?_
    show own_Go p e below _ (T169.setTop (mkF m 393 #[.val (.int xa), .val (.int xb), .val (.int xc), .val (.int xd), .val (.int xe), .val (.int xf), .val (.int (3 : Int32)), .val (.int w124), .val (.int w125), .val (.ref b126), .val (.int w136), .val (.int w140), .val (.int w139), .val (.int w141), .val (.ref b142), .val (.int (w141 + (3 : Int32))), .val (.int (1 : Int32))] [(.int (1 : Int32))]))
    refine own_by (fun _ => XS.ifNo Y169.here hx rfl (hb hby at_393) rfl ((if0 _ _).trans (feq (by decide : ¬ ((1 : Int32) = (0 : Int32)))).1)) ?_
    show own_Go p e below _ (T169.setTop (mkF m 396 #[.val (.int xa), .val (.int xb), .val (.int xc), .val (.int xd), .val (.int xe), .val (.int xf), .val (.int (3 : Int32)), .val (.int w124), .val (.int w125), .val (.ref b126), .val (.int w136), .val (.int w140), .val (.int w139), .val (.int w141), .val (.ref b142), .val (.int (w141 + (3 : Int32))), .val (.int (1 : Int32))] []))
    refine own_by (fun _ => XS.aload Y169.here hx rfl (hb hby at_396) rfl rfl) ?_
    show own_Go p e below _ (T169.setTop (mkF m 398 #[.val (.int xa), .val (.int xb), .val (.int xc), .val (.int xd), .val (.int xe), .val (.int xf), .val (.int (3 : Int32)), .val (.int w124), .val (.int w125), .val (.ref b126), .val (.int w136), .val (.int w140), .val (.int w139), .val (.int w141), .val (.ref b142), .val (.int (w141 + (3 : Int32))), .val (.int (1 : Int32))] [(.ref b142)]))
    refine own_by (fun _ => XS.iconst Y169.here hx rfl (hb hby at_398)) ?_
    show own_Go p e below _ (T169.setTop (mkF m 399 #[.val (.int xa), .val (.int xb), .val (.int xc), .val (.int xd), .val (.int xe), .val (.int xf), .val (.int (3 : Int32)), .val (.int w124), .val (.int w125), .val (.ref b126), .val (.int w136), .val (.int w140), .val (.int w139), .val (.int w141), .val (.ref b142), .val (.int (w141 + (3 : Int32))), .val (.int (1 : Int32))] [(.int (3 : Int32)), (.ref b142)]))
    refine own_by (fun _ => XS.iload Y169.here hx rfl (hb hby at_399) rfl) ?_
    show own_Go p e below _ (T169.setTop (mkF m 401 #[.val (.int xa), .val (.int xb), .val (.int xc), .val (.int xd), .val (.int xe), .val (.int xf), .val (.int (3 : Int32)), .val (.int w124), .val (.int w125), .val (.ref b126), .val (.int w136), .val (.int w140), .val (.int w139), .val (.int w141), .val (.ref b142), .val (.int (w141 + (3 : Int32))), .val (.int (1 : Int32))] [(.int w141), (.int (3 : Int32)), (.ref b142)]))
    refine own_by (fun _ => XS.iload Y169.here hx rfl (hb hby at_401) rfl) ?_
    show own_Go p e below _ (T169.setTop (mkF m 403 #[.val (.int xa), .val (.int xb), .val (.int xc), .val (.int xd), .val (.int xe), .val (.int xf), .val (.int (3 : Int32)), .val (.int w124), .val (.int w125), .val (.ref b126), .val (.int w136), .val (.int w140), .val (.int w139), .val (.int w141), .val (.ref b142), .val (.int (w141 + (3 : Int32))), .val (.int (1 : Int32))] [(.int (3 : Int32)), (.int w141), (.int (3 : Int32)), (.ref b142)]))
    refine own_by (fun _ => XS.iload Y169.here hx rfl (hb hby at_403) rfl) ?_
    show own_Go p e below _ (T169.setTop (mkF m 405 #[.val (.int xa), .val (.int xb), .val (.int xc), .val (.int xd), .val (.int xe), .val (.int xf), .val (.int (3 : Int32)), .val (.int w124), .val (.int w125), .val (.ref b126), .val (.int w136), .val (.int w140), .val (.int w139), .val (.int w141), .val (.ref b142), .val (.int (w141 + (3 : Int32))), .val (.int (1 : Int32))] [(.int w136), (.int (3 : Int32)), (.int w141), (.int (3 : Int32)), (.ref b142)]))
    refine own_by (fun _ => XS.iload Y169.here hx rfl (hb hby at_405) rfl) ?_
    show own_Go p e below _ (T169.setTop (mkF m 407 #[.val (.int xa), .val (.int xb), .val (.int xc), .val (.int xd), .val (.int xe), .val (.int xf), .val (.int (3 : Int32)), .val (.int w124), .val (.int w125), .val (.ref b126), .val (.int w136), .val (.int w140), .val (.int w139), .val (.int w141), .val (.ref b142), .val (.int (w141 + (3 : Int32))), .val (.int (1 : Int32))] [(.int w140), (.int w136), (.int (3 : Int32)), (.int w141), (.int (3 : Int32)), (.ref b142)]))
    refine own_by (fun _ => XS.iload Y169.here hx rfl (hb hby at_407) rfl) ?_
    show own_Go p e below _ (T169.setTop (mkF m 409 #[.val (.int xa), .val (.int xb), .val (.int xc), .val (.int xd), .val (.int xe), .val (.int xf), .val (.int (3 : Int32)), .val (.int w124), .val (.int w125), .val (.ref b126), .val (.int w136), .val (.int w140), .val (.int w139), .val (.int w141), .val (.ref b142), .val (.int (w141 + (3 : Int32))), .val (.int (1 : Int32))] [(.int w139), (.int w140), (.int w136), (.int (3 : Int32)), (.int w141), (.int (3 : Int32)), (.ref b142)]))
    refine own_by (fun _ => XS.iload Y169.here hx rfl (hb hby at_409) rfl) ?_
    show own_Go p e below _ (T169.setTop (mkF m 411 #[.val (.int xa), .val (.int xb), .val (.int xc), .val (.int xd), .val (.int xe), .val (.int xf), .val (.int (3 : Int32)), .val (.int w124), .val (.int w125), .val (.ref b126), .val (.int w136), .val (.int w140), .val (.int w139), .val (.int w141), .val (.ref b142), .val (.int (w141 + (3 : Int32))), .val (.int (1 : Int32))] [(.int xe), (.int w139), (.int w140), (.int w136), (.int (3 : Int32)), (.int w141), (.int (3 : Int32)), (.ref b142)]))
    obtain ⟨_, _, ⟨T170, L170, k170, n170⟩, -, X170, ⟨Lc170, hQ170, l170, y170, z170'⟩, st170⟩ := Jvm.LawKit.callS Y169 hx (y := (⟨"com/example/bucketsplit/bucketsplit/core/PageTakeAllPinLaw", "slot", "([IIIIIIII)Z"⟩ : MethodName)) hown (mvT hZ (hw _ (List.mem_of_getElem? (i := 37) rfl))) (mvT hZ (hw _ (List.mem_of_getElem? (i := 38) rfl))) (mvT hZ (hw _ (List.mem_of_getElem? (i := 39) rfl))) (mvT hZ (hw _ (List.mem_of_getElem? (i := 40) rfl))) (by decide) (backOf (W := 0) (own_rm8 l Z a0 hw [] b142 (3 : Int32) w141 (3 : Int32) w136 w140 w139 xe k142 ls164_1 T164.heap n0 z164 fc164_1 (by decide : ¬ ((3 : Int32) < (0 : Int32))) (by decide : (3 : Int32) < (8 : Int32))) hZ (hw _ (List.mem_of_getElem? (i := 40) rfl)) (hw _ (List.mem_of_getElem? (i := 39) rfl)) (by decide) (by decide)) (g := (mkF m 411 #[.val (.int xa), .val (.int xb), .val (.int xc), .val (.int xd), .val (.int xe), .val (.int xf), .val (.int (3 : Int32)), .val (.int w124), .val (.int w125), .val (.ref b126), .val (.int w136), .val (.int w140), .val (.int w139), .val (.int w141), .val (.ref b142), .val (.int (w141 + (3 : Int32))), .val (.int (1 : Int32))] [(.int xe), (.int w139), (.int w140), (.int w136), (.int (3 : Int32)), (.int w141), (.int (3 : Int32)), (.ref b142)])) rfl (by rw [hml]; rfl) (argsL := [(.ref b142), (.int (3 : Int32)), (.int w141), (.int (3 : Int32)), (.int w136), (.int w140), (.int w139), (.int xe)]) (rest := []) (lenOf own_pd3 rfl) rfl (by show 2 * 0 + _ ≤ _; exact Nat.le_of_eq rfl) (hb hby at_411) (fun _ _ => ⟨rfl, e169, (by decide : 3 + 0 ≤ _), (by decide : 14 + 0 ≤ _)⟩)
    dsimp only [Pt.U, Pt.locs, Pt.cells, Pt.slots] at X170 l170 y170 z170' st170 hQ170
    subst l170 y170 z170'
    obtain ⟨rfl, N170q, e170⟩ := hQ170
    have N170 := Fr.app M169 N170q
    refine own_by st170 ?_
    clear st170 Y169
    obtain ⟨lq170, Y170, M170⟩ : ∃ lq, Stand p l e room_1 s m #[(.int xa), (.int xb), (.int xc), (.int xd), (.int xe), (.int xf)] below meth c T170 lq 3 14 ∧ Fr n0 lq := ⟨_, X170, N170⟩
    clear X170 N170
    show own_Go p e below _ (T170.setTop (mkF m 414 #[.val (.int xa), .val (.int xb), .val (.int xc), .val (.int xd), .val (.int xe), .val (.int xf), .val (.int (3 : Int32)), .val (.int w124), .val (.int w125), .val (.ref b126), .val (.int w136), .val (.int w140), .val (.int w139), .val (.int w141), .val (.ref b142), .val (.int (w141 + (3 : Int32))), .val (.int (1 : Int32))] [(.int (own_slot (3 : Int32) w141 (3 : Int32) w136 w140 w139 xe ls164_1))]))
    refine own_by (fun _ => XS.ifNo Y170.here hx rfl (hb hby at_414) rfl ((if0 _ _).trans (feq (own_no0 (own_sl3 xe w141 (3 : Int32) hls164_1 hw136 hw140 hw139 (own_at3 hw141) (by decide)))).1)) ?_
    show own_Go p e below _ (T170.setTop (mkF m 417 #[.val (.int xa), .val (.int xb), .val (.int xc), .val (.int xd), .val (.int xe), .val (.int xf), .val (.int (3 : Int32)), .val (.int w124), .val (.int w125), .val (.ref b126), .val (.int w136), .val (.int w140), .val (.int w139), .val (.int w141), .val (.ref b142), .val (.int (w141 + (3 : Int32))), .val (.int (1 : Int32))] []))
    refine own_by (fun _ => XS.iconst Y170.here hx rfl (hb hby at_417)) ?_
    show own_Go p e below _ (T170.setTop (mkF m 418 #[.val (.int xa), .val (.int xb), .val (.int xc), .val (.int xd), .val (.int xe), .val (.int xf), .val (.int (3 : Int32)), .val (.int w124), .val (.int w125), .val (.ref b126), .val (.int w136), .val (.int w140), .val (.int w139), .val (.int w141), .val (.ref b142), .val (.int (w141 + (3 : Int32))), .val (.int (1 : Int32))] [(.int (1 : Int32))]))
    refine own_by (fun _ => XS.goto Y170.here hx rfl (pc0 := 418) (pc' := 422) rfl (hb hby at_418) (by decide) (by decide)) ?_
    show own_Go p e below _ (T170.setTop (mkF m 422 #[.val (.int xa), .val (.int xb), .val (.int xc), .val (.int xd), .val (.int xe), .val (.int xf), .val (.int (3 : Int32)), .val (.int w124), .val (.int w125), .val (.ref b126), .val (.int w136), .val (.int w140), .val (.int w139), .val (.int w141), .val (.ref b142), .val (.int (w141 + (3 : Int32))), .val (.int (1 : Int32))] [(.int (1 : Int32))]))
    refine own_by (fun _ => XS.istore Y170.here hx rfl (hb hby at_422) rfl (l' := #[.val (.int xa), .val (.int xb), .val (.int xc), .val (.int xd), .val (.int xe), .val (.int xf), .val (.int (3 : Int32)), .val (.int w124), .val (.int w125), .val (.ref b126), .val (.int w136), .val (.int w140), .val (.int w139), .val (.int w141), .val (.ref b142), .val (.int (w141 + (3 : Int32))), .val (.int (1 : Int32))]) rfl) ?_
    show own_Go p e below _ (T170.setTop (mkF m 424 #[.val (.int xa), .val (.int xb), .val (.int xc), .val (.int xd), .val (.int xe), .val (.int xf), .val (.int (3 : Int32)), .val (.int w124), .val (.int w125), .val (.ref b126), .val (.int w136), .val (.int w140), .val (.int w139), .val (.int w141), .val (.ref b142), .val (.int (w141 + (3 : Int32))), .val (.int (1 : Int32))] []))
    refine own_by (fun _ => XS.iload Y170.here hx rfl (hb hby at_424) rfl) ?_
    show own_Go p e below _ (T170.setTop (mkF m 426 #[.val (.int xa), .val (.int xb), .val (.int xc), .val (.int xd), .val (.int xe), .val (.int xf), .val (.int (3 : Int32)), .val (.int w124), .val (.int w125), .val (.ref b126), .val (.int w136), .val (.int w140), .val (.int w139), .val (.int w141), .val (.ref b142), .val (.int (w141 + (3 : Int32))), .val (.int (1 : Int32))] [(.int (1 : Int32))]))
    refine own_by (fun _ => XS.ifNo Y170.here hx rfl (hb hby at_426) rfl ((if0 _ _).trans (feq (by decide : ¬ ((1 : Int32) = (0 : Int32)))).1)) ?_
    show own_Go p e below _ (T170.setTop (mkF m 429 #[.val (.int xa), .val (.int xb), .val (.int xc), .val (.int xd), .val (.int xe), .val (.int xf), .val (.int (3 : Int32)), .val (.int w124), .val (.int w125), .val (.ref b126), .val (.int w136), .val (.int w140), .val (.int w139), .val (.int w141), .val (.ref b142), .val (.int (w141 + (3 : Int32))), .val (.int (1 : Int32))] []))
    refine own_by (fun _ => XS.aload Y170.here hx rfl (hb hby at_429) rfl rfl) ?_
    show own_Go p e below _ (T170.setTop (mkF m 431 #[.val (.int xa), .val (.int xb), .val (.int xc), .val (.int xd), .val (.int xe), .val (.int xf), .val (.int (3 : Int32)), .val (.int w124), .val (.int w125), .val (.ref b126), .val (.int w136), .val (.int w140), .val (.int w139), .val (.int w141), .val (.ref b142), .val (.int (w141 + (3 : Int32))), .val (.int (1 : Int32))] [(.ref b142)]))
    refine own_by (fun _ => XS.iconst Y170.here hx rfl (hb hby at_431)) ?_
    show own_Go p e below _ (T170.setTop (mkF m 432 #[.val (.int xa), .val (.int xb), .val (.int xc), .val (.int xd), .val (.int xe), .val (.int xf), .val (.int (3 : Int32)), .val (.int w124), .val (.int w125), .val (.ref b126), .val (.int w136), .val (.int w140), .val (.int w139), .val (.int w141), .val (.ref b142), .val (.int (w141 + (3 : Int32))), .val (.int (1 : Int32))] [(.int (4 : Int32)), (.ref b142)]))
    refine own_by (fun _ => XS.iload Y170.here hx rfl (hb hby at_432) rfl) ?_
    show own_Go p e below _ (T170.setTop (mkF m 434 #[.val (.int xa), .val (.int xb), .val (.int xc), .val (.int xd), .val (.int xe), .val (.int xf), .val (.int (3 : Int32)), .val (.int w124), .val (.int w125), .val (.ref b126), .val (.int w136), .val (.int w140), .val (.int w139), .val (.int w141), .val (.ref b142), .val (.int (w141 + (3 : Int32))), .val (.int (1 : Int32))] [(.int w141), (.int (4 : Int32)), (.ref b142)]))
    refine own_by (fun _ => XS.iload Y170.here hx rfl (hb hby at_434) rfl) ?_
    show own_Go p e below _ (T170.setTop (mkF m 436 #[.val (.int xa), .val (.int xb), .val (.int xc), .val (.int xd), .val (.int xe), .val (.int xf), .val (.int (3 : Int32)), .val (.int w124), .val (.int w125), .val (.ref b126), .val (.int w136), .val (.int w140), .val (.int w139), .val (.int w141), .val (.ref b142), .val (.int (w141 + (3 : Int32))), .val (.int (1 : Int32))] [(.int (3 : Int32)), (.int w141), (.int (4 : Int32)), (.ref b142)]))
    refine own_by (fun _ => XS.iload Y170.here hx rfl (hb hby at_436) rfl) ?_
    show own_Go p e below _ (T170.setTop (mkF m 438 #[.val (.int xa), .val (.int xb), .val (.int xc), .val (.int xd), .val (.int xe), .val (.int xf), .val (.int (3 : Int32)), .val (.int w124), .val (.int w125), .val (.ref b126), .val (.int w136), .val (.int w140), .val (.int w139), .val (.int w141), .val (.ref b142), .val (.int (w141 + (3 : Int32))), .val (.int (1 : Int32))] [(.int w136), (.int (3 : Int32)), (.int w141), (.int (4 : Int32)), (.ref b142)]))
    refine own_by (fun _ => XS.iload Y170.here hx rfl (hb hby at_438) rfl) ?_
    show own_Go p e below _ (T170.setTop (mkF m 440 #[.val (.int xa), .val (.int xb), .val (.int xc), .val (.int xd), .val (.int xe), .val (.int xf), .val (.int (3 : Int32)), .val (.int w124), .val (.int w125), .val (.ref b126), .val (.int w136), .val (.int w140), .val (.int w139), .val (.int w141), .val (.ref b142), .val (.int (w141 + (3 : Int32))), .val (.int (1 : Int32))] [(.int w140), (.int w136), (.int (3 : Int32)), (.int w141), (.int (4 : Int32)), (.ref b142)]))
    refine own_by (fun _ => XS.iload Y170.here hx rfl (hb hby at_440) rfl) ?_
    show own_Go p e below _ (T170.setTop (mkF m 442 #[.val (.int xa), .val (.int xb), .val (.int xc), .val (.int xd), .val (.int xe), .val (.int xf), .val (.int (3 : Int32)), .val (.int w124), .val (.int w125), .val (.ref b126), .val (.int w136), .val (.int w140), .val (.int w139), .val (.int w141), .val (.ref b142), .val (.int (w141 + (3 : Int32))), .val (.int (1 : Int32))] [(.int w139), (.int w140), (.int w136), (.int (3 : Int32)), (.int w141), (.int (4 : Int32)), (.ref b142)]))
    refine own_by (fun _ => XS.iload Y170.here hx rfl (hb hby at_442) rfl) ?_
    show own_Go p e below _ (T170.setTop (mkF m 444 #[.val (.int xa), .val (.int xb), .val (.int xc), .val (.int xd), .val (.int xe), .val (.int xf), .val (.int (3 : Int32)), .val (.int w124), .val (.int w125), .val (.ref b126), .val (.int w136), .val (.int w140), .val (.int w139), .val (.int w141), .val (.ref b142), .val (.int (w141 + (3 : Int32))), .val (.int (1 : Int32))] [(.int xe), (.int w139), (.int w140), (.int w136), (.int (3 : Int32)), (.int w141), (.int (4 : Int32)), (.ref b142)]))
    obtain ⟨_, _, ⟨T171, L171, k171, n171⟩, -, X171, ⟨Lc171, hQ171, l171, y171, z171'⟩, st171⟩ := Jvm.LawKit.callS Y170 hx (y := (⟨"com/example/bucketsplit/bucketsplit/core/PageTakeAllPinLaw", "slot", "([IIIIIIII)Z"⟩ : MethodName)) hown (mvT hZ (hw _ (List.mem_of_getElem? (i := 37) rfl))) (mvT hZ (hw _ (List.mem_of_getElem? (i := 38) rfl))) (mvT hZ (hw _ (List.mem_of_getElem? (i := 39) rfl))) (mvT hZ (hw _ (List.mem_of_getElem? (i := 40) rfl))) (by decide) (backOf (W := 0) (own_rm8 l Z a0 hw [] b142 (4 : Int32) w141 (3 : Int32) w136 w140 w139 xe k142 ls164_1 T164.heap n0 z164 fc164_1 (by decide : ¬ ((4 : Int32) < (0 : Int32))) (by decide : (4 : Int32) < (8 : Int32))) hZ (hw _ (List.mem_of_getElem? (i := 40) rfl)) (hw _ (List.mem_of_getElem? (i := 39) rfl)) (by decide) (by decide)) (g := (mkF m 444 #[.val (.int xa), .val (.int xb), .val (.int xc), .val (.int xd), .val (.int xe), .val (.int xf), .val (.int (3 : Int32)), .val (.int w124), .val (.int w125), .val (.ref b126), .val (.int w136), .val (.int w140), .val (.int w139), .val (.int w141), .val (.ref b142), .val (.int (w141 + (3 : Int32))), .val (.int (1 : Int32))] [(.int xe), (.int w139), (.int w140), (.int w136), (.int (3 : Int32)), (.int w141), (.int (4 : Int32)), (.ref b142)])) rfl (by rw [hml]; rfl) (argsL := [(.ref b142), (.int (4 : Int32)), (.int w141), (.int (3 : Int32)), (.int w136), (.int w140), (.int w139), (.int xe)]) (rest := []) (lenOf own_pd3 rfl) rfl (by show 2 * 0 + _ ≤ _; exact Nat.le_of_eq rfl) (hb hby at_444) (fun _ _ => ⟨rfl, e170, (by decide : 3 + 0 ≤ _), (by decide : 14 + 0 ≤ _)⟩)
    dsimp only [Pt.U, Pt.locs, Pt.cells, Pt.slots] at X171 l171 y171 z171' st171 hQ171
    subst l171 y171 z171'
    obtain ⟨rfl, N171q, e171⟩ := hQ171
    have N171 := Fr.app M170 N171q
    refine own_by st171 ?_
    clear st171 Y170
    obtain ⟨lq171, Y171, M171⟩ : ∃ lq, Stand p l e room_1 s m #[(.int xa), (.int xb), (.int xc), (.int xd), (.int xe), (.int xf)] below meth c T171 lq 3 14 ∧ Fr n0 lq := ⟨_, X171, N171⟩
    clear X171 N171
    show own_Go p e below _ (T171.setTop (mkF m 447 #[.val (.int xa), .val (.int xb), .val (.int xc), .val (.int xd), .val (.int xe), .val (.int xf), .val (.int (3 : Int32)), .val (.int w124), .val (.int w125), .val (.ref b126), .val (.int w136), .val (.int w140), .val (.int w139), .val (.int w141), .val (.ref b142), .val (.int (w141 + (3 : Int32))), .val (.int (1 : Int32))] [(.int (own_slot (4 : Int32) w141 (3 : Int32) w136 w140 w139 xe ls164_1))]))
    refine own_by (fun _ => XS.ifNo Y171.here hx rfl (hb hby at_447) rfl ((if0 _ _).trans (feq (own_no0 (own_sl3 xe w141 (4 : Int32) hls164_1 hw136 hw140 hw139 (own_at3 hw141) (by decide)))).1)) ?_
    show own_Go p e below _ (T171.setTop (mkF m 450 #[.val (.int xa), .val (.int xb), .val (.int xc), .val (.int xd), .val (.int xe), .val (.int xf), .val (.int (3 : Int32)), .val (.int w124), .val (.int w125), .val (.ref b126), .val (.int w136), .val (.int w140), .val (.int w139), .val (.int w141), .val (.ref b142), .val (.int (w141 + (3 : Int32))), .val (.int (1 : Int32))] []))
    refine own_by (fun _ => XS.iconst Y171.here hx rfl (hb hby at_450)) ?_
    show own_Go p e below _ (T171.setTop (mkF m 451 #[.val (.int xa), .val (.int xb), .val (.int xc), .val (.int xd), .val (.int xe), .val (.int xf), .val (.int (3 : Int32)), .val (.int w124), .val (.int w125), .val (.ref b126), .val (.int w136), .val (.int w140), .val (.int w139), .val (.int w141), .val (.ref b142), .val (.int (w141 + (3 : Int32))), .val (.int (1 : Int32))] [(.int (1 : Int32))]))
    refine own_by (fun _ => XS.goto Y171.here hx rfl (pc0 := 451) (pc' := 455) rfl (hb hby at_451) (by decide) (by decide)) ?_
    show own_Go p e below _ (T171.setTop (mkF m 455 #[.val (.int xa), .val (.int xb), .val (.int xc), .val (.int xd), .val (.int xe), .val (.int xf), .val (.int (3 : Int32)), .val (.int w124), .val (.int w125), .val (.ref b126), .val (.int w136), .val (.int w140), .val (.int w139), .val (.int w141), .val (.ref b142), .val (.int (w141 + (3 : Int32))), .val (.int (1 : Int32))] [(.int (1 : Int32))]))
    refine own_by (fun _ => XS.istore Y171.here hx rfl (hb hby at_455) rfl (l' := #[.val (.int xa), .val (.int xb), .val (.int xc), .val (.int xd), .val (.int xe), .val (.int xf), .val (.int (3 : Int32)), .val (.int w124), .val (.int w125), .val (.ref b126), .val (.int w136), .val (.int w140), .val (.int w139), .val (.int w141), .val (.ref b142), .val (.int (w141 + (3 : Int32))), .val (.int (1 : Int32))]) rfl) ?_
    show own_Go p e below _ (T171.setTop (mkF m 457 #[.val (.int xa), .val (.int xb), .val (.int xc), .val (.int xd), .val (.int xe), .val (.int xf), .val (.int (3 : Int32)), .val (.int w124), .val (.int w125), .val (.ref b126), .val (.int w136), .val (.int w140), .val (.int w139), .val (.int w141), .val (.ref b142), .val (.int (w141 + (3 : Int32))), .val (.int (1 : Int32))] []))
    refine own_by (fun _ => XS.iload Y171.here hx rfl (hb hby at_457) rfl) ?_
    show own_Go p e below _ (T171.setTop (mkF m 459 #[.val (.int xa), .val (.int xb), .val (.int xc), .val (.int xd), .val (.int xe), .val (.int xf), .val (.int (3 : Int32)), .val (.int w124), .val (.int w125), .val (.ref b126), .val (.int w136), .val (.int w140), .val (.int w139), .val (.int w141), .val (.ref b142), .val (.int (w141 + (3 : Int32))), .val (.int (1 : Int32))] [(.int (1 : Int32))]))
    refine own_by (fun _ => XS.ifNo Y171.here hx rfl (hb hby at_459) rfl ((if0 _ _).trans (feq (by decide : ¬ ((1 : Int32) = (0 : Int32)))).1)) ?_
    show own_Go p e below _ (T171.setTop (mkF m 462 #[.val (.int xa), .val (.int xb), .val (.int xc), .val (.int xd), .val (.int xe), .val (.int xf), .val (.int (3 : Int32)), .val (.int w124), .val (.int w125), .val (.ref b126), .val (.int w136), .val (.int w140), .val (.int w139), .val (.int w141), .val (.ref b142), .val (.int (w141 + (3 : Int32))), .val (.int (1 : Int32))] []))
    refine own_by (fun _ => XS.aload Y171.here hx rfl (hb hby at_462) rfl rfl) ?_
    show own_Go p e below _ (T171.setTop (mkF m 464 #[.val (.int xa), .val (.int xb), .val (.int xc), .val (.int xd), .val (.int xe), .val (.int xf), .val (.int (3 : Int32)), .val (.int w124), .val (.int w125), .val (.ref b126), .val (.int w136), .val (.int w140), .val (.int w139), .val (.int w141), .val (.ref b142), .val (.int (w141 + (3 : Int32))), .val (.int (1 : Int32))] [(.ref b142)]))
    refine own_by (fun _ => XS.iconst Y171.here hx rfl (hb hby at_464)) ?_
    show own_Go p e below _ (T171.setTop (mkF m 465 #[.val (.int xa), .val (.int xb), .val (.int xc), .val (.int xd), .val (.int xe), .val (.int xf), .val (.int (3 : Int32)), .val (.int w124), .val (.int w125), .val (.ref b126), .val (.int w136), .val (.int w140), .val (.int w139), .val (.int w141), .val (.ref b142), .val (.int (w141 + (3 : Int32))), .val (.int (1 : Int32))] [(.int (5 : Int32)), (.ref b142)]))
    refine own_by (fun _ => XS.iload Y171.here hx rfl (hb hby at_465) rfl) ?_
    show own_Go p e below _ (T171.setTop (mkF m 467 #[.val (.int xa), .val (.int xb), .val (.int xc), .val (.int xd), .val (.int xe), .val (.int xf), .val (.int (3 : Int32)), .val (.int w124), .val (.int w125), .val (.ref b126), .val (.int w136), .val (.int w140), .val (.int w139), .val (.int w141), .val (.ref b142), .val (.int (w141 + (3 : Int32))), .val (.int (1 : Int32))] [(.int w141), (.int (5 : Int32)), (.ref b142)]))
    refine own_by (fun _ => XS.iload Y171.here hx rfl (hb hby at_467) rfl) ?_
    show own_Go p e below _ (T171.setTop (mkF m 469 #[.val (.int xa), .val (.int xb), .val (.int xc), .val (.int xd), .val (.int xe), .val (.int xf), .val (.int (3 : Int32)), .val (.int w124), .val (.int w125), .val (.ref b126), .val (.int w136), .val (.int w140), .val (.int w139), .val (.int w141), .val (.ref b142), .val (.int (w141 + (3 : Int32))), .val (.int (1 : Int32))] [(.int (3 : Int32)), (.int w141), (.int (5 : Int32)), (.ref b142)]))
    refine own_by (fun _ => XS.iload Y171.here hx rfl (hb hby at_469) rfl) ?_
    show own_Go p e below _ (T171.setTop (mkF m 471 #[.val (.int xa), .val (.int xb), .val (.int xc), .val (.int xd), .val (.int xe), .val (.int xf), .val (.int (3 : Int32)), .val (.int w124), .val (.int w125), .val (.ref b126), .val (.int w136), .val (.int w140), .val (.int w139), .val (.int w141), .val (.ref b142), .val (.int (w141 + (3 : Int32))), .val (.int (1 : Int32))] [(.int w136), (.int (3 : Int32)), (.int w141), (.int (5 : Int32)), (.ref b142)]))
    refine own_by (fun _ => XS.iload Y171.here hx rfl (hb hby at_471) rfl) ?_
    show own_Go p e below _ (T171.setTop (mkF m 473 #[.val (.int xa), .val (.int xb), .val (.int xc), .val (.int xd), .val (.int xe), .val (.int xf), .val (.int (3 : Int32)), .val (.int w124), .val (.int w125), .val (.ref b126), .val (.int w136), .val (.int w140), .val (.int w139), .val (.int w141), .val (.ref b142), .val (.int (w141 + (3 : Int32))), .val (.int (1 : Int32))] [(.int w140), (.int w136), (.int (3 : Int32)), (.int w141), (.int (5 : Int32)), (.ref b142)]))
    refine own_by (fun _ => XS.iload Y171.here hx rfl (hb hby at_473) rfl) ?_
    show own_Go p e below _ (T171.setTop (mkF m 475 #[.val (.int xa), .val (.int xb), .val (.int xc), .val (.int xd), .val (.int xe), .val (.int xf), .val (.int (3 : Int32)), .val (.int w124), .val (.int w125), .val (.ref b126), .val (.int w136), .val (.int w140), .val (.int w139), .val (.int w141), .val (.ref b142), .val (.int (w141 + (3 : Int32))), .val (.int (1 : Int32))] [(.int w139), (.int w140), (.int w136), (.int (3 : Int32)), (.int w141), (.int (5 : Int32)), (.ref b142)]))
    refine own_by (fun _ => XS.iload Y171.here hx rfl (hb hby at_475) rfl) ?_
    show own_Go p e below _ (T171.setTop (mkF m 477 #[.val (.int xa), .val (.int xb), .val (.int xc), .val (.int xd), .val (.int xe), .val (.int xf), .val (.int (3 : Int32)), .val (.int w124), .val (.int w125), .val (.ref b126), .val (.int w136), .val (.int w140), .val (.int w139), .val (.int w141), .val (.ref b142), .val (.int (w141 + (3 : Int32))), .val (.int (1 : Int32))] [(.int xe), (.int w139), (.int w140), (.int w136), (.int (3 : Int32)), (.int w141), (.int (5 : Int32)), (.ref b142)]))
    obtain ⟨_, _, ⟨T172, L172, k172, n172⟩, -, X172, ⟨Lc172, hQ172, l172, y172, z172'⟩, st172⟩ := Jvm.LawKit.callS Y171 hx (y := (⟨"com/example/bucketsplit/bucketsplit/core/PageTakeAllPinLaw", "slot", "([IIIIIIII)Z"⟩ : MethodName)) hown (mvT hZ (hw _ (List.mem_of_getElem? (i := 37) rfl))) (mvT hZ (hw _ (List.mem_of_getElem? (i := 38) rfl))) (mvT hZ (hw _ (List.mem_of_getElem? (i := 39) rfl))) (mvT hZ (hw _ (List.mem_of_getElem? (i := 40) rfl))) (by decide) (backOf (W := 0) (own_rm8 l Z a0 hw [] b142 (5 : Int32) w141 (3 : Int32) w136 w140 w139 xe k142 ls164_1 T164.heap n0 z164 fc164_1 (by decide : ¬ ((5 : Int32) < (0 : Int32))) (by decide : (5 : Int32) < (8 : Int32))) hZ (hw _ (List.mem_of_getElem? (i := 40) rfl)) (hw _ (List.mem_of_getElem? (i := 39) rfl)) (by decide) (by decide)) (g := (mkF m 477 #[.val (.int xa), .val (.int xb), .val (.int xc), .val (.int xd), .val (.int xe), .val (.int xf), .val (.int (3 : Int32)), .val (.int w124), .val (.int w125), .val (.ref b126), .val (.int w136), .val (.int w140), .val (.int w139), .val (.int w141), .val (.ref b142), .val (.int (w141 + (3 : Int32))), .val (.int (1 : Int32))] [(.int xe), (.int w139), (.int w140), (.int w136), (.int (3 : Int32)), (.int w141), (.int (5 : Int32)), (.ref b142)])) rfl (by rw [hml]; rfl) (argsL := [(.ref b142), (.int (5 : Int32)), (.int w141), (.int (3 : Int32)), (.int w136), (.int w140), (.int w139), (.int xe)]) (rest := []) (lenOf own_pd3 rfl) rfl (by show 2 * 0 + _ ≤ _; exact Nat.le_of_eq rfl) (hb hby at_477) (fun _ _ => ⟨rfl, e171, (by decide : 3 + 0 ≤ _), (by decide : 14 + 0 ≤ _)⟩)
    dsimp only [Pt.U, Pt.locs, Pt.cells, Pt.slots] at X172 l172 y172 z172' st172 hQ172
    subst l172 y172 z172'
    obtain ⟨rfl, N172q, e172⟩ := hQ172
    have N172 := Fr.app M171 N172q
    refine own_by st172 ?_
    clear st172 Y171
    obtain ⟨lq172, Y172, M172⟩ : ∃ lq, Stand p l e room_1 s m #[(.int xa), (.int xb), (.int xc), (.int xd), (.int xe), (.int xf)] below meth c T172 lq 3 14 ∧ Fr n0 lq := ⟨_, X172, N172⟩
    clear X172 N172
    show own_Go p e below _ (T172.setTop (mkF m 480 #[.val (.int xa), .val (.int xb), .val (.int xc), .val (.int xd), .val (.int xe), .val (.int xf), .val (.int (3 : Int32)), .val (.int w124), .val (.int w125), .val (.ref b126), .val (.int w136), .val (.int w140), .val (.int w139), .val (.int w141), .val (.ref b142), .val (.int (w141 + (3 : Int32))), .val (.int (1 : Int32))] [(.int (own_slot (5 : Int32) w141 (3 : Int32) w136 w140 w139 xe ls164_1))]))
    refine own_by (fun _ => XS.ifNo Y172.here hx rfl (hb hby at_480) rfl ((if0 _ _).trans (feq (own_no0 (own_sl3 xe w141 (5 : Int32) hls164_1 hw136 hw140 hw139 (own_at3 hw141) (by decide)))).1)) ?_
    show own_Go p e below _ (T172.setTop (mkF m 483 #[.val (.int xa), .val (.int xb), .val (.int xc), .val (.int xd), .val (.int xe), .val (.int xf), .val (.int (3 : Int32)), .val (.int w124), .val (.int w125), .val (.ref b126), .val (.int w136), .val (.int w140), .val (.int w139), .val (.int w141), .val (.ref b142), .val (.int (w141 + (3 : Int32))), .val (.int (1 : Int32))] []))
    refine own_by (fun _ => XS.iconst Y172.here hx rfl (hb hby at_483)) ?_
    show own_Go p e below _ (T172.setTop (mkF m 484 #[.val (.int xa), .val (.int xb), .val (.int xc), .val (.int xd), .val (.int xe), .val (.int xf), .val (.int (3 : Int32)), .val (.int w124), .val (.int w125), .val (.ref b126), .val (.int w136), .val (.int w140), .val (.int w139), .val (.int w141), .val (.ref b142), .val (.int (w141 + (3 : Int32))), .val (.int (1 : Int32))] [(.int (1 : Int32))]))
    refine own_by (fun _ => XS.goto Y172.here hx rfl (pc0 := 484) (pc' := 488) rfl (hb hby at_484) (by decide) (by decide)) ?_
    show own_Go p e below _ (T172.setTop (mkF m 488 #[.val (.int xa), .val (.int xb), .val (.int xc), .val (.int xd), .val (.int xe), .val (.int xf), .val (.int (3 : Int32)), .val (.int w124), .val (.int w125), .val (.ref b126), .val (.int w136), .val (.int w140), .val (.int w139), .val (.int w141), .val (.ref b142), .val (.int (w141 + (3 : Int32))), .val (.int (1 : Int32))] [(.int (1 : Int32))]))
    refine own_by (fun _ => XS.istore Y172.here hx rfl (hb hby at_488) rfl (l' := #[.val (.int xa), .val (.int xb), .val (.int xc), .val (.int xd), .val (.int xe), .val (.int xf), .val (.int (3 : Int32)), .val (.int w124), .val (.int w125), .val (.ref b126), .val (.int w136), .val (.int w140), .val (.int w139), .val (.int w141), .val (.ref b142), .val (.int (w141 + (3 : Int32))), .val (.int (1 : Int32))]) rfl) ?_
    show own_Go p e below _ (T172.setTop (mkF m 490 #[.val (.int xa), .val (.int xb), .val (.int xc), .val (.int xd), .val (.int xe), .val (.int xf), .val (.int (3 : Int32)), .val (.int w124), .val (.int w125), .val (.ref b126), .val (.int w136), .val (.int w140), .val (.int w139), .val (.int w141), .val (.ref b142), .val (.int (w141 + (3 : Int32))), .val (.int (1 : Int32))] []))
    refine own_by (fun _ => XS.iload Y172.here hx rfl (hb hby at_490) rfl) ?_
    show own_Go p e below _ (T172.setTop (mkF m 492 #[.val (.int xa), .val (.int xb), .val (.int xc), .val (.int xd), .val (.int xe), .val (.int xf), .val (.int (3 : Int32)), .val (.int w124), .val (.int w125), .val (.ref b126), .val (.int w136), .val (.int w140), .val (.int w139), .val (.int w141), .val (.ref b142), .val (.int (w141 + (3 : Int32))), .val (.int (1 : Int32))] [(.int (1 : Int32))]))
    refine own_by (fun _ => XS.ifNo Y172.here hx rfl (hb hby at_492) rfl ((if0 _ _).trans (feq (by decide : ¬ ((1 : Int32) = (0 : Int32)))).1)) ?_
    show own_Go p e below _ (T172.setTop (mkF m 495 #[.val (.int xa), .val (.int xb), .val (.int xc), .val (.int xd), .val (.int xe), .val (.int xf), .val (.int (3 : Int32)), .val (.int w124), .val (.int w125), .val (.ref b126), .val (.int w136), .val (.int w140), .val (.int w139), .val (.int w141), .val (.ref b142), .val (.int (w141 + (3 : Int32))), .val (.int (1 : Int32))] []))
    refine own_by (fun _ => XS.aload Y172.here hx rfl (hb hby at_495) rfl rfl) ?_
    show own_Go p e below _ (T172.setTop (mkF m 497 #[.val (.int xa), .val (.int xb), .val (.int xc), .val (.int xd), .val (.int xe), .val (.int xf), .val (.int (3 : Int32)), .val (.int w124), .val (.int w125), .val (.ref b126), .val (.int w136), .val (.int w140), .val (.int w139), .val (.int w141), .val (.ref b142), .val (.int (w141 + (3 : Int32))), .val (.int (1 : Int32))] [(.ref b142)]))
    refine own_by (fun _ => XS.bipush Y172.here hx rfl (hb hby at_497)) ?_
    show own_Go p e below _ (T172.setTop (mkF m 499 #[.val (.int xa), .val (.int xb), .val (.int xc), .val (.int xd), .val (.int xe), .val (.int xf), .val (.int (3 : Int32)), .val (.int w124), .val (.int w125), .val (.ref b126), .val (.int w136), .val (.int w140), .val (.int w139), .val (.int w141), .val (.ref b142), .val (.int (w141 + (3 : Int32))), .val (.int (1 : Int32))] [(.int (6 : Int32)), (.ref b142)]))
    refine own_by (fun _ => XS.iload Y172.here hx rfl (hb hby at_499) rfl) ?_
    show own_Go p e below _ (T172.setTop (mkF m 501 #[.val (.int xa), .val (.int xb), .val (.int xc), .val (.int xd), .val (.int xe), .val (.int xf), .val (.int (3 : Int32)), .val (.int w124), .val (.int w125), .val (.ref b126), .val (.int w136), .val (.int w140), .val (.int w139), .val (.int w141), .val (.ref b142), .val (.int (w141 + (3 : Int32))), .val (.int (1 : Int32))] [(.int w141), (.int (6 : Int32)), (.ref b142)]))
    refine own_by (fun _ => XS.iload Y172.here hx rfl (hb hby at_501) rfl) ?_
    show own_Go p e below _ (T172.setTop (mkF m 503 #[.val (.int xa), .val (.int xb), .val (.int xc), .val (.int xd), .val (.int xe), .val (.int xf), .val (.int (3 : Int32)), .val (.int w124), .val (.int w125), .val (.ref b126), .val (.int w136), .val (.int w140), .val (.int w139), .val (.int w141), .val (.ref b142), .val (.int (w141 + (3 : Int32))), .val (.int (1 : Int32))] [(.int (3 : Int32)), (.int w141), (.int (6 : Int32)), (.ref b142)]))
    refine own_by (fun _ => XS.iload Y172.here hx rfl (hb hby at_503) rfl) ?_
    show own_Go p e below _ (T172.setTop (mkF m 505 #[.val (.int xa), .val (.int xb), .val (.int xc), .val (.int xd), .val (.int xe), .val (.int xf), .val (.int (3 : Int32)), .val (.int w124), .val (.int w125), .val (.ref b126), .val (.int w136), .val (.int w140), .val (.int w139), .val (.int w141), .val (.ref b142), .val (.int (w141 + (3 : Int32))), .val (.int (1 : Int32))] [(.int w136), (.int (3 : Int32)), (.int w141), (.int (6 : Int32)), (.ref b142)]))
    refine own_by (fun _ => XS.iload Y172.here hx rfl (hb hby at_505) rfl) ?_
    show own_Go p e below _ (T172.setTop (mkF m 507 #[.val (.int xa), .val (.int xb), .val (.int xc), .val (.int xd), .val (.int xe), .val (.int xf), .val (.int (3 : Int32)), .val (.int w124), .val (.int w125), .val (.ref b126), .val (.int w136), .val (.int w140), .val (.int w139), .val (.int w141), .val (.ref b142), .val (.int (w141 + (3 : Int32))), .val (.int (1 : Int32))] [(.int w140), (.int w136), (.int (3 : Int32)), (.int w141), (.int (6 : Int32)), (.ref b142)]))
    refine own_by (fun _ => XS.iload Y172.here hx rfl (hb hby at_507) rfl) ?_
    show own_Go p e below _ (T172.setTop (mkF m 509 #[.val (.int xa), .val (.int xb), .val (.int xc), .val (.int xd), .val (.int xe), .val (.int xf), .val (.int (3 : Int32)), .val (.int w124), .val (.int w125), .val (.ref b126), .val (.int w136), .val (.int w140), .val (.int w139), .val (.int w141), .val (.ref b142), .val (.int (w141 + (3 : Int32))), .val (.int (1 : Int32))] [(.int w139), (.int w140), (.int w136), (.int (3 : Int32)), (.int w141), (.int (6 : Int32)), (.ref b142)]))
    refine own_by (fun _ => XS.iload Y172.here hx rfl (hb hby at_509) rfl) ?_
    show own_Go p e below _ (T172.setTop (mkF m 511 #[.val (.int xa), .val (.int xb), .val (.int xc), .val (.int xd), .val (.int xe), .val (.int xf), .val (.int (3 : Int32)), .val (.int w124), .val (.int w125), .val (.ref b126), .val (.int w136), .val (.int w140), .val (.int w139), .val (.int w141), .val (.ref b142), .val (.int (w141 + (3 : Int32))), .val (.int (1 : Int32))] [(.int xe), (.int w139), (.int w140), (.int w136), (.int (3 : Int32)), (.int w141), (.int (6 : Int32)), (.ref b142)]))
    obtain ⟨_, _, ⟨T173, L173, k173, n173⟩, -, X173, ⟨Lc173, hQ173, l173, y173, z173'⟩, st173⟩ := Jvm.LawKit.callS Y172 hx (y := (⟨"com/example/bucketsplit/bucketsplit/core/PageTakeAllPinLaw", "slot", "([IIIIIIII)Z"⟩ : MethodName)) hown (mvT hZ (hw _ (List.mem_of_getElem? (i := 37) rfl))) (mvT hZ (hw _ (List.mem_of_getElem? (i := 38) rfl))) (mvT hZ (hw _ (List.mem_of_getElem? (i := 39) rfl))) (mvT hZ (hw _ (List.mem_of_getElem? (i := 40) rfl))) (by decide) (backOf (W := 0) (own_rm8 l Z a0 hw [] b142 (6 : Int32) w141 (3 : Int32) w136 w140 w139 xe k142 ls164_1 T164.heap n0 z164 fc164_1 (by decide : ¬ ((6 : Int32) < (0 : Int32))) (by decide : (6 : Int32) < (8 : Int32))) hZ (hw _ (List.mem_of_getElem? (i := 40) rfl)) (hw _ (List.mem_of_getElem? (i := 39) rfl)) (by decide) (by decide)) (g := (mkF m 511 #[.val (.int xa), .val (.int xb), .val (.int xc), .val (.int xd), .val (.int xe), .val (.int xf), .val (.int (3 : Int32)), .val (.int w124), .val (.int w125), .val (.ref b126), .val (.int w136), .val (.int w140), .val (.int w139), .val (.int w141), .val (.ref b142), .val (.int (w141 + (3 : Int32))), .val (.int (1 : Int32))] [(.int xe), (.int w139), (.int w140), (.int w136), (.int (3 : Int32)), (.int w141), (.int (6 : Int32)), (.ref b142)])) rfl (by rw [hml]; rfl) (argsL := [(.ref b142), (.int (6 : Int32)), (.int w141), (.int (3 : Int32)), (.int w136), (.int w140), (.int w139), (.int xe)]) (rest := []) (lenOf own_pd3 rfl) rfl (by show 2 * 0 + _ ≤ _; exact Nat.le_of_eq rfl) (hb hby at_511) (fun _ _ => ⟨rfl, e172, (by decide : 3 + 0 ≤ _), (by decide : 14 + 0 ≤ _)⟩)
    dsimp only [Pt.U, Pt.locs, Pt.cells, Pt.slots] at X173 l173 y173 z173' st173 hQ173
    subst l173 y173 z173'
    obtain ⟨rfl, N173q, e173⟩ := hQ173
    have N173 := Fr.app M172 N173q
    refine own_by st173 ?_
    clear st173 Y172
    obtain ⟨lq173, Y173, M173⟩ : ∃ lq, Stand p l e room_1 s m #[(.int xa), (.int xb), (.int xc), (.int xd), (.int xe), (.int xf)] below meth c T173 lq 3 14 ∧ Fr n0 lq := ⟨_, X173, N173⟩
    clear X173 N173
    show own_Go p e below _ (T173.setTop (mkF m 514 #[.val (.int xa), .val (.int xb), .val (.int xc), .val (.int xd), .val (.int xe), .val (.int xf), .val (.int (3 : Int32)), .val (.int w124), .val (.int w125), .val (.ref b126), .val (.int w136), .val (.int w140), .val (.int w139), .val (.int w141), .val (.ref b142), .val (.int (w141 + (3 : Int32))), .val (.int (1 : Int32))] [(.int (own_slot (6 : Int32) w141 (3 : Int32) w136 w140 w139 xe ls164_1))]))
    refine own_by (fun _ => XS.ifNo Y173.here hx rfl (hb hby at_514) rfl ((if0 _ _).trans (feq (own_no0 (own_sl3 xe w141 (6 : Int32) hls164_1 hw136 hw140 hw139 (own_at3 hw141) (by decide)))).1)) ?_
    show own_Go p e below _ (T173.setTop (mkF m 517 #[.val (.int xa), .val (.int xb), .val (.int xc), .val (.int xd), .val (.int xe), .val (.int xf), .val (.int (3 : Int32)), .val (.int w124), .val (.int w125), .val (.ref b126), .val (.int w136), .val (.int w140), .val (.int w139), .val (.int w141), .val (.ref b142), .val (.int (w141 + (3 : Int32))), .val (.int (1 : Int32))] []))
    refine own_by (fun _ => XS.iconst Y173.here hx rfl (hb hby at_517)) ?_
    show own_Go p e below _ (T173.setTop (mkF m 518 #[.val (.int xa), .val (.int xb), .val (.int xc), .val (.int xd), .val (.int xe), .val (.int xf), .val (.int (3 : Int32)), .val (.int w124), .val (.int w125), .val (.ref b126), .val (.int w136), .val (.int w140), .val (.int w139), .val (.int w141), .val (.ref b142), .val (.int (w141 + (3 : Int32))), .val (.int (1 : Int32))] [(.int (1 : Int32))]))
    refine own_by (fun _ => XS.goto Y173.here hx rfl (pc0 := 518) (pc' := 522) rfl (hb hby at_518) (by decide) (by decide)) ?_
    show own_Go p e below _ (T173.setTop (mkF m 522 #[.val (.int xa), .val (.int xb), .val (.int xc), .val (.int xd), .val (.int xe), .val (.int xf), .val (.int (3 : Int32)), .val (.int w124), .val (.int w125), .val (.ref b126), .val (.int w136), .val (.int w140), .val (.int w139), .val (.int w141), .val (.ref b142), .val (.int (w141 + (3 : Int32))), .val (.int (1 : Int32))] [(.int (1 : Int32))]))
    refine own_by (fun _ => XS.istore Y173.here hx rfl (hb hby at_522) rfl (l' := #[.val (.int xa), .val (.int xb), .val (.int xc), .val (.int xd), .val (.int xe), .val (.int xf), .val (.int (3 : Int32)), .val (.int w124), .val (.int w125), .val (.ref b126), .val (.int w136), .val (.int w140), .val (.int w139), .val (.int w141), .val (.ref b142), .val (.int (w141 + (3 : Int32))), .val (.int (1 : Int32))]) rfl) ?_
    show own_Go p e below _ (T173.setTop (mkF m 524 #[.val (.int xa), .val (.int xb), .val (.int xc), .val (.int xd), .val (.int xe), .val (.int xf), .val (.int (3 : Int32)), .val (.int w124), .val (.int w125), .val (.ref b126), .val (.int w136), .val (.int w140), .val (.int w139), .val (.int w141), .val (.ref b142), .val (.int (w141 + (3 : Int32))), .val (.int (1 : Int32))] []))
    refine own_by (fun _ => XS.iload Y173.here hx rfl (hb hby at_524) rfl) ?_
    show own_Go p e below _ (T173.setTop (mkF m 526 #[.val (.int xa), .val (.int xb), .val (.int xc), .val (.int xd), .val (.int xe), .val (.int xf), .val (.int (3 : Int32)), .val (.int w124), .val (.int w125), .val (.ref b126), .val (.int w136), .val (.int w140), .val (.int w139), .val (.int w141), .val (.ref b142), .val (.int (w141 + (3 : Int32))), .val (.int (1 : Int32))] [(.int (1 : Int32))]))
    refine own_by (fun _ => XS.ifNo Y173.here hx rfl (hb hby at_526) rfl ((if0 _ _).trans (feq (by decide : ¬ ((1 : Int32) = (0 : Int32)))).1)) ?_
    show own_Go p e below _ (T173.setTop (mkF m 529 #[.val (.int xa), .val (.int xb), .val (.int xc), .val (.int xd), .val (.int xe), .val (.int xf), .val (.int (3 : Int32)), .val (.int w124), .val (.int w125), .val (.ref b126), .val (.int w136), .val (.int w140), .val (.int w139), .val (.int w141), .val (.ref b142), .val (.int (w141 + (3 : Int32))), .val (.int (1 : Int32))] []))
    refine own_by (fun _ => XS.aload Y173.here hx rfl (hb hby at_529) rfl rfl) ?_
    show own_Go p e below _ (T173.setTop (mkF m 531 #[.val (.int xa), .val (.int xb), .val (.int xc), .val (.int xd), .val (.int xe), .val (.int xf), .val (.int (3 : Int32)), .val (.int w124), .val (.int w125), .val (.ref b126), .val (.int w136), .val (.int w140), .val (.int w139), .val (.int w141), .val (.ref b142), .val (.int (w141 + (3 : Int32))), .val (.int (1 : Int32))] [(.ref b142)]))
    refine own_by (fun _ => XS.bipush Y173.here hx rfl (hb hby at_531)) ?_
    show own_Go p e below _ (T173.setTop (mkF m 533 #[.val (.int xa), .val (.int xb), .val (.int xc), .val (.int xd), .val (.int xe), .val (.int xf), .val (.int (3 : Int32)), .val (.int w124), .val (.int w125), .val (.ref b126), .val (.int w136), .val (.int w140), .val (.int w139), .val (.int w141), .val (.ref b142), .val (.int (w141 + (3 : Int32))), .val (.int (1 : Int32))] [(.int (7 : Int32)), (.ref b142)]))
    refine own_by (fun _ => XS.iload Y173.here hx rfl (hb hby at_533) rfl) ?_
    show own_Go p e below _ (T173.setTop (mkF m 535 #[.val (.int xa), .val (.int xb), .val (.int xc), .val (.int xd), .val (.int xe), .val (.int xf), .val (.int (3 : Int32)), .val (.int w124), .val (.int w125), .val (.ref b126), .val (.int w136), .val (.int w140), .val (.int w139), .val (.int w141), .val (.ref b142), .val (.int (w141 + (3 : Int32))), .val (.int (1 : Int32))] [(.int w141), (.int (7 : Int32)), (.ref b142)]))
    refine own_by (fun _ => XS.iload Y173.here hx rfl (hb hby at_535) rfl) ?_
    show own_Go p e below _ (T173.setTop (mkF m 537 #[.val (.int xa), .val (.int xb), .val (.int xc), .val (.int xd), .val (.int xe), .val (.int xf), .val (.int (3 : Int32)), .val (.int w124), .val (.int w125), .val (.ref b126), .val (.int w136), .val (.int w140), .val (.int w139), .val (.int w141), .val (.ref b142), .val (.int (w141 + (3 : Int32))), .val (.int (1 : Int32))] [(.int (3 : Int32)), (.int w141), (.int (7 : Int32)), (.ref b142)]))
    refine own_by (fun _ => XS.iload Y173.here hx rfl (hb hby at_537) rfl) ?_
    show own_Go p e below _ (T173.setTop (mkF m 539 #[.val (.int xa), .val (.int xb), .val (.int xc), .val (.int xd), .val (.int xe), .val (.int xf), .val (.int (3 : Int32)), .val (.int w124), .val (.int w125), .val (.ref b126), .val (.int w136), .val (.int w140), .val (.int w139), .val (.int w141), .val (.ref b142), .val (.int (w141 + (3 : Int32))), .val (.int (1 : Int32))] [(.int w136), (.int (3 : Int32)), (.int w141), (.int (7 : Int32)), (.ref b142)]))
    refine own_by (fun _ => XS.iload Y173.here hx rfl (hb hby at_539) rfl) ?_
    show own_Go p e below _ (T173.setTop (mkF m 541 #[.val (.int xa), .val (.int xb), .val (.int xc), .val (.int xd), .val (.int xe), .val (.int xf), .val (.int (3 : Int32)), .val (.int w124), .val (.int w125), .val (.ref b126), .val (.int w136), .val (.int w140), .val (.int w139), .val (.int w141), .val (.ref b142), .val (.int (w141 + (3 : Int32))), .val (.int (1 : Int32))] [(.int w140), (.int w136), (.int (3 : Int32)), (.int w141), (.int (7 : Int32)), (.ref b142)]))
    refine own_by (fun _ => XS.iload Y173.here hx rfl (hb hby at_541) rfl) ?_
    show own_Go p e below _ (T173.setTop (mkF m 543 #[.val (.int xa), .val (.int xb), .val (.int xc), .val (.int xd), .val (.int xe), .val (.int xf), .val (.int (3 : Int32)), .val (.int w124), .val (.int w125), .val (.ref b126), .val (.int w136), .val (.int w140), .val (.int w139), .val (.int w141), .val (.ref b142), .val (.int (w141 + (3 : Int32))), .val (.int (1 : Int32))] [(.int w139), (.int w140), (.int w136), (.int (3 : Int32)), (.int w141), (.int (7 : Int32)), (.ref b142)]))
    refine own_by (fun _ => XS.iload Y173.here hx rfl (hb hby at_543) rfl) ?_
    show own_Go p e below _ (T173.setTop (mkF m 545 #[.val (.int xa), .val (.int xb), .val (.int xc), .val (.int xd), .val (.int xe), .val (.int xf), .val (.int (3 : Int32)), .val (.int w124), .val (.int w125), .val (.ref b126), .val (.int w136), .val (.int w140), .val (.int w139), .val (.int w141), .val (.ref b142), .val (.int (w141 + (3 : Int32))), .val (.int (1 : Int32))] [(.int xe), (.int w139), (.int w140), (.int w136), (.int (3 : Int32)), (.int w141), (.int (7 : Int32)), (.ref b142)]))
    obtain ⟨_, _, ⟨T174, L174, k174, n174⟩, -, X174, ⟨Lc174, hQ174, l174, y174, z174'⟩, st174⟩ := Jvm.LawKit.callS Y173 hx (y := (⟨"com/example/bucketsplit/bucketsplit/core/PageTakeAllPinLaw", "slot", "([IIIIIIII)Z"⟩ : MethodName)) hown (mvT hZ (hw _ (List.mem_of_getElem? (i := 37) rfl))) (mvT hZ (hw _ (List.mem_of_getElem? (i := 38) rfl))) (mvT hZ (hw _ (List.mem_of_getElem? (i := 39) rfl))) (mvT hZ (hw _ (List.mem_of_getElem? (i := 40) rfl))) (by decide) (backOf (W := 0) (own_rm8 l Z a0 hw [] b142 (7 : Int32) w141 (3 : Int32) w136 w140 w139 xe k142 ls164_1 T164.heap n0 z164 fc164_1 (by decide : ¬ ((7 : Int32) < (0 : Int32))) (by decide : (7 : Int32) < (8 : Int32))) hZ (hw _ (List.mem_of_getElem? (i := 40) rfl)) (hw _ (List.mem_of_getElem? (i := 39) rfl)) (by decide) (by decide)) (g := (mkF m 545 #[.val (.int xa), .val (.int xb), .val (.int xc), .val (.int xd), .val (.int xe), .val (.int xf), .val (.int (3 : Int32)), .val (.int w124), .val (.int w125), .val (.ref b126), .val (.int w136), .val (.int w140), .val (.int w139), .val (.int w141), .val (.ref b142), .val (.int (w141 + (3 : Int32))), .val (.int (1 : Int32))] [(.int xe), (.int w139), (.int w140), (.int w136), (.int (3 : Int32)), (.int w141), (.int (7 : Int32)), (.ref b142)])) rfl (by rw [hml]; rfl) (argsL := [(.ref b142), (.int (7 : Int32)), (.int w141), (.int (3 : Int32)), (.int w136), (.int w140), (.int w139), (.int xe)]) (rest := []) (lenOf own_pd3 rfl) rfl (by show 2 * 0 + _ ≤ _; exact Nat.le_of_eq rfl) (hb hby at_545) (fun _ _ => ⟨rfl, e173, (by decide : 3 + 0 ≤ _), (by decide : 14 + 0 ≤ _)⟩)
    dsimp only [Pt.U, Pt.locs, Pt.cells, Pt.slots] at X174 l174 y174 z174' st174 hQ174
    subst l174 y174 z174'
    obtain ⟨rfl, N174q, e174⟩ := hQ174
    have N174 := Fr.app M173 N174q
    refine own_by st174 ?_
    clear st174 Y173
    obtain ⟨lq174, Y174, M174⟩ : ∃ lq, Stand p l e room_1 s m #[(.int xa), (.int xb), (.int xc), (.int xd), (.int xe), (.int xf)] below meth c T174 lq 3 14 ∧ Fr n0 lq := ⟨_, X174, N174⟩
    clear X174 N174
    show own_Go p e below _ (T174.setTop (mkF m 548 #[.val (.int xa), .val (.int xb), .val (.int xc), .val (.int xd), .val (.int xe), .val (.int xf), .val (.int (3 : Int32)), .val (.int w124), .val (.int w125), .val (.ref b126), .val (.int w136), .val (.int w140), .val (.int w139), .val (.int w141), .val (.ref b142), .val (.int (w141 + (3 : Int32))), .val (.int (1 : Int32))] [(.int (own_slot (7 : Int32) w141 (3 : Int32) w136 w140 w139 xe ls164_1))]))
    refine own_by (fun _ => XS.ifNo Y174.here hx rfl (hb hby at_548) rfl ((if0 _ _).trans (feq (own_no0 (own_sl3 xe w141 (7 : Int32) hls164_1 hw136 hw140 hw139 (own_at3 hw141) (by decide)))).1)) ?_
    show own_Go p e below _ (T174.setTop (mkF m 551 #[.val (.int xa), .val (.int xb), .val (.int xc), .val (.int xd), .val (.int xe), .val (.int xf), .val (.int (3 : Int32)), .val (.int w124), .val (.int w125), .val (.ref b126), .val (.int w136), .val (.int w140), .val (.int w139), .val (.int w141), .val (.ref b142), .val (.int (w141 + (3 : Int32))), .val (.int (1 : Int32))] []))
    refine own_by (fun _ => XS.iconst Y174.here hx rfl (hb hby at_551)) ?_
    show own_Go p e below _ (T174.setTop (mkF m 552 #[.val (.int xa), .val (.int xb), .val (.int xc), .val (.int xd), .val (.int xe), .val (.int xf), .val (.int (3 : Int32)), .val (.int w124), .val (.int w125), .val (.ref b126), .val (.int w136), .val (.int w140), .val (.int w139), .val (.int w141), .val (.ref b142), .val (.int (w141 + (3 : Int32))), .val (.int (1 : Int32))] [(.int (1 : Int32))]))
    refine own_by (fun _ => XS.goto Y174.here hx rfl (pc0 := 552) (pc' := 556) rfl (hb hby at_552) (by decide) (by decide)) ?_
    show own_Go p e below _ (T174.setTop (mkF m 556 #[.val (.int xa), .val (.int xb), .val (.int xc), .val (.int xd), .val (.int xe), .val (.int xf), .val (.int (3 : Int32)), .val (.int w124), .val (.int w125), .val (.ref b126), .val (.int w136), .val (.int w140), .val (.int w139), .val (.int w141), .val (.ref b142), .val (.int (w141 + (3 : Int32))), .val (.int (1 : Int32))] [(.int (1 : Int32))]))
    refine own_by (fun _ => XS.istore Y174.here hx rfl (hb hby at_556) rfl (l' := #[.val (.int xa), .val (.int xb), .val (.int xc), .val (.int xd), .val (.int xe), .val (.int xf), .val (.int (3 : Int32)), .val (.int w124), .val (.int w125), .val (.ref b126), .val (.int w136), .val (.int w140), .val (.int w139), .val (.int w141), .val (.ref b142), .val (.int (w141 + (3 : Int32))), .val (.int (1 : Int32))]) rfl) ?_
    show own_Go p e below _ (T174.setTop (mkF m 558 #[.val (.int xa), .val (.int xb), .val (.int xc), .val (.int xd), .val (.int xe), .val (.int xf), .val (.int (3 : Int32)), .val (.int w124), .val (.int w125), .val (.ref b126), .val (.int w136), .val (.int w140), .val (.int w139), .val (.int w141), .val (.ref b142), .val (.int (w141 + (3 : Int32))), .val (.int (1 : Int32))] []))
    refine own_by (fun _ => XS.iload Y174.here hx rfl (hb hby at_558) rfl) ?_
    show own_Go p e below _ (T174.setTop (mkF m 560 #[.val (.int xa), .val (.int xb), .val (.int xc), .val (.int xd), .val (.int xe), .val (.int xf), .val (.int (3 : Int32)), .val (.int w124), .val (.int w125), .val (.ref b126), .val (.int w136), .val (.int w140), .val (.int w139), .val (.int w141), .val (.ref b142), .val (.int (w141 + (3 : Int32))), .val (.int (1 : Int32))] [(.int (1 : Int32))]))
    exact own_retZ Y174 hx hlk e174 (by decide) hret (hb hby at_560) (by decide) (by decide) ⟨rfl, M174⟩

theorem own_comes {Post : Tables → Env → Array Value → State → Outcome → State → Prop} (hpost : ∀ tb e args s v u, (limb_1_1.after args s (.returned v) u = true ∧ limb_1_2.after args s (.returned v) u = true ∧ True) → FrameEnd s (.returned v) u (Jvm.fieldLocs frame_1_writes args s ++ Jvm.arrayLocs frame_1_arrays args s ++ Jvm.staticLocs frame_1_statics s) 16 128 → Post tb e args s (.returned v) u) :
    ArmFor flags0 classFile x code maxLocals ret World_1 tables_1 room_1 Calls_1 rest_1 Pre_1 Post := by
  intro l hfl _ _ p e ha hc hk s m args below hf hA hF happ hP
  obtain ⟨hcalls, hrest, hpre⟩ := hP
  obtain ⟨-, -, -, hnamed, -, -, -, hat⟩ := (Spec.applies_iff hf).mp happ
  obtain ⟨hg, hn⟩ := and_e (Cond.before_iff.mp (show (Jvm.Cond.and given_1 narrow_1).before args s = true from hpre))
  obtain ⟨hg1, hg2⟩ := and_e hg
  obtain ⟨hg3, hg4⟩ := and_e hg2
  obtain ⟨hg5, hg6⟩ := and_e hg4
  obtain ⟨hg7, hg8⟩ := and_e hg6
  obtain ⟨hg9, hg10⟩ := and_e hg8
  obtain ⟨hg11, hg12⟩ := and_e hg10
  obtain ⟨w0, w1, w2, w3, w4, w5, rfl⟩ : ∃ w0 w1 w2 w3 w4 w5 : Value, args = #[w0, w1, w2, w3, w4, w5] := by
    have hs : args.size = 6 := by simpa [Cond.value, given_1] using hg1
    obtain ⟨L⟩ := args
    match L, hs with
    | [w0, w1, w2, w3, w4, w5], _ => exact ⟨w0, w1, w2, w3, w4, w5, rfl⟩
  have hw := fun d (hd : d ∈ tables_1) => atoms_spec (ws := Jvm.Cond.code x code maxLocals ret :: tables_1) hat d (List.mem_cons_of_mem _ hd)
  have hfit : Fit s := fun {y c} hc i hi => by
    obtain ⟨ha, rfl⟩ := Array.getElem?_eq_some_iff.mp hc
    have q := List.all_eq_true.mp ((Array.all_eq_true_iff_forall_mem.mp hF) _ (Array.getElem_mem ha)) i (List.mem_range.mpr hi)
    simpa [Array.getElem?_eq_getElem hi] using q
  obtain ⟨i0, ei0⟩ := is_v hg3
  obtain rfl : w0 = (.int i0) := Option.some.inj ei0
  obtain ⟨i1, ei1⟩ := is_v hg5
  obtain rfl : w1 = (.int i1) := Option.some.inj ei1
  obtain ⟨i2, ei2⟩ := is_v hg7
  obtain rfl : w2 = (.int i2) := Option.some.inj ei2
  obtain ⟨i3, ei3⟩ := is_v hg9
  obtain rfl : w3 = (.int i3) := Option.some.inj ei3
  obtain ⟨i4, ei4⟩ := is_v hg11
  obtain rfl : w4 = (.int i4) := Option.some.inj ei4
  obtain ⟨i5, ei5⟩ := is_v hg12
  obtain rfl : w5 = (.int i5) := Option.some.inj ei5
  obtain ⟨n, o, h1, h2, h3, _, L, rfl, ⟨rfl, N⟩, hq⟩ := own_rm0 l s _ hw tables_1 i0 i1 i2 i3 i4 i5 s.heap s.heap.size (Nat.le_refl _) p e ha hc hk s m _ below hf ((Spec.applies_iff_loose hf).mp happ).1 ⟨rfl, State.Warmed39.refl s, rfl⟩ trivial
  refine ⟨n, _, h1, h2, h3, hpost _ _ _ _ _ _ ⟨Cond.after_iff.mpr rfl, Cond.after_iff.mpr (eq_i res_at (Term.int_eval (1)) rfl), trivial⟩ ⟨hq.1, hq.2.1, (hq.2.2.sift fun y hy => Or.inr (N y hy)).mono (by decide) (by decide)⟩⟩
theorem main_1_1 : Claimed_1_1 := own_comes fun _ _ _ _ _ _ h hF => ⟨h.1, hF⟩
theorem main_1_2 : Claimed_1_2 := own_comes fun _ _ _ _ _ _ h hF => ⟨h.2.1, hF⟩
end Jvm.Pilot.@@N@@
namespace Jvm.Pilot.@@N@@
open Jvm Jvm.ClassFile Sem Op Lib Jvm.Free Jvm.Stand Jvm.Pilot.@@N@@.Jvm.D
/-! MADE BY PROGRAM (witnessworld.py) out of the Statement's table words and the real class files: 10 classes; the members and pool entries that the words name. The judged class is class 1, her method 1. -/
namespace start1
open Jvm.ClassFile
def u (s : String) : CpInfo := .utf8 (stringToUtf16 s)
/-- a pool by its gaps: so many unusable entries, then the entry; so many at the end -/
def gap : Nat → List CpInfo → List CpInfo
  | 0, r => r
  | n + 1, r => .unusable :: gap n r
def poolList (es : List (Nat × CpInfo)) (last : Nat) : List CpInfo := es.foldr (fun e r => gap e.1 (e.2 :: r)) (gap last [])
def pool (es : List (Nat × CpInfo)) (last : Nat) : Array CpInfo := ⟨poolList es last⟩
def fileOf (pool : Array CpInfo) (this : Nat) (attrs : Array Attribute := #[]) (ms : Array MethodInfo := #[]) (fl : Nat := 33) (sup : Nat := 0) (ifs : Array Nat := #[]) (fds : Array FieldInfo := #[]) : ClassFile where
  minorVersion := 0
  majorVersion := 65
  constantPool := pool
  accessFlags := fl
  thisClass := this
  superClass := sup
  interfaces := ifs
  fields := fds
  methods := ms
  attributes := attrs
def plain (name : String) (sup : Option ClassId) : Class where
  name := name
  kind := .ordinary
  loader := none
  accessFlags := 33
  super := sup
  interfaces := #[]
  cf := none
  fields := #[]
  methods := #[]
  instanceTypes := #[]
  staticTypes := #[]
  resolved := #[]
  callSites := []
  init := .initialized
  statics := none
  mirror := none

def pool0 : Array CpInfo := pool [(5, u "<init>"), (0, u "()V"), (1, .class_ 10), (1, u "java/lang/Object")] 113

def k0c0 : Code := { maxStack := 0, maxLocals := 1, code := object_method_1_code, exceptionTable := #[], attributes := #[] }
def k0m0 : Method := { name := "<init>", desc := "()V", sig := { parameters := [], returnType := none }, accessFlags := 1, code := some k0c0 }
/-- java/lang/Object -/
def k0 : Class := { plain "java/lang/Object" none with
  accessFlags := 33
  interfaces := #[]
  cf := some (fileOf pool0 8 #[] #[{ accessFlags := 1, nameIndex := 5, descriptorIndex := 6, attributes := #[] }] 33 0 #[] #[])
  fields := #[]
  methods := #[k0m0]
  instanceTypes := #[]
  staticTypes := #[]
  resolved := Array.replicate 124 none
  statics := none }

def pool1 : Array CpInfo := pool [(2, .class_ 4), (0, .nameAndType 5 6), (0, u "java/lang/Object"), (0, u "<init>"), (0, u "()V"), (0, .class_ 8), (0, u "com/example/bucketsplit/bucketsplit/core/Page"), (0, .methodref 7 3), (0, .methodref 7 11), (0, .nameAndType 12 13), (0, u "add"), (0, u "(I)V"), (0, .methodref 15 16), (0, .class_ 17), (0, .nameAndType 18 19), (0, u "java/lang/Math"), (0, u "min"), (0, u "(II)I"), (0, .methodref 15 21), (0, .nameAndType 22 19), (0, u "max"), (0, .integer 2147483647), (0, .methodref 7 25), (0, .nameAndType 26 27), (0, u "takeAll"), (0, u "([II)I"), (0, .methodref 7 29), (0, .nameAndType 30 31), (0, u "size"), (0, u "()I"), (0, .methodref 33 34), (0, .class_ 35), (0, .nameAndType 36 37), (0, u "com/example/bucketsplit/bucketsplit/core/PageTakeAllPinLaw"), (0, u "slot"), (0, u "([IIIIIIII)Z"), (2, u "law"), (0, u "(IIIIII)Z")] 5

def k1m0 : Method := { name := "<init>", desc := "()V", sig := { parameters := [], returnType := none }, accessFlags := 1, code := none }
def k1c1 : Code := { maxStack := 8, maxLocals := 17, code := code, exceptionTable := #[], attributes := #[] }
def k1m1 : Method := { name := "law", desc := "(IIIIII)Z", sig := { parameters := [.int, .int, .int, .int, .int, .int], returnType := some .boolean }, accessFlags := 9, code := some k1c1 }
def k1c2 : Code := { maxStack := 2, maxLocals := 10, code := method_3_code, exceptionTable := #[], attributes := #[] }
def k1m2 : Method := { name := "slot", desc := "([IIIIIIII)Z", sig := { parameters := [(.array .int), .int, .int, .int, .int, .int, .int, .int], returnType := some .boolean }, accessFlags := 10, code := some k1c2 }
/-- com/example/bucketsplit/bucketsplit/core/PageTakeAllPinLaw -/
def k1 : Class := { plain "com/example/bucketsplit/bucketsplit/core/PageTakeAllPinLaw" (some 0) with
  accessFlags := 49
  interfaces := #[]
  cf := some (fileOf pool1 33 #[] #[{ accessFlags := 1, nameIndex := 5, descriptorIndex := 6, attributes := #[] }, { accessFlags := 9, nameIndex := 40, descriptorIndex := 41, attributes := #[] }, { accessFlags := 10, nameIndex := 36, descriptorIndex := 37, attributes := #[] }] 49 2 #[] #[])
  fields := #[]
  methods := #[k1m0, k1m1, k1m2]
  instanceTypes := #[]
  staticTypes := #[]
  resolved := Array.replicate 47 none
  statics := none }

def pool2 : Array CpInfo := pool [(1, .methodref 2 3), (0, .class_ 4), (0, .nameAndType 5 6), (0, u "java/lang/Object"), (0, u "<init>"), (0, u "()V"), (0, .class_ 8), (0, u "com/example/bucketsplit/bucketsplit/core/Page"), (0, .fieldref 7 10), (0, .nameAndType 11 12), (0, u "mKeys"), (0, u "[I"), (0, .fieldref 7 14), (0, .nameAndType 15 16), (0, u "mSize"), (0, u "I"), (14, u "(I)V"), (10, u "add"), (32, u "size"), (0, u "()I"), (24, u "FIRST_LENGTH"), (16, u "takeAll"), (0, u "([II)I")] 10

def k2c0 : Code := { maxStack := 2, maxLocals := 1, code := prog_54_method_1_code, exceptionTable := #[], attributes := #[] }
def k2m0 : Method := { name := "<init>", desc := "()V", sig := { parameters := [], returnType := none }, accessFlags := 0, code := some k2c0 }
def k2c1 : Code := { maxStack := 5, maxLocals := 3, code := prog_54_method_3_code, exceptionTable := #[], attributes := #[] }
def k2m1 : Method := { name := "add", desc := "(I)V", sig := { parameters := [.int], returnType := none }, accessFlags := 0, code := some k2c1 }
def k2c2 : Code := { maxStack := 1, maxLocals := 1, code := prog_54_method_5_code, exceptionTable := #[], attributes := #[] }
def k2m2 : Method := { name := "size", desc := "()I", sig := { parameters := [], returnType := some .int }, accessFlags := 0, code := some k2c2 }
def k2c3 : Code := { maxStack := 4, maxLocals := 4, code := prog_54_method_9_code, exceptionTable := #[], attributes := #[] }
def k2m3 : Method := { name := "takeAll", desc := "([II)I", sig := { parameters := [(.array .int), .int], returnType := some .int }, accessFlags := 0, code := some k2c3 }
/-- com/example/bucketsplit/bucketsplit/core/Page -/
def k2 : Class := { plain "com/example/bucketsplit/bucketsplit/core/Page" (some 0) with
  accessFlags := 32
  interfaces := #[]
  cf := some (fileOf pool2 7 #[] #[{ accessFlags := 0, nameIndex := 5, descriptorIndex := 6, attributes := #[] }, { accessFlags := 0, nameIndex := 42, descriptorIndex := 31, attributes := #[] }, { accessFlags := 0, nameIndex := 75, descriptorIndex := 76, attributes := #[] }, { accessFlags := 0, nameIndex := 118, descriptorIndex := 119, attributes := #[] }] 32 2 #[] #[{ accessFlags := 26, nameIndex := 101, descriptorIndex := 16, attributes := #[] }, { accessFlags := 2, nameIndex := 11, descriptorIndex := 12, attributes := #[] }, { accessFlags := 2, nameIndex := 15, descriptorIndex := 16, attributes := #[] }])
  fields := #[{ name := "FIRST_LENGTH", type := .int, accessFlags := 26, slot := 0, constantValue := 0 }, { name := "mKeys", type := (.array .int), accessFlags := 2, slot := 0, constantValue := 0 }, { name := "mSize", type := .int, accessFlags := 2, slot := 1, constantValue := 0 }]
  methods := #[k2m0, k2m1, k2m2, k2m3]
  instanceTypes := #[(.array .int), .int]
  staticTypes := #[.int]
  resolved := Array.replicate 130 none
  statics := none }

def pool3 : Array CpInfo := pool [(1, .class_ 2), (0, u "java/lang/Math"), (1, .class_ 6), (1, u "java/lang/Object"), (0, u "<init>"), (0, u "()V"), (89, .class_ 100), (1, u "java/lang/Math$RandomNumberGeneratorHolder"), (71, u "negativeZeroFloatBits"), (0, u "J"), (2, u "negativeZeroDoubleBits"), (21, u "max"), (2, u "min"), (43, u "$assertionsDisabled"), (0, u "Z"), (88, u "(II)I"), (2, u "twoToTheDoubleScaleDown"), (0, u "D"), (4, u "twoToTheDoubleScaleUp"), (9, u "E"), (3, u "PI"), (2, u "TAU"), (2, u "DEGREES_TO_RADIANS"), (0, u "RADIANS_TO_DEGREES")] 94

def k3m0 : Method := { name := "<init>", desc := "()V", sig := { parameters := [], returnType := none }, accessFlags := 2, code := none }
def k3c1 : Code := { maxStack := 2, maxLocals := 2, code := jdk_29_method_65_code, exceptionTable := #[], attributes := #[] }
def k3m1 : Method := { name := "max", desc := "(II)I", sig := { parameters := [.int, .int], returnType := some .int }, accessFlags := 9, code := some k3c1 }
def k3c2 : Code := { maxStack := 2, maxLocals := 2, code := jdk_29_method_69_code, exceptionTable := #[], attributes := #[] }
def k3m2 : Method := { name := "min", desc := "(II)I", sig := { parameters := [.int, .int], returnType := some .int }, accessFlags := 9, code := some k3c2 }
/-- java/lang/Math -/
def k3 : Class := { plain "java/lang/Math" (some 0) with
  accessFlags := 49
  interfaces := #[]
  cf := some (fileOf pool3 1 #[.nestMembers #[98]] #[{ accessFlags := 2, nameIndex := 7, descriptorIndex := 8, attributes := #[] }, { accessFlags := 9, nameIndex := 198, descriptorIndex := 335, attributes := #[] }, { accessFlags := 9, nameIndex := 201, descriptorIndex := 335, attributes := #[] }] 49 4 #[] #[{ accessFlags := 25, nameIndex := 354, descriptorIndex := 339, attributes := #[] }, { accessFlags := 25, nameIndex := 358, descriptorIndex := 339, attributes := #[] }, { accessFlags := 25, nameIndex := 361, descriptorIndex := 339, attributes := #[] }, { accessFlags := 26, nameIndex := 364, descriptorIndex := 339, attributes := #[] }, { accessFlags := 26, nameIndex := 365, descriptorIndex := 339, attributes := #[] }, { accessFlags := 26, nameIndex := 172, descriptorIndex := 173, attributes := #[] }, { accessFlags := 26, nameIndex := 176, descriptorIndex := 173, attributes := #[] }, { accessFlags := 8, nameIndex := 344, descriptorIndex := 339, attributes := #[] }, { accessFlags := 8, nameIndex := 338, descriptorIndex := 339, attributes := #[] }, { accessFlags := 4120, nameIndex := 245, descriptorIndex := 246, attributes := #[] }])
  fields := #[{ name := "E", type := .double, accessFlags := 25, slot := 0, constantValue := 0 }, { name := "PI", type := .double, accessFlags := 25, slot := 1, constantValue := 0 }, { name := "TAU", type := .double, accessFlags := 25, slot := 2, constantValue := 0 }, { name := "DEGREES_TO_RADIANS", type := .double, accessFlags := 26, slot := 3, constantValue := 0 }, { name := "RADIANS_TO_DEGREES", type := .double, accessFlags := 26, slot := 4, constantValue := 0 }, { name := "negativeZeroFloatBits", type := .long, accessFlags := 26, slot := 5, constantValue := 0 }, { name := "negativeZeroDoubleBits", type := .long, accessFlags := 26, slot := 6, constantValue := 0 }, { name := "twoToTheDoubleScaleUp", type := .double, accessFlags := 8, slot := 7, constantValue := 0 }, { name := "twoToTheDoubleScaleDown", type := .double, accessFlags := 8, slot := 8, constantValue := 0 }, { name := "$assertionsDisabled", type := .boolean, accessFlags := 4120, slot := 9, constantValue := 0 }]
  methods := #[k3m0, k3m1, k3m2]
  instanceTypes := #[]
  staticTypes := #[.double, .double, .double, .double, .double, .long, .long, .double, .double, .boolean]
  resolved := Array.replicate 460 none
  statics := none }

def pool4 : Array CpInfo := pool [(1, u "java/lang/Cloneable"), (0, .class_ 1), (0, u "java/lang/Object"), (0, .class_ 3)] 3

/-- java/lang/Cloneable -/
def k4 : Class := { plain "java/lang/Cloneable" (some 0) with
  accessFlags := 1537
  interfaces := #[]
  cf := some (fileOf pool4 2 #[] #[] 1537 4 #[] #[])
  fields := #[]
  methods := #[]
  instanceTypes := #[]
  staticTypes := #[]
  resolved := Array.replicate 8 none
  statics := none }

def pool5 : Array CpInfo := pool [(1, u "java/io/Serializable"), (0, .class_ 1), (0, u "java/lang/Object"), (0, .class_ 3)] 3

/-- java/io/Serializable -/
def k5 : Class := { plain "java/io/Serializable" (some 0) with
  accessFlags := 1537
  interfaces := #[]
  cf := some (fileOf pool5 2 #[] #[] 1537 4 #[] #[])
  fields := #[]
  methods := #[]
  instanceTypes := #[]
  staticTypes := #[]
  resolved := Array.replicate 8 none
  statics := none }

/-- the primitive byte -/
def k6 : Class := { plain "byte" none with kind := .primitive 'B', accessFlags := 0x411 }
/-- [B -/
def k7 : Class := { plain "[B" (some 0) with kind := .array 6 .byte, interfaces := #[4, 5], accessFlags := 1041 }

/-- the primitive int -/
def k8 : Class := { plain "int" none with kind := .primitive 'I', accessFlags := 0x411 }
/-- [I -/
def k9 : Class := { plain "[I" (some 0) with kind := .array 8 .int, interfaces := #[4, 5], accessFlags := 1041 }

def heap : Heap := #[]
def classes : Array Class := #[k0, k1, k2, k3, k4, k5, k6, k7, k8, k9]
def interned : List (Array UInt16 × Addr) := []
def slotsUsed : Nat := 0
def theMethod : MethodId := ⟨1, 1⟩
def args0 : Array Value := #[.int 5, .int 3, .int 2, .int 7, .int 8, .int 2]
def aboutOver (below : List Frame) : State where
  vm := { classes := classes, interned := interned.toArray }
  heap := heap
  slotsUsed := slotsUsed
  threads := #[{ frames := .invoking theMethod args0 :: below }]
def below0 : List Frame := [.native { method := ⟨0, 0⟩, args := #[] }]
def about1 : State := aboutOver below0
def p0 : Program := .bare "" "" ""
def e0 : Env := launch0.env 0 0 0
theorem w_frames : about1.frames = Frame.invoking theMethod args0 :: below0 := rfl
set_option maxRecDepth 65536 in
theorem w_args : argsFit about1.vm theMethod args0 = true := by decide +kernel
set_option maxRecDepth 65536 in
theorem w_heap : heapFits about1 = true := by decide +kernel
set_option maxRecDepth 65536 in
theorem w_runnable : about1.curStatus? = some .runnable := by decide +kernel
set_option maxRecDepth 65536 in
theorem w_alone : about1.alone = true := by decide +kernel
set_option maxRecDepth 65536 in
theorem w_named : about1.methodNamed? x = some theMethod := by decide +kernel
set_option maxRecDepth 65536 in
theorem w_hears : about1.hears theMethod below0 = true := by decide +kernel
set_option maxRecDepth 65536 in
theorem w_ripe : about1.ripe theMethod args0 below0 = true := by decide +kernel
theorem w_running : about1.status = .running := rfl
set_option maxRecDepth 65536 in
theorem w_room : about1.hasRoom e0.platform room_1 = true :=
  launch0.hasRoom_least _ room_1 (by decide +kernel) (by decide +kernel) (by decide +kernel) (by decide +kernel) (by decide +kernel) (by decide +kernel)
theorem allAtoms_all (ts : List Jvm.Cond) (a : Array Jvm.Value) (st : Jvm.State) : (allAtoms ts).before a st = ts.all (fun c => c.before a st) := by
  induction ts with
  | nil => rfl
  | cons c t ih =>
    show (Jvm.Cond.and c (allAtoms t)).before a st = _
    rw [Jvm.Cond.before_and, ih, List.all_cons]
def words1 : List Jvm.Cond := Jvm.Cond.code x code maxLocals ret :: tables_1
/-- a 'code' word, met by the world's own term for the bytes: nothing is compared byte by byte -/
theorem code_word {y : MethodName} {bytes : ByteArray} {mx : Nat} {rt : Option FieldType} {a : Array Value} {s : State} {m : MethodId} {meth : Method} {c : Code} (h1 : s.methodNamed? y = some m) (h2 : s.vm.method? m = some meth) (h3 : meth.code = some c) (h4 : c.code = bytes)
    (h5 : (c.maxLocals == mx && c.exceptionTable.isEmpty && decide (c.maxStack ≤ mostOperands) && decide (meth.sig.returnType = rt) && !meth.locks && decide (parseMethodDescriptor y.desc = some meth.sig)) = true) : (Jvm.Cond.code y bytes mx rt).before a s = true := by
  simp only [Bool.and_eq_true, beq_iff_eq, Bool.not_eq_true', decide_eq_true_eq] at h5
  obtain ⟨⟨⟨⟨⟨g1, g2⟩, g3⟩, g4⟩, g5⟩, g6⟩ := h5
  simp [Cond.before, Cond.holds, Cond.value, h1, h2, h3, h4, g1, g2, g3, g4, g5, g6]
def isCode : Jvm.Cond → Bool
  | .code _ _ _ _ => true
  | _ => false
theorem all_split {L : List Jvm.Cond} {P : Jvm.Cond → Bool} (h1 : L.all (fun c => isCode c || P c) = true) (h2 : ∀ c ∈ L.filter isCode, P c = true) : L.all P = true := by
  refine List.all_eq_true.mpr fun c hc => ?_
  have h := List.all_eq_true.mp h1 c hc
  rcases Bool.eq_false_or_eq_true (isCode c) with hi | hi
  · exact h2 c (List.mem_filter.mpr ⟨hc, hi⟩)
  · simpa [hi] using h
set_option maxRecDepth 65536 in
theorem w_c0 : (Jvm.Cond.code x code maxLocals ret).before args0 about1 = true := code_word (m := ⟨1, 1⟩) (meth := k1m1) (c := k1c1) (by decide +kernel) rfl rfl rfl (by decide +kernel)
set_option maxRecDepth 65536 in
theorem w_c1 : (Jvm.Cond.code ({ cls := "com/example/bucketsplit/bucketsplit/core/Page", name := "<init>", desc := "()V" } : Jvm.MethodName) prog_54_method_1_code (1 : Nat) (Option.none : Option Jvm.ClassFile.FieldType)).before args0 about1 = true := code_word (m := ⟨2, 0⟩) (meth := k2m0) (c := k2c0) (by decide +kernel) rfl rfl rfl (by decide +kernel)
set_option maxRecDepth 65536 in
theorem w_c2 : (Jvm.Cond.code ({ cls := "java/lang/Object", name := "<init>", desc := "()V" } : Jvm.MethodName) object_method_1_code (1 : Nat) (Option.none : Option Jvm.ClassFile.FieldType)).before args0 about1 = true := code_word (m := ⟨0, 0⟩) (meth := k0m0) (c := k0c0) (by decide +kernel) rfl rfl rfl (by decide +kernel)
set_option maxRecDepth 65536 in
theorem w_c3 : (Jvm.Cond.code ({ cls := "com/example/bucketsplit/bucketsplit/core/Page", name := "add", desc := "(I)V" } : Jvm.MethodName) prog_54_method_3_code (3 : Nat) (Option.none : Option Jvm.ClassFile.FieldType)).before args0 about1 = true := code_word (m := ⟨2, 1⟩) (meth := k2m1) (c := k2c1) (by decide +kernel) rfl rfl rfl (by decide +kernel)
set_option maxRecDepth 65536 in
theorem w_c4 : (Jvm.Cond.code ({ cls := "java/lang/Math", name := "min", desc := "(II)I" } : Jvm.MethodName) jdk_29_method_69_code (2 : Nat) (Option.some Jvm.ClassFile.FieldType.int)).before args0 about1 = true := code_word (m := ⟨3, 2⟩) (meth := k3m2) (c := k3c2) (by decide +kernel) rfl rfl rfl (by decide +kernel)
set_option maxRecDepth 65536 in
theorem w_c5 : (Jvm.Cond.code ({ cls := "java/lang/Math", name := "max", desc := "(II)I" } : Jvm.MethodName) jdk_29_method_65_code (2 : Nat) (Option.some Jvm.ClassFile.FieldType.int)).before args0 about1 = true := code_word (m := ⟨3, 1⟩) (meth := k3m1) (c := k3c1) (by decide +kernel) rfl rfl rfl (by decide +kernel)
set_option maxRecDepth 65536 in
theorem w_c6 : (Jvm.Cond.code ({ cls := "com/example/bucketsplit/bucketsplit/core/Page", name := "takeAll", desc := "([II)I" } : Jvm.MethodName) prog_54_method_9_code (4 : Nat) (Option.some Jvm.ClassFile.FieldType.int)).before args0 about1 = true := code_word (m := ⟨2, 3⟩) (meth := k2m3) (c := k2c3) (by decide +kernel) rfl rfl rfl (by decide +kernel)
set_option maxRecDepth 65536 in
theorem w_c7 : (Jvm.Cond.code ({ cls := "com/example/bucketsplit/bucketsplit/core/Page", name := "size", desc := "()I" } : Jvm.MethodName) prog_54_method_5_code (1 : Nat) (Option.some Jvm.ClassFile.FieldType.int)).before args0 about1 = true := code_word (m := ⟨2, 2⟩) (meth := k2m2) (c := k2c2) (by decide +kernel) rfl rfl rfl (by decide +kernel)
set_option maxRecDepth 65536 in
theorem w_c8 : (Jvm.Cond.code ({ cls := "com/example/bucketsplit/bucketsplit/core/PageTakeAllPinLaw", name := "slot", desc := "([IIIIIIII)Z" } : Jvm.MethodName) method_3_code (10 : Nat) (Option.some Jvm.ClassFile.FieldType.boolean)).before args0 about1 = true := code_word (m := ⟨1, 2⟩) (meth := k1m2) (c := k1c2) (by decide +kernel) rfl rfl rfl (by decide +kernel)
def codes1 : List Jvm.Cond := [Jvm.Cond.code x code maxLocals ret, Jvm.Cond.code ({ cls := "com/example/bucketsplit/bucketsplit/core/Page", name := "<init>", desc := "()V" } : Jvm.MethodName) prog_54_method_1_code (1 : Nat) (Option.none : Option Jvm.ClassFile.FieldType), Jvm.Cond.code ({ cls := "java/lang/Object", name := "<init>", desc := "()V" } : Jvm.MethodName) object_method_1_code (1 : Nat) (Option.none : Option Jvm.ClassFile.FieldType), Jvm.Cond.code ({ cls := "com/example/bucketsplit/bucketsplit/core/Page", name := "add", desc := "(I)V" } : Jvm.MethodName) prog_54_method_3_code (3 : Nat) (Option.none : Option Jvm.ClassFile.FieldType), Jvm.Cond.code ({ cls := "java/lang/Math", name := "min", desc := "(II)I" } : Jvm.MethodName) jdk_29_method_69_code (2 : Nat) (Option.some Jvm.ClassFile.FieldType.int), Jvm.Cond.code ({ cls := "java/lang/Math", name := "max", desc := "(II)I" } : Jvm.MethodName) jdk_29_method_65_code (2 : Nat) (Option.some Jvm.ClassFile.FieldType.int), Jvm.Cond.code ({ cls := "com/example/bucketsplit/bucketsplit/core/Page", name := "takeAll", desc := "([II)I" } : Jvm.MethodName) prog_54_method_9_code (4 : Nat) (Option.some Jvm.ClassFile.FieldType.int), Jvm.Cond.code ({ cls := "com/example/bucketsplit/bucketsplit/core/Page", name := "size", desc := "()I" } : Jvm.MethodName) prog_54_method_5_code (1 : Nat) (Option.some Jvm.ClassFile.FieldType.int), Jvm.Cond.code ({ cls := "com/example/bucketsplit/bucketsplit/core/PageTakeAllPinLaw", name := "slot", desc := "([IIIIIIII)Z" } : Jvm.MethodName) method_3_code (10 : Nat) (Option.some Jvm.ClassFile.FieldType.boolean)]
set_option maxRecDepth 65536 in
theorem codes_eq : words1.filter isCode = codes1 := rfl
theorem w_codes : ∀ c ∈ words1.filter isCode, c.before args0 about1 = true := by
  rw [codes_eq]
  intro c hc
  simp only [codes1, List.mem_cons, List.not_mem_nil, or_false] at hc
  rcases hc with rfl | rfl | rfl | rfl | rfl | rfl | rfl | rfl | rfl
  · exact w_c0
  · exact w_c1
  · exact w_c2
  · exact w_c3
  · exact w_c4
  · exact w_c5
  · exact w_c6
  · exact w_c7
  · exact w_c8
set_option maxRecDepth 65536 in
theorem w_t1 : (words1.take 24).all (fun c => isCode c || c.before args0 about1) = true := by decide +kernel
set_option maxRecDepth 65536 in
theorem w_t2 : (words1.drop 24).all (fun c => isCode c || c.before args0 about1) = true := by decide +kernel
theorem w_tables : (allAtoms (Jvm.Cond.code x code maxLocals ret :: tables_1)).before args0 about1 = true := by
  rw [allAtoms_all]
  show words1.all (fun c => c.before args0 about1) = true
  refine all_split ?_ w_codes
  rw [← List.take_append_drop 24 words1, List.all_append, w_t1, w_t2]
  rfl
set_option maxRecDepth 65536 in
theorem w_case : (Jvm.Cond.and given_1 narrow_1).before args0 about1 = true := by decide +kernel
theorem w_applies : (headSpec (Jvm.Cond.code x code maxLocals ret :: tables_1) room_1).applies x e0.platform about1 = true :=
  (Spec.applies_iff w_frames).mpr ⟨w_running, w_runnable, w_alone, w_named, w_hears, w_ripe, w_room, w_tables⟩
theorem atStart : AtStart classFile x code maxLocals ret World_1 tables_1 room_1 Calls_1 rest_1 Pre_1 launch0 p0 e0 about1 theMethod args0 below0 :=
  ⟨lists_1, trivial, launch0.admits_env _ _ _, launch0.least_env, fairChoices_fair.cas, fairChoices_fair.clock, w_frames, w_args, w_heap, w_applies, trivial, trivial, w_case⟩
end start1
theorem witness_1 : WitnessClaimed_1 := ⟨start1.p0, start1.e0, start1.about1, start1.theMethod, start1.args0, start1.below0, start1.atStart⟩
end Jvm.Pilot.@@N@@
