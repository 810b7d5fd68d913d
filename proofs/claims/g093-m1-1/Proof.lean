import JvmDerived
import JvmDerived.Pilot.@@N@@Statement
import JvmDerived.Pilot.@@N@@Code
set_option linter.unusedVariables false
set_option linter.unusedSimpArgs false
set_option maxRecDepth 65536
set_option maxHeartbeats 40000000
namespace Jvm.Pilot.@@N@@
open Jvm Jvm.ClassFile Sem Op Lib Jvm.Free Jvm.Stand Jvm.LawKit Jvm.RoadKit Bundle Jvm.Pilot.@@N@@.Jvm.D
section OwnKit
variable {p : Program} {l : Launch} {e : Env} {R : Room} {s : State} {m : MethodId} {args : Array Value} {below : List Frame} {meth : Method} {c : Code} {T : State} {locs : List Loc} {cells slots : Nat}
/-- from here the run comes to an end that E allows -/
def own_Go (p : Program) (e : Env) (below : List Frame) (E : State → Prop) (S : State) : Prop := ∃ t, Steps p.tables e below S t ∧ E t
/-- the invocation has ended, with a value, a heap and a list of written places that Q allows -/
def own_End (s : State) (below : List Frame) (Q : Option Value → Heap → List Loc → Prop) (C N : Nat) (t : State) : Prop :=
  t.status = .running ∧ ∃ v L, Ended t below (.returned v) ∧ Q v t.heap L ∧ FrameEnd s (.returned v) t L C N
/-- the walk stands here, with this heap, having written only what is new -/
def own_At (p : Program) (l : Launch) (e : Env) (R : Room) (s : State) (m : MethodId) (args : Array Value) (below : List Frame) (meth : Method) (c : Code) (n0 : Nat) (T : State) (h : Heap) (cells slots : Nat) : Prop :=
  ∃ locs, Stand p l e R s m args below meth c T locs cells slots ∧ Fr n0 locs ∧ T.heap = h
theorem own_by {E : State → Prop} {S S' : State} (k : ∀ t, Steps p.tables e below S' t → Steps p.tables e below S t) (h : own_Go p e below E S') : own_Go p e below E S :=
  h.imp fun t q => ⟨k t q.1, q.2⟩
theorem own_tr {E : State → Prop} {S S' : State} (k : Steps p.tables e below S S') (h : own_Go p e below E S') : own_Go p e below E S :=
  h.imp fun t q => ⟨k.trans q.1, q.2⟩
theorem own_mono {E E' : State → Prop} {S : State} (k : ∀ t, E t → E' t) (h : own_Go p e below E S) : own_Go p e below E' S := h.imp fun t q => ⟨q.1, k t q.2⟩
theorem own_monoQ {Q Q' : Option Value → Heap → List Loc → Prop} {C N : Nat} {S : State} (k : ∀ v h L, Q v h L → Q' v h L) (h : own_Go p e below (own_End s below Q C N) S) : own_Go p e below (own_End s below Q' C N) S :=
  own_mono (fun t ⟨a, v, L, b, q, r⟩ => ⟨a, v, L, b, k _ _ _ q, r⟩) h
variable {Q : Option Value → Heap → List Loc → Prop} {C N : Nat} {h : Heap} {pc : Nat} {Ls : Array Slot} {rest : List Value}
theorem own_ret (X : Stand p l e R s m args below meth c T locs cells slots) (hx : p.tables.exec = Jvm.exec) (hlk : meth.locks = false) (eT : T.heap = h) {w : Value} {t : FieldType} {i : Instr} (hret : meth.sig.returnType = some t) (hn : narrow t w = w)
    (hi : (i = .ireturn ∧ (t = .int ∨ t = .boolean ∨ t = .byte ∨ t = .char ∨ t = .short) ∧ ∃ z, w = .int z) ∨ (i = .lreturn ∧ t = .long ∧ ∃ z, w = .long z) ∨ (i = .dreturn ∧ t = .double ∧ ∃ z, w = .double z) ∨ (i = .freturn ∧ t = .float ∧ ∃ z, w = .float z) ∨ (i = .areturn ∧ t.isReference = true ∧ w.isRef = true))
    (hd : decode c.code pc = .ok (i, 1)) (hc : cells ≤ C) (hs : slots ≤ N) (hQ : Q (some w) h locs) : own_Go p e below (own_End s below Q C N) (T.setTop (mkF m pc Ls (w :: rest))) := by
  obtain ⟨fs, hr, hrun, hended, hW, hsame⟩ := X.leave (v := some w) (fun q => by rw [hret] at q; cases q) hlk
  subst eT
  exact ⟨_, retOut X hx hret hn hi hd hr, hrun, _, _, hended, hQ, ⟨_, rfl⟩, hW, hsame.mono hc hs⟩
theorem own_retI (X : Stand p l e R s m args below meth c T locs cells slots) (hx : p.tables.exec = Jvm.exec) (hlk : meth.locks = false) (eT : T.heap = h) {z : Int32} (hret : meth.sig.returnType = some .int) (hd : decode c.code pc = .ok (.ireturn, 1)) (hc : cells ≤ C) (hs : slots ≤ N) (hQ : Q (some (.int z)) h locs) :
    own_Go p e below (own_End s below Q C N) (T.setTop (mkF m pc Ls (.int z :: rest))) := own_ret X hx hlk eT hret rfl (Or.inl ⟨rfl, Or.inl rfl, _, rfl⟩) hd hc hs hQ
theorem own_retZ (X : Stand p l e R s m args below meth c T locs cells slots) (hx : p.tables.exec = Jvm.exec) (hlk : meth.locks = false) (eT : T.heap = h) {z : Int32} (hz : z = 0 ∨ z = 1) (hret : meth.sig.returnType = some .boolean) (hd : decode c.code pc = .ok (.ireturn, 1)) (hc : cells ≤ C) (hs : slots ≤ N) (hQ : Q (some (.int z)) h locs) :
    own_Go p e below (own_End s below Q C N) (T.setTop (mkF m pc Ls (.int z :: rest))) := own_ret X hx hlk eT hret (by rcases hz with rfl | rfl <;> rfl) (Or.inl ⟨rfl, Or.inr (Or.inl rfl), _, rfl⟩) hd hc hs hQ
theorem own_retJ (X : Stand p l e R s m args below meth c T locs cells slots) (hx : p.tables.exec = Jvm.exec) (hlk : meth.locks = false) (eT : T.heap = h) {z : Int64} (hret : meth.sig.returnType = some .long) (hd : decode c.code pc = .ok (.lreturn, 1)) (hc : cells ≤ C) (hs : slots ≤ N) (hQ : Q (some (.long z)) h locs) :
    own_Go p e below (own_End s below Q C N) (T.setTop (mkF m pc Ls (.long z :: rest))) := own_ret X hx hlk eT hret rfl (Or.inr (Or.inl ⟨rfl, rfl, _, rfl⟩)) hd hc hs hQ
theorem own_retD (X : Stand p l e R s m args below meth c T locs cells slots) (hx : p.tables.exec = Jvm.exec) (hlk : meth.locks = false) (eT : T.heap = h) {z : UInt64} (hret : meth.sig.returnType = some .double) (hd : decode c.code pc = .ok (.dreturn, 1)) (hc : cells ≤ C) (hs : slots ≤ N) (hQ : Q (some (.double z)) h locs) :
    own_Go p e below (own_End s below Q C N) (T.setTop (mkF m pc Ls (.double z :: rest))) := own_ret X hx hlk eT hret rfl (Or.inr (Or.inr (Or.inl ⟨rfl, rfl, _, rfl⟩))) hd hc hs hQ
theorem own_retR (X : Stand p l e R s m args below meth c T locs cells slots) (hx : p.tables.exec = Jvm.exec) (hlk : meth.locks = false) (eT : T.heap = h) {w : Value} {t : FieldType} (hw : w.isRef = true) (ht : t.isReference = true) (hret : meth.sig.returnType = some t) (hd : decode c.code pc = .ok (.areturn, 1)) (hc : cells ≤ C) (hs : slots ≤ N) (hQ : Q (some w) h locs) :
    own_Go p e below (own_End s below Q C N) (T.setTop (mkF m pc Ls (w :: rest))) := own_ret X hx hlk eT hret (by cases t <;> first | (cases ht; done) | (cases w <;> first | rfl | cases hw)) (Or.inr (Or.inr (Or.inr (Or.inr ⟨rfl, ht, hw⟩)))) hd hc hs hQ
theorem own_retV (X : Stand p l e R s m args below meth c T locs cells slots) (hx : p.tables.exec = Jvm.exec) (hlk : meth.locks = false) (eT : T.heap = h) (hret : meth.sig.returnType = none) (hd : decode c.code pc = .ok (.return_, 1)) (hc : cells ≤ C) (hs : slots ≤ N) (hQ : Q none h locs) :
    own_Go p e below (own_End s below Q C N) (T.setTop (mkF m pc Ls [])) := by
  obtain ⟨fs, hr, hrun, hended, hW, hsame⟩ := X.leave (v := none) (fun _ => rfl) hlk
  subst eT
  exact ⟨_, X.returnOut hx hret hd hr, hrun, _, _, hended, hQ, ⟨_, rfl⟩, hW, hsame.mono hc hs⟩
end OwnKit
def own_g (bs : List Int32) (j : Int32) : Int32 := bs.getD j.toNatClampNeg 0
theorem own_g_eq (bs : List Int32) (j : Int32) : (bs.map Value.int).getD j.toNatClampNeg (.int (0 : Int32)) = .int (own_g bs j) := by
  simp only [own_g, List.getD_eq_getElem?_getD, List.getElem?_map]
  cases bs[j.toNatClampNeg]? <;> rfl
theorem own_lits : (0 : Int32).toInt = 0 ∧ (1 : Int32).toInt = 1 ∧ (2 : Int32).toInt = 2 ∧ (3 : Int32).toInt = 3 ∧ (4 : Int32).toInt = 4 ∧ (8 : Int32).toInt = 8 ∧ (-1 : Int32).toInt = -1 ∧ (-2 : Int32).toInt = -2 := by decide
theorem own_ix {y xt : Int32} (h0 : ¬ (y < (0 : Int32))) (h1 : y < xt) (h2 : ¬ ((8 : Int32) < xt)) : ¬ (y < 0) ∧ y < (8 : Int32) := by
  obtain ⟨k0, k1, k2, k3, k4, k8, _, _⟩ := own_lits
  simp only [Int32.lt_iff_toInt_lt, k0, k8] at *
  omega
theorem own_ixk {y xt : Int32} (k : Int32) (hk0 : 0 ≤ k.toInt) (hk3 : k.toInt ≤ 3) (h0 : ¬ (y < (0 : Int32))) (h1 : y < xt) (h2 : ¬ ((8 : Int32) < xt)) (h3 : y + k < xt) : ¬ (y + k < 0) ∧ y + k < (8 : Int32) := by
  obtain ⟨k0, k1, k2, k3, k4, k8, _, _⟩ := own_lits
  have e := c_iadd y k
  have r := rng32 (y + k)
  simp only [Int32.lt_iff_toInt_lt, k0, k8] at *
  omega
theorem own_fx1 {y xt : Int32} (h0 : ¬ (y < (0 : Int32))) (h1 : y < xt) (h2 : ¬ ((8 : Int32) < xt)) (n1 : ¬ ((y + (1 : Int32)) = xt)) : ¬ ((y + (1 : Int32)) < 0) ∧ (y + (1 : Int32)) < (8 : Int32) := by
  obtain ⟨k0, k1, k2, k3, k4, k8, _, _⟩ := own_lits
  have e1 := c_iadd y 1
  have r1 := rng32 (y + 1)
  simp only [Int32.lt_iff_toInt_lt, ← Int32.toInt_inj, k0, k1, k8] at *
  omega
theorem own_fx2 {y xt : Int32} (h0 : ¬ (y < (0 : Int32))) (h1 : y < xt) (h2 : ¬ ((8 : Int32) < xt)) (n1 : ¬ ((y + (1 : Int32)) = xt)) (n2 : ¬ ((y + (2 : Int32)) = xt)) : ¬ ((y + (2 : Int32)) < 0) ∧ (y + (2 : Int32)) < (8 : Int32) := by
  obtain ⟨k0, k1, k2, k3, k4, k8, _, _⟩ := own_lits
  have e1 := c_iadd y 1
  have r1 := rng32 (y + 1)
  have e2 := c_iadd y 2
  have r2 := rng32 (y + 2)
  simp only [Int32.lt_iff_toInt_lt, ← Int32.toInt_inj, k0, k1, k2, k8] at *
  omega
theorem own_fx3 {y xt : Int32} (h0 : ¬ (y < (0 : Int32))) (h1 : y < xt) (h2 : ¬ ((8 : Int32) < xt)) (n1 : ¬ ((y + (1 : Int32)) = xt)) (n2 : ¬ ((y + (2 : Int32)) = xt)) (n3 : ¬ ((y + (3 : Int32)) = xt)) : ¬ ((y + (3 : Int32)) < 0) ∧ (y + (3 : Int32)) < (8 : Int32) := by
  obtain ⟨k0, k1, k2, k3, k4, k8, _, _⟩ := own_lits
  have e1 := c_iadd y 1
  have r1 := rng32 (y + 1)
  have e2 := c_iadd y 2
  have r2 := rng32 (y + 2)
  have e3 := c_iadd y 3
  have r3 := rng32 (y + 3)
  simp only [Int32.lt_iff_toInt_lt, ← Int32.toInt_inj, k0, k1, k2, k3, k8] at *
  omega
theorem own_s1 {y xt : Int32} (h0 : ¬ (y < (0 : Int32))) (h1 : y < xt) (h2 : ¬ ((8 : Int32) < xt)) (n1 : ¬ ((y + (1 : Int32)) = xt)) : (y + (1 : Int32)) < xt := by
  obtain ⟨k0, k1, k2, k3, k4, k8, _, _⟩ := own_lits
  have e1 := c_iadd y 1
  have r1 := rng32 (y + 1)
  simp only [Int32.lt_iff_toInt_lt, ← Int32.toInt_inj, k0, k1, k8] at *
  omega
theorem own_s2 {y xt : Int32} (h0 : ¬ (y < (0 : Int32))) (h1 : y < xt) (h2 : ¬ ((8 : Int32) < xt)) (n1 : ¬ ((y + (1 : Int32)) = xt)) (n2 : ¬ ((y + (2 : Int32)) = xt)) : (y + (2 : Int32)) < xt := by
  obtain ⟨k0, k1, k2, k3, k4, k8, _, _⟩ := own_lits
  have e1 := c_iadd y 1
  have r1 := rng32 (y + 1)
  have e2 := c_iadd y 2
  have r2 := rng32 (y + 2)
  simp only [Int32.lt_iff_toInt_lt, ← Int32.toInt_inj, k0, k1, k2, k8] at *
  omega
theorem own_s3 {y xt : Int32} (h0 : ¬ (y < (0 : Int32))) (h1 : y < xt) (h2 : ¬ ((8 : Int32) < xt)) (n1 : ¬ ((y + (1 : Int32)) = xt)) (n2 : ¬ ((y + (2 : Int32)) = xt)) (n3 : ¬ ((y + (3 : Int32)) = xt)) : (y + (3 : Int32)) < xt := by
  obtain ⟨k0, k1, k2, k3, k4, k8, _, _⟩ := own_lits
  have e1 := c_iadd y 1
  have r1 := rng32 (y + 1)
  have e2 := c_iadd y 2
  have r2 := rng32 (y + 2)
  have e3 := c_iadd y 3
  have r3 := rng32 (y + 3)
  simp only [Int32.lt_iff_toInt_lt, ← Int32.toInt_inj, k0, k1, k2, k3, k8] at *
  omega
theorem own_qk {a b : Int32} (h : a = b) : ¬ (a < b) := by rw [h, Int32.lt_iff_toInt_lt]; omega
theorem own_gtne {k v : Int32} (h : k < v) : ¬ (v = k) := fun q => by rw [q, Int32.lt_iff_toInt_lt] at h; omega
theorem own_eq2 {v : Int32} (h : (1 : Int32) < v) (q : ¬ ((2 : Int32) < v)) : v = (2 : Int32) := by
  obtain ⟨k0, k1, k2, k3, k4, k8, _, _⟩ := own_lits
  simp only [Int32.lt_iff_toInt_lt, ← Int32.toInt_inj, k1, k2] at *
  omega
theorem own_eq3 {v : Int32} (h : (2 : Int32) < v) (q : ¬ ((3 : Int32) < v)) : v = (3 : Int32) := by
  obtain ⟨k0, k1, k2, k3, k4, k8, _, _⟩ := own_lits
  simp only [Int32.lt_iff_toInt_lt, ← Int32.toInt_inj, k2, k3] at *
  omega
theorem own_eq4 {v : Int32} (h : (3 : Int32) < v) (q : ¬ ((4 : Int32) < v)) : v = (4 : Int32) := by
  obtain ⟨k0, k1, k2, k3, k4, k8, _, _⟩ := own_lits
  simp only [Int32.lt_iff_toInt_lt, ← Int32.toInt_inj, k3, k4] at *
  omega
theorem own_addk {y v k : Int32} (h : v = k) : y + k = y + v := by rw [h]
theorem own_adv1 {y xt : Int32} (h0 : ¬ (y < (0 : Int32))) (h1 : y < xt) (h2 : ¬ ((8 : Int32) < xt)) : ¬ ((y + (1 : Int32)) < (0 : Int32)) ∧ ¬ (xt < (y + (1 : Int32))) ∧ y.toInt < (y + (1 : Int32)).toInt := by
  obtain ⟨k0, k1, k2, k3, k4, k8, _, _⟩ := own_lits
  have e1 := c_iadd y 1
  have r1 := rng32 (y + 1)
  simp only [Int32.lt_iff_toInt_lt, k0, k1, k8] at *
  omega
theorem own_advk2 {y xt v : Int32} (h0 : ¬ (y < (0 : Int32))) (h1 : y < xt) (h2 : ¬ ((8 : Int32) < xt)) (n1 : ¬ ((y + (1 : Int32)) = xt)) (g : (1 : Int32) < v) (f : ¬ ((2 : Int32) < v)) : ¬ ((y + v) < (0 : Int32)) ∧ ¬ (xt < (y + v)) ∧ y.toInt < (y + v).toInt := by
  have q := own_eq2 g f
  subst q
  have a := own_s1 h0 h1 h2 n1
  obtain ⟨k0, k1, k2, k3, k4, k8, _, _⟩ := own_lits
  have e1 := c_iadd y 1
  have r1 := rng32 (y + 1)
  have e2 := c_iadd y 2
  have r2 := rng32 (y + 2)
  simp only [Int32.lt_iff_toInt_lt, ← Int32.toInt_inj, k0, k1, k2, k8] at *
  omega
theorem own_advk3 {y xt v : Int32} (h0 : ¬ (y < (0 : Int32))) (h1 : y < xt) (h2 : ¬ ((8 : Int32) < xt)) (n1 : ¬ ((y + (1 : Int32)) = xt)) (n2 : ¬ ((y + (2 : Int32)) = xt)) (g : (2 : Int32) < v) (f : ¬ ((3 : Int32) < v)) : ¬ ((y + v) < (0 : Int32)) ∧ ¬ (xt < (y + v)) ∧ y.toInt < (y + v).toInt := by
  have q := own_eq3 g f
  subst q
  have a := own_s2 h0 h1 h2 n1 n2
  obtain ⟨k0, k1, k2, k3, k4, k8, _, _⟩ := own_lits
  have e2 := c_iadd y 2
  have r2 := rng32 (y + 2)
  have e3 := c_iadd y 3
  have r3 := rng32 (y + 3)
  simp only [Int32.lt_iff_toInt_lt, ← Int32.toInt_inj, k0, k2, k3, k8] at *
  omega
theorem own_advk4 {y xt v : Int32} (h0 : ¬ (y < (0 : Int32))) (h1 : y < xt) (h2 : ¬ ((8 : Int32) < xt)) (n1 : ¬ ((y + (1 : Int32)) = xt)) (n2 : ¬ ((y + (2 : Int32)) = xt)) (n3 : ¬ ((y + (3 : Int32)) = xt)) (g : (3 : Int32) < v) (f : ¬ ((4 : Int32) < v)) : ¬ ((y + v) < (0 : Int32)) ∧ ¬ (xt < (y + v)) ∧ y.toInt < (y + v).toInt := by
  have q := own_eq4 g f
  subst q
  have a := own_s3 h0 h1 h2 n1 n2 n3
  obtain ⟨k0, k1, k2, k3, k4, k8, _, _⟩ := own_lits
  have e3 := c_iadd y 3
  have r3 := rng32 (y + 3)
  have e4 := c_iadd y 4
  have r4 := rng32 (y + 4)
  simp only [Int32.lt_iff_toInt_lt, ← Int32.toInt_inj, k0, k3, k4, k8] at *
  omega
theorem own_m8 {y xt : Int32} (h0 : ¬ (y < (0 : Int32))) (h2 : ¬ ((8 : Int32) < xt)) : xt.toInt - y.toInt ≤ ((8 : Nat) : Int) := by
  obtain ⟨k0, k1, k2, k3, k4, k8, _, _⟩ := own_lits
  simp only [Int32.lt_iff_toInt_lt, k0, k8] at *
  omega
theorem own_z0 {y xt : Int32} (h : xt.toInt - y.toInt ≤ ((0 : Nat) : Int)) : ¬ (y < xt) := by rw [Int32.lt_iff_toInt_lt]; omega
theorem own_meas {y y' xt : Int32} {k : Nat} (h : xt.toInt - y.toInt ≤ ((k + 1 : Nat) : Int)) (q : y.toInt < y'.toInt) : xt.toInt - y'.toInt ≤ (k : Int) := by omega
theorem own_len_gt1 {v u : Int32} (h : v = (if u < (194 : Int32) then (0 : Int32) else (if u < (224 : Int32) then (2 : Int32) else (if u < (240 : Int32) then (3 : Int32) else (if u < (245 : Int32) then (4 : Int32) else (0 : Int32)))))) (q : ¬ (v = (0 : Int32))) : (1 : Int32) < v := by
  subst h
  revert q
  (repeat' split) <;> intro q <;> first | decide | exact absurd rfl q
theorem own_len_le4 {v u : Int32} (h : v = (if u < (194 : Int32) then (0 : Int32) else (if u < (224 : Int32) then (2 : Int32) else (if u < (240 : Int32) then (3 : Int32) else (if u < (245 : Int32) then (4 : Int32) else (0 : Int32)))))) : ¬ ((4 : Int32) < v) := by
  subst h
  (repeat' split) <;> decide

theorem own_pd0 : parseMethodDescriptor "([BIIZ)I" = some ⟨[(.array .byte), .int, .int, .boolean], some .int⟩ := by decide +kernel
theorem own_pd1 : parseMethodDescriptor "(II)I" = some ⟨[.int, .int], some .int⟩ := by decide +kernel
theorem own_d1_0 : decode jdk_29_method_69_code 0 = .ok (.iload_n 0, 1) := by decide +kernel
theorem own_d1_1 : decode jdk_29_method_69_code 1 = .ok (.iload_n 1, 1) := by decide +kernel
theorem own_d1_2 : decode jdk_29_method_69_code 2 = .ok (.if_icmp .gt 7, 3) := by decide +kernel
theorem own_d1_5 : decode jdk_29_method_69_code 5 = .ok (.iload_n 0, 1) := by decide +kernel
theorem own_d1_6 : decode jdk_29_method_69_code 6 = .ok (.goto 4, 3) := by decide +kernel
theorem own_d1_9 : decode jdk_29_method_69_code 9 = .ok (.iload_n 1, 1) := by decide +kernel
theorem own_d1_10 : decode jdk_29_method_69_code 10 = .ok (.ireturn, 1) := by decide +kernel
def own_min (xa : Int32) (xb : Int32) : Int32 := (if xb < xa then xb else xa)
theorem own_ef1 (m : MethodId) (x0 : Int32) (x1 : Int32) : entryFrame m #[(.int x0), (.int x1)] 2 = mkF m 0 #[.val (.int x0), .val (.int x1)] [] := by first | (simp [entryFrame, mkF, argsToLocals, Value.category]; done) | rfl
def own_Q1 (Z : State) (xa : Int32) (xb : Int32) (h0 : Heap) (n0 : Nat) (v : Option Value) (h : Heap) (L : List Loc) : Prop := v = some (.int (own_min xa xb)) ∧ Fr n0 L ∧ h = h0
theorem own_rm1 (l : Launch) (Z : State) (a0 : Array Value) (hw : ∀ d ∈ tables_1, d.before a0 Z = true) (ws : List Jvm.Cond) (xa : Int32) (xb : Int32) (h0 : Heap) (n0 : Nat) (Z0 : n0 ≤ h0.size) :
    MetFree l (⟨"java/lang/Math", "min", "(II)I"⟩ : MethodName) (head1 (Jvm.Cond.code (⟨"java/lang/Math", "min", "(II)I"⟩ : MethodName) jdk_29_method_69_code 2 (some .int) :: ws) ({ frames := 0, cells := 0, slots := 0, locals := 0 } : Room)) (fun a U => a = #[(.int xa), (.int xb)] ∧ Z.Warmed39 U.vm ∧ U.heap = h0) (fun _ _ _ _ _ => True) (fun _ U o U' => ∃ v L, o = .returned v ∧ own_Q1 Z xa xb h0 n0 v U'.heap L ∧ FrameEnd U o U' L ({ frames := 0, cells := 0, slots := 0, locals := 0 } : Room).cells ({ frames := 0, cells := 0, slots := 0, locals := 0 } : Room).slots) := by
  refine MetFree.of_bodySF (Jvm.Free.JP.mathPlain rfl (by decide +kernel)) hisR ?_
  intro p e s m args below meth c s₁ Bd hml0 hP hK
  obtain ⟨rfl, hZ, hh⟩ := hP
  have hx := Bd.exec
  have hby := Bd.bytes
  have hlk := Bd.notSynchronized
  have hret := Bd.returns
  have hml : c.maxLocals = 2 := hml0
  have hown : s.vm.findClass "java/lang/Math" = some m.cls := findClass_of_methodNamed Bd.named
  have hnm := (name_of_methodNamed Bd.named Bd.method).1
  have X0 : Stand p l e ({ frames := 0, cells := 0, slots := 0, locals := 0 } : Room) s m #[(.int xa), (.int xb)] below meth c s₁ [] 0 0 := Stand.of_body Bd
  have e0 : s₁.heap = h0 := by rw [← hh, Bd.state]; rfl
  have N0 := Fr.nil n0
  suffices key : own_Go p e below (own_End s below (own_Q1 Z xa xb h0 n0) ({ frames := 0, cells := 0, slots := 0, locals := 0 } : Room).cells ({ frames := 0, cells := 0, slots := 0, locals := 0 } : Room).slots) (s₁.setTop (mkF m 0 #[.val (.int xa), .val (.int xb)] [])) by
    obtain ⟨t, k1, k2, v, L, k3, k4, k5⟩ := key
    exact ⟨t, _, castTop (own_ef1 m xa xb) k1, k2, k3, v, L, rfl, k4, k5⟩
  show own_Go p e below _ (s₁.setTop (mkF m 0 #[.val (.int xa), .val (.int xb)] []))
  refine own_by (fun _ => XS.iloadN X0.here hx rfl (hb hby own_d1_0) rfl) ?_
  show own_Go p e below _ (s₁.setTop (mkF m 1 #[.val (.int xa), .val (.int xb)] [(.int xa)]))
  refine own_by (fun _ => XS.iloadN X0.here hx rfl (hb hby own_d1_1) rfl) ?_
  show own_Go p e below _ (s₁.setTop (mkF m 2 #[.val (.int xa), .val (.int xb)] [(.int xb), (.int xa)]))
  suffices J1 : ∀ (T' : State) (v1_t0 : Int32), v1_t0 = (if xb < xa then xb else xa) → own_At p l e ({ frames := 0, cells := 0, slots := 0, locals := 0 } : Room) s m #[(.int xa), (.int xb)] below meth c n0 T' h0 0 0 → own_Go p e below (own_End s below (own_Q1 Z xa xb h0 n0) ({ frames := 0, cells := 0, slots := 0, locals := 0 } : Room).cells ({ frames := 0, cells := 0, slots := 0, locals := 0 } : Room).slots) (T'.setTop (mkF m 10 #[.val (.int xa), .val (.int xb)] [(.int v1_t0)])) by
    by_cases hc2_2 : xb < xa
    ·
      skip
      refine own_by (fun _ => XS.icmpYes X0.here hx rfl (pc0 := 2) (pc' := 9) rfl (hb hby own_d1_2) rfl (tlt hc2_2).2.2.1 (by decide) (by decide)) ?_
      show own_Go p e below _ (s₁.setTop (mkF m 9 #[.val (.int xa), .val (.int xb)] []))
      refine own_by (fun _ => XS.iloadN X0.here hx rfl (hb hby own_d1_9) rfl) ?_
      show own_Go p e below _ (s₁.setTop (mkF m 10 #[.val (.int xa), .val (.int xb)] [(.int xb)]))
      exact J1 _ _ (by first | with_reducible rfl | simp only [if_pos hc2_2] | rfl) ⟨_, X0, N0, e0⟩
    ·
      skip
      refine own_by (fun _ => XS.icmpNo X0.here hx rfl (hb hby own_d1_2) rfl (flt hc2_2).2.2.1) ?_
      show own_Go p e below _ (s₁.setTop (mkF m 5 #[.val (.int xa), .val (.int xb)] []))
      refine own_by (fun _ => XS.iloadN X0.here hx rfl (hb hby own_d1_5) rfl) ?_
      show own_Go p e below _ (s₁.setTop (mkF m 6 #[.val (.int xa), .val (.int xb)] [(.int xa)]))
      refine own_by (fun _ => XS.goto X0.here hx rfl (pc0 := 6) (pc' := 10) rfl (hb hby own_d1_6) (by decide) (by decide)) ?_
      show own_Go p e below _ (s₁.setTop (mkF m 10 #[.val (.int xa), .val (.int xb)] [(.int xa)]))
      exact J1 _ _ (by first | with_reducible rfl | simp only [if_neg hc2_2] | rfl) ⟨_, X0, N0, e0⟩
  intro T1 v1_t0 hv1_t0 ⟨locs1, X1, N1, e1⟩
  show own_Go p e below _ (T1.setTop (mkF m 10 #[.val (.int xa), .val (.int xb)] [(.int v1_t0)]))
  exact own_retI X1 hx hlk e1 hret (hb hby own_d1_10) (by decide) (by decide) ⟨(by subst hv1_t0; first | with_reducible rfl | simp only [own_min] | rfl), N1, rfl⟩

theorem own_minle (a b : Int32) : ¬ (a < own_min a b) ∧ ¬ (b < own_min a b) ∧ (own_min a b = a ∨ own_min a b = b) := by
  simp only [own_min, Int32.lt_iff_toInt_lt]
  split <;> refine ⟨by omega, by omega, ?_⟩ <;> simp
theorem own_hto {w u : Int32} (h : w = own_min (8 : Int32) u) : ¬ ((8 : Int32) < w) := h ▸ (own_minle 8 u).1
theorem own_hlo {w u : Int32} (h : w = (u &&& (7 : Int32))) : ¬ (w < (0 : Int32)) := by
  have e := c_mask u 7 3 (by decide) (by decide)
  have k0 : (0 : Int32).toInt = 0 := by decide
  rw [h, Int32.lt_iff_toInt_lt, k0]; omega
theorem own_hft {f t u w z : Int32} (h : f = (u &&& (7 : Int32))) (hz : w = (z &&& (15 : Int32))) (q : t = own_min (8 : Int32) (f + w)) : ¬ (t < f) := by
  have e := c_mask u 7 3 (by decide) (by decide)
  have e2 := c_mask z 15 4 (by decide) (by decide)
  have e3 := c_iadd f w
  have r3 := rng32 (f + w)
  have k8 : (8 : Int32).toInt = 8 := by decide
  rw [← h] at e
  rw [← hz] at e2
  subst q
  rcases (own_minle 8 (f + w)).2.2 with a | a <;> rw [a, Int32.lt_iff_toInt_lt]
  · rw [k8]; omega
  · omega

def own_stail (xi xt xcut : Int32) (bs : List Int32) (tn tlo thi : Int32) : Int32 := (if (xi + (1 : Int32)) < xt then (if ((own_g bs (xi + (1 : Int32))) &&& (255 : Int32)) < tlo then ((-2 : Int32) - xi) else (if thi < ((own_g bs (xi + (1 : Int32))) &&& (255 : Int32)) then ((-2 : Int32) - xi) else (if tn = (2 : Int32) then (xi + (2 : Int32)) else (if (xi + (2 : Int32)) < xt then (if ((own_g bs (xi + (2 : Int32))) &&& (255 : Int32)) < (128 : Int32) then ((-2 : Int32) - xi) else (if (191 : Int32) < ((own_g bs (xi + (2 : Int32))) &&& (255 : Int32)) then ((-2 : Int32) - xi) else (if tn = (3 : Int32) then (xi + (3 : Int32)) else (if (xi + (3 : Int32)) < xt then (if ((own_g bs (xi + (3 : Int32))) &&& (255 : Int32)) < (128 : Int32) then ((-2 : Int32) - xi) else (if (191 : Int32) < ((own_g bs (xi + (3 : Int32))) &&& (255 : Int32)) then ((-2 : Int32) - xi) else (xi + (4 : Int32)))) else (if xcut = (0 : Int32) then ((-2 : Int32) - xi) else (-1 : Int32)))))) else (if xcut = (0 : Int32) then ((-2 : Int32) - xi) else (-1 : Int32)))))) else (if xcut = (0 : Int32) then ((-2 : Int32) - xi) else (-1 : Int32)))
theorem own_d3_0 : decode method_2_code 0 = .ok (.iload_n 1, 1) := by decide +kernel
theorem own_d3_1 : decode method_2_code 1 = .ok (.iload_n 2, 1) := by decide +kernel
theorem own_d3_2 : decode method_2_code 2 = .ok (.if_icmp .lt 5, 3) := by decide +kernel
theorem own_d3_5 : decode method_2_code 5 = .ok (.iconst (-1), 1) := by decide +kernel
theorem own_d3_6 : decode method_2_code 6 = .ok (.ireturn, 1) := by decide +kernel
theorem own_d3_7 : decode method_2_code 7 = .ok (.aload_n 0, 1) := by decide +kernel
theorem own_d3_8 : decode method_2_code 8 = .ok (.iload_n 1, 1) := by decide +kernel
theorem own_d3_9 : decode method_2_code 9 = .ok (.baload, 1) := by decide +kernel
theorem own_d3_10 : decode method_2_code 10 = .ok (.sipush 255, 3) := by decide +kernel
theorem own_d3_13 : decode method_2_code 13 = .ok (.iand, 1) := by decide +kernel
theorem own_d3_14 : decode method_2_code 14 = .ok (.istore 4, 2) := by decide +kernel
theorem own_d3_16 : decode method_2_code 16 = .ok (.iload 4, 2) := by decide +kernel
theorem own_d3_18 : decode method_2_code 18 = .ok (.sipush 128, 3) := by decide +kernel
theorem own_d3_21 : decode method_2_code 21 = .ok (.if_icmp .ge 7, 3) := by decide +kernel
theorem own_d3_24 : decode method_2_code 24 = .ok (.iload_n 1, 1) := by decide +kernel
theorem own_d3_25 : decode method_2_code 25 = .ok (.iconst 1, 1) := by decide +kernel
theorem own_d3_26 : decode method_2_code 26 = .ok (.iadd, 1) := by decide +kernel
theorem own_d3_27 : decode method_2_code 27 = .ok (.ireturn, 1) := by decide +kernel
theorem own_d3_28 : decode method_2_code 28 = .ok (.bipush (-2), 2) := by decide +kernel
theorem own_d3_30 : decode method_2_code 30 = .ok (.iload_n 1, 1) := by decide +kernel
theorem own_d3_31 : decode method_2_code 31 = .ok (.isub, 1) := by decide +kernel
theorem own_d3_32 : decode method_2_code 32 = .ok (.istore 5, 2) := by decide +kernel
theorem own_d3_34 : decode method_2_code 34 = .ok (.iload 4, 2) := by decide +kernel
theorem own_d3_36 : decode method_2_code 36 = .ok (.sipush 194, 3) := by decide +kernel
theorem own_d3_39 : decode method_2_code 39 = .ok (.if_icmp .lt 27, 3) := by decide +kernel
theorem own_d3_42 : decode method_2_code 42 = .ok (.iload 4, 2) := by decide +kernel
theorem own_d3_44 : decode method_2_code 44 = .ok (.sipush 223, 3) := by decide +kernel
theorem own_d3_47 : decode method_2_code 47 = .ok (.if_icmp .gt 19, 3) := by decide +kernel
theorem own_d3_50 : decode method_2_code 50 = .ok (.iconst 2, 1) := by decide +kernel
theorem own_d3_51 : decode method_2_code 51 = .ok (.istore 6, 2) := by decide +kernel
theorem own_d3_53 : decode method_2_code 53 = .ok (.sipush 128, 3) := by decide +kernel
theorem own_d3_56 : decode method_2_code 56 = .ok (.istore 7, 2) := by decide +kernel
theorem own_d3_58 : decode method_2_code 58 = .ok (.sipush 191, 3) := by decide +kernel
theorem own_d3_61 : decode method_2_code 61 = .ok (.istore 8, 2) := by decide +kernel
theorem own_d3_63 : decode method_2_code 63 = .ok (.goto 198, 3) := by decide +kernel
theorem own_d3_66 : decode method_2_code 66 = .ok (.iload 4, 2) := by decide +kernel
theorem own_d3_68 : decode method_2_code 68 = .ok (.sipush 224, 3) := by decide +kernel
theorem own_d3_71 : decode method_2_code 71 = .ok (.if_icmp .ne 19, 3) := by decide +kernel
theorem own_d3_74 : decode method_2_code 74 = .ok (.iconst 3, 1) := by decide +kernel
theorem own_d3_75 : decode method_2_code 75 = .ok (.istore 6, 2) := by decide +kernel
theorem own_d3_77 : decode method_2_code 77 = .ok (.sipush 160, 3) := by decide +kernel
theorem own_d3_80 : decode method_2_code 80 = .ok (.istore 7, 2) := by decide +kernel
theorem own_d3_82 : decode method_2_code 82 = .ok (.sipush 191, 3) := by decide +kernel
theorem own_d3_85 : decode method_2_code 85 = .ok (.istore 8, 2) := by decide +kernel
theorem own_d3_87 : decode method_2_code 87 = .ok (.goto 174, 3) := by decide +kernel
theorem own_d3_90 : decode method_2_code 90 = .ok (.iload 4, 2) := by decide +kernel
theorem own_d3_92 : decode method_2_code 92 = .ok (.sipush 225, 3) := by decide +kernel
theorem own_d3_95 : decode method_2_code 95 = .ok (.if_icmp .lt 27, 3) := by decide +kernel
theorem own_d3_98 : decode method_2_code 98 = .ok (.iload 4, 2) := by decide +kernel
theorem own_d3_100 : decode method_2_code 100 = .ok (.sipush 236, 3) := by decide +kernel
theorem own_d3_103 : decode method_2_code 103 = .ok (.if_icmp .gt 19, 3) := by decide +kernel
theorem own_d3_106 : decode method_2_code 106 = .ok (.iconst 3, 1) := by decide +kernel
theorem own_d3_107 : decode method_2_code 107 = .ok (.istore 6, 2) := by decide +kernel
theorem own_d3_109 : decode method_2_code 109 = .ok (.sipush 128, 3) := by decide +kernel
theorem own_d3_112 : decode method_2_code 112 = .ok (.istore 7, 2) := by decide +kernel
theorem own_d3_114 : decode method_2_code 114 = .ok (.sipush 191, 3) := by decide +kernel
theorem own_d3_117 : decode method_2_code 117 = .ok (.istore 8, 2) := by decide +kernel
theorem own_d3_119 : decode method_2_code 119 = .ok (.goto 142, 3) := by decide +kernel
theorem own_d3_122 : decode method_2_code 122 = .ok (.iload 4, 2) := by decide +kernel
theorem own_d3_124 : decode method_2_code 124 = .ok (.sipush 237, 3) := by decide +kernel
theorem own_d3_127 : decode method_2_code 127 = .ok (.if_icmp .ne 19, 3) := by decide +kernel
theorem own_d3_130 : decode method_2_code 130 = .ok (.iconst 3, 1) := by decide +kernel
theorem own_d3_131 : decode method_2_code 131 = .ok (.istore 6, 2) := by decide +kernel
theorem own_d3_133 : decode method_2_code 133 = .ok (.sipush 128, 3) := by decide +kernel
theorem own_d3_136 : decode method_2_code 136 = .ok (.istore 7, 2) := by decide +kernel
theorem own_d3_138 : decode method_2_code 138 = .ok (.sipush 159, 3) := by decide +kernel
theorem own_d3_141 : decode method_2_code 141 = .ok (.istore 8, 2) := by decide +kernel
theorem own_d3_143 : decode method_2_code 143 = .ok (.goto 118, 3) := by decide +kernel
theorem own_d3_146 : decode method_2_code 146 = .ok (.iload 4, 2) := by decide +kernel
theorem own_d3_148 : decode method_2_code 148 = .ok (.sipush 238, 3) := by decide +kernel
theorem own_d3_151 : decode method_2_code 151 = .ok (.if_icmp .eq 11, 3) := by decide +kernel
theorem own_d3_154 : decode method_2_code 154 = .ok (.iload 4, 2) := by decide +kernel
theorem own_d3_156 : decode method_2_code 156 = .ok (.sipush 239, 3) := by decide +kernel
theorem own_d3_159 : decode method_2_code 159 = .ok (.if_icmp .ne 19, 3) := by decide +kernel
theorem own_d3_162 : decode method_2_code 162 = .ok (.iconst 3, 1) := by decide +kernel
theorem own_d3_163 : decode method_2_code 163 = .ok (.istore 6, 2) := by decide +kernel
theorem own_d3_165 : decode method_2_code 165 = .ok (.sipush 128, 3) := by decide +kernel
theorem own_d3_168 : decode method_2_code 168 = .ok (.istore 7, 2) := by decide +kernel
theorem own_d3_170 : decode method_2_code 170 = .ok (.sipush 191, 3) := by decide +kernel
theorem own_d3_173 : decode method_2_code 173 = .ok (.istore 8, 2) := by decide +kernel
theorem own_d3_175 : decode method_2_code 175 = .ok (.goto 86, 3) := by decide +kernel
theorem own_d3_178 : decode method_2_code 178 = .ok (.iload 4, 2) := by decide +kernel
theorem own_d3_180 : decode method_2_code 180 = .ok (.sipush 240, 3) := by decide +kernel
theorem own_d3_183 : decode method_2_code 183 = .ok (.if_icmp .ne 19, 3) := by decide +kernel
theorem own_d3_186 : decode method_2_code 186 = .ok (.iconst 4, 1) := by decide +kernel
theorem own_d3_187 : decode method_2_code 187 = .ok (.istore 6, 2) := by decide +kernel
theorem own_d3_189 : decode method_2_code 189 = .ok (.sipush 144, 3) := by decide +kernel
theorem own_d3_192 : decode method_2_code 192 = .ok (.istore 7, 2) := by decide +kernel
theorem own_d3_194 : decode method_2_code 194 = .ok (.sipush 191, 3) := by decide +kernel
theorem own_d3_197 : decode method_2_code 197 = .ok (.istore 8, 2) := by decide +kernel
theorem own_d3_199 : decode method_2_code 199 = .ok (.goto 62, 3) := by decide +kernel
theorem own_d3_202 : decode method_2_code 202 = .ok (.iload 4, 2) := by decide +kernel
theorem own_d3_204 : decode method_2_code 204 = .ok (.sipush 241, 3) := by decide +kernel
theorem own_d3_207 : decode method_2_code 207 = .ok (.if_icmp .lt 27, 3) := by decide +kernel
theorem own_d3_210 : decode method_2_code 210 = .ok (.iload 4, 2) := by decide +kernel
theorem own_d3_212 : decode method_2_code 212 = .ok (.sipush 243, 3) := by decide +kernel
theorem own_d3_215 : decode method_2_code 215 = .ok (.if_icmp .gt 19, 3) := by decide +kernel
theorem own_d3_218 : decode method_2_code 218 = .ok (.iconst 4, 1) := by decide +kernel
theorem own_d3_219 : decode method_2_code 219 = .ok (.istore 6, 2) := by decide +kernel
theorem own_d3_221 : decode method_2_code 221 = .ok (.sipush 128, 3) := by decide +kernel
theorem own_d3_224 : decode method_2_code 224 = .ok (.istore 7, 2) := by decide +kernel
theorem own_d3_226 : decode method_2_code 226 = .ok (.sipush 191, 3) := by decide +kernel
theorem own_d3_229 : decode method_2_code 229 = .ok (.istore 8, 2) := by decide +kernel
theorem own_d3_231 : decode method_2_code 231 = .ok (.goto 30, 3) := by decide +kernel
theorem own_d3_234 : decode method_2_code 234 = .ok (.iload 4, 2) := by decide +kernel
theorem own_d3_236 : decode method_2_code 236 = .ok (.sipush 244, 3) := by decide +kernel
theorem own_d3_239 : decode method_2_code 239 = .ok (.if_icmp .ne 19, 3) := by decide +kernel
theorem own_d3_242 : decode method_2_code 242 = .ok (.iconst 4, 1) := by decide +kernel
theorem own_d3_243 : decode method_2_code 243 = .ok (.istore 6, 2) := by decide +kernel
theorem own_d3_245 : decode method_2_code 245 = .ok (.sipush 128, 3) := by decide +kernel
theorem own_d3_248 : decode method_2_code 248 = .ok (.istore 7, 2) := by decide +kernel
theorem own_d3_250 : decode method_2_code 250 = .ok (.sipush 143, 3) := by decide +kernel
theorem own_d3_253 : decode method_2_code 253 = .ok (.istore 8, 2) := by decide +kernel
theorem own_d3_255 : decode method_2_code 255 = .ok (.goto 6, 3) := by decide +kernel
theorem own_d3_258 : decode method_2_code 258 = .ok (.iload 5, 2) := by decide +kernel
theorem own_d3_260 : decode method_2_code 260 = .ok (.ireturn, 1) := by decide +kernel
theorem own_d3_261 : decode method_2_code 261 = .ok (.iload_n 3, 1) := by decide +kernel
theorem own_d3_262 : decode method_2_code 262 = .ok (.ifCond .eq 7, 3) := by decide +kernel
theorem own_d3_265 : decode method_2_code 265 = .ok (.iconst (-1), 1) := by decide +kernel
theorem own_d3_266 : decode method_2_code 266 = .ok (.goto 5, 3) := by decide +kernel
theorem own_d3_269 : decode method_2_code 269 = .ok (.iload 5, 2) := by decide +kernel
theorem own_d3_271 : decode method_2_code 271 = .ok (.istore 9, 2) := by decide +kernel
theorem own_d3_273 : decode method_2_code 273 = .ok (.iload_n 1, 1) := by decide +kernel
theorem own_d3_274 : decode method_2_code 274 = .ok (.iconst 1, 1) := by decide +kernel
theorem own_d3_275 : decode method_2_code 275 = .ok (.iadd, 1) := by decide +kernel
theorem own_d3_276 : decode method_2_code 276 = .ok (.iload_n 2, 1) := by decide +kernel
theorem own_d3_277 : decode method_2_code 277 = .ok (.if_icmp .lt 6, 3) := by decide +kernel
theorem own_d3_280 : decode method_2_code 280 = .ok (.iload 9, 2) := by decide +kernel
theorem own_d3_282 : decode method_2_code 282 = .ok (.ireturn, 1) := by decide +kernel
theorem own_d3_283 : decode method_2_code 283 = .ok (.aload_n 0, 1) := by decide +kernel
theorem own_d3_284 : decode method_2_code 284 = .ok (.iload_n 1, 1) := by decide +kernel
theorem own_d3_285 : decode method_2_code 285 = .ok (.iconst 1, 1) := by decide +kernel
theorem own_d3_286 : decode method_2_code 286 = .ok (.iadd, 1) := by decide +kernel
theorem own_d3_287 : decode method_2_code 287 = .ok (.baload, 1) := by decide +kernel
theorem own_d3_288 : decode method_2_code 288 = .ok (.sipush 255, 3) := by decide +kernel
theorem own_d3_291 : decode method_2_code 291 = .ok (.iand, 1) := by decide +kernel
theorem own_d3_292 : decode method_2_code 292 = .ok (.istore 10, 2) := by decide +kernel
theorem own_d3_294 : decode method_2_code 294 = .ok (.iload 10, 2) := by decide +kernel
theorem own_d3_296 : decode method_2_code 296 = .ok (.iload 7, 2) := by decide +kernel
theorem own_d3_298 : decode method_2_code 298 = .ok (.if_icmp .lt 10, 3) := by decide +kernel
theorem own_d3_301 : decode method_2_code 301 = .ok (.iload 10, 2) := by decide +kernel
theorem own_d3_303 : decode method_2_code 303 = .ok (.iload 8, 2) := by decide +kernel
theorem own_d3_305 : decode method_2_code 305 = .ok (.if_icmp .le 6, 3) := by decide +kernel
theorem own_d3_308 : decode method_2_code 308 = .ok (.iload 5, 2) := by decide +kernel
theorem own_d3_310 : decode method_2_code 310 = .ok (.ireturn, 1) := by decide +kernel
theorem own_d3_311 : decode method_2_code 311 = .ok (.iload 6, 2) := by decide +kernel
theorem own_d3_313 : decode method_2_code 313 = .ok (.iconst 2, 1) := by decide +kernel
theorem own_d3_314 : decode method_2_code 314 = .ok (.if_icmp .ne 7, 3) := by decide +kernel
theorem own_d3_317 : decode method_2_code 317 = .ok (.iload_n 1, 1) := by decide +kernel
theorem own_d3_318 : decode method_2_code 318 = .ok (.iconst 2, 1) := by decide +kernel
theorem own_d3_319 : decode method_2_code 319 = .ok (.iadd, 1) := by decide +kernel
theorem own_d3_320 : decode method_2_code 320 = .ok (.ireturn, 1) := by decide +kernel
theorem own_d3_321 : decode method_2_code 321 = .ok (.iload_n 1, 1) := by decide +kernel
theorem own_d3_322 : decode method_2_code 322 = .ok (.iconst 2, 1) := by decide +kernel
theorem own_d3_323 : decode method_2_code 323 = .ok (.iadd, 1) := by decide +kernel
theorem own_d3_324 : decode method_2_code 324 = .ok (.iload_n 2, 1) := by decide +kernel
theorem own_d3_325 : decode method_2_code 325 = .ok (.if_icmp .lt 6, 3) := by decide +kernel
theorem own_d3_328 : decode method_2_code 328 = .ok (.iload 9, 2) := by decide +kernel
theorem own_d3_330 : decode method_2_code 330 = .ok (.ireturn, 1) := by decide +kernel
theorem own_d3_331 : decode method_2_code 331 = .ok (.aload_n 0, 1) := by decide +kernel
theorem own_d3_332 : decode method_2_code 332 = .ok (.iload_n 1, 1) := by decide +kernel
theorem own_d3_333 : decode method_2_code 333 = .ok (.iconst 2, 1) := by decide +kernel
theorem own_d3_334 : decode method_2_code 334 = .ok (.iadd, 1) := by decide +kernel
theorem own_d3_335 : decode method_2_code 335 = .ok (.baload, 1) := by decide +kernel
theorem own_d3_336 : decode method_2_code 336 = .ok (.sipush 255, 3) := by decide +kernel
theorem own_d3_339 : decode method_2_code 339 = .ok (.iand, 1) := by decide +kernel
theorem own_d3_340 : decode method_2_code 340 = .ok (.istore 11, 2) := by decide +kernel
theorem own_d3_342 : decode method_2_code 342 = .ok (.iload 11, 2) := by decide +kernel
theorem own_d3_344 : decode method_2_code 344 = .ok (.sipush 128, 3) := by decide +kernel
theorem own_d3_347 : decode method_2_code 347 = .ok (.if_icmp .lt 11, 3) := by decide +kernel
theorem own_d3_350 : decode method_2_code 350 = .ok (.iload 11, 2) := by decide +kernel
theorem own_d3_352 : decode method_2_code 352 = .ok (.sipush 191, 3) := by decide +kernel
theorem own_d3_355 : decode method_2_code 355 = .ok (.if_icmp .le 6, 3) := by decide +kernel
theorem own_d3_358 : decode method_2_code 358 = .ok (.iload 5, 2) := by decide +kernel
theorem own_d3_360 : decode method_2_code 360 = .ok (.ireturn, 1) := by decide +kernel
theorem own_d3_361 : decode method_2_code 361 = .ok (.iload 6, 2) := by decide +kernel
theorem own_d3_363 : decode method_2_code 363 = .ok (.iconst 3, 1) := by decide +kernel
theorem own_d3_364 : decode method_2_code 364 = .ok (.if_icmp .ne 7, 3) := by decide +kernel
theorem own_d3_367 : decode method_2_code 367 = .ok (.iload_n 1, 1) := by decide +kernel
theorem own_d3_368 : decode method_2_code 368 = .ok (.iconst 3, 1) := by decide +kernel
theorem own_d3_369 : decode method_2_code 369 = .ok (.iadd, 1) := by decide +kernel
theorem own_d3_370 : decode method_2_code 370 = .ok (.ireturn, 1) := by decide +kernel
theorem own_d3_371 : decode method_2_code 371 = .ok (.iload_n 1, 1) := by decide +kernel
theorem own_d3_372 : decode method_2_code 372 = .ok (.iconst 3, 1) := by decide +kernel
theorem own_d3_373 : decode method_2_code 373 = .ok (.iadd, 1) := by decide +kernel
theorem own_d3_374 : decode method_2_code 374 = .ok (.iload_n 2, 1) := by decide +kernel
theorem own_d3_375 : decode method_2_code 375 = .ok (.if_icmp .lt 6, 3) := by decide +kernel
theorem own_d3_378 : decode method_2_code 378 = .ok (.iload 9, 2) := by decide +kernel
theorem own_d3_380 : decode method_2_code 380 = .ok (.ireturn, 1) := by decide +kernel
theorem own_d3_381 : decode method_2_code 381 = .ok (.aload_n 0, 1) := by decide +kernel
theorem own_d3_382 : decode method_2_code 382 = .ok (.iload_n 1, 1) := by decide +kernel
theorem own_d3_383 : decode method_2_code 383 = .ok (.iconst 3, 1) := by decide +kernel
theorem own_d3_384 : decode method_2_code 384 = .ok (.iadd, 1) := by decide +kernel
theorem own_d3_385 : decode method_2_code 385 = .ok (.baload, 1) := by decide +kernel
theorem own_d3_386 : decode method_2_code 386 = .ok (.sipush 255, 3) := by decide +kernel
theorem own_d3_389 : decode method_2_code 389 = .ok (.iand, 1) := by decide +kernel
theorem own_d3_390 : decode method_2_code 390 = .ok (.istore 12, 2) := by decide +kernel
theorem own_d3_392 : decode method_2_code 392 = .ok (.iload 12, 2) := by decide +kernel
theorem own_d3_394 : decode method_2_code 394 = .ok (.sipush 128, 3) := by decide +kernel
theorem own_d3_397 : decode method_2_code 397 = .ok (.if_icmp .lt 11, 3) := by decide +kernel
theorem own_d3_400 : decode method_2_code 400 = .ok (.iload 12, 2) := by decide +kernel
theorem own_d3_402 : decode method_2_code 402 = .ok (.sipush 191, 3) := by decide +kernel
theorem own_d3_405 : decode method_2_code 405 = .ok (.if_icmp .le 6, 3) := by decide +kernel
theorem own_d3_408 : decode method_2_code 408 = .ok (.iload 5, 2) := by decide +kernel
theorem own_d3_410 : decode method_2_code 410 = .ok (.ireturn, 1) := by decide +kernel
theorem own_d3_411 : decode method_2_code 411 = .ok (.iload_n 1, 1) := by decide +kernel
theorem own_d3_412 : decode method_2_code 412 = .ok (.iconst 4, 1) := by decide +kernel
theorem own_d3_413 : decode method_2_code 413 = .ok (.iadd, 1) := by decide +kernel
theorem own_d3_414 : decode method_2_code 414 = .ok (.ireturn, 1) := by decide +kernel
def own_step (xi : Int32) (xt : Int32) (xcut : Int32) (bs : List Int32) : Int32 := (if xi < xt then (if ((own_g bs xi) &&& (255 : Int32)) < (128 : Int32) then (xi + (1 : Int32)) else (if ((own_g bs xi) &&& (255 : Int32)) < (194 : Int32) then ((-2 : Int32) - xi) else (if (223 : Int32) < ((own_g bs xi) &&& (255 : Int32)) then (if ((own_g bs xi) &&& (255 : Int32)) = (224 : Int32) then (own_stail xi xt xcut bs (3 : Int32) (160 : Int32) (191 : Int32)) else (if (236 : Int32) < ((own_g bs xi) &&& (255 : Int32)) then (if ((own_g bs xi) &&& (255 : Int32)) = (237 : Int32) then (own_stail xi xt xcut bs (3 : Int32) (128 : Int32) (159 : Int32)) else (if ((own_g bs xi) &&& (255 : Int32)) = (238 : Int32) then (own_stail xi xt xcut bs (3 : Int32) (128 : Int32) (191 : Int32)) else (if ((own_g bs xi) &&& (255 : Int32)) = (239 : Int32) then (own_stail xi xt xcut bs (3 : Int32) (128 : Int32) (191 : Int32)) else (if ((own_g bs xi) &&& (255 : Int32)) = (240 : Int32) then (own_stail xi xt xcut bs (4 : Int32) (144 : Int32) (191 : Int32)) else (if (243 : Int32) < ((own_g bs xi) &&& (255 : Int32)) then (if ((own_g bs xi) &&& (255 : Int32)) = (244 : Int32) then (own_stail xi xt xcut bs (4 : Int32) (128 : Int32) (143 : Int32)) else ((-2 : Int32) - xi)) else (own_stail xi xt xcut bs (4 : Int32) (128 : Int32) (191 : Int32))))))) else (own_stail xi xt xcut bs (3 : Int32) (128 : Int32) (191 : Int32)))) else (own_stail xi xt xcut bs (2 : Int32) (128 : Int32) (191 : Int32))))) else (-1 : Int32))
theorem own_pn3 : plainName "com/example/bucketsplit/bucketsplit/core/Utf8FirstIllFormedPinLaw" = true := by first | (simp [plainName, overriddenIn]; done) | decide +kernel
theorem own_ef3 (m : MethodId) (x0 : Addr) (x1 : Int32) (x2 : Int32) (x3 : Int32) : entryFrame m #[(.ref x0), (.int x1), (.int x2), (.int x3)] 13 = mkF m 0 #[.val (.ref x0), .val (.int x1), .val (.int x2), .val (.int x3), .unset, .unset, .unset, .unset, .unset, .unset, .unset, .unset, .unset] [] := by first | (simp [entryFrame, mkF, argsToLocals, Value.category]; done) | rfl
def own_Q3 (Z : State) (ax : Addr) (xi : Int32) (xt : Int32) (xcut : Int32) (bk : ClassId) (bs : List Int32) (h0 : Heap) (n0 : Nat) (v : Option Value) (h : Heap) (L : List Loc) : Prop := v = some (.int (own_step xi xt xcut bs)) ∧ Fr n0 L ∧ h = h0
theorem own_rm3 (l : Launch) (Z : State) (a0 : Array Value) (hw : ∀ d ∈ tables_1, d.before a0 Z = true) (ws : List Jvm.Cond) (ax : Addr) (xi : Int32) (xt : Int32) (xcut : Int32) (bk : ClassId) (bs : List Int32) (h0 : Heap) (n0 : Nat) (Z0 : n0 ≤ h0.size) (pf0 : Arv Z h0 ax bk .byte (8 : Int32) (bs.map Value.int) (.int (0 : Int32))) (hlo : ¬ (xi < (0 : Int32))) (hto : ¬ ((8 : Int32) < xt)) :
    MetFree l (⟨"com/example/bucketsplit/bucketsplit/core/Utf8FirstIllFormedPinLaw", "step", "([BIIZ)I"⟩ : MethodName) (head1 (Jvm.Cond.code (⟨"com/example/bucketsplit/bucketsplit/core/Utf8FirstIllFormedPinLaw", "step", "([BIIZ)I"⟩ : MethodName) method_2_code 13 (some .int) :: ws) ({ frames := 0, cells := 0, slots := 0, locals := 0 } : Room)) (fun a U => a = #[(.ref ax), (.int xi), (.int xt), (.int xcut)] ∧ Z.Warmed39 U.vm ∧ U.heap = h0) (fun _ _ _ _ _ => True) (fun _ U o U' => ∃ v L, o = .returned v ∧ own_Q3 Z ax xi xt xcut bk bs h0 n0 v U'.heap L ∧ FrameEnd U o U' L ({ frames := 0, cells := 0, slots := 0, locals := 0 } : Room).cells ({ frames := 0, cells := 0, slots := 0, locals := 0 } : Room).slots) := by
  refine MetFree.of_bodySF (plainFor_of_name own_pn3) hisR ?_
  intro p e s m args below meth c s₁ Bd hml0 hP hK
  obtain ⟨rfl, hZ, hh⟩ := hP
  have hx := Bd.exec
  have hby := Bd.bytes
  have hlk := Bd.notSynchronized
  have hret := Bd.returns
  have hml : c.maxLocals = 13 := hml0
  have hown : s.vm.findClass "com/example/bucketsplit/bucketsplit/core/Utf8FirstIllFormedPinLaw" = some m.cls := findClass_of_methodNamed Bd.named
  have hnm := (name_of_methodNamed Bd.named Bd.method).1
  have X0 : Stand p l e ({ frames := 0, cells := 0, slots := 0, locals := 0 } : Room) s m #[(.ref ax), (.int xi), (.int xt), (.int xcut)] below meth c s₁ [] 0 0 := Stand.of_body Bd
  have e0 : s₁.heap = h0 := by rw [← hh, Bd.state]; rfl
  have N0 := Fr.nil n0
  suffices key : own_Go p e below (own_End s below (own_Q3 Z ax xi xt xcut bk bs h0 n0) ({ frames := 0, cells := 0, slots := 0, locals := 0 } : Room).cells ({ frames := 0, cells := 0, slots := 0, locals := 0 } : Room).slots) (s₁.setTop (mkF m 0 #[.val (.ref ax), .val (.int xi), .val (.int xt), .val (.int xcut), .unset, .unset, .unset, .unset, .unset, .unset, .unset, .unset, .unset] [])) by
    obtain ⟨t, k1, k2, v, L, k3, k4, k5⟩ := key
    exact ⟨t, _, castTop (own_ef3 m ax xi xt xcut) k1, k2, k3, v, L, rfl, k4, k5⟩
  show own_Go p e below _ (s₁.setTop (mkF m 0 #[.val (.ref ax), .val (.int xi), .val (.int xt), .val (.int xcut), .unset, .unset, .unset, .unset, .unset, .unset, .unset, .unset, .unset] []))
  refine own_by (fun _ => XS.iloadN X0.here hx rfl (hb hby own_d3_0) rfl) ?_
  show own_Go p e below _ (s₁.setTop (mkF m 1 #[.val (.ref ax), .val (.int xi), .val (.int xt), .val (.int xcut), .unset, .unset, .unset, .unset, .unset, .unset, .unset, .unset, .unset] [(.int xi)]))
  refine own_by (fun _ => XS.iloadN X0.here hx rfl (hb hby own_d3_1) rfl) ?_
  show own_Go p e below _ (s₁.setTop (mkF m 2 #[.val (.ref ax), .val (.int xi), .val (.int xt), .val (.int xcut), .unset, .unset, .unset, .unset, .unset, .unset, .unset, .unset, .unset] [(.int xt), (.int xi)]))
  by_cases hc2_1 : xi < xt
  ·
    skip
    refine own_by (fun _ => XS.icmpYes X0.here hx rfl (pc0 := 2) (pc' := 7) rfl (hb hby own_d3_2) rfl (tlt hc2_1).1 (by decide) (by decide)) ?_
    show own_Go p e below _ (s₁.setTop (mkF m 7 #[.val (.ref ax), .val (.int xi), .val (.int xt), .val (.int xcut), .unset, .unset, .unset, .unset, .unset, .unset, .unset, .unset, .unset] []))
    refine own_by (fun _ => XS.aloadN X0.here hx rfl (hb hby own_d3_7) rfl rfl) ?_
    show own_Go p e below _ (s₁.setTop (mkF m 8 #[.val (.ref ax), .val (.int xi), .val (.int xt), .val (.int xcut), .unset, .unset, .unset, .unset, .unset, .unset, .unset, .unset, .unset] [(.ref ax)]))
    refine own_by (fun _ => XS.iloadN X0.here hx rfl (hb hby own_d3_8) rfl) ?_
    show own_Go p e below _ (s₁.setTop (mkF m 9 #[.val (.ref ax), .val (.int xi), .val (.int xt), .val (.int xcut), .unset, .unset, .unset, .unset, .unset, .unset, .unset, .unset, .unset] [(.int xi), (.ref ax)]))
    obtain ⟨cl2, ar2, q2, sz2, nn2, hs2, gs2⟩ := id pf0
    have hin2 : ¬ (xi < 0 ∨ cl2.slots.size ≤ (xi).toNatClampNeg) := inb_of sz2 (own_ix hlo hc2_1 hto)
    refine own_by (X0.baloadBytes hx (j := xi) (v := (.int (own_g bs xi))) (by rw [e0]; exact ar2.1) (State.isArrayOf_alike hZ.alike ar2.2.1) ar2.2.2 hin2 (hs2.at hin2 (own_g_eq bs xi)) (g := (mkF m 9 #[.val (.ref ax), .val (.int xi), .val (.int xt), .val (.int xcut), .unset, .unset, .unset, .unset, .unset, .unset, .unset, .unset, .unset] [(.int xi), (.ref ax)])) rfl rfl (hb hby own_d3_9)) ?_
    show own_Go p e below _ (s₁.setTop (mkF m 10 #[.val (.ref ax), .val (.int xi), .val (.int xt), .val (.int xcut), .unset, .unset, .unset, .unset, .unset, .unset, .unset, .unset, .unset] [(.int (own_g bs xi))]))
    refine own_by (fun _ => XS.sipush X0.here hx rfl (hb hby own_d3_10)) ?_
    show own_Go p e below _ (s₁.setTop (mkF m 13 #[.val (.ref ax), .val (.int xi), .val (.int xt), .val (.int xcut), .unset, .unset, .unset, .unset, .unset, .unset, .unset, .unset, .unset] [(.int (255 : Int32)), (.int (own_g bs xi))]))
    refine own_by (fun _ => XS.iand X0.here hx rfl (hb hby own_d3_13) rfl) ?_
    show own_Go p e below _ (s₁.setTop (mkF m 14 #[.val (.ref ax), .val (.int xi), .val (.int xt), .val (.int xcut), .unset, .unset, .unset, .unset, .unset, .unset, .unset, .unset, .unset] [(.int ((own_g bs xi) &&& (255 : Int32)))]))
    refine own_by (fun _ => XS.istore X0.here hx rfl (hb hby own_d3_14) rfl (l' := #[.val (.ref ax), .val (.int xi), .val (.int xt), .val (.int xcut), .val (.int ((own_g bs xi) &&& (255 : Int32))), .unset, .unset, .unset, .unset, .unset, .unset, .unset, .unset]) rfl) ?_
    show own_Go p e below _ (s₁.setTop (mkF m 16 #[.val (.ref ax), .val (.int xi), .val (.int xt), .val (.int xcut), .val (.int ((own_g bs xi) &&& (255 : Int32))), .unset, .unset, .unset, .unset, .unset, .unset, .unset, .unset] []))
    refine own_by (fun _ => XS.iload X0.here hx rfl (hb hby own_d3_16) rfl) ?_
    show own_Go p e below _ (s₁.setTop (mkF m 18 #[.val (.ref ax), .val (.int xi), .val (.int xt), .val (.int xcut), .val (.int ((own_g bs xi) &&& (255 : Int32))), .unset, .unset, .unset, .unset, .unset, .unset, .unset, .unset] [(.int ((own_g bs xi) &&& (255 : Int32)))]))
    refine own_by (fun _ => XS.sipush X0.here hx rfl (hb hby own_d3_18)) ?_
    show own_Go p e below _ (s₁.setTop (mkF m 21 #[.val (.ref ax), .val (.int xi), .val (.int xt), .val (.int xcut), .val (.int ((own_g bs xi) &&& (255 : Int32))), .unset, .unset, .unset, .unset, .unset, .unset, .unset, .unset] [(.int (128 : Int32)), (.int ((own_g bs xi) &&& (255 : Int32)))]))
    by_cases hc21_3 : ((own_g bs xi) &&& (255 : Int32)) < (128 : Int32)
    ·
      skip
      refine own_by (fun _ => XS.icmpNo X0.here hx rfl (hb hby own_d3_21) rfl (tlt hc21_3).2.1) ?_
      show own_Go p e below _ (s₁.setTop (mkF m 24 #[.val (.ref ax), .val (.int xi), .val (.int xt), .val (.int xcut), .val (.int ((own_g bs xi) &&& (255 : Int32))), .unset, .unset, .unset, .unset, .unset, .unset, .unset, .unset] []))
      refine own_by (fun _ => XS.iloadN X0.here hx rfl (hb hby own_d3_24) rfl) ?_
      show own_Go p e below _ (s₁.setTop (mkF m 25 #[.val (.ref ax), .val (.int xi), .val (.int xt), .val (.int xcut), .val (.int ((own_g bs xi) &&& (255 : Int32))), .unset, .unset, .unset, .unset, .unset, .unset, .unset, .unset] [(.int xi)]))
      refine own_by (fun _ => XS.iconst X0.here hx rfl (hb hby own_d3_25)) ?_
      show own_Go p e below _ (s₁.setTop (mkF m 26 #[.val (.ref ax), .val (.int xi), .val (.int xt), .val (.int xcut), .val (.int ((own_g bs xi) &&& (255 : Int32))), .unset, .unset, .unset, .unset, .unset, .unset, .unset, .unset] [(.int (1 : Int32)), (.int xi)]))
      refine own_by (fun _ => XS.iadd X0.here hx rfl (hb hby own_d3_26) rfl) ?_
      show own_Go p e below _ (s₁.setTop (mkF m 27 #[.val (.ref ax), .val (.int xi), .val (.int xt), .val (.int xcut), .val (.int ((own_g bs xi) &&& (255 : Int32))), .unset, .unset, .unset, .unset, .unset, .unset, .unset, .unset] [(.int (xi + (1 : Int32)))]))
      exact own_retI X0 hx hlk e0 hret (hb hby own_d3_27) (by decide) (by decide) ⟨(by first | with_reducible rfl | simp only [own_step, if_neg hlo, if_neg hto, if_pos hc2_1, if_pos hc21_3] | rfl), N0, rfl⟩
    ·
      skip
      refine own_by (fun _ => XS.icmpYes X0.here hx rfl (pc0 := 21) (pc' := 28) rfl (hb hby own_d3_21) rfl (flt hc21_3).2.1 (by decide) (by decide)) ?_
      show own_Go p e below _ (s₁.setTop (mkF m 28 #[.val (.ref ax), .val (.int xi), .val (.int xt), .val (.int xcut), .val (.int ((own_g bs xi) &&& (255 : Int32))), .unset, .unset, .unset, .unset, .unset, .unset, .unset, .unset] []))
      refine own_by (fun _ => XS.bipush X0.here hx rfl (hb hby own_d3_28)) ?_
      show own_Go p e below _ (s₁.setTop (mkF m 30 #[.val (.ref ax), .val (.int xi), .val (.int xt), .val (.int xcut), .val (.int ((own_g bs xi) &&& (255 : Int32))), .unset, .unset, .unset, .unset, .unset, .unset, .unset, .unset] [(.int (-2 : Int32))]))
      refine own_by (fun _ => XS.iloadN X0.here hx rfl (hb hby own_d3_30) rfl) ?_
      show own_Go p e below _ (s₁.setTop (mkF m 31 #[.val (.ref ax), .val (.int xi), .val (.int xt), .val (.int xcut), .val (.int ((own_g bs xi) &&& (255 : Int32))), .unset, .unset, .unset, .unset, .unset, .unset, .unset, .unset] [(.int xi), (.int (-2 : Int32))]))
      refine own_by (fun _ => XS.isub X0.here hx rfl (hb hby own_d3_31) rfl) ?_
      show own_Go p e below _ (s₁.setTop (mkF m 32 #[.val (.ref ax), .val (.int xi), .val (.int xt), .val (.int xcut), .val (.int ((own_g bs xi) &&& (255 : Int32))), .unset, .unset, .unset, .unset, .unset, .unset, .unset, .unset] [(.int ((-2 : Int32) - xi))]))
      refine own_by (fun _ => XS.istore X0.here hx rfl (hb hby own_d3_32) rfl (l' := #[.val (.ref ax), .val (.int xi), .val (.int xt), .val (.int xcut), .val (.int ((own_g bs xi) &&& (255 : Int32))), .val (.int ((-2 : Int32) - xi)), .unset, .unset, .unset, .unset, .unset, .unset, .unset]) rfl) ?_
      have JT : ∀ (T' : State) (tn tlo thi : Int32), own_At p l e ({ frames := 0, cells := 0, slots := 0, locals := 0 } : Room) s m #[(.ref ax), (.int xi), (.int xt), (.int xcut)] below meth c n0 T' h0 0 0 → own_Go p e below (own_End s below (fun v h L => v = some (.int (own_stail xi xt xcut bs tn tlo thi)) ∧ Fr n0 L ∧ h = h0) ({ frames := 0, cells := 0, slots := 0, locals := 0 } : Room).cells ({ frames := 0, cells := 0, slots := 0, locals := 0 } : Room).slots) (T'.setTop (mkF m 261 #[.val (.ref ax), .val (.int xi), .val (.int xt), .val (.int xcut), .val (.int ((own_g bs xi) &&& (255 : Int32))), .val (.int ((-2 : Int32) - xi)), .val (.int tn), .val (.int tlo), .val (.int thi), .unset, .unset, .unset, .unset] [])) := by
        intro TT tn tlo thi ⟨locsT, XT, NT, eT⟩
        show own_Go p e below _ (TT.setTop (mkF m 261 #[.val (.ref ax), .val (.int xi), .val (.int xt), .val (.int xcut), .val (.int ((own_g bs xi) &&& (255 : Int32))), .val (.int ((-2 : Int32) - xi)), .val (.int tn), .val (.int tlo), .val (.int thi), .unset, .unset, .unset, .unset] []))
        refine own_by (fun _ => XS.iloadN XT.here hx rfl (hb hby own_d3_261) rfl) ?_
        show own_Go p e below _ (TT.setTop (mkF m 262 #[.val (.ref ax), .val (.int xi), .val (.int xt), .val (.int xcut), .val (.int ((own_g bs xi) &&& (255 : Int32))), .val (.int ((-2 : Int32) - xi)), .val (.int tn), .val (.int tlo), .val (.int thi), .unset, .unset, .unset, .unset] [(.int xcut)]))
        suffices J4 : ∀ (T' : State) (v4_t0 : Int32), v4_t0 = (if xcut = (0 : Int32) then ((-2 : Int32) - xi) else (-1 : Int32)) → own_At p l e ({ frames := 0, cells := 0, slots := 0, locals := 0 } : Room) s m #[(.ref ax), (.int xi), (.int xt), (.int xcut)] below meth c n0 T' h0 0 0 → own_Go p e below (own_End s below (fun v h L => v = some (.int (own_stail xi xt xcut bs tn tlo thi)) ∧ Fr n0 L ∧ h = h0) ({ frames := 0, cells := 0, slots := 0, locals := 0 } : Room).cells ({ frames := 0, cells := 0, slots := 0, locals := 0 } : Room).slots) (T'.setTop (mkF m 271 #[.val (.ref ax), .val (.int xi), .val (.int xt), .val (.int xcut), .val (.int ((own_g bs xi) &&& (255 : Int32))), .val (.int ((-2 : Int32) - xi)), .val (.int tn), .val (.int tlo), .val (.int thi), .unset, .unset, .unset, .unset] [(.int v4_t0)])) by
          by_cases hc262_5 : xcut = (0 : Int32)
          ·
            skip
            refine own_by (fun _ => XS.ifYes XT.here hx rfl (pc0 := 262) (pc' := 269) rfl (hb hby own_d3_262) rfl ((if0 _ _).trans (teq hc262_5).1) (by decide) (by decide)) ?_
            show own_Go p e below _ (TT.setTop (mkF m 269 #[.val (.ref ax), .val (.int xi), .val (.int xt), .val (.int xcut), .val (.int ((own_g bs xi) &&& (255 : Int32))), .val (.int ((-2 : Int32) - xi)), .val (.int tn), .val (.int tlo), .val (.int thi), .unset, .unset, .unset, .unset] []))
            refine own_by (fun _ => XS.iload XT.here hx rfl (hb hby own_d3_269) rfl) ?_
            show own_Go p e below _ (TT.setTop (mkF m 271 #[.val (.ref ax), .val (.int xi), .val (.int xt), .val (.int xcut), .val (.int ((own_g bs xi) &&& (255 : Int32))), .val (.int ((-2 : Int32) - xi)), .val (.int tn), .val (.int tlo), .val (.int thi), .unset, .unset, .unset, .unset] [(.int ((-2 : Int32) - xi))]))
            exact J4 _ _ (by first | with_reducible rfl | simp only [if_pos hc262_5] | rfl) ⟨_, XT, NT, eT⟩
          ·
            skip
            refine own_by (fun _ => XS.ifNo XT.here hx rfl (hb hby own_d3_262) rfl ((if0 _ _).trans (feq hc262_5).1)) ?_
            show own_Go p e below _ (TT.setTop (mkF m 265 #[.val (.ref ax), .val (.int xi), .val (.int xt), .val (.int xcut), .val (.int ((own_g bs xi) &&& (255 : Int32))), .val (.int ((-2 : Int32) - xi)), .val (.int tn), .val (.int tlo), .val (.int thi), .unset, .unset, .unset, .unset] []))
            refine own_by (fun _ => XS.iconst XT.here hx rfl (hb hby own_d3_265)) ?_
            show own_Go p e below _ (TT.setTop (mkF m 266 #[.val (.ref ax), .val (.int xi), .val (.int xt), .val (.int xcut), .val (.int ((own_g bs xi) &&& (255 : Int32))), .val (.int ((-2 : Int32) - xi)), .val (.int tn), .val (.int tlo), .val (.int thi), .unset, .unset, .unset, .unset] [(.int (-1 : Int32))]))
            refine own_by (fun _ => XS.goto XT.here hx rfl (pc0 := 266) (pc' := 271) rfl (hb hby own_d3_266) (by decide) (by decide)) ?_
            show own_Go p e below _ (TT.setTop (mkF m 271 #[.val (.ref ax), .val (.int xi), .val (.int xt), .val (.int xcut), .val (.int ((own_g bs xi) &&& (255 : Int32))), .val (.int ((-2 : Int32) - xi)), .val (.int tn), .val (.int tlo), .val (.int thi), .unset, .unset, .unset, .unset] [(.int (-1 : Int32))]))
            exact J4 _ _ (by first | with_reducible rfl | simp only [if_neg hc262_5] | rfl) ⟨_, XT, NT, eT⟩
        intro T4 v4_t0 hv4_t0 ⟨locs4, X4, N4, e4⟩
        show own_Go p e below _ (T4.setTop (mkF m 271 #[.val (.ref ax), .val (.int xi), .val (.int xt), .val (.int xcut), .val (.int ((own_g bs xi) &&& (255 : Int32))), .val (.int ((-2 : Int32) - xi)), .val (.int tn), .val (.int tlo), .val (.int thi), .unset, .unset, .unset, .unset] [(.int v4_t0)]))
        refine own_by (fun _ => XS.istore X4.here hx rfl (hb hby own_d3_271) rfl (l' := #[.val (.ref ax), .val (.int xi), .val (.int xt), .val (.int xcut), .val (.int ((own_g bs xi) &&& (255 : Int32))), .val (.int ((-2 : Int32) - xi)), .val (.int tn), .val (.int tlo), .val (.int thi), .val (.int v4_t0), .unset, .unset, .unset]) rfl) ?_
        show own_Go p e below _ (T4.setTop (mkF m 273 #[.val (.ref ax), .val (.int xi), .val (.int xt), .val (.int xcut), .val (.int ((own_g bs xi) &&& (255 : Int32))), .val (.int ((-2 : Int32) - xi)), .val (.int tn), .val (.int tlo), .val (.int thi), .val (.int v4_t0), .unset, .unset, .unset] []))
        refine own_by (fun _ => XS.iloadN X4.here hx rfl (hb hby own_d3_273) rfl) ?_
        show own_Go p e below _ (T4.setTop (mkF m 274 #[.val (.ref ax), .val (.int xi), .val (.int xt), .val (.int xcut), .val (.int ((own_g bs xi) &&& (255 : Int32))), .val (.int ((-2 : Int32) - xi)), .val (.int tn), .val (.int tlo), .val (.int thi), .val (.int v4_t0), .unset, .unset, .unset] [(.int xi)]))
        refine own_by (fun _ => XS.iconst X4.here hx rfl (hb hby own_d3_274)) ?_
        show own_Go p e below _ (T4.setTop (mkF m 275 #[.val (.ref ax), .val (.int xi), .val (.int xt), .val (.int xcut), .val (.int ((own_g bs xi) &&& (255 : Int32))), .val (.int ((-2 : Int32) - xi)), .val (.int tn), .val (.int tlo), .val (.int thi), .val (.int v4_t0), .unset, .unset, .unset] [(.int (1 : Int32)), (.int xi)]))
        refine own_by (fun _ => XS.iadd X4.here hx rfl (hb hby own_d3_275) rfl) ?_
        show own_Go p e below _ (T4.setTop (mkF m 276 #[.val (.ref ax), .val (.int xi), .val (.int xt), .val (.int xcut), .val (.int ((own_g bs xi) &&& (255 : Int32))), .val (.int ((-2 : Int32) - xi)), .val (.int tn), .val (.int tlo), .val (.int thi), .val (.int v4_t0), .unset, .unset, .unset] [(.int (xi + (1 : Int32)))]))
        refine own_by (fun _ => XS.iloadN X4.here hx rfl (hb hby own_d3_276) rfl) ?_
        show own_Go p e below _ (T4.setTop (mkF m 277 #[.val (.ref ax), .val (.int xi), .val (.int xt), .val (.int xcut), .val (.int ((own_g bs xi) &&& (255 : Int32))), .val (.int ((-2 : Int32) - xi)), .val (.int tn), .val (.int tlo), .val (.int thi), .val (.int v4_t0), .unset, .unset, .unset] [(.int xt), (.int (xi + (1 : Int32)))]))
        by_cases hc277_6 : (xi + (1 : Int32)) < xt
        ·
          skip
          refine own_by (fun _ => XS.icmpYes X4.here hx rfl (pc0 := 277) (pc' := 283) rfl (hb hby own_d3_277) rfl (tlt hc277_6).1 (by decide) (by decide)) ?_
          show own_Go p e below _ (T4.setTop (mkF m 283 #[.val (.ref ax), .val (.int xi), .val (.int xt), .val (.int xcut), .val (.int ((own_g bs xi) &&& (255 : Int32))), .val (.int ((-2 : Int32) - xi)), .val (.int tn), .val (.int tlo), .val (.int thi), .val (.int v4_t0), .unset, .unset, .unset] []))
          refine own_by (fun _ => XS.aloadN X4.here hx rfl (hb hby own_d3_283) rfl rfl) ?_
          show own_Go p e below _ (T4.setTop (mkF m 284 #[.val (.ref ax), .val (.int xi), .val (.int xt), .val (.int xcut), .val (.int ((own_g bs xi) &&& (255 : Int32))), .val (.int ((-2 : Int32) - xi)), .val (.int tn), .val (.int tlo), .val (.int thi), .val (.int v4_t0), .unset, .unset, .unset] [(.ref ax)]))
          refine own_by (fun _ => XS.iloadN X4.here hx rfl (hb hby own_d3_284) rfl) ?_
          show own_Go p e below _ (T4.setTop (mkF m 285 #[.val (.ref ax), .val (.int xi), .val (.int xt), .val (.int xcut), .val (.int ((own_g bs xi) &&& (255 : Int32))), .val (.int ((-2 : Int32) - xi)), .val (.int tn), .val (.int tlo), .val (.int thi), .val (.int v4_t0), .unset, .unset, .unset] [(.int xi), (.ref ax)]))
          refine own_by (fun _ => XS.iconst X4.here hx rfl (hb hby own_d3_285)) ?_
          show own_Go p e below _ (T4.setTop (mkF m 286 #[.val (.ref ax), .val (.int xi), .val (.int xt), .val (.int xcut), .val (.int ((own_g bs xi) &&& (255 : Int32))), .val (.int ((-2 : Int32) - xi)), .val (.int tn), .val (.int tlo), .val (.int thi), .val (.int v4_t0), .unset, .unset, .unset] [(.int (1 : Int32)), (.int xi), (.ref ax)]))
          refine own_by (fun _ => XS.iadd X4.here hx rfl (hb hby own_d3_286) rfl) ?_
          show own_Go p e below _ (T4.setTop (mkF m 287 #[.val (.ref ax), .val (.int xi), .val (.int xt), .val (.int xcut), .val (.int ((own_g bs xi) &&& (255 : Int32))), .val (.int ((-2 : Int32) - xi)), .val (.int tn), .val (.int tlo), .val (.int thi), .val (.int v4_t0), .unset, .unset, .unset] [(.int (xi + (1 : Int32))), (.ref ax)]))
          obtain ⟨cl7, ar7, q7, sz7, nn7, hs7, gs7⟩ := id pf0
          have hin7 : ¬ ((xi + (1 : Int32)) < 0 ∨ cl7.slots.size ≤ ((xi + (1 : Int32))).toNatClampNeg) := inb_of sz7 (own_ixk _ (by decide) (by decide) hlo hc2_1 hto hc277_6)
          refine own_by (X4.baloadBytes hx (j := (xi + (1 : Int32))) (v := (.int (own_g bs (xi + (1 : Int32))))) (by rw [e4]; exact ar7.1) (State.isArrayOf_alike hZ.alike ar7.2.1) ar7.2.2 hin7 (hs7.at hin7 (own_g_eq bs (xi + (1 : Int32)))) (g := (mkF m 287 #[.val (.ref ax), .val (.int xi), .val (.int xt), .val (.int xcut), .val (.int ((own_g bs xi) &&& (255 : Int32))), .val (.int ((-2 : Int32) - xi)), .val (.int tn), .val (.int tlo), .val (.int thi), .val (.int v4_t0), .unset, .unset, .unset] [(.int (xi + (1 : Int32))), (.ref ax)])) rfl rfl (hb hby own_d3_287)) ?_
          show own_Go p e below _ (T4.setTop (mkF m 288 #[.val (.ref ax), .val (.int xi), .val (.int xt), .val (.int xcut), .val (.int ((own_g bs xi) &&& (255 : Int32))), .val (.int ((-2 : Int32) - xi)), .val (.int tn), .val (.int tlo), .val (.int thi), .val (.int v4_t0), .unset, .unset, .unset] [(.int (own_g bs (xi + (1 : Int32))))]))
          refine own_by (fun _ => XS.sipush X4.here hx rfl (hb hby own_d3_288)) ?_
          show own_Go p e below _ (T4.setTop (mkF m 291 #[.val (.ref ax), .val (.int xi), .val (.int xt), .val (.int xcut), .val (.int ((own_g bs xi) &&& (255 : Int32))), .val (.int ((-2 : Int32) - xi)), .val (.int tn), .val (.int tlo), .val (.int thi), .val (.int v4_t0), .unset, .unset, .unset] [(.int (255 : Int32)), (.int (own_g bs (xi + (1 : Int32))))]))
          refine own_by (fun _ => XS.iand X4.here hx rfl (hb hby own_d3_291) rfl) ?_
          show own_Go p e below _ (T4.setTop (mkF m 292 #[.val (.ref ax), .val (.int xi), .val (.int xt), .val (.int xcut), .val (.int ((own_g bs xi) &&& (255 : Int32))), .val (.int ((-2 : Int32) - xi)), .val (.int tn), .val (.int tlo), .val (.int thi), .val (.int v4_t0), .unset, .unset, .unset] [(.int ((own_g bs (xi + (1 : Int32))) &&& (255 : Int32)))]))
          refine own_by (fun _ => XS.istore X4.here hx rfl (hb hby own_d3_292) rfl (l' := #[.val (.ref ax), .val (.int xi), .val (.int xt), .val (.int xcut), .val (.int ((own_g bs xi) &&& (255 : Int32))), .val (.int ((-2 : Int32) - xi)), .val (.int tn), .val (.int tlo), .val (.int thi), .val (.int v4_t0), .val (.int ((own_g bs (xi + (1 : Int32))) &&& (255 : Int32))), .unset, .unset]) rfl) ?_
          show own_Go p e below _ (T4.setTop (mkF m 294 #[.val (.ref ax), .val (.int xi), .val (.int xt), .val (.int xcut), .val (.int ((own_g bs xi) &&& (255 : Int32))), .val (.int ((-2 : Int32) - xi)), .val (.int tn), .val (.int tlo), .val (.int thi), .val (.int v4_t0), .val (.int ((own_g bs (xi + (1 : Int32))) &&& (255 : Int32))), .unset, .unset] []))
          refine own_by (fun _ => XS.iload X4.here hx rfl (hb hby own_d3_294) rfl) ?_
          show own_Go p e below _ (T4.setTop (mkF m 296 #[.val (.ref ax), .val (.int xi), .val (.int xt), .val (.int xcut), .val (.int ((own_g bs xi) &&& (255 : Int32))), .val (.int ((-2 : Int32) - xi)), .val (.int tn), .val (.int tlo), .val (.int thi), .val (.int v4_t0), .val (.int ((own_g bs (xi + (1 : Int32))) &&& (255 : Int32))), .unset, .unset] [(.int ((own_g bs (xi + (1 : Int32))) &&& (255 : Int32)))]))
          refine own_by (fun _ => XS.iload X4.here hx rfl (hb hby own_d3_296) rfl) ?_
          show own_Go p e below _ (T4.setTop (mkF m 298 #[.val (.ref ax), .val (.int xi), .val (.int xt), .val (.int xcut), .val (.int ((own_g bs xi) &&& (255 : Int32))), .val (.int ((-2 : Int32) - xi)), .val (.int tn), .val (.int tlo), .val (.int thi), .val (.int v4_t0), .val (.int ((own_g bs (xi + (1 : Int32))) &&& (255 : Int32))), .unset, .unset] [(.int tlo), (.int ((own_g bs (xi + (1 : Int32))) &&& (255 : Int32)))]))
          by_cases hc298_8 : ((own_g bs (xi + (1 : Int32))) &&& (255 : Int32)) < tlo
          ·
            skip
            refine own_by (fun _ => XS.icmpYes X4.here hx rfl (pc0 := 298) (pc' := 308) rfl (hb hby own_d3_298) rfl (tlt hc298_8).1 (by decide) (by decide)) ?_
            show own_Go p e below _ (T4.setTop (mkF m 308 #[.val (.ref ax), .val (.int xi), .val (.int xt), .val (.int xcut), .val (.int ((own_g bs xi) &&& (255 : Int32))), .val (.int ((-2 : Int32) - xi)), .val (.int tn), .val (.int tlo), .val (.int thi), .val (.int v4_t0), .val (.int ((own_g bs (xi + (1 : Int32))) &&& (255 : Int32))), .unset, .unset] []))
            refine own_by (fun _ => XS.iload X4.here hx rfl (hb hby own_d3_308) rfl) ?_
            show own_Go p e below _ (T4.setTop (mkF m 310 #[.val (.ref ax), .val (.int xi), .val (.int xt), .val (.int xcut), .val (.int ((own_g bs xi) &&& (255 : Int32))), .val (.int ((-2 : Int32) - xi)), .val (.int tn), .val (.int tlo), .val (.int thi), .val (.int v4_t0), .val (.int ((own_g bs (xi + (1 : Int32))) &&& (255 : Int32))), .unset, .unset] [(.int ((-2 : Int32) - xi))]))
            exact own_retI X4 hx hlk e4 hret (hb hby own_d3_310) (by decide) (by decide) ⟨(by subst hv4_t0; simp only [own_stail, if_pos hc277_6, if_pos hc298_8]), N4, rfl⟩
          ·
            skip
            refine own_by (fun _ => XS.icmpNo X4.here hx rfl (hb hby own_d3_298) rfl (flt hc298_8).1) ?_
            show own_Go p e below _ (T4.setTop (mkF m 301 #[.val (.ref ax), .val (.int xi), .val (.int xt), .val (.int xcut), .val (.int ((own_g bs xi) &&& (255 : Int32))), .val (.int ((-2 : Int32) - xi)), .val (.int tn), .val (.int tlo), .val (.int thi), .val (.int v4_t0), .val (.int ((own_g bs (xi + (1 : Int32))) &&& (255 : Int32))), .unset, .unset] []))
            refine own_by (fun _ => XS.iload X4.here hx rfl (hb hby own_d3_301) rfl) ?_
            show own_Go p e below _ (T4.setTop (mkF m 303 #[.val (.ref ax), .val (.int xi), .val (.int xt), .val (.int xcut), .val (.int ((own_g bs xi) &&& (255 : Int32))), .val (.int ((-2 : Int32) - xi)), .val (.int tn), .val (.int tlo), .val (.int thi), .val (.int v4_t0), .val (.int ((own_g bs (xi + (1 : Int32))) &&& (255 : Int32))), .unset, .unset] [(.int ((own_g bs (xi + (1 : Int32))) &&& (255 : Int32)))]))
            refine own_by (fun _ => XS.iload X4.here hx rfl (hb hby own_d3_303) rfl) ?_
            show own_Go p e below _ (T4.setTop (mkF m 305 #[.val (.ref ax), .val (.int xi), .val (.int xt), .val (.int xcut), .val (.int ((own_g bs xi) &&& (255 : Int32))), .val (.int ((-2 : Int32) - xi)), .val (.int tn), .val (.int tlo), .val (.int thi), .val (.int v4_t0), .val (.int ((own_g bs (xi + (1 : Int32))) &&& (255 : Int32))), .unset, .unset] [(.int thi), (.int ((own_g bs (xi + (1 : Int32))) &&& (255 : Int32)))]))
            by_cases hc305_9 : thi < ((own_g bs (xi + (1 : Int32))) &&& (255 : Int32))
            ·
              skip
              refine own_by (fun _ => XS.icmpNo X4.here hx rfl (hb hby own_d3_305) rfl (tlt hc305_9).2.2.2) ?_
              show own_Go p e below _ (T4.setTop (mkF m 308 #[.val (.ref ax), .val (.int xi), .val (.int xt), .val (.int xcut), .val (.int ((own_g bs xi) &&& (255 : Int32))), .val (.int ((-2 : Int32) - xi)), .val (.int tn), .val (.int tlo), .val (.int thi), .val (.int v4_t0), .val (.int ((own_g bs (xi + (1 : Int32))) &&& (255 : Int32))), .unset, .unset] []))
              refine own_by (fun _ => XS.iload X4.here hx rfl (hb hby own_d3_308) rfl) ?_
              show own_Go p e below _ (T4.setTop (mkF m 310 #[.val (.ref ax), .val (.int xi), .val (.int xt), .val (.int xcut), .val (.int ((own_g bs xi) &&& (255 : Int32))), .val (.int ((-2 : Int32) - xi)), .val (.int tn), .val (.int tlo), .val (.int thi), .val (.int v4_t0), .val (.int ((own_g bs (xi + (1 : Int32))) &&& (255 : Int32))), .unset, .unset] [(.int ((-2 : Int32) - xi))]))
              exact own_retI X4 hx hlk e4 hret (hb hby own_d3_310) (by decide) (by decide) ⟨(by subst hv4_t0; simp only [own_stail, if_pos hc277_6, if_neg hc298_8, if_pos hc305_9]), N4, rfl⟩
            ·
              skip
              refine own_by (fun _ => XS.icmpYes X4.here hx rfl (pc0 := 305) (pc' := 311) rfl (hb hby own_d3_305) rfl (flt hc305_9).2.2.2 (by decide) (by decide)) ?_
              show own_Go p e below _ (T4.setTop (mkF m 311 #[.val (.ref ax), .val (.int xi), .val (.int xt), .val (.int xcut), .val (.int ((own_g bs xi) &&& (255 : Int32))), .val (.int ((-2 : Int32) - xi)), .val (.int tn), .val (.int tlo), .val (.int thi), .val (.int v4_t0), .val (.int ((own_g bs (xi + (1 : Int32))) &&& (255 : Int32))), .unset, .unset] []))
              refine own_by (fun _ => XS.iload X4.here hx rfl (hb hby own_d3_311) rfl) ?_
              show own_Go p e below _ (T4.setTop (mkF m 313 #[.val (.ref ax), .val (.int xi), .val (.int xt), .val (.int xcut), .val (.int ((own_g bs xi) &&& (255 : Int32))), .val (.int ((-2 : Int32) - xi)), .val (.int tn), .val (.int tlo), .val (.int thi), .val (.int v4_t0), .val (.int ((own_g bs (xi + (1 : Int32))) &&& (255 : Int32))), .unset, .unset] [(.int tn)]))
              refine own_by (fun _ => XS.iconst X4.here hx rfl (hb hby own_d3_313)) ?_
              show own_Go p e below _ (T4.setTop (mkF m 314 #[.val (.ref ax), .val (.int xi), .val (.int xt), .val (.int xcut), .val (.int ((own_g bs xi) &&& (255 : Int32))), .val (.int ((-2 : Int32) - xi)), .val (.int tn), .val (.int tlo), .val (.int thi), .val (.int v4_t0), .val (.int ((own_g bs (xi + (1 : Int32))) &&& (255 : Int32))), .unset, .unset] [(.int (2 : Int32)), (.int tn)]))
              by_cases hc314_10 : tn = (2 : Int32)
              ·
                skip
                refine own_by (fun _ => XS.icmpNo X4.here hx rfl (hb hby own_d3_314) rfl (teq hc314_10).2) ?_
                show own_Go p e below _ (T4.setTop (mkF m 317 #[.val (.ref ax), .val (.int xi), .val (.int xt), .val (.int xcut), .val (.int ((own_g bs xi) &&& (255 : Int32))), .val (.int ((-2 : Int32) - xi)), .val (.int tn), .val (.int tlo), .val (.int thi), .val (.int v4_t0), .val (.int ((own_g bs (xi + (1 : Int32))) &&& (255 : Int32))), .unset, .unset] []))
                refine own_by (fun _ => XS.iloadN X4.here hx rfl (hb hby own_d3_317) rfl) ?_
                show own_Go p e below _ (T4.setTop (mkF m 318 #[.val (.ref ax), .val (.int xi), .val (.int xt), .val (.int xcut), .val (.int ((own_g bs xi) &&& (255 : Int32))), .val (.int ((-2 : Int32) - xi)), .val (.int tn), .val (.int tlo), .val (.int thi), .val (.int v4_t0), .val (.int ((own_g bs (xi + (1 : Int32))) &&& (255 : Int32))), .unset, .unset] [(.int xi)]))
                refine own_by (fun _ => XS.iconst X4.here hx rfl (hb hby own_d3_318)) ?_
                show own_Go p e below _ (T4.setTop (mkF m 319 #[.val (.ref ax), .val (.int xi), .val (.int xt), .val (.int xcut), .val (.int ((own_g bs xi) &&& (255 : Int32))), .val (.int ((-2 : Int32) - xi)), .val (.int tn), .val (.int tlo), .val (.int thi), .val (.int v4_t0), .val (.int ((own_g bs (xi + (1 : Int32))) &&& (255 : Int32))), .unset, .unset] [(.int (2 : Int32)), (.int xi)]))
                refine own_by (fun _ => XS.iadd X4.here hx rfl (hb hby own_d3_319) rfl) ?_
                show own_Go p e below _ (T4.setTop (mkF m 320 #[.val (.ref ax), .val (.int xi), .val (.int xt), .val (.int xcut), .val (.int ((own_g bs xi) &&& (255 : Int32))), .val (.int ((-2 : Int32) - xi)), .val (.int tn), .val (.int tlo), .val (.int thi), .val (.int v4_t0), .val (.int ((own_g bs (xi + (1 : Int32))) &&& (255 : Int32))), .unset, .unset] [(.int (xi + (2 : Int32)))]))
                exact own_retI X4 hx hlk e4 hret (hb hby own_d3_320) (by decide) (by decide) ⟨(by subst hv4_t0; simp only [own_stail, if_pos hc277_6, if_neg hc298_8, if_neg hc305_9, if_pos hc314_10]), N4, rfl⟩
              ·
                skip
                refine own_by (fun _ => XS.icmpYes X4.here hx rfl (pc0 := 314) (pc' := 321) rfl (hb hby own_d3_314) rfl (feq hc314_10).2 (by decide) (by decide)) ?_
                show own_Go p e below _ (T4.setTop (mkF m 321 #[.val (.ref ax), .val (.int xi), .val (.int xt), .val (.int xcut), .val (.int ((own_g bs xi) &&& (255 : Int32))), .val (.int ((-2 : Int32) - xi)), .val (.int tn), .val (.int tlo), .val (.int thi), .val (.int v4_t0), .val (.int ((own_g bs (xi + (1 : Int32))) &&& (255 : Int32))), .unset, .unset] []))
                refine own_by (fun _ => XS.iloadN X4.here hx rfl (hb hby own_d3_321) rfl) ?_
                show own_Go p e below _ (T4.setTop (mkF m 322 #[.val (.ref ax), .val (.int xi), .val (.int xt), .val (.int xcut), .val (.int ((own_g bs xi) &&& (255 : Int32))), .val (.int ((-2 : Int32) - xi)), .val (.int tn), .val (.int tlo), .val (.int thi), .val (.int v4_t0), .val (.int ((own_g bs (xi + (1 : Int32))) &&& (255 : Int32))), .unset, .unset] [(.int xi)]))
                refine own_by (fun _ => XS.iconst X4.here hx rfl (hb hby own_d3_322)) ?_
                show own_Go p e below _ (T4.setTop (mkF m 323 #[.val (.ref ax), .val (.int xi), .val (.int xt), .val (.int xcut), .val (.int ((own_g bs xi) &&& (255 : Int32))), .val (.int ((-2 : Int32) - xi)), .val (.int tn), .val (.int tlo), .val (.int thi), .val (.int v4_t0), .val (.int ((own_g bs (xi + (1 : Int32))) &&& (255 : Int32))), .unset, .unset] [(.int (2 : Int32)), (.int xi)]))
                refine own_by (fun _ => XS.iadd X4.here hx rfl (hb hby own_d3_323) rfl) ?_
                show own_Go p e below _ (T4.setTop (mkF m 324 #[.val (.ref ax), .val (.int xi), .val (.int xt), .val (.int xcut), .val (.int ((own_g bs xi) &&& (255 : Int32))), .val (.int ((-2 : Int32) - xi)), .val (.int tn), .val (.int tlo), .val (.int thi), .val (.int v4_t0), .val (.int ((own_g bs (xi + (1 : Int32))) &&& (255 : Int32))), .unset, .unset] [(.int (xi + (2 : Int32)))]))
                refine own_by (fun _ => XS.iloadN X4.here hx rfl (hb hby own_d3_324) rfl) ?_
                show own_Go p e below _ (T4.setTop (mkF m 325 #[.val (.ref ax), .val (.int xi), .val (.int xt), .val (.int xcut), .val (.int ((own_g bs xi) &&& (255 : Int32))), .val (.int ((-2 : Int32) - xi)), .val (.int tn), .val (.int tlo), .val (.int thi), .val (.int v4_t0), .val (.int ((own_g bs (xi + (1 : Int32))) &&& (255 : Int32))), .unset, .unset] [(.int xt), (.int (xi + (2 : Int32)))]))
                by_cases hc325_11 : (xi + (2 : Int32)) < xt
                ·
                  skip
                  refine own_by (fun _ => XS.icmpYes X4.here hx rfl (pc0 := 325) (pc' := 331) rfl (hb hby own_d3_325) rfl (tlt hc325_11).1 (by decide) (by decide)) ?_
                  show own_Go p e below _ (T4.setTop (mkF m 331 #[.val (.ref ax), .val (.int xi), .val (.int xt), .val (.int xcut), .val (.int ((own_g bs xi) &&& (255 : Int32))), .val (.int ((-2 : Int32) - xi)), .val (.int tn), .val (.int tlo), .val (.int thi), .val (.int v4_t0), .val (.int ((own_g bs (xi + (1 : Int32))) &&& (255 : Int32))), .unset, .unset] []))
                  refine own_by (fun _ => XS.aloadN X4.here hx rfl (hb hby own_d3_331) rfl rfl) ?_
                  show own_Go p e below _ (T4.setTop (mkF m 332 #[.val (.ref ax), .val (.int xi), .val (.int xt), .val (.int xcut), .val (.int ((own_g bs xi) &&& (255 : Int32))), .val (.int ((-2 : Int32) - xi)), .val (.int tn), .val (.int tlo), .val (.int thi), .val (.int v4_t0), .val (.int ((own_g bs (xi + (1 : Int32))) &&& (255 : Int32))), .unset, .unset] [(.ref ax)]))
                  refine own_by (fun _ => XS.iloadN X4.here hx rfl (hb hby own_d3_332) rfl) ?_
                  show own_Go p e below _ (T4.setTop (mkF m 333 #[.val (.ref ax), .val (.int xi), .val (.int xt), .val (.int xcut), .val (.int ((own_g bs xi) &&& (255 : Int32))), .val (.int ((-2 : Int32) - xi)), .val (.int tn), .val (.int tlo), .val (.int thi), .val (.int v4_t0), .val (.int ((own_g bs (xi + (1 : Int32))) &&& (255 : Int32))), .unset, .unset] [(.int xi), (.ref ax)]))
                  refine own_by (fun _ => XS.iconst X4.here hx rfl (hb hby own_d3_333)) ?_
                  show own_Go p e below _ (T4.setTop (mkF m 334 #[.val (.ref ax), .val (.int xi), .val (.int xt), .val (.int xcut), .val (.int ((own_g bs xi) &&& (255 : Int32))), .val (.int ((-2 : Int32) - xi)), .val (.int tn), .val (.int tlo), .val (.int thi), .val (.int v4_t0), .val (.int ((own_g bs (xi + (1 : Int32))) &&& (255 : Int32))), .unset, .unset] [(.int (2 : Int32)), (.int xi), (.ref ax)]))
                  refine own_by (fun _ => XS.iadd X4.here hx rfl (hb hby own_d3_334) rfl) ?_
                  show own_Go p e below _ (T4.setTop (mkF m 335 #[.val (.ref ax), .val (.int xi), .val (.int xt), .val (.int xcut), .val (.int ((own_g bs xi) &&& (255 : Int32))), .val (.int ((-2 : Int32) - xi)), .val (.int tn), .val (.int tlo), .val (.int thi), .val (.int v4_t0), .val (.int ((own_g bs (xi + (1 : Int32))) &&& (255 : Int32))), .unset, .unset] [(.int (xi + (2 : Int32))), (.ref ax)]))
                  obtain ⟨cl12, ar12, q12, sz12, nn12, hs12, gs12⟩ := id pf0
                  have hin12 : ¬ ((xi + (2 : Int32)) < 0 ∨ cl12.slots.size ≤ ((xi + (2 : Int32))).toNatClampNeg) := inb_of sz12 (own_ixk _ (by decide) (by decide) hlo hc2_1 hto hc325_11)
                  refine own_by (X4.baloadBytes hx (j := (xi + (2 : Int32))) (v := (.int (own_g bs (xi + (2 : Int32))))) (by rw [e4]; exact ar12.1) (State.isArrayOf_alike hZ.alike ar12.2.1) ar12.2.2 hin12 (hs12.at hin12 (own_g_eq bs (xi + (2 : Int32)))) (g := (mkF m 335 #[.val (.ref ax), .val (.int xi), .val (.int xt), .val (.int xcut), .val (.int ((own_g bs xi) &&& (255 : Int32))), .val (.int ((-2 : Int32) - xi)), .val (.int tn), .val (.int tlo), .val (.int thi), .val (.int v4_t0), .val (.int ((own_g bs (xi + (1 : Int32))) &&& (255 : Int32))), .unset, .unset] [(.int (xi + (2 : Int32))), (.ref ax)])) rfl rfl (hb hby own_d3_335)) ?_
                  show own_Go p e below _ (T4.setTop (mkF m 336 #[.val (.ref ax), .val (.int xi), .val (.int xt), .val (.int xcut), .val (.int ((own_g bs xi) &&& (255 : Int32))), .val (.int ((-2 : Int32) - xi)), .val (.int tn), .val (.int tlo), .val (.int thi), .val (.int v4_t0), .val (.int ((own_g bs (xi + (1 : Int32))) &&& (255 : Int32))), .unset, .unset] [(.int (own_g bs (xi + (2 : Int32))))]))
                  refine own_by (fun _ => XS.sipush X4.here hx rfl (hb hby own_d3_336)) ?_
                  show own_Go p e below _ (T4.setTop (mkF m 339 #[.val (.ref ax), .val (.int xi), .val (.int xt), .val (.int xcut), .val (.int ((own_g bs xi) &&& (255 : Int32))), .val (.int ((-2 : Int32) - xi)), .val (.int tn), .val (.int tlo), .val (.int thi), .val (.int v4_t0), .val (.int ((own_g bs (xi + (1 : Int32))) &&& (255 : Int32))), .unset, .unset] [(.int (255 : Int32)), (.int (own_g bs (xi + (2 : Int32))))]))
                  refine own_by (fun _ => XS.iand X4.here hx rfl (hb hby own_d3_339) rfl) ?_
                  show own_Go p e below _ (T4.setTop (mkF m 340 #[.val (.ref ax), .val (.int xi), .val (.int xt), .val (.int xcut), .val (.int ((own_g bs xi) &&& (255 : Int32))), .val (.int ((-2 : Int32) - xi)), .val (.int tn), .val (.int tlo), .val (.int thi), .val (.int v4_t0), .val (.int ((own_g bs (xi + (1 : Int32))) &&& (255 : Int32))), .unset, .unset] [(.int ((own_g bs (xi + (2 : Int32))) &&& (255 : Int32)))]))
                  refine own_by (fun _ => XS.istore X4.here hx rfl (hb hby own_d3_340) rfl (l' := #[.val (.ref ax), .val (.int xi), .val (.int xt), .val (.int xcut), .val (.int ((own_g bs xi) &&& (255 : Int32))), .val (.int ((-2 : Int32) - xi)), .val (.int tn), .val (.int tlo), .val (.int thi), .val (.int v4_t0), .val (.int ((own_g bs (xi + (1 : Int32))) &&& (255 : Int32))), .val (.int ((own_g bs (xi + (2 : Int32))) &&& (255 : Int32))), .unset]) rfl) ?_
                  show own_Go p e below _ (T4.setTop (mkF m 342 #[.val (.ref ax), .val (.int xi), .val (.int xt), .val (.int xcut), .val (.int ((own_g bs xi) &&& (255 : Int32))), .val (.int ((-2 : Int32) - xi)), .val (.int tn), .val (.int tlo), .val (.int thi), .val (.int v4_t0), .val (.int ((own_g bs (xi + (1 : Int32))) &&& (255 : Int32))), .val (.int ((own_g bs (xi + (2 : Int32))) &&& (255 : Int32))), .unset] []))
                  refine own_by (fun _ => XS.iload X4.here hx rfl (hb hby own_d3_342) rfl) ?_
                  show own_Go p e below _ (T4.setTop (mkF m 344 #[.val (.ref ax), .val (.int xi), .val (.int xt), .val (.int xcut), .val (.int ((own_g bs xi) &&& (255 : Int32))), .val (.int ((-2 : Int32) - xi)), .val (.int tn), .val (.int tlo), .val (.int thi), .val (.int v4_t0), .val (.int ((own_g bs (xi + (1 : Int32))) &&& (255 : Int32))), .val (.int ((own_g bs (xi + (2 : Int32))) &&& (255 : Int32))), .unset] [(.int ((own_g bs (xi + (2 : Int32))) &&& (255 : Int32)))]))
                  refine own_by (fun _ => XS.sipush X4.here hx rfl (hb hby own_d3_344)) ?_
                  show own_Go p e below _ (T4.setTop (mkF m 347 #[.val (.ref ax), .val (.int xi), .val (.int xt), .val (.int xcut), .val (.int ((own_g bs xi) &&& (255 : Int32))), .val (.int ((-2 : Int32) - xi)), .val (.int tn), .val (.int tlo), .val (.int thi), .val (.int v4_t0), .val (.int ((own_g bs (xi + (1 : Int32))) &&& (255 : Int32))), .val (.int ((own_g bs (xi + (2 : Int32))) &&& (255 : Int32))), .unset] [(.int (128 : Int32)), (.int ((own_g bs (xi + (2 : Int32))) &&& (255 : Int32)))]))
                  by_cases hc347_13 : ((own_g bs (xi + (2 : Int32))) &&& (255 : Int32)) < (128 : Int32)
                  ·
                    skip
                    refine own_by (fun _ => XS.icmpYes X4.here hx rfl (pc0 := 347) (pc' := 358) rfl (hb hby own_d3_347) rfl (tlt hc347_13).1 (by decide) (by decide)) ?_
                    show own_Go p e below _ (T4.setTop (mkF m 358 #[.val (.ref ax), .val (.int xi), .val (.int xt), .val (.int xcut), .val (.int ((own_g bs xi) &&& (255 : Int32))), .val (.int ((-2 : Int32) - xi)), .val (.int tn), .val (.int tlo), .val (.int thi), .val (.int v4_t0), .val (.int ((own_g bs (xi + (1 : Int32))) &&& (255 : Int32))), .val (.int ((own_g bs (xi + (2 : Int32))) &&& (255 : Int32))), .unset] []))
                    refine own_by (fun _ => XS.iload X4.here hx rfl (hb hby own_d3_358) rfl) ?_
                    show own_Go p e below _ (T4.setTop (mkF m 360 #[.val (.ref ax), .val (.int xi), .val (.int xt), .val (.int xcut), .val (.int ((own_g bs xi) &&& (255 : Int32))), .val (.int ((-2 : Int32) - xi)), .val (.int tn), .val (.int tlo), .val (.int thi), .val (.int v4_t0), .val (.int ((own_g bs (xi + (1 : Int32))) &&& (255 : Int32))), .val (.int ((own_g bs (xi + (2 : Int32))) &&& (255 : Int32))), .unset] [(.int ((-2 : Int32) - xi))]))
                    exact own_retI X4 hx hlk e4 hret (hb hby own_d3_360) (by decide) (by decide) ⟨(by subst hv4_t0; simp only [own_stail, if_pos hc277_6, if_neg hc298_8, if_neg hc305_9, if_neg hc314_10, if_pos hc325_11, if_pos hc347_13]), N4, rfl⟩
                  ·
                    skip
                    refine own_by (fun _ => XS.icmpNo X4.here hx rfl (hb hby own_d3_347) rfl (flt hc347_13).1) ?_
                    show own_Go p e below _ (T4.setTop (mkF m 350 #[.val (.ref ax), .val (.int xi), .val (.int xt), .val (.int xcut), .val (.int ((own_g bs xi) &&& (255 : Int32))), .val (.int ((-2 : Int32) - xi)), .val (.int tn), .val (.int tlo), .val (.int thi), .val (.int v4_t0), .val (.int ((own_g bs (xi + (1 : Int32))) &&& (255 : Int32))), .val (.int ((own_g bs (xi + (2 : Int32))) &&& (255 : Int32))), .unset] []))
                    refine own_by (fun _ => XS.iload X4.here hx rfl (hb hby own_d3_350) rfl) ?_
                    show own_Go p e below _ (T4.setTop (mkF m 352 #[.val (.ref ax), .val (.int xi), .val (.int xt), .val (.int xcut), .val (.int ((own_g bs xi) &&& (255 : Int32))), .val (.int ((-2 : Int32) - xi)), .val (.int tn), .val (.int tlo), .val (.int thi), .val (.int v4_t0), .val (.int ((own_g bs (xi + (1 : Int32))) &&& (255 : Int32))), .val (.int ((own_g bs (xi + (2 : Int32))) &&& (255 : Int32))), .unset] [(.int ((own_g bs (xi + (2 : Int32))) &&& (255 : Int32)))]))
                    refine own_by (fun _ => XS.sipush X4.here hx rfl (hb hby own_d3_352)) ?_
                    show own_Go p e below _ (T4.setTop (mkF m 355 #[.val (.ref ax), .val (.int xi), .val (.int xt), .val (.int xcut), .val (.int ((own_g bs xi) &&& (255 : Int32))), .val (.int ((-2 : Int32) - xi)), .val (.int tn), .val (.int tlo), .val (.int thi), .val (.int v4_t0), .val (.int ((own_g bs (xi + (1 : Int32))) &&& (255 : Int32))), .val (.int ((own_g bs (xi + (2 : Int32))) &&& (255 : Int32))), .unset] [(.int (191 : Int32)), (.int ((own_g bs (xi + (2 : Int32))) &&& (255 : Int32)))]))
                    by_cases hc355_14 : (191 : Int32) < ((own_g bs (xi + (2 : Int32))) &&& (255 : Int32))
                    ·
                      skip
                      refine own_by (fun _ => XS.icmpNo X4.here hx rfl (hb hby own_d3_355) rfl (tlt hc355_14).2.2.2) ?_
                      show own_Go p e below _ (T4.setTop (mkF m 358 #[.val (.ref ax), .val (.int xi), .val (.int xt), .val (.int xcut), .val (.int ((own_g bs xi) &&& (255 : Int32))), .val (.int ((-2 : Int32) - xi)), .val (.int tn), .val (.int tlo), .val (.int thi), .val (.int v4_t0), .val (.int ((own_g bs (xi + (1 : Int32))) &&& (255 : Int32))), .val (.int ((own_g bs (xi + (2 : Int32))) &&& (255 : Int32))), .unset] []))
                      refine own_by (fun _ => XS.iload X4.here hx rfl (hb hby own_d3_358) rfl) ?_
                      show own_Go p e below _ (T4.setTop (mkF m 360 #[.val (.ref ax), .val (.int xi), .val (.int xt), .val (.int xcut), .val (.int ((own_g bs xi) &&& (255 : Int32))), .val (.int ((-2 : Int32) - xi)), .val (.int tn), .val (.int tlo), .val (.int thi), .val (.int v4_t0), .val (.int ((own_g bs (xi + (1 : Int32))) &&& (255 : Int32))), .val (.int ((own_g bs (xi + (2 : Int32))) &&& (255 : Int32))), .unset] [(.int ((-2 : Int32) - xi))]))
                      exact own_retI X4 hx hlk e4 hret (hb hby own_d3_360) (by decide) (by decide) ⟨(by subst hv4_t0; simp only [own_stail, if_pos hc277_6, if_neg hc298_8, if_neg hc305_9, if_neg hc314_10, if_pos hc325_11, if_neg hc347_13, if_pos hc355_14]), N4, rfl⟩
                    ·
                      skip
                      refine own_by (fun _ => XS.icmpYes X4.here hx rfl (pc0 := 355) (pc' := 361) rfl (hb hby own_d3_355) rfl (flt hc355_14).2.2.2 (by decide) (by decide)) ?_
                      show own_Go p e below _ (T4.setTop (mkF m 361 #[.val (.ref ax), .val (.int xi), .val (.int xt), .val (.int xcut), .val (.int ((own_g bs xi) &&& (255 : Int32))), .val (.int ((-2 : Int32) - xi)), .val (.int tn), .val (.int tlo), .val (.int thi), .val (.int v4_t0), .val (.int ((own_g bs (xi + (1 : Int32))) &&& (255 : Int32))), .val (.int ((own_g bs (xi + (2 : Int32))) &&& (255 : Int32))), .unset] []))
                      refine own_by (fun _ => XS.iload X4.here hx rfl (hb hby own_d3_361) rfl) ?_
                      show own_Go p e below _ (T4.setTop (mkF m 363 #[.val (.ref ax), .val (.int xi), .val (.int xt), .val (.int xcut), .val (.int ((own_g bs xi) &&& (255 : Int32))), .val (.int ((-2 : Int32) - xi)), .val (.int tn), .val (.int tlo), .val (.int thi), .val (.int v4_t0), .val (.int ((own_g bs (xi + (1 : Int32))) &&& (255 : Int32))), .val (.int ((own_g bs (xi + (2 : Int32))) &&& (255 : Int32))), .unset] [(.int tn)]))
                      refine own_by (fun _ => XS.iconst X4.here hx rfl (hb hby own_d3_363)) ?_
                      show own_Go p e below _ (T4.setTop (mkF m 364 #[.val (.ref ax), .val (.int xi), .val (.int xt), .val (.int xcut), .val (.int ((own_g bs xi) &&& (255 : Int32))), .val (.int ((-2 : Int32) - xi)), .val (.int tn), .val (.int tlo), .val (.int thi), .val (.int v4_t0), .val (.int ((own_g bs (xi + (1 : Int32))) &&& (255 : Int32))), .val (.int ((own_g bs (xi + (2 : Int32))) &&& (255 : Int32))), .unset] [(.int (3 : Int32)), (.int tn)]))
                      by_cases hc364_15 : tn = (3 : Int32)
                      ·
                        skip
                        refine own_by (fun _ => XS.icmpNo X4.here hx rfl (hb hby own_d3_364) rfl (teq hc364_15).2) ?_
                        show own_Go p e below _ (T4.setTop (mkF m 367 #[.val (.ref ax), .val (.int xi), .val (.int xt), .val (.int xcut), .val (.int ((own_g bs xi) &&& (255 : Int32))), .val (.int ((-2 : Int32) - xi)), .val (.int tn), .val (.int tlo), .val (.int thi), .val (.int v4_t0), .val (.int ((own_g bs (xi + (1 : Int32))) &&& (255 : Int32))), .val (.int ((own_g bs (xi + (2 : Int32))) &&& (255 : Int32))), .unset] []))
                        refine own_by (fun _ => XS.iloadN X4.here hx rfl (hb hby own_d3_367) rfl) ?_
                        show own_Go p e below _ (T4.setTop (mkF m 368 #[.val (.ref ax), .val (.int xi), .val (.int xt), .val (.int xcut), .val (.int ((own_g bs xi) &&& (255 : Int32))), .val (.int ((-2 : Int32) - xi)), .val (.int tn), .val (.int tlo), .val (.int thi), .val (.int v4_t0), .val (.int ((own_g bs (xi + (1 : Int32))) &&& (255 : Int32))), .val (.int ((own_g bs (xi + (2 : Int32))) &&& (255 : Int32))), .unset] [(.int xi)]))
                        refine own_by (fun _ => XS.iconst X4.here hx rfl (hb hby own_d3_368)) ?_
                        show own_Go p e below _ (T4.setTop (mkF m 369 #[.val (.ref ax), .val (.int xi), .val (.int xt), .val (.int xcut), .val (.int ((own_g bs xi) &&& (255 : Int32))), .val (.int ((-2 : Int32) - xi)), .val (.int tn), .val (.int tlo), .val (.int thi), .val (.int v4_t0), .val (.int ((own_g bs (xi + (1 : Int32))) &&& (255 : Int32))), .val (.int ((own_g bs (xi + (2 : Int32))) &&& (255 : Int32))), .unset] [(.int (3 : Int32)), (.int xi)]))
                        refine own_by (fun _ => XS.iadd X4.here hx rfl (hb hby own_d3_369) rfl) ?_
                        show own_Go p e below _ (T4.setTop (mkF m 370 #[.val (.ref ax), .val (.int xi), .val (.int xt), .val (.int xcut), .val (.int ((own_g bs xi) &&& (255 : Int32))), .val (.int ((-2 : Int32) - xi)), .val (.int tn), .val (.int tlo), .val (.int thi), .val (.int v4_t0), .val (.int ((own_g bs (xi + (1 : Int32))) &&& (255 : Int32))), .val (.int ((own_g bs (xi + (2 : Int32))) &&& (255 : Int32))), .unset] [(.int (xi + (3 : Int32)))]))
                        exact own_retI X4 hx hlk e4 hret (hb hby own_d3_370) (by decide) (by decide) ⟨(by subst hv4_t0; simp only [own_stail, if_pos hc277_6, if_neg hc298_8, if_neg hc305_9, if_neg hc314_10, if_pos hc325_11, if_neg hc347_13, if_neg hc355_14, if_pos hc364_15]), N4, rfl⟩
                      ·
                        skip
                        refine own_by (fun _ => XS.icmpYes X4.here hx rfl (pc0 := 364) (pc' := 371) rfl (hb hby own_d3_364) rfl (feq hc364_15).2 (by decide) (by decide)) ?_
                        show own_Go p e below _ (T4.setTop (mkF m 371 #[.val (.ref ax), .val (.int xi), .val (.int xt), .val (.int xcut), .val (.int ((own_g bs xi) &&& (255 : Int32))), .val (.int ((-2 : Int32) - xi)), .val (.int tn), .val (.int tlo), .val (.int thi), .val (.int v4_t0), .val (.int ((own_g bs (xi + (1 : Int32))) &&& (255 : Int32))), .val (.int ((own_g bs (xi + (2 : Int32))) &&& (255 : Int32))), .unset] []))
                        refine own_by (fun _ => XS.iloadN X4.here hx rfl (hb hby own_d3_371) rfl) ?_
                        show own_Go p e below _ (T4.setTop (mkF m 372 #[.val (.ref ax), .val (.int xi), .val (.int xt), .val (.int xcut), .val (.int ((own_g bs xi) &&& (255 : Int32))), .val (.int ((-2 : Int32) - xi)), .val (.int tn), .val (.int tlo), .val (.int thi), .val (.int v4_t0), .val (.int ((own_g bs (xi + (1 : Int32))) &&& (255 : Int32))), .val (.int ((own_g bs (xi + (2 : Int32))) &&& (255 : Int32))), .unset] [(.int xi)]))
                        refine own_by (fun _ => XS.iconst X4.here hx rfl (hb hby own_d3_372)) ?_
                        show own_Go p e below _ (T4.setTop (mkF m 373 #[.val (.ref ax), .val (.int xi), .val (.int xt), .val (.int xcut), .val (.int ((own_g bs xi) &&& (255 : Int32))), .val (.int ((-2 : Int32) - xi)), .val (.int tn), .val (.int tlo), .val (.int thi), .val (.int v4_t0), .val (.int ((own_g bs (xi + (1 : Int32))) &&& (255 : Int32))), .val (.int ((own_g bs (xi + (2 : Int32))) &&& (255 : Int32))), .unset] [(.int (3 : Int32)), (.int xi)]))
                        refine own_by (fun _ => XS.iadd X4.here hx rfl (hb hby own_d3_373) rfl) ?_
                        show own_Go p e below _ (T4.setTop (mkF m 374 #[.val (.ref ax), .val (.int xi), .val (.int xt), .val (.int xcut), .val (.int ((own_g bs xi) &&& (255 : Int32))), .val (.int ((-2 : Int32) - xi)), .val (.int tn), .val (.int tlo), .val (.int thi), .val (.int v4_t0), .val (.int ((own_g bs (xi + (1 : Int32))) &&& (255 : Int32))), .val (.int ((own_g bs (xi + (2 : Int32))) &&& (255 : Int32))), .unset] [(.int (xi + (3 : Int32)))]))
                        refine own_by (fun _ => XS.iloadN X4.here hx rfl (hb hby own_d3_374) rfl) ?_
                        show own_Go p e below _ (T4.setTop (mkF m 375 #[.val (.ref ax), .val (.int xi), .val (.int xt), .val (.int xcut), .val (.int ((own_g bs xi) &&& (255 : Int32))), .val (.int ((-2 : Int32) - xi)), .val (.int tn), .val (.int tlo), .val (.int thi), .val (.int v4_t0), .val (.int ((own_g bs (xi + (1 : Int32))) &&& (255 : Int32))), .val (.int ((own_g bs (xi + (2 : Int32))) &&& (255 : Int32))), .unset] [(.int xt), (.int (xi + (3 : Int32)))]))
                        by_cases hc375_16 : (xi + (3 : Int32)) < xt
                        ·
                          skip
                          refine own_by (fun _ => XS.icmpYes X4.here hx rfl (pc0 := 375) (pc' := 381) rfl (hb hby own_d3_375) rfl (tlt hc375_16).1 (by decide) (by decide)) ?_
                          show own_Go p e below _ (T4.setTop (mkF m 381 #[.val (.ref ax), .val (.int xi), .val (.int xt), .val (.int xcut), .val (.int ((own_g bs xi) &&& (255 : Int32))), .val (.int ((-2 : Int32) - xi)), .val (.int tn), .val (.int tlo), .val (.int thi), .val (.int v4_t0), .val (.int ((own_g bs (xi + (1 : Int32))) &&& (255 : Int32))), .val (.int ((own_g bs (xi + (2 : Int32))) &&& (255 : Int32))), .unset] []))
                          refine own_by (fun _ => XS.aloadN X4.here hx rfl (hb hby own_d3_381) rfl rfl) ?_
                          show own_Go p e below _ (T4.setTop (mkF m 382 #[.val (.ref ax), .val (.int xi), .val (.int xt), .val (.int xcut), .val (.int ((own_g bs xi) &&& (255 : Int32))), .val (.int ((-2 : Int32) - xi)), .val (.int tn), .val (.int tlo), .val (.int thi), .val (.int v4_t0), .val (.int ((own_g bs (xi + (1 : Int32))) &&& (255 : Int32))), .val (.int ((own_g bs (xi + (2 : Int32))) &&& (255 : Int32))), .unset] [(.ref ax)]))
                          refine own_by (fun _ => XS.iloadN X4.here hx rfl (hb hby own_d3_382) rfl) ?_
                          show own_Go p e below _ (T4.setTop (mkF m 383 #[.val (.ref ax), .val (.int xi), .val (.int xt), .val (.int xcut), .val (.int ((own_g bs xi) &&& (255 : Int32))), .val (.int ((-2 : Int32) - xi)), .val (.int tn), .val (.int tlo), .val (.int thi), .val (.int v4_t0), .val (.int ((own_g bs (xi + (1 : Int32))) &&& (255 : Int32))), .val (.int ((own_g bs (xi + (2 : Int32))) &&& (255 : Int32))), .unset] [(.int xi), (.ref ax)]))
                          refine own_by (fun _ => XS.iconst X4.here hx rfl (hb hby own_d3_383)) ?_
                          show own_Go p e below _ (T4.setTop (mkF m 384 #[.val (.ref ax), .val (.int xi), .val (.int xt), .val (.int xcut), .val (.int ((own_g bs xi) &&& (255 : Int32))), .val (.int ((-2 : Int32) - xi)), .val (.int tn), .val (.int tlo), .val (.int thi), .val (.int v4_t0), .val (.int ((own_g bs (xi + (1 : Int32))) &&& (255 : Int32))), .val (.int ((own_g bs (xi + (2 : Int32))) &&& (255 : Int32))), .unset] [(.int (3 : Int32)), (.int xi), (.ref ax)]))
                          refine own_by (fun _ => XS.iadd X4.here hx rfl (hb hby own_d3_384) rfl) ?_
                          show own_Go p e below _ (T4.setTop (mkF m 385 #[.val (.ref ax), .val (.int xi), .val (.int xt), .val (.int xcut), .val (.int ((own_g bs xi) &&& (255 : Int32))), .val (.int ((-2 : Int32) - xi)), .val (.int tn), .val (.int tlo), .val (.int thi), .val (.int v4_t0), .val (.int ((own_g bs (xi + (1 : Int32))) &&& (255 : Int32))), .val (.int ((own_g bs (xi + (2 : Int32))) &&& (255 : Int32))), .unset] [(.int (xi + (3 : Int32))), (.ref ax)]))
                          obtain ⟨cl17, ar17, q17, sz17, nn17, hs17, gs17⟩ := id pf0
                          have hin17 : ¬ ((xi + (3 : Int32)) < 0 ∨ cl17.slots.size ≤ ((xi + (3 : Int32))).toNatClampNeg) := inb_of sz17 (own_ixk _ (by decide) (by decide) hlo hc2_1 hto hc375_16)
                          refine own_by (X4.baloadBytes hx (j := (xi + (3 : Int32))) (v := (.int (own_g bs (xi + (3 : Int32))))) (by rw [e4]; exact ar17.1) (State.isArrayOf_alike hZ.alike ar17.2.1) ar17.2.2 hin17 (hs17.at hin17 (own_g_eq bs (xi + (3 : Int32)))) (g := (mkF m 385 #[.val (.ref ax), .val (.int xi), .val (.int xt), .val (.int xcut), .val (.int ((own_g bs xi) &&& (255 : Int32))), .val (.int ((-2 : Int32) - xi)), .val (.int tn), .val (.int tlo), .val (.int thi), .val (.int v4_t0), .val (.int ((own_g bs (xi + (1 : Int32))) &&& (255 : Int32))), .val (.int ((own_g bs (xi + (2 : Int32))) &&& (255 : Int32))), .unset] [(.int (xi + (3 : Int32))), (.ref ax)])) rfl rfl (hb hby own_d3_385)) ?_
                          show own_Go p e below _ (T4.setTop (mkF m 386 #[.val (.ref ax), .val (.int xi), .val (.int xt), .val (.int xcut), .val (.int ((own_g bs xi) &&& (255 : Int32))), .val (.int ((-2 : Int32) - xi)), .val (.int tn), .val (.int tlo), .val (.int thi), .val (.int v4_t0), .val (.int ((own_g bs (xi + (1 : Int32))) &&& (255 : Int32))), .val (.int ((own_g bs (xi + (2 : Int32))) &&& (255 : Int32))), .unset] [(.int (own_g bs (xi + (3 : Int32))))]))
                          refine own_by (fun _ => XS.sipush X4.here hx rfl (hb hby own_d3_386)) ?_
                          show own_Go p e below _ (T4.setTop (mkF m 389 #[.val (.ref ax), .val (.int xi), .val (.int xt), .val (.int xcut), .val (.int ((own_g bs xi) &&& (255 : Int32))), .val (.int ((-2 : Int32) - xi)), .val (.int tn), .val (.int tlo), .val (.int thi), .val (.int v4_t0), .val (.int ((own_g bs (xi + (1 : Int32))) &&& (255 : Int32))), .val (.int ((own_g bs (xi + (2 : Int32))) &&& (255 : Int32))), .unset] [(.int (255 : Int32)), (.int (own_g bs (xi + (3 : Int32))))]))
                          refine own_by (fun _ => XS.iand X4.here hx rfl (hb hby own_d3_389) rfl) ?_
                          show own_Go p e below _ (T4.setTop (mkF m 390 #[.val (.ref ax), .val (.int xi), .val (.int xt), .val (.int xcut), .val (.int ((own_g bs xi) &&& (255 : Int32))), .val (.int ((-2 : Int32) - xi)), .val (.int tn), .val (.int tlo), .val (.int thi), .val (.int v4_t0), .val (.int ((own_g bs (xi + (1 : Int32))) &&& (255 : Int32))), .val (.int ((own_g bs (xi + (2 : Int32))) &&& (255 : Int32))), .unset] [(.int ((own_g bs (xi + (3 : Int32))) &&& (255 : Int32)))]))
                          refine own_by (fun _ => XS.istore X4.here hx rfl (hb hby own_d3_390) rfl (l' := #[.val (.ref ax), .val (.int xi), .val (.int xt), .val (.int xcut), .val (.int ((own_g bs xi) &&& (255 : Int32))), .val (.int ((-2 : Int32) - xi)), .val (.int tn), .val (.int tlo), .val (.int thi), .val (.int v4_t0), .val (.int ((own_g bs (xi + (1 : Int32))) &&& (255 : Int32))), .val (.int ((own_g bs (xi + (2 : Int32))) &&& (255 : Int32))), .val (.int ((own_g bs (xi + (3 : Int32))) &&& (255 : Int32)))]) rfl) ?_
                          show own_Go p e below _ (T4.setTop (mkF m 392 #[.val (.ref ax), .val (.int xi), .val (.int xt), .val (.int xcut), .val (.int ((own_g bs xi) &&& (255 : Int32))), .val (.int ((-2 : Int32) - xi)), .val (.int tn), .val (.int tlo), .val (.int thi), .val (.int v4_t0), .val (.int ((own_g bs (xi + (1 : Int32))) &&& (255 : Int32))), .val (.int ((own_g bs (xi + (2 : Int32))) &&& (255 : Int32))), .val (.int ((own_g bs (xi + (3 : Int32))) &&& (255 : Int32)))] []))
                          refine own_by (fun _ => XS.iload X4.here hx rfl (hb hby own_d3_392) rfl) ?_
                          show own_Go p e below _ (T4.setTop (mkF m 394 #[.val (.ref ax), .val (.int xi), .val (.int xt), .val (.int xcut), .val (.int ((own_g bs xi) &&& (255 : Int32))), .val (.int ((-2 : Int32) - xi)), .val (.int tn), .val (.int tlo), .val (.int thi), .val (.int v4_t0), .val (.int ((own_g bs (xi + (1 : Int32))) &&& (255 : Int32))), .val (.int ((own_g bs (xi + (2 : Int32))) &&& (255 : Int32))), .val (.int ((own_g bs (xi + (3 : Int32))) &&& (255 : Int32)))] [(.int ((own_g bs (xi + (3 : Int32))) &&& (255 : Int32)))]))
                          refine own_by (fun _ => XS.sipush X4.here hx rfl (hb hby own_d3_394)) ?_
                          show own_Go p e below _ (T4.setTop (mkF m 397 #[.val (.ref ax), .val (.int xi), .val (.int xt), .val (.int xcut), .val (.int ((own_g bs xi) &&& (255 : Int32))), .val (.int ((-2 : Int32) - xi)), .val (.int tn), .val (.int tlo), .val (.int thi), .val (.int v4_t0), .val (.int ((own_g bs (xi + (1 : Int32))) &&& (255 : Int32))), .val (.int ((own_g bs (xi + (2 : Int32))) &&& (255 : Int32))), .val (.int ((own_g bs (xi + (3 : Int32))) &&& (255 : Int32)))] [(.int (128 : Int32)), (.int ((own_g bs (xi + (3 : Int32))) &&& (255 : Int32)))]))
                          by_cases hc397_18 : ((own_g bs (xi + (3 : Int32))) &&& (255 : Int32)) < (128 : Int32)
                          ·
                            skip
                            refine own_by (fun _ => XS.icmpYes X4.here hx rfl (pc0 := 397) (pc' := 408) rfl (hb hby own_d3_397) rfl (tlt hc397_18).1 (by decide) (by decide)) ?_
                            show own_Go p e below _ (T4.setTop (mkF m 408 #[.val (.ref ax), .val (.int xi), .val (.int xt), .val (.int xcut), .val (.int ((own_g bs xi) &&& (255 : Int32))), .val (.int ((-2 : Int32) - xi)), .val (.int tn), .val (.int tlo), .val (.int thi), .val (.int v4_t0), .val (.int ((own_g bs (xi + (1 : Int32))) &&& (255 : Int32))), .val (.int ((own_g bs (xi + (2 : Int32))) &&& (255 : Int32))), .val (.int ((own_g bs (xi + (3 : Int32))) &&& (255 : Int32)))] []))
                            refine own_by (fun _ => XS.iload X4.here hx rfl (hb hby own_d3_408) rfl) ?_
                            show own_Go p e below _ (T4.setTop (mkF m 410 #[.val (.ref ax), .val (.int xi), .val (.int xt), .val (.int xcut), .val (.int ((own_g bs xi) &&& (255 : Int32))), .val (.int ((-2 : Int32) - xi)), .val (.int tn), .val (.int tlo), .val (.int thi), .val (.int v4_t0), .val (.int ((own_g bs (xi + (1 : Int32))) &&& (255 : Int32))), .val (.int ((own_g bs (xi + (2 : Int32))) &&& (255 : Int32))), .val (.int ((own_g bs (xi + (3 : Int32))) &&& (255 : Int32)))] [(.int ((-2 : Int32) - xi))]))
                            exact own_retI X4 hx hlk e4 hret (hb hby own_d3_410) (by decide) (by decide) ⟨(by subst hv4_t0; simp only [own_stail, if_pos hc277_6, if_neg hc298_8, if_neg hc305_9, if_neg hc314_10, if_pos hc325_11, if_neg hc347_13, if_neg hc355_14, if_neg hc364_15, if_pos hc375_16, if_pos hc397_18]), N4, rfl⟩
                          ·
                            skip
                            refine own_by (fun _ => XS.icmpNo X4.here hx rfl (hb hby own_d3_397) rfl (flt hc397_18).1) ?_
                            show own_Go p e below _ (T4.setTop (mkF m 400 #[.val (.ref ax), .val (.int xi), .val (.int xt), .val (.int xcut), .val (.int ((own_g bs xi) &&& (255 : Int32))), .val (.int ((-2 : Int32) - xi)), .val (.int tn), .val (.int tlo), .val (.int thi), .val (.int v4_t0), .val (.int ((own_g bs (xi + (1 : Int32))) &&& (255 : Int32))), .val (.int ((own_g bs (xi + (2 : Int32))) &&& (255 : Int32))), .val (.int ((own_g bs (xi + (3 : Int32))) &&& (255 : Int32)))] []))
                            refine own_by (fun _ => XS.iload X4.here hx rfl (hb hby own_d3_400) rfl) ?_
                            show own_Go p e below _ (T4.setTop (mkF m 402 #[.val (.ref ax), .val (.int xi), .val (.int xt), .val (.int xcut), .val (.int ((own_g bs xi) &&& (255 : Int32))), .val (.int ((-2 : Int32) - xi)), .val (.int tn), .val (.int tlo), .val (.int thi), .val (.int v4_t0), .val (.int ((own_g bs (xi + (1 : Int32))) &&& (255 : Int32))), .val (.int ((own_g bs (xi + (2 : Int32))) &&& (255 : Int32))), .val (.int ((own_g bs (xi + (3 : Int32))) &&& (255 : Int32)))] [(.int ((own_g bs (xi + (3 : Int32))) &&& (255 : Int32)))]))
                            refine own_by (fun _ => XS.sipush X4.here hx rfl (hb hby own_d3_402)) ?_
                            show own_Go p e below _ (T4.setTop (mkF m 405 #[.val (.ref ax), .val (.int xi), .val (.int xt), .val (.int xcut), .val (.int ((own_g bs xi) &&& (255 : Int32))), .val (.int ((-2 : Int32) - xi)), .val (.int tn), .val (.int tlo), .val (.int thi), .val (.int v4_t0), .val (.int ((own_g bs (xi + (1 : Int32))) &&& (255 : Int32))), .val (.int ((own_g bs (xi + (2 : Int32))) &&& (255 : Int32))), .val (.int ((own_g bs (xi + (3 : Int32))) &&& (255 : Int32)))] [(.int (191 : Int32)), (.int ((own_g bs (xi + (3 : Int32))) &&& (255 : Int32)))]))
                            by_cases hc405_19 : (191 : Int32) < ((own_g bs (xi + (3 : Int32))) &&& (255 : Int32))
                            ·
                              skip
                              refine own_by (fun _ => XS.icmpNo X4.here hx rfl (hb hby own_d3_405) rfl (tlt hc405_19).2.2.2) ?_
                              show own_Go p e below _ (T4.setTop (mkF m 408 #[.val (.ref ax), .val (.int xi), .val (.int xt), .val (.int xcut), .val (.int ((own_g bs xi) &&& (255 : Int32))), .val (.int ((-2 : Int32) - xi)), .val (.int tn), .val (.int tlo), .val (.int thi), .val (.int v4_t0), .val (.int ((own_g bs (xi + (1 : Int32))) &&& (255 : Int32))), .val (.int ((own_g bs (xi + (2 : Int32))) &&& (255 : Int32))), .val (.int ((own_g bs (xi + (3 : Int32))) &&& (255 : Int32)))] []))
                              refine own_by (fun _ => XS.iload X4.here hx rfl (hb hby own_d3_408) rfl) ?_
                              show own_Go p e below _ (T4.setTop (mkF m 410 #[.val (.ref ax), .val (.int xi), .val (.int xt), .val (.int xcut), .val (.int ((own_g bs xi) &&& (255 : Int32))), .val (.int ((-2 : Int32) - xi)), .val (.int tn), .val (.int tlo), .val (.int thi), .val (.int v4_t0), .val (.int ((own_g bs (xi + (1 : Int32))) &&& (255 : Int32))), .val (.int ((own_g bs (xi + (2 : Int32))) &&& (255 : Int32))), .val (.int ((own_g bs (xi + (3 : Int32))) &&& (255 : Int32)))] [(.int ((-2 : Int32) - xi))]))
                              exact own_retI X4 hx hlk e4 hret (hb hby own_d3_410) (by decide) (by decide) ⟨(by subst hv4_t0; simp only [own_stail, if_pos hc277_6, if_neg hc298_8, if_neg hc305_9, if_neg hc314_10, if_pos hc325_11, if_neg hc347_13, if_neg hc355_14, if_neg hc364_15, if_pos hc375_16, if_neg hc397_18, if_pos hc405_19]), N4, rfl⟩
                            ·
                              skip
                              refine own_by (fun _ => XS.icmpYes X4.here hx rfl (pc0 := 405) (pc' := 411) rfl (hb hby own_d3_405) rfl (flt hc405_19).2.2.2 (by decide) (by decide)) ?_
                              show own_Go p e below _ (T4.setTop (mkF m 411 #[.val (.ref ax), .val (.int xi), .val (.int xt), .val (.int xcut), .val (.int ((own_g bs xi) &&& (255 : Int32))), .val (.int ((-2 : Int32) - xi)), .val (.int tn), .val (.int tlo), .val (.int thi), .val (.int v4_t0), .val (.int ((own_g bs (xi + (1 : Int32))) &&& (255 : Int32))), .val (.int ((own_g bs (xi + (2 : Int32))) &&& (255 : Int32))), .val (.int ((own_g bs (xi + (3 : Int32))) &&& (255 : Int32)))] []))
                              refine own_by (fun _ => XS.iloadN X4.here hx rfl (hb hby own_d3_411) rfl) ?_
                              show own_Go p e below _ (T4.setTop (mkF m 412 #[.val (.ref ax), .val (.int xi), .val (.int xt), .val (.int xcut), .val (.int ((own_g bs xi) &&& (255 : Int32))), .val (.int ((-2 : Int32) - xi)), .val (.int tn), .val (.int tlo), .val (.int thi), .val (.int v4_t0), .val (.int ((own_g bs (xi + (1 : Int32))) &&& (255 : Int32))), .val (.int ((own_g bs (xi + (2 : Int32))) &&& (255 : Int32))), .val (.int ((own_g bs (xi + (3 : Int32))) &&& (255 : Int32)))] [(.int xi)]))
                              refine own_by (fun _ => XS.iconst X4.here hx rfl (hb hby own_d3_412)) ?_
                              show own_Go p e below _ (T4.setTop (mkF m 413 #[.val (.ref ax), .val (.int xi), .val (.int xt), .val (.int xcut), .val (.int ((own_g bs xi) &&& (255 : Int32))), .val (.int ((-2 : Int32) - xi)), .val (.int tn), .val (.int tlo), .val (.int thi), .val (.int v4_t0), .val (.int ((own_g bs (xi + (1 : Int32))) &&& (255 : Int32))), .val (.int ((own_g bs (xi + (2 : Int32))) &&& (255 : Int32))), .val (.int ((own_g bs (xi + (3 : Int32))) &&& (255 : Int32)))] [(.int (4 : Int32)), (.int xi)]))
                              refine own_by (fun _ => XS.iadd X4.here hx rfl (hb hby own_d3_413) rfl) ?_
                              show own_Go p e below _ (T4.setTop (mkF m 414 #[.val (.ref ax), .val (.int xi), .val (.int xt), .val (.int xcut), .val (.int ((own_g bs xi) &&& (255 : Int32))), .val (.int ((-2 : Int32) - xi)), .val (.int tn), .val (.int tlo), .val (.int thi), .val (.int v4_t0), .val (.int ((own_g bs (xi + (1 : Int32))) &&& (255 : Int32))), .val (.int ((own_g bs (xi + (2 : Int32))) &&& (255 : Int32))), .val (.int ((own_g bs (xi + (3 : Int32))) &&& (255 : Int32)))] [(.int (xi + (4 : Int32)))]))
                              exact own_retI X4 hx hlk e4 hret (hb hby own_d3_414) (by decide) (by decide) ⟨(by subst hv4_t0; simp only [own_stail, if_pos hc277_6, if_neg hc298_8, if_neg hc305_9, if_neg hc314_10, if_pos hc325_11, if_neg hc347_13, if_neg hc355_14, if_neg hc364_15, if_pos hc375_16, if_neg hc397_18, if_neg hc405_19]), N4, rfl⟩
                        ·
                          skip
                          refine own_by (fun _ => XS.icmpNo X4.here hx rfl (hb hby own_d3_375) rfl (flt hc375_16).1) ?_
                          show own_Go p e below _ (T4.setTop (mkF m 378 #[.val (.ref ax), .val (.int xi), .val (.int xt), .val (.int xcut), .val (.int ((own_g bs xi) &&& (255 : Int32))), .val (.int ((-2 : Int32) - xi)), .val (.int tn), .val (.int tlo), .val (.int thi), .val (.int v4_t0), .val (.int ((own_g bs (xi + (1 : Int32))) &&& (255 : Int32))), .val (.int ((own_g bs (xi + (2 : Int32))) &&& (255 : Int32))), .unset] []))
                          refine own_by (fun _ => XS.iload X4.here hx rfl (hb hby own_d3_378) rfl) ?_
                          show own_Go p e below _ (T4.setTop (mkF m 380 #[.val (.ref ax), .val (.int xi), .val (.int xt), .val (.int xcut), .val (.int ((own_g bs xi) &&& (255 : Int32))), .val (.int ((-2 : Int32) - xi)), .val (.int tn), .val (.int tlo), .val (.int thi), .val (.int v4_t0), .val (.int ((own_g bs (xi + (1 : Int32))) &&& (255 : Int32))), .val (.int ((own_g bs (xi + (2 : Int32))) &&& (255 : Int32))), .unset] [(.int v4_t0)]))
                          exact own_retI X4 hx hlk e4 hret (hb hby own_d3_380) (by decide) (by decide) ⟨(by subst hv4_t0; simp only [own_stail, if_pos hc277_6, if_neg hc298_8, if_neg hc305_9, if_neg hc314_10, if_pos hc325_11, if_neg hc347_13, if_neg hc355_14, if_neg hc364_15, if_neg hc375_16]), N4, rfl⟩
                ·
                  skip
                  refine own_by (fun _ => XS.icmpNo X4.here hx rfl (hb hby own_d3_325) rfl (flt hc325_11).1) ?_
                  show own_Go p e below _ (T4.setTop (mkF m 328 #[.val (.ref ax), .val (.int xi), .val (.int xt), .val (.int xcut), .val (.int ((own_g bs xi) &&& (255 : Int32))), .val (.int ((-2 : Int32) - xi)), .val (.int tn), .val (.int tlo), .val (.int thi), .val (.int v4_t0), .val (.int ((own_g bs (xi + (1 : Int32))) &&& (255 : Int32))), .unset, .unset] []))
                  refine own_by (fun _ => XS.iload X4.here hx rfl (hb hby own_d3_328) rfl) ?_
                  show own_Go p e below _ (T4.setTop (mkF m 330 #[.val (.ref ax), .val (.int xi), .val (.int xt), .val (.int xcut), .val (.int ((own_g bs xi) &&& (255 : Int32))), .val (.int ((-2 : Int32) - xi)), .val (.int tn), .val (.int tlo), .val (.int thi), .val (.int v4_t0), .val (.int ((own_g bs (xi + (1 : Int32))) &&& (255 : Int32))), .unset, .unset] [(.int v4_t0)]))
                  exact own_retI X4 hx hlk e4 hret (hb hby own_d3_330) (by decide) (by decide) ⟨(by subst hv4_t0; simp only [own_stail, if_pos hc277_6, if_neg hc298_8, if_neg hc305_9, if_neg hc314_10, if_neg hc325_11]), N4, rfl⟩
        ·
          skip
          refine own_by (fun _ => XS.icmpNo X4.here hx rfl (hb hby own_d3_277) rfl (flt hc277_6).1) ?_
          show own_Go p e below _ (T4.setTop (mkF m 280 #[.val (.ref ax), .val (.int xi), .val (.int xt), .val (.int xcut), .val (.int ((own_g bs xi) &&& (255 : Int32))), .val (.int ((-2 : Int32) - xi)), .val (.int tn), .val (.int tlo), .val (.int thi), .val (.int v4_t0), .unset, .unset, .unset] []))
          refine own_by (fun _ => XS.iload X4.here hx rfl (hb hby own_d3_280) rfl) ?_
          show own_Go p e below _ (T4.setTop (mkF m 282 #[.val (.ref ax), .val (.int xi), .val (.int xt), .val (.int xcut), .val (.int ((own_g bs xi) &&& (255 : Int32))), .val (.int ((-2 : Int32) - xi)), .val (.int tn), .val (.int tlo), .val (.int thi), .val (.int v4_t0), .unset, .unset, .unset] [(.int v4_t0)]))
          exact own_retI X4 hx hlk e4 hret (hb hby own_d3_282) (by decide) (by decide) ⟨(by subst hv4_t0; simp only [own_stail, if_neg hc277_6]), N4, rfl⟩
      show own_Go p e below _ (s₁.setTop (mkF m 34 #[.val (.ref ax), .val (.int xi), .val (.int xt), .val (.int xcut), .val (.int ((own_g bs xi) &&& (255 : Int32))), .val (.int ((-2 : Int32) - xi)), .unset, .unset, .unset, .unset, .unset, .unset, .unset] []))
      refine own_by (fun _ => XS.iload X0.here hx rfl (hb hby own_d3_34) rfl) ?_
      show own_Go p e below _ (s₁.setTop (mkF m 36 #[.val (.ref ax), .val (.int xi), .val (.int xt), .val (.int xcut), .val (.int ((own_g bs xi) &&& (255 : Int32))), .val (.int ((-2 : Int32) - xi)), .unset, .unset, .unset, .unset, .unset, .unset, .unset] [(.int ((own_g bs xi) &&& (255 : Int32)))]))
      refine own_by (fun _ => XS.sipush X0.here hx rfl (hb hby own_d3_36)) ?_
      show own_Go p e below _ (s₁.setTop (mkF m 39 #[.val (.ref ax), .val (.int xi), .val (.int xt), .val (.int xcut), .val (.int ((own_g bs xi) &&& (255 : Int32))), .val (.int ((-2 : Int32) - xi)), .unset, .unset, .unset, .unset, .unset, .unset, .unset] [(.int (194 : Int32)), (.int ((own_g bs xi) &&& (255 : Int32)))]))
      by_cases hc39_20 : ((own_g bs xi) &&& (255 : Int32)) < (194 : Int32)
      ·
        skip
        refine own_by (fun _ => XS.icmpYes X0.here hx rfl (pc0 := 39) (pc' := 66) rfl (hb hby own_d3_39) rfl (tlt hc39_20).1 (by decide) (by decide)) ?_
        show own_Go p e below _ (s₁.setTop (mkF m 66 #[.val (.ref ax), .val (.int xi), .val (.int xt), .val (.int xcut), .val (.int ((own_g bs xi) &&& (255 : Int32))), .val (.int ((-2 : Int32) - xi)), .unset, .unset, .unset, .unset, .unset, .unset, .unset] []))
        refine own_by (fun _ => XS.iload X0.here hx rfl (hb hby own_d3_66) rfl) ?_
        show own_Go p e below _ (s₁.setTop (mkF m 68 #[.val (.ref ax), .val (.int xi), .val (.int xt), .val (.int xcut), .val (.int ((own_g bs xi) &&& (255 : Int32))), .val (.int ((-2 : Int32) - xi)), .unset, .unset, .unset, .unset, .unset, .unset, .unset] [(.int ((own_g bs xi) &&& (255 : Int32)))]))
        refine own_by (fun _ => XS.sipush X0.here hx rfl (hb hby own_d3_68)) ?_
        show own_Go p e below _ (s₁.setTop (mkF m 71 #[.val (.ref ax), .val (.int xi), .val (.int xt), .val (.int xcut), .val (.int ((own_g bs xi) &&& (255 : Int32))), .val (.int ((-2 : Int32) - xi)), .unset, .unset, .unset, .unset, .unset, .unset, .unset] [(.int (224 : Int32)), (.int ((own_g bs xi) &&& (255 : Int32)))]))
        refine own_by (fun _ => XS.icmpYes X0.here hx rfl (pc0 := 71) (pc' := 90) rfl (hb hby own_d3_71) rfl (feq (by have q0 := hc21_3; have q1 := hc39_20; simp only [Int32.lt_iff_toInt_lt, ← Int32.toInt_inj, Int32.reduceToInt] at q0 q1 ⊢; omega : ¬ (((own_g bs xi) &&& (255 : Int32)) = (224 : Int32)))).2 (by decide) (by decide)) ?_
        show own_Go p e below _ (s₁.setTop (mkF m 90 #[.val (.ref ax), .val (.int xi), .val (.int xt), .val (.int xcut), .val (.int ((own_g bs xi) &&& (255 : Int32))), .val (.int ((-2 : Int32) - xi)), .unset, .unset, .unset, .unset, .unset, .unset, .unset] []))
        refine own_by (fun _ => XS.iload X0.here hx rfl (hb hby own_d3_90) rfl) ?_
        show own_Go p e below _ (s₁.setTop (mkF m 92 #[.val (.ref ax), .val (.int xi), .val (.int xt), .val (.int xcut), .val (.int ((own_g bs xi) &&& (255 : Int32))), .val (.int ((-2 : Int32) - xi)), .unset, .unset, .unset, .unset, .unset, .unset, .unset] [(.int ((own_g bs xi) &&& (255 : Int32)))]))
        refine own_by (fun _ => XS.sipush X0.here hx rfl (hb hby own_d3_92)) ?_
        show own_Go p e below _ (s₁.setTop (mkF m 95 #[.val (.ref ax), .val (.int xi), .val (.int xt), .val (.int xcut), .val (.int ((own_g bs xi) &&& (255 : Int32))), .val (.int ((-2 : Int32) - xi)), .unset, .unset, .unset, .unset, .unset, .unset, .unset] [(.int (225 : Int32)), (.int ((own_g bs xi) &&& (255 : Int32)))]))
        refine own_by (fun _ => XS.icmpYes X0.here hx rfl (pc0 := 95) (pc' := 122) rfl (hb hby own_d3_95) rfl (tlt (by have q0 := hc21_3; have q1 := hc39_20; simp only [Int32.lt_iff_toInt_lt, ← Int32.toInt_inj, Int32.reduceToInt] at q0 q1 ⊢; omega : ((own_g bs xi) &&& (255 : Int32)) < (225 : Int32))).1 (by decide) (by decide)) ?_
        show own_Go p e below _ (s₁.setTop (mkF m 122 #[.val (.ref ax), .val (.int xi), .val (.int xt), .val (.int xcut), .val (.int ((own_g bs xi) &&& (255 : Int32))), .val (.int ((-2 : Int32) - xi)), .unset, .unset, .unset, .unset, .unset, .unset, .unset] []))
        refine own_by (fun _ => XS.iload X0.here hx rfl (hb hby own_d3_122) rfl) ?_
        show own_Go p e below _ (s₁.setTop (mkF m 124 #[.val (.ref ax), .val (.int xi), .val (.int xt), .val (.int xcut), .val (.int ((own_g bs xi) &&& (255 : Int32))), .val (.int ((-2 : Int32) - xi)), .unset, .unset, .unset, .unset, .unset, .unset, .unset] [(.int ((own_g bs xi) &&& (255 : Int32)))]))
        refine own_by (fun _ => XS.sipush X0.here hx rfl (hb hby own_d3_124)) ?_
        show own_Go p e below _ (s₁.setTop (mkF m 127 #[.val (.ref ax), .val (.int xi), .val (.int xt), .val (.int xcut), .val (.int ((own_g bs xi) &&& (255 : Int32))), .val (.int ((-2 : Int32) - xi)), .unset, .unset, .unset, .unset, .unset, .unset, .unset] [(.int (237 : Int32)), (.int ((own_g bs xi) &&& (255 : Int32)))]))
        refine own_by (fun _ => XS.icmpYes X0.here hx rfl (pc0 := 127) (pc' := 146) rfl (hb hby own_d3_127) rfl (feq (by have q0 := hc21_3; have q1 := hc39_20; simp only [Int32.lt_iff_toInt_lt, ← Int32.toInt_inj, Int32.reduceToInt] at q0 q1 ⊢; omega : ¬ (((own_g bs xi) &&& (255 : Int32)) = (237 : Int32)))).2 (by decide) (by decide)) ?_
        show own_Go p e below _ (s₁.setTop (mkF m 146 #[.val (.ref ax), .val (.int xi), .val (.int xt), .val (.int xcut), .val (.int ((own_g bs xi) &&& (255 : Int32))), .val (.int ((-2 : Int32) - xi)), .unset, .unset, .unset, .unset, .unset, .unset, .unset] []))
        refine own_by (fun _ => XS.iload X0.here hx rfl (hb hby own_d3_146) rfl) ?_
        show own_Go p e below _ (s₁.setTop (mkF m 148 #[.val (.ref ax), .val (.int xi), .val (.int xt), .val (.int xcut), .val (.int ((own_g bs xi) &&& (255 : Int32))), .val (.int ((-2 : Int32) - xi)), .unset, .unset, .unset, .unset, .unset, .unset, .unset] [(.int ((own_g bs xi) &&& (255 : Int32)))]))
        refine own_by (fun _ => XS.sipush X0.here hx rfl (hb hby own_d3_148)) ?_
        show own_Go p e below _ (s₁.setTop (mkF m 151 #[.val (.ref ax), .val (.int xi), .val (.int xt), .val (.int xcut), .val (.int ((own_g bs xi) &&& (255 : Int32))), .val (.int ((-2 : Int32) - xi)), .unset, .unset, .unset, .unset, .unset, .unset, .unset] [(.int (238 : Int32)), (.int ((own_g bs xi) &&& (255 : Int32)))]))
        refine own_by (fun _ => XS.icmpNo X0.here hx rfl (hb hby own_d3_151) rfl (feq (by have q0 := hc21_3; have q1 := hc39_20; simp only [Int32.lt_iff_toInt_lt, ← Int32.toInt_inj, Int32.reduceToInt] at q0 q1 ⊢; omega : ¬ (((own_g bs xi) &&& (255 : Int32)) = (238 : Int32)))).1) ?_
        show own_Go p e below _ (s₁.setTop (mkF m 154 #[.val (.ref ax), .val (.int xi), .val (.int xt), .val (.int xcut), .val (.int ((own_g bs xi) &&& (255 : Int32))), .val (.int ((-2 : Int32) - xi)), .unset, .unset, .unset, .unset, .unset, .unset, .unset] []))
        refine own_by (fun _ => XS.iload X0.here hx rfl (hb hby own_d3_154) rfl) ?_
        show own_Go p e below _ (s₁.setTop (mkF m 156 #[.val (.ref ax), .val (.int xi), .val (.int xt), .val (.int xcut), .val (.int ((own_g bs xi) &&& (255 : Int32))), .val (.int ((-2 : Int32) - xi)), .unset, .unset, .unset, .unset, .unset, .unset, .unset] [(.int ((own_g bs xi) &&& (255 : Int32)))]))
        refine own_by (fun _ => XS.sipush X0.here hx rfl (hb hby own_d3_156)) ?_
        show own_Go p e below _ (s₁.setTop (mkF m 159 #[.val (.ref ax), .val (.int xi), .val (.int xt), .val (.int xcut), .val (.int ((own_g bs xi) &&& (255 : Int32))), .val (.int ((-2 : Int32) - xi)), .unset, .unset, .unset, .unset, .unset, .unset, .unset] [(.int (239 : Int32)), (.int ((own_g bs xi) &&& (255 : Int32)))]))
        refine own_by (fun _ => XS.icmpYes X0.here hx rfl (pc0 := 159) (pc' := 178) rfl (hb hby own_d3_159) rfl (feq (by have q0 := hc21_3; have q1 := hc39_20; simp only [Int32.lt_iff_toInt_lt, ← Int32.toInt_inj, Int32.reduceToInt] at q0 q1 ⊢; omega : ¬ (((own_g bs xi) &&& (255 : Int32)) = (239 : Int32)))).2 (by decide) (by decide)) ?_
        show own_Go p e below _ (s₁.setTop (mkF m 178 #[.val (.ref ax), .val (.int xi), .val (.int xt), .val (.int xcut), .val (.int ((own_g bs xi) &&& (255 : Int32))), .val (.int ((-2 : Int32) - xi)), .unset, .unset, .unset, .unset, .unset, .unset, .unset] []))
        refine own_by (fun _ => XS.iload X0.here hx rfl (hb hby own_d3_178) rfl) ?_
        show own_Go p e below _ (s₁.setTop (mkF m 180 #[.val (.ref ax), .val (.int xi), .val (.int xt), .val (.int xcut), .val (.int ((own_g bs xi) &&& (255 : Int32))), .val (.int ((-2 : Int32) - xi)), .unset, .unset, .unset, .unset, .unset, .unset, .unset] [(.int ((own_g bs xi) &&& (255 : Int32)))]))
        refine own_by (fun _ => XS.sipush X0.here hx rfl (hb hby own_d3_180)) ?_
        show own_Go p e below _ (s₁.setTop (mkF m 183 #[.val (.ref ax), .val (.int xi), .val (.int xt), .val (.int xcut), .val (.int ((own_g bs xi) &&& (255 : Int32))), .val (.int ((-2 : Int32) - xi)), .unset, .unset, .unset, .unset, .unset, .unset, .unset] [(.int (240 : Int32)), (.int ((own_g bs xi) &&& (255 : Int32)))]))
        refine own_by (fun _ => XS.icmpYes X0.here hx rfl (pc0 := 183) (pc' := 202) rfl (hb hby own_d3_183) rfl (feq (by have q0 := hc21_3; have q1 := hc39_20; simp only [Int32.lt_iff_toInt_lt, ← Int32.toInt_inj, Int32.reduceToInt] at q0 q1 ⊢; omega : ¬ (((own_g bs xi) &&& (255 : Int32)) = (240 : Int32)))).2 (by decide) (by decide)) ?_
        show own_Go p e below _ (s₁.setTop (mkF m 202 #[.val (.ref ax), .val (.int xi), .val (.int xt), .val (.int xcut), .val (.int ((own_g bs xi) &&& (255 : Int32))), .val (.int ((-2 : Int32) - xi)), .unset, .unset, .unset, .unset, .unset, .unset, .unset] []))
        refine own_by (fun _ => XS.iload X0.here hx rfl (hb hby own_d3_202) rfl) ?_
        show own_Go p e below _ (s₁.setTop (mkF m 204 #[.val (.ref ax), .val (.int xi), .val (.int xt), .val (.int xcut), .val (.int ((own_g bs xi) &&& (255 : Int32))), .val (.int ((-2 : Int32) - xi)), .unset, .unset, .unset, .unset, .unset, .unset, .unset] [(.int ((own_g bs xi) &&& (255 : Int32)))]))
        refine own_by (fun _ => XS.sipush X0.here hx rfl (hb hby own_d3_204)) ?_
        show own_Go p e below _ (s₁.setTop (mkF m 207 #[.val (.ref ax), .val (.int xi), .val (.int xt), .val (.int xcut), .val (.int ((own_g bs xi) &&& (255 : Int32))), .val (.int ((-2 : Int32) - xi)), .unset, .unset, .unset, .unset, .unset, .unset, .unset] [(.int (241 : Int32)), (.int ((own_g bs xi) &&& (255 : Int32)))]))
        refine own_by (fun _ => XS.icmpYes X0.here hx rfl (pc0 := 207) (pc' := 234) rfl (hb hby own_d3_207) rfl (tlt (by have q0 := hc21_3; have q1 := hc39_20; simp only [Int32.lt_iff_toInt_lt, ← Int32.toInt_inj, Int32.reduceToInt] at q0 q1 ⊢; omega : ((own_g bs xi) &&& (255 : Int32)) < (241 : Int32))).1 (by decide) (by decide)) ?_
        show own_Go p e below _ (s₁.setTop (mkF m 234 #[.val (.ref ax), .val (.int xi), .val (.int xt), .val (.int xcut), .val (.int ((own_g bs xi) &&& (255 : Int32))), .val (.int ((-2 : Int32) - xi)), .unset, .unset, .unset, .unset, .unset, .unset, .unset] []))
        refine own_by (fun _ => XS.iload X0.here hx rfl (hb hby own_d3_234) rfl) ?_
        show own_Go p e below _ (s₁.setTop (mkF m 236 #[.val (.ref ax), .val (.int xi), .val (.int xt), .val (.int xcut), .val (.int ((own_g bs xi) &&& (255 : Int32))), .val (.int ((-2 : Int32) - xi)), .unset, .unset, .unset, .unset, .unset, .unset, .unset] [(.int ((own_g bs xi) &&& (255 : Int32)))]))
        refine own_by (fun _ => XS.sipush X0.here hx rfl (hb hby own_d3_236)) ?_
        show own_Go p e below _ (s₁.setTop (mkF m 239 #[.val (.ref ax), .val (.int xi), .val (.int xt), .val (.int xcut), .val (.int ((own_g bs xi) &&& (255 : Int32))), .val (.int ((-2 : Int32) - xi)), .unset, .unset, .unset, .unset, .unset, .unset, .unset] [(.int (244 : Int32)), (.int ((own_g bs xi) &&& (255 : Int32)))]))
        refine own_by (fun _ => XS.icmpYes X0.here hx rfl (pc0 := 239) (pc' := 258) rfl (hb hby own_d3_239) rfl (feq (by have q0 := hc21_3; have q1 := hc39_20; simp only [Int32.lt_iff_toInt_lt, ← Int32.toInt_inj, Int32.reduceToInt] at q0 q1 ⊢; omega : ¬ (((own_g bs xi) &&& (255 : Int32)) = (244 : Int32)))).2 (by decide) (by decide)) ?_
        show own_Go p e below _ (s₁.setTop (mkF m 258 #[.val (.ref ax), .val (.int xi), .val (.int xt), .val (.int xcut), .val (.int ((own_g bs xi) &&& (255 : Int32))), .val (.int ((-2 : Int32) - xi)), .unset, .unset, .unset, .unset, .unset, .unset, .unset] []))
        refine own_by (fun _ => XS.iload X0.here hx rfl (hb hby own_d3_258) rfl) ?_
        show own_Go p e below _ (s₁.setTop (mkF m 260 #[.val (.ref ax), .val (.int xi), .val (.int xt), .val (.int xcut), .val (.int ((own_g bs xi) &&& (255 : Int32))), .val (.int ((-2 : Int32) - xi)), .unset, .unset, .unset, .unset, .unset, .unset, .unset] [(.int ((-2 : Int32) - xi))]))
        exact own_retI X0 hx hlk e0 hret (hb hby own_d3_260) (by decide) (by decide) ⟨(by first | with_reducible rfl | simp only [own_step, if_neg hlo, if_neg hto, if_pos hc2_1, if_neg hc21_3, if_pos hc39_20] | rfl), N0, rfl⟩
      ·
        skip
        refine own_by (fun _ => XS.icmpNo X0.here hx rfl (hb hby own_d3_39) rfl (flt hc39_20).1) ?_
        show own_Go p e below _ (s₁.setTop (mkF m 42 #[.val (.ref ax), .val (.int xi), .val (.int xt), .val (.int xcut), .val (.int ((own_g bs xi) &&& (255 : Int32))), .val (.int ((-2 : Int32) - xi)), .unset, .unset, .unset, .unset, .unset, .unset, .unset] []))
        refine own_by (fun _ => XS.iload X0.here hx rfl (hb hby own_d3_42) rfl) ?_
        show own_Go p e below _ (s₁.setTop (mkF m 44 #[.val (.ref ax), .val (.int xi), .val (.int xt), .val (.int xcut), .val (.int ((own_g bs xi) &&& (255 : Int32))), .val (.int ((-2 : Int32) - xi)), .unset, .unset, .unset, .unset, .unset, .unset, .unset] [(.int ((own_g bs xi) &&& (255 : Int32)))]))
        refine own_by (fun _ => XS.sipush X0.here hx rfl (hb hby own_d3_44)) ?_
        show own_Go p e below _ (s₁.setTop (mkF m 47 #[.val (.ref ax), .val (.int xi), .val (.int xt), .val (.int xcut), .val (.int ((own_g bs xi) &&& (255 : Int32))), .val (.int ((-2 : Int32) - xi)), .unset, .unset, .unset, .unset, .unset, .unset, .unset] [(.int (223 : Int32)), (.int ((own_g bs xi) &&& (255 : Int32)))]))
        by_cases hc47_21 : (223 : Int32) < ((own_g bs xi) &&& (255 : Int32))
        ·
          skip
          refine own_by (fun _ => XS.icmpYes X0.here hx rfl (pc0 := 47) (pc' := 66) rfl (hb hby own_d3_47) rfl (tlt hc47_21).2.2.1 (by decide) (by decide)) ?_
          show own_Go p e below _ (s₁.setTop (mkF m 66 #[.val (.ref ax), .val (.int xi), .val (.int xt), .val (.int xcut), .val (.int ((own_g bs xi) &&& (255 : Int32))), .val (.int ((-2 : Int32) - xi)), .unset, .unset, .unset, .unset, .unset, .unset, .unset] []))
          refine own_by (fun _ => XS.iload X0.here hx rfl (hb hby own_d3_66) rfl) ?_
          show own_Go p e below _ (s₁.setTop (mkF m 68 #[.val (.ref ax), .val (.int xi), .val (.int xt), .val (.int xcut), .val (.int ((own_g bs xi) &&& (255 : Int32))), .val (.int ((-2 : Int32) - xi)), .unset, .unset, .unset, .unset, .unset, .unset, .unset] [(.int ((own_g bs xi) &&& (255 : Int32)))]))
          refine own_by (fun _ => XS.sipush X0.here hx rfl (hb hby own_d3_68)) ?_
          show own_Go p e below _ (s₁.setTop (mkF m 71 #[.val (.ref ax), .val (.int xi), .val (.int xt), .val (.int xcut), .val (.int ((own_g bs xi) &&& (255 : Int32))), .val (.int ((-2 : Int32) - xi)), .unset, .unset, .unset, .unset, .unset, .unset, .unset] [(.int (224 : Int32)), (.int ((own_g bs xi) &&& (255 : Int32)))]))
          by_cases hc71_22 : ((own_g bs xi) &&& (255 : Int32)) = (224 : Int32)
          ·
            skip
            refine own_by (fun _ => XS.icmpNo X0.here hx rfl (hb hby own_d3_71) rfl (teq hc71_22).2) ?_
            show own_Go p e below _ (s₁.setTop (mkF m 74 #[.val (.ref ax), .val (.int xi), .val (.int xt), .val (.int xcut), .val (.int ((own_g bs xi) &&& (255 : Int32))), .val (.int ((-2 : Int32) - xi)), .unset, .unset, .unset, .unset, .unset, .unset, .unset] []))
            refine own_by (fun _ => XS.iconst X0.here hx rfl (hb hby own_d3_74)) ?_
            show own_Go p e below _ (s₁.setTop (mkF m 75 #[.val (.ref ax), .val (.int xi), .val (.int xt), .val (.int xcut), .val (.int ((own_g bs xi) &&& (255 : Int32))), .val (.int ((-2 : Int32) - xi)), .unset, .unset, .unset, .unset, .unset, .unset, .unset] [(.int (3 : Int32))]))
            refine own_by (fun _ => XS.istore X0.here hx rfl (hb hby own_d3_75) rfl (l' := #[.val (.ref ax), .val (.int xi), .val (.int xt), .val (.int xcut), .val (.int ((own_g bs xi) &&& (255 : Int32))), .val (.int ((-2 : Int32) - xi)), .val (.int (3 : Int32)), .unset, .unset, .unset, .unset, .unset, .unset]) rfl) ?_
            show own_Go p e below _ (s₁.setTop (mkF m 77 #[.val (.ref ax), .val (.int xi), .val (.int xt), .val (.int xcut), .val (.int ((own_g bs xi) &&& (255 : Int32))), .val (.int ((-2 : Int32) - xi)), .val (.int (3 : Int32)), .unset, .unset, .unset, .unset, .unset, .unset] []))
            refine own_by (fun _ => XS.sipush X0.here hx rfl (hb hby own_d3_77)) ?_
            show own_Go p e below _ (s₁.setTop (mkF m 80 #[.val (.ref ax), .val (.int xi), .val (.int xt), .val (.int xcut), .val (.int ((own_g bs xi) &&& (255 : Int32))), .val (.int ((-2 : Int32) - xi)), .val (.int (3 : Int32)), .unset, .unset, .unset, .unset, .unset, .unset] [(.int (160 : Int32))]))
            refine own_by (fun _ => XS.istore X0.here hx rfl (hb hby own_d3_80) rfl (l' := #[.val (.ref ax), .val (.int xi), .val (.int xt), .val (.int xcut), .val (.int ((own_g bs xi) &&& (255 : Int32))), .val (.int ((-2 : Int32) - xi)), .val (.int (3 : Int32)), .val (.int (160 : Int32)), .unset, .unset, .unset, .unset, .unset]) rfl) ?_
            show own_Go p e below _ (s₁.setTop (mkF m 82 #[.val (.ref ax), .val (.int xi), .val (.int xt), .val (.int xcut), .val (.int ((own_g bs xi) &&& (255 : Int32))), .val (.int ((-2 : Int32) - xi)), .val (.int (3 : Int32)), .val (.int (160 : Int32)), .unset, .unset, .unset, .unset, .unset] []))
            refine own_by (fun _ => XS.sipush X0.here hx rfl (hb hby own_d3_82)) ?_
            show own_Go p e below _ (s₁.setTop (mkF m 85 #[.val (.ref ax), .val (.int xi), .val (.int xt), .val (.int xcut), .val (.int ((own_g bs xi) &&& (255 : Int32))), .val (.int ((-2 : Int32) - xi)), .val (.int (3 : Int32)), .val (.int (160 : Int32)), .unset, .unset, .unset, .unset, .unset] [(.int (191 : Int32))]))
            refine own_by (fun _ => XS.istore X0.here hx rfl (hb hby own_d3_85) rfl (l' := #[.val (.ref ax), .val (.int xi), .val (.int xt), .val (.int xcut), .val (.int ((own_g bs xi) &&& (255 : Int32))), .val (.int ((-2 : Int32) - xi)), .val (.int (3 : Int32)), .val (.int (160 : Int32)), .val (.int (191 : Int32)), .unset, .unset, .unset, .unset]) rfl) ?_
            show own_Go p e below _ (s₁.setTop (mkF m 87 #[.val (.ref ax), .val (.int xi), .val (.int xt), .val (.int xcut), .val (.int ((own_g bs xi) &&& (255 : Int32))), .val (.int ((-2 : Int32) - xi)), .val (.int (3 : Int32)), .val (.int (160 : Int32)), .val (.int (191 : Int32)), .unset, .unset, .unset, .unset] []))
            refine own_by (fun _ => XS.goto X0.here hx rfl (pc0 := 87) (pc' := 261) rfl (hb hby own_d3_87) (by decide) (by decide)) ?_
            show own_Go p e below _ (s₁.setTop (mkF m 261 #[.val (.ref ax), .val (.int xi), .val (.int xt), .val (.int xcut), .val (.int ((own_g bs xi) &&& (255 : Int32))), .val (.int ((-2 : Int32) - xi)), .val (.int (3 : Int32)), .val (.int (160 : Int32)), .val (.int (191 : Int32)), .unset, .unset, .unset, .unset] []))
            exact own_monoQ (fun v h L k => ⟨k.1.trans (by simp only [own_step, if_pos hc2_1, if_neg hc21_3, if_neg hc39_20, if_pos hc47_21, if_pos hc71_22]), k.2.1, k.2.2⟩) (JT _ (3 : Int32) (160 : Int32) (191 : Int32) ⟨_, X0, N0, e0⟩)
          ·
            skip
            refine own_by (fun _ => XS.icmpYes X0.here hx rfl (pc0 := 71) (pc' := 90) rfl (hb hby own_d3_71) rfl (feq hc71_22).2 (by decide) (by decide)) ?_
            show own_Go p e below _ (s₁.setTop (mkF m 90 #[.val (.ref ax), .val (.int xi), .val (.int xt), .val (.int xcut), .val (.int ((own_g bs xi) &&& (255 : Int32))), .val (.int ((-2 : Int32) - xi)), .unset, .unset, .unset, .unset, .unset, .unset, .unset] []))
            refine own_by (fun _ => XS.iload X0.here hx rfl (hb hby own_d3_90) rfl) ?_
            show own_Go p e below _ (s₁.setTop (mkF m 92 #[.val (.ref ax), .val (.int xi), .val (.int xt), .val (.int xcut), .val (.int ((own_g bs xi) &&& (255 : Int32))), .val (.int ((-2 : Int32) - xi)), .unset, .unset, .unset, .unset, .unset, .unset, .unset] [(.int ((own_g bs xi) &&& (255 : Int32)))]))
            refine own_by (fun _ => XS.sipush X0.here hx rfl (hb hby own_d3_92)) ?_
            show own_Go p e below _ (s₁.setTop (mkF m 95 #[.val (.ref ax), .val (.int xi), .val (.int xt), .val (.int xcut), .val (.int ((own_g bs xi) &&& (255 : Int32))), .val (.int ((-2 : Int32) - xi)), .unset, .unset, .unset, .unset, .unset, .unset, .unset] [(.int (225 : Int32)), (.int ((own_g bs xi) &&& (255 : Int32)))]))
            refine own_by (fun _ => XS.icmpNo X0.here hx rfl (hb hby own_d3_95) rfl (flt (by have q0 := hc21_3; have q1 := hc39_20; have q2 := hc47_21; have q3 := hc71_22; simp only [Int32.lt_iff_toInt_lt, ← Int32.toInt_inj, Int32.reduceToInt] at q0 q1 q2 q3 ⊢; omega : ¬ (((own_g bs xi) &&& (255 : Int32)) < (225 : Int32)))).1) ?_
            show own_Go p e below _ (s₁.setTop (mkF m 98 #[.val (.ref ax), .val (.int xi), .val (.int xt), .val (.int xcut), .val (.int ((own_g bs xi) &&& (255 : Int32))), .val (.int ((-2 : Int32) - xi)), .unset, .unset, .unset, .unset, .unset, .unset, .unset] []))
            refine own_by (fun _ => XS.iload X0.here hx rfl (hb hby own_d3_98) rfl) ?_
            show own_Go p e below _ (s₁.setTop (mkF m 100 #[.val (.ref ax), .val (.int xi), .val (.int xt), .val (.int xcut), .val (.int ((own_g bs xi) &&& (255 : Int32))), .val (.int ((-2 : Int32) - xi)), .unset, .unset, .unset, .unset, .unset, .unset, .unset] [(.int ((own_g bs xi) &&& (255 : Int32)))]))
            refine own_by (fun _ => XS.sipush X0.here hx rfl (hb hby own_d3_100)) ?_
            show own_Go p e below _ (s₁.setTop (mkF m 103 #[.val (.ref ax), .val (.int xi), .val (.int xt), .val (.int xcut), .val (.int ((own_g bs xi) &&& (255 : Int32))), .val (.int ((-2 : Int32) - xi)), .unset, .unset, .unset, .unset, .unset, .unset, .unset] [(.int (236 : Int32)), (.int ((own_g bs xi) &&& (255 : Int32)))]))
            by_cases hc103_23 : (236 : Int32) < ((own_g bs xi) &&& (255 : Int32))
            ·
              skip
              refine own_by (fun _ => XS.icmpYes X0.here hx rfl (pc0 := 103) (pc' := 122) rfl (hb hby own_d3_103) rfl (tlt hc103_23).2.2.1 (by decide) (by decide)) ?_
              show own_Go p e below _ (s₁.setTop (mkF m 122 #[.val (.ref ax), .val (.int xi), .val (.int xt), .val (.int xcut), .val (.int ((own_g bs xi) &&& (255 : Int32))), .val (.int ((-2 : Int32) - xi)), .unset, .unset, .unset, .unset, .unset, .unset, .unset] []))
              refine own_by (fun _ => XS.iload X0.here hx rfl (hb hby own_d3_122) rfl) ?_
              show own_Go p e below _ (s₁.setTop (mkF m 124 #[.val (.ref ax), .val (.int xi), .val (.int xt), .val (.int xcut), .val (.int ((own_g bs xi) &&& (255 : Int32))), .val (.int ((-2 : Int32) - xi)), .unset, .unset, .unset, .unset, .unset, .unset, .unset] [(.int ((own_g bs xi) &&& (255 : Int32)))]))
              refine own_by (fun _ => XS.sipush X0.here hx rfl (hb hby own_d3_124)) ?_
              show own_Go p e below _ (s₁.setTop (mkF m 127 #[.val (.ref ax), .val (.int xi), .val (.int xt), .val (.int xcut), .val (.int ((own_g bs xi) &&& (255 : Int32))), .val (.int ((-2 : Int32) - xi)), .unset, .unset, .unset, .unset, .unset, .unset, .unset] [(.int (237 : Int32)), (.int ((own_g bs xi) &&& (255 : Int32)))]))
              by_cases hc127_24 : ((own_g bs xi) &&& (255 : Int32)) = (237 : Int32)
              ·
                skip
                refine own_by (fun _ => XS.icmpNo X0.here hx rfl (hb hby own_d3_127) rfl (teq hc127_24).2) ?_
                show own_Go p e below _ (s₁.setTop (mkF m 130 #[.val (.ref ax), .val (.int xi), .val (.int xt), .val (.int xcut), .val (.int ((own_g bs xi) &&& (255 : Int32))), .val (.int ((-2 : Int32) - xi)), .unset, .unset, .unset, .unset, .unset, .unset, .unset] []))
                refine own_by (fun _ => XS.iconst X0.here hx rfl (hb hby own_d3_130)) ?_
                show own_Go p e below _ (s₁.setTop (mkF m 131 #[.val (.ref ax), .val (.int xi), .val (.int xt), .val (.int xcut), .val (.int ((own_g bs xi) &&& (255 : Int32))), .val (.int ((-2 : Int32) - xi)), .unset, .unset, .unset, .unset, .unset, .unset, .unset] [(.int (3 : Int32))]))
                refine own_by (fun _ => XS.istore X0.here hx rfl (hb hby own_d3_131) rfl (l' := #[.val (.ref ax), .val (.int xi), .val (.int xt), .val (.int xcut), .val (.int ((own_g bs xi) &&& (255 : Int32))), .val (.int ((-2 : Int32) - xi)), .val (.int (3 : Int32)), .unset, .unset, .unset, .unset, .unset, .unset]) rfl) ?_
                show own_Go p e below _ (s₁.setTop (mkF m 133 #[.val (.ref ax), .val (.int xi), .val (.int xt), .val (.int xcut), .val (.int ((own_g bs xi) &&& (255 : Int32))), .val (.int ((-2 : Int32) - xi)), .val (.int (3 : Int32)), .unset, .unset, .unset, .unset, .unset, .unset] []))
                refine own_by (fun _ => XS.sipush X0.here hx rfl (hb hby own_d3_133)) ?_
                show own_Go p e below _ (s₁.setTop (mkF m 136 #[.val (.ref ax), .val (.int xi), .val (.int xt), .val (.int xcut), .val (.int ((own_g bs xi) &&& (255 : Int32))), .val (.int ((-2 : Int32) - xi)), .val (.int (3 : Int32)), .unset, .unset, .unset, .unset, .unset, .unset] [(.int (128 : Int32))]))
                refine own_by (fun _ => XS.istore X0.here hx rfl (hb hby own_d3_136) rfl (l' := #[.val (.ref ax), .val (.int xi), .val (.int xt), .val (.int xcut), .val (.int ((own_g bs xi) &&& (255 : Int32))), .val (.int ((-2 : Int32) - xi)), .val (.int (3 : Int32)), .val (.int (128 : Int32)), .unset, .unset, .unset, .unset, .unset]) rfl) ?_
                show own_Go p e below _ (s₁.setTop (mkF m 138 #[.val (.ref ax), .val (.int xi), .val (.int xt), .val (.int xcut), .val (.int ((own_g bs xi) &&& (255 : Int32))), .val (.int ((-2 : Int32) - xi)), .val (.int (3 : Int32)), .val (.int (128 : Int32)), .unset, .unset, .unset, .unset, .unset] []))
                refine own_by (fun _ => XS.sipush X0.here hx rfl (hb hby own_d3_138)) ?_
                show own_Go p e below _ (s₁.setTop (mkF m 141 #[.val (.ref ax), .val (.int xi), .val (.int xt), .val (.int xcut), .val (.int ((own_g bs xi) &&& (255 : Int32))), .val (.int ((-2 : Int32) - xi)), .val (.int (3 : Int32)), .val (.int (128 : Int32)), .unset, .unset, .unset, .unset, .unset] [(.int (159 : Int32))]))
                refine own_by (fun _ => XS.istore X0.here hx rfl (hb hby own_d3_141) rfl (l' := #[.val (.ref ax), .val (.int xi), .val (.int xt), .val (.int xcut), .val (.int ((own_g bs xi) &&& (255 : Int32))), .val (.int ((-2 : Int32) - xi)), .val (.int (3 : Int32)), .val (.int (128 : Int32)), .val (.int (159 : Int32)), .unset, .unset, .unset, .unset]) rfl) ?_
                show own_Go p e below _ (s₁.setTop (mkF m 143 #[.val (.ref ax), .val (.int xi), .val (.int xt), .val (.int xcut), .val (.int ((own_g bs xi) &&& (255 : Int32))), .val (.int ((-2 : Int32) - xi)), .val (.int (3 : Int32)), .val (.int (128 : Int32)), .val (.int (159 : Int32)), .unset, .unset, .unset, .unset] []))
                refine own_by (fun _ => XS.goto X0.here hx rfl (pc0 := 143) (pc' := 261) rfl (hb hby own_d3_143) (by decide) (by decide)) ?_
                show own_Go p e below _ (s₁.setTop (mkF m 261 #[.val (.ref ax), .val (.int xi), .val (.int xt), .val (.int xcut), .val (.int ((own_g bs xi) &&& (255 : Int32))), .val (.int ((-2 : Int32) - xi)), .val (.int (3 : Int32)), .val (.int (128 : Int32)), .val (.int (159 : Int32)), .unset, .unset, .unset, .unset] []))
                exact own_monoQ (fun v h L k => ⟨k.1.trans (by simp only [own_step, if_pos hc2_1, if_neg hc21_3, if_neg hc39_20, if_pos hc47_21, if_neg hc71_22, if_pos hc103_23, if_pos hc127_24]), k.2.1, k.2.2⟩) (JT _ (3 : Int32) (128 : Int32) (159 : Int32) ⟨_, X0, N0, e0⟩)
              ·
                skip
                refine own_by (fun _ => XS.icmpYes X0.here hx rfl (pc0 := 127) (pc' := 146) rfl (hb hby own_d3_127) rfl (feq hc127_24).2 (by decide) (by decide)) ?_
                show own_Go p e below _ (s₁.setTop (mkF m 146 #[.val (.ref ax), .val (.int xi), .val (.int xt), .val (.int xcut), .val (.int ((own_g bs xi) &&& (255 : Int32))), .val (.int ((-2 : Int32) - xi)), .unset, .unset, .unset, .unset, .unset, .unset, .unset] []))
                refine own_by (fun _ => XS.iload X0.here hx rfl (hb hby own_d3_146) rfl) ?_
                show own_Go p e below _ (s₁.setTop (mkF m 148 #[.val (.ref ax), .val (.int xi), .val (.int xt), .val (.int xcut), .val (.int ((own_g bs xi) &&& (255 : Int32))), .val (.int ((-2 : Int32) - xi)), .unset, .unset, .unset, .unset, .unset, .unset, .unset] [(.int ((own_g bs xi) &&& (255 : Int32)))]))
                refine own_by (fun _ => XS.sipush X0.here hx rfl (hb hby own_d3_148)) ?_
                show own_Go p e below _ (s₁.setTop (mkF m 151 #[.val (.ref ax), .val (.int xi), .val (.int xt), .val (.int xcut), .val (.int ((own_g bs xi) &&& (255 : Int32))), .val (.int ((-2 : Int32) - xi)), .unset, .unset, .unset, .unset, .unset, .unset, .unset] [(.int (238 : Int32)), (.int ((own_g bs xi) &&& (255 : Int32)))]))
                by_cases hc151_25 : ((own_g bs xi) &&& (255 : Int32)) = (238 : Int32)
                ·
                  skip
                  refine own_by (fun _ => XS.icmpYes X0.here hx rfl (pc0 := 151) (pc' := 162) rfl (hb hby own_d3_151) rfl (teq hc151_25).1 (by decide) (by decide)) ?_
                  show own_Go p e below _ (s₁.setTop (mkF m 162 #[.val (.ref ax), .val (.int xi), .val (.int xt), .val (.int xcut), .val (.int ((own_g bs xi) &&& (255 : Int32))), .val (.int ((-2 : Int32) - xi)), .unset, .unset, .unset, .unset, .unset, .unset, .unset] []))
                  refine own_by (fun _ => XS.iconst X0.here hx rfl (hb hby own_d3_162)) ?_
                  show own_Go p e below _ (s₁.setTop (mkF m 163 #[.val (.ref ax), .val (.int xi), .val (.int xt), .val (.int xcut), .val (.int ((own_g bs xi) &&& (255 : Int32))), .val (.int ((-2 : Int32) - xi)), .unset, .unset, .unset, .unset, .unset, .unset, .unset] [(.int (3 : Int32))]))
                  refine own_by (fun _ => XS.istore X0.here hx rfl (hb hby own_d3_163) rfl (l' := #[.val (.ref ax), .val (.int xi), .val (.int xt), .val (.int xcut), .val (.int ((own_g bs xi) &&& (255 : Int32))), .val (.int ((-2 : Int32) - xi)), .val (.int (3 : Int32)), .unset, .unset, .unset, .unset, .unset, .unset]) rfl) ?_
                  show own_Go p e below _ (s₁.setTop (mkF m 165 #[.val (.ref ax), .val (.int xi), .val (.int xt), .val (.int xcut), .val (.int ((own_g bs xi) &&& (255 : Int32))), .val (.int ((-2 : Int32) - xi)), .val (.int (3 : Int32)), .unset, .unset, .unset, .unset, .unset, .unset] []))
                  refine own_by (fun _ => XS.sipush X0.here hx rfl (hb hby own_d3_165)) ?_
                  show own_Go p e below _ (s₁.setTop (mkF m 168 #[.val (.ref ax), .val (.int xi), .val (.int xt), .val (.int xcut), .val (.int ((own_g bs xi) &&& (255 : Int32))), .val (.int ((-2 : Int32) - xi)), .val (.int (3 : Int32)), .unset, .unset, .unset, .unset, .unset, .unset] [(.int (128 : Int32))]))
                  refine own_by (fun _ => XS.istore X0.here hx rfl (hb hby own_d3_168) rfl (l' := #[.val (.ref ax), .val (.int xi), .val (.int xt), .val (.int xcut), .val (.int ((own_g bs xi) &&& (255 : Int32))), .val (.int ((-2 : Int32) - xi)), .val (.int (3 : Int32)), .val (.int (128 : Int32)), .unset, .unset, .unset, .unset, .unset]) rfl) ?_
                  show own_Go p e below _ (s₁.setTop (mkF m 170 #[.val (.ref ax), .val (.int xi), .val (.int xt), .val (.int xcut), .val (.int ((own_g bs xi) &&& (255 : Int32))), .val (.int ((-2 : Int32) - xi)), .val (.int (3 : Int32)), .val (.int (128 : Int32)), .unset, .unset, .unset, .unset, .unset] []))
                  refine own_by (fun _ => XS.sipush X0.here hx rfl (hb hby own_d3_170)) ?_
                  show own_Go p e below _ (s₁.setTop (mkF m 173 #[.val (.ref ax), .val (.int xi), .val (.int xt), .val (.int xcut), .val (.int ((own_g bs xi) &&& (255 : Int32))), .val (.int ((-2 : Int32) - xi)), .val (.int (3 : Int32)), .val (.int (128 : Int32)), .unset, .unset, .unset, .unset, .unset] [(.int (191 : Int32))]))
                  refine own_by (fun _ => XS.istore X0.here hx rfl (hb hby own_d3_173) rfl (l' := #[.val (.ref ax), .val (.int xi), .val (.int xt), .val (.int xcut), .val (.int ((own_g bs xi) &&& (255 : Int32))), .val (.int ((-2 : Int32) - xi)), .val (.int (3 : Int32)), .val (.int (128 : Int32)), .val (.int (191 : Int32)), .unset, .unset, .unset, .unset]) rfl) ?_
                  show own_Go p e below _ (s₁.setTop (mkF m 175 #[.val (.ref ax), .val (.int xi), .val (.int xt), .val (.int xcut), .val (.int ((own_g bs xi) &&& (255 : Int32))), .val (.int ((-2 : Int32) - xi)), .val (.int (3 : Int32)), .val (.int (128 : Int32)), .val (.int (191 : Int32)), .unset, .unset, .unset, .unset] []))
                  refine own_by (fun _ => XS.goto X0.here hx rfl (pc0 := 175) (pc' := 261) rfl (hb hby own_d3_175) (by decide) (by decide)) ?_
                  show own_Go p e below _ (s₁.setTop (mkF m 261 #[.val (.ref ax), .val (.int xi), .val (.int xt), .val (.int xcut), .val (.int ((own_g bs xi) &&& (255 : Int32))), .val (.int ((-2 : Int32) - xi)), .val (.int (3 : Int32)), .val (.int (128 : Int32)), .val (.int (191 : Int32)), .unset, .unset, .unset, .unset] []))
                  exact own_monoQ (fun v h L k => ⟨k.1.trans (by simp only [own_step, if_pos hc2_1, if_neg hc21_3, if_neg hc39_20, if_pos hc47_21, if_neg hc71_22, if_pos hc103_23, if_neg hc127_24, if_pos hc151_25]), k.2.1, k.2.2⟩) (JT _ (3 : Int32) (128 : Int32) (191 : Int32) ⟨_, X0, N0, e0⟩)
                ·
                  skip
                  refine own_by (fun _ => XS.icmpNo X0.here hx rfl (hb hby own_d3_151) rfl (feq hc151_25).1) ?_
                  show own_Go p e below _ (s₁.setTop (mkF m 154 #[.val (.ref ax), .val (.int xi), .val (.int xt), .val (.int xcut), .val (.int ((own_g bs xi) &&& (255 : Int32))), .val (.int ((-2 : Int32) - xi)), .unset, .unset, .unset, .unset, .unset, .unset, .unset] []))
                  refine own_by (fun _ => XS.iload X0.here hx rfl (hb hby own_d3_154) rfl) ?_
                  show own_Go p e below _ (s₁.setTop (mkF m 156 #[.val (.ref ax), .val (.int xi), .val (.int xt), .val (.int xcut), .val (.int ((own_g bs xi) &&& (255 : Int32))), .val (.int ((-2 : Int32) - xi)), .unset, .unset, .unset, .unset, .unset, .unset, .unset] [(.int ((own_g bs xi) &&& (255 : Int32)))]))
                  refine own_by (fun _ => XS.sipush X0.here hx rfl (hb hby own_d3_156)) ?_
                  show own_Go p e below _ (s₁.setTop (mkF m 159 #[.val (.ref ax), .val (.int xi), .val (.int xt), .val (.int xcut), .val (.int ((own_g bs xi) &&& (255 : Int32))), .val (.int ((-2 : Int32) - xi)), .unset, .unset, .unset, .unset, .unset, .unset, .unset] [(.int (239 : Int32)), (.int ((own_g bs xi) &&& (255 : Int32)))]))
                  by_cases hc159_26 : ((own_g bs xi) &&& (255 : Int32)) = (239 : Int32)
                  ·
                    skip
                    refine own_by (fun _ => XS.icmpNo X0.here hx rfl (hb hby own_d3_159) rfl (teq hc159_26).2) ?_
                    show own_Go p e below _ (s₁.setTop (mkF m 162 #[.val (.ref ax), .val (.int xi), .val (.int xt), .val (.int xcut), .val (.int ((own_g bs xi) &&& (255 : Int32))), .val (.int ((-2 : Int32) - xi)), .unset, .unset, .unset, .unset, .unset, .unset, .unset] []))
                    refine own_by (fun _ => XS.iconst X0.here hx rfl (hb hby own_d3_162)) ?_
                    show own_Go p e below _ (s₁.setTop (mkF m 163 #[.val (.ref ax), .val (.int xi), .val (.int xt), .val (.int xcut), .val (.int ((own_g bs xi) &&& (255 : Int32))), .val (.int ((-2 : Int32) - xi)), .unset, .unset, .unset, .unset, .unset, .unset, .unset] [(.int (3 : Int32))]))
                    refine own_by (fun _ => XS.istore X0.here hx rfl (hb hby own_d3_163) rfl (l' := #[.val (.ref ax), .val (.int xi), .val (.int xt), .val (.int xcut), .val (.int ((own_g bs xi) &&& (255 : Int32))), .val (.int ((-2 : Int32) - xi)), .val (.int (3 : Int32)), .unset, .unset, .unset, .unset, .unset, .unset]) rfl) ?_
                    show own_Go p e below _ (s₁.setTop (mkF m 165 #[.val (.ref ax), .val (.int xi), .val (.int xt), .val (.int xcut), .val (.int ((own_g bs xi) &&& (255 : Int32))), .val (.int ((-2 : Int32) - xi)), .val (.int (3 : Int32)), .unset, .unset, .unset, .unset, .unset, .unset] []))
                    refine own_by (fun _ => XS.sipush X0.here hx rfl (hb hby own_d3_165)) ?_
                    show own_Go p e below _ (s₁.setTop (mkF m 168 #[.val (.ref ax), .val (.int xi), .val (.int xt), .val (.int xcut), .val (.int ((own_g bs xi) &&& (255 : Int32))), .val (.int ((-2 : Int32) - xi)), .val (.int (3 : Int32)), .unset, .unset, .unset, .unset, .unset, .unset] [(.int (128 : Int32))]))
                    refine own_by (fun _ => XS.istore X0.here hx rfl (hb hby own_d3_168) rfl (l' := #[.val (.ref ax), .val (.int xi), .val (.int xt), .val (.int xcut), .val (.int ((own_g bs xi) &&& (255 : Int32))), .val (.int ((-2 : Int32) - xi)), .val (.int (3 : Int32)), .val (.int (128 : Int32)), .unset, .unset, .unset, .unset, .unset]) rfl) ?_
                    show own_Go p e below _ (s₁.setTop (mkF m 170 #[.val (.ref ax), .val (.int xi), .val (.int xt), .val (.int xcut), .val (.int ((own_g bs xi) &&& (255 : Int32))), .val (.int ((-2 : Int32) - xi)), .val (.int (3 : Int32)), .val (.int (128 : Int32)), .unset, .unset, .unset, .unset, .unset] []))
                    refine own_by (fun _ => XS.sipush X0.here hx rfl (hb hby own_d3_170)) ?_
                    show own_Go p e below _ (s₁.setTop (mkF m 173 #[.val (.ref ax), .val (.int xi), .val (.int xt), .val (.int xcut), .val (.int ((own_g bs xi) &&& (255 : Int32))), .val (.int ((-2 : Int32) - xi)), .val (.int (3 : Int32)), .val (.int (128 : Int32)), .unset, .unset, .unset, .unset, .unset] [(.int (191 : Int32))]))
                    refine own_by (fun _ => XS.istore X0.here hx rfl (hb hby own_d3_173) rfl (l' := #[.val (.ref ax), .val (.int xi), .val (.int xt), .val (.int xcut), .val (.int ((own_g bs xi) &&& (255 : Int32))), .val (.int ((-2 : Int32) - xi)), .val (.int (3 : Int32)), .val (.int (128 : Int32)), .val (.int (191 : Int32)), .unset, .unset, .unset, .unset]) rfl) ?_
                    show own_Go p e below _ (s₁.setTop (mkF m 175 #[.val (.ref ax), .val (.int xi), .val (.int xt), .val (.int xcut), .val (.int ((own_g bs xi) &&& (255 : Int32))), .val (.int ((-2 : Int32) - xi)), .val (.int (3 : Int32)), .val (.int (128 : Int32)), .val (.int (191 : Int32)), .unset, .unset, .unset, .unset] []))
                    refine own_by (fun _ => XS.goto X0.here hx rfl (pc0 := 175) (pc' := 261) rfl (hb hby own_d3_175) (by decide) (by decide)) ?_
                    show own_Go p e below _ (s₁.setTop (mkF m 261 #[.val (.ref ax), .val (.int xi), .val (.int xt), .val (.int xcut), .val (.int ((own_g bs xi) &&& (255 : Int32))), .val (.int ((-2 : Int32) - xi)), .val (.int (3 : Int32)), .val (.int (128 : Int32)), .val (.int (191 : Int32)), .unset, .unset, .unset, .unset] []))
                    exact own_monoQ (fun v h L k => ⟨k.1.trans (by simp only [own_step, if_pos hc2_1, if_neg hc21_3, if_neg hc39_20, if_pos hc47_21, if_neg hc71_22, if_pos hc103_23, if_neg hc127_24, if_neg hc151_25, if_pos hc159_26]), k.2.1, k.2.2⟩) (JT _ (3 : Int32) (128 : Int32) (191 : Int32) ⟨_, X0, N0, e0⟩)
                  ·
                    skip
                    refine own_by (fun _ => XS.icmpYes X0.here hx rfl (pc0 := 159) (pc' := 178) rfl (hb hby own_d3_159) rfl (feq hc159_26).2 (by decide) (by decide)) ?_
                    show own_Go p e below _ (s₁.setTop (mkF m 178 #[.val (.ref ax), .val (.int xi), .val (.int xt), .val (.int xcut), .val (.int ((own_g bs xi) &&& (255 : Int32))), .val (.int ((-2 : Int32) - xi)), .unset, .unset, .unset, .unset, .unset, .unset, .unset] []))
                    refine own_by (fun _ => XS.iload X0.here hx rfl (hb hby own_d3_178) rfl) ?_
                    show own_Go p e below _ (s₁.setTop (mkF m 180 #[.val (.ref ax), .val (.int xi), .val (.int xt), .val (.int xcut), .val (.int ((own_g bs xi) &&& (255 : Int32))), .val (.int ((-2 : Int32) - xi)), .unset, .unset, .unset, .unset, .unset, .unset, .unset] [(.int ((own_g bs xi) &&& (255 : Int32)))]))
                    refine own_by (fun _ => XS.sipush X0.here hx rfl (hb hby own_d3_180)) ?_
                    show own_Go p e below _ (s₁.setTop (mkF m 183 #[.val (.ref ax), .val (.int xi), .val (.int xt), .val (.int xcut), .val (.int ((own_g bs xi) &&& (255 : Int32))), .val (.int ((-2 : Int32) - xi)), .unset, .unset, .unset, .unset, .unset, .unset, .unset] [(.int (240 : Int32)), (.int ((own_g bs xi) &&& (255 : Int32)))]))
                    by_cases hc183_27 : ((own_g bs xi) &&& (255 : Int32)) = (240 : Int32)
                    ·
                      skip
                      refine own_by (fun _ => XS.icmpNo X0.here hx rfl (hb hby own_d3_183) rfl (teq hc183_27).2) ?_
                      show own_Go p e below _ (s₁.setTop (mkF m 186 #[.val (.ref ax), .val (.int xi), .val (.int xt), .val (.int xcut), .val (.int ((own_g bs xi) &&& (255 : Int32))), .val (.int ((-2 : Int32) - xi)), .unset, .unset, .unset, .unset, .unset, .unset, .unset] []))
                      refine own_by (fun _ => XS.iconst X0.here hx rfl (hb hby own_d3_186)) ?_
                      show own_Go p e below _ (s₁.setTop (mkF m 187 #[.val (.ref ax), .val (.int xi), .val (.int xt), .val (.int xcut), .val (.int ((own_g bs xi) &&& (255 : Int32))), .val (.int ((-2 : Int32) - xi)), .unset, .unset, .unset, .unset, .unset, .unset, .unset] [(.int (4 : Int32))]))
                      refine own_by (fun _ => XS.istore X0.here hx rfl (hb hby own_d3_187) rfl (l' := #[.val (.ref ax), .val (.int xi), .val (.int xt), .val (.int xcut), .val (.int ((own_g bs xi) &&& (255 : Int32))), .val (.int ((-2 : Int32) - xi)), .val (.int (4 : Int32)), .unset, .unset, .unset, .unset, .unset, .unset]) rfl) ?_
                      show own_Go p e below _ (s₁.setTop (mkF m 189 #[.val (.ref ax), .val (.int xi), .val (.int xt), .val (.int xcut), .val (.int ((own_g bs xi) &&& (255 : Int32))), .val (.int ((-2 : Int32) - xi)), .val (.int (4 : Int32)), .unset, .unset, .unset, .unset, .unset, .unset] []))
                      refine own_by (fun _ => XS.sipush X0.here hx rfl (hb hby own_d3_189)) ?_
                      show own_Go p e below _ (s₁.setTop (mkF m 192 #[.val (.ref ax), .val (.int xi), .val (.int xt), .val (.int xcut), .val (.int ((own_g bs xi) &&& (255 : Int32))), .val (.int ((-2 : Int32) - xi)), .val (.int (4 : Int32)), .unset, .unset, .unset, .unset, .unset, .unset] [(.int (144 : Int32))]))
                      refine own_by (fun _ => XS.istore X0.here hx rfl (hb hby own_d3_192) rfl (l' := #[.val (.ref ax), .val (.int xi), .val (.int xt), .val (.int xcut), .val (.int ((own_g bs xi) &&& (255 : Int32))), .val (.int ((-2 : Int32) - xi)), .val (.int (4 : Int32)), .val (.int (144 : Int32)), .unset, .unset, .unset, .unset, .unset]) rfl) ?_
                      show own_Go p e below _ (s₁.setTop (mkF m 194 #[.val (.ref ax), .val (.int xi), .val (.int xt), .val (.int xcut), .val (.int ((own_g bs xi) &&& (255 : Int32))), .val (.int ((-2 : Int32) - xi)), .val (.int (4 : Int32)), .val (.int (144 : Int32)), .unset, .unset, .unset, .unset, .unset] []))
                      refine own_by (fun _ => XS.sipush X0.here hx rfl (hb hby own_d3_194)) ?_
                      show own_Go p e below _ (s₁.setTop (mkF m 197 #[.val (.ref ax), .val (.int xi), .val (.int xt), .val (.int xcut), .val (.int ((own_g bs xi) &&& (255 : Int32))), .val (.int ((-2 : Int32) - xi)), .val (.int (4 : Int32)), .val (.int (144 : Int32)), .unset, .unset, .unset, .unset, .unset] [(.int (191 : Int32))]))
                      refine own_by (fun _ => XS.istore X0.here hx rfl (hb hby own_d3_197) rfl (l' := #[.val (.ref ax), .val (.int xi), .val (.int xt), .val (.int xcut), .val (.int ((own_g bs xi) &&& (255 : Int32))), .val (.int ((-2 : Int32) - xi)), .val (.int (4 : Int32)), .val (.int (144 : Int32)), .val (.int (191 : Int32)), .unset, .unset, .unset, .unset]) rfl) ?_
                      show own_Go p e below _ (s₁.setTop (mkF m 199 #[.val (.ref ax), .val (.int xi), .val (.int xt), .val (.int xcut), .val (.int ((own_g bs xi) &&& (255 : Int32))), .val (.int ((-2 : Int32) - xi)), .val (.int (4 : Int32)), .val (.int (144 : Int32)), .val (.int (191 : Int32)), .unset, .unset, .unset, .unset] []))
                      refine own_by (fun _ => XS.goto X0.here hx rfl (pc0 := 199) (pc' := 261) rfl (hb hby own_d3_199) (by decide) (by decide)) ?_
                      show own_Go p e below _ (s₁.setTop (mkF m 261 #[.val (.ref ax), .val (.int xi), .val (.int xt), .val (.int xcut), .val (.int ((own_g bs xi) &&& (255 : Int32))), .val (.int ((-2 : Int32) - xi)), .val (.int (4 : Int32)), .val (.int (144 : Int32)), .val (.int (191 : Int32)), .unset, .unset, .unset, .unset] []))
                      exact own_monoQ (fun v h L k => ⟨k.1.trans (by simp only [own_step, if_pos hc2_1, if_neg hc21_3, if_neg hc39_20, if_pos hc47_21, if_neg hc71_22, if_pos hc103_23, if_neg hc127_24, if_neg hc151_25, if_neg hc159_26, if_pos hc183_27]), k.2.1, k.2.2⟩) (JT _ (4 : Int32) (144 : Int32) (191 : Int32) ⟨_, X0, N0, e0⟩)
                    ·
                      skip
                      refine own_by (fun _ => XS.icmpYes X0.here hx rfl (pc0 := 183) (pc' := 202) rfl (hb hby own_d3_183) rfl (feq hc183_27).2 (by decide) (by decide)) ?_
                      show own_Go p e below _ (s₁.setTop (mkF m 202 #[.val (.ref ax), .val (.int xi), .val (.int xt), .val (.int xcut), .val (.int ((own_g bs xi) &&& (255 : Int32))), .val (.int ((-2 : Int32) - xi)), .unset, .unset, .unset, .unset, .unset, .unset, .unset] []))
                      refine own_by (fun _ => XS.iload X0.here hx rfl (hb hby own_d3_202) rfl) ?_
                      show own_Go p e below _ (s₁.setTop (mkF m 204 #[.val (.ref ax), .val (.int xi), .val (.int xt), .val (.int xcut), .val (.int ((own_g bs xi) &&& (255 : Int32))), .val (.int ((-2 : Int32) - xi)), .unset, .unset, .unset, .unset, .unset, .unset, .unset] [(.int ((own_g bs xi) &&& (255 : Int32)))]))
                      refine own_by (fun _ => XS.sipush X0.here hx rfl (hb hby own_d3_204)) ?_
                      show own_Go p e below _ (s₁.setTop (mkF m 207 #[.val (.ref ax), .val (.int xi), .val (.int xt), .val (.int xcut), .val (.int ((own_g bs xi) &&& (255 : Int32))), .val (.int ((-2 : Int32) - xi)), .unset, .unset, .unset, .unset, .unset, .unset, .unset] [(.int (241 : Int32)), (.int ((own_g bs xi) &&& (255 : Int32)))]))
                      refine own_by (fun _ => XS.icmpNo X0.here hx rfl (hb hby own_d3_207) rfl (flt (by have q0 := hc21_3; have q1 := hc39_20; have q2 := hc47_21; have q3 := hc71_22; have q4 := hc103_23; have q5 := hc127_24; have q6 := hc151_25; have q7 := hc159_26; have q8 := hc183_27; simp only [Int32.lt_iff_toInt_lt, ← Int32.toInt_inj, Int32.reduceToInt] at q0 q1 q2 q3 q4 q5 q6 q7 q8 ⊢; omega : ¬ (((own_g bs xi) &&& (255 : Int32)) < (241 : Int32)))).1) ?_
                      show own_Go p e below _ (s₁.setTop (mkF m 210 #[.val (.ref ax), .val (.int xi), .val (.int xt), .val (.int xcut), .val (.int ((own_g bs xi) &&& (255 : Int32))), .val (.int ((-2 : Int32) - xi)), .unset, .unset, .unset, .unset, .unset, .unset, .unset] []))
                      refine own_by (fun _ => XS.iload X0.here hx rfl (hb hby own_d3_210) rfl) ?_
                      show own_Go p e below _ (s₁.setTop (mkF m 212 #[.val (.ref ax), .val (.int xi), .val (.int xt), .val (.int xcut), .val (.int ((own_g bs xi) &&& (255 : Int32))), .val (.int ((-2 : Int32) - xi)), .unset, .unset, .unset, .unset, .unset, .unset, .unset] [(.int ((own_g bs xi) &&& (255 : Int32)))]))
                      refine own_by (fun _ => XS.sipush X0.here hx rfl (hb hby own_d3_212)) ?_
                      show own_Go p e below _ (s₁.setTop (mkF m 215 #[.val (.ref ax), .val (.int xi), .val (.int xt), .val (.int xcut), .val (.int ((own_g bs xi) &&& (255 : Int32))), .val (.int ((-2 : Int32) - xi)), .unset, .unset, .unset, .unset, .unset, .unset, .unset] [(.int (243 : Int32)), (.int ((own_g bs xi) &&& (255 : Int32)))]))
                      by_cases hc215_28 : (243 : Int32) < ((own_g bs xi) &&& (255 : Int32))
                      ·
                        skip
                        refine own_by (fun _ => XS.icmpYes X0.here hx rfl (pc0 := 215) (pc' := 234) rfl (hb hby own_d3_215) rfl (tlt hc215_28).2.2.1 (by decide) (by decide)) ?_
                        show own_Go p e below _ (s₁.setTop (mkF m 234 #[.val (.ref ax), .val (.int xi), .val (.int xt), .val (.int xcut), .val (.int ((own_g bs xi) &&& (255 : Int32))), .val (.int ((-2 : Int32) - xi)), .unset, .unset, .unset, .unset, .unset, .unset, .unset] []))
                        refine own_by (fun _ => XS.iload X0.here hx rfl (hb hby own_d3_234) rfl) ?_
                        show own_Go p e below _ (s₁.setTop (mkF m 236 #[.val (.ref ax), .val (.int xi), .val (.int xt), .val (.int xcut), .val (.int ((own_g bs xi) &&& (255 : Int32))), .val (.int ((-2 : Int32) - xi)), .unset, .unset, .unset, .unset, .unset, .unset, .unset] [(.int ((own_g bs xi) &&& (255 : Int32)))]))
                        refine own_by (fun _ => XS.sipush X0.here hx rfl (hb hby own_d3_236)) ?_
                        show own_Go p e below _ (s₁.setTop (mkF m 239 #[.val (.ref ax), .val (.int xi), .val (.int xt), .val (.int xcut), .val (.int ((own_g bs xi) &&& (255 : Int32))), .val (.int ((-2 : Int32) - xi)), .unset, .unset, .unset, .unset, .unset, .unset, .unset] [(.int (244 : Int32)), (.int ((own_g bs xi) &&& (255 : Int32)))]))
                        by_cases hc239_29 : ((own_g bs xi) &&& (255 : Int32)) = (244 : Int32)
                        ·
                          skip
                          refine own_by (fun _ => XS.icmpNo X0.here hx rfl (hb hby own_d3_239) rfl (teq hc239_29).2) ?_
                          show own_Go p e below _ (s₁.setTop (mkF m 242 #[.val (.ref ax), .val (.int xi), .val (.int xt), .val (.int xcut), .val (.int ((own_g bs xi) &&& (255 : Int32))), .val (.int ((-2 : Int32) - xi)), .unset, .unset, .unset, .unset, .unset, .unset, .unset] []))
                          refine own_by (fun _ => XS.iconst X0.here hx rfl (hb hby own_d3_242)) ?_
                          show own_Go p e below _ (s₁.setTop (mkF m 243 #[.val (.ref ax), .val (.int xi), .val (.int xt), .val (.int xcut), .val (.int ((own_g bs xi) &&& (255 : Int32))), .val (.int ((-2 : Int32) - xi)), .unset, .unset, .unset, .unset, .unset, .unset, .unset] [(.int (4 : Int32))]))
                          refine own_by (fun _ => XS.istore X0.here hx rfl (hb hby own_d3_243) rfl (l' := #[.val (.ref ax), .val (.int xi), .val (.int xt), .val (.int xcut), .val (.int ((own_g bs xi) &&& (255 : Int32))), .val (.int ((-2 : Int32) - xi)), .val (.int (4 : Int32)), .unset, .unset, .unset, .unset, .unset, .unset]) rfl) ?_
                          show own_Go p e below _ (s₁.setTop (mkF m 245 #[.val (.ref ax), .val (.int xi), .val (.int xt), .val (.int xcut), .val (.int ((own_g bs xi) &&& (255 : Int32))), .val (.int ((-2 : Int32) - xi)), .val (.int (4 : Int32)), .unset, .unset, .unset, .unset, .unset, .unset] []))
                          refine own_by (fun _ => XS.sipush X0.here hx rfl (hb hby own_d3_245)) ?_
                          show own_Go p e below _ (s₁.setTop (mkF m 248 #[.val (.ref ax), .val (.int xi), .val (.int xt), .val (.int xcut), .val (.int ((own_g bs xi) &&& (255 : Int32))), .val (.int ((-2 : Int32) - xi)), .val (.int (4 : Int32)), .unset, .unset, .unset, .unset, .unset, .unset] [(.int (128 : Int32))]))
                          refine own_by (fun _ => XS.istore X0.here hx rfl (hb hby own_d3_248) rfl (l' := #[.val (.ref ax), .val (.int xi), .val (.int xt), .val (.int xcut), .val (.int ((own_g bs xi) &&& (255 : Int32))), .val (.int ((-2 : Int32) - xi)), .val (.int (4 : Int32)), .val (.int (128 : Int32)), .unset, .unset, .unset, .unset, .unset]) rfl) ?_
                          show own_Go p e below _ (s₁.setTop (mkF m 250 #[.val (.ref ax), .val (.int xi), .val (.int xt), .val (.int xcut), .val (.int ((own_g bs xi) &&& (255 : Int32))), .val (.int ((-2 : Int32) - xi)), .val (.int (4 : Int32)), .val (.int (128 : Int32)), .unset, .unset, .unset, .unset, .unset] []))
                          refine own_by (fun _ => XS.sipush X0.here hx rfl (hb hby own_d3_250)) ?_
                          show own_Go p e below _ (s₁.setTop (mkF m 253 #[.val (.ref ax), .val (.int xi), .val (.int xt), .val (.int xcut), .val (.int ((own_g bs xi) &&& (255 : Int32))), .val (.int ((-2 : Int32) - xi)), .val (.int (4 : Int32)), .val (.int (128 : Int32)), .unset, .unset, .unset, .unset, .unset] [(.int (143 : Int32))]))
                          refine own_by (fun _ => XS.istore X0.here hx rfl (hb hby own_d3_253) rfl (l' := #[.val (.ref ax), .val (.int xi), .val (.int xt), .val (.int xcut), .val (.int ((own_g bs xi) &&& (255 : Int32))), .val (.int ((-2 : Int32) - xi)), .val (.int (4 : Int32)), .val (.int (128 : Int32)), .val (.int (143 : Int32)), .unset, .unset, .unset, .unset]) rfl) ?_
                          show own_Go p e below _ (s₁.setTop (mkF m 255 #[.val (.ref ax), .val (.int xi), .val (.int xt), .val (.int xcut), .val (.int ((own_g bs xi) &&& (255 : Int32))), .val (.int ((-2 : Int32) - xi)), .val (.int (4 : Int32)), .val (.int (128 : Int32)), .val (.int (143 : Int32)), .unset, .unset, .unset, .unset] []))
                          refine own_by (fun _ => XS.goto X0.here hx rfl (pc0 := 255) (pc' := 261) rfl (hb hby own_d3_255) (by decide) (by decide)) ?_
                          show own_Go p e below _ (s₁.setTop (mkF m 261 #[.val (.ref ax), .val (.int xi), .val (.int xt), .val (.int xcut), .val (.int ((own_g bs xi) &&& (255 : Int32))), .val (.int ((-2 : Int32) - xi)), .val (.int (4 : Int32)), .val (.int (128 : Int32)), .val (.int (143 : Int32)), .unset, .unset, .unset, .unset] []))
                          exact own_monoQ (fun v h L k => ⟨k.1.trans (by simp only [own_step, if_pos hc2_1, if_neg hc21_3, if_neg hc39_20, if_pos hc47_21, if_neg hc71_22, if_pos hc103_23, if_neg hc127_24, if_neg hc151_25, if_neg hc159_26, if_neg hc183_27, if_pos hc215_28, if_pos hc239_29]), k.2.1, k.2.2⟩) (JT _ (4 : Int32) (128 : Int32) (143 : Int32) ⟨_, X0, N0, e0⟩)
                        ·
                          skip
                          refine own_by (fun _ => XS.icmpYes X0.here hx rfl (pc0 := 239) (pc' := 258) rfl (hb hby own_d3_239) rfl (feq hc239_29).2 (by decide) (by decide)) ?_
                          show own_Go p e below _ (s₁.setTop (mkF m 258 #[.val (.ref ax), .val (.int xi), .val (.int xt), .val (.int xcut), .val (.int ((own_g bs xi) &&& (255 : Int32))), .val (.int ((-2 : Int32) - xi)), .unset, .unset, .unset, .unset, .unset, .unset, .unset] []))
                          refine own_by (fun _ => XS.iload X0.here hx rfl (hb hby own_d3_258) rfl) ?_
                          show own_Go p e below _ (s₁.setTop (mkF m 260 #[.val (.ref ax), .val (.int xi), .val (.int xt), .val (.int xcut), .val (.int ((own_g bs xi) &&& (255 : Int32))), .val (.int ((-2 : Int32) - xi)), .unset, .unset, .unset, .unset, .unset, .unset, .unset] [(.int ((-2 : Int32) - xi))]))
                          exact own_retI X0 hx hlk e0 hret (hb hby own_d3_260) (by decide) (by decide) ⟨(by first | with_reducible rfl | simp only [own_step, if_neg hlo, if_neg hto, if_pos hc2_1, if_neg hc21_3, if_neg hc39_20, if_pos hc47_21, if_neg hc71_22, if_pos hc103_23, if_neg hc127_24, if_neg hc151_25, if_neg hc159_26, if_neg hc183_27, if_pos hc215_28, if_neg hc239_29] | rfl), N0, rfl⟩
                      ·
                        skip
                        refine own_by (fun _ => XS.icmpNo X0.here hx rfl (hb hby own_d3_215) rfl (flt hc215_28).2.2.1) ?_
                        show own_Go p e below _ (s₁.setTop (mkF m 218 #[.val (.ref ax), .val (.int xi), .val (.int xt), .val (.int xcut), .val (.int ((own_g bs xi) &&& (255 : Int32))), .val (.int ((-2 : Int32) - xi)), .unset, .unset, .unset, .unset, .unset, .unset, .unset] []))
                        refine own_by (fun _ => XS.iconst X0.here hx rfl (hb hby own_d3_218)) ?_
                        show own_Go p e below _ (s₁.setTop (mkF m 219 #[.val (.ref ax), .val (.int xi), .val (.int xt), .val (.int xcut), .val (.int ((own_g bs xi) &&& (255 : Int32))), .val (.int ((-2 : Int32) - xi)), .unset, .unset, .unset, .unset, .unset, .unset, .unset] [(.int (4 : Int32))]))
                        refine own_by (fun _ => XS.istore X0.here hx rfl (hb hby own_d3_219) rfl (l' := #[.val (.ref ax), .val (.int xi), .val (.int xt), .val (.int xcut), .val (.int ((own_g bs xi) &&& (255 : Int32))), .val (.int ((-2 : Int32) - xi)), .val (.int (4 : Int32)), .unset, .unset, .unset, .unset, .unset, .unset]) rfl) ?_
                        show own_Go p e below _ (s₁.setTop (mkF m 221 #[.val (.ref ax), .val (.int xi), .val (.int xt), .val (.int xcut), .val (.int ((own_g bs xi) &&& (255 : Int32))), .val (.int ((-2 : Int32) - xi)), .val (.int (4 : Int32)), .unset, .unset, .unset, .unset, .unset, .unset] []))
                        refine own_by (fun _ => XS.sipush X0.here hx rfl (hb hby own_d3_221)) ?_
                        show own_Go p e below _ (s₁.setTop (mkF m 224 #[.val (.ref ax), .val (.int xi), .val (.int xt), .val (.int xcut), .val (.int ((own_g bs xi) &&& (255 : Int32))), .val (.int ((-2 : Int32) - xi)), .val (.int (4 : Int32)), .unset, .unset, .unset, .unset, .unset, .unset] [(.int (128 : Int32))]))
                        refine own_by (fun _ => XS.istore X0.here hx rfl (hb hby own_d3_224) rfl (l' := #[.val (.ref ax), .val (.int xi), .val (.int xt), .val (.int xcut), .val (.int ((own_g bs xi) &&& (255 : Int32))), .val (.int ((-2 : Int32) - xi)), .val (.int (4 : Int32)), .val (.int (128 : Int32)), .unset, .unset, .unset, .unset, .unset]) rfl) ?_
                        show own_Go p e below _ (s₁.setTop (mkF m 226 #[.val (.ref ax), .val (.int xi), .val (.int xt), .val (.int xcut), .val (.int ((own_g bs xi) &&& (255 : Int32))), .val (.int ((-2 : Int32) - xi)), .val (.int (4 : Int32)), .val (.int (128 : Int32)), .unset, .unset, .unset, .unset, .unset] []))
                        refine own_by (fun _ => XS.sipush X0.here hx rfl (hb hby own_d3_226)) ?_
                        show own_Go p e below _ (s₁.setTop (mkF m 229 #[.val (.ref ax), .val (.int xi), .val (.int xt), .val (.int xcut), .val (.int ((own_g bs xi) &&& (255 : Int32))), .val (.int ((-2 : Int32) - xi)), .val (.int (4 : Int32)), .val (.int (128 : Int32)), .unset, .unset, .unset, .unset, .unset] [(.int (191 : Int32))]))
                        refine own_by (fun _ => XS.istore X0.here hx rfl (hb hby own_d3_229) rfl (l' := #[.val (.ref ax), .val (.int xi), .val (.int xt), .val (.int xcut), .val (.int ((own_g bs xi) &&& (255 : Int32))), .val (.int ((-2 : Int32) - xi)), .val (.int (4 : Int32)), .val (.int (128 : Int32)), .val (.int (191 : Int32)), .unset, .unset, .unset, .unset]) rfl) ?_
                        show own_Go p e below _ (s₁.setTop (mkF m 231 #[.val (.ref ax), .val (.int xi), .val (.int xt), .val (.int xcut), .val (.int ((own_g bs xi) &&& (255 : Int32))), .val (.int ((-2 : Int32) - xi)), .val (.int (4 : Int32)), .val (.int (128 : Int32)), .val (.int (191 : Int32)), .unset, .unset, .unset, .unset] []))
                        refine own_by (fun _ => XS.goto X0.here hx rfl (pc0 := 231) (pc' := 261) rfl (hb hby own_d3_231) (by decide) (by decide)) ?_
                        show own_Go p e below _ (s₁.setTop (mkF m 261 #[.val (.ref ax), .val (.int xi), .val (.int xt), .val (.int xcut), .val (.int ((own_g bs xi) &&& (255 : Int32))), .val (.int ((-2 : Int32) - xi)), .val (.int (4 : Int32)), .val (.int (128 : Int32)), .val (.int (191 : Int32)), .unset, .unset, .unset, .unset] []))
                        exact own_monoQ (fun v h L k => ⟨k.1.trans (by simp only [own_step, if_pos hc2_1, if_neg hc21_3, if_neg hc39_20, if_pos hc47_21, if_neg hc71_22, if_pos hc103_23, if_neg hc127_24, if_neg hc151_25, if_neg hc159_26, if_neg hc183_27, if_neg hc215_28]), k.2.1, k.2.2⟩) (JT _ (4 : Int32) (128 : Int32) (191 : Int32) ⟨_, X0, N0, e0⟩)
            ·
              skip
              refine own_by (fun _ => XS.icmpNo X0.here hx rfl (hb hby own_d3_103) rfl (flt hc103_23).2.2.1) ?_
              show own_Go p e below _ (s₁.setTop (mkF m 106 #[.val (.ref ax), .val (.int xi), .val (.int xt), .val (.int xcut), .val (.int ((own_g bs xi) &&& (255 : Int32))), .val (.int ((-2 : Int32) - xi)), .unset, .unset, .unset, .unset, .unset, .unset, .unset] []))
              refine own_by (fun _ => XS.iconst X0.here hx rfl (hb hby own_d3_106)) ?_
              show own_Go p e below _ (s₁.setTop (mkF m 107 #[.val (.ref ax), .val (.int xi), .val (.int xt), .val (.int xcut), .val (.int ((own_g bs xi) &&& (255 : Int32))), .val (.int ((-2 : Int32) - xi)), .unset, .unset, .unset, .unset, .unset, .unset, .unset] [(.int (3 : Int32))]))
              refine own_by (fun _ => XS.istore X0.here hx rfl (hb hby own_d3_107) rfl (l' := #[.val (.ref ax), .val (.int xi), .val (.int xt), .val (.int xcut), .val (.int ((own_g bs xi) &&& (255 : Int32))), .val (.int ((-2 : Int32) - xi)), .val (.int (3 : Int32)), .unset, .unset, .unset, .unset, .unset, .unset]) rfl) ?_
              show own_Go p e below _ (s₁.setTop (mkF m 109 #[.val (.ref ax), .val (.int xi), .val (.int xt), .val (.int xcut), .val (.int ((own_g bs xi) &&& (255 : Int32))), .val (.int ((-2 : Int32) - xi)), .val (.int (3 : Int32)), .unset, .unset, .unset, .unset, .unset, .unset] []))
              refine own_by (fun _ => XS.sipush X0.here hx rfl (hb hby own_d3_109)) ?_
              show own_Go p e below _ (s₁.setTop (mkF m 112 #[.val (.ref ax), .val (.int xi), .val (.int xt), .val (.int xcut), .val (.int ((own_g bs xi) &&& (255 : Int32))), .val (.int ((-2 : Int32) - xi)), .val (.int (3 : Int32)), .unset, .unset, .unset, .unset, .unset, .unset] [(.int (128 : Int32))]))
              refine own_by (fun _ => XS.istore X0.here hx rfl (hb hby own_d3_112) rfl (l' := #[.val (.ref ax), .val (.int xi), .val (.int xt), .val (.int xcut), .val (.int ((own_g bs xi) &&& (255 : Int32))), .val (.int ((-2 : Int32) - xi)), .val (.int (3 : Int32)), .val (.int (128 : Int32)), .unset, .unset, .unset, .unset, .unset]) rfl) ?_
              show own_Go p e below _ (s₁.setTop (mkF m 114 #[.val (.ref ax), .val (.int xi), .val (.int xt), .val (.int xcut), .val (.int ((own_g bs xi) &&& (255 : Int32))), .val (.int ((-2 : Int32) - xi)), .val (.int (3 : Int32)), .val (.int (128 : Int32)), .unset, .unset, .unset, .unset, .unset] []))
              refine own_by (fun _ => XS.sipush X0.here hx rfl (hb hby own_d3_114)) ?_
              show own_Go p e below _ (s₁.setTop (mkF m 117 #[.val (.ref ax), .val (.int xi), .val (.int xt), .val (.int xcut), .val (.int ((own_g bs xi) &&& (255 : Int32))), .val (.int ((-2 : Int32) - xi)), .val (.int (3 : Int32)), .val (.int (128 : Int32)), .unset, .unset, .unset, .unset, .unset] [(.int (191 : Int32))]))
              refine own_by (fun _ => XS.istore X0.here hx rfl (hb hby own_d3_117) rfl (l' := #[.val (.ref ax), .val (.int xi), .val (.int xt), .val (.int xcut), .val (.int ((own_g bs xi) &&& (255 : Int32))), .val (.int ((-2 : Int32) - xi)), .val (.int (3 : Int32)), .val (.int (128 : Int32)), .val (.int (191 : Int32)), .unset, .unset, .unset, .unset]) rfl) ?_
              show own_Go p e below _ (s₁.setTop (mkF m 119 #[.val (.ref ax), .val (.int xi), .val (.int xt), .val (.int xcut), .val (.int ((own_g bs xi) &&& (255 : Int32))), .val (.int ((-2 : Int32) - xi)), .val (.int (3 : Int32)), .val (.int (128 : Int32)), .val (.int (191 : Int32)), .unset, .unset, .unset, .unset] []))
              refine own_by (fun _ => XS.goto X0.here hx rfl (pc0 := 119) (pc' := 261) rfl (hb hby own_d3_119) (by decide) (by decide)) ?_
              show own_Go p e below _ (s₁.setTop (mkF m 261 #[.val (.ref ax), .val (.int xi), .val (.int xt), .val (.int xcut), .val (.int ((own_g bs xi) &&& (255 : Int32))), .val (.int ((-2 : Int32) - xi)), .val (.int (3 : Int32)), .val (.int (128 : Int32)), .val (.int (191 : Int32)), .unset, .unset, .unset, .unset] []))
              exact own_monoQ (fun v h L k => ⟨k.1.trans (by simp only [own_step, if_pos hc2_1, if_neg hc21_3, if_neg hc39_20, if_pos hc47_21, if_neg hc71_22, if_neg hc103_23]), k.2.1, k.2.2⟩) (JT _ (3 : Int32) (128 : Int32) (191 : Int32) ⟨_, X0, N0, e0⟩)
        ·
          skip
          refine own_by (fun _ => XS.icmpNo X0.here hx rfl (hb hby own_d3_47) rfl (flt hc47_21).2.2.1) ?_
          show own_Go p e below _ (s₁.setTop (mkF m 50 #[.val (.ref ax), .val (.int xi), .val (.int xt), .val (.int xcut), .val (.int ((own_g bs xi) &&& (255 : Int32))), .val (.int ((-2 : Int32) - xi)), .unset, .unset, .unset, .unset, .unset, .unset, .unset] []))
          refine own_by (fun _ => XS.iconst X0.here hx rfl (hb hby own_d3_50)) ?_
          show own_Go p e below _ (s₁.setTop (mkF m 51 #[.val (.ref ax), .val (.int xi), .val (.int xt), .val (.int xcut), .val (.int ((own_g bs xi) &&& (255 : Int32))), .val (.int ((-2 : Int32) - xi)), .unset, .unset, .unset, .unset, .unset, .unset, .unset] [(.int (2 : Int32))]))
          refine own_by (fun _ => XS.istore X0.here hx rfl (hb hby own_d3_51) rfl (l' := #[.val (.ref ax), .val (.int xi), .val (.int xt), .val (.int xcut), .val (.int ((own_g bs xi) &&& (255 : Int32))), .val (.int ((-2 : Int32) - xi)), .val (.int (2 : Int32)), .unset, .unset, .unset, .unset, .unset, .unset]) rfl) ?_
          show own_Go p e below _ (s₁.setTop (mkF m 53 #[.val (.ref ax), .val (.int xi), .val (.int xt), .val (.int xcut), .val (.int ((own_g bs xi) &&& (255 : Int32))), .val (.int ((-2 : Int32) - xi)), .val (.int (2 : Int32)), .unset, .unset, .unset, .unset, .unset, .unset] []))
          refine own_by (fun _ => XS.sipush X0.here hx rfl (hb hby own_d3_53)) ?_
          show own_Go p e below _ (s₁.setTop (mkF m 56 #[.val (.ref ax), .val (.int xi), .val (.int xt), .val (.int xcut), .val (.int ((own_g bs xi) &&& (255 : Int32))), .val (.int ((-2 : Int32) - xi)), .val (.int (2 : Int32)), .unset, .unset, .unset, .unset, .unset, .unset] [(.int (128 : Int32))]))
          refine own_by (fun _ => XS.istore X0.here hx rfl (hb hby own_d3_56) rfl (l' := #[.val (.ref ax), .val (.int xi), .val (.int xt), .val (.int xcut), .val (.int ((own_g bs xi) &&& (255 : Int32))), .val (.int ((-2 : Int32) - xi)), .val (.int (2 : Int32)), .val (.int (128 : Int32)), .unset, .unset, .unset, .unset, .unset]) rfl) ?_
          show own_Go p e below _ (s₁.setTop (mkF m 58 #[.val (.ref ax), .val (.int xi), .val (.int xt), .val (.int xcut), .val (.int ((own_g bs xi) &&& (255 : Int32))), .val (.int ((-2 : Int32) - xi)), .val (.int (2 : Int32)), .val (.int (128 : Int32)), .unset, .unset, .unset, .unset, .unset] []))
          refine own_by (fun _ => XS.sipush X0.here hx rfl (hb hby own_d3_58)) ?_
          show own_Go p e below _ (s₁.setTop (mkF m 61 #[.val (.ref ax), .val (.int xi), .val (.int xt), .val (.int xcut), .val (.int ((own_g bs xi) &&& (255 : Int32))), .val (.int ((-2 : Int32) - xi)), .val (.int (2 : Int32)), .val (.int (128 : Int32)), .unset, .unset, .unset, .unset, .unset] [(.int (191 : Int32))]))
          refine own_by (fun _ => XS.istore X0.here hx rfl (hb hby own_d3_61) rfl (l' := #[.val (.ref ax), .val (.int xi), .val (.int xt), .val (.int xcut), .val (.int ((own_g bs xi) &&& (255 : Int32))), .val (.int ((-2 : Int32) - xi)), .val (.int (2 : Int32)), .val (.int (128 : Int32)), .val (.int (191 : Int32)), .unset, .unset, .unset, .unset]) rfl) ?_
          show own_Go p e below _ (s₁.setTop (mkF m 63 #[.val (.ref ax), .val (.int xi), .val (.int xt), .val (.int xcut), .val (.int ((own_g bs xi) &&& (255 : Int32))), .val (.int ((-2 : Int32) - xi)), .val (.int (2 : Int32)), .val (.int (128 : Int32)), .val (.int (191 : Int32)), .unset, .unset, .unset, .unset] []))
          refine own_by (fun _ => XS.goto X0.here hx rfl (pc0 := 63) (pc' := 261) rfl (hb hby own_d3_63) (by decide) (by decide)) ?_
          show own_Go p e below _ (s₁.setTop (mkF m 261 #[.val (.ref ax), .val (.int xi), .val (.int xt), .val (.int xcut), .val (.int ((own_g bs xi) &&& (255 : Int32))), .val (.int ((-2 : Int32) - xi)), .val (.int (2 : Int32)), .val (.int (128 : Int32)), .val (.int (191 : Int32)), .unset, .unset, .unset, .unset] []))
          exact own_monoQ (fun v h L k => ⟨k.1.trans (by simp only [own_step, if_pos hc2_1, if_neg hc21_3, if_neg hc39_20, if_neg hc47_21]), k.2.1, k.2.2⟩) (JT _ (2 : Int32) (128 : Int32) (191 : Int32) ⟨_, X0, N0, e0⟩)
  ·
    skip
    refine own_by (fun _ => XS.icmpNo X0.here hx rfl (hb hby own_d3_2) rfl (flt hc2_1).1) ?_
    show own_Go p e below _ (s₁.setTop (mkF m 5 #[.val (.ref ax), .val (.int xi), .val (.int xt), .val (.int xcut), .unset, .unset, .unset, .unset, .unset, .unset, .unset, .unset, .unset] []))
    refine own_by (fun _ => XS.iconst X0.here hx rfl (hb hby own_d3_5)) ?_
    show own_Go p e below _ (s₁.setTop (mkF m 6 #[.val (.ref ax), .val (.int xi), .val (.int xt), .val (.int xcut), .unset, .unset, .unset, .unset, .unset, .unset, .unset, .unset, .unset] [(.int (-1 : Int32))]))
    exact own_retI X0 hx hlk e0 hret (hb hby own_d3_6) (by decide) (by decide) ⟨(by first | with_reducible rfl | simp only [own_step, if_neg hlo, if_neg hto, if_neg hc2_1] | rfl), N0, rfl⟩

theorem own_d2_0 : decode method_3_code 0 = .ok (.iload_n 1, 1) := by decide +kernel
theorem own_d2_1 : decode method_3_code 1 = .ok (.ifCond .ge 5, 3) := by decide +kernel
theorem own_d2_4 : decode method_3_code 4 = .ok (.iload_n 1, 1) := by decide +kernel
theorem own_d2_5 : decode method_3_code 5 = .ok (.ireturn, 1) := by decide +kernel
theorem own_d2_6 : decode method_3_code 6 = .ok (.aload_n 0, 1) := by decide +kernel
theorem own_d2_7 : decode method_3_code 7 = .ok (.iload_n 1, 1) := by decide +kernel
theorem own_d2_8 : decode method_3_code 8 = .ok (.iload_n 2, 1) := by decide +kernel
theorem own_d2_9 : decode method_3_code 9 = .ok (.iload_n 3, 1) := by decide +kernel
theorem own_d2_10 : decode method_3_code 10 = .ok (.invokestatic 7, 3) := by decide +kernel
theorem own_d2_13 : decode method_3_code 13 = .ok (.ireturn, 1) := by decide +kernel
def own_adv (xi : Int32) (xt : Int32) (xcut : Int32) (bs : List Int32) : Int32 := (if xi < (0 : Int32) then xi else (own_step xi xt xcut bs))
theorem own_pn2 : plainName "com/example/bucketsplit/bucketsplit/core/Utf8FirstIllFormedPinLaw" = true := by first | (simp [plainName, overriddenIn]; done) | decide +kernel
theorem own_ef2 (m : MethodId) (x0 : Addr) (x1 : Int32) (x2 : Int32) (x3 : Int32) : entryFrame m #[(.ref x0), (.int x1), (.int x2), (.int x3)] 4 = mkF m 0 #[.val (.ref x0), .val (.int x1), .val (.int x2), .val (.int x3)] [] := by first | (simp [entryFrame, mkF, argsToLocals, Value.category]; done) | rfl
def own_Q2 (Z : State) (ax : Addr) (xi : Int32) (xt : Int32) (xcut : Int32) (bk : ClassId) (bs : List Int32) (h0 : Heap) (n0 : Nat) (v : Option Value) (h : Heap) (L : List Loc) : Prop := v = some (.int (own_adv xi xt xcut bs)) ∧ Fr n0 L ∧ h = h0
theorem own_rm2 (l : Launch) (Z : State) (a0 : Array Value) (hw : ∀ d ∈ tables_1, d.before a0 Z = true) (ws : List Jvm.Cond) (ax : Addr) (xi : Int32) (xt : Int32) (xcut : Int32) (bk : ClassId) (bs : List Int32) (h0 : Heap) (n0 : Nat) (Z0 : n0 ≤ h0.size) (pf0 : Arv Z h0 ax bk .byte (8 : Int32) (bs.map Value.int) (.int (0 : Int32))) (hto : ¬ ((8 : Int32) < xt)) :
    MetFree l (⟨"com/example/bucketsplit/bucketsplit/core/Utf8FirstIllFormedPinLaw", "adv", "([BIIZ)I"⟩ : MethodName) (head1 (Jvm.Cond.code (⟨"com/example/bucketsplit/bucketsplit/core/Utf8FirstIllFormedPinLaw", "adv", "([BIIZ)I"⟩ : MethodName) method_3_code 4 (some .int) :: ws) ({ frames := 1, cells := 0, slots := 0, locals := 24 } : Room)) (fun a U => a = #[(.ref ax), (.int xi), (.int xt), (.int xcut)] ∧ Z.Warmed39 U.vm ∧ U.heap = h0) (fun _ _ _ _ _ => True) (fun _ U o U' => ∃ v L, o = .returned v ∧ own_Q2 Z ax xi xt xcut bk bs h0 n0 v U'.heap L ∧ FrameEnd U o U' L ({ frames := 1, cells := 0, slots := 0, locals := 24 } : Room).cells ({ frames := 1, cells := 0, slots := 0, locals := 24 } : Room).slots) := by
  refine MetFree.of_bodySF (plainFor_of_name own_pn2) hisR ?_
  intro p e s m args below meth c s₁ Bd hml0 hP hK
  obtain ⟨rfl, hZ, hh⟩ := hP
  have hx := Bd.exec
  have hby := Bd.bytes
  have hlk := Bd.notSynchronized
  have hret := Bd.returns
  have hml : c.maxLocals = 4 := hml0
  have hown : s.vm.findClass "com/example/bucketsplit/bucketsplit/core/Utf8FirstIllFormedPinLaw" = some m.cls := findClass_of_methodNamed Bd.named
  have hnm := (name_of_methodNamed Bd.named Bd.method).1
  have X0 : Stand p l e ({ frames := 1, cells := 0, slots := 0, locals := 24 } : Room) s m #[(.ref ax), (.int xi), (.int xt), (.int xcut)] below meth c s₁ [] 0 0 := Stand.of_body Bd
  have e0 : s₁.heap = h0 := by rw [← hh, Bd.state]; rfl
  have N0 := Fr.nil n0
  suffices key : own_Go p e below (own_End s below (own_Q2 Z ax xi xt xcut bk bs h0 n0) ({ frames := 1, cells := 0, slots := 0, locals := 24 } : Room).cells ({ frames := 1, cells := 0, slots := 0, locals := 24 } : Room).slots) (s₁.setTop (mkF m 0 #[.val (.ref ax), .val (.int xi), .val (.int xt), .val (.int xcut)] [])) by
    obtain ⟨t, k1, k2, v, L, k3, k4, k5⟩ := key
    exact ⟨t, _, castTop (own_ef2 m ax xi xt xcut) k1, k2, k3, v, L, rfl, k4, k5⟩
  show own_Go p e below _ (s₁.setTop (mkF m 0 #[.val (.ref ax), .val (.int xi), .val (.int xt), .val (.int xcut)] []))
  refine own_by (fun _ => XS.iloadN X0.here hx rfl (hb hby own_d2_0) rfl) ?_
  show own_Go p e below _ (s₁.setTop (mkF m 1 #[.val (.ref ax), .val (.int xi), .val (.int xt), .val (.int xcut)] [(.int xi)]))
  by_cases hc1_1 : xi < (0 : Int32)
  ·
    skip
    refine own_by (fun _ => XS.ifNo X0.here hx rfl (hb hby own_d2_1) rfl ((if0 _ _).trans (tlt hc1_1).2.1)) ?_
    show own_Go p e below _ (s₁.setTop (mkF m 4 #[.val (.ref ax), .val (.int xi), .val (.int xt), .val (.int xcut)] []))
    refine own_by (fun _ => XS.iloadN X0.here hx rfl (hb hby own_d2_4) rfl) ?_
    show own_Go p e below _ (s₁.setTop (mkF m 5 #[.val (.ref ax), .val (.int xi), .val (.int xt), .val (.int xcut)] [(.int xi)]))
    exact own_retI X0 hx hlk e0 hret (hb hby own_d2_5) (by decide) (by decide) ⟨(by first | with_reducible rfl | simp only [own_adv, if_neg hto, if_pos hc1_1] | rfl), N0, rfl⟩
  ·
    skip
    refine own_by (fun _ => XS.ifYes X0.here hx rfl (pc0 := 1) (pc' := 6) rfl (hb hby own_d2_1) rfl ((if0 _ _).trans (flt hc1_1).2.1) (by decide) (by decide)) ?_
    show own_Go p e below _ (s₁.setTop (mkF m 6 #[.val (.ref ax), .val (.int xi), .val (.int xt), .val (.int xcut)] []))
    refine own_by (fun _ => XS.aloadN X0.here hx rfl (hb hby own_d2_6) rfl rfl) ?_
    show own_Go p e below _ (s₁.setTop (mkF m 7 #[.val (.ref ax), .val (.int xi), .val (.int xt), .val (.int xcut)] [(.ref ax)]))
    refine own_by (fun _ => XS.iloadN X0.here hx rfl (hb hby own_d2_7) rfl) ?_
    show own_Go p e below _ (s₁.setTop (mkF m 8 #[.val (.ref ax), .val (.int xi), .val (.int xt), .val (.int xcut)] [(.int xi), (.ref ax)]))
    refine own_by (fun _ => XS.iloadN X0.here hx rfl (hb hby own_d2_8) rfl) ?_
    show own_Go p e below _ (s₁.setTop (mkF m 9 #[.val (.ref ax), .val (.int xi), .val (.int xt), .val (.int xcut)] [(.int xt), (.int xi), (.ref ax)]))
    refine own_by (fun _ => XS.iloadN X0.here hx rfl (hb hby own_d2_9) rfl) ?_
    show own_Go p e below _ (s₁.setTop (mkF m 10 #[.val (.ref ax), .val (.int xi), .val (.int xt), .val (.int xcut)] [(.int xcut), (.int xt), (.int xi), (.ref ax)]))
    obtain ⟨_, _, ⟨T2, L2, k2, n2⟩, -, X2, ⟨Lc2, hQ2, l2, y2, z2'⟩, st2⟩ := Jvm.LawKit.callS X0 hx (y := (⟨"com/example/bucketsplit/bucketsplit/core/Utf8FirstIllFormedPinLaw", "step", "([BIIZ)I"⟩ : MethodName)) hown (mvT hZ (hw _ (List.mem_of_getElem? (i := 9) rfl))) (mvT hZ (hw _ (List.mem_of_getElem? (i := 10) rfl))) (mvT hZ (hw _ (List.mem_of_getElem? (i := 7) rfl))) (mvT hZ (hw _ (List.mem_of_getElem? (i := 11) rfl))) (by decide) (backOf (W := 0) (own_rm3 l Z a0 hw [] ax xi xt xcut bk bs h0 n0 Z0 pf0 hc1_1 hto) hZ (hw _ (List.mem_of_getElem? (i := 11) rfl)) (hw _ (List.mem_of_getElem? (i := 7) rfl)) (by decide) (by decide)) (g := (mkF m 10 #[.val (.ref ax), .val (.int xi), .val (.int xt), .val (.int xcut)] [(.int xcut), (.int xt), (.int xi), (.ref ax)])) rfl (by rw [hml]; rfl) (argsL := [(.ref ax), (.int xi), (.int xt), (.int xcut)]) (rest := []) (lenOf own_pd0 rfl) rfl (by show 2 * 0 + _ ≤ _; exact Nat.le_of_eq rfl) (hb hby own_d2_10) (fun _ _ => ⟨rfl, e0, (by decide : 0 + 0 ≤ _), (by decide : 0 + 0 ≤ _)⟩)
    dsimp only [Pt.U, Pt.locs, Pt.cells, Pt.slots] at X2 l2 y2 z2' st2 hQ2
    subst l2 y2 z2'
    obtain ⟨rfl, N2q, e2⟩ := hQ2
    have N2 := Fr.app N0 N2q
    refine own_by st2 ?_
    show own_Go p e below _ (T2.setTop (mkF m 13 #[.val (.ref ax), .val (.int xi), .val (.int xt), .val (.int xcut)] [(.int (own_step xi xt xcut bs))]))
    exact own_retI X2 hx hlk e2 hret (hb hby own_d2_13) (by decide) (by decide) ⟨(by first | with_reducible rfl | simp only [own_adv, if_neg hto, if_neg hc1_1] | rfl), N2, rfl⟩


def own_run : Nat → Int32 → Int32 → Int32 → List Int32 → Int32
  | 0, _, _, _, _ => -1
  | k + 1, y, xt, xcut, bs => if own_step y xt xcut bs < (0 : Int32) then (if own_step y xt xcut bs = (-1 : Int32) then (-1 : Int32) else (-2 : Int32) - own_step y xt xcut bs) else own_run k (own_step y xt xcut bs) xt xcut bs
theorem own_step_end {y xt xcut : Int32} {bs : List Int32} (h : ¬ (y < xt)) : own_step y xt xcut bs = (-1 : Int32) := by simp only [own_step, if_neg h]
theorem own_step_ascii {y xt xcut : Int32} {bs : List Int32} (h : y < xt) (q : ((own_g bs y) &&& (255 : Int32)) < (128 : Int32)) : own_step y xt xcut bs = (y + (1 : Int32)) := by simp only [own_step, if_pos h, if_pos q]
theorem own_step_nf {y xt xcut v6 v7 v8 : Int32} {bs : List Int32} (h : y < xt) (q : ¬ (((own_g bs y) &&& (255 : Int32)) < (128 : Int32)))
    (h6 : v6 = (if ((own_g bs y) &&& (255 : Int32)) < (194 : Int32) then (0 : Int32) else (if ((own_g bs y) &&& (255 : Int32)) < (224 : Int32) then (2 : Int32) else (if ((own_g bs y) &&& (255 : Int32)) < (240 : Int32) then (3 : Int32) else (if ((own_g bs y) &&& (255 : Int32)) < (245 : Int32) then (4 : Int32) else (0 : Int32))))))
    (h7 : v7 = (if ((own_g bs y) &&& (255 : Int32)) = (224 : Int32) then (160 : Int32) else (if ((own_g bs y) &&& (255 : Int32)) = (240 : Int32) then (144 : Int32) else (128 : Int32))))
    (h8 : v8 = (if ((own_g bs y) &&& (255 : Int32)) = (237 : Int32) then (159 : Int32) else (if ((own_g bs y) &&& (255 : Int32)) = (244 : Int32) then (143 : Int32) else (191 : Int32)))) :
    own_step y xt xcut bs = if v6 = (0 : Int32) then ((-2 : Int32) - y) else own_stail y xt xcut bs v6 v7 v8 := by
  simp only [own_step, if_pos h, if_neg q]
  subst h6 h7 h8
  generalize ((own_g bs y) &&& (255 : Int32)) = u
  have c : (128 : Int32).toInt = 128 ∧ (194 : Int32).toInt = 194 ∧ (223 : Int32).toInt = 223 ∧ (224 : Int32).toInt = 224 ∧ (236 : Int32).toInt = 236 ∧ (237 : Int32).toInt = 237 ∧ (238 : Int32).toInt = 238 ∧ (239 : Int32).toInt = 239 ∧ (240 : Int32).toInt = 240 ∧ (243 : Int32).toInt = 243 ∧ (244 : Int32).toInt = 244 ∧ (245 : Int32).toInt = 245 := by decide
  obtain ⟨a1, a2, a3, a4, a5, a6, a7, a8, a9, a10, a11, a12⟩ := c
  have z2 : ¬ ((2 : Int32) = 0) := by decide
  have z3 : ¬ ((3 : Int32) = 0) := by decide
  have z4 : ¬ ((4 : Int32) = 0) := by decide
  simp only [Int32.lt_iff_toInt_lt, ← Int32.toInt_inj (x := u), a1, a2, a3, a4, a5, a6, a7, a8, a9, a10, a11, a12]
  (repeat' split) <;> first | with_reducible rfl | (exfalso; omega) | (exfalso; simp_all; done) | (exfalso; simp_all; omega)
theorem own_step_bad {y xt xcut v6 : Int32} {bs : List Int32} (h : y < xt) (q : ¬ (((own_g bs y) &&& (255 : Int32)) < (128 : Int32)))
    (h6 : v6 = (if ((own_g bs y) &&& (255 : Int32)) < (194 : Int32) then (0 : Int32) else (if ((own_g bs y) &&& (255 : Int32)) < (224 : Int32) then (2 : Int32) else (if ((own_g bs y) &&& (255 : Int32)) < (240 : Int32) then (3 : Int32) else (if ((own_g bs y) &&& (255 : Int32)) < (245 : Int32) then (4 : Int32) else (0 : Int32)))))) (z : v6 = (0 : Int32)) : own_step y xt xcut bs = ((-2 : Int32) - y) := by
  rw [own_step_nf h q h6 rfl rfl, if_pos z]
theorem own_step_tail {y xt xcut v6 v7 v8 : Int32} {bs : List Int32} (h : y < xt) (q : ¬ (((own_g bs y) &&& (255 : Int32)) < (128 : Int32)))
    (h6 : v6 = (if ((own_g bs y) &&& (255 : Int32)) < (194 : Int32) then (0 : Int32) else (if ((own_g bs y) &&& (255 : Int32)) < (224 : Int32) then (2 : Int32) else (if ((own_g bs y) &&& (255 : Int32)) < (240 : Int32) then (3 : Int32) else (if ((own_g bs y) &&& (255 : Int32)) < (245 : Int32) then (4 : Int32) else (0 : Int32)))))) (n : ¬ (v6 = (0 : Int32)))
    (h7 : v7 = (if ((own_g bs y) &&& (255 : Int32)) = (224 : Int32) then (160 : Int32) else (if ((own_g bs y) &&& (255 : Int32)) = (240 : Int32) then (144 : Int32) else (128 : Int32))))
    (h8 : v8 = (if ((own_g bs y) &&& (255 : Int32)) = (237 : Int32) then (159 : Int32) else (if ((own_g bs y) &&& (255 : Int32)) = (244 : Int32) then (143 : Int32) else (191 : Int32)))) : own_step y xt xcut bs = own_stail y xt xcut bs v6 v7 v8 := by
  rw [own_step_nf h q h6 h7 h8, if_neg n]
theorem own_m2 {y xt : Int32} (h : ¬ (y < (0 : Int32))) (h1 : ¬ (xt < y)) (h2 : ¬ ((8 : Int32) < xt)) : ((-2 : Int32) - y) < (0 : Int32) ∧ ¬ (((-2 : Int32) - y) = (-1 : Int32)) ∧ (-2 : Int32) - ((-2 : Int32) - y) = y := by
  obtain ⟨k0, k1, k2, k3, k4, k8, m1, m2⟩ := own_lits
  have e := c_isub (-2) y
  have r := rng32 ((-2 : Int32) - y)
  have e2 := c_isub (-2) ((-2 : Int32) - y)
  have r2 := rng32 ((-2 : Int32) - ((-2 : Int32) - y))
  have ry := rng32 y
  simp only [Int32.lt_iff_toInt_lt, ← Int32.toInt_inj, k0, k8, m1, m2] at *
  omega
theorem own_run_end {k : Nat} {y xt xcut : Int32} {bs : List Int32} (h : ¬ (y < xt)) : own_run (k + 1) y xt xcut bs = (-1 : Int32) := by
  rw [own_run, own_step_end h, if_pos (by decide), if_pos rfl]
theorem own_run_bad {k : Nat} {y xt xcut : Int32} {bs : List Int32} (hy : ¬ (y < (0 : Int32))) (h1 : ¬ (xt < y)) (h2 : ¬ ((8 : Int32) < xt)) (h : own_step y xt xcut bs = ((-2 : Int32) - y)) : own_run (k + 1) y xt xcut bs = y := by
  obtain ⟨a, b, c⟩ := own_m2 hy h1 h2
  rw [own_run, h, if_pos a, if_neg b, c]
theorem own_run_cut {k : Nat} {y xt xcut : Int32} {bs : List Int32} (hy : ¬ (y < (0 : Int32))) (h1 : ¬ (xt < y)) (h2 : ¬ ((8 : Int32) < xt)) (h : own_step y xt xcut bs = (if xcut = (0 : Int32) then ((-2 : Int32) - y) else (-1 : Int32))) : own_run (k + 1) y xt xcut bs = (if xcut = (0 : Int32) then y else (-1 : Int32)) := by
  by_cases q : xcut = (0 : Int32)
  · rw [if_pos q] at h ⊢; exact own_run_bad hy h1 h2 h
  · rw [if_neg q] at h ⊢; rw [own_run, h, if_pos (by decide), if_pos rfl]
theorem own_run_go {k : Nat} {y y' xt xcut : Int32} {bs : List Int32} (hy : ¬ (y' < (0 : Int32))) (h : own_step y xt xcut bs = y') : own_run (k + 1) y xt xcut bs = own_run k y' xt xcut bs := by
  rw [own_run, h, if_neg hy]

theorem own_d4_0 : decode prog_83_method_2_code 0 = .ok (.iload_n 1, 1) := by decide +kernel
theorem own_d4_1 : decode prog_83_method_2_code 1 = .ok (.istore 4, 2) := by decide +kernel
theorem own_d4_3 : decode prog_83_method_2_code 3 = .ok (.iload 4, 2) := by decide +kernel
theorem own_d4_5 : decode prog_83_method_2_code 5 = .ok (.iload_n 2, 1) := by decide +kernel
theorem own_d4_6 : decode prog_83_method_2_code 6 = .ok (.if_icmp .ge 238, 3) := by decide +kernel
theorem own_d4_9 : decode prog_83_method_2_code 9 = .ok (.aload_n 0, 1) := by decide +kernel
theorem own_d4_10 : decode prog_83_method_2_code 10 = .ok (.iload 4, 2) := by decide +kernel
theorem own_d4_12 : decode prog_83_method_2_code 12 = .ok (.baload, 1) := by decide +kernel
theorem own_d4_13 : decode prog_83_method_2_code 13 = .ok (.sipush 255, 3) := by decide +kernel
theorem own_d4_16 : decode prog_83_method_2_code 16 = .ok (.iand, 1) := by decide +kernel
theorem own_d4_17 : decode prog_83_method_2_code 17 = .ok (.istore 5, 2) := by decide +kernel
theorem own_d4_19 : decode prog_83_method_2_code 19 = .ok (.iload 5, 2) := by decide +kernel
theorem own_d4_21 : decode prog_83_method_2_code 21 = .ok (.sipush 128, 3) := by decide +kernel
theorem own_d4_24 : decode prog_83_method_2_code 24 = .ok (.if_icmp .ge 9, 3) := by decide +kernel
theorem own_d4_27 : decode prog_83_method_2_code 27 = .ok (.iinc 4 1, 3) := by decide +kernel
theorem own_d4_30 : decode prog_83_method_2_code 30 = .ok (.goto (-27), 3) := by decide +kernel
theorem own_d4_33 : decode prog_83_method_2_code 33 = .ok (.iload 5, 2) := by decide +kernel
theorem own_d4_35 : decode prog_83_method_2_code 35 = .ok (.sipush 194, 3) := by decide +kernel
theorem own_d4_38 : decode prog_83_method_2_code 38 = .ok (.if_icmp .ge 7, 3) := by decide +kernel
theorem own_d4_41 : decode prog_83_method_2_code 41 = .ok (.iconst 0, 1) := by decide +kernel
theorem own_d4_42 : decode prog_83_method_2_code 42 = .ok (.goto 40, 3) := by decide +kernel
theorem own_d4_45 : decode prog_83_method_2_code 45 = .ok (.iload 5, 2) := by decide +kernel
theorem own_d4_47 : decode prog_83_method_2_code 47 = .ok (.sipush 224, 3) := by decide +kernel
theorem own_d4_50 : decode prog_83_method_2_code 50 = .ok (.if_icmp .ge 7, 3) := by decide +kernel
theorem own_d4_53 : decode prog_83_method_2_code 53 = .ok (.iconst 2, 1) := by decide +kernel
theorem own_d4_54 : decode prog_83_method_2_code 54 = .ok (.goto 28, 3) := by decide +kernel
theorem own_d4_57 : decode prog_83_method_2_code 57 = .ok (.iload 5, 2) := by decide +kernel
theorem own_d4_59 : decode prog_83_method_2_code 59 = .ok (.sipush 240, 3) := by decide +kernel
theorem own_d4_62 : decode prog_83_method_2_code 62 = .ok (.if_icmp .ge 7, 3) := by decide +kernel
theorem own_d4_65 : decode prog_83_method_2_code 65 = .ok (.iconst 3, 1) := by decide +kernel
theorem own_d4_66 : decode prog_83_method_2_code 66 = .ok (.goto 16, 3) := by decide +kernel
theorem own_d4_69 : decode prog_83_method_2_code 69 = .ok (.iload 5, 2) := by decide +kernel
theorem own_d4_71 : decode prog_83_method_2_code 71 = .ok (.sipush 245, 3) := by decide +kernel
theorem own_d4_74 : decode prog_83_method_2_code 74 = .ok (.if_icmp .ge 7, 3) := by decide +kernel
theorem own_d4_77 : decode prog_83_method_2_code 77 = .ok (.iconst 4, 1) := by decide +kernel
theorem own_d4_78 : decode prog_83_method_2_code 78 = .ok (.goto 4, 3) := by decide +kernel
theorem own_d4_81 : decode prog_83_method_2_code 81 = .ok (.iconst 0, 1) := by decide +kernel
theorem own_d4_82 : decode prog_83_method_2_code 82 = .ok (.istore 6, 2) := by decide +kernel
theorem own_d4_84 : decode prog_83_method_2_code 84 = .ok (.iload 6, 2) := by decide +kernel
theorem own_d4_86 : decode prog_83_method_2_code 86 = .ok (.ifCond .ne 6, 3) := by decide +kernel
theorem own_d4_89 : decode prog_83_method_2_code 89 = .ok (.iload 4, 2) := by decide +kernel
theorem own_d4_91 : decode prog_83_method_2_code 91 = .ok (.ireturn, 1) := by decide +kernel
theorem own_d4_92 : decode prog_83_method_2_code 92 = .ok (.iload 5, 2) := by decide +kernel
theorem own_d4_94 : decode prog_83_method_2_code 94 = .ok (.sipush 224, 3) := by decide +kernel
theorem own_d4_97 : decode prog_83_method_2_code 97 = .ok (.if_icmp .ne 9, 3) := by decide +kernel
theorem own_d4_100 : decode prog_83_method_2_code 100 = .ok (.sipush 160, 3) := by decide +kernel
theorem own_d4_103 : decode prog_83_method_2_code 103 = .ok (.goto 20, 3) := by decide +kernel
theorem own_d4_106 : decode prog_83_method_2_code 106 = .ok (.iload 5, 2) := by decide +kernel
theorem own_d4_108 : decode prog_83_method_2_code 108 = .ok (.sipush 240, 3) := by decide +kernel
theorem own_d4_111 : decode prog_83_method_2_code 111 = .ok (.if_icmp .ne 9, 3) := by decide +kernel
theorem own_d4_114 : decode prog_83_method_2_code 114 = .ok (.sipush 144, 3) := by decide +kernel
theorem own_d4_117 : decode prog_83_method_2_code 117 = .ok (.goto 6, 3) := by decide +kernel
theorem own_d4_120 : decode prog_83_method_2_code 120 = .ok (.sipush 128, 3) := by decide +kernel
theorem own_d4_123 : decode prog_83_method_2_code 123 = .ok (.istore 7, 2) := by decide +kernel
theorem own_d4_125 : decode prog_83_method_2_code 125 = .ok (.iload 5, 2) := by decide +kernel
theorem own_d4_127 : decode prog_83_method_2_code 127 = .ok (.sipush 237, 3) := by decide +kernel
theorem own_d4_130 : decode prog_83_method_2_code 130 = .ok (.if_icmp .ne 9, 3) := by decide +kernel
theorem own_d4_133 : decode prog_83_method_2_code 133 = .ok (.sipush 159, 3) := by decide +kernel
theorem own_d4_136 : decode prog_83_method_2_code 136 = .ok (.goto 20, 3) := by decide +kernel
theorem own_d4_139 : decode prog_83_method_2_code 139 = .ok (.iload 5, 2) := by decide +kernel
theorem own_d4_141 : decode prog_83_method_2_code 141 = .ok (.sipush 244, 3) := by decide +kernel
theorem own_d4_144 : decode prog_83_method_2_code 144 = .ok (.if_icmp .ne 9, 3) := by decide +kernel
theorem own_d4_147 : decode prog_83_method_2_code 147 = .ok (.sipush 143, 3) := by decide +kernel
theorem own_d4_150 : decode prog_83_method_2_code 150 = .ok (.goto 6, 3) := by decide +kernel
theorem own_d4_153 : decode prog_83_method_2_code 153 = .ok (.sipush 191, 3) := by decide +kernel
theorem own_d4_156 : decode prog_83_method_2_code 156 = .ok (.istore 8, 2) := by decide +kernel
theorem own_d4_158 : decode prog_83_method_2_code 158 = .ok (.iconst 1, 1) := by decide +kernel
theorem own_d4_159 : decode prog_83_method_2_code 159 = .ok (.istore 9, 2) := by decide +kernel
theorem own_d4_161 : decode prog_83_method_2_code 161 = .ok (.iload 9, 2) := by decide +kernel
theorem own_d4_163 : decode prog_83_method_2_code 163 = .ok (.iload 6, 2) := by decide +kernel
theorem own_d4_165 : decode prog_83_method_2_code 165 = .ok (.if_icmp .ge 69, 3) := by decide +kernel
theorem own_d4_168 : decode prog_83_method_2_code 168 = .ok (.iload 4, 2) := by decide +kernel
theorem own_d4_170 : decode prog_83_method_2_code 170 = .ok (.iload 9, 2) := by decide +kernel
theorem own_d4_172 : decode prog_83_method_2_code 172 = .ok (.iadd, 1) := by decide +kernel
theorem own_d4_173 : decode prog_83_method_2_code 173 = .ok (.iload_n 2, 1) := by decide +kernel
theorem own_d4_174 : decode prog_83_method_2_code 174 = .ok (.if_icmp .ne 14, 3) := by decide +kernel
theorem own_d4_177 : decode prog_83_method_2_code 177 = .ok (.iload_n 3, 1) := by decide +kernel
theorem own_d4_178 : decode prog_83_method_2_code 178 = .ok (.ifCond .eq 7, 3) := by decide +kernel
theorem own_d4_181 : decode prog_83_method_2_code 181 = .ok (.iconst (-1), 1) := by decide +kernel
theorem own_d4_182 : decode prog_83_method_2_code 182 = .ok (.goto 5, 3) := by decide +kernel
theorem own_d4_185 : decode prog_83_method_2_code 185 = .ok (.iload 4, 2) := by decide +kernel
theorem own_d4_187 : decode prog_83_method_2_code 187 = .ok (.ireturn, 1) := by decide +kernel
theorem own_d4_188 : decode prog_83_method_2_code 188 = .ok (.aload_n 0, 1) := by decide +kernel
theorem own_d4_189 : decode prog_83_method_2_code 189 = .ok (.iload 4, 2) := by decide +kernel
theorem own_d4_191 : decode prog_83_method_2_code 191 = .ok (.iload 9, 2) := by decide +kernel
theorem own_d4_193 : decode prog_83_method_2_code 193 = .ok (.iadd, 1) := by decide +kernel
theorem own_d4_194 : decode prog_83_method_2_code 194 = .ok (.baload, 1) := by decide +kernel
theorem own_d4_195 : decode prog_83_method_2_code 195 = .ok (.sipush 255, 3) := by decide +kernel
theorem own_d4_198 : decode prog_83_method_2_code 198 = .ok (.iand, 1) := by decide +kernel
theorem own_d4_199 : decode prog_83_method_2_code 199 = .ok (.istore 10, 2) := by decide +kernel
theorem own_d4_201 : decode prog_83_method_2_code 201 = .ok (.iload 10, 2) := by decide +kernel
theorem own_d4_203 : decode prog_83_method_2_code 203 = .ok (.iload 7, 2) := by decide +kernel
theorem own_d4_205 : decode prog_83_method_2_code 205 = .ok (.if_icmp .lt 10, 3) := by decide +kernel
theorem own_d4_208 : decode prog_83_method_2_code 208 = .ok (.iload 10, 2) := by decide +kernel
theorem own_d4_210 : decode prog_83_method_2_code 210 = .ok (.iload 8, 2) := by decide +kernel
theorem own_d4_212 : decode prog_83_method_2_code 212 = .ok (.if_icmp .le 6, 3) := by decide +kernel
theorem own_d4_215 : decode prog_83_method_2_code 215 = .ok (.iload 4, 2) := by decide +kernel
theorem own_d4_217 : decode prog_83_method_2_code 217 = .ok (.ireturn, 1) := by decide +kernel
theorem own_d4_218 : decode prog_83_method_2_code 218 = .ok (.sipush 128, 3) := by decide +kernel
theorem own_d4_221 : decode prog_83_method_2_code 221 = .ok (.istore 7, 2) := by decide +kernel
theorem own_d4_223 : decode prog_83_method_2_code 223 = .ok (.sipush 191, 3) := by decide +kernel
theorem own_d4_226 : decode prog_83_method_2_code 226 = .ok (.istore 8, 2) := by decide +kernel
theorem own_d4_228 : decode prog_83_method_2_code 228 = .ok (.iinc 9 1, 3) := by decide +kernel
theorem own_d4_231 : decode prog_83_method_2_code 231 = .ok (.goto (-70), 3) := by decide +kernel
theorem own_d4_234 : decode prog_83_method_2_code 234 = .ok (.iload 4, 2) := by decide +kernel
theorem own_d4_236 : decode prog_83_method_2_code 236 = .ok (.iload 6, 2) := by decide +kernel
theorem own_d4_238 : decode prog_83_method_2_code 238 = .ok (.iadd, 1) := by decide +kernel
theorem own_d4_239 : decode prog_83_method_2_code 239 = .ok (.istore 4, 2) := by decide +kernel
theorem own_d4_241 : decode prog_83_method_2_code 241 = .ok (.goto (-238), 3) := by decide +kernel
theorem own_d4_244 : decode prog_83_method_2_code 244 = .ok (.iconst (-1), 1) := by decide +kernel
theorem own_d4_245 : decode prog_83_method_2_code 245 = .ok (.ireturn, 1) := by decide +kernel
theorem own_pn4 : plainName "com/example/bucketsplit/bucketsplit/core/Utf8" = true := by first | (simp [plainName, overriddenIn]; done) | decide +kernel
theorem own_ef4 (m : MethodId) (x0 : Addr) (x1 : Int32) (x2 : Int32) (x3 : Int32) : entryFrame m #[(.ref x0), (.int x1), (.int x2), (.int x3)] 11 = mkF m 0 #[.val (.ref x0), .val (.int x1), .val (.int x2), .val (.int x3), .unset, .unset, .unset, .unset, .unset, .unset, .unset] [] := by first | (simp [entryFrame, mkF, argsToLocals, Value.category]; done) | rfl
def own_Q4 (Z : State) (ax : Addr) (xi : Int32) (xt : Int32) (xcut : Int32) (bk : ClassId) (bs : List Int32) (h0 : Heap) (n0 : Nat) (v : Option Value) (h : Heap) (L : List Loc) : Prop := v = some (.int (own_run 8 xi xt xcut bs)) ∧ Fr n0 L ∧ h = h0
theorem own_rm4 (l : Launch) (Z : State) (a0 : Array Value) (hw : ∀ d ∈ tables_1, d.before a0 Z = true) (ws : List Jvm.Cond) (ax : Addr) (xi : Int32) (xt : Int32) (xcut : Int32) (bk : ClassId) (bs : List Int32) (h0 : Heap) (n0 : Nat) (Z0 : n0 ≤ h0.size) (pf0 : Arv Z h0 ax bk .byte (8 : Int32) (bs.map Value.int) (.int (0 : Int32))) (hlo : ¬ (xi < (0 : Int32))) (hft : ¬ (xt < xi)) (hto : ¬ ((8 : Int32) < xt)) :
    MetFree l (⟨"com/example/bucketsplit/bucketsplit/core/Utf8", "firstIllFormed", "([BIIZ)I"⟩ : MethodName) (head1 (Jvm.Cond.code (⟨"com/example/bucketsplit/bucketsplit/core/Utf8", "firstIllFormed", "([BIIZ)I"⟩ : MethodName) prog_83_method_2_code 11 (some .int) :: ws) ({ frames := 0, cells := 0, slots := 0, locals := 0 } : Room)) (fun a U => a = #[(.ref ax), (.int xi), (.int xt), (.int xcut)] ∧ Z.Warmed39 U.vm ∧ U.heap = h0) (fun _ _ _ _ _ => True) (fun _ U o U' => ∃ v L, o = .returned v ∧ own_Q4 Z ax xi xt xcut bk bs h0 n0 v U'.heap L ∧ FrameEnd U o U' L ({ frames := 0, cells := 0, slots := 0, locals := 0 } : Room).cells ({ frames := 0, cells := 0, slots := 0, locals := 0 } : Room).slots) := by
  refine MetFree.of_bodySF (plainFor_of_name own_pn4) hisR ?_
  intro p e s m args below meth c s₁ Bd hml0 hP hK
  obtain ⟨rfl, hZ, hh⟩ := hP
  have hx := Bd.exec
  have hby := Bd.bytes
  have hlk := Bd.notSynchronized
  have hret := Bd.returns
  have hml : c.maxLocals = 11 := hml0
  have hown : s.vm.findClass "com/example/bucketsplit/bucketsplit/core/Utf8" = some m.cls := findClass_of_methodNamed Bd.named
  have hnm := (name_of_methodNamed Bd.named Bd.method).1
  have X0 : Stand p l e ({ frames := 0, cells := 0, slots := 0, locals := 0 } : Room) s m #[(.ref ax), (.int xi), (.int xt), (.int xcut)] below meth c s₁ [] 0 0 := Stand.of_body Bd
  have e0 : s₁.heap = h0 := by rw [← hh, Bd.state]; rfl
  have N0 := Fr.nil n0
  suffices key : own_Go p e below (own_End s below (own_Q4 Z ax xi xt xcut bk bs h0 n0) ({ frames := 0, cells := 0, slots := 0, locals := 0 } : Room).cells ({ frames := 0, cells := 0, slots := 0, locals := 0 } : Room).slots) (s₁.setTop (mkF m 0 #[.val (.ref ax), .val (.int xi), .val (.int xt), .val (.int xcut), .unset, .unset, .unset, .unset, .unset, .unset, .unset] [])) by
    obtain ⟨t, k1, k2, v, L, k3, k4, k5⟩ := key
    exact ⟨t, _, castTop (own_ef4 m ax xi xt xcut) k1, k2, k3, v, L, rfl, k4, k5⟩
  show own_Go p e below _ (s₁.setTop (mkF m 0 #[.val (.ref ax), .val (.int xi), .val (.int xt), .val (.int xcut), .unset, .unset, .unset, .unset, .unset, .unset, .unset] []))
  refine own_by (fun _ => XS.iloadN X0.here hx rfl (hb hby own_d4_0) rfl) ?_
  show own_Go p e below _ (s₁.setTop (mkF m 1 #[.val (.ref ax), .val (.int xi), .val (.int xt), .val (.int xcut), .unset, .unset, .unset, .unset, .unset, .unset, .unset] [(.int xi)]))
  refine own_by (fun _ => XS.istore X0.here hx rfl (hb hby own_d4_1) rfl (l' := #[.val (.ref ax), .val (.int xi), .val (.int xt), .val (.int xcut), .val (.int xi), .unset, .unset, .unset, .unset, .unset, .unset]) rfl) ?_
  show own_Go p e below _ (s₁.setTop (mkF m 3 #[.val (.ref ax), .val (.int xi), .val (.int xt), .val (.int xcut), .val (.int xi), .unset, .unset, .unset, .unset, .unset, .unset] []))
  suffices loop : ∀ (k : Nat) (T' : State) (y : Int32) (s5 s6 s7 s8 s9 s10 : Slot), One s5 → One s6 → One s7 → One s8 → One s9 → One s10 → ¬ (y < (0 : Int32)) → ¬ (xt < y) → xt.toInt - y.toInt ≤ (k : Int) → own_At p l e ({ frames := 0, cells := 0, slots := 0, locals := 0 } : Room) s m #[(.ref ax), (.int xi), (.int xt), (.int xcut)] below meth c n0 T' h0 0 0 → own_Go p e below (own_End s below (fun v h L => v = some (.int (own_run k y xt xcut bs)) ∧ Fr n0 L ∧ h = h0) ({ frames := 0, cells := 0, slots := 0, locals := 0 } : Room).cells ({ frames := 0, cells := 0, slots := 0, locals := 0 } : Room).slots) (T'.setTop (mkF m 3 #[.val (.ref ax), .val (.int xi), .val (.int xt), .val (.int xcut), .val (.int y), s5, s6, s7, s8, s9, s10] [])) from
    loop 8 _ xi _ _ _ _ _ _ One.u One.u One.u One.u One.u One.u hlo hft (own_m8 hlo hto) ⟨_, X0, N0, e0⟩
  intro k
  induction k with
  | zero =>
    intro T1 y s5 s6 s7 s8 s9 s10 hs5 hs6 hs7 hs8 hs9 hs10 hy0 hyt hk ⟨locs1, X1, N1, e1⟩
    show own_Go p e below _ (T1.setTop (mkF m 3 #[.val (.ref ax), .val (.int xi), .val (.int xt), .val (.int xcut), .val (.int y), s5, s6, s7, s8, s9, s10] []))
    refine own_by (fun _ => XS.iload X1.here hx rfl (hb hby own_d4_3) rfl) ?_
    show own_Go p e below _ (T1.setTop (mkF m 5 #[.val (.ref ax), .val (.int xi), .val (.int xt), .val (.int xcut), .val (.int y), s5, s6, s7, s8, s9, s10] [(.int y)]))
    refine own_by (fun _ => XS.iloadN X1.here hx rfl (hb hby own_d4_5) rfl) ?_
    show own_Go p e below _ (T1.setTop (mkF m 6 #[.val (.ref ax), .val (.int xi), .val (.int xt), .val (.int xcut), .val (.int y), s5, s6, s7, s8, s9, s10] [(.int xt), (.int y)]))
    refine own_by (fun _ => XS.icmpYes X1.here hx rfl (pc0 := 6) (pc' := 244) rfl (hb hby own_d4_6) rfl (flt (own_z0 hk)).2.1 (by decide) (by decide)) ?_
    show own_Go p e below _ (T1.setTop (mkF m 244 #[.val (.ref ax), .val (.int xi), .val (.int xt), .val (.int xcut), .val (.int y), s5, s6, s7, s8, s9, s10] []))
    refine own_by (fun _ => XS.iconst X1.here hx rfl (hb hby own_d4_244)) ?_
    show own_Go p e below _ (T1.setTop (mkF m 245 #[.val (.ref ax), .val (.int xi), .val (.int xt), .val (.int xcut), .val (.int y), s5, s6, s7, s8, s9, s10] [(.int (-1 : Int32))]))
    exact own_retI X1 hx hlk e1 hret (hb hby own_d4_245) (by decide) (by decide) ⟨rfl, N1, rfl⟩
  | succ k ih =>
    intro T1 y s5 s6 s7 s8 s9 s10 hs5 hs6 hs7 hs8 hs9 hs10 hy0 hyt hk ⟨locs1, X1, N1, e1⟩
    show own_Go p e below _ (T1.setTop (mkF m 3 #[.val (.ref ax), .val (.int xi), .val (.int xt), .val (.int xcut), .val (.int y), s5, s6, s7, s8, s9, s10] []))
    refine own_by (fun _ => XS.iload X1.here hx rfl (hb hby own_d4_3) rfl) ?_
    show own_Go p e below _ (T1.setTop (mkF m 5 #[.val (.ref ax), .val (.int xi), .val (.int xt), .val (.int xcut), .val (.int y), s5, s6, s7, s8, s9, s10] [(.int y)]))
    refine own_by (fun _ => XS.iloadN X1.here hx rfl (hb hby own_d4_5) rfl) ?_
    show own_Go p e below _ (T1.setTop (mkF m 6 #[.val (.ref ax), .val (.int xi), .val (.int xt), .val (.int xcut), .val (.int y), s5, s6, s7, s8, s9, s10] [(.int xt), (.int y)]))
    by_cases hc6_1 : y < xt
    ·
      skip
      refine own_by (fun _ => XS.icmpNo X1.here hx rfl (hb hby own_d4_6) rfl (tlt hc6_1).2.1) ?_
      show own_Go p e below _ (T1.setTop (mkF m 9 #[.val (.ref ax), .val (.int xi), .val (.int xt), .val (.int xcut), .val (.int y), s5, s6, s7, s8, s9, s10] []))
      refine own_by (fun _ => XS.aloadN X1.here hx rfl (hb hby own_d4_9) rfl rfl) ?_
      show own_Go p e below _ (T1.setTop (mkF m 10 #[.val (.ref ax), .val (.int xi), .val (.int xt), .val (.int xcut), .val (.int y), s5, s6, s7, s8, s9, s10] [(.ref ax)]))
      refine own_by (fun _ => XS.iload X1.here hx rfl (hb hby own_d4_10) rfl) ?_
      show own_Go p e below _ (T1.setTop (mkF m 12 #[.val (.ref ax), .val (.int xi), .val (.int xt), .val (.int xcut), .val (.int y), s5, s6, s7, s8, s9, s10] [(.int y), (.ref ax)]))
      obtain ⟨cl2, ar2, q2, sz2, nn2, hs2, gs2⟩ := id pf0
      have hin2 : ¬ (y < 0 ∨ cl2.slots.size ≤ (y).toNatClampNeg) := inb_of sz2 (own_ix hy0 hc6_1 hto)
      refine own_by (X1.baloadBytes hx (j := y) (v := (.int (own_g bs y))) (by rw [e1]; exact ar2.1) (State.isArrayOf_alike hZ.alike ar2.2.1) ar2.2.2 hin2 (hs2.at hin2 (own_g_eq bs y)) (g := (mkF m 12 #[.val (.ref ax), .val (.int xi), .val (.int xt), .val (.int xcut), .val (.int y), s5, s6, s7, s8, s9, s10] [(.int y), (.ref ax)])) rfl rfl (hb hby own_d4_12)) ?_
      show own_Go p e below _ (T1.setTop (mkF m 13 #[.val (.ref ax), .val (.int xi), .val (.int xt), .val (.int xcut), .val (.int y), s5, s6, s7, s8, s9, s10] [(.int (own_g bs y))]))
      refine own_by (fun _ => XS.sipush X1.here hx rfl (hb hby own_d4_13)) ?_
      show own_Go p e below _ (T1.setTop (mkF m 16 #[.val (.ref ax), .val (.int xi), .val (.int xt), .val (.int xcut), .val (.int y), s5, s6, s7, s8, s9, s10] [(.int (255 : Int32)), (.int (own_g bs y))]))
      refine own_by (fun _ => XS.iand X1.here hx rfl (hb hby own_d4_16) rfl) ?_
      show own_Go p e below _ (T1.setTop (mkF m 17 #[.val (.ref ax), .val (.int xi), .val (.int xt), .val (.int xcut), .val (.int y), s5, s6, s7, s8, s9, s10] [(.int ((own_g bs y) &&& (255 : Int32)))]))
      refine own_by (fun _ => XS.istoreS X1.here hx rfl (hb hby own_d4_17) rfl rfl hs5) ?_
      show own_Go p e below _ (T1.setTop (mkF m 19 #[.val (.ref ax), .val (.int xi), .val (.int xt), .val (.int xcut), .val (.int y), .val (.int ((own_g bs y) &&& (255 : Int32))), s6, s7, s8, s9, s10] []))
      refine own_by (fun _ => XS.iload X1.here hx rfl (hb hby own_d4_19) rfl) ?_
      show own_Go p e below _ (T1.setTop (mkF m 21 #[.val (.ref ax), .val (.int xi), .val (.int xt), .val (.int xcut), .val (.int y), .val (.int ((own_g bs y) &&& (255 : Int32))), s6, s7, s8, s9, s10] [(.int ((own_g bs y) &&& (255 : Int32)))]))
      refine own_by (fun _ => XS.sipush X1.here hx rfl (hb hby own_d4_21)) ?_
      show own_Go p e below _ (T1.setTop (mkF m 24 #[.val (.ref ax), .val (.int xi), .val (.int xt), .val (.int xcut), .val (.int y), .val (.int ((own_g bs y) &&& (255 : Int32))), s6, s7, s8, s9, s10] [(.int (128 : Int32)), (.int ((own_g bs y) &&& (255 : Int32)))]))
      by_cases hc24_3 : ((own_g bs y) &&& (255 : Int32)) < (128 : Int32)
      ·
        skip
        refine own_by (fun _ => XS.icmpNo X1.here hx rfl (hb hby own_d4_24) rfl (tlt hc24_3).2.1) ?_
        show own_Go p e below _ (T1.setTop (mkF m 27 #[.val (.ref ax), .val (.int xi), .val (.int xt), .val (.int xcut), .val (.int y), .val (.int ((own_g bs y) &&& (255 : Int32))), s6, s7, s8, s9, s10] []))
        refine own_by (fun _ => XS.iinc X1.here hx rfl (hb hby own_d4_27) rfl (l' := #[.val (.ref ax), .val (.int xi), .val (.int xt), .val (.int xcut), .val (.int (y + (1 : Int32))), .val (.int ((own_g bs y) &&& (255 : Int32))), s6, s7, s8, s9, s10]) rfl) ?_
        show own_Go p e below _ (T1.setTop (mkF m 30 #[.val (.ref ax), .val (.int xi), .val (.int xt), .val (.int xcut), .val (.int (y + (1 : Int32))), .val (.int ((own_g bs y) &&& (255 : Int32))), s6, s7, s8, s9, s10] []))
        refine own_by (fun _ => XS.goto X1.here hx rfl (pc0 := 30) (pc' := 3) rfl (hb hby own_d4_30) (by decide) (by decide)) ?_
        show own_Go p e below _ (T1.setTop (mkF m 3 #[.val (.ref ax), .val (.int xi), .val (.int xt), .val (.int xcut), .val (.int (y + (1 : Int32))), .val (.int ((own_g bs y) &&& (255 : Int32))), s6, s7, s8, s9, s10] []))
        have ny := (own_adv1 hy0 hc6_1 hto)
        exact own_monoQ (fun v h L q => ⟨q.1.trans (congrArg some (congrArg Value.int (own_run_go ny.1 (own_step_ascii hc6_1 hc24_3)).symm)), q.2⟩) (ih _ _ _ _ _ _ _ _ (One.val rfl) hs6 hs7 hs8 hs9 hs10 ny.1 ny.2.1 (own_meas hk ny.2.2) ⟨_, X1, N1, e1⟩)
      ·
        skip
        refine own_by (fun _ => XS.icmpYes X1.here hx rfl (pc0 := 24) (pc' := 33) rfl (hb hby own_d4_24) rfl (flt hc24_3).2.1 (by decide) (by decide)) ?_
        show own_Go p e below _ (T1.setTop (mkF m 33 #[.val (.ref ax), .val (.int xi), .val (.int xt), .val (.int xcut), .val (.int y), .val (.int ((own_g bs y) &&& (255 : Int32))), s6, s7, s8, s9, s10] []))
        refine own_by (fun _ => XS.iload X1.here hx rfl (hb hby own_d4_33) rfl) ?_
        show own_Go p e below _ (T1.setTop (mkF m 35 #[.val (.ref ax), .val (.int xi), .val (.int xt), .val (.int xcut), .val (.int y), .val (.int ((own_g bs y) &&& (255 : Int32))), s6, s7, s8, s9, s10] [(.int ((own_g bs y) &&& (255 : Int32)))]))
        refine own_by (fun _ => XS.sipush X1.here hx rfl (hb hby own_d4_35)) ?_
        show own_Go p e below _ (T1.setTop (mkF m 38 #[.val (.ref ax), .val (.int xi), .val (.int xt), .val (.int xcut), .val (.int y), .val (.int ((own_g bs y) &&& (255 : Int32))), s6, s7, s8, s9, s10] [(.int (194 : Int32)), (.int ((own_g bs y) &&& (255 : Int32)))]))
        suffices J4 : ∀ (T' : State) (v4_t0 : Int32), v4_t0 = (if ((own_g bs y) &&& (255 : Int32)) < (194 : Int32) then (0 : Int32) else (if ((own_g bs y) &&& (255 : Int32)) < (224 : Int32) then (2 : Int32) else (if ((own_g bs y) &&& (255 : Int32)) < (240 : Int32) then (3 : Int32) else (if ((own_g bs y) &&& (255 : Int32)) < (245 : Int32) then (4 : Int32) else (0 : Int32))))) → own_At p l e ({ frames := 0, cells := 0, slots := 0, locals := 0 } : Room) s m #[(.ref ax), (.int xi), (.int xt), (.int xcut)] below meth c n0 T' h0 0 0 → own_Go p e below (own_End s below (fun v h L => v = some (.int (own_run (k + 1) y xt xcut bs)) ∧ Fr n0 L ∧ h = h0) ({ frames := 0, cells := 0, slots := 0, locals := 0 } : Room).cells ({ frames := 0, cells := 0, slots := 0, locals := 0 } : Room).slots) (T'.setTop (mkF m 82 #[.val (.ref ax), .val (.int xi), .val (.int xt), .val (.int xcut), .val (.int y), .val (.int ((own_g bs y) &&& (255 : Int32))), s6, s7, s8, s9, s10] [(.int v4_t0)])) by
          by_cases hc38_5 : ((own_g bs y) &&& (255 : Int32)) < (194 : Int32)
          ·
            skip
            refine own_by (fun _ => XS.icmpNo X1.here hx rfl (hb hby own_d4_38) rfl (tlt hc38_5).2.1) ?_
            show own_Go p e below _ (T1.setTop (mkF m 41 #[.val (.ref ax), .val (.int xi), .val (.int xt), .val (.int xcut), .val (.int y), .val (.int ((own_g bs y) &&& (255 : Int32))), s6, s7, s8, s9, s10] []))
            refine own_by (fun _ => XS.iconst X1.here hx rfl (hb hby own_d4_41)) ?_
            show own_Go p e below _ (T1.setTop (mkF m 42 #[.val (.ref ax), .val (.int xi), .val (.int xt), .val (.int xcut), .val (.int y), .val (.int ((own_g bs y) &&& (255 : Int32))), s6, s7, s8, s9, s10] [(.int (0 : Int32))]))
            refine own_by (fun _ => XS.goto X1.here hx rfl (pc0 := 42) (pc' := 82) rfl (hb hby own_d4_42) (by decide) (by decide)) ?_
            show own_Go p e below _ (T1.setTop (mkF m 82 #[.val (.ref ax), .val (.int xi), .val (.int xt), .val (.int xcut), .val (.int y), .val (.int ((own_g bs y) &&& (255 : Int32))), s6, s7, s8, s9, s10] [(.int (0 : Int32))]))
            exact J4 _ _ (by first | with_reducible rfl | simp only [if_pos hc38_5] | rfl) ⟨_, X1, N1, e1⟩
          ·
            skip
            refine own_by (fun _ => XS.icmpYes X1.here hx rfl (pc0 := 38) (pc' := 45) rfl (hb hby own_d4_38) rfl (flt hc38_5).2.1 (by decide) (by decide)) ?_
            show own_Go p e below _ (T1.setTop (mkF m 45 #[.val (.ref ax), .val (.int xi), .val (.int xt), .val (.int xcut), .val (.int y), .val (.int ((own_g bs y) &&& (255 : Int32))), s6, s7, s8, s9, s10] []))
            refine own_by (fun _ => XS.iload X1.here hx rfl (hb hby own_d4_45) rfl) ?_
            show own_Go p e below _ (T1.setTop (mkF m 47 #[.val (.ref ax), .val (.int xi), .val (.int xt), .val (.int xcut), .val (.int y), .val (.int ((own_g bs y) &&& (255 : Int32))), s6, s7, s8, s9, s10] [(.int ((own_g bs y) &&& (255 : Int32)))]))
            refine own_by (fun _ => XS.sipush X1.here hx rfl (hb hby own_d4_47)) ?_
            show own_Go p e below _ (T1.setTop (mkF m 50 #[.val (.ref ax), .val (.int xi), .val (.int xt), .val (.int xcut), .val (.int y), .val (.int ((own_g bs y) &&& (255 : Int32))), s6, s7, s8, s9, s10] [(.int (224 : Int32)), (.int ((own_g bs y) &&& (255 : Int32)))]))
            by_cases hc50_6 : ((own_g bs y) &&& (255 : Int32)) < (224 : Int32)
            ·
              skip
              refine own_by (fun _ => XS.icmpNo X1.here hx rfl (hb hby own_d4_50) rfl (tlt hc50_6).2.1) ?_
              show own_Go p e below _ (T1.setTop (mkF m 53 #[.val (.ref ax), .val (.int xi), .val (.int xt), .val (.int xcut), .val (.int y), .val (.int ((own_g bs y) &&& (255 : Int32))), s6, s7, s8, s9, s10] []))
              refine own_by (fun _ => XS.iconst X1.here hx rfl (hb hby own_d4_53)) ?_
              show own_Go p e below _ (T1.setTop (mkF m 54 #[.val (.ref ax), .val (.int xi), .val (.int xt), .val (.int xcut), .val (.int y), .val (.int ((own_g bs y) &&& (255 : Int32))), s6, s7, s8, s9, s10] [(.int (2 : Int32))]))
              refine own_by (fun _ => XS.goto X1.here hx rfl (pc0 := 54) (pc' := 82) rfl (hb hby own_d4_54) (by decide) (by decide)) ?_
              show own_Go p e below _ (T1.setTop (mkF m 82 #[.val (.ref ax), .val (.int xi), .val (.int xt), .val (.int xcut), .val (.int y), .val (.int ((own_g bs y) &&& (255 : Int32))), s6, s7, s8, s9, s10] [(.int (2 : Int32))]))
              exact J4 _ _ (by first | with_reducible rfl | simp only [if_neg hc38_5, if_pos hc50_6] | rfl) ⟨_, X1, N1, e1⟩
            ·
              skip
              refine own_by (fun _ => XS.icmpYes X1.here hx rfl (pc0 := 50) (pc' := 57) rfl (hb hby own_d4_50) rfl (flt hc50_6).2.1 (by decide) (by decide)) ?_
              show own_Go p e below _ (T1.setTop (mkF m 57 #[.val (.ref ax), .val (.int xi), .val (.int xt), .val (.int xcut), .val (.int y), .val (.int ((own_g bs y) &&& (255 : Int32))), s6, s7, s8, s9, s10] []))
              refine own_by (fun _ => XS.iload X1.here hx rfl (hb hby own_d4_57) rfl) ?_
              show own_Go p e below _ (T1.setTop (mkF m 59 #[.val (.ref ax), .val (.int xi), .val (.int xt), .val (.int xcut), .val (.int y), .val (.int ((own_g bs y) &&& (255 : Int32))), s6, s7, s8, s9, s10] [(.int ((own_g bs y) &&& (255 : Int32)))]))
              refine own_by (fun _ => XS.sipush X1.here hx rfl (hb hby own_d4_59)) ?_
              show own_Go p e below _ (T1.setTop (mkF m 62 #[.val (.ref ax), .val (.int xi), .val (.int xt), .val (.int xcut), .val (.int y), .val (.int ((own_g bs y) &&& (255 : Int32))), s6, s7, s8, s9, s10] [(.int (240 : Int32)), (.int ((own_g bs y) &&& (255 : Int32)))]))
              by_cases hc62_7 : ((own_g bs y) &&& (255 : Int32)) < (240 : Int32)
              ·
                skip
                refine own_by (fun _ => XS.icmpNo X1.here hx rfl (hb hby own_d4_62) rfl (tlt hc62_7).2.1) ?_
                show own_Go p e below _ (T1.setTop (mkF m 65 #[.val (.ref ax), .val (.int xi), .val (.int xt), .val (.int xcut), .val (.int y), .val (.int ((own_g bs y) &&& (255 : Int32))), s6, s7, s8, s9, s10] []))
                refine own_by (fun _ => XS.iconst X1.here hx rfl (hb hby own_d4_65)) ?_
                show own_Go p e below _ (T1.setTop (mkF m 66 #[.val (.ref ax), .val (.int xi), .val (.int xt), .val (.int xcut), .val (.int y), .val (.int ((own_g bs y) &&& (255 : Int32))), s6, s7, s8, s9, s10] [(.int (3 : Int32))]))
                refine own_by (fun _ => XS.goto X1.here hx rfl (pc0 := 66) (pc' := 82) rfl (hb hby own_d4_66) (by decide) (by decide)) ?_
                show own_Go p e below _ (T1.setTop (mkF m 82 #[.val (.ref ax), .val (.int xi), .val (.int xt), .val (.int xcut), .val (.int y), .val (.int ((own_g bs y) &&& (255 : Int32))), s6, s7, s8, s9, s10] [(.int (3 : Int32))]))
                exact J4 _ _ (by first | with_reducible rfl | simp only [if_neg hc38_5, if_neg hc50_6, if_pos hc62_7] | rfl) ⟨_, X1, N1, e1⟩
              ·
                skip
                refine own_by (fun _ => XS.icmpYes X1.here hx rfl (pc0 := 62) (pc' := 69) rfl (hb hby own_d4_62) rfl (flt hc62_7).2.1 (by decide) (by decide)) ?_
                show own_Go p e below _ (T1.setTop (mkF m 69 #[.val (.ref ax), .val (.int xi), .val (.int xt), .val (.int xcut), .val (.int y), .val (.int ((own_g bs y) &&& (255 : Int32))), s6, s7, s8, s9, s10] []))
                refine own_by (fun _ => XS.iload X1.here hx rfl (hb hby own_d4_69) rfl) ?_
                show own_Go p e below _ (T1.setTop (mkF m 71 #[.val (.ref ax), .val (.int xi), .val (.int xt), .val (.int xcut), .val (.int y), .val (.int ((own_g bs y) &&& (255 : Int32))), s6, s7, s8, s9, s10] [(.int ((own_g bs y) &&& (255 : Int32)))]))
                refine own_by (fun _ => XS.sipush X1.here hx rfl (hb hby own_d4_71)) ?_
                show own_Go p e below _ (T1.setTop (mkF m 74 #[.val (.ref ax), .val (.int xi), .val (.int xt), .val (.int xcut), .val (.int y), .val (.int ((own_g bs y) &&& (255 : Int32))), s6, s7, s8, s9, s10] [(.int (245 : Int32)), (.int ((own_g bs y) &&& (255 : Int32)))]))
                by_cases hc74_8 : ((own_g bs y) &&& (255 : Int32)) < (245 : Int32)
                ·
                  skip
                  refine own_by (fun _ => XS.icmpNo X1.here hx rfl (hb hby own_d4_74) rfl (tlt hc74_8).2.1) ?_
                  show own_Go p e below _ (T1.setTop (mkF m 77 #[.val (.ref ax), .val (.int xi), .val (.int xt), .val (.int xcut), .val (.int y), .val (.int ((own_g bs y) &&& (255 : Int32))), s6, s7, s8, s9, s10] []))
                  refine own_by (fun _ => XS.iconst X1.here hx rfl (hb hby own_d4_77)) ?_
                  show own_Go p e below _ (T1.setTop (mkF m 78 #[.val (.ref ax), .val (.int xi), .val (.int xt), .val (.int xcut), .val (.int y), .val (.int ((own_g bs y) &&& (255 : Int32))), s6, s7, s8, s9, s10] [(.int (4 : Int32))]))
                  refine own_by (fun _ => XS.goto X1.here hx rfl (pc0 := 78) (pc' := 82) rfl (hb hby own_d4_78) (by decide) (by decide)) ?_
                  show own_Go p e below _ (T1.setTop (mkF m 82 #[.val (.ref ax), .val (.int xi), .val (.int xt), .val (.int xcut), .val (.int y), .val (.int ((own_g bs y) &&& (255 : Int32))), s6, s7, s8, s9, s10] [(.int (4 : Int32))]))
                  exact J4 _ _ (by first | with_reducible rfl | simp only [if_neg hc38_5, if_neg hc50_6, if_neg hc62_7, if_pos hc74_8] | rfl) ⟨_, X1, N1, e1⟩
                ·
                  skip
                  refine own_by (fun _ => XS.icmpYes X1.here hx rfl (pc0 := 74) (pc' := 81) rfl (hb hby own_d4_74) rfl (flt hc74_8).2.1 (by decide) (by decide)) ?_
                  show own_Go p e below _ (T1.setTop (mkF m 81 #[.val (.ref ax), .val (.int xi), .val (.int xt), .val (.int xcut), .val (.int y), .val (.int ((own_g bs y) &&& (255 : Int32))), s6, s7, s8, s9, s10] []))
                  refine own_by (fun _ => XS.iconst X1.here hx rfl (hb hby own_d4_81)) ?_
                  show own_Go p e below _ (T1.setTop (mkF m 82 #[.val (.ref ax), .val (.int xi), .val (.int xt), .val (.int xcut), .val (.int y), .val (.int ((own_g bs y) &&& (255 : Int32))), s6, s7, s8, s9, s10] [(.int (0 : Int32))]))
                  exact J4 _ _ (by first | with_reducible rfl | simp only [if_neg hc38_5, if_neg hc50_6, if_neg hc62_7, if_neg hc74_8] | rfl) ⟨_, X1, N1, e1⟩
        intro T4 v4_t0 hv4_t0 ⟨locs4, X4, N4, e4⟩
        show own_Go p e below _ (T4.setTop (mkF m 82 #[.val (.ref ax), .val (.int xi), .val (.int xt), .val (.int xcut), .val (.int y), .val (.int ((own_g bs y) &&& (255 : Int32))), s6, s7, s8, s9, s10] [(.int v4_t0)]))
        refine own_by (fun _ => XS.istoreS X4.here hx rfl (hb hby own_d4_82) rfl rfl hs6) ?_
        show own_Go p e below _ (T4.setTop (mkF m 84 #[.val (.ref ax), .val (.int xi), .val (.int xt), .val (.int xcut), .val (.int y), .val (.int ((own_g bs y) &&& (255 : Int32))), .val (.int v4_t0), s7, s8, s9, s10] []))
        refine own_by (fun _ => XS.iload X4.here hx rfl (hb hby own_d4_84) rfl) ?_
        show own_Go p e below _ (T4.setTop (mkF m 86 #[.val (.ref ax), .val (.int xi), .val (.int xt), .val (.int xcut), .val (.int y), .val (.int ((own_g bs y) &&& (255 : Int32))), .val (.int v4_t0), s7, s8, s9, s10] [(.int v4_t0)]))
        by_cases hc86_9 : v4_t0 = (0 : Int32)
        ·
          skip
          refine own_by (fun _ => XS.ifNo X4.here hx rfl (hb hby own_d4_86) rfl ((if0 _ _).trans (teq hc86_9).2)) ?_
          show own_Go p e below _ (T4.setTop (mkF m 89 #[.val (.ref ax), .val (.int xi), .val (.int xt), .val (.int xcut), .val (.int y), .val (.int ((own_g bs y) &&& (255 : Int32))), .val (.int v4_t0), s7, s8, s9, s10] []))
          refine own_by (fun _ => XS.iload X4.here hx rfl (hb hby own_d4_89) rfl) ?_
          show own_Go p e below _ (T4.setTop (mkF m 91 #[.val (.ref ax), .val (.int xi), .val (.int xt), .val (.int xcut), .val (.int y), .val (.int ((own_g bs y) &&& (255 : Int32))), .val (.int v4_t0), s7, s8, s9, s10] [(.int y)]))
          exact own_retI X4 hx hlk e4 hret (hb hby own_d4_91) (by decide) (by decide) ⟨congrArg some (congrArg Value.int (own_run_bad hy0 hyt hto (own_step_bad hc6_1 hc24_3 hv4_t0 hc86_9)).symm), N4, rfl⟩
        ·
          skip
          refine own_by (fun _ => XS.ifYes X4.here hx rfl (pc0 := 86) (pc' := 92) rfl (hb hby own_d4_86) rfl ((if0 _ _).trans (feq hc86_9).2) (by decide) (by decide)) ?_
          show own_Go p e below _ (T4.setTop (mkF m 92 #[.val (.ref ax), .val (.int xi), .val (.int xt), .val (.int xcut), .val (.int y), .val (.int ((own_g bs y) &&& (255 : Int32))), .val (.int v4_t0), s7, s8, s9, s10] []))
          refine own_by (fun _ => XS.iload X4.here hx rfl (hb hby own_d4_92) rfl) ?_
          show own_Go p e below _ (T4.setTop (mkF m 94 #[.val (.ref ax), .val (.int xi), .val (.int xt), .val (.int xcut), .val (.int y), .val (.int ((own_g bs y) &&& (255 : Int32))), .val (.int v4_t0), s7, s8, s9, s10] [(.int ((own_g bs y) &&& (255 : Int32)))]))
          refine own_by (fun _ => XS.sipush X4.here hx rfl (hb hby own_d4_94)) ?_
          show own_Go p e below _ (T4.setTop (mkF m 97 #[.val (.ref ax), .val (.int xi), .val (.int xt), .val (.int xcut), .val (.int y), .val (.int ((own_g bs y) &&& (255 : Int32))), .val (.int v4_t0), s7, s8, s9, s10] [(.int (224 : Int32)), (.int ((own_g bs y) &&& (255 : Int32)))]))
          suffices J10 : ∀ (T' : State) (v10_t0 : Int32), v10_t0 = (if ((own_g bs y) &&& (255 : Int32)) = (224 : Int32) then (160 : Int32) else (if ((own_g bs y) &&& (255 : Int32)) = (240 : Int32) then (144 : Int32) else (128 : Int32))) → own_At p l e ({ frames := 0, cells := 0, slots := 0, locals := 0 } : Room) s m #[(.ref ax), (.int xi), (.int xt), (.int xcut)] below meth c n0 T' h0 0 0 → own_Go p e below (own_End s below (fun v h L => v = some (.int (own_run (k + 1) y xt xcut bs)) ∧ Fr n0 L ∧ h = h0) ({ frames := 0, cells := 0, slots := 0, locals := 0 } : Room).cells ({ frames := 0, cells := 0, slots := 0, locals := 0 } : Room).slots) (T'.setTop (mkF m 123 #[.val (.ref ax), .val (.int xi), .val (.int xt), .val (.int xcut), .val (.int y), .val (.int ((own_g bs y) &&& (255 : Int32))), .val (.int v4_t0), s7, s8, s9, s10] [(.int v10_t0)])) by
            by_cases hc97_11 : ((own_g bs y) &&& (255 : Int32)) = (224 : Int32)
            ·
              skip
              refine own_by (fun _ => XS.icmpNo X4.here hx rfl (hb hby own_d4_97) rfl (teq hc97_11).2) ?_
              show own_Go p e below _ (T4.setTop (mkF m 100 #[.val (.ref ax), .val (.int xi), .val (.int xt), .val (.int xcut), .val (.int y), .val (.int ((own_g bs y) &&& (255 : Int32))), .val (.int v4_t0), s7, s8, s9, s10] []))
              refine own_by (fun _ => XS.sipush X4.here hx rfl (hb hby own_d4_100)) ?_
              show own_Go p e below _ (T4.setTop (mkF m 103 #[.val (.ref ax), .val (.int xi), .val (.int xt), .val (.int xcut), .val (.int y), .val (.int ((own_g bs y) &&& (255 : Int32))), .val (.int v4_t0), s7, s8, s9, s10] [(.int (160 : Int32))]))
              refine own_by (fun _ => XS.goto X4.here hx rfl (pc0 := 103) (pc' := 123) rfl (hb hby own_d4_103) (by decide) (by decide)) ?_
              show own_Go p e below _ (T4.setTop (mkF m 123 #[.val (.ref ax), .val (.int xi), .val (.int xt), .val (.int xcut), .val (.int y), .val (.int ((own_g bs y) &&& (255 : Int32))), .val (.int v4_t0), s7, s8, s9, s10] [(.int (160 : Int32))]))
              exact J10 _ _ (by first | with_reducible rfl | simp only [if_pos hc97_11] | rfl) ⟨_, X4, N4, e4⟩
            ·
              skip
              refine own_by (fun _ => XS.icmpYes X4.here hx rfl (pc0 := 97) (pc' := 106) rfl (hb hby own_d4_97) rfl (feq hc97_11).2 (by decide) (by decide)) ?_
              show own_Go p e below _ (T4.setTop (mkF m 106 #[.val (.ref ax), .val (.int xi), .val (.int xt), .val (.int xcut), .val (.int y), .val (.int ((own_g bs y) &&& (255 : Int32))), .val (.int v4_t0), s7, s8, s9, s10] []))
              refine own_by (fun _ => XS.iload X4.here hx rfl (hb hby own_d4_106) rfl) ?_
              show own_Go p e below _ (T4.setTop (mkF m 108 #[.val (.ref ax), .val (.int xi), .val (.int xt), .val (.int xcut), .val (.int y), .val (.int ((own_g bs y) &&& (255 : Int32))), .val (.int v4_t0), s7, s8, s9, s10] [(.int ((own_g bs y) &&& (255 : Int32)))]))
              refine own_by (fun _ => XS.sipush X4.here hx rfl (hb hby own_d4_108)) ?_
              show own_Go p e below _ (T4.setTop (mkF m 111 #[.val (.ref ax), .val (.int xi), .val (.int xt), .val (.int xcut), .val (.int y), .val (.int ((own_g bs y) &&& (255 : Int32))), .val (.int v4_t0), s7, s8, s9, s10] [(.int (240 : Int32)), (.int ((own_g bs y) &&& (255 : Int32)))]))
              by_cases hc111_12 : ((own_g bs y) &&& (255 : Int32)) = (240 : Int32)
              ·
                skip
                refine own_by (fun _ => XS.icmpNo X4.here hx rfl (hb hby own_d4_111) rfl (teq hc111_12).2) ?_
                show own_Go p e below _ (T4.setTop (mkF m 114 #[.val (.ref ax), .val (.int xi), .val (.int xt), .val (.int xcut), .val (.int y), .val (.int ((own_g bs y) &&& (255 : Int32))), .val (.int v4_t0), s7, s8, s9, s10] []))
                refine own_by (fun _ => XS.sipush X4.here hx rfl (hb hby own_d4_114)) ?_
                show own_Go p e below _ (T4.setTop (mkF m 117 #[.val (.ref ax), .val (.int xi), .val (.int xt), .val (.int xcut), .val (.int y), .val (.int ((own_g bs y) &&& (255 : Int32))), .val (.int v4_t0), s7, s8, s9, s10] [(.int (144 : Int32))]))
                refine own_by (fun _ => XS.goto X4.here hx rfl (pc0 := 117) (pc' := 123) rfl (hb hby own_d4_117) (by decide) (by decide)) ?_
                show own_Go p e below _ (T4.setTop (mkF m 123 #[.val (.ref ax), .val (.int xi), .val (.int xt), .val (.int xcut), .val (.int y), .val (.int ((own_g bs y) &&& (255 : Int32))), .val (.int v4_t0), s7, s8, s9, s10] [(.int (144 : Int32))]))
                exact J10 _ _ (by first | with_reducible rfl | simp only [if_neg hc97_11, if_pos hc111_12] | rfl) ⟨_, X4, N4, e4⟩
              ·
                skip
                refine own_by (fun _ => XS.icmpYes X4.here hx rfl (pc0 := 111) (pc' := 120) rfl (hb hby own_d4_111) rfl (feq hc111_12).2 (by decide) (by decide)) ?_
                show own_Go p e below _ (T4.setTop (mkF m 120 #[.val (.ref ax), .val (.int xi), .val (.int xt), .val (.int xcut), .val (.int y), .val (.int ((own_g bs y) &&& (255 : Int32))), .val (.int v4_t0), s7, s8, s9, s10] []))
                refine own_by (fun _ => XS.sipush X4.here hx rfl (hb hby own_d4_120)) ?_
                show own_Go p e below _ (T4.setTop (mkF m 123 #[.val (.ref ax), .val (.int xi), .val (.int xt), .val (.int xcut), .val (.int y), .val (.int ((own_g bs y) &&& (255 : Int32))), .val (.int v4_t0), s7, s8, s9, s10] [(.int (128 : Int32))]))
                exact J10 _ _ (by first | with_reducible rfl | simp only [if_neg hc97_11, if_neg hc111_12] | rfl) ⟨_, X4, N4, e4⟩
          intro T10 v10_t0 hv10_t0 ⟨locs10, X10, N10, e10⟩
          show own_Go p e below _ (T10.setTop (mkF m 123 #[.val (.ref ax), .val (.int xi), .val (.int xt), .val (.int xcut), .val (.int y), .val (.int ((own_g bs y) &&& (255 : Int32))), .val (.int v4_t0), s7, s8, s9, s10] [(.int v10_t0)]))
          refine own_by (fun _ => XS.istoreS X10.here hx rfl (hb hby own_d4_123) rfl rfl hs7) ?_
          show own_Go p e below _ (T10.setTop (mkF m 125 #[.val (.ref ax), .val (.int xi), .val (.int xt), .val (.int xcut), .val (.int y), .val (.int ((own_g bs y) &&& (255 : Int32))), .val (.int v4_t0), .val (.int v10_t0), s8, s9, s10] []))
          refine own_by (fun _ => XS.iload X10.here hx rfl (hb hby own_d4_125) rfl) ?_
          show own_Go p e below _ (T10.setTop (mkF m 127 #[.val (.ref ax), .val (.int xi), .val (.int xt), .val (.int xcut), .val (.int y), .val (.int ((own_g bs y) &&& (255 : Int32))), .val (.int v4_t0), .val (.int v10_t0), s8, s9, s10] [(.int ((own_g bs y) &&& (255 : Int32)))]))
          refine own_by (fun _ => XS.sipush X10.here hx rfl (hb hby own_d4_127)) ?_
          show own_Go p e below _ (T10.setTop (mkF m 130 #[.val (.ref ax), .val (.int xi), .val (.int xt), .val (.int xcut), .val (.int y), .val (.int ((own_g bs y) &&& (255 : Int32))), .val (.int v4_t0), .val (.int v10_t0), s8, s9, s10] [(.int (237 : Int32)), (.int ((own_g bs y) &&& (255 : Int32)))]))
          suffices J13 : ∀ (T' : State) (v13_t0 : Int32), v13_t0 = (if ((own_g bs y) &&& (255 : Int32)) = (237 : Int32) then (159 : Int32) else (if ((own_g bs y) &&& (255 : Int32)) = (244 : Int32) then (143 : Int32) else (191 : Int32))) → own_At p l e ({ frames := 0, cells := 0, slots := 0, locals := 0 } : Room) s m #[(.ref ax), (.int xi), (.int xt), (.int xcut)] below meth c n0 T' h0 0 0 → own_Go p e below (own_End s below (fun v h L => v = some (.int (own_run (k + 1) y xt xcut bs)) ∧ Fr n0 L ∧ h = h0) ({ frames := 0, cells := 0, slots := 0, locals := 0 } : Room).cells ({ frames := 0, cells := 0, slots := 0, locals := 0 } : Room).slots) (T'.setTop (mkF m 156 #[.val (.ref ax), .val (.int xi), .val (.int xt), .val (.int xcut), .val (.int y), .val (.int ((own_g bs y) &&& (255 : Int32))), .val (.int v4_t0), .val (.int v10_t0), s8, s9, s10] [(.int v13_t0)])) by
            by_cases hc130_14 : ((own_g bs y) &&& (255 : Int32)) = (237 : Int32)
            ·
              skip
              refine own_by (fun _ => XS.icmpNo X10.here hx rfl (hb hby own_d4_130) rfl (teq hc130_14).2) ?_
              show own_Go p e below _ (T10.setTop (mkF m 133 #[.val (.ref ax), .val (.int xi), .val (.int xt), .val (.int xcut), .val (.int y), .val (.int ((own_g bs y) &&& (255 : Int32))), .val (.int v4_t0), .val (.int v10_t0), s8, s9, s10] []))
              refine own_by (fun _ => XS.sipush X10.here hx rfl (hb hby own_d4_133)) ?_
              show own_Go p e below _ (T10.setTop (mkF m 136 #[.val (.ref ax), .val (.int xi), .val (.int xt), .val (.int xcut), .val (.int y), .val (.int ((own_g bs y) &&& (255 : Int32))), .val (.int v4_t0), .val (.int v10_t0), s8, s9, s10] [(.int (159 : Int32))]))
              refine own_by (fun _ => XS.goto X10.here hx rfl (pc0 := 136) (pc' := 156) rfl (hb hby own_d4_136) (by decide) (by decide)) ?_
              show own_Go p e below _ (T10.setTop (mkF m 156 #[.val (.ref ax), .val (.int xi), .val (.int xt), .val (.int xcut), .val (.int y), .val (.int ((own_g bs y) &&& (255 : Int32))), .val (.int v4_t0), .val (.int v10_t0), s8, s9, s10] [(.int (159 : Int32))]))
              exact J13 _ _ (by first | with_reducible rfl | simp only [if_pos hc130_14] | rfl) ⟨_, X10, N10, e10⟩
            ·
              skip
              refine own_by (fun _ => XS.icmpYes X10.here hx rfl (pc0 := 130) (pc' := 139) rfl (hb hby own_d4_130) rfl (feq hc130_14).2 (by decide) (by decide)) ?_
              show own_Go p e below _ (T10.setTop (mkF m 139 #[.val (.ref ax), .val (.int xi), .val (.int xt), .val (.int xcut), .val (.int y), .val (.int ((own_g bs y) &&& (255 : Int32))), .val (.int v4_t0), .val (.int v10_t0), s8, s9, s10] []))
              refine own_by (fun _ => XS.iload X10.here hx rfl (hb hby own_d4_139) rfl) ?_
              show own_Go p e below _ (T10.setTop (mkF m 141 #[.val (.ref ax), .val (.int xi), .val (.int xt), .val (.int xcut), .val (.int y), .val (.int ((own_g bs y) &&& (255 : Int32))), .val (.int v4_t0), .val (.int v10_t0), s8, s9, s10] [(.int ((own_g bs y) &&& (255 : Int32)))]))
              refine own_by (fun _ => XS.sipush X10.here hx rfl (hb hby own_d4_141)) ?_
              show own_Go p e below _ (T10.setTop (mkF m 144 #[.val (.ref ax), .val (.int xi), .val (.int xt), .val (.int xcut), .val (.int y), .val (.int ((own_g bs y) &&& (255 : Int32))), .val (.int v4_t0), .val (.int v10_t0), s8, s9, s10] [(.int (244 : Int32)), (.int ((own_g bs y) &&& (255 : Int32)))]))
              by_cases hc144_15 : ((own_g bs y) &&& (255 : Int32)) = (244 : Int32)
              ·
                skip
                refine own_by (fun _ => XS.icmpNo X10.here hx rfl (hb hby own_d4_144) rfl (teq hc144_15).2) ?_
                show own_Go p e below _ (T10.setTop (mkF m 147 #[.val (.ref ax), .val (.int xi), .val (.int xt), .val (.int xcut), .val (.int y), .val (.int ((own_g bs y) &&& (255 : Int32))), .val (.int v4_t0), .val (.int v10_t0), s8, s9, s10] []))
                refine own_by (fun _ => XS.sipush X10.here hx rfl (hb hby own_d4_147)) ?_
                show own_Go p e below _ (T10.setTop (mkF m 150 #[.val (.ref ax), .val (.int xi), .val (.int xt), .val (.int xcut), .val (.int y), .val (.int ((own_g bs y) &&& (255 : Int32))), .val (.int v4_t0), .val (.int v10_t0), s8, s9, s10] [(.int (143 : Int32))]))
                refine own_by (fun _ => XS.goto X10.here hx rfl (pc0 := 150) (pc' := 156) rfl (hb hby own_d4_150) (by decide) (by decide)) ?_
                show own_Go p e below _ (T10.setTop (mkF m 156 #[.val (.ref ax), .val (.int xi), .val (.int xt), .val (.int xcut), .val (.int y), .val (.int ((own_g bs y) &&& (255 : Int32))), .val (.int v4_t0), .val (.int v10_t0), s8, s9, s10] [(.int (143 : Int32))]))
                exact J13 _ _ (by first | with_reducible rfl | simp only [if_neg hc130_14, if_pos hc144_15] | rfl) ⟨_, X10, N10, e10⟩
              ·
                skip
                refine own_by (fun _ => XS.icmpYes X10.here hx rfl (pc0 := 144) (pc' := 153) rfl (hb hby own_d4_144) rfl (feq hc144_15).2 (by decide) (by decide)) ?_
                show own_Go p e below _ (T10.setTop (mkF m 153 #[.val (.ref ax), .val (.int xi), .val (.int xt), .val (.int xcut), .val (.int y), .val (.int ((own_g bs y) &&& (255 : Int32))), .val (.int v4_t0), .val (.int v10_t0), s8, s9, s10] []))
                refine own_by (fun _ => XS.sipush X10.here hx rfl (hb hby own_d4_153)) ?_
                show own_Go p e below _ (T10.setTop (mkF m 156 #[.val (.ref ax), .val (.int xi), .val (.int xt), .val (.int xcut), .val (.int y), .val (.int ((own_g bs y) &&& (255 : Int32))), .val (.int v4_t0), .val (.int v10_t0), s8, s9, s10] [(.int (191 : Int32))]))
                exact J13 _ _ (by first | with_reducible rfl | simp only [if_neg hc130_14, if_neg hc144_15] | rfl) ⟨_, X10, N10, e10⟩
          intro T13 v13_t0 hv13_t0 ⟨locs13, X13, N13, e13⟩
          show own_Go p e below _ (T13.setTop (mkF m 156 #[.val (.ref ax), .val (.int xi), .val (.int xt), .val (.int xcut), .val (.int y), .val (.int ((own_g bs y) &&& (255 : Int32))), .val (.int v4_t0), .val (.int v10_t0), s8, s9, s10] [(.int v13_t0)]))
          refine own_by (fun _ => XS.istoreS X13.here hx rfl (hb hby own_d4_156) rfl rfl hs8) ?_
          show own_Go p e below _ (T13.setTop (mkF m 158 #[.val (.ref ax), .val (.int xi), .val (.int xt), .val (.int xcut), .val (.int y), .val (.int ((own_g bs y) &&& (255 : Int32))), .val (.int v4_t0), .val (.int v10_t0), .val (.int v13_t0), s9, s10] []))
          refine own_by (fun _ => XS.iconst X13.here hx rfl (hb hby own_d4_158)) ?_
          show own_Go p e below _ (T13.setTop (mkF m 159 #[.val (.ref ax), .val (.int xi), .val (.int xt), .val (.int xcut), .val (.int y), .val (.int ((own_g bs y) &&& (255 : Int32))), .val (.int v4_t0), .val (.int v10_t0), .val (.int v13_t0), s9, s10] [(.int (1 : Int32))]))
          refine own_by (fun _ => XS.istoreS X13.here hx rfl (hb hby own_d4_159) rfl rfl hs9) ?_
          show own_Go p e below _ (T13.setTop (mkF m 161 #[.val (.ref ax), .val (.int xi), .val (.int xt), .val (.int xcut), .val (.int y), .val (.int ((own_g bs y) &&& (255 : Int32))), .val (.int v4_t0), .val (.int v10_t0), .val (.int v13_t0), .val (.int (1 : Int32)), s10] []))
          refine own_by (fun _ => XS.iload X13.here hx rfl (hb hby own_d4_161) rfl) ?_
          show own_Go p e below _ (T13.setTop (mkF m 163 #[.val (.ref ax), .val (.int xi), .val (.int xt), .val (.int xcut), .val (.int y), .val (.int ((own_g bs y) &&& (255 : Int32))), .val (.int v4_t0), .val (.int v10_t0), .val (.int v13_t0), .val (.int (1 : Int32)), s10] [(.int (1 : Int32))]))
          refine own_by (fun _ => XS.iload X13.here hx rfl (hb hby own_d4_163) rfl) ?_
          show own_Go p e below _ (T13.setTop (mkF m 165 #[.val (.ref ax), .val (.int xi), .val (.int xt), .val (.int xcut), .val (.int y), .val (.int ((own_g bs y) &&& (255 : Int32))), .val (.int v4_t0), .val (.int v10_t0), .val (.int v13_t0), .val (.int (1 : Int32)), s10] [(.int v4_t0), (.int (1 : Int32))]))
          refine own_by (fun _ => XS.icmpNo X13.here hx rfl (hb hby own_d4_165) rfl (tlt (own_len_gt1 hv4_t0 hc86_9)).2.1) ?_
          show own_Go p e below _ (T13.setTop (mkF m 168 #[.val (.ref ax), .val (.int xi), .val (.int xt), .val (.int xcut), .val (.int y), .val (.int ((own_g bs y) &&& (255 : Int32))), .val (.int v4_t0), .val (.int v10_t0), .val (.int v13_t0), .val (.int (1 : Int32)), s10] []))
          refine own_by (fun _ => XS.iload X13.here hx rfl (hb hby own_d4_168) rfl) ?_
          show own_Go p e below _ (T13.setTop (mkF m 170 #[.val (.ref ax), .val (.int xi), .val (.int xt), .val (.int xcut), .val (.int y), .val (.int ((own_g bs y) &&& (255 : Int32))), .val (.int v4_t0), .val (.int v10_t0), .val (.int v13_t0), .val (.int (1 : Int32)), s10] [(.int y)]))
          refine own_by (fun _ => XS.iload X13.here hx rfl (hb hby own_d4_170) rfl) ?_
          show own_Go p e below _ (T13.setTop (mkF m 172 #[.val (.ref ax), .val (.int xi), .val (.int xt), .val (.int xcut), .val (.int y), .val (.int ((own_g bs y) &&& (255 : Int32))), .val (.int v4_t0), .val (.int v10_t0), .val (.int v13_t0), .val (.int (1 : Int32)), s10] [(.int (1 : Int32)), (.int y)]))
          refine own_by (fun _ => XS.iadd X13.here hx rfl (hb hby own_d4_172) rfl) ?_
          show own_Go p e below _ (T13.setTop (mkF m 173 #[.val (.ref ax), .val (.int xi), .val (.int xt), .val (.int xcut), .val (.int y), .val (.int ((own_g bs y) &&& (255 : Int32))), .val (.int v4_t0), .val (.int v10_t0), .val (.int v13_t0), .val (.int (1 : Int32)), s10] [(.int (y + (1 : Int32)))]))
          refine own_by (fun _ => XS.iloadN X13.here hx rfl (hb hby own_d4_173) rfl) ?_
          show own_Go p e below _ (T13.setTop (mkF m 174 #[.val (.ref ax), .val (.int xi), .val (.int xt), .val (.int xcut), .val (.int y), .val (.int ((own_g bs y) &&& (255 : Int32))), .val (.int v4_t0), .val (.int v10_t0), .val (.int v13_t0), .val (.int (1 : Int32)), s10] [(.int xt), (.int (y + (1 : Int32)))]))
          by_cases hc174_16 : (y + (1 : Int32)) = xt
          ·
            skip
            refine own_by (fun _ => XS.icmpNo X13.here hx rfl (hb hby own_d4_174) rfl (teq hc174_16).2) ?_
            show own_Go p e below _ (T13.setTop (mkF m 177 #[.val (.ref ax), .val (.int xi), .val (.int xt), .val (.int xcut), .val (.int y), .val (.int ((own_g bs y) &&& (255 : Int32))), .val (.int v4_t0), .val (.int v10_t0), .val (.int v13_t0), .val (.int (1 : Int32)), s10] []))
            refine own_by (fun _ => XS.iloadN X13.here hx rfl (hb hby own_d4_177) rfl) ?_
            show own_Go p e below _ (T13.setTop (mkF m 178 #[.val (.ref ax), .val (.int xi), .val (.int xt), .val (.int xcut), .val (.int y), .val (.int ((own_g bs y) &&& (255 : Int32))), .val (.int v4_t0), .val (.int v10_t0), .val (.int v13_t0), .val (.int (1 : Int32)), s10] [(.int xcut)]))
            suffices J17 : ∀ (T' : State) (v17_t0 : Int32), v17_t0 = (if xcut = (0 : Int32) then y else (-1 : Int32)) → own_At p l e ({ frames := 0, cells := 0, slots := 0, locals := 0 } : Room) s m #[(.ref ax), (.int xi), (.int xt), (.int xcut)] below meth c n0 T' h0 0 0 → own_Go p e below (own_End s below (fun v h L => v = some (.int (own_run (k + 1) y xt xcut bs)) ∧ Fr n0 L ∧ h = h0) ({ frames := 0, cells := 0, slots := 0, locals := 0 } : Room).cells ({ frames := 0, cells := 0, slots := 0, locals := 0 } : Room).slots) (T'.setTop (mkF m 187 #[.val (.ref ax), .val (.int xi), .val (.int xt), .val (.int xcut), .val (.int y), .val (.int ((own_g bs y) &&& (255 : Int32))), .val (.int v4_t0), .val (.int v10_t0), .val (.int v13_t0), .val (.int (1 : Int32)), s10] [(.int v17_t0)])) by
              by_cases hc178_18 : xcut = (0 : Int32)
              ·
                skip
                refine own_by (fun _ => XS.ifYes X13.here hx rfl (pc0 := 178) (pc' := 185) rfl (hb hby own_d4_178) rfl ((if0 _ _).trans (teq hc178_18).1) (by decide) (by decide)) ?_
                show own_Go p e below _ (T13.setTop (mkF m 185 #[.val (.ref ax), .val (.int xi), .val (.int xt), .val (.int xcut), .val (.int y), .val (.int ((own_g bs y) &&& (255 : Int32))), .val (.int v4_t0), .val (.int v10_t0), .val (.int v13_t0), .val (.int (1 : Int32)), s10] []))
                refine own_by (fun _ => XS.iload X13.here hx rfl (hb hby own_d4_185) rfl) ?_
                show own_Go p e below _ (T13.setTop (mkF m 187 #[.val (.ref ax), .val (.int xi), .val (.int xt), .val (.int xcut), .val (.int y), .val (.int ((own_g bs y) &&& (255 : Int32))), .val (.int v4_t0), .val (.int v10_t0), .val (.int v13_t0), .val (.int (1 : Int32)), s10] [(.int y)]))
                exact J17 _ _ (by first | with_reducible rfl | simp only [if_pos hc178_18] | rfl) ⟨_, X13, N13, e13⟩
              ·
                skip
                refine own_by (fun _ => XS.ifNo X13.here hx rfl (hb hby own_d4_178) rfl ((if0 _ _).trans (feq hc178_18).1)) ?_
                show own_Go p e below _ (T13.setTop (mkF m 181 #[.val (.ref ax), .val (.int xi), .val (.int xt), .val (.int xcut), .val (.int y), .val (.int ((own_g bs y) &&& (255 : Int32))), .val (.int v4_t0), .val (.int v10_t0), .val (.int v13_t0), .val (.int (1 : Int32)), s10] []))
                refine own_by (fun _ => XS.iconst X13.here hx rfl (hb hby own_d4_181)) ?_
                show own_Go p e below _ (T13.setTop (mkF m 182 #[.val (.ref ax), .val (.int xi), .val (.int xt), .val (.int xcut), .val (.int y), .val (.int ((own_g bs y) &&& (255 : Int32))), .val (.int v4_t0), .val (.int v10_t0), .val (.int v13_t0), .val (.int (1 : Int32)), s10] [(.int (-1 : Int32))]))
                refine own_by (fun _ => XS.goto X13.here hx rfl (pc0 := 182) (pc' := 187) rfl (hb hby own_d4_182) (by decide) (by decide)) ?_
                show own_Go p e below _ (T13.setTop (mkF m 187 #[.val (.ref ax), .val (.int xi), .val (.int xt), .val (.int xcut), .val (.int y), .val (.int ((own_g bs y) &&& (255 : Int32))), .val (.int v4_t0), .val (.int v10_t0), .val (.int v13_t0), .val (.int (1 : Int32)), s10] [(.int (-1 : Int32))]))
                exact J17 _ _ (by first | with_reducible rfl | simp only [if_neg hc178_18] | rfl) ⟨_, X13, N13, e13⟩
            intro T17 v17_t0 hv17_t0 ⟨locs17, X17, N17, e17⟩
            show own_Go p e below _ (T17.setTop (mkF m 187 #[.val (.ref ax), .val (.int xi), .val (.int xt), .val (.int xcut), .val (.int y), .val (.int ((own_g bs y) &&& (255 : Int32))), .val (.int v4_t0), .val (.int v10_t0), .val (.int v13_t0), .val (.int (1 : Int32)), s10] [(.int v17_t0)]))
            exact own_retI X17 hx hlk e17 hret (hb hby own_d4_187) (by decide) (by decide) ⟨congrArg some (congrArg Value.int (hv17_t0.trans (own_run_cut hy0 hyt hto ((own_step_tail hc6_1 hc24_3 hv4_t0 hc86_9 hv10_t0 hv13_t0).trans (by simp only [own_stail, if_neg (own_qk hc174_16)]))).symm)), N17, rfl⟩
          ·
            skip
            refine own_by (fun _ => XS.icmpYes X13.here hx rfl (pc0 := 174) (pc' := 188) rfl (hb hby own_d4_174) rfl (feq hc174_16).2 (by decide) (by decide)) ?_
            show own_Go p e below _ (T13.setTop (mkF m 188 #[.val (.ref ax), .val (.int xi), .val (.int xt), .val (.int xcut), .val (.int y), .val (.int ((own_g bs y) &&& (255 : Int32))), .val (.int v4_t0), .val (.int v10_t0), .val (.int v13_t0), .val (.int (1 : Int32)), s10] []))
            refine own_by (fun _ => XS.aloadN X13.here hx rfl (hb hby own_d4_188) rfl rfl) ?_
            show own_Go p e below _ (T13.setTop (mkF m 189 #[.val (.ref ax), .val (.int xi), .val (.int xt), .val (.int xcut), .val (.int y), .val (.int ((own_g bs y) &&& (255 : Int32))), .val (.int v4_t0), .val (.int v10_t0), .val (.int v13_t0), .val (.int (1 : Int32)), s10] [(.ref ax)]))
            refine own_by (fun _ => XS.iload X13.here hx rfl (hb hby own_d4_189) rfl) ?_
            show own_Go p e below _ (T13.setTop (mkF m 191 #[.val (.ref ax), .val (.int xi), .val (.int xt), .val (.int xcut), .val (.int y), .val (.int ((own_g bs y) &&& (255 : Int32))), .val (.int v4_t0), .val (.int v10_t0), .val (.int v13_t0), .val (.int (1 : Int32)), s10] [(.int y), (.ref ax)]))
            refine own_by (fun _ => XS.iload X13.here hx rfl (hb hby own_d4_191) rfl) ?_
            show own_Go p e below _ (T13.setTop (mkF m 193 #[.val (.ref ax), .val (.int xi), .val (.int xt), .val (.int xcut), .val (.int y), .val (.int ((own_g bs y) &&& (255 : Int32))), .val (.int v4_t0), .val (.int v10_t0), .val (.int v13_t0), .val (.int (1 : Int32)), s10] [(.int (1 : Int32)), (.int y), (.ref ax)]))
            refine own_by (fun _ => XS.iadd X13.here hx rfl (hb hby own_d4_193) rfl) ?_
            show own_Go p e below _ (T13.setTop (mkF m 194 #[.val (.ref ax), .val (.int xi), .val (.int xt), .val (.int xcut), .val (.int y), .val (.int ((own_g bs y) &&& (255 : Int32))), .val (.int v4_t0), .val (.int v10_t0), .val (.int v13_t0), .val (.int (1 : Int32)), s10] [(.int (y + (1 : Int32))), (.ref ax)]))
            obtain ⟨cl19, ar19, q19, sz19, nn19, hs19, gs19⟩ := id pf0
            have hin19 : ¬ ((y + (1 : Int32)) < 0 ∨ cl19.slots.size ≤ ((y + (1 : Int32))).toNatClampNeg) := inb_of sz19 (own_fx1 hy0 hc6_1 hto hc174_16)
            refine own_by (X13.baloadBytes hx (j := (y + (1 : Int32))) (v := (.int (own_g bs (y + (1 : Int32))))) (by rw [e13]; exact ar19.1) (State.isArrayOf_alike hZ.alike ar19.2.1) ar19.2.2 hin19 (hs19.at hin19 (own_g_eq bs (y + (1 : Int32)))) (g := (mkF m 194 #[.val (.ref ax), .val (.int xi), .val (.int xt), .val (.int xcut), .val (.int y), .val (.int ((own_g bs y) &&& (255 : Int32))), .val (.int v4_t0), .val (.int v10_t0), .val (.int v13_t0), .val (.int (1 : Int32)), s10] [(.int (y + (1 : Int32))), (.ref ax)])) rfl rfl (hb hby own_d4_194)) ?_
            show own_Go p e below _ (T13.setTop (mkF m 195 #[.val (.ref ax), .val (.int xi), .val (.int xt), .val (.int xcut), .val (.int y), .val (.int ((own_g bs y) &&& (255 : Int32))), .val (.int v4_t0), .val (.int v10_t0), .val (.int v13_t0), .val (.int (1 : Int32)), s10] [(.int (own_g bs (y + (1 : Int32))))]))
            refine own_by (fun _ => XS.sipush X13.here hx rfl (hb hby own_d4_195)) ?_
            show own_Go p e below _ (T13.setTop (mkF m 198 #[.val (.ref ax), .val (.int xi), .val (.int xt), .val (.int xcut), .val (.int y), .val (.int ((own_g bs y) &&& (255 : Int32))), .val (.int v4_t0), .val (.int v10_t0), .val (.int v13_t0), .val (.int (1 : Int32)), s10] [(.int (255 : Int32)), (.int (own_g bs (y + (1 : Int32))))]))
            refine own_by (fun _ => XS.iand X13.here hx rfl (hb hby own_d4_198) rfl) ?_
            show own_Go p e below _ (T13.setTop (mkF m 199 #[.val (.ref ax), .val (.int xi), .val (.int xt), .val (.int xcut), .val (.int y), .val (.int ((own_g bs y) &&& (255 : Int32))), .val (.int v4_t0), .val (.int v10_t0), .val (.int v13_t0), .val (.int (1 : Int32)), s10] [(.int ((own_g bs (y + (1 : Int32))) &&& (255 : Int32)))]))
            refine own_by (fun _ => XS.istoreS X13.here hx rfl (hb hby own_d4_199) rfl rfl hs10) ?_
            show own_Go p e below _ (T13.setTop (mkF m 201 #[.val (.ref ax), .val (.int xi), .val (.int xt), .val (.int xcut), .val (.int y), .val (.int ((own_g bs y) &&& (255 : Int32))), .val (.int v4_t0), .val (.int v10_t0), .val (.int v13_t0), .val (.int (1 : Int32)), .val (.int ((own_g bs (y + (1 : Int32))) &&& (255 : Int32)))] []))
            refine own_by (fun _ => XS.iload X13.here hx rfl (hb hby own_d4_201) rfl) ?_
            show own_Go p e below _ (T13.setTop (mkF m 203 #[.val (.ref ax), .val (.int xi), .val (.int xt), .val (.int xcut), .val (.int y), .val (.int ((own_g bs y) &&& (255 : Int32))), .val (.int v4_t0), .val (.int v10_t0), .val (.int v13_t0), .val (.int (1 : Int32)), .val (.int ((own_g bs (y + (1 : Int32))) &&& (255 : Int32)))] [(.int ((own_g bs (y + (1 : Int32))) &&& (255 : Int32)))]))
            refine own_by (fun _ => XS.iload X13.here hx rfl (hb hby own_d4_203) rfl) ?_
            show own_Go p e below _ (T13.setTop (mkF m 205 #[.val (.ref ax), .val (.int xi), .val (.int xt), .val (.int xcut), .val (.int y), .val (.int ((own_g bs y) &&& (255 : Int32))), .val (.int v4_t0), .val (.int v10_t0), .val (.int v13_t0), .val (.int (1 : Int32)), .val (.int ((own_g bs (y + (1 : Int32))) &&& (255 : Int32)))] [(.int v10_t0), (.int ((own_g bs (y + (1 : Int32))) &&& (255 : Int32)))]))
            by_cases hc205_20 : ((own_g bs (y + (1 : Int32))) &&& (255 : Int32)) < v10_t0
            ·
              skip
              refine own_by (fun _ => XS.icmpYes X13.here hx rfl (pc0 := 205) (pc' := 215) rfl (hb hby own_d4_205) rfl (tlt hc205_20).1 (by decide) (by decide)) ?_
              show own_Go p e below _ (T13.setTop (mkF m 215 #[.val (.ref ax), .val (.int xi), .val (.int xt), .val (.int xcut), .val (.int y), .val (.int ((own_g bs y) &&& (255 : Int32))), .val (.int v4_t0), .val (.int v10_t0), .val (.int v13_t0), .val (.int (1 : Int32)), .val (.int ((own_g bs (y + (1 : Int32))) &&& (255 : Int32)))] []))
              refine own_by (fun _ => XS.iload X13.here hx rfl (hb hby own_d4_215) rfl) ?_
              show own_Go p e below _ (T13.setTop (mkF m 217 #[.val (.ref ax), .val (.int xi), .val (.int xt), .val (.int xcut), .val (.int y), .val (.int ((own_g bs y) &&& (255 : Int32))), .val (.int v4_t0), .val (.int v10_t0), .val (.int v13_t0), .val (.int (1 : Int32)), .val (.int ((own_g bs (y + (1 : Int32))) &&& (255 : Int32)))] [(.int y)]))
              exact own_retI X13 hx hlk e13 hret (hb hby own_d4_217) (by decide) (by decide) ⟨congrArg some (congrArg Value.int (own_run_bad hy0 hyt hto ((own_step_tail hc6_1 hc24_3 hv4_t0 hc86_9 hv10_t0 hv13_t0).trans (by simp only [own_stail, if_pos (own_s1 hy0 hc6_1 hto hc174_16), if_pos hc205_20]))).symm), N13, rfl⟩
            ·
              skip
              refine own_by (fun _ => XS.icmpNo X13.here hx rfl (hb hby own_d4_205) rfl (flt hc205_20).1) ?_
              show own_Go p e below _ (T13.setTop (mkF m 208 #[.val (.ref ax), .val (.int xi), .val (.int xt), .val (.int xcut), .val (.int y), .val (.int ((own_g bs y) &&& (255 : Int32))), .val (.int v4_t0), .val (.int v10_t0), .val (.int v13_t0), .val (.int (1 : Int32)), .val (.int ((own_g bs (y + (1 : Int32))) &&& (255 : Int32)))] []))
              refine own_by (fun _ => XS.iload X13.here hx rfl (hb hby own_d4_208) rfl) ?_
              show own_Go p e below _ (T13.setTop (mkF m 210 #[.val (.ref ax), .val (.int xi), .val (.int xt), .val (.int xcut), .val (.int y), .val (.int ((own_g bs y) &&& (255 : Int32))), .val (.int v4_t0), .val (.int v10_t0), .val (.int v13_t0), .val (.int (1 : Int32)), .val (.int ((own_g bs (y + (1 : Int32))) &&& (255 : Int32)))] [(.int ((own_g bs (y + (1 : Int32))) &&& (255 : Int32)))]))
              refine own_by (fun _ => XS.iload X13.here hx rfl (hb hby own_d4_210) rfl) ?_
              show own_Go p e below _ (T13.setTop (mkF m 212 #[.val (.ref ax), .val (.int xi), .val (.int xt), .val (.int xcut), .val (.int y), .val (.int ((own_g bs y) &&& (255 : Int32))), .val (.int v4_t0), .val (.int v10_t0), .val (.int v13_t0), .val (.int (1 : Int32)), .val (.int ((own_g bs (y + (1 : Int32))) &&& (255 : Int32)))] [(.int v13_t0), (.int ((own_g bs (y + (1 : Int32))) &&& (255 : Int32)))]))
              by_cases hc212_21 : v13_t0 < ((own_g bs (y + (1 : Int32))) &&& (255 : Int32))
              ·
                skip
                refine own_by (fun _ => XS.icmpNo X13.here hx rfl (hb hby own_d4_212) rfl (tlt hc212_21).2.2.2) ?_
                show own_Go p e below _ (T13.setTop (mkF m 215 #[.val (.ref ax), .val (.int xi), .val (.int xt), .val (.int xcut), .val (.int y), .val (.int ((own_g bs y) &&& (255 : Int32))), .val (.int v4_t0), .val (.int v10_t0), .val (.int v13_t0), .val (.int (1 : Int32)), .val (.int ((own_g bs (y + (1 : Int32))) &&& (255 : Int32)))] []))
                refine own_by (fun _ => XS.iload X13.here hx rfl (hb hby own_d4_215) rfl) ?_
                show own_Go p e below _ (T13.setTop (mkF m 217 #[.val (.ref ax), .val (.int xi), .val (.int xt), .val (.int xcut), .val (.int y), .val (.int ((own_g bs y) &&& (255 : Int32))), .val (.int v4_t0), .val (.int v10_t0), .val (.int v13_t0), .val (.int (1 : Int32)), .val (.int ((own_g bs (y + (1 : Int32))) &&& (255 : Int32)))] [(.int y)]))
                exact own_retI X13 hx hlk e13 hret (hb hby own_d4_217) (by decide) (by decide) ⟨congrArg some (congrArg Value.int (own_run_bad hy0 hyt hto ((own_step_tail hc6_1 hc24_3 hv4_t0 hc86_9 hv10_t0 hv13_t0).trans (by simp only [own_stail, if_pos (own_s1 hy0 hc6_1 hto hc174_16), if_neg hc205_20, if_pos hc212_21]))).symm), N13, rfl⟩
              ·
                skip
                refine own_by (fun _ => XS.icmpYes X13.here hx rfl (pc0 := 212) (pc' := 218) rfl (hb hby own_d4_212) rfl (flt hc212_21).2.2.2 (by decide) (by decide)) ?_
                show own_Go p e below _ (T13.setTop (mkF m 218 #[.val (.ref ax), .val (.int xi), .val (.int xt), .val (.int xcut), .val (.int y), .val (.int ((own_g bs y) &&& (255 : Int32))), .val (.int v4_t0), .val (.int v10_t0), .val (.int v13_t0), .val (.int (1 : Int32)), .val (.int ((own_g bs (y + (1 : Int32))) &&& (255 : Int32)))] []))
                refine own_by (fun _ => XS.sipush X13.here hx rfl (hb hby own_d4_218)) ?_
                show own_Go p e below _ (T13.setTop (mkF m 221 #[.val (.ref ax), .val (.int xi), .val (.int xt), .val (.int xcut), .val (.int y), .val (.int ((own_g bs y) &&& (255 : Int32))), .val (.int v4_t0), .val (.int v10_t0), .val (.int v13_t0), .val (.int (1 : Int32)), .val (.int ((own_g bs (y + (1 : Int32))) &&& (255 : Int32)))] [(.int (128 : Int32))]))
                refine own_by (fun _ => XS.istore X13.here hx rfl (hb hby own_d4_221) rfl (l' := #[.val (.ref ax), .val (.int xi), .val (.int xt), .val (.int xcut), .val (.int y), .val (.int ((own_g bs y) &&& (255 : Int32))), .val (.int v4_t0), .val (.int (128 : Int32)), .val (.int v13_t0), .val (.int (1 : Int32)), .val (.int ((own_g bs (y + (1 : Int32))) &&& (255 : Int32)))]) rfl) ?_
                show own_Go p e below _ (T13.setTop (mkF m 223 #[.val (.ref ax), .val (.int xi), .val (.int xt), .val (.int xcut), .val (.int y), .val (.int ((own_g bs y) &&& (255 : Int32))), .val (.int v4_t0), .val (.int (128 : Int32)), .val (.int v13_t0), .val (.int (1 : Int32)), .val (.int ((own_g bs (y + (1 : Int32))) &&& (255 : Int32)))] []))
                refine own_by (fun _ => XS.sipush X13.here hx rfl (hb hby own_d4_223)) ?_
                show own_Go p e below _ (T13.setTop (mkF m 226 #[.val (.ref ax), .val (.int xi), .val (.int xt), .val (.int xcut), .val (.int y), .val (.int ((own_g bs y) &&& (255 : Int32))), .val (.int v4_t0), .val (.int (128 : Int32)), .val (.int v13_t0), .val (.int (1 : Int32)), .val (.int ((own_g bs (y + (1 : Int32))) &&& (255 : Int32)))] [(.int (191 : Int32))]))
                refine own_by (fun _ => XS.istore X13.here hx rfl (hb hby own_d4_226) rfl (l' := #[.val (.ref ax), .val (.int xi), .val (.int xt), .val (.int xcut), .val (.int y), .val (.int ((own_g bs y) &&& (255 : Int32))), .val (.int v4_t0), .val (.int (128 : Int32)), .val (.int (191 : Int32)), .val (.int (1 : Int32)), .val (.int ((own_g bs (y + (1 : Int32))) &&& (255 : Int32)))]) rfl) ?_
                show own_Go p e below _ (T13.setTop (mkF m 228 #[.val (.ref ax), .val (.int xi), .val (.int xt), .val (.int xcut), .val (.int y), .val (.int ((own_g bs y) &&& (255 : Int32))), .val (.int v4_t0), .val (.int (128 : Int32)), .val (.int (191 : Int32)), .val (.int (1 : Int32)), .val (.int ((own_g bs (y + (1 : Int32))) &&& (255 : Int32)))] []))
                refine own_by (fun _ => XS.iinc X13.here hx rfl (hb hby own_d4_228) rfl (l' := #[.val (.ref ax), .val (.int xi), .val (.int xt), .val (.int xcut), .val (.int y), .val (.int ((own_g bs y) &&& (255 : Int32))), .val (.int v4_t0), .val (.int (128 : Int32)), .val (.int (191 : Int32)), .val (.int (2 : Int32)), .val (.int ((own_g bs (y + (1 : Int32))) &&& (255 : Int32)))]) rfl) ?_
                show own_Go p e below _ (T13.setTop (mkF m 231 #[.val (.ref ax), .val (.int xi), .val (.int xt), .val (.int xcut), .val (.int y), .val (.int ((own_g bs y) &&& (255 : Int32))), .val (.int v4_t0), .val (.int (128 : Int32)), .val (.int (191 : Int32)), .val (.int (2 : Int32)), .val (.int ((own_g bs (y + (1 : Int32))) &&& (255 : Int32)))] []))
                refine own_by (fun _ => XS.goto X13.here hx rfl (pc0 := 231) (pc' := 161) rfl (hb hby own_d4_231) (by decide) (by decide)) ?_
                show own_Go p e below _ (T13.setTop (mkF m 161 #[.val (.ref ax), .val (.int xi), .val (.int xt), .val (.int xcut), .val (.int y), .val (.int ((own_g bs y) &&& (255 : Int32))), .val (.int v4_t0), .val (.int (128 : Int32)), .val (.int (191 : Int32)), .val (.int (2 : Int32)), .val (.int ((own_g bs (y + (1 : Int32))) &&& (255 : Int32)))] []))
                refine own_by (fun _ => XS.iload X13.here hx rfl (hb hby own_d4_161) rfl) ?_
                show own_Go p e below _ (T13.setTop (mkF m 163 #[.val (.ref ax), .val (.int xi), .val (.int xt), .val (.int xcut), .val (.int y), .val (.int ((own_g bs y) &&& (255 : Int32))), .val (.int v4_t0), .val (.int (128 : Int32)), .val (.int (191 : Int32)), .val (.int (2 : Int32)), .val (.int ((own_g bs (y + (1 : Int32))) &&& (255 : Int32)))] [(.int (2 : Int32))]))
                refine own_by (fun _ => XS.iload X13.here hx rfl (hb hby own_d4_163) rfl) ?_
                show own_Go p e below _ (T13.setTop (mkF m 165 #[.val (.ref ax), .val (.int xi), .val (.int xt), .val (.int xcut), .val (.int y), .val (.int ((own_g bs y) &&& (255 : Int32))), .val (.int v4_t0), .val (.int (128 : Int32)), .val (.int (191 : Int32)), .val (.int (2 : Int32)), .val (.int ((own_g bs (y + (1 : Int32))) &&& (255 : Int32)))] [(.int v4_t0), (.int (2 : Int32))]))
                by_cases hc165_22 : (2 : Int32) < v4_t0
                ·
                  skip
                  refine own_by (fun _ => XS.icmpNo X13.here hx rfl (hb hby own_d4_165) rfl (tlt hc165_22).2.1) ?_
                  show own_Go p e below _ (T13.setTop (mkF m 168 #[.val (.ref ax), .val (.int xi), .val (.int xt), .val (.int xcut), .val (.int y), .val (.int ((own_g bs y) &&& (255 : Int32))), .val (.int v4_t0), .val (.int (128 : Int32)), .val (.int (191 : Int32)), .val (.int (2 : Int32)), .val (.int ((own_g bs (y + (1 : Int32))) &&& (255 : Int32)))] []))
                  refine own_by (fun _ => XS.iload X13.here hx rfl (hb hby own_d4_168) rfl) ?_
                  show own_Go p e below _ (T13.setTop (mkF m 170 #[.val (.ref ax), .val (.int xi), .val (.int xt), .val (.int xcut), .val (.int y), .val (.int ((own_g bs y) &&& (255 : Int32))), .val (.int v4_t0), .val (.int (128 : Int32)), .val (.int (191 : Int32)), .val (.int (2 : Int32)), .val (.int ((own_g bs (y + (1 : Int32))) &&& (255 : Int32)))] [(.int y)]))
                  refine own_by (fun _ => XS.iload X13.here hx rfl (hb hby own_d4_170) rfl) ?_
                  show own_Go p e below _ (T13.setTop (mkF m 172 #[.val (.ref ax), .val (.int xi), .val (.int xt), .val (.int xcut), .val (.int y), .val (.int ((own_g bs y) &&& (255 : Int32))), .val (.int v4_t0), .val (.int (128 : Int32)), .val (.int (191 : Int32)), .val (.int (2 : Int32)), .val (.int ((own_g bs (y + (1 : Int32))) &&& (255 : Int32)))] [(.int (2 : Int32)), (.int y)]))
                  refine own_by (fun _ => XS.iadd X13.here hx rfl (hb hby own_d4_172) rfl) ?_
                  show own_Go p e below _ (T13.setTop (mkF m 173 #[.val (.ref ax), .val (.int xi), .val (.int xt), .val (.int xcut), .val (.int y), .val (.int ((own_g bs y) &&& (255 : Int32))), .val (.int v4_t0), .val (.int (128 : Int32)), .val (.int (191 : Int32)), .val (.int (2 : Int32)), .val (.int ((own_g bs (y + (1 : Int32))) &&& (255 : Int32)))] [(.int (y + (2 : Int32)))]))
                  refine own_by (fun _ => XS.iloadN X13.here hx rfl (hb hby own_d4_173) rfl) ?_
                  show own_Go p e below _ (T13.setTop (mkF m 174 #[.val (.ref ax), .val (.int xi), .val (.int xt), .val (.int xcut), .val (.int y), .val (.int ((own_g bs y) &&& (255 : Int32))), .val (.int v4_t0), .val (.int (128 : Int32)), .val (.int (191 : Int32)), .val (.int (2 : Int32)), .val (.int ((own_g bs (y + (1 : Int32))) &&& (255 : Int32)))] [(.int xt), (.int (y + (2 : Int32)))]))
                  by_cases hc174_23 : (y + (2 : Int32)) = xt
                  ·
                    skip
                    refine own_by (fun _ => XS.icmpNo X13.here hx rfl (hb hby own_d4_174) rfl (teq hc174_23).2) ?_
                    show own_Go p e below _ (T13.setTop (mkF m 177 #[.val (.ref ax), .val (.int xi), .val (.int xt), .val (.int xcut), .val (.int y), .val (.int ((own_g bs y) &&& (255 : Int32))), .val (.int v4_t0), .val (.int (128 : Int32)), .val (.int (191 : Int32)), .val (.int (2 : Int32)), .val (.int ((own_g bs (y + (1 : Int32))) &&& (255 : Int32)))] []))
                    refine own_by (fun _ => XS.iloadN X13.here hx rfl (hb hby own_d4_177) rfl) ?_
                    show own_Go p e below _ (T13.setTop (mkF m 178 #[.val (.ref ax), .val (.int xi), .val (.int xt), .val (.int xcut), .val (.int y), .val (.int ((own_g bs y) &&& (255 : Int32))), .val (.int v4_t0), .val (.int (128 : Int32)), .val (.int (191 : Int32)), .val (.int (2 : Int32)), .val (.int ((own_g bs (y + (1 : Int32))) &&& (255 : Int32)))] [(.int xcut)]))
                    suffices J24 : ∀ (T' : State) (v24_t0 : Int32), v24_t0 = (if xcut = (0 : Int32) then y else (-1 : Int32)) → own_At p l e ({ frames := 0, cells := 0, slots := 0, locals := 0 } : Room) s m #[(.ref ax), (.int xi), (.int xt), (.int xcut)] below meth c n0 T' h0 0 0 → own_Go p e below (own_End s below (fun v h L => v = some (.int (own_run (k + 1) y xt xcut bs)) ∧ Fr n0 L ∧ h = h0) ({ frames := 0, cells := 0, slots := 0, locals := 0 } : Room).cells ({ frames := 0, cells := 0, slots := 0, locals := 0 } : Room).slots) (T'.setTop (mkF m 187 #[.val (.ref ax), .val (.int xi), .val (.int xt), .val (.int xcut), .val (.int y), .val (.int ((own_g bs y) &&& (255 : Int32))), .val (.int v4_t0), .val (.int (128 : Int32)), .val (.int (191 : Int32)), .val (.int (2 : Int32)), .val (.int ((own_g bs (y + (1 : Int32))) &&& (255 : Int32)))] [(.int v24_t0)])) by
                      by_cases hc178_25 : xcut = (0 : Int32)
                      ·
                        skip
                        refine own_by (fun _ => XS.ifYes X13.here hx rfl (pc0 := 178) (pc' := 185) rfl (hb hby own_d4_178) rfl ((if0 _ _).trans (teq hc178_25).1) (by decide) (by decide)) ?_
                        show own_Go p e below _ (T13.setTop (mkF m 185 #[.val (.ref ax), .val (.int xi), .val (.int xt), .val (.int xcut), .val (.int y), .val (.int ((own_g bs y) &&& (255 : Int32))), .val (.int v4_t0), .val (.int (128 : Int32)), .val (.int (191 : Int32)), .val (.int (2 : Int32)), .val (.int ((own_g bs (y + (1 : Int32))) &&& (255 : Int32)))] []))
                        refine own_by (fun _ => XS.iload X13.here hx rfl (hb hby own_d4_185) rfl) ?_
                        show own_Go p e below _ (T13.setTop (mkF m 187 #[.val (.ref ax), .val (.int xi), .val (.int xt), .val (.int xcut), .val (.int y), .val (.int ((own_g bs y) &&& (255 : Int32))), .val (.int v4_t0), .val (.int (128 : Int32)), .val (.int (191 : Int32)), .val (.int (2 : Int32)), .val (.int ((own_g bs (y + (1 : Int32))) &&& (255 : Int32)))] [(.int y)]))
                        exact J24 _ _ (by first | with_reducible rfl | simp only [if_pos hc178_25] | rfl) ⟨_, X13, N13, e13⟩
                      ·
                        skip
                        refine own_by (fun _ => XS.ifNo X13.here hx rfl (hb hby own_d4_178) rfl ((if0 _ _).trans (feq hc178_25).1)) ?_
                        show own_Go p e below _ (T13.setTop (mkF m 181 #[.val (.ref ax), .val (.int xi), .val (.int xt), .val (.int xcut), .val (.int y), .val (.int ((own_g bs y) &&& (255 : Int32))), .val (.int v4_t0), .val (.int (128 : Int32)), .val (.int (191 : Int32)), .val (.int (2 : Int32)), .val (.int ((own_g bs (y + (1 : Int32))) &&& (255 : Int32)))] []))
                        refine own_by (fun _ => XS.iconst X13.here hx rfl (hb hby own_d4_181)) ?_
                        show own_Go p e below _ (T13.setTop (mkF m 182 #[.val (.ref ax), .val (.int xi), .val (.int xt), .val (.int xcut), .val (.int y), .val (.int ((own_g bs y) &&& (255 : Int32))), .val (.int v4_t0), .val (.int (128 : Int32)), .val (.int (191 : Int32)), .val (.int (2 : Int32)), .val (.int ((own_g bs (y + (1 : Int32))) &&& (255 : Int32)))] [(.int (-1 : Int32))]))
                        refine own_by (fun _ => XS.goto X13.here hx rfl (pc0 := 182) (pc' := 187) rfl (hb hby own_d4_182) (by decide) (by decide)) ?_
                        show own_Go p e below _ (T13.setTop (mkF m 187 #[.val (.ref ax), .val (.int xi), .val (.int xt), .val (.int xcut), .val (.int y), .val (.int ((own_g bs y) &&& (255 : Int32))), .val (.int v4_t0), .val (.int (128 : Int32)), .val (.int (191 : Int32)), .val (.int (2 : Int32)), .val (.int ((own_g bs (y + (1 : Int32))) &&& (255 : Int32)))] [(.int (-1 : Int32))]))
                        exact J24 _ _ (by first | with_reducible rfl | simp only [if_neg hc178_25] | rfl) ⟨_, X13, N13, e13⟩
                    intro T24 v24_t0 hv24_t0 ⟨locs24, X24, N24, e24⟩
                    show own_Go p e below _ (T24.setTop (mkF m 187 #[.val (.ref ax), .val (.int xi), .val (.int xt), .val (.int xcut), .val (.int y), .val (.int ((own_g bs y) &&& (255 : Int32))), .val (.int v4_t0), .val (.int (128 : Int32)), .val (.int (191 : Int32)), .val (.int (2 : Int32)), .val (.int ((own_g bs (y + (1 : Int32))) &&& (255 : Int32)))] [(.int v24_t0)]))
                    exact own_retI X24 hx hlk e24 hret (hb hby own_d4_187) (by decide) (by decide) ⟨congrArg some (congrArg Value.int (hv24_t0.trans (own_run_cut hy0 hyt hto ((own_step_tail hc6_1 hc24_3 hv4_t0 hc86_9 hv10_t0 hv13_t0).trans (by simp only [own_stail, if_pos (own_s1 hy0 hc6_1 hto hc174_16), if_neg hc205_20, if_neg hc212_21, if_neg (own_gtne hc165_22), if_neg (own_qk hc174_23)]))).symm)), N24, rfl⟩
                  ·
                    skip
                    refine own_by (fun _ => XS.icmpYes X13.here hx rfl (pc0 := 174) (pc' := 188) rfl (hb hby own_d4_174) rfl (feq hc174_23).2 (by decide) (by decide)) ?_
                    show own_Go p e below _ (T13.setTop (mkF m 188 #[.val (.ref ax), .val (.int xi), .val (.int xt), .val (.int xcut), .val (.int y), .val (.int ((own_g bs y) &&& (255 : Int32))), .val (.int v4_t0), .val (.int (128 : Int32)), .val (.int (191 : Int32)), .val (.int (2 : Int32)), .val (.int ((own_g bs (y + (1 : Int32))) &&& (255 : Int32)))] []))
                    refine own_by (fun _ => XS.aloadN X13.here hx rfl (hb hby own_d4_188) rfl rfl) ?_
                    show own_Go p e below _ (T13.setTop (mkF m 189 #[.val (.ref ax), .val (.int xi), .val (.int xt), .val (.int xcut), .val (.int y), .val (.int ((own_g bs y) &&& (255 : Int32))), .val (.int v4_t0), .val (.int (128 : Int32)), .val (.int (191 : Int32)), .val (.int (2 : Int32)), .val (.int ((own_g bs (y + (1 : Int32))) &&& (255 : Int32)))] [(.ref ax)]))
                    refine own_by (fun _ => XS.iload X13.here hx rfl (hb hby own_d4_189) rfl) ?_
                    show own_Go p e below _ (T13.setTop (mkF m 191 #[.val (.ref ax), .val (.int xi), .val (.int xt), .val (.int xcut), .val (.int y), .val (.int ((own_g bs y) &&& (255 : Int32))), .val (.int v4_t0), .val (.int (128 : Int32)), .val (.int (191 : Int32)), .val (.int (2 : Int32)), .val (.int ((own_g bs (y + (1 : Int32))) &&& (255 : Int32)))] [(.int y), (.ref ax)]))
                    refine own_by (fun _ => XS.iload X13.here hx rfl (hb hby own_d4_191) rfl) ?_
                    show own_Go p e below _ (T13.setTop (mkF m 193 #[.val (.ref ax), .val (.int xi), .val (.int xt), .val (.int xcut), .val (.int y), .val (.int ((own_g bs y) &&& (255 : Int32))), .val (.int v4_t0), .val (.int (128 : Int32)), .val (.int (191 : Int32)), .val (.int (2 : Int32)), .val (.int ((own_g bs (y + (1 : Int32))) &&& (255 : Int32)))] [(.int (2 : Int32)), (.int y), (.ref ax)]))
                    refine own_by (fun _ => XS.iadd X13.here hx rfl (hb hby own_d4_193) rfl) ?_
                    show own_Go p e below _ (T13.setTop (mkF m 194 #[.val (.ref ax), .val (.int xi), .val (.int xt), .val (.int xcut), .val (.int y), .val (.int ((own_g bs y) &&& (255 : Int32))), .val (.int v4_t0), .val (.int (128 : Int32)), .val (.int (191 : Int32)), .val (.int (2 : Int32)), .val (.int ((own_g bs (y + (1 : Int32))) &&& (255 : Int32)))] [(.int (y + (2 : Int32))), (.ref ax)]))
                    obtain ⟨cl26, ar26, q26, sz26, nn26, hs26, gs26⟩ := id pf0
                    have hin26 : ¬ ((y + (2 : Int32)) < 0 ∨ cl26.slots.size ≤ ((y + (2 : Int32))).toNatClampNeg) := inb_of sz26 (own_fx2 hy0 hc6_1 hto hc174_16 hc174_23)
                    refine own_by (X13.baloadBytes hx (j := (y + (2 : Int32))) (v := (.int (own_g bs (y + (2 : Int32))))) (by rw [e13]; exact ar26.1) (State.isArrayOf_alike hZ.alike ar26.2.1) ar26.2.2 hin26 (hs26.at hin26 (own_g_eq bs (y + (2 : Int32)))) (g := (mkF m 194 #[.val (.ref ax), .val (.int xi), .val (.int xt), .val (.int xcut), .val (.int y), .val (.int ((own_g bs y) &&& (255 : Int32))), .val (.int v4_t0), .val (.int (128 : Int32)), .val (.int (191 : Int32)), .val (.int (2 : Int32)), .val (.int ((own_g bs (y + (1 : Int32))) &&& (255 : Int32)))] [(.int (y + (2 : Int32))), (.ref ax)])) rfl rfl (hb hby own_d4_194)) ?_
                    show own_Go p e below _ (T13.setTop (mkF m 195 #[.val (.ref ax), .val (.int xi), .val (.int xt), .val (.int xcut), .val (.int y), .val (.int ((own_g bs y) &&& (255 : Int32))), .val (.int v4_t0), .val (.int (128 : Int32)), .val (.int (191 : Int32)), .val (.int (2 : Int32)), .val (.int ((own_g bs (y + (1 : Int32))) &&& (255 : Int32)))] [(.int (own_g bs (y + (2 : Int32))))]))
                    refine own_by (fun _ => XS.sipush X13.here hx rfl (hb hby own_d4_195)) ?_
                    show own_Go p e below _ (T13.setTop (mkF m 198 #[.val (.ref ax), .val (.int xi), .val (.int xt), .val (.int xcut), .val (.int y), .val (.int ((own_g bs y) &&& (255 : Int32))), .val (.int v4_t0), .val (.int (128 : Int32)), .val (.int (191 : Int32)), .val (.int (2 : Int32)), .val (.int ((own_g bs (y + (1 : Int32))) &&& (255 : Int32)))] [(.int (255 : Int32)), (.int (own_g bs (y + (2 : Int32))))]))
                    refine own_by (fun _ => XS.iand X13.here hx rfl (hb hby own_d4_198) rfl) ?_
                    show own_Go p e below _ (T13.setTop (mkF m 199 #[.val (.ref ax), .val (.int xi), .val (.int xt), .val (.int xcut), .val (.int y), .val (.int ((own_g bs y) &&& (255 : Int32))), .val (.int v4_t0), .val (.int (128 : Int32)), .val (.int (191 : Int32)), .val (.int (2 : Int32)), .val (.int ((own_g bs (y + (1 : Int32))) &&& (255 : Int32)))] [(.int ((own_g bs (y + (2 : Int32))) &&& (255 : Int32)))]))
                    refine own_by (fun _ => XS.istore X13.here hx rfl (hb hby own_d4_199) rfl (l' := #[.val (.ref ax), .val (.int xi), .val (.int xt), .val (.int xcut), .val (.int y), .val (.int ((own_g bs y) &&& (255 : Int32))), .val (.int v4_t0), .val (.int (128 : Int32)), .val (.int (191 : Int32)), .val (.int (2 : Int32)), .val (.int ((own_g bs (y + (2 : Int32))) &&& (255 : Int32)))]) rfl) ?_
                    show own_Go p e below _ (T13.setTop (mkF m 201 #[.val (.ref ax), .val (.int xi), .val (.int xt), .val (.int xcut), .val (.int y), .val (.int ((own_g bs y) &&& (255 : Int32))), .val (.int v4_t0), .val (.int (128 : Int32)), .val (.int (191 : Int32)), .val (.int (2 : Int32)), .val (.int ((own_g bs (y + (2 : Int32))) &&& (255 : Int32)))] []))
                    refine own_by (fun _ => XS.iload X13.here hx rfl (hb hby own_d4_201) rfl) ?_
                    show own_Go p e below _ (T13.setTop (mkF m 203 #[.val (.ref ax), .val (.int xi), .val (.int xt), .val (.int xcut), .val (.int y), .val (.int ((own_g bs y) &&& (255 : Int32))), .val (.int v4_t0), .val (.int (128 : Int32)), .val (.int (191 : Int32)), .val (.int (2 : Int32)), .val (.int ((own_g bs (y + (2 : Int32))) &&& (255 : Int32)))] [(.int ((own_g bs (y + (2 : Int32))) &&& (255 : Int32)))]))
                    refine own_by (fun _ => XS.iload X13.here hx rfl (hb hby own_d4_203) rfl) ?_
                    show own_Go p e below _ (T13.setTop (mkF m 205 #[.val (.ref ax), .val (.int xi), .val (.int xt), .val (.int xcut), .val (.int y), .val (.int ((own_g bs y) &&& (255 : Int32))), .val (.int v4_t0), .val (.int (128 : Int32)), .val (.int (191 : Int32)), .val (.int (2 : Int32)), .val (.int ((own_g bs (y + (2 : Int32))) &&& (255 : Int32)))] [(.int (128 : Int32)), (.int ((own_g bs (y + (2 : Int32))) &&& (255 : Int32)))]))
                    by_cases hc205_27 : ((own_g bs (y + (2 : Int32))) &&& (255 : Int32)) < (128 : Int32)
                    ·
                      skip
                      refine own_by (fun _ => XS.icmpYes X13.here hx rfl (pc0 := 205) (pc' := 215) rfl (hb hby own_d4_205) rfl (tlt hc205_27).1 (by decide) (by decide)) ?_
                      show own_Go p e below _ (T13.setTop (mkF m 215 #[.val (.ref ax), .val (.int xi), .val (.int xt), .val (.int xcut), .val (.int y), .val (.int ((own_g bs y) &&& (255 : Int32))), .val (.int v4_t0), .val (.int (128 : Int32)), .val (.int (191 : Int32)), .val (.int (2 : Int32)), .val (.int ((own_g bs (y + (2 : Int32))) &&& (255 : Int32)))] []))
                      refine own_by (fun _ => XS.iload X13.here hx rfl (hb hby own_d4_215) rfl) ?_
                      show own_Go p e below _ (T13.setTop (mkF m 217 #[.val (.ref ax), .val (.int xi), .val (.int xt), .val (.int xcut), .val (.int y), .val (.int ((own_g bs y) &&& (255 : Int32))), .val (.int v4_t0), .val (.int (128 : Int32)), .val (.int (191 : Int32)), .val (.int (2 : Int32)), .val (.int ((own_g bs (y + (2 : Int32))) &&& (255 : Int32)))] [(.int y)]))
                      exact own_retI X13 hx hlk e13 hret (hb hby own_d4_217) (by decide) (by decide) ⟨congrArg some (congrArg Value.int (own_run_bad hy0 hyt hto ((own_step_tail hc6_1 hc24_3 hv4_t0 hc86_9 hv10_t0 hv13_t0).trans (by simp only [own_stail, if_pos (own_s1 hy0 hc6_1 hto hc174_16), if_neg hc205_20, if_neg hc212_21, if_neg (own_gtne hc165_22), if_pos (own_s2 hy0 hc6_1 hto hc174_16 hc174_23), if_pos hc205_27]))).symm), N13, rfl⟩
                    ·
                      skip
                      refine own_by (fun _ => XS.icmpNo X13.here hx rfl (hb hby own_d4_205) rfl (flt hc205_27).1) ?_
                      show own_Go p e below _ (T13.setTop (mkF m 208 #[.val (.ref ax), .val (.int xi), .val (.int xt), .val (.int xcut), .val (.int y), .val (.int ((own_g bs y) &&& (255 : Int32))), .val (.int v4_t0), .val (.int (128 : Int32)), .val (.int (191 : Int32)), .val (.int (2 : Int32)), .val (.int ((own_g bs (y + (2 : Int32))) &&& (255 : Int32)))] []))
                      refine own_by (fun _ => XS.iload X13.here hx rfl (hb hby own_d4_208) rfl) ?_
                      show own_Go p e below _ (T13.setTop (mkF m 210 #[.val (.ref ax), .val (.int xi), .val (.int xt), .val (.int xcut), .val (.int y), .val (.int ((own_g bs y) &&& (255 : Int32))), .val (.int v4_t0), .val (.int (128 : Int32)), .val (.int (191 : Int32)), .val (.int (2 : Int32)), .val (.int ((own_g bs (y + (2 : Int32))) &&& (255 : Int32)))] [(.int ((own_g bs (y + (2 : Int32))) &&& (255 : Int32)))]))
                      refine own_by (fun _ => XS.iload X13.here hx rfl (hb hby own_d4_210) rfl) ?_
                      show own_Go p e below _ (T13.setTop (mkF m 212 #[.val (.ref ax), .val (.int xi), .val (.int xt), .val (.int xcut), .val (.int y), .val (.int ((own_g bs y) &&& (255 : Int32))), .val (.int v4_t0), .val (.int (128 : Int32)), .val (.int (191 : Int32)), .val (.int (2 : Int32)), .val (.int ((own_g bs (y + (2 : Int32))) &&& (255 : Int32)))] [(.int (191 : Int32)), (.int ((own_g bs (y + (2 : Int32))) &&& (255 : Int32)))]))
                      by_cases hc212_28 : (191 : Int32) < ((own_g bs (y + (2 : Int32))) &&& (255 : Int32))
                      ·
                        skip
                        refine own_by (fun _ => XS.icmpNo X13.here hx rfl (hb hby own_d4_212) rfl (tlt hc212_28).2.2.2) ?_
                        show own_Go p e below _ (T13.setTop (mkF m 215 #[.val (.ref ax), .val (.int xi), .val (.int xt), .val (.int xcut), .val (.int y), .val (.int ((own_g bs y) &&& (255 : Int32))), .val (.int v4_t0), .val (.int (128 : Int32)), .val (.int (191 : Int32)), .val (.int (2 : Int32)), .val (.int ((own_g bs (y + (2 : Int32))) &&& (255 : Int32)))] []))
                        refine own_by (fun _ => XS.iload X13.here hx rfl (hb hby own_d4_215) rfl) ?_
                        show own_Go p e below _ (T13.setTop (mkF m 217 #[.val (.ref ax), .val (.int xi), .val (.int xt), .val (.int xcut), .val (.int y), .val (.int ((own_g bs y) &&& (255 : Int32))), .val (.int v4_t0), .val (.int (128 : Int32)), .val (.int (191 : Int32)), .val (.int (2 : Int32)), .val (.int ((own_g bs (y + (2 : Int32))) &&& (255 : Int32)))] [(.int y)]))
                        exact own_retI X13 hx hlk e13 hret (hb hby own_d4_217) (by decide) (by decide) ⟨congrArg some (congrArg Value.int (own_run_bad hy0 hyt hto ((own_step_tail hc6_1 hc24_3 hv4_t0 hc86_9 hv10_t0 hv13_t0).trans (by simp only [own_stail, if_pos (own_s1 hy0 hc6_1 hto hc174_16), if_neg hc205_20, if_neg hc212_21, if_neg (own_gtne hc165_22), if_pos (own_s2 hy0 hc6_1 hto hc174_16 hc174_23), if_neg hc205_27, if_pos hc212_28]))).symm), N13, rfl⟩
                      ·
                        skip
                        refine own_by (fun _ => XS.icmpYes X13.here hx rfl (pc0 := 212) (pc' := 218) rfl (hb hby own_d4_212) rfl (flt hc212_28).2.2.2 (by decide) (by decide)) ?_
                        show own_Go p e below _ (T13.setTop (mkF m 218 #[.val (.ref ax), .val (.int xi), .val (.int xt), .val (.int xcut), .val (.int y), .val (.int ((own_g bs y) &&& (255 : Int32))), .val (.int v4_t0), .val (.int (128 : Int32)), .val (.int (191 : Int32)), .val (.int (2 : Int32)), .val (.int ((own_g bs (y + (2 : Int32))) &&& (255 : Int32)))] []))
                        refine own_by (fun _ => XS.sipush X13.here hx rfl (hb hby own_d4_218)) ?_
                        show own_Go p e below _ (T13.setTop (mkF m 221 #[.val (.ref ax), .val (.int xi), .val (.int xt), .val (.int xcut), .val (.int y), .val (.int ((own_g bs y) &&& (255 : Int32))), .val (.int v4_t0), .val (.int (128 : Int32)), .val (.int (191 : Int32)), .val (.int (2 : Int32)), .val (.int ((own_g bs (y + (2 : Int32))) &&& (255 : Int32)))] [(.int (128 : Int32))]))
                        refine own_by (fun _ => XS.istore X13.here hx rfl (hb hby own_d4_221) rfl (l' := #[.val (.ref ax), .val (.int xi), .val (.int xt), .val (.int xcut), .val (.int y), .val (.int ((own_g bs y) &&& (255 : Int32))), .val (.int v4_t0), .val (.int (128 : Int32)), .val (.int (191 : Int32)), .val (.int (2 : Int32)), .val (.int ((own_g bs (y + (2 : Int32))) &&& (255 : Int32)))]) rfl) ?_
                        show own_Go p e below _ (T13.setTop (mkF m 223 #[.val (.ref ax), .val (.int xi), .val (.int xt), .val (.int xcut), .val (.int y), .val (.int ((own_g bs y) &&& (255 : Int32))), .val (.int v4_t0), .val (.int (128 : Int32)), .val (.int (191 : Int32)), .val (.int (2 : Int32)), .val (.int ((own_g bs (y + (2 : Int32))) &&& (255 : Int32)))] []))
                        refine own_by (fun _ => XS.sipush X13.here hx rfl (hb hby own_d4_223)) ?_
                        show own_Go p e below _ (T13.setTop (mkF m 226 #[.val (.ref ax), .val (.int xi), .val (.int xt), .val (.int xcut), .val (.int y), .val (.int ((own_g bs y) &&& (255 : Int32))), .val (.int v4_t0), .val (.int (128 : Int32)), .val (.int (191 : Int32)), .val (.int (2 : Int32)), .val (.int ((own_g bs (y + (2 : Int32))) &&& (255 : Int32)))] [(.int (191 : Int32))]))
                        refine own_by (fun _ => XS.istore X13.here hx rfl (hb hby own_d4_226) rfl (l' := #[.val (.ref ax), .val (.int xi), .val (.int xt), .val (.int xcut), .val (.int y), .val (.int ((own_g bs y) &&& (255 : Int32))), .val (.int v4_t0), .val (.int (128 : Int32)), .val (.int (191 : Int32)), .val (.int (2 : Int32)), .val (.int ((own_g bs (y + (2 : Int32))) &&& (255 : Int32)))]) rfl) ?_
                        show own_Go p e below _ (T13.setTop (mkF m 228 #[.val (.ref ax), .val (.int xi), .val (.int xt), .val (.int xcut), .val (.int y), .val (.int ((own_g bs y) &&& (255 : Int32))), .val (.int v4_t0), .val (.int (128 : Int32)), .val (.int (191 : Int32)), .val (.int (2 : Int32)), .val (.int ((own_g bs (y + (2 : Int32))) &&& (255 : Int32)))] []))
                        refine own_by (fun _ => XS.iinc X13.here hx rfl (hb hby own_d4_228) rfl (l' := #[.val (.ref ax), .val (.int xi), .val (.int xt), .val (.int xcut), .val (.int y), .val (.int ((own_g bs y) &&& (255 : Int32))), .val (.int v4_t0), .val (.int (128 : Int32)), .val (.int (191 : Int32)), .val (.int (3 : Int32)), .val (.int ((own_g bs (y + (2 : Int32))) &&& (255 : Int32)))]) rfl) ?_
                        show own_Go p e below _ (T13.setTop (mkF m 231 #[.val (.ref ax), .val (.int xi), .val (.int xt), .val (.int xcut), .val (.int y), .val (.int ((own_g bs y) &&& (255 : Int32))), .val (.int v4_t0), .val (.int (128 : Int32)), .val (.int (191 : Int32)), .val (.int (3 : Int32)), .val (.int ((own_g bs (y + (2 : Int32))) &&& (255 : Int32)))] []))
                        refine own_by (fun _ => XS.goto X13.here hx rfl (pc0 := 231) (pc' := 161) rfl (hb hby own_d4_231) (by decide) (by decide)) ?_
                        show own_Go p e below _ (T13.setTop (mkF m 161 #[.val (.ref ax), .val (.int xi), .val (.int xt), .val (.int xcut), .val (.int y), .val (.int ((own_g bs y) &&& (255 : Int32))), .val (.int v4_t0), .val (.int (128 : Int32)), .val (.int (191 : Int32)), .val (.int (3 : Int32)), .val (.int ((own_g bs (y + (2 : Int32))) &&& (255 : Int32)))] []))
                        refine own_by (fun _ => XS.iload X13.here hx rfl (hb hby own_d4_161) rfl) ?_
                        show own_Go p e below _ (T13.setTop (mkF m 163 #[.val (.ref ax), .val (.int xi), .val (.int xt), .val (.int xcut), .val (.int y), .val (.int ((own_g bs y) &&& (255 : Int32))), .val (.int v4_t0), .val (.int (128 : Int32)), .val (.int (191 : Int32)), .val (.int (3 : Int32)), .val (.int ((own_g bs (y + (2 : Int32))) &&& (255 : Int32)))] [(.int (3 : Int32))]))
                        refine own_by (fun _ => XS.iload X13.here hx rfl (hb hby own_d4_163) rfl) ?_
                        show own_Go p e below _ (T13.setTop (mkF m 165 #[.val (.ref ax), .val (.int xi), .val (.int xt), .val (.int xcut), .val (.int y), .val (.int ((own_g bs y) &&& (255 : Int32))), .val (.int v4_t0), .val (.int (128 : Int32)), .val (.int (191 : Int32)), .val (.int (3 : Int32)), .val (.int ((own_g bs (y + (2 : Int32))) &&& (255 : Int32)))] [(.int v4_t0), (.int (3 : Int32))]))
                        by_cases hc165_29 : (3 : Int32) < v4_t0
                        ·
                          skip
                          refine own_by (fun _ => XS.icmpNo X13.here hx rfl (hb hby own_d4_165) rfl (tlt hc165_29).2.1) ?_
                          show own_Go p e below _ (T13.setTop (mkF m 168 #[.val (.ref ax), .val (.int xi), .val (.int xt), .val (.int xcut), .val (.int y), .val (.int ((own_g bs y) &&& (255 : Int32))), .val (.int v4_t0), .val (.int (128 : Int32)), .val (.int (191 : Int32)), .val (.int (3 : Int32)), .val (.int ((own_g bs (y + (2 : Int32))) &&& (255 : Int32)))] []))
                          refine own_by (fun _ => XS.iload X13.here hx rfl (hb hby own_d4_168) rfl) ?_
                          show own_Go p e below _ (T13.setTop (mkF m 170 #[.val (.ref ax), .val (.int xi), .val (.int xt), .val (.int xcut), .val (.int y), .val (.int ((own_g bs y) &&& (255 : Int32))), .val (.int v4_t0), .val (.int (128 : Int32)), .val (.int (191 : Int32)), .val (.int (3 : Int32)), .val (.int ((own_g bs (y + (2 : Int32))) &&& (255 : Int32)))] [(.int y)]))
                          refine own_by (fun _ => XS.iload X13.here hx rfl (hb hby own_d4_170) rfl) ?_
                          show own_Go p e below _ (T13.setTop (mkF m 172 #[.val (.ref ax), .val (.int xi), .val (.int xt), .val (.int xcut), .val (.int y), .val (.int ((own_g bs y) &&& (255 : Int32))), .val (.int v4_t0), .val (.int (128 : Int32)), .val (.int (191 : Int32)), .val (.int (3 : Int32)), .val (.int ((own_g bs (y + (2 : Int32))) &&& (255 : Int32)))] [(.int (3 : Int32)), (.int y)]))
                          refine own_by (fun _ => XS.iadd X13.here hx rfl (hb hby own_d4_172) rfl) ?_
                          show own_Go p e below _ (T13.setTop (mkF m 173 #[.val (.ref ax), .val (.int xi), .val (.int xt), .val (.int xcut), .val (.int y), .val (.int ((own_g bs y) &&& (255 : Int32))), .val (.int v4_t0), .val (.int (128 : Int32)), .val (.int (191 : Int32)), .val (.int (3 : Int32)), .val (.int ((own_g bs (y + (2 : Int32))) &&& (255 : Int32)))] [(.int (y + (3 : Int32)))]))
                          refine own_by (fun _ => XS.iloadN X13.here hx rfl (hb hby own_d4_173) rfl) ?_
                          show own_Go p e below _ (T13.setTop (mkF m 174 #[.val (.ref ax), .val (.int xi), .val (.int xt), .val (.int xcut), .val (.int y), .val (.int ((own_g bs y) &&& (255 : Int32))), .val (.int v4_t0), .val (.int (128 : Int32)), .val (.int (191 : Int32)), .val (.int (3 : Int32)), .val (.int ((own_g bs (y + (2 : Int32))) &&& (255 : Int32)))] [(.int xt), (.int (y + (3 : Int32)))]))
                          by_cases hc174_30 : (y + (3 : Int32)) = xt
                          ·
                            skip
                            refine own_by (fun _ => XS.icmpNo X13.here hx rfl (hb hby own_d4_174) rfl (teq hc174_30).2) ?_
                            show own_Go p e below _ (T13.setTop (mkF m 177 #[.val (.ref ax), .val (.int xi), .val (.int xt), .val (.int xcut), .val (.int y), .val (.int ((own_g bs y) &&& (255 : Int32))), .val (.int v4_t0), .val (.int (128 : Int32)), .val (.int (191 : Int32)), .val (.int (3 : Int32)), .val (.int ((own_g bs (y + (2 : Int32))) &&& (255 : Int32)))] []))
                            refine own_by (fun _ => XS.iloadN X13.here hx rfl (hb hby own_d4_177) rfl) ?_
                            show own_Go p e below _ (T13.setTop (mkF m 178 #[.val (.ref ax), .val (.int xi), .val (.int xt), .val (.int xcut), .val (.int y), .val (.int ((own_g bs y) &&& (255 : Int32))), .val (.int v4_t0), .val (.int (128 : Int32)), .val (.int (191 : Int32)), .val (.int (3 : Int32)), .val (.int ((own_g bs (y + (2 : Int32))) &&& (255 : Int32)))] [(.int xcut)]))
                            suffices J31 : ∀ (T' : State) (v31_t0 : Int32), v31_t0 = (if xcut = (0 : Int32) then y else (-1 : Int32)) → own_At p l e ({ frames := 0, cells := 0, slots := 0, locals := 0 } : Room) s m #[(.ref ax), (.int xi), (.int xt), (.int xcut)] below meth c n0 T' h0 0 0 → own_Go p e below (own_End s below (fun v h L => v = some (.int (own_run (k + 1) y xt xcut bs)) ∧ Fr n0 L ∧ h = h0) ({ frames := 0, cells := 0, slots := 0, locals := 0 } : Room).cells ({ frames := 0, cells := 0, slots := 0, locals := 0 } : Room).slots) (T'.setTop (mkF m 187 #[.val (.ref ax), .val (.int xi), .val (.int xt), .val (.int xcut), .val (.int y), .val (.int ((own_g bs y) &&& (255 : Int32))), .val (.int v4_t0), .val (.int (128 : Int32)), .val (.int (191 : Int32)), .val (.int (3 : Int32)), .val (.int ((own_g bs (y + (2 : Int32))) &&& (255 : Int32)))] [(.int v31_t0)])) by
                              by_cases hc178_32 : xcut = (0 : Int32)
                              ·
                                skip
                                refine own_by (fun _ => XS.ifYes X13.here hx rfl (pc0 := 178) (pc' := 185) rfl (hb hby own_d4_178) rfl ((if0 _ _).trans (teq hc178_32).1) (by decide) (by decide)) ?_
                                show own_Go p e below _ (T13.setTop (mkF m 185 #[.val (.ref ax), .val (.int xi), .val (.int xt), .val (.int xcut), .val (.int y), .val (.int ((own_g bs y) &&& (255 : Int32))), .val (.int v4_t0), .val (.int (128 : Int32)), .val (.int (191 : Int32)), .val (.int (3 : Int32)), .val (.int ((own_g bs (y + (2 : Int32))) &&& (255 : Int32)))] []))
                                refine own_by (fun _ => XS.iload X13.here hx rfl (hb hby own_d4_185) rfl) ?_
                                show own_Go p e below _ (T13.setTop (mkF m 187 #[.val (.ref ax), .val (.int xi), .val (.int xt), .val (.int xcut), .val (.int y), .val (.int ((own_g bs y) &&& (255 : Int32))), .val (.int v4_t0), .val (.int (128 : Int32)), .val (.int (191 : Int32)), .val (.int (3 : Int32)), .val (.int ((own_g bs (y + (2 : Int32))) &&& (255 : Int32)))] [(.int y)]))
                                exact J31 _ _ (by first | with_reducible rfl | simp only [if_pos hc178_32] | rfl) ⟨_, X13, N13, e13⟩
                              ·
                                skip
                                refine own_by (fun _ => XS.ifNo X13.here hx rfl (hb hby own_d4_178) rfl ((if0 _ _).trans (feq hc178_32).1)) ?_
                                show own_Go p e below _ (T13.setTop (mkF m 181 #[.val (.ref ax), .val (.int xi), .val (.int xt), .val (.int xcut), .val (.int y), .val (.int ((own_g bs y) &&& (255 : Int32))), .val (.int v4_t0), .val (.int (128 : Int32)), .val (.int (191 : Int32)), .val (.int (3 : Int32)), .val (.int ((own_g bs (y + (2 : Int32))) &&& (255 : Int32)))] []))
                                refine own_by (fun _ => XS.iconst X13.here hx rfl (hb hby own_d4_181)) ?_
                                show own_Go p e below _ (T13.setTop (mkF m 182 #[.val (.ref ax), .val (.int xi), .val (.int xt), .val (.int xcut), .val (.int y), .val (.int ((own_g bs y) &&& (255 : Int32))), .val (.int v4_t0), .val (.int (128 : Int32)), .val (.int (191 : Int32)), .val (.int (3 : Int32)), .val (.int ((own_g bs (y + (2 : Int32))) &&& (255 : Int32)))] [(.int (-1 : Int32))]))
                                refine own_by (fun _ => XS.goto X13.here hx rfl (pc0 := 182) (pc' := 187) rfl (hb hby own_d4_182) (by decide) (by decide)) ?_
                                show own_Go p e below _ (T13.setTop (mkF m 187 #[.val (.ref ax), .val (.int xi), .val (.int xt), .val (.int xcut), .val (.int y), .val (.int ((own_g bs y) &&& (255 : Int32))), .val (.int v4_t0), .val (.int (128 : Int32)), .val (.int (191 : Int32)), .val (.int (3 : Int32)), .val (.int ((own_g bs (y + (2 : Int32))) &&& (255 : Int32)))] [(.int (-1 : Int32))]))
                                exact J31 _ _ (by first | with_reducible rfl | simp only [if_neg hc178_32] | rfl) ⟨_, X13, N13, e13⟩
                            intro T31 v31_t0 hv31_t0 ⟨locs31, X31, N31, e31⟩
                            show own_Go p e below _ (T31.setTop (mkF m 187 #[.val (.ref ax), .val (.int xi), .val (.int xt), .val (.int xcut), .val (.int y), .val (.int ((own_g bs y) &&& (255 : Int32))), .val (.int v4_t0), .val (.int (128 : Int32)), .val (.int (191 : Int32)), .val (.int (3 : Int32)), .val (.int ((own_g bs (y + (2 : Int32))) &&& (255 : Int32)))] [(.int v31_t0)]))
                            exact own_retI X31 hx hlk e31 hret (hb hby own_d4_187) (by decide) (by decide) ⟨congrArg some (congrArg Value.int (hv31_t0.trans (own_run_cut hy0 hyt hto ((own_step_tail hc6_1 hc24_3 hv4_t0 hc86_9 hv10_t0 hv13_t0).trans (by simp only [own_stail, if_pos (own_s1 hy0 hc6_1 hto hc174_16), if_neg hc205_20, if_neg hc212_21, if_neg (own_gtne hc165_22), if_pos (own_s2 hy0 hc6_1 hto hc174_16 hc174_23), if_neg hc205_27, if_neg hc212_28, if_neg (own_gtne hc165_29), if_neg (own_qk hc174_30)]))).symm)), N31, rfl⟩
                          ·
                            skip
                            refine own_by (fun _ => XS.icmpYes X13.here hx rfl (pc0 := 174) (pc' := 188) rfl (hb hby own_d4_174) rfl (feq hc174_30).2 (by decide) (by decide)) ?_
                            show own_Go p e below _ (T13.setTop (mkF m 188 #[.val (.ref ax), .val (.int xi), .val (.int xt), .val (.int xcut), .val (.int y), .val (.int ((own_g bs y) &&& (255 : Int32))), .val (.int v4_t0), .val (.int (128 : Int32)), .val (.int (191 : Int32)), .val (.int (3 : Int32)), .val (.int ((own_g bs (y + (2 : Int32))) &&& (255 : Int32)))] []))
                            refine own_by (fun _ => XS.aloadN X13.here hx rfl (hb hby own_d4_188) rfl rfl) ?_
                            show own_Go p e below _ (T13.setTop (mkF m 189 #[.val (.ref ax), .val (.int xi), .val (.int xt), .val (.int xcut), .val (.int y), .val (.int ((own_g bs y) &&& (255 : Int32))), .val (.int v4_t0), .val (.int (128 : Int32)), .val (.int (191 : Int32)), .val (.int (3 : Int32)), .val (.int ((own_g bs (y + (2 : Int32))) &&& (255 : Int32)))] [(.ref ax)]))
                            refine own_by (fun _ => XS.iload X13.here hx rfl (hb hby own_d4_189) rfl) ?_
                            show own_Go p e below _ (T13.setTop (mkF m 191 #[.val (.ref ax), .val (.int xi), .val (.int xt), .val (.int xcut), .val (.int y), .val (.int ((own_g bs y) &&& (255 : Int32))), .val (.int v4_t0), .val (.int (128 : Int32)), .val (.int (191 : Int32)), .val (.int (3 : Int32)), .val (.int ((own_g bs (y + (2 : Int32))) &&& (255 : Int32)))] [(.int y), (.ref ax)]))
                            refine own_by (fun _ => XS.iload X13.here hx rfl (hb hby own_d4_191) rfl) ?_
                            show own_Go p e below _ (T13.setTop (mkF m 193 #[.val (.ref ax), .val (.int xi), .val (.int xt), .val (.int xcut), .val (.int y), .val (.int ((own_g bs y) &&& (255 : Int32))), .val (.int v4_t0), .val (.int (128 : Int32)), .val (.int (191 : Int32)), .val (.int (3 : Int32)), .val (.int ((own_g bs (y + (2 : Int32))) &&& (255 : Int32)))] [(.int (3 : Int32)), (.int y), (.ref ax)]))
                            refine own_by (fun _ => XS.iadd X13.here hx rfl (hb hby own_d4_193) rfl) ?_
                            show own_Go p e below _ (T13.setTop (mkF m 194 #[.val (.ref ax), .val (.int xi), .val (.int xt), .val (.int xcut), .val (.int y), .val (.int ((own_g bs y) &&& (255 : Int32))), .val (.int v4_t0), .val (.int (128 : Int32)), .val (.int (191 : Int32)), .val (.int (3 : Int32)), .val (.int ((own_g bs (y + (2 : Int32))) &&& (255 : Int32)))] [(.int (y + (3 : Int32))), (.ref ax)]))
                            obtain ⟨cl33, ar33, q33, sz33, nn33, hs33, gs33⟩ := id pf0
                            have hin33 : ¬ ((y + (3 : Int32)) < 0 ∨ cl33.slots.size ≤ ((y + (3 : Int32))).toNatClampNeg) := inb_of sz33 (own_fx3 hy0 hc6_1 hto hc174_16 hc174_23 hc174_30)
                            refine own_by (X13.baloadBytes hx (j := (y + (3 : Int32))) (v := (.int (own_g bs (y + (3 : Int32))))) (by rw [e13]; exact ar33.1) (State.isArrayOf_alike hZ.alike ar33.2.1) ar33.2.2 hin33 (hs33.at hin33 (own_g_eq bs (y + (3 : Int32)))) (g := (mkF m 194 #[.val (.ref ax), .val (.int xi), .val (.int xt), .val (.int xcut), .val (.int y), .val (.int ((own_g bs y) &&& (255 : Int32))), .val (.int v4_t0), .val (.int (128 : Int32)), .val (.int (191 : Int32)), .val (.int (3 : Int32)), .val (.int ((own_g bs (y + (2 : Int32))) &&& (255 : Int32)))] [(.int (y + (3 : Int32))), (.ref ax)])) rfl rfl (hb hby own_d4_194)) ?_
                            show own_Go p e below _ (T13.setTop (mkF m 195 #[.val (.ref ax), .val (.int xi), .val (.int xt), .val (.int xcut), .val (.int y), .val (.int ((own_g bs y) &&& (255 : Int32))), .val (.int v4_t0), .val (.int (128 : Int32)), .val (.int (191 : Int32)), .val (.int (3 : Int32)), .val (.int ((own_g bs (y + (2 : Int32))) &&& (255 : Int32)))] [(.int (own_g bs (y + (3 : Int32))))]))
                            refine own_by (fun _ => XS.sipush X13.here hx rfl (hb hby own_d4_195)) ?_
                            show own_Go p e below _ (T13.setTop (mkF m 198 #[.val (.ref ax), .val (.int xi), .val (.int xt), .val (.int xcut), .val (.int y), .val (.int ((own_g bs y) &&& (255 : Int32))), .val (.int v4_t0), .val (.int (128 : Int32)), .val (.int (191 : Int32)), .val (.int (3 : Int32)), .val (.int ((own_g bs (y + (2 : Int32))) &&& (255 : Int32)))] [(.int (255 : Int32)), (.int (own_g bs (y + (3 : Int32))))]))
                            refine own_by (fun _ => XS.iand X13.here hx rfl (hb hby own_d4_198) rfl) ?_
                            show own_Go p e below _ (T13.setTop (mkF m 199 #[.val (.ref ax), .val (.int xi), .val (.int xt), .val (.int xcut), .val (.int y), .val (.int ((own_g bs y) &&& (255 : Int32))), .val (.int v4_t0), .val (.int (128 : Int32)), .val (.int (191 : Int32)), .val (.int (3 : Int32)), .val (.int ((own_g bs (y + (2 : Int32))) &&& (255 : Int32)))] [(.int ((own_g bs (y + (3 : Int32))) &&& (255 : Int32)))]))
                            refine own_by (fun _ => XS.istore X13.here hx rfl (hb hby own_d4_199) rfl (l' := #[.val (.ref ax), .val (.int xi), .val (.int xt), .val (.int xcut), .val (.int y), .val (.int ((own_g bs y) &&& (255 : Int32))), .val (.int v4_t0), .val (.int (128 : Int32)), .val (.int (191 : Int32)), .val (.int (3 : Int32)), .val (.int ((own_g bs (y + (3 : Int32))) &&& (255 : Int32)))]) rfl) ?_
                            show own_Go p e below _ (T13.setTop (mkF m 201 #[.val (.ref ax), .val (.int xi), .val (.int xt), .val (.int xcut), .val (.int y), .val (.int ((own_g bs y) &&& (255 : Int32))), .val (.int v4_t0), .val (.int (128 : Int32)), .val (.int (191 : Int32)), .val (.int (3 : Int32)), .val (.int ((own_g bs (y + (3 : Int32))) &&& (255 : Int32)))] []))
                            refine own_by (fun _ => XS.iload X13.here hx rfl (hb hby own_d4_201) rfl) ?_
                            show own_Go p e below _ (T13.setTop (mkF m 203 #[.val (.ref ax), .val (.int xi), .val (.int xt), .val (.int xcut), .val (.int y), .val (.int ((own_g bs y) &&& (255 : Int32))), .val (.int v4_t0), .val (.int (128 : Int32)), .val (.int (191 : Int32)), .val (.int (3 : Int32)), .val (.int ((own_g bs (y + (3 : Int32))) &&& (255 : Int32)))] [(.int ((own_g bs (y + (3 : Int32))) &&& (255 : Int32)))]))
                            refine own_by (fun _ => XS.iload X13.here hx rfl (hb hby own_d4_203) rfl) ?_
                            show own_Go p e below _ (T13.setTop (mkF m 205 #[.val (.ref ax), .val (.int xi), .val (.int xt), .val (.int xcut), .val (.int y), .val (.int ((own_g bs y) &&& (255 : Int32))), .val (.int v4_t0), .val (.int (128 : Int32)), .val (.int (191 : Int32)), .val (.int (3 : Int32)), .val (.int ((own_g bs (y + (3 : Int32))) &&& (255 : Int32)))] [(.int (128 : Int32)), (.int ((own_g bs (y + (3 : Int32))) &&& (255 : Int32)))]))
                            by_cases hc205_34 : ((own_g bs (y + (3 : Int32))) &&& (255 : Int32)) < (128 : Int32)
                            ·
                              skip
                              refine own_by (fun _ => XS.icmpYes X13.here hx rfl (pc0 := 205) (pc' := 215) rfl (hb hby own_d4_205) rfl (tlt hc205_34).1 (by decide) (by decide)) ?_
                              show own_Go p e below _ (T13.setTop (mkF m 215 #[.val (.ref ax), .val (.int xi), .val (.int xt), .val (.int xcut), .val (.int y), .val (.int ((own_g bs y) &&& (255 : Int32))), .val (.int v4_t0), .val (.int (128 : Int32)), .val (.int (191 : Int32)), .val (.int (3 : Int32)), .val (.int ((own_g bs (y + (3 : Int32))) &&& (255 : Int32)))] []))
                              refine own_by (fun _ => XS.iload X13.here hx rfl (hb hby own_d4_215) rfl) ?_
                              show own_Go p e below _ (T13.setTop (mkF m 217 #[.val (.ref ax), .val (.int xi), .val (.int xt), .val (.int xcut), .val (.int y), .val (.int ((own_g bs y) &&& (255 : Int32))), .val (.int v4_t0), .val (.int (128 : Int32)), .val (.int (191 : Int32)), .val (.int (3 : Int32)), .val (.int ((own_g bs (y + (3 : Int32))) &&& (255 : Int32)))] [(.int y)]))
                              exact own_retI X13 hx hlk e13 hret (hb hby own_d4_217) (by decide) (by decide) ⟨congrArg some (congrArg Value.int (own_run_bad hy0 hyt hto ((own_step_tail hc6_1 hc24_3 hv4_t0 hc86_9 hv10_t0 hv13_t0).trans (by simp only [own_stail, if_pos (own_s1 hy0 hc6_1 hto hc174_16), if_neg hc205_20, if_neg hc212_21, if_neg (own_gtne hc165_22), if_pos (own_s2 hy0 hc6_1 hto hc174_16 hc174_23), if_neg hc205_27, if_neg hc212_28, if_neg (own_gtne hc165_29), if_pos (own_s3 hy0 hc6_1 hto hc174_16 hc174_23 hc174_30), if_pos hc205_34]))).symm), N13, rfl⟩
                            ·
                              skip
                              refine own_by (fun _ => XS.icmpNo X13.here hx rfl (hb hby own_d4_205) rfl (flt hc205_34).1) ?_
                              show own_Go p e below _ (T13.setTop (mkF m 208 #[.val (.ref ax), .val (.int xi), .val (.int xt), .val (.int xcut), .val (.int y), .val (.int ((own_g bs y) &&& (255 : Int32))), .val (.int v4_t0), .val (.int (128 : Int32)), .val (.int (191 : Int32)), .val (.int (3 : Int32)), .val (.int ((own_g bs (y + (3 : Int32))) &&& (255 : Int32)))] []))
                              refine own_by (fun _ => XS.iload X13.here hx rfl (hb hby own_d4_208) rfl) ?_
                              show own_Go p e below _ (T13.setTop (mkF m 210 #[.val (.ref ax), .val (.int xi), .val (.int xt), .val (.int xcut), .val (.int y), .val (.int ((own_g bs y) &&& (255 : Int32))), .val (.int v4_t0), .val (.int (128 : Int32)), .val (.int (191 : Int32)), .val (.int (3 : Int32)), .val (.int ((own_g bs (y + (3 : Int32))) &&& (255 : Int32)))] [(.int ((own_g bs (y + (3 : Int32))) &&& (255 : Int32)))]))
                              refine own_by (fun _ => XS.iload X13.here hx rfl (hb hby own_d4_210) rfl) ?_
                              show own_Go p e below _ (T13.setTop (mkF m 212 #[.val (.ref ax), .val (.int xi), .val (.int xt), .val (.int xcut), .val (.int y), .val (.int ((own_g bs y) &&& (255 : Int32))), .val (.int v4_t0), .val (.int (128 : Int32)), .val (.int (191 : Int32)), .val (.int (3 : Int32)), .val (.int ((own_g bs (y + (3 : Int32))) &&& (255 : Int32)))] [(.int (191 : Int32)), (.int ((own_g bs (y + (3 : Int32))) &&& (255 : Int32)))]))
                              by_cases hc212_35 : (191 : Int32) < ((own_g bs (y + (3 : Int32))) &&& (255 : Int32))
                              ·
                                skip
                                refine own_by (fun _ => XS.icmpNo X13.here hx rfl (hb hby own_d4_212) rfl (tlt hc212_35).2.2.2) ?_
                                show own_Go p e below _ (T13.setTop (mkF m 215 #[.val (.ref ax), .val (.int xi), .val (.int xt), .val (.int xcut), .val (.int y), .val (.int ((own_g bs y) &&& (255 : Int32))), .val (.int v4_t0), .val (.int (128 : Int32)), .val (.int (191 : Int32)), .val (.int (3 : Int32)), .val (.int ((own_g bs (y + (3 : Int32))) &&& (255 : Int32)))] []))
                                refine own_by (fun _ => XS.iload X13.here hx rfl (hb hby own_d4_215) rfl) ?_
                                show own_Go p e below _ (T13.setTop (mkF m 217 #[.val (.ref ax), .val (.int xi), .val (.int xt), .val (.int xcut), .val (.int y), .val (.int ((own_g bs y) &&& (255 : Int32))), .val (.int v4_t0), .val (.int (128 : Int32)), .val (.int (191 : Int32)), .val (.int (3 : Int32)), .val (.int ((own_g bs (y + (3 : Int32))) &&& (255 : Int32)))] [(.int y)]))
                                exact own_retI X13 hx hlk e13 hret (hb hby own_d4_217) (by decide) (by decide) ⟨congrArg some (congrArg Value.int (own_run_bad hy0 hyt hto ((own_step_tail hc6_1 hc24_3 hv4_t0 hc86_9 hv10_t0 hv13_t0).trans (by simp only [own_stail, if_pos (own_s1 hy0 hc6_1 hto hc174_16), if_neg hc205_20, if_neg hc212_21, if_neg (own_gtne hc165_22), if_pos (own_s2 hy0 hc6_1 hto hc174_16 hc174_23), if_neg hc205_27, if_neg hc212_28, if_neg (own_gtne hc165_29), if_pos (own_s3 hy0 hc6_1 hto hc174_16 hc174_23 hc174_30), if_neg hc205_34, if_pos hc212_35]))).symm), N13, rfl⟩
                              ·
                                skip
                                refine own_by (fun _ => XS.icmpYes X13.here hx rfl (pc0 := 212) (pc' := 218) rfl (hb hby own_d4_212) rfl (flt hc212_35).2.2.2 (by decide) (by decide)) ?_
                                show own_Go p e below _ (T13.setTop (mkF m 218 #[.val (.ref ax), .val (.int xi), .val (.int xt), .val (.int xcut), .val (.int y), .val (.int ((own_g bs y) &&& (255 : Int32))), .val (.int v4_t0), .val (.int (128 : Int32)), .val (.int (191 : Int32)), .val (.int (3 : Int32)), .val (.int ((own_g bs (y + (3 : Int32))) &&& (255 : Int32)))] []))
                                refine own_by (fun _ => XS.sipush X13.here hx rfl (hb hby own_d4_218)) ?_
                                show own_Go p e below _ (T13.setTop (mkF m 221 #[.val (.ref ax), .val (.int xi), .val (.int xt), .val (.int xcut), .val (.int y), .val (.int ((own_g bs y) &&& (255 : Int32))), .val (.int v4_t0), .val (.int (128 : Int32)), .val (.int (191 : Int32)), .val (.int (3 : Int32)), .val (.int ((own_g bs (y + (3 : Int32))) &&& (255 : Int32)))] [(.int (128 : Int32))]))
                                refine own_by (fun _ => XS.istore X13.here hx rfl (hb hby own_d4_221) rfl (l' := #[.val (.ref ax), .val (.int xi), .val (.int xt), .val (.int xcut), .val (.int y), .val (.int ((own_g bs y) &&& (255 : Int32))), .val (.int v4_t0), .val (.int (128 : Int32)), .val (.int (191 : Int32)), .val (.int (3 : Int32)), .val (.int ((own_g bs (y + (3 : Int32))) &&& (255 : Int32)))]) rfl) ?_
                                show own_Go p e below _ (T13.setTop (mkF m 223 #[.val (.ref ax), .val (.int xi), .val (.int xt), .val (.int xcut), .val (.int y), .val (.int ((own_g bs y) &&& (255 : Int32))), .val (.int v4_t0), .val (.int (128 : Int32)), .val (.int (191 : Int32)), .val (.int (3 : Int32)), .val (.int ((own_g bs (y + (3 : Int32))) &&& (255 : Int32)))] []))
                                refine own_by (fun _ => XS.sipush X13.here hx rfl (hb hby own_d4_223)) ?_
                                show own_Go p e below _ (T13.setTop (mkF m 226 #[.val (.ref ax), .val (.int xi), .val (.int xt), .val (.int xcut), .val (.int y), .val (.int ((own_g bs y) &&& (255 : Int32))), .val (.int v4_t0), .val (.int (128 : Int32)), .val (.int (191 : Int32)), .val (.int (3 : Int32)), .val (.int ((own_g bs (y + (3 : Int32))) &&& (255 : Int32)))] [(.int (191 : Int32))]))
                                refine own_by (fun _ => XS.istore X13.here hx rfl (hb hby own_d4_226) rfl (l' := #[.val (.ref ax), .val (.int xi), .val (.int xt), .val (.int xcut), .val (.int y), .val (.int ((own_g bs y) &&& (255 : Int32))), .val (.int v4_t0), .val (.int (128 : Int32)), .val (.int (191 : Int32)), .val (.int (3 : Int32)), .val (.int ((own_g bs (y + (3 : Int32))) &&& (255 : Int32)))]) rfl) ?_
                                show own_Go p e below _ (T13.setTop (mkF m 228 #[.val (.ref ax), .val (.int xi), .val (.int xt), .val (.int xcut), .val (.int y), .val (.int ((own_g bs y) &&& (255 : Int32))), .val (.int v4_t0), .val (.int (128 : Int32)), .val (.int (191 : Int32)), .val (.int (3 : Int32)), .val (.int ((own_g bs (y + (3 : Int32))) &&& (255 : Int32)))] []))
                                refine own_by (fun _ => XS.iinc X13.here hx rfl (hb hby own_d4_228) rfl (l' := #[.val (.ref ax), .val (.int xi), .val (.int xt), .val (.int xcut), .val (.int y), .val (.int ((own_g bs y) &&& (255 : Int32))), .val (.int v4_t0), .val (.int (128 : Int32)), .val (.int (191 : Int32)), .val (.int (4 : Int32)), .val (.int ((own_g bs (y + (3 : Int32))) &&& (255 : Int32)))]) rfl) ?_
                                show own_Go p e below _ (T13.setTop (mkF m 231 #[.val (.ref ax), .val (.int xi), .val (.int xt), .val (.int xcut), .val (.int y), .val (.int ((own_g bs y) &&& (255 : Int32))), .val (.int v4_t0), .val (.int (128 : Int32)), .val (.int (191 : Int32)), .val (.int (4 : Int32)), .val (.int ((own_g bs (y + (3 : Int32))) &&& (255 : Int32)))] []))
                                refine own_by (fun _ => XS.goto X13.here hx rfl (pc0 := 231) (pc' := 161) rfl (hb hby own_d4_231) (by decide) (by decide)) ?_
                                show own_Go p e below _ (T13.setTop (mkF m 161 #[.val (.ref ax), .val (.int xi), .val (.int xt), .val (.int xcut), .val (.int y), .val (.int ((own_g bs y) &&& (255 : Int32))), .val (.int v4_t0), .val (.int (128 : Int32)), .val (.int (191 : Int32)), .val (.int (4 : Int32)), .val (.int ((own_g bs (y + (3 : Int32))) &&& (255 : Int32)))] []))
                                refine own_by (fun _ => XS.iload X13.here hx rfl (hb hby own_d4_161) rfl) ?_
                                show own_Go p e below _ (T13.setTop (mkF m 163 #[.val (.ref ax), .val (.int xi), .val (.int xt), .val (.int xcut), .val (.int y), .val (.int ((own_g bs y) &&& (255 : Int32))), .val (.int v4_t0), .val (.int (128 : Int32)), .val (.int (191 : Int32)), .val (.int (4 : Int32)), .val (.int ((own_g bs (y + (3 : Int32))) &&& (255 : Int32)))] [(.int (4 : Int32))]))
                                refine own_by (fun _ => XS.iload X13.here hx rfl (hb hby own_d4_163) rfl) ?_
                                show own_Go p e below _ (T13.setTop (mkF m 165 #[.val (.ref ax), .val (.int xi), .val (.int xt), .val (.int xcut), .val (.int y), .val (.int ((own_g bs y) &&& (255 : Int32))), .val (.int v4_t0), .val (.int (128 : Int32)), .val (.int (191 : Int32)), .val (.int (4 : Int32)), .val (.int ((own_g bs (y + (3 : Int32))) &&& (255 : Int32)))] [(.int v4_t0), (.int (4 : Int32))]))
                                refine own_by (fun _ => XS.icmpYes X13.here hx rfl (pc0 := 165) (pc' := 234) rfl (hb hby own_d4_165) rfl (flt (own_len_le4 hv4_t0)).2.1 (by decide) (by decide)) ?_
                                show own_Go p e below _ (T13.setTop (mkF m 234 #[.val (.ref ax), .val (.int xi), .val (.int xt), .val (.int xcut), .val (.int y), .val (.int ((own_g bs y) &&& (255 : Int32))), .val (.int v4_t0), .val (.int (128 : Int32)), .val (.int (191 : Int32)), .val (.int (4 : Int32)), .val (.int ((own_g bs (y + (3 : Int32))) &&& (255 : Int32)))] []))
                                refine own_by (fun _ => XS.iload X13.here hx rfl (hb hby own_d4_234) rfl) ?_
                                show own_Go p e below _ (T13.setTop (mkF m 236 #[.val (.ref ax), .val (.int xi), .val (.int xt), .val (.int xcut), .val (.int y), .val (.int ((own_g bs y) &&& (255 : Int32))), .val (.int v4_t0), .val (.int (128 : Int32)), .val (.int (191 : Int32)), .val (.int (4 : Int32)), .val (.int ((own_g bs (y + (3 : Int32))) &&& (255 : Int32)))] [(.int y)]))
                                refine own_by (fun _ => XS.iload X13.here hx rfl (hb hby own_d4_236) rfl) ?_
                                show own_Go p e below _ (T13.setTop (mkF m 238 #[.val (.ref ax), .val (.int xi), .val (.int xt), .val (.int xcut), .val (.int y), .val (.int ((own_g bs y) &&& (255 : Int32))), .val (.int v4_t0), .val (.int (128 : Int32)), .val (.int (191 : Int32)), .val (.int (4 : Int32)), .val (.int ((own_g bs (y + (3 : Int32))) &&& (255 : Int32)))] [(.int v4_t0), (.int y)]))
                                refine own_by (fun _ => XS.iadd X13.here hx rfl (hb hby own_d4_238) rfl) ?_
                                show own_Go p e below _ (T13.setTop (mkF m 239 #[.val (.ref ax), .val (.int xi), .val (.int xt), .val (.int xcut), .val (.int y), .val (.int ((own_g bs y) &&& (255 : Int32))), .val (.int v4_t0), .val (.int (128 : Int32)), .val (.int (191 : Int32)), .val (.int (4 : Int32)), .val (.int ((own_g bs (y + (3 : Int32))) &&& (255 : Int32)))] [(.int (y + v4_t0))]))
                                refine own_by (fun _ => XS.istore X13.here hx rfl (hb hby own_d4_239) rfl (l' := #[.val (.ref ax), .val (.int xi), .val (.int xt), .val (.int xcut), .val (.int (y + v4_t0)), .val (.int ((own_g bs y) &&& (255 : Int32))), .val (.int v4_t0), .val (.int (128 : Int32)), .val (.int (191 : Int32)), .val (.int (4 : Int32)), .val (.int ((own_g bs (y + (3 : Int32))) &&& (255 : Int32)))]) rfl) ?_
                                show own_Go p e below _ (T13.setTop (mkF m 241 #[.val (.ref ax), .val (.int xi), .val (.int xt), .val (.int xcut), .val (.int (y + v4_t0)), .val (.int ((own_g bs y) &&& (255 : Int32))), .val (.int v4_t0), .val (.int (128 : Int32)), .val (.int (191 : Int32)), .val (.int (4 : Int32)), .val (.int ((own_g bs (y + (3 : Int32))) &&& (255 : Int32)))] []))
                                refine own_by (fun _ => XS.goto X13.here hx rfl (pc0 := 241) (pc' := 3) rfl (hb hby own_d4_241) (by decide) (by decide)) ?_
                                show own_Go p e below _ (T13.setTop (mkF m 3 #[.val (.ref ax), .val (.int xi), .val (.int xt), .val (.int xcut), .val (.int (y + v4_t0)), .val (.int ((own_g bs y) &&& (255 : Int32))), .val (.int v4_t0), .val (.int (128 : Int32)), .val (.int (191 : Int32)), .val (.int (4 : Int32)), .val (.int ((own_g bs (y + (3 : Int32))) &&& (255 : Int32)))] []))
                                have ny := (own_advk4 hy0 hc6_1 hto hc174_16 hc174_23 hc174_30 hc165_29 (own_len_le4 hv4_t0))
                                exact own_monoQ (fun v h L q => ⟨q.1.trans (congrArg some (congrArg Value.int (own_run_go ny.1 ((own_step_tail hc6_1 hc24_3 hv4_t0 hc86_9 hv10_t0 hv13_t0).trans (by simp only [own_stail, if_pos (own_s1 hy0 hc6_1 hto hc174_16), if_neg hc205_20, if_neg hc212_21, if_neg (own_gtne hc165_22), if_pos (own_s2 hy0 hc6_1 hto hc174_16 hc174_23), if_neg hc205_27, if_neg hc212_28, if_neg (own_gtne hc165_29), if_pos (own_s3 hy0 hc6_1 hto hc174_16 hc174_23 hc174_30), if_neg hc205_34, if_neg hc212_35]; exact own_addk (own_eq4 hc165_29 (own_len_le4 hv4_t0))))).symm)), q.2⟩) (ih _ _ _ _ _ _ _ _ (One.val rfl) (One.val rfl) (One.val rfl) (One.val rfl) (One.val rfl) (One.val rfl) ny.1 ny.2.1 (own_meas hk ny.2.2) ⟨_, X13, N13, e13⟩)
                        ·
                          skip
                          refine own_by (fun _ => XS.icmpYes X13.here hx rfl (pc0 := 165) (pc' := 234) rfl (hb hby own_d4_165) rfl (flt hc165_29).2.1 (by decide) (by decide)) ?_
                          show own_Go p e below _ (T13.setTop (mkF m 234 #[.val (.ref ax), .val (.int xi), .val (.int xt), .val (.int xcut), .val (.int y), .val (.int ((own_g bs y) &&& (255 : Int32))), .val (.int v4_t0), .val (.int (128 : Int32)), .val (.int (191 : Int32)), .val (.int (3 : Int32)), .val (.int ((own_g bs (y + (2 : Int32))) &&& (255 : Int32)))] []))
                          refine own_by (fun _ => XS.iload X13.here hx rfl (hb hby own_d4_234) rfl) ?_
                          show own_Go p e below _ (T13.setTop (mkF m 236 #[.val (.ref ax), .val (.int xi), .val (.int xt), .val (.int xcut), .val (.int y), .val (.int ((own_g bs y) &&& (255 : Int32))), .val (.int v4_t0), .val (.int (128 : Int32)), .val (.int (191 : Int32)), .val (.int (3 : Int32)), .val (.int ((own_g bs (y + (2 : Int32))) &&& (255 : Int32)))] [(.int y)]))
                          refine own_by (fun _ => XS.iload X13.here hx rfl (hb hby own_d4_236) rfl) ?_
                          show own_Go p e below _ (T13.setTop (mkF m 238 #[.val (.ref ax), .val (.int xi), .val (.int xt), .val (.int xcut), .val (.int y), .val (.int ((own_g bs y) &&& (255 : Int32))), .val (.int v4_t0), .val (.int (128 : Int32)), .val (.int (191 : Int32)), .val (.int (3 : Int32)), .val (.int ((own_g bs (y + (2 : Int32))) &&& (255 : Int32)))] [(.int v4_t0), (.int y)]))
                          refine own_by (fun _ => XS.iadd X13.here hx rfl (hb hby own_d4_238) rfl) ?_
                          show own_Go p e below _ (T13.setTop (mkF m 239 #[.val (.ref ax), .val (.int xi), .val (.int xt), .val (.int xcut), .val (.int y), .val (.int ((own_g bs y) &&& (255 : Int32))), .val (.int v4_t0), .val (.int (128 : Int32)), .val (.int (191 : Int32)), .val (.int (3 : Int32)), .val (.int ((own_g bs (y + (2 : Int32))) &&& (255 : Int32)))] [(.int (y + v4_t0))]))
                          refine own_by (fun _ => XS.istore X13.here hx rfl (hb hby own_d4_239) rfl (l' := #[.val (.ref ax), .val (.int xi), .val (.int xt), .val (.int xcut), .val (.int (y + v4_t0)), .val (.int ((own_g bs y) &&& (255 : Int32))), .val (.int v4_t0), .val (.int (128 : Int32)), .val (.int (191 : Int32)), .val (.int (3 : Int32)), .val (.int ((own_g bs (y + (2 : Int32))) &&& (255 : Int32)))]) rfl) ?_
                          show own_Go p e below _ (T13.setTop (mkF m 241 #[.val (.ref ax), .val (.int xi), .val (.int xt), .val (.int xcut), .val (.int (y + v4_t0)), .val (.int ((own_g bs y) &&& (255 : Int32))), .val (.int v4_t0), .val (.int (128 : Int32)), .val (.int (191 : Int32)), .val (.int (3 : Int32)), .val (.int ((own_g bs (y + (2 : Int32))) &&& (255 : Int32)))] []))
                          refine own_by (fun _ => XS.goto X13.here hx rfl (pc0 := 241) (pc' := 3) rfl (hb hby own_d4_241) (by decide) (by decide)) ?_
                          show own_Go p e below _ (T13.setTop (mkF m 3 #[.val (.ref ax), .val (.int xi), .val (.int xt), .val (.int xcut), .val (.int (y + v4_t0)), .val (.int ((own_g bs y) &&& (255 : Int32))), .val (.int v4_t0), .val (.int (128 : Int32)), .val (.int (191 : Int32)), .val (.int (3 : Int32)), .val (.int ((own_g bs (y + (2 : Int32))) &&& (255 : Int32)))] []))
                          have ny := (own_advk3 hy0 hc6_1 hto hc174_16 hc174_23 hc165_22 hc165_29)
                          exact own_monoQ (fun v h L q => ⟨q.1.trans (congrArg some (congrArg Value.int (own_run_go ny.1 ((own_step_tail hc6_1 hc24_3 hv4_t0 hc86_9 hv10_t0 hv13_t0).trans (by simp only [own_stail, if_pos (own_s1 hy0 hc6_1 hto hc174_16), if_neg hc205_20, if_neg hc212_21, if_neg (own_gtne hc165_22), if_pos (own_s2 hy0 hc6_1 hto hc174_16 hc174_23), if_neg hc205_27, if_neg hc212_28, if_pos (own_eq3 hc165_22 hc165_29)]; exact own_addk (own_eq3 hc165_22 hc165_29)))).symm)), q.2⟩) (ih _ _ _ _ _ _ _ _ (One.val rfl) (One.val rfl) (One.val rfl) (One.val rfl) (One.val rfl) (One.val rfl) ny.1 ny.2.1 (own_meas hk ny.2.2) ⟨_, X13, N13, e13⟩)
                ·
                  skip
                  refine own_by (fun _ => XS.icmpYes X13.here hx rfl (pc0 := 165) (pc' := 234) rfl (hb hby own_d4_165) rfl (flt hc165_22).2.1 (by decide) (by decide)) ?_
                  show own_Go p e below _ (T13.setTop (mkF m 234 #[.val (.ref ax), .val (.int xi), .val (.int xt), .val (.int xcut), .val (.int y), .val (.int ((own_g bs y) &&& (255 : Int32))), .val (.int v4_t0), .val (.int (128 : Int32)), .val (.int (191 : Int32)), .val (.int (2 : Int32)), .val (.int ((own_g bs (y + (1 : Int32))) &&& (255 : Int32)))] []))
                  refine own_by (fun _ => XS.iload X13.here hx rfl (hb hby own_d4_234) rfl) ?_
                  show own_Go p e below _ (T13.setTop (mkF m 236 #[.val (.ref ax), .val (.int xi), .val (.int xt), .val (.int xcut), .val (.int y), .val (.int ((own_g bs y) &&& (255 : Int32))), .val (.int v4_t0), .val (.int (128 : Int32)), .val (.int (191 : Int32)), .val (.int (2 : Int32)), .val (.int ((own_g bs (y + (1 : Int32))) &&& (255 : Int32)))] [(.int y)]))
                  refine own_by (fun _ => XS.iload X13.here hx rfl (hb hby own_d4_236) rfl) ?_
                  show own_Go p e below _ (T13.setTop (mkF m 238 #[.val (.ref ax), .val (.int xi), .val (.int xt), .val (.int xcut), .val (.int y), .val (.int ((own_g bs y) &&& (255 : Int32))), .val (.int v4_t0), .val (.int (128 : Int32)), .val (.int (191 : Int32)), .val (.int (2 : Int32)), .val (.int ((own_g bs (y + (1 : Int32))) &&& (255 : Int32)))] [(.int v4_t0), (.int y)]))
                  refine own_by (fun _ => XS.iadd X13.here hx rfl (hb hby own_d4_238) rfl) ?_
                  show own_Go p e below _ (T13.setTop (mkF m 239 #[.val (.ref ax), .val (.int xi), .val (.int xt), .val (.int xcut), .val (.int y), .val (.int ((own_g bs y) &&& (255 : Int32))), .val (.int v4_t0), .val (.int (128 : Int32)), .val (.int (191 : Int32)), .val (.int (2 : Int32)), .val (.int ((own_g bs (y + (1 : Int32))) &&& (255 : Int32)))] [(.int (y + v4_t0))]))
                  refine own_by (fun _ => XS.istore X13.here hx rfl (hb hby own_d4_239) rfl (l' := #[.val (.ref ax), .val (.int xi), .val (.int xt), .val (.int xcut), .val (.int (y + v4_t0)), .val (.int ((own_g bs y) &&& (255 : Int32))), .val (.int v4_t0), .val (.int (128 : Int32)), .val (.int (191 : Int32)), .val (.int (2 : Int32)), .val (.int ((own_g bs (y + (1 : Int32))) &&& (255 : Int32)))]) rfl) ?_
                  show own_Go p e below _ (T13.setTop (mkF m 241 #[.val (.ref ax), .val (.int xi), .val (.int xt), .val (.int xcut), .val (.int (y + v4_t0)), .val (.int ((own_g bs y) &&& (255 : Int32))), .val (.int v4_t0), .val (.int (128 : Int32)), .val (.int (191 : Int32)), .val (.int (2 : Int32)), .val (.int ((own_g bs (y + (1 : Int32))) &&& (255 : Int32)))] []))
                  refine own_by (fun _ => XS.goto X13.here hx rfl (pc0 := 241) (pc' := 3) rfl (hb hby own_d4_241) (by decide) (by decide)) ?_
                  show own_Go p e below _ (T13.setTop (mkF m 3 #[.val (.ref ax), .val (.int xi), .val (.int xt), .val (.int xcut), .val (.int (y + v4_t0)), .val (.int ((own_g bs y) &&& (255 : Int32))), .val (.int v4_t0), .val (.int (128 : Int32)), .val (.int (191 : Int32)), .val (.int (2 : Int32)), .val (.int ((own_g bs (y + (1 : Int32))) &&& (255 : Int32)))] []))
                  have ny := (own_advk2 hy0 hc6_1 hto hc174_16 (own_len_gt1 hv4_t0 hc86_9) hc165_22)
                  exact own_monoQ (fun v h L q => ⟨q.1.trans (congrArg some (congrArg Value.int (own_run_go ny.1 ((own_step_tail hc6_1 hc24_3 hv4_t0 hc86_9 hv10_t0 hv13_t0).trans (by simp only [own_stail, if_pos (own_s1 hy0 hc6_1 hto hc174_16), if_neg hc205_20, if_neg hc212_21, if_pos (own_eq2 (own_len_gt1 hv4_t0 hc86_9) hc165_22)]; exact own_addk (own_eq2 (own_len_gt1 hv4_t0 hc86_9) hc165_22)))).symm)), q.2⟩) (ih _ _ _ _ _ _ _ _ (One.val rfl) (One.val rfl) (One.val rfl) (One.val rfl) (One.val rfl) (One.val rfl) ny.1 ny.2.1 (own_meas hk ny.2.2) ⟨_, X13, N13, e13⟩)
    ·
      skip
      refine own_by (fun _ => XS.icmpYes X1.here hx rfl (pc0 := 6) (pc' := 244) rfl (hb hby own_d4_6) rfl (flt hc6_1).2.1 (by decide) (by decide)) ?_
      show own_Go p e below _ (T1.setTop (mkF m 244 #[.val (.ref ax), .val (.int xi), .val (.int xt), .val (.int xcut), .val (.int y), s5, s6, s7, s8, s9, s10] []))
      refine own_by (fun _ => XS.iconst X1.here hx rfl (hb hby own_d4_244)) ?_
      show own_Go p e below _ (T1.setTop (mkF m 245 #[.val (.ref ax), .val (.int xi), .val (.int xt), .val (.int xcut), .val (.int y), s5, s6, s7, s8, s9, s10] [(.int (-1 : Int32))]))
      exact own_retI X1 hx hlk e1 hret (hb hby own_d4_245) (by decide) (by decide) ⟨congrArg some (congrArg Value.int (own_run_end hc6_1).symm), N1, rfl⟩

def own_law (xa : Int32) (xb : Int32) (xc : Int32) : Int32 := (if (own_run 8 (((xc.toUInt32 >>> ((1 : Int32) &&& 31).toUInt32).toInt32) &&& (7 : Int32)) (own_min (8 : Int32) ((((xc.toUInt32 >>> ((1 : Int32) &&& 31).toUInt32).toInt32) &&& (7 : Int32)) + (((xc.toUInt32 >>> ((4 : Int32) &&& 31).toUInt32).toInt32) &&& (15 : Int32)))) (if (xc &&& (1 : Int32)) = (0 : Int32) then (0 : Int32) else (1 : Int32)) [(nar .byte (xa.toInt8.toInt32)), (nar .byte (((xa.toUInt32 >>> ((8 : Int32) &&& 31).toUInt32).toInt32).toInt8.toInt32)), (nar .byte (((xa.toUInt32 >>> ((16 : Int32) &&& 31).toUInt32).toInt32).toInt8.toInt32)), (nar .byte (((xa.toUInt32 >>> ((24 : Int32) &&& 31).toUInt32).toInt32).toInt8.toInt32)), (nar .byte (xb.toInt8.toInt32)), (nar .byte (((xb.toUInt32 >>> ((8 : Int32) &&& 31).toUInt32).toInt32).toInt8.toInt32)), (nar .byte (((xb.toUInt32 >>> ((16 : Int32) &&& 31).toUInt32).toInt32).toInt8.toInt32)), (nar .byte (((xb.toUInt32 >>> ((24 : Int32) &&& 31).toUInt32).toInt32).toInt8.toInt32))]) = (if (-2 : Int32) < (own_adv (own_adv (own_adv (own_adv (own_adv (own_adv (own_adv (own_adv (own_adv (((xc.toUInt32 >>> ((1 : Int32) &&& 31).toUInt32).toInt32) &&& (7 : Int32)) (own_min (8 : Int32) ((((xc.toUInt32 >>> ((1 : Int32) &&& 31).toUInt32).toInt32) &&& (7 : Int32)) + (((xc.toUInt32 >>> ((4 : Int32) &&& 31).toUInt32).toInt32) &&& (15 : Int32)))) (if (xc &&& (1 : Int32)) = (0 : Int32) then (0 : Int32) else (1 : Int32)) [(nar .byte (xa.toInt8.toInt32)), (nar .byte (((xa.toUInt32 >>> ((8 : Int32) &&& 31).toUInt32).toInt32).toInt8.toInt32)), (nar .byte (((xa.toUInt32 >>> ((16 : Int32) &&& 31).toUInt32).toInt32).toInt8.toInt32)), (nar .byte (((xa.toUInt32 >>> ((24 : Int32) &&& 31).toUInt32).toInt32).toInt8.toInt32)), (nar .byte (xb.toInt8.toInt32)), (nar .byte (((xb.toUInt32 >>> ((8 : Int32) &&& 31).toUInt32).toInt32).toInt8.toInt32)), (nar .byte (((xb.toUInt32 >>> ((16 : Int32) &&& 31).toUInt32).toInt32).toInt8.toInt32)), (nar .byte (((xb.toUInt32 >>> ((24 : Int32) &&& 31).toUInt32).toInt32).toInt8.toInt32))]) (own_min (8 : Int32) ((((xc.toUInt32 >>> ((1 : Int32) &&& 31).toUInt32).toInt32) &&& (7 : Int32)) + (((xc.toUInt32 >>> ((4 : Int32) &&& 31).toUInt32).toInt32) &&& (15 : Int32)))) (if (xc &&& (1 : Int32)) = (0 : Int32) then (0 : Int32) else (1 : Int32)) [(nar .byte (xa.toInt8.toInt32)), (nar .byte (((xa.toUInt32 >>> ((8 : Int32) &&& 31).toUInt32).toInt32).toInt8.toInt32)), (nar .byte (((xa.toUInt32 >>> ((16 : Int32) &&& 31).toUInt32).toInt32).toInt8.toInt32)), (nar .byte (((xa.toUInt32 >>> ((24 : Int32) &&& 31).toUInt32).toInt32).toInt8.toInt32)), (nar .byte (xb.toInt8.toInt32)), (nar .byte (((xb.toUInt32 >>> ((8 : Int32) &&& 31).toUInt32).toInt32).toInt8.toInt32)), (nar .byte (((xb.toUInt32 >>> ((16 : Int32) &&& 31).toUInt32).toInt32).toInt8.toInt32)), (nar .byte (((xb.toUInt32 >>> ((24 : Int32) &&& 31).toUInt32).toInt32).toInt8.toInt32))]) (own_min (8 : Int32) ((((xc.toUInt32 >>> ((1 : Int32) &&& 31).toUInt32).toInt32) &&& (7 : Int32)) + (((xc.toUInt32 >>> ((4 : Int32) &&& 31).toUInt32).toInt32) &&& (15 : Int32)))) (if (xc &&& (1 : Int32)) = (0 : Int32) then (0 : Int32) else (1 : Int32)) [(nar .byte (xa.toInt8.toInt32)), (nar .byte (((xa.toUInt32 >>> ((8 : Int32) &&& 31).toUInt32).toInt32).toInt8.toInt32)), (nar .byte (((xa.toUInt32 >>> ((16 : Int32) &&& 31).toUInt32).toInt32).toInt8.toInt32)), (nar .byte (((xa.toUInt32 >>> ((24 : Int32) &&& 31).toUInt32).toInt32).toInt8.toInt32)), (nar .byte (xb.toInt8.toInt32)), (nar .byte (((xb.toUInt32 >>> ((8 : Int32) &&& 31).toUInt32).toInt32).toInt8.toInt32)), (nar .byte (((xb.toUInt32 >>> ((16 : Int32) &&& 31).toUInt32).toInt32).toInt8.toInt32)), (nar .byte (((xb.toUInt32 >>> ((24 : Int32) &&& 31).toUInt32).toInt32).toInt8.toInt32))]) (own_min (8 : Int32) ((((xc.toUInt32 >>> ((1 : Int32) &&& 31).toUInt32).toInt32) &&& (7 : Int32)) + (((xc.toUInt32 >>> ((4 : Int32) &&& 31).toUInt32).toInt32) &&& (15 : Int32)))) (if (xc &&& (1 : Int32)) = (0 : Int32) then (0 : Int32) else (1 : Int32)) [(nar .byte (xa.toInt8.toInt32)), (nar .byte (((xa.toUInt32 >>> ((8 : Int32) &&& 31).toUInt32).toInt32).toInt8.toInt32)), (nar .byte (((xa.toUInt32 >>> ((16 : Int32) &&& 31).toUInt32).toInt32).toInt8.toInt32)), (nar .byte (((xa.toUInt32 >>> ((24 : Int32) &&& 31).toUInt32).toInt32).toInt8.toInt32)), (nar .byte (xb.toInt8.toInt32)), (nar .byte (((xb.toUInt32 >>> ((8 : Int32) &&& 31).toUInt32).toInt32).toInt8.toInt32)), (nar .byte (((xb.toUInt32 >>> ((16 : Int32) &&& 31).toUInt32).toInt32).toInt8.toInt32)), (nar .byte (((xb.toUInt32 >>> ((24 : Int32) &&& 31).toUInt32).toInt32).toInt8.toInt32))]) (own_min (8 : Int32) ((((xc.toUInt32 >>> ((1 : Int32) &&& 31).toUInt32).toInt32) &&& (7 : Int32)) + (((xc.toUInt32 >>> ((4 : Int32) &&& 31).toUInt32).toInt32) &&& (15 : Int32)))) (if (xc &&& (1 : Int32)) = (0 : Int32) then (0 : Int32) else (1 : Int32)) [(nar .byte (xa.toInt8.toInt32)), (nar .byte (((xa.toUInt32 >>> ((8 : Int32) &&& 31).toUInt32).toInt32).toInt8.toInt32)), (nar .byte (((xa.toUInt32 >>> ((16 : Int32) &&& 31).toUInt32).toInt32).toInt8.toInt32)), (nar .byte (((xa.toUInt32 >>> ((24 : Int32) &&& 31).toUInt32).toInt32).toInt8.toInt32)), (nar .byte (xb.toInt8.toInt32)), (nar .byte (((xb.toUInt32 >>> ((8 : Int32) &&& 31).toUInt32).toInt32).toInt8.toInt32)), (nar .byte (((xb.toUInt32 >>> ((16 : Int32) &&& 31).toUInt32).toInt32).toInt8.toInt32)), (nar .byte (((xb.toUInt32 >>> ((24 : Int32) &&& 31).toUInt32).toInt32).toInt8.toInt32))]) (own_min (8 : Int32) ((((xc.toUInt32 >>> ((1 : Int32) &&& 31).toUInt32).toInt32) &&& (7 : Int32)) + (((xc.toUInt32 >>> ((4 : Int32) &&& 31).toUInt32).toInt32) &&& (15 : Int32)))) (if (xc &&& (1 : Int32)) = (0 : Int32) then (0 : Int32) else (1 : Int32)) [(nar .byte (xa.toInt8.toInt32)), (nar .byte (((xa.toUInt32 >>> ((8 : Int32) &&& 31).toUInt32).toInt32).toInt8.toInt32)), (nar .byte (((xa.toUInt32 >>> ((16 : Int32) &&& 31).toUInt32).toInt32).toInt8.toInt32)), (nar .byte (((xa.toUInt32 >>> ((24 : Int32) &&& 31).toUInt32).toInt32).toInt8.toInt32)), (nar .byte (xb.toInt8.toInt32)), (nar .byte (((xb.toUInt32 >>> ((8 : Int32) &&& 31).toUInt32).toInt32).toInt8.toInt32)), (nar .byte (((xb.toUInt32 >>> ((16 : Int32) &&& 31).toUInt32).toInt32).toInt8.toInt32)), (nar .byte (((xb.toUInt32 >>> ((24 : Int32) &&& 31).toUInt32).toInt32).toInt8.toInt32))]) (own_min (8 : Int32) ((((xc.toUInt32 >>> ((1 : Int32) &&& 31).toUInt32).toInt32) &&& (7 : Int32)) + (((xc.toUInt32 >>> ((4 : Int32) &&& 31).toUInt32).toInt32) &&& (15 : Int32)))) (if (xc &&& (1 : Int32)) = (0 : Int32) then (0 : Int32) else (1 : Int32)) [(nar .byte (xa.toInt8.toInt32)), (nar .byte (((xa.toUInt32 >>> ((8 : Int32) &&& 31).toUInt32).toInt32).toInt8.toInt32)), (nar .byte (((xa.toUInt32 >>> ((16 : Int32) &&& 31).toUInt32).toInt32).toInt8.toInt32)), (nar .byte (((xa.toUInt32 >>> ((24 : Int32) &&& 31).toUInt32).toInt32).toInt8.toInt32)), (nar .byte (xb.toInt8.toInt32)), (nar .byte (((xb.toUInt32 >>> ((8 : Int32) &&& 31).toUInt32).toInt32).toInt8.toInt32)), (nar .byte (((xb.toUInt32 >>> ((16 : Int32) &&& 31).toUInt32).toInt32).toInt8.toInt32)), (nar .byte (((xb.toUInt32 >>> ((24 : Int32) &&& 31).toUInt32).toInt32).toInt8.toInt32))]) (own_min (8 : Int32) ((((xc.toUInt32 >>> ((1 : Int32) &&& 31).toUInt32).toInt32) &&& (7 : Int32)) + (((xc.toUInt32 >>> ((4 : Int32) &&& 31).toUInt32).toInt32) &&& (15 : Int32)))) (if (xc &&& (1 : Int32)) = (0 : Int32) then (0 : Int32) else (1 : Int32)) [(nar .byte (xa.toInt8.toInt32)), (nar .byte (((xa.toUInt32 >>> ((8 : Int32) &&& 31).toUInt32).toInt32).toInt8.toInt32)), (nar .byte (((xa.toUInt32 >>> ((16 : Int32) &&& 31).toUInt32).toInt32).toInt8.toInt32)), (nar .byte (((xa.toUInt32 >>> ((24 : Int32) &&& 31).toUInt32).toInt32).toInt8.toInt32)), (nar .byte (xb.toInt8.toInt32)), (nar .byte (((xb.toUInt32 >>> ((8 : Int32) &&& 31).toUInt32).toInt32).toInt8.toInt32)), (nar .byte (((xb.toUInt32 >>> ((16 : Int32) &&& 31).toUInt32).toInt32).toInt8.toInt32)), (nar .byte (((xb.toUInt32 >>> ((24 : Int32) &&& 31).toUInt32).toInt32).toInt8.toInt32))]) (own_min (8 : Int32) ((((xc.toUInt32 >>> ((1 : Int32) &&& 31).toUInt32).toInt32) &&& (7 : Int32)) + (((xc.toUInt32 >>> ((4 : Int32) &&& 31).toUInt32).toInt32) &&& (15 : Int32)))) (if (xc &&& (1 : Int32)) = (0 : Int32) then (0 : Int32) else (1 : Int32)) [(nar .byte (xa.toInt8.toInt32)), (nar .byte (((xa.toUInt32 >>> ((8 : Int32) &&& 31).toUInt32).toInt32).toInt8.toInt32)), (nar .byte (((xa.toUInt32 >>> ((16 : Int32) &&& 31).toUInt32).toInt32).toInt8.toInt32)), (nar .byte (((xa.toUInt32 >>> ((24 : Int32) &&& 31).toUInt32).toInt32).toInt8.toInt32)), (nar .byte (xb.toInt8.toInt32)), (nar .byte (((xb.toUInt32 >>> ((8 : Int32) &&& 31).toUInt32).toInt32).toInt8.toInt32)), (nar .byte (((xb.toUInt32 >>> ((16 : Int32) &&& 31).toUInt32).toInt32).toInt8.toInt32)), (nar .byte (((xb.toUInt32 >>> ((24 : Int32) &&& 31).toUInt32).toInt32).toInt8.toInt32))]) then (-1 : Int32) else ((-2 : Int32) - (own_adv (own_adv (own_adv (own_adv (own_adv (own_adv (own_adv (own_adv (own_adv (((xc.toUInt32 >>> ((1 : Int32) &&& 31).toUInt32).toInt32) &&& (7 : Int32)) (own_min (8 : Int32) ((((xc.toUInt32 >>> ((1 : Int32) &&& 31).toUInt32).toInt32) &&& (7 : Int32)) + (((xc.toUInt32 >>> ((4 : Int32) &&& 31).toUInt32).toInt32) &&& (15 : Int32)))) (if (xc &&& (1 : Int32)) = (0 : Int32) then (0 : Int32) else (1 : Int32)) [(nar .byte (xa.toInt8.toInt32)), (nar .byte (((xa.toUInt32 >>> ((8 : Int32) &&& 31).toUInt32).toInt32).toInt8.toInt32)), (nar .byte (((xa.toUInt32 >>> ((16 : Int32) &&& 31).toUInt32).toInt32).toInt8.toInt32)), (nar .byte (((xa.toUInt32 >>> ((24 : Int32) &&& 31).toUInt32).toInt32).toInt8.toInt32)), (nar .byte (xb.toInt8.toInt32)), (nar .byte (((xb.toUInt32 >>> ((8 : Int32) &&& 31).toUInt32).toInt32).toInt8.toInt32)), (nar .byte (((xb.toUInt32 >>> ((16 : Int32) &&& 31).toUInt32).toInt32).toInt8.toInt32)), (nar .byte (((xb.toUInt32 >>> ((24 : Int32) &&& 31).toUInt32).toInt32).toInt8.toInt32))]) (own_min (8 : Int32) ((((xc.toUInt32 >>> ((1 : Int32) &&& 31).toUInt32).toInt32) &&& (7 : Int32)) + (((xc.toUInt32 >>> ((4 : Int32) &&& 31).toUInt32).toInt32) &&& (15 : Int32)))) (if (xc &&& (1 : Int32)) = (0 : Int32) then (0 : Int32) else (1 : Int32)) [(nar .byte (xa.toInt8.toInt32)), (nar .byte (((xa.toUInt32 >>> ((8 : Int32) &&& 31).toUInt32).toInt32).toInt8.toInt32)), (nar .byte (((xa.toUInt32 >>> ((16 : Int32) &&& 31).toUInt32).toInt32).toInt8.toInt32)), (nar .byte (((xa.toUInt32 >>> ((24 : Int32) &&& 31).toUInt32).toInt32).toInt8.toInt32)), (nar .byte (xb.toInt8.toInt32)), (nar .byte (((xb.toUInt32 >>> ((8 : Int32) &&& 31).toUInt32).toInt32).toInt8.toInt32)), (nar .byte (((xb.toUInt32 >>> ((16 : Int32) &&& 31).toUInt32).toInt32).toInt8.toInt32)), (nar .byte (((xb.toUInt32 >>> ((24 : Int32) &&& 31).toUInt32).toInt32).toInt8.toInt32))]) (own_min (8 : Int32) ((((xc.toUInt32 >>> ((1 : Int32) &&& 31).toUInt32).toInt32) &&& (7 : Int32)) + (((xc.toUInt32 >>> ((4 : Int32) &&& 31).toUInt32).toInt32) &&& (15 : Int32)))) (if (xc &&& (1 : Int32)) = (0 : Int32) then (0 : Int32) else (1 : Int32)) [(nar .byte (xa.toInt8.toInt32)), (nar .byte (((xa.toUInt32 >>> ((8 : Int32) &&& 31).toUInt32).toInt32).toInt8.toInt32)), (nar .byte (((xa.toUInt32 >>> ((16 : Int32) &&& 31).toUInt32).toInt32).toInt8.toInt32)), (nar .byte (((xa.toUInt32 >>> ((24 : Int32) &&& 31).toUInt32).toInt32).toInt8.toInt32)), (nar .byte (xb.toInt8.toInt32)), (nar .byte (((xb.toUInt32 >>> ((8 : Int32) &&& 31).toUInt32).toInt32).toInt8.toInt32)), (nar .byte (((xb.toUInt32 >>> ((16 : Int32) &&& 31).toUInt32).toInt32).toInt8.toInt32)), (nar .byte (((xb.toUInt32 >>> ((24 : Int32) &&& 31).toUInt32).toInt32).toInt8.toInt32))]) (own_min (8 : Int32) ((((xc.toUInt32 >>> ((1 : Int32) &&& 31).toUInt32).toInt32) &&& (7 : Int32)) + (((xc.toUInt32 >>> ((4 : Int32) &&& 31).toUInt32).toInt32) &&& (15 : Int32)))) (if (xc &&& (1 : Int32)) = (0 : Int32) then (0 : Int32) else (1 : Int32)) [(nar .byte (xa.toInt8.toInt32)), (nar .byte (((xa.toUInt32 >>> ((8 : Int32) &&& 31).toUInt32).toInt32).toInt8.toInt32)), (nar .byte (((xa.toUInt32 >>> ((16 : Int32) &&& 31).toUInt32).toInt32).toInt8.toInt32)), (nar .byte (((xa.toUInt32 >>> ((24 : Int32) &&& 31).toUInt32).toInt32).toInt8.toInt32)), (nar .byte (xb.toInt8.toInt32)), (nar .byte (((xb.toUInt32 >>> ((8 : Int32) &&& 31).toUInt32).toInt32).toInt8.toInt32)), (nar .byte (((xb.toUInt32 >>> ((16 : Int32) &&& 31).toUInt32).toInt32).toInt8.toInt32)), (nar .byte (((xb.toUInt32 >>> ((24 : Int32) &&& 31).toUInt32).toInt32).toInt8.toInt32))]) (own_min (8 : Int32) ((((xc.toUInt32 >>> ((1 : Int32) &&& 31).toUInt32).toInt32) &&& (7 : Int32)) + (((xc.toUInt32 >>> ((4 : Int32) &&& 31).toUInt32).toInt32) &&& (15 : Int32)))) (if (xc &&& (1 : Int32)) = (0 : Int32) then (0 : Int32) else (1 : Int32)) [(nar .byte (xa.toInt8.toInt32)), (nar .byte (((xa.toUInt32 >>> ((8 : Int32) &&& 31).toUInt32).toInt32).toInt8.toInt32)), (nar .byte (((xa.toUInt32 >>> ((16 : Int32) &&& 31).toUInt32).toInt32).toInt8.toInt32)), (nar .byte (((xa.toUInt32 >>> ((24 : Int32) &&& 31).toUInt32).toInt32).toInt8.toInt32)), (nar .byte (xb.toInt8.toInt32)), (nar .byte (((xb.toUInt32 >>> ((8 : Int32) &&& 31).toUInt32).toInt32).toInt8.toInt32)), (nar .byte (((xb.toUInt32 >>> ((16 : Int32) &&& 31).toUInt32).toInt32).toInt8.toInt32)), (nar .byte (((xb.toUInt32 >>> ((24 : Int32) &&& 31).toUInt32).toInt32).toInt8.toInt32))]) (own_min (8 : Int32) ((((xc.toUInt32 >>> ((1 : Int32) &&& 31).toUInt32).toInt32) &&& (7 : Int32)) + (((xc.toUInt32 >>> ((4 : Int32) &&& 31).toUInt32).toInt32) &&& (15 : Int32)))) (if (xc &&& (1 : Int32)) = (0 : Int32) then (0 : Int32) else (1 : Int32)) [(nar .byte (xa.toInt8.toInt32)), (nar .byte (((xa.toUInt32 >>> ((8 : Int32) &&& 31).toUInt32).toInt32).toInt8.toInt32)), (nar .byte (((xa.toUInt32 >>> ((16 : Int32) &&& 31).toUInt32).toInt32).toInt8.toInt32)), (nar .byte (((xa.toUInt32 >>> ((24 : Int32) &&& 31).toUInt32).toInt32).toInt8.toInt32)), (nar .byte (xb.toInt8.toInt32)), (nar .byte (((xb.toUInt32 >>> ((8 : Int32) &&& 31).toUInt32).toInt32).toInt8.toInt32)), (nar .byte (((xb.toUInt32 >>> ((16 : Int32) &&& 31).toUInt32).toInt32).toInt8.toInt32)), (nar .byte (((xb.toUInt32 >>> ((24 : Int32) &&& 31).toUInt32).toInt32).toInt8.toInt32))]) (own_min (8 : Int32) ((((xc.toUInt32 >>> ((1 : Int32) &&& 31).toUInt32).toInt32) &&& (7 : Int32)) + (((xc.toUInt32 >>> ((4 : Int32) &&& 31).toUInt32).toInt32) &&& (15 : Int32)))) (if (xc &&& (1 : Int32)) = (0 : Int32) then (0 : Int32) else (1 : Int32)) [(nar .byte (xa.toInt8.toInt32)), (nar .byte (((xa.toUInt32 >>> ((8 : Int32) &&& 31).toUInt32).toInt32).toInt8.toInt32)), (nar .byte (((xa.toUInt32 >>> ((16 : Int32) &&& 31).toUInt32).toInt32).toInt8.toInt32)), (nar .byte (((xa.toUInt32 >>> ((24 : Int32) &&& 31).toUInt32).toInt32).toInt8.toInt32)), (nar .byte (xb.toInt8.toInt32)), (nar .byte (((xb.toUInt32 >>> ((8 : Int32) &&& 31).toUInt32).toInt32).toInt8.toInt32)), (nar .byte (((xb.toUInt32 >>> ((16 : Int32) &&& 31).toUInt32).toInt32).toInt8.toInt32)), (nar .byte (((xb.toUInt32 >>> ((24 : Int32) &&& 31).toUInt32).toInt32).toInt8.toInt32))]) (own_min (8 : Int32) ((((xc.toUInt32 >>> ((1 : Int32) &&& 31).toUInt32).toInt32) &&& (7 : Int32)) + (((xc.toUInt32 >>> ((4 : Int32) &&& 31).toUInt32).toInt32) &&& (15 : Int32)))) (if (xc &&& (1 : Int32)) = (0 : Int32) then (0 : Int32) else (1 : Int32)) [(nar .byte (xa.toInt8.toInt32)), (nar .byte (((xa.toUInt32 >>> ((8 : Int32) &&& 31).toUInt32).toInt32).toInt8.toInt32)), (nar .byte (((xa.toUInt32 >>> ((16 : Int32) &&& 31).toUInt32).toInt32).toInt8.toInt32)), (nar .byte (((xa.toUInt32 >>> ((24 : Int32) &&& 31).toUInt32).toInt32).toInt8.toInt32)), (nar .byte (xb.toInt8.toInt32)), (nar .byte (((xb.toUInt32 >>> ((8 : Int32) &&& 31).toUInt32).toInt32).toInt8.toInt32)), (nar .byte (((xb.toUInt32 >>> ((16 : Int32) &&& 31).toUInt32).toInt32).toInt8.toInt32)), (nar .byte (((xb.toUInt32 >>> ((24 : Int32) &&& 31).toUInt32).toInt32).toInt8.toInt32))]) (own_min (8 : Int32) ((((xc.toUInt32 >>> ((1 : Int32) &&& 31).toUInt32).toInt32) &&& (7 : Int32)) + (((xc.toUInt32 >>> ((4 : Int32) &&& 31).toUInt32).toInt32) &&& (15 : Int32)))) (if (xc &&& (1 : Int32)) = (0 : Int32) then (0 : Int32) else (1 : Int32)) [(nar .byte (xa.toInt8.toInt32)), (nar .byte (((xa.toUInt32 >>> ((8 : Int32) &&& 31).toUInt32).toInt32).toInt8.toInt32)), (nar .byte (((xa.toUInt32 >>> ((16 : Int32) &&& 31).toUInt32).toInt32).toInt8.toInt32)), (nar .byte (((xa.toUInt32 >>> ((24 : Int32) &&& 31).toUInt32).toInt32).toInt8.toInt32)), (nar .byte (xb.toInt8.toInt32)), (nar .byte (((xb.toUInt32 >>> ((8 : Int32) &&& 31).toUInt32).toInt32).toInt8.toInt32)), (nar .byte (((xb.toUInt32 >>> ((16 : Int32) &&& 31).toUInt32).toInt32).toInt8.toInt32)), (nar .byte (((xb.toUInt32 >>> ((24 : Int32) &&& 31).toUInt32).toInt32).toInt8.toInt32))]))) then (1 : Int32) else (0 : Int32))
def own_fin (r : Int32) : Int32 := if (-2 : Int32) < r then (-1 : Int32) else (-2 : Int32) - r
def own_advs (xt xcut : Int32) (bs : List Int32) : Nat → Int32 → Int32
  | 0, r => r
  | k + 1, r => own_advs xt xcut bs k (own_adv r xt xcut bs)
theorem own_advs_neg (xt xcut : Int32) (bs : List Int32) (k : Nat) (r : Int32) (h : r < (0 : Int32)) : own_advs xt xcut bs k r = r := by
  induction k with
  | zero => rfl
  | succ k ih => simp only [own_advs, own_adv, if_pos h, ih]
/-- a step from a good place answers -1, or -2 - y, or a place further on -/
theorem own_step_cases {y xt xcut : Int32} {bs : List Int32} (h0 : ¬ (y < (0 : Int32))) (h1 : ¬ (xt < y)) (h2 : ¬ ((8 : Int32) < xt)) :
    own_step y xt xcut bs = (-1 : Int32) ∨ own_step y xt xcut bs = ((-2 : Int32) - y) ∨ (¬ (own_step y xt xcut bs < (0 : Int32)) ∧ ¬ (xt < own_step y xt xcut bs) ∧ y.toInt < (own_step y xt xcut bs).toInt) := by
  obtain ⟨k0, k1, k2, k3, k4, k8, m1, m2⟩ := own_lits
  have e1 := c_iadd y 1
  have r1 := rng32 (y + 1)
  have e2 := c_iadd y 2
  have r2 := rng32 (y + 2)
  have e3 := c_iadd y 3
  have r3 := rng32 (y + 3)
  have e4 := c_iadd y 4
  have r4 := rng32 (y + 4)
  by_cases q : y < xt
  · have tl : ∀ n lo hi, own_stail y xt xcut bs n lo hi = (-1 : Int32) ∨ own_stail y xt xcut bs n lo hi = ((-2 : Int32) - y) ∨ (¬ (own_stail y xt xcut bs n lo hi < (0 : Int32)) ∧ ¬ (xt < own_stail y xt xcut bs n lo hi) ∧ y.toInt < (own_stail y xt xcut bs n lo hi).toInt) := by
      intro n lo hi
      simp only [own_stail]
      (repeat' split) <;> first | exact Or.inl (by with_reducible rfl) | exact Or.inr (Or.inl (by with_reducible rfl)) | (refine Or.inr (Or.inr ?_); simp only [Int32.lt_iff_toInt_lt, k0, k1, k2, k3, k4, k8] at *; omega)
    simp only [own_step, if_pos q]
    split
    · refine Or.inr (Or.inr ?_)
      simp only [Int32.lt_iff_toInt_lt, k0, k1, k8] at *
      omega
    · (repeat' split) <;> first | exact Or.inr (Or.inl (by with_reducible rfl)) | exact tl _ _ _
  · exact Or.inl (own_step_end q)
theorem own_join (xt xcut : Int32) (bs : List Int32) (h2 : ¬ ((8 : Int32) < xt)) : ∀ (k : Nat) (y : Int32), ¬ (y < (0 : Int32)) → ¬ (xt < y) → xt.toInt - y.toInt ≤ (k : Int) → own_run k y xt xcut bs = own_fin (own_advs xt xcut bs (k + 1) y) := by
  intro k
  induction k with
  | zero =>
    intro y h0 h1 hk
    have e : own_adv y xt xcut bs = (-1 : Int32) := by simp only [own_adv, if_neg h0, own_step_end (own_z0 hk)]
    show (-1 : Int32) = own_fin (own_advs xt xcut bs 0 (own_adv y xt xcut bs))
    rw [e]
    show (-1 : Int32) = own_fin (-1 : Int32)
    decide
  | succ k ih =>
    intro y h0 h1 hk
    have e : own_adv y xt xcut bs = own_step y xt xcut bs := by simp only [own_adv, if_neg h0]
    have u : own_advs xt xcut bs (k + 1 + 1) y = own_advs xt xcut bs (k + 1) (own_step y xt xcut bs) := by rw [← e]; rfl
    rw [u]
    rcases own_step_cases (xcut := xcut) (bs := bs) h0 h1 h2 with q | q | ⟨a, b, c⟩
    · rw [q, own_advs_neg _ _ _ _ _ (by decide), own_run, q, if_pos (by decide), if_pos rfl]; decide
    · obtain ⟨m1, m2, m3⟩ := own_m2 h0 h1 h2
      rw [own_run_bad h0 h1 h2 q, q, own_advs_neg _ _ _ _ _ m1]
      have : ¬ ((-2 : Int32) < ((-2 : Int32) - y)) := by
        obtain ⟨k0, k1, k2, k3, k4, k8, n1, n2⟩ := own_lits
        have e := c_isub (-2) y
        have r := rng32 ((-2 : Int32) - y)
        have ry := rng32 y
        simp only [Int32.lt_iff_toInt_lt, k0, k8, n2] at *
        omega
      rw [own_fin, if_neg this, m3]
    · rw [own_run_go a rfl, ih _ a b (own_meas hk c)]
theorem own_plain (xa xb xc : Int32) : own_law xa xb xc = 1 := by
  simp only [own_law]
  refine if_pos ?_
  exact own_join _ _ _ (own_hto rfl) 8 _ (own_hlo rfl) (own_hft rfl rfl rfl) (own_m8 (own_hlo rfl) (own_hto rfl))

theorem own_pn0 : plainName "com/example/bucketsplit/bucketsplit/core/Utf8FirstIllFormedPinLaw" = true := by first | (simp [plainName, overriddenIn]; done) | decide +kernel
theorem own_ef0 (m : MethodId) (x0 : Int32) (x1 : Int32) (x2 : Int32) : entryFrame m #[(.int x0), (.int x1), (.int x2)] maxLocals = mkF m 0 #[.val (.int x0), .val (.int x1), .val (.int x2), .unset, .unset, .unset, .unset, .unset, .unset, .unset, .unset] [] := by first | (simp [entryFrame, mkF, argsToLocals, Value.category, maxLocals]; done) | rfl
def own_Q0 (Z : State) (xa : Int32) (xb : Int32) (xc : Int32) (h0 : Heap) (n0 : Nat) (v : Option Value) (h : Heap) (L : List Loc) : Prop := v = some (.int (1 : Int32)) ∧ Fr n0 L
theorem own_rm0 (l : Launch) (Z : State) (a0 : Array Value) (hw : ∀ d ∈ tables_1, d.before a0 Z = true) (ws : List Jvm.Cond) (xa : Int32) (xb : Int32) (xc : Int32) (h0 : Heap) (n0 : Nat) (Z0 : n0 ≤ h0.size) :
    MetFree l x (head1 (Jvm.Cond.code x code maxLocals ret :: ws) room_1) (fun a U => a = #[(.int xa), (.int xb), (.int xc)] ∧ Z.Warmed39 U.vm ∧ U.heap = h0) (fun _ _ _ _ _ => True) (fun _ U o U' => ∃ v L, o = .returned v ∧ own_Q0 Z xa xb xc h0 n0 v U'.heap L ∧ FrameEnd U o U' L room_1.cells room_1.slots) := by
  refine MetFree.of_bodySF (plainFor_of_name own_pn0) hisR ?_
  intro p e s m args below meth c s₁ Bd hml0 hP hK
  obtain ⟨rfl, hZ, hh⟩ := hP
  have hx := Bd.exec
  have hby := Bd.bytes
  have hlk := Bd.notSynchronized
  have hret := Bd.returns
  have hml : c.maxLocals = 11 := hml0
  have hown : s.vm.findClass "com/example/bucketsplit/bucketsplit/core/Utf8FirstIllFormedPinLaw" = some m.cls := findClass_of_methodNamed Bd.named
  have hnm := (name_of_methodNamed Bd.named Bd.method).1
  have X0 : Stand p l e room_1 s m #[(.int xa), (.int xb), (.int xc)] below meth c s₁ [] 0 0 := Stand.of_body Bd
  have e0 : s₁.heap = h0 := by rw [← hh, Bd.state]; rfl
  have N0 := Fr.nil n0
  suffices key : own_Go p e below (own_End s below (own_Q0 Z xa xb xc h0 n0) room_1.cells room_1.slots) (s₁.setTop (mkF m 0 #[.val (.int xa), .val (.int xb), .val (.int xc), .unset, .unset, .unset, .unset, .unset, .unset, .unset, .unset] [])) by
    obtain ⟨t, k1, k2, v, L, k3, k4, k5⟩ := key
    exact ⟨t, _, castTop (own_ef0 m xa xb xc) k1, k2, k3, v, L, rfl, k4, k5⟩
  show own_Go p e below _ (s₁.setTop (mkF m 0 #[.val (.int xa), .val (.int xb), .val (.int xc), .unset, .unset, .unset, .unset, .unset, .unset, .unset, .unset] []))
  refine own_by (fun _ => XS.bipush X0.here hx rfl (hb hby at_0)) ?_
  show own_Go p e below _ (s₁.setTop (mkF m 2 #[.val (.int xa), .val (.int xb), .val (.int xc), .unset, .unset, .unset, .unset, .unset, .unset, .unset, .unset] [(.int (8 : Int32))]))
  obtain ⟨T1, h1, k1, X1, e1, E1, A1, st1⟩ := newP X0 hx hZ (hw _ (List.mem_of_getElem? (i := 0) rfl)) e0 (g := (mkF m 2 #[.val (.int xa), .val (.int xb), .val (.int xc), .unset, .unset, .unset, .unset, .unset, .unset, .unset, .unset] [(.int (8 : Int32))])) rfl (hb hby at_2) rfl (by decide) (cap := 8) (by decide) (by decide) (by decide) (by decide)
  obtain ⟨b1, g1⟩ : ∃ z, z = h0.size := ⟨_, rfl⟩
  rw [← g1] at A1 st1
  refine own_by st1 ?_
  have ge1 : n0 ≤ b1 := Nat.le_trans Z0 (Nat.le_of_eq g1.symm)
  have z1 : n0 ≤ h1.size := Nat.le_trans Z0 E1.1
  have va1 : Arv Z h1 b1 k1 .byte (8 : Int32) [(.int (0 : Int32)), (.int (0 : Int32)), (.int (0 : Int32)), (.int (0 : Int32)), (.int (0 : Int32)), (.int (0 : Int32)), (.int (0 : Int32)), (.int (0 : Int32))] (.int (0 : Int32)) := (Arv.new A1 (by decide)).pad (pad_rep [] (.int (0 : Int32)) 8)
  show own_Go p e below _ (T1.setTop (mkF m 4 #[.val (.int xa), .val (.int xb), .val (.int xc), .unset, .unset, .unset, .unset, .unset, .unset, .unset, .unset] [(.ref b1)]))
  refine own_by (fun _ => XS.astoreN X1.here hx rfl (hb hby at_4) rfl rfl (l' := #[.val (.int xa), .val (.int xb), .val (.int xc), .val (.ref b1), .unset, .unset, .unset, .unset, .unset, .unset, .unset]) rfl) ?_
  show own_Go p e below _ (T1.setTop (mkF m 5 #[.val (.int xa), .val (.int xb), .val (.int xc), .val (.ref b1), .unset, .unset, .unset, .unset, .unset, .unset, .unset] []))
  refine own_by (fun _ => XS.aloadN X1.here hx rfl (hb hby at_5) rfl rfl) ?_
  show own_Go p e below _ (T1.setTop (mkF m 6 #[.val (.int xa), .val (.int xb), .val (.int xc), .val (.ref b1), .unset, .unset, .unset, .unset, .unset, .unset, .unset] [(.ref b1)]))
  refine own_by (fun _ => XS.iconst X1.here hx rfl (hb hby at_6)) ?_
  show own_Go p e below _ (T1.setTop (mkF m 7 #[.val (.int xa), .val (.int xb), .val (.int xc), .val (.ref b1), .unset, .unset, .unset, .unset, .unset, .unset, .unset] [(.int (0 : Int32)), (.ref b1)]))
  refine own_by (fun _ => XS.iloadN X1.here hx rfl (hb hby at_7) rfl) ?_
  show own_Go p e below _ (T1.setTop (mkF m 8 #[.val (.int xa), .val (.int xb), .val (.int xc), .val (.ref b1), .unset, .unset, .unset, .unset, .unset, .unset, .unset] [(.int xa), (.int (0 : Int32)), (.ref b1)]))
  refine own_by (fun _ => XS.i2b X1.here hx rfl (hb hby at_8) rfl) ?_
  show own_Go p e below _ (T1.setTop (mkF m 9 #[.val (.int xa), .val (.int xb), .val (.int xc), .val (.ref b1), .unset, .unset, .unset, .unset, .unset, .unset, .unset] [(.int (xa.toInt8.toInt32)), (.int (0 : Int32)), (.ref b1)]))
  obtain ⟨cl2, ar2, q2, sz2, nn2, hs2, gs2⟩ := id va1
  have hin2 : ¬ ((0 : Int32) < 0 ∨ cl2.slots.size ≤ ((0 : Int32)).toNatClampNeg) := inb_of sz2 ⟨by decide, by decide⟩
  obtain ⟨T3, h3, X3, e3, W3, st3⟩ := stB X1 hx hZ e1 ar2 (j := (0 : Int32)) hin2 (g := (mkF m 9 #[.val (.int xa), .val (.int xb), .val (.int xc), .val (.ref b1), .unset, .unset, .unset, .unset, .unset, .unset, .unset] [(.int (xa.toInt8.toInt32)), (.int (0 : Int32)), (.ref b1)])) rfl rfl (hb hby at_9)
  refine own_by st3 ?_
  have va3 : Arv Z h3 b1 k1 .byte (8 : Int32) [(.int (nar .byte (xa.toInt8.toInt32))), (.int (0 : Int32)), (.int (0 : Int32)), (.int (0 : Int32)), (.int (0 : Int32)), (.int (0 : Int32)), (.int (0 : Int32)), (.int (0 : Int32))] (.int (0 : Int32)) := Arv.set ar2 q2 sz2 nn2 hs2 gs2 (fits_nar_byte _) W3 0 rfl (Nat.le_of_ble_eq_true rfl)
  have z3 : n0 ≤ h3.size := Nat.le_trans z1 (Keep.of_wr W3).1
  have N3 := Fr.snoc X3 N0 ge1
  show own_Go p e below _ (T3.setTop (mkF m 10 #[.val (.int xa), .val (.int xb), .val (.int xc), .val (.ref b1), .unset, .unset, .unset, .unset, .unset, .unset, .unset] []))
  refine own_by (fun _ => XS.aloadN X3.here hx rfl (hb hby at_10) rfl rfl) ?_
  show own_Go p e below _ (T3.setTop (mkF m 11 #[.val (.int xa), .val (.int xb), .val (.int xc), .val (.ref b1), .unset, .unset, .unset, .unset, .unset, .unset, .unset] [(.ref b1)]))
  refine own_by (fun _ => XS.iconst X3.here hx rfl (hb hby at_11)) ?_
  show own_Go p e below _ (T3.setTop (mkF m 12 #[.val (.int xa), .val (.int xb), .val (.int xc), .val (.ref b1), .unset, .unset, .unset, .unset, .unset, .unset, .unset] [(.int (1 : Int32)), (.ref b1)]))
  refine own_by (fun _ => XS.iloadN X3.here hx rfl (hb hby at_12) rfl) ?_
  show own_Go p e below _ (T3.setTop (mkF m 13 #[.val (.int xa), .val (.int xb), .val (.int xc), .val (.ref b1), .unset, .unset, .unset, .unset, .unset, .unset, .unset] [(.int xa), (.int (1 : Int32)), (.ref b1)]))
  refine own_by (fun _ => XS.bipush X3.here hx rfl (hb hby at_13)) ?_
  show own_Go p e below _ (T3.setTop (mkF m 15 #[.val (.int xa), .val (.int xb), .val (.int xc), .val (.ref b1), .unset, .unset, .unset, .unset, .unset, .unset, .unset] [(.int (8 : Int32)), (.int xa), (.int (1 : Int32)), (.ref b1)]))
  refine own_by (fun _ => XS.iushr X3.here hx rfl (hb hby at_15) rfl) ?_
  show own_Go p e below _ (T3.setTop (mkF m 16 #[.val (.int xa), .val (.int xb), .val (.int xc), .val (.ref b1), .unset, .unset, .unset, .unset, .unset, .unset, .unset] [(.int ((xa.toUInt32 >>> ((8 : Int32) &&& 31).toUInt32).toInt32)), (.int (1 : Int32)), (.ref b1)]))
  refine own_by (fun _ => XS.i2b X3.here hx rfl (hb hby at_16) rfl) ?_
  show own_Go p e below _ (T3.setTop (mkF m 17 #[.val (.int xa), .val (.int xb), .val (.int xc), .val (.ref b1), .unset, .unset, .unset, .unset, .unset, .unset, .unset] [(.int (((xa.toUInt32 >>> ((8 : Int32) &&& 31).toUInt32).toInt32).toInt8.toInt32)), (.int (1 : Int32)), (.ref b1)]))
  obtain ⟨cl4, ar4, q4, sz4, nn4, hs4, gs4⟩ := id va3
  have hin4 : ¬ ((1 : Int32) < 0 ∨ cl4.slots.size ≤ ((1 : Int32)).toNatClampNeg) := inb_of sz4 ⟨by decide, by decide⟩
  obtain ⟨T5, h5, X5, e5, W5, st5⟩ := stB X3 hx hZ e3 ar4 (j := (1 : Int32)) hin4 (g := (mkF m 17 #[.val (.int xa), .val (.int xb), .val (.int xc), .val (.ref b1), .unset, .unset, .unset, .unset, .unset, .unset, .unset] [(.int (((xa.toUInt32 >>> ((8 : Int32) &&& 31).toUInt32).toInt32).toInt8.toInt32)), (.int (1 : Int32)), (.ref b1)])) rfl rfl (hb hby at_17)
  refine own_by st5 ?_
  have va5 : Arv Z h5 b1 k1 .byte (8 : Int32) [(.int (nar .byte (xa.toInt8.toInt32))), (.int (nar .byte (((xa.toUInt32 >>> ((8 : Int32) &&& 31).toUInt32).toInt32).toInt8.toInt32))), (.int (0 : Int32)), (.int (0 : Int32)), (.int (0 : Int32)), (.int (0 : Int32)), (.int (0 : Int32)), (.int (0 : Int32))] (.int (0 : Int32)) := Arv.set ar4 q4 sz4 nn4 hs4 gs4 (fits_nar_byte _) W5 1 rfl (Nat.le_of_ble_eq_true rfl)
  have z5 : n0 ≤ h5.size := Nat.le_trans z3 (Keep.of_wr W5).1
  have N5 := Fr.snoc X5 N3 ge1
  show own_Go p e below _ (T5.setTop (mkF m 18 #[.val (.int xa), .val (.int xb), .val (.int xc), .val (.ref b1), .unset, .unset, .unset, .unset, .unset, .unset, .unset] []))
  refine own_by (fun _ => XS.aloadN X5.here hx rfl (hb hby at_18) rfl rfl) ?_
  show own_Go p e below _ (T5.setTop (mkF m 19 #[.val (.int xa), .val (.int xb), .val (.int xc), .val (.ref b1), .unset, .unset, .unset, .unset, .unset, .unset, .unset] [(.ref b1)]))
  refine own_by (fun _ => XS.iconst X5.here hx rfl (hb hby at_19)) ?_
  show own_Go p e below _ (T5.setTop (mkF m 20 #[.val (.int xa), .val (.int xb), .val (.int xc), .val (.ref b1), .unset, .unset, .unset, .unset, .unset, .unset, .unset] [(.int (2 : Int32)), (.ref b1)]))
  refine own_by (fun _ => XS.iloadN X5.here hx rfl (hb hby at_20) rfl) ?_
  show own_Go p e below _ (T5.setTop (mkF m 21 #[.val (.int xa), .val (.int xb), .val (.int xc), .val (.ref b1), .unset, .unset, .unset, .unset, .unset, .unset, .unset] [(.int xa), (.int (2 : Int32)), (.ref b1)]))
  refine own_by (fun _ => XS.bipush X5.here hx rfl (hb hby at_21)) ?_
  show own_Go p e below _ (T5.setTop (mkF m 23 #[.val (.int xa), .val (.int xb), .val (.int xc), .val (.ref b1), .unset, .unset, .unset, .unset, .unset, .unset, .unset] [(.int (16 : Int32)), (.int xa), (.int (2 : Int32)), (.ref b1)]))
  refine own_by (fun _ => XS.iushr X5.here hx rfl (hb hby at_23) rfl) ?_
  show own_Go p e below _ (T5.setTop (mkF m 24 #[.val (.int xa), .val (.int xb), .val (.int xc), .val (.ref b1), .unset, .unset, .unset, .unset, .unset, .unset, .unset] [(.int ((xa.toUInt32 >>> ((16 : Int32) &&& 31).toUInt32).toInt32)), (.int (2 : Int32)), (.ref b1)]))
  refine own_by (fun _ => XS.i2b X5.here hx rfl (hb hby at_24) rfl) ?_
  show own_Go p e below _ (T5.setTop (mkF m 25 #[.val (.int xa), .val (.int xb), .val (.int xc), .val (.ref b1), .unset, .unset, .unset, .unset, .unset, .unset, .unset] [(.int (((xa.toUInt32 >>> ((16 : Int32) &&& 31).toUInt32).toInt32).toInt8.toInt32)), (.int (2 : Int32)), (.ref b1)]))
  obtain ⟨cl6, ar6, q6, sz6, nn6, hs6, gs6⟩ := id va5
  have hin6 : ¬ ((2 : Int32) < 0 ∨ cl6.slots.size ≤ ((2 : Int32)).toNatClampNeg) := inb_of sz6 ⟨by decide, by decide⟩
  obtain ⟨T7, h7, X7, e7, W7, st7⟩ := stB X5 hx hZ e5 ar6 (j := (2 : Int32)) hin6 (g := (mkF m 25 #[.val (.int xa), .val (.int xb), .val (.int xc), .val (.ref b1), .unset, .unset, .unset, .unset, .unset, .unset, .unset] [(.int (((xa.toUInt32 >>> ((16 : Int32) &&& 31).toUInt32).toInt32).toInt8.toInt32)), (.int (2 : Int32)), (.ref b1)])) rfl rfl (hb hby at_25)
  refine own_by st7 ?_
  have va7 : Arv Z h7 b1 k1 .byte (8 : Int32) [(.int (nar .byte (xa.toInt8.toInt32))), (.int (nar .byte (((xa.toUInt32 >>> ((8 : Int32) &&& 31).toUInt32).toInt32).toInt8.toInt32))), (.int (nar .byte (((xa.toUInt32 >>> ((16 : Int32) &&& 31).toUInt32).toInt32).toInt8.toInt32))), (.int (0 : Int32)), (.int (0 : Int32)), (.int (0 : Int32)), (.int (0 : Int32)), (.int (0 : Int32))] (.int (0 : Int32)) := Arv.set ar6 q6 sz6 nn6 hs6 gs6 (fits_nar_byte _) W7 2 rfl (Nat.le_of_ble_eq_true rfl)
  have z7 : n0 ≤ h7.size := Nat.le_trans z5 (Keep.of_wr W7).1
  have N7 := Fr.snoc X7 N5 ge1
  show own_Go p e below _ (T7.setTop (mkF m 26 #[.val (.int xa), .val (.int xb), .val (.int xc), .val (.ref b1), .unset, .unset, .unset, .unset, .unset, .unset, .unset] []))
  refine own_by (fun _ => XS.aloadN X7.here hx rfl (hb hby at_26) rfl rfl) ?_
  show own_Go p e below _ (T7.setTop (mkF m 27 #[.val (.int xa), .val (.int xb), .val (.int xc), .val (.ref b1), .unset, .unset, .unset, .unset, .unset, .unset, .unset] [(.ref b1)]))
  refine own_by (fun _ => XS.iconst X7.here hx rfl (hb hby at_27)) ?_
  show own_Go p e below _ (T7.setTop (mkF m 28 #[.val (.int xa), .val (.int xb), .val (.int xc), .val (.ref b1), .unset, .unset, .unset, .unset, .unset, .unset, .unset] [(.int (3 : Int32)), (.ref b1)]))
  refine own_by (fun _ => XS.iloadN X7.here hx rfl (hb hby at_28) rfl) ?_
  show own_Go p e below _ (T7.setTop (mkF m 29 #[.val (.int xa), .val (.int xb), .val (.int xc), .val (.ref b1), .unset, .unset, .unset, .unset, .unset, .unset, .unset] [(.int xa), (.int (3 : Int32)), (.ref b1)]))
  refine own_by (fun _ => XS.bipush X7.here hx rfl (hb hby at_29)) ?_
  show own_Go p e below _ (T7.setTop (mkF m 31 #[.val (.int xa), .val (.int xb), .val (.int xc), .val (.ref b1), .unset, .unset, .unset, .unset, .unset, .unset, .unset] [(.int (24 : Int32)), (.int xa), (.int (3 : Int32)), (.ref b1)]))
  refine own_by (fun _ => XS.iushr X7.here hx rfl (hb hby at_31) rfl) ?_
  show own_Go p e below _ (T7.setTop (mkF m 32 #[.val (.int xa), .val (.int xb), .val (.int xc), .val (.ref b1), .unset, .unset, .unset, .unset, .unset, .unset, .unset] [(.int ((xa.toUInt32 >>> ((24 : Int32) &&& 31).toUInt32).toInt32)), (.int (3 : Int32)), (.ref b1)]))
  refine own_by (fun _ => XS.i2b X7.here hx rfl (hb hby at_32) rfl) ?_
  show own_Go p e below _ (T7.setTop (mkF m 33 #[.val (.int xa), .val (.int xb), .val (.int xc), .val (.ref b1), .unset, .unset, .unset, .unset, .unset, .unset, .unset] [(.int (((xa.toUInt32 >>> ((24 : Int32) &&& 31).toUInt32).toInt32).toInt8.toInt32)), (.int (3 : Int32)), (.ref b1)]))
  obtain ⟨cl8, ar8, q8, sz8, nn8, hs8, gs8⟩ := id va7
  have hin8 : ¬ ((3 : Int32) < 0 ∨ cl8.slots.size ≤ ((3 : Int32)).toNatClampNeg) := inb_of sz8 ⟨by decide, by decide⟩
  obtain ⟨T9, h9, X9, e9, W9, st9⟩ := stB X7 hx hZ e7 ar8 (j := (3 : Int32)) hin8 (g := (mkF m 33 #[.val (.int xa), .val (.int xb), .val (.int xc), .val (.ref b1), .unset, .unset, .unset, .unset, .unset, .unset, .unset] [(.int (((xa.toUInt32 >>> ((24 : Int32) &&& 31).toUInt32).toInt32).toInt8.toInt32)), (.int (3 : Int32)), (.ref b1)])) rfl rfl (hb hby at_33)
  refine own_by st9 ?_
  have va9 : Arv Z h9 b1 k1 .byte (8 : Int32) [(.int (nar .byte (xa.toInt8.toInt32))), (.int (nar .byte (((xa.toUInt32 >>> ((8 : Int32) &&& 31).toUInt32).toInt32).toInt8.toInt32))), (.int (nar .byte (((xa.toUInt32 >>> ((16 : Int32) &&& 31).toUInt32).toInt32).toInt8.toInt32))), (.int (nar .byte (((xa.toUInt32 >>> ((24 : Int32) &&& 31).toUInt32).toInt32).toInt8.toInt32))), (.int (0 : Int32)), (.int (0 : Int32)), (.int (0 : Int32)), (.int (0 : Int32))] (.int (0 : Int32)) := Arv.set ar8 q8 sz8 nn8 hs8 gs8 (fits_nar_byte _) W9 3 rfl (Nat.le_of_ble_eq_true rfl)
  have z9 : n0 ≤ h9.size := Nat.le_trans z7 (Keep.of_wr W9).1
  have N9 := Fr.snoc X9 N7 ge1
  show own_Go p e below _ (T9.setTop (mkF m 34 #[.val (.int xa), .val (.int xb), .val (.int xc), .val (.ref b1), .unset, .unset, .unset, .unset, .unset, .unset, .unset] []))
  refine own_by (fun _ => XS.aloadN X9.here hx rfl (hb hby at_34) rfl rfl) ?_
  show own_Go p e below _ (T9.setTop (mkF m 35 #[.val (.int xa), .val (.int xb), .val (.int xc), .val (.ref b1), .unset, .unset, .unset, .unset, .unset, .unset, .unset] [(.ref b1)]))
  refine own_by (fun _ => XS.iconst X9.here hx rfl (hb hby at_35)) ?_
  show own_Go p e below _ (T9.setTop (mkF m 36 #[.val (.int xa), .val (.int xb), .val (.int xc), .val (.ref b1), .unset, .unset, .unset, .unset, .unset, .unset, .unset] [(.int (4 : Int32)), (.ref b1)]))
  refine own_by (fun _ => XS.iloadN X9.here hx rfl (hb hby at_36) rfl) ?_
  show own_Go p e below _ (T9.setTop (mkF m 37 #[.val (.int xa), .val (.int xb), .val (.int xc), .val (.ref b1), .unset, .unset, .unset, .unset, .unset, .unset, .unset] [(.int xb), (.int (4 : Int32)), (.ref b1)]))
  refine own_by (fun _ => XS.i2b X9.here hx rfl (hb hby at_37) rfl) ?_
  show own_Go p e below _ (T9.setTop (mkF m 38 #[.val (.int xa), .val (.int xb), .val (.int xc), .val (.ref b1), .unset, .unset, .unset, .unset, .unset, .unset, .unset] [(.int (xb.toInt8.toInt32)), (.int (4 : Int32)), (.ref b1)]))
  obtain ⟨cl10, ar10, q10, sz10, nn10, hs10, gs10⟩ := id va9
  have hin10 : ¬ ((4 : Int32) < 0 ∨ cl10.slots.size ≤ ((4 : Int32)).toNatClampNeg) := inb_of sz10 ⟨by decide, by decide⟩
  obtain ⟨T11, h11, X11, e11, W11, st11⟩ := stB X9 hx hZ e9 ar10 (j := (4 : Int32)) hin10 (g := (mkF m 38 #[.val (.int xa), .val (.int xb), .val (.int xc), .val (.ref b1), .unset, .unset, .unset, .unset, .unset, .unset, .unset] [(.int (xb.toInt8.toInt32)), (.int (4 : Int32)), (.ref b1)])) rfl rfl (hb hby at_38)
  refine own_by st11 ?_
  have va11 : Arv Z h11 b1 k1 .byte (8 : Int32) [(.int (nar .byte (xa.toInt8.toInt32))), (.int (nar .byte (((xa.toUInt32 >>> ((8 : Int32) &&& 31).toUInt32).toInt32).toInt8.toInt32))), (.int (nar .byte (((xa.toUInt32 >>> ((16 : Int32) &&& 31).toUInt32).toInt32).toInt8.toInt32))), (.int (nar .byte (((xa.toUInt32 >>> ((24 : Int32) &&& 31).toUInt32).toInt32).toInt8.toInt32))), (.int (nar .byte (xb.toInt8.toInt32))), (.int (0 : Int32)), (.int (0 : Int32)), (.int (0 : Int32))] (.int (0 : Int32)) := Arv.set ar10 q10 sz10 nn10 hs10 gs10 (fits_nar_byte _) W11 4 rfl (Nat.le_of_ble_eq_true rfl)
  have z11 : n0 ≤ h11.size := Nat.le_trans z9 (Keep.of_wr W11).1
  have N11 := Fr.snoc X11 N9 ge1
  show own_Go p e below _ (T11.setTop (mkF m 39 #[.val (.int xa), .val (.int xb), .val (.int xc), .val (.ref b1), .unset, .unset, .unset, .unset, .unset, .unset, .unset] []))
  refine own_by (fun _ => XS.aloadN X11.here hx rfl (hb hby at_39) rfl rfl) ?_
  show own_Go p e below _ (T11.setTop (mkF m 40 #[.val (.int xa), .val (.int xb), .val (.int xc), .val (.ref b1), .unset, .unset, .unset, .unset, .unset, .unset, .unset] [(.ref b1)]))
  refine own_by (fun _ => XS.iconst X11.here hx rfl (hb hby at_40)) ?_
  show own_Go p e below _ (T11.setTop (mkF m 41 #[.val (.int xa), .val (.int xb), .val (.int xc), .val (.ref b1), .unset, .unset, .unset, .unset, .unset, .unset, .unset] [(.int (5 : Int32)), (.ref b1)]))
  refine own_by (fun _ => XS.iloadN X11.here hx rfl (hb hby at_41) rfl) ?_
  show own_Go p e below _ (T11.setTop (mkF m 42 #[.val (.int xa), .val (.int xb), .val (.int xc), .val (.ref b1), .unset, .unset, .unset, .unset, .unset, .unset, .unset] [(.int xb), (.int (5 : Int32)), (.ref b1)]))
  refine own_by (fun _ => XS.bipush X11.here hx rfl (hb hby at_42)) ?_
  show own_Go p e below _ (T11.setTop (mkF m 44 #[.val (.int xa), .val (.int xb), .val (.int xc), .val (.ref b1), .unset, .unset, .unset, .unset, .unset, .unset, .unset] [(.int (8 : Int32)), (.int xb), (.int (5 : Int32)), (.ref b1)]))
  refine own_by (fun _ => XS.iushr X11.here hx rfl (hb hby at_44) rfl) ?_
  show own_Go p e below _ (T11.setTop (mkF m 45 #[.val (.int xa), .val (.int xb), .val (.int xc), .val (.ref b1), .unset, .unset, .unset, .unset, .unset, .unset, .unset] [(.int ((xb.toUInt32 >>> ((8 : Int32) &&& 31).toUInt32).toInt32)), (.int (5 : Int32)), (.ref b1)]))
  refine own_by (fun _ => XS.i2b X11.here hx rfl (hb hby at_45) rfl) ?_
  show own_Go p e below _ (T11.setTop (mkF m 46 #[.val (.int xa), .val (.int xb), .val (.int xc), .val (.ref b1), .unset, .unset, .unset, .unset, .unset, .unset, .unset] [(.int (((xb.toUInt32 >>> ((8 : Int32) &&& 31).toUInt32).toInt32).toInt8.toInt32)), (.int (5 : Int32)), (.ref b1)]))
  obtain ⟨cl12, ar12, q12, sz12, nn12, hs12, gs12⟩ := id va11
  have hin12 : ¬ ((5 : Int32) < 0 ∨ cl12.slots.size ≤ ((5 : Int32)).toNatClampNeg) := inb_of sz12 ⟨by decide, by decide⟩
  obtain ⟨T13, h13, X13, e13, W13, st13⟩ := stB X11 hx hZ e11 ar12 (j := (5 : Int32)) hin12 (g := (mkF m 46 #[.val (.int xa), .val (.int xb), .val (.int xc), .val (.ref b1), .unset, .unset, .unset, .unset, .unset, .unset, .unset] [(.int (((xb.toUInt32 >>> ((8 : Int32) &&& 31).toUInt32).toInt32).toInt8.toInt32)), (.int (5 : Int32)), (.ref b1)])) rfl rfl (hb hby at_46)
  refine own_by st13 ?_
  have va13 : Arv Z h13 b1 k1 .byte (8 : Int32) [(.int (nar .byte (xa.toInt8.toInt32))), (.int (nar .byte (((xa.toUInt32 >>> ((8 : Int32) &&& 31).toUInt32).toInt32).toInt8.toInt32))), (.int (nar .byte (((xa.toUInt32 >>> ((16 : Int32) &&& 31).toUInt32).toInt32).toInt8.toInt32))), (.int (nar .byte (((xa.toUInt32 >>> ((24 : Int32) &&& 31).toUInt32).toInt32).toInt8.toInt32))), (.int (nar .byte (xb.toInt8.toInt32))), (.int (nar .byte (((xb.toUInt32 >>> ((8 : Int32) &&& 31).toUInt32).toInt32).toInt8.toInt32))), (.int (0 : Int32)), (.int (0 : Int32))] (.int (0 : Int32)) := Arv.set ar12 q12 sz12 nn12 hs12 gs12 (fits_nar_byte _) W13 5 rfl (Nat.le_of_ble_eq_true rfl)
  have z13 : n0 ≤ h13.size := Nat.le_trans z11 (Keep.of_wr W13).1
  have N13 := Fr.snoc X13 N11 ge1
  show own_Go p e below _ (T13.setTop (mkF m 47 #[.val (.int xa), .val (.int xb), .val (.int xc), .val (.ref b1), .unset, .unset, .unset, .unset, .unset, .unset, .unset] []))
  refine own_by (fun _ => XS.aloadN X13.here hx rfl (hb hby at_47) rfl rfl) ?_
  show own_Go p e below _ (T13.setTop (mkF m 48 #[.val (.int xa), .val (.int xb), .val (.int xc), .val (.ref b1), .unset, .unset, .unset, .unset, .unset, .unset, .unset] [(.ref b1)]))
  refine own_by (fun _ => XS.bipush X13.here hx rfl (hb hby at_48)) ?_
  show own_Go p e below _ (T13.setTop (mkF m 50 #[.val (.int xa), .val (.int xb), .val (.int xc), .val (.ref b1), .unset, .unset, .unset, .unset, .unset, .unset, .unset] [(.int (6 : Int32)), (.ref b1)]))
  refine own_by (fun _ => XS.iloadN X13.here hx rfl (hb hby at_50) rfl) ?_
  show own_Go p e below _ (T13.setTop (mkF m 51 #[.val (.int xa), .val (.int xb), .val (.int xc), .val (.ref b1), .unset, .unset, .unset, .unset, .unset, .unset, .unset] [(.int xb), (.int (6 : Int32)), (.ref b1)]))
  refine own_by (fun _ => XS.bipush X13.here hx rfl (hb hby at_51)) ?_
  show own_Go p e below _ (T13.setTop (mkF m 53 #[.val (.int xa), .val (.int xb), .val (.int xc), .val (.ref b1), .unset, .unset, .unset, .unset, .unset, .unset, .unset] [(.int (16 : Int32)), (.int xb), (.int (6 : Int32)), (.ref b1)]))
  refine own_by (fun _ => XS.iushr X13.here hx rfl (hb hby at_53) rfl) ?_
  show own_Go p e below _ (T13.setTop (mkF m 54 #[.val (.int xa), .val (.int xb), .val (.int xc), .val (.ref b1), .unset, .unset, .unset, .unset, .unset, .unset, .unset] [(.int ((xb.toUInt32 >>> ((16 : Int32) &&& 31).toUInt32).toInt32)), (.int (6 : Int32)), (.ref b1)]))
  refine own_by (fun _ => XS.i2b X13.here hx rfl (hb hby at_54) rfl) ?_
  show own_Go p e below _ (T13.setTop (mkF m 55 #[.val (.int xa), .val (.int xb), .val (.int xc), .val (.ref b1), .unset, .unset, .unset, .unset, .unset, .unset, .unset] [(.int (((xb.toUInt32 >>> ((16 : Int32) &&& 31).toUInt32).toInt32).toInt8.toInt32)), (.int (6 : Int32)), (.ref b1)]))
  obtain ⟨cl14, ar14, q14, sz14, nn14, hs14, gs14⟩ := id va13
  have hin14 : ¬ ((6 : Int32) < 0 ∨ cl14.slots.size ≤ ((6 : Int32)).toNatClampNeg) := inb_of sz14 ⟨by decide, by decide⟩
  obtain ⟨T15, h15, X15, e15, W15, st15⟩ := stB X13 hx hZ e13 ar14 (j := (6 : Int32)) hin14 (g := (mkF m 55 #[.val (.int xa), .val (.int xb), .val (.int xc), .val (.ref b1), .unset, .unset, .unset, .unset, .unset, .unset, .unset] [(.int (((xb.toUInt32 >>> ((16 : Int32) &&& 31).toUInt32).toInt32).toInt8.toInt32)), (.int (6 : Int32)), (.ref b1)])) rfl rfl (hb hby at_55)
  refine own_by st15 ?_
  have va15 : Arv Z h15 b1 k1 .byte (8 : Int32) [(.int (nar .byte (xa.toInt8.toInt32))), (.int (nar .byte (((xa.toUInt32 >>> ((8 : Int32) &&& 31).toUInt32).toInt32).toInt8.toInt32))), (.int (nar .byte (((xa.toUInt32 >>> ((16 : Int32) &&& 31).toUInt32).toInt32).toInt8.toInt32))), (.int (nar .byte (((xa.toUInt32 >>> ((24 : Int32) &&& 31).toUInt32).toInt32).toInt8.toInt32))), (.int (nar .byte (xb.toInt8.toInt32))), (.int (nar .byte (((xb.toUInt32 >>> ((8 : Int32) &&& 31).toUInt32).toInt32).toInt8.toInt32))), (.int (nar .byte (((xb.toUInt32 >>> ((16 : Int32) &&& 31).toUInt32).toInt32).toInt8.toInt32))), (.int (0 : Int32))] (.int (0 : Int32)) := Arv.set ar14 q14 sz14 nn14 hs14 gs14 (fits_nar_byte _) W15 6 rfl (Nat.le_of_ble_eq_true rfl)
  have z15 : n0 ≤ h15.size := Nat.le_trans z13 (Keep.of_wr W15).1
  have N15 := Fr.snoc X15 N13 ge1
  show own_Go p e below _ (T15.setTop (mkF m 56 #[.val (.int xa), .val (.int xb), .val (.int xc), .val (.ref b1), .unset, .unset, .unset, .unset, .unset, .unset, .unset] []))
  refine own_by (fun _ => XS.aloadN X15.here hx rfl (hb hby at_56) rfl rfl) ?_
  show own_Go p e below _ (T15.setTop (mkF m 57 #[.val (.int xa), .val (.int xb), .val (.int xc), .val (.ref b1), .unset, .unset, .unset, .unset, .unset, .unset, .unset] [(.ref b1)]))
  refine own_by (fun _ => XS.bipush X15.here hx rfl (hb hby at_57)) ?_
  show own_Go p e below _ (T15.setTop (mkF m 59 #[.val (.int xa), .val (.int xb), .val (.int xc), .val (.ref b1), .unset, .unset, .unset, .unset, .unset, .unset, .unset] [(.int (7 : Int32)), (.ref b1)]))
  refine own_by (fun _ => XS.iloadN X15.here hx rfl (hb hby at_59) rfl) ?_
  show own_Go p e below _ (T15.setTop (mkF m 60 #[.val (.int xa), .val (.int xb), .val (.int xc), .val (.ref b1), .unset, .unset, .unset, .unset, .unset, .unset, .unset] [(.int xb), (.int (7 : Int32)), (.ref b1)]))
  refine own_by (fun _ => XS.bipush X15.here hx rfl (hb hby at_60)) ?_
  show own_Go p e below _ (T15.setTop (mkF m 62 #[.val (.int xa), .val (.int xb), .val (.int xc), .val (.ref b1), .unset, .unset, .unset, .unset, .unset, .unset, .unset] [(.int (24 : Int32)), (.int xb), (.int (7 : Int32)), (.ref b1)]))
  refine own_by (fun _ => XS.iushr X15.here hx rfl (hb hby at_62) rfl) ?_
  show own_Go p e below _ (T15.setTop (mkF m 63 #[.val (.int xa), .val (.int xb), .val (.int xc), .val (.ref b1), .unset, .unset, .unset, .unset, .unset, .unset, .unset] [(.int ((xb.toUInt32 >>> ((24 : Int32) &&& 31).toUInt32).toInt32)), (.int (7 : Int32)), (.ref b1)]))
  refine own_by (fun _ => XS.i2b X15.here hx rfl (hb hby at_63) rfl) ?_
  show own_Go p e below _ (T15.setTop (mkF m 64 #[.val (.int xa), .val (.int xb), .val (.int xc), .val (.ref b1), .unset, .unset, .unset, .unset, .unset, .unset, .unset] [(.int (((xb.toUInt32 >>> ((24 : Int32) &&& 31).toUInt32).toInt32).toInt8.toInt32)), (.int (7 : Int32)), (.ref b1)]))
  obtain ⟨cl16, ar16, q16, sz16, nn16, hs16, gs16⟩ := id va15
  have hin16 : ¬ ((7 : Int32) < 0 ∨ cl16.slots.size ≤ ((7 : Int32)).toNatClampNeg) := inb_of sz16 ⟨by decide, by decide⟩
  obtain ⟨T17, h17, X17, e17, W17, st17⟩ := stB X15 hx hZ e15 ar16 (j := (7 : Int32)) hin16 (g := (mkF m 64 #[.val (.int xa), .val (.int xb), .val (.int xc), .val (.ref b1), .unset, .unset, .unset, .unset, .unset, .unset, .unset] [(.int (((xb.toUInt32 >>> ((24 : Int32) &&& 31).toUInt32).toInt32).toInt8.toInt32)), (.int (7 : Int32)), (.ref b1)])) rfl rfl (hb hby at_64)
  refine own_by st17 ?_
  have va17 : Arv Z h17 b1 k1 .byte (8 : Int32) [(.int (nar .byte (xa.toInt8.toInt32))), (.int (nar .byte (((xa.toUInt32 >>> ((8 : Int32) &&& 31).toUInt32).toInt32).toInt8.toInt32))), (.int (nar .byte (((xa.toUInt32 >>> ((16 : Int32) &&& 31).toUInt32).toInt32).toInt8.toInt32))), (.int (nar .byte (((xa.toUInt32 >>> ((24 : Int32) &&& 31).toUInt32).toInt32).toInt8.toInt32))), (.int (nar .byte (xb.toInt8.toInt32))), (.int (nar .byte (((xb.toUInt32 >>> ((8 : Int32) &&& 31).toUInt32).toInt32).toInt8.toInt32))), (.int (nar .byte (((xb.toUInt32 >>> ((16 : Int32) &&& 31).toUInt32).toInt32).toInt8.toInt32))), (.int (nar .byte (((xb.toUInt32 >>> ((24 : Int32) &&& 31).toUInt32).toInt32).toInt8.toInt32)))] (.int (0 : Int32)) := Arv.set ar16 q16 sz16 nn16 hs16 gs16 (fits_nar_byte _) W17 7 rfl (Nat.le_of_ble_eq_true rfl)
  have z17 : n0 ≤ h17.size := Nat.le_trans z15 (Keep.of_wr W17).1
  have N17 := Fr.snoc X17 N15 ge1
  obtain ⟨bl, hbl⟩ : ∃ z : List Int32, z = [(nar .byte (xa.toInt8.toInt32)), (nar .byte (((xa.toUInt32 >>> ((8 : Int32) &&& 31).toUInt32).toInt32).toInt8.toInt32)), (nar .byte (((xa.toUInt32 >>> ((16 : Int32) &&& 31).toUInt32).toInt32).toInt8.toInt32)), (nar .byte (((xa.toUInt32 >>> ((24 : Int32) &&& 31).toUInt32).toInt32).toInt8.toInt32)), (nar .byte (xb.toInt8.toInt32)), (nar .byte (((xb.toUInt32 >>> ((8 : Int32) &&& 31).toUInt32).toInt32).toInt8.toInt32)), (nar .byte (((xb.toUInt32 >>> ((16 : Int32) &&& 31).toUInt32).toInt32).toInt8.toInt32)), (nar .byte (((xb.toUInt32 >>> ((24 : Int32) &&& 31).toUInt32).toInt32).toInt8.toInt32))] := ⟨_, rfl⟩
  have fbl : Arv Z h17 b1 k1 .byte (8 : Int32) (bl.map Value.int) (.int (0 : Int32)) := by rw [hbl]; exact va17
  show own_Go p e below _ (T17.setTop (mkF m 65 #[.val (.int xa), .val (.int xb), .val (.int xc), .val (.ref b1), .unset, .unset, .unset, .unset, .unset, .unset, .unset] []))
  refine own_by (fun _ => XS.iloadN X17.here hx rfl (hb hby at_65) rfl) ?_
  show own_Go p e below _ (T17.setTop (mkF m 66 #[.val (.int xa), .val (.int xb), .val (.int xc), .val (.ref b1), .unset, .unset, .unset, .unset, .unset, .unset, .unset] [(.int xc)]))
  refine own_by (fun _ => XS.iconst X17.here hx rfl (hb hby at_66)) ?_
  show own_Go p e below _ (T17.setTop (mkF m 67 #[.val (.int xa), .val (.int xb), .val (.int xc), .val (.ref b1), .unset, .unset, .unset, .unset, .unset, .unset, .unset] [(.int (1 : Int32)), (.int xc)]))
  refine own_by (fun _ => XS.iand X17.here hx rfl (hb hby at_67) rfl) ?_
  show own_Go p e below _ (T17.setTop (mkF m 68 #[.val (.int xa), .val (.int xb), .val (.int xc), .val (.ref b1), .unset, .unset, .unset, .unset, .unset, .unset, .unset] [(.int (xc &&& (1 : Int32)))]))
  suffices J18 : ∀ (T' : State) (v18_t0 : Int32), v18_t0 = (if (xc &&& (1 : Int32)) = (0 : Int32) then (0 : Int32) else (1 : Int32)) → own_At p l e room_1 s m #[(.int xa), (.int xb), (.int xc)] below meth c n0 T' h17 1 8 → own_Go p e below (own_End s below (own_Q0 Z xa xb xc h0 n0) room_1.cells room_1.slots) (T'.setTop (mkF m 76 #[.val (.int xa), .val (.int xb), .val (.int xc), .val (.ref b1), .unset, .unset, .unset, .unset, .unset, .unset, .unset] [(.int v18_t0)])) by
    by_cases hc68_19 : (xc &&& (1 : Int32)) = (0 : Int32)
    ·
      skip
      refine own_by (fun _ => XS.ifYes X17.here hx rfl (pc0 := 68) (pc' := 75) rfl (hb hby at_68) rfl ((if0 _ _).trans (teq hc68_19).1) (by decide) (by decide)) ?_
      show own_Go p e below _ (T17.setTop (mkF m 75 #[.val (.int xa), .val (.int xb), .val (.int xc), .val (.ref b1), .unset, .unset, .unset, .unset, .unset, .unset, .unset] []))
      refine own_by (fun _ => XS.iconst X17.here hx rfl (hb hby at_75)) ?_
      show own_Go p e below _ (T17.setTop (mkF m 76 #[.val (.int xa), .val (.int xb), .val (.int xc), .val (.ref b1), .unset, .unset, .unset, .unset, .unset, .unset, .unset] [(.int (0 : Int32))]))
      exact J18 _ _ (by first | with_reducible rfl | simp only [if_pos hc68_19] | rfl) ⟨_, X17, N17, e17⟩
    ·
      skip
      refine own_by (fun _ => XS.ifNo X17.here hx rfl (hb hby at_68) rfl ((if0 _ _).trans (feq hc68_19).1)) ?_
      show own_Go p e below _ (T17.setTop (mkF m 71 #[.val (.int xa), .val (.int xb), .val (.int xc), .val (.ref b1), .unset, .unset, .unset, .unset, .unset, .unset, .unset] []))
      refine own_by (fun _ => XS.iconst X17.here hx rfl (hb hby at_71)) ?_
      show own_Go p e below _ (T17.setTop (mkF m 72 #[.val (.int xa), .val (.int xb), .val (.int xc), .val (.ref b1), .unset, .unset, .unset, .unset, .unset, .unset, .unset] [(.int (1 : Int32))]))
      refine own_by (fun _ => XS.goto X17.here hx rfl (pc0 := 72) (pc' := 76) rfl (hb hby at_72) (by decide) (by decide)) ?_
      show own_Go p e below _ (T17.setTop (mkF m 76 #[.val (.int xa), .val (.int xb), .val (.int xc), .val (.ref b1), .unset, .unset, .unset, .unset, .unset, .unset, .unset] [(.int (1 : Int32))]))
      exact J18 _ _ (by first | with_reducible rfl | simp only [if_neg hc68_19] | rfl) ⟨_, X17, N17, e17⟩
  intro T18 v18_t0 hv18_t0 ⟨locs18, X18, N18, e18⟩
  show own_Go p e below _ (T18.setTop (mkF m 76 #[.val (.int xa), .val (.int xb), .val (.int xc), .val (.ref b1), .unset, .unset, .unset, .unset, .unset, .unset, .unset] [(.int v18_t0)]))
  refine own_by (fun _ => XS.istore X18.here hx rfl (hb hby at_76) rfl (l' := #[.val (.int xa), .val (.int xb), .val (.int xc), .val (.ref b1), .val (.int v18_t0), .unset, .unset, .unset, .unset, .unset, .unset]) rfl) ?_
  show own_Go p e below _ (T18.setTop (mkF m 78 #[.val (.int xa), .val (.int xb), .val (.int xc), .val (.ref b1), .val (.int v18_t0), .unset, .unset, .unset, .unset, .unset, .unset] []))
  refine own_by (fun _ => XS.iloadN X18.here hx rfl (hb hby at_78) rfl) ?_
  show own_Go p e below _ (T18.setTop (mkF m 79 #[.val (.int xa), .val (.int xb), .val (.int xc), .val (.ref b1), .val (.int v18_t0), .unset, .unset, .unset, .unset, .unset, .unset] [(.int xc)]))
  refine own_by (fun _ => XS.iconst X18.here hx rfl (hb hby at_79)) ?_
  show own_Go p e below _ (T18.setTop (mkF m 80 #[.val (.int xa), .val (.int xb), .val (.int xc), .val (.ref b1), .val (.int v18_t0), .unset, .unset, .unset, .unset, .unset, .unset] [(.int (1 : Int32)), (.int xc)]))
  refine own_by (fun _ => XS.iushr X18.here hx rfl (hb hby at_80) rfl) ?_
  show own_Go p e below _ (T18.setTop (mkF m 81 #[.val (.int xa), .val (.int xb), .val (.int xc), .val (.ref b1), .val (.int v18_t0), .unset, .unset, .unset, .unset, .unset, .unset] [(.int ((xc.toUInt32 >>> ((1 : Int32) &&& 31).toUInt32).toInt32))]))
  refine own_by (fun _ => XS.bipush X18.here hx rfl (hb hby at_81)) ?_
  show own_Go p e below _ (T18.setTop (mkF m 83 #[.val (.int xa), .val (.int xb), .val (.int xc), .val (.ref b1), .val (.int v18_t0), .unset, .unset, .unset, .unset, .unset, .unset] [(.int (7 : Int32)), (.int ((xc.toUInt32 >>> ((1 : Int32) &&& 31).toUInt32).toInt32))]))
  refine own_by (fun _ => XS.iand X18.here hx rfl (hb hby at_83) rfl) ?_
  show own_Go p e below _ (T18.setTop (mkF m 84 #[.val (.int xa), .val (.int xb), .val (.int xc), .val (.ref b1), .val (.int v18_t0), .unset, .unset, .unset, .unset, .unset, .unset] [(.int (((xc.toUInt32 >>> ((1 : Int32) &&& 31).toUInt32).toInt32) &&& (7 : Int32)))]))
  refine own_by (fun _ => XS.istore X18.here hx rfl (hb hby at_84) rfl (l' := #[.val (.int xa), .val (.int xb), .val (.int xc), .val (.ref b1), .val (.int v18_t0), .val (.int (((xc.toUInt32 >>> ((1 : Int32) &&& 31).toUInt32).toInt32) &&& (7 : Int32))), .unset, .unset, .unset, .unset, .unset]) rfl) ?_
  show own_Go p e below _ (T18.setTop (mkF m 86 #[.val (.int xa), .val (.int xb), .val (.int xc), .val (.ref b1), .val (.int v18_t0), .val (.int (((xc.toUInt32 >>> ((1 : Int32) &&& 31).toUInt32).toInt32) &&& (7 : Int32))), .unset, .unset, .unset, .unset, .unset] []))
  obtain ⟨w20, hw20⟩ : ∃ z : Int32, z = (((xc.toUInt32 >>> ((1 : Int32) &&& 31).toUInt32).toInt32) &&& (7 : Int32)) := ⟨_, rfl⟩
  rw [← hw20]
  show own_Go p e below _ (T18.setTop (mkF m 86 #[.val (.int xa), .val (.int xb), .val (.int xc), .val (.ref b1), .val (.int v18_t0), .val (.int w20), .unset, .unset, .unset, .unset, .unset] []))
  refine own_by (fun _ => XS.iloadN X18.here hx rfl (hb hby at_86) rfl) ?_
  show own_Go p e below _ (T18.setTop (mkF m 87 #[.val (.int xa), .val (.int xb), .val (.int xc), .val (.ref b1), .val (.int v18_t0), .val (.int w20), .unset, .unset, .unset, .unset, .unset] [(.int xc)]))
  refine own_by (fun _ => XS.iconst X18.here hx rfl (hb hby at_87)) ?_
  show own_Go p e below _ (T18.setTop (mkF m 88 #[.val (.int xa), .val (.int xb), .val (.int xc), .val (.ref b1), .val (.int v18_t0), .val (.int w20), .unset, .unset, .unset, .unset, .unset] [(.int (4 : Int32)), (.int xc)]))
  refine own_by (fun _ => XS.iushr X18.here hx rfl (hb hby at_88) rfl) ?_
  show own_Go p e below _ (T18.setTop (mkF m 89 #[.val (.int xa), .val (.int xb), .val (.int xc), .val (.ref b1), .val (.int v18_t0), .val (.int w20), .unset, .unset, .unset, .unset, .unset] [(.int ((xc.toUInt32 >>> ((4 : Int32) &&& 31).toUInt32).toInt32))]))
  refine own_by (fun _ => XS.bipush X18.here hx rfl (hb hby at_89)) ?_
  show own_Go p e below _ (T18.setTop (mkF m 91 #[.val (.int xa), .val (.int xb), .val (.int xc), .val (.ref b1), .val (.int v18_t0), .val (.int w20), .unset, .unset, .unset, .unset, .unset] [(.int (15 : Int32)), (.int ((xc.toUInt32 >>> ((4 : Int32) &&& 31).toUInt32).toInt32))]))
  refine own_by (fun _ => XS.iand X18.here hx rfl (hb hby at_91) rfl) ?_
  show own_Go p e below _ (T18.setTop (mkF m 92 #[.val (.int xa), .val (.int xb), .val (.int xc), .val (.ref b1), .val (.int v18_t0), .val (.int w20), .unset, .unset, .unset, .unset, .unset] [(.int (((xc.toUInt32 >>> ((4 : Int32) &&& 31).toUInt32).toInt32) &&& (15 : Int32)))]))
  refine own_by (fun _ => XS.istore X18.here hx rfl (hb hby at_92) rfl (l' := #[.val (.int xa), .val (.int xb), .val (.int xc), .val (.ref b1), .val (.int v18_t0), .val (.int w20), .val (.int (((xc.toUInt32 >>> ((4 : Int32) &&& 31).toUInt32).toInt32) &&& (15 : Int32))), .unset, .unset, .unset, .unset]) rfl) ?_
  show own_Go p e below _ (T18.setTop (mkF m 94 #[.val (.int xa), .val (.int xb), .val (.int xc), .val (.ref b1), .val (.int v18_t0), .val (.int w20), .val (.int (((xc.toUInt32 >>> ((4 : Int32) &&& 31).toUInt32).toInt32) &&& (15 : Int32))), .unset, .unset, .unset, .unset] []))
  obtain ⟨w21, hw21⟩ : ∃ z : Int32, z = (((xc.toUInt32 >>> ((4 : Int32) &&& 31).toUInt32).toInt32) &&& (15 : Int32)) := ⟨_, rfl⟩
  rw [← hw21]
  show own_Go p e below _ (T18.setTop (mkF m 94 #[.val (.int xa), .val (.int xb), .val (.int xc), .val (.ref b1), .val (.int v18_t0), .val (.int w20), .val (.int w21), .unset, .unset, .unset, .unset] []))
  refine own_by (fun _ => XS.bipush X18.here hx rfl (hb hby at_94)) ?_
  show own_Go p e below _ (T18.setTop (mkF m 96 #[.val (.int xa), .val (.int xb), .val (.int xc), .val (.ref b1), .val (.int v18_t0), .val (.int w20), .val (.int w21), .unset, .unset, .unset, .unset] [(.int (8 : Int32))]))
  refine own_by (fun _ => XS.iload X18.here hx rfl (hb hby at_96) rfl) ?_
  show own_Go p e below _ (T18.setTop (mkF m 98 #[.val (.int xa), .val (.int xb), .val (.int xc), .val (.ref b1), .val (.int v18_t0), .val (.int w20), .val (.int w21), .unset, .unset, .unset, .unset] [(.int w20), (.int (8 : Int32))]))
  refine own_by (fun _ => XS.iload X18.here hx rfl (hb hby at_98) rfl) ?_
  show own_Go p e below _ (T18.setTop (mkF m 100 #[.val (.int xa), .val (.int xb), .val (.int xc), .val (.ref b1), .val (.int v18_t0), .val (.int w20), .val (.int w21), .unset, .unset, .unset, .unset] [(.int w21), (.int w20), (.int (8 : Int32))]))
  refine own_by (fun _ => XS.iadd X18.here hx rfl (hb hby at_100) rfl) ?_
  show own_Go p e below _ (T18.setTop (mkF m 101 #[.val (.int xa), .val (.int xb), .val (.int xc), .val (.ref b1), .val (.int v18_t0), .val (.int w20), .val (.int w21), .unset, .unset, .unset, .unset] [(.int (w20 + w21)), (.int (8 : Int32))]))
  obtain ⟨_, _, ⟨T22, L22, k22, n22⟩, -, X22, ⟨Lc22, hQ22, l22, y22, z22'⟩, st22⟩ := Jvm.LawKit.callS X18 hx (y := (⟨"java/lang/Math", "min", "(II)I"⟩ : MethodName)) hown (mvT hZ (hw _ (List.mem_of_getElem? (i := 1) rfl))) (mvT hZ (hw _ (List.mem_of_getElem? (i := 2) rfl))) (mvT hZ (hw _ (List.mem_of_getElem? (i := 3) rfl))) (mvT hZ (hw _ (List.mem_of_getElem? (i := 4) rfl))) (by decide) (backOf (W := 0) (own_rm1 l Z a0 hw [] (8 : Int32) (w20 + w21) h17 n0 z17 ) hZ (hw _ (List.mem_of_getElem? (i := 4) rfl)) (hw _ (List.mem_of_getElem? (i := 3) rfl)) (by decide) (by decide)) (g := (mkF m 101 #[.val (.int xa), .val (.int xb), .val (.int xc), .val (.ref b1), .val (.int v18_t0), .val (.int w20), .val (.int w21), .unset, .unset, .unset, .unset] [(.int (w20 + w21)), (.int (8 : Int32))])) rfl (by rw [hml]; rfl) (argsL := [(.int (8 : Int32)), (.int (w20 + w21))]) (rest := []) (lenOf own_pd1 rfl) rfl (by show 2 * 0 + _ ≤ _; exact Nat.le_of_eq rfl) (hb hby at_101) (fun _ _ => ⟨rfl, e18, (by decide : 1 + 0 ≤ _), (by decide : 8 + 0 ≤ _)⟩)
  dsimp only [Pt.U, Pt.locs, Pt.cells, Pt.slots] at X22 l22 y22 z22' st22 hQ22
  subst l22 y22 z22'
  obtain ⟨rfl, N22q, e22⟩ := hQ22
  have N22 := Fr.app N18 N22q
  refine own_by st22 ?_
  show own_Go p e below _ (T22.setTop (mkF m 104 #[.val (.int xa), .val (.int xb), .val (.int xc), .val (.ref b1), .val (.int v18_t0), .val (.int w20), .val (.int w21), .unset, .unset, .unset, .unset] [(.int (own_min (8 : Int32) (w20 + w21)))]))
  refine own_by (fun _ => XS.istore X22.here hx rfl (hb hby at_104) rfl (l' := #[.val (.int xa), .val (.int xb), .val (.int xc), .val (.ref b1), .val (.int v18_t0), .val (.int w20), .val (.int w21), .val (.int (own_min (8 : Int32) (w20 + w21))), .unset, .unset, .unset]) rfl) ?_
  show own_Go p e below _ (T22.setTop (mkF m 106 #[.val (.int xa), .val (.int xb), .val (.int xc), .val (.ref b1), .val (.int v18_t0), .val (.int w20), .val (.int w21), .val (.int (own_min (8 : Int32) (w20 + w21))), .unset, .unset, .unset] []))
  obtain ⟨w23, hw23⟩ : ∃ z : Int32, z = (own_min (8 : Int32) (w20 + w21)) := ⟨_, rfl⟩
  rw [← hw23]
  show own_Go p e below _ (T22.setTop (mkF m 106 #[.val (.int xa), .val (.int xb), .val (.int xc), .val (.ref b1), .val (.int v18_t0), .val (.int w20), .val (.int w21), .val (.int w23), .unset, .unset, .unset] []))
  refine own_by (fun _ => XS.iload X22.here hx rfl (hb hby at_106) rfl) ?_
  show own_Go p e below _ (T22.setTop (mkF m 108 #[.val (.int xa), .val (.int xb), .val (.int xc), .val (.ref b1), .val (.int v18_t0), .val (.int w20), .val (.int w21), .val (.int w23), .unset, .unset, .unset] [(.int w20)]))
  refine own_by (fun _ => XS.istore X22.here hx rfl (hb hby at_108) rfl (l' := #[.val (.int xa), .val (.int xb), .val (.int xc), .val (.ref b1), .val (.int v18_t0), .val (.int w20), .val (.int w21), .val (.int w23), .val (.int w20), .unset, .unset]) rfl) ?_
  show own_Go p e below _ (T22.setTop (mkF m 110 #[.val (.int xa), .val (.int xb), .val (.int xc), .val (.ref b1), .val (.int v18_t0), .val (.int w20), .val (.int w21), .val (.int w23), .val (.int w20), .unset, .unset] []))
  refine own_by (fun _ => XS.aloadN X22.here hx rfl (hb hby at_110) rfl rfl) ?_
  show own_Go p e below _ (T22.setTop (mkF m 111 #[.val (.int xa), .val (.int xb), .val (.int xc), .val (.ref b1), .val (.int v18_t0), .val (.int w20), .val (.int w21), .val (.int w23), .val (.int w20), .unset, .unset] [(.ref b1)]))
  refine own_by (fun _ => XS.iload X22.here hx rfl (hb hby at_111) rfl) ?_
  show own_Go p e below _ (T22.setTop (mkF m 113 #[.val (.int xa), .val (.int xb), .val (.int xc), .val (.ref b1), .val (.int v18_t0), .val (.int w20), .val (.int w21), .val (.int w23), .val (.int w20), .unset, .unset] [(.int w20), (.ref b1)]))
  refine own_by (fun _ => XS.iload X22.here hx rfl (hb hby at_113) rfl) ?_
  show own_Go p e below _ (T22.setTop (mkF m 115 #[.val (.int xa), .val (.int xb), .val (.int xc), .val (.ref b1), .val (.int v18_t0), .val (.int w20), .val (.int w21), .val (.int w23), .val (.int w20), .unset, .unset] [(.int w23), (.int w20), (.ref b1)]))
  refine own_by (fun _ => XS.iload X22.here hx rfl (hb hby at_115) rfl) ?_
  show own_Go p e below _ (T22.setTop (mkF m 117 #[.val (.int xa), .val (.int xb), .val (.int xc), .val (.ref b1), .val (.int v18_t0), .val (.int w20), .val (.int w21), .val (.int w23), .val (.int w20), .unset, .unset] [(.int v18_t0), (.int w23), (.int w20), (.ref b1)]))
  obtain ⟨_, _, ⟨T24, L24, k24, n24⟩, -, X24, ⟨Lc24, hQ24, l24, y24, z24'⟩, st24⟩ := Jvm.LawKit.callS X22 hx (y := (⟨"com/example/bucketsplit/bucketsplit/core/Utf8FirstIllFormedPinLaw", "adv", "([BIIZ)I"⟩ : MethodName)) hown (mvT hZ (hw _ (List.mem_of_getElem? (i := 5) rfl))) (mvT hZ (hw _ (List.mem_of_getElem? (i := 6) rfl))) (mvT hZ (hw _ (List.mem_of_getElem? (i := 7) rfl))) (mvT hZ (hw _ (List.mem_of_getElem? (i := 8) rfl))) (by decide) (backOf (W := 0) (own_rm2 l Z a0 hw [] b1 w20 w23 v18_t0 k1 bl h17 n0 z17 fbl ((own_hto hw23) : ¬ ((8 : Int32) < w23))) hZ (hw _ (List.mem_of_getElem? (i := 8) rfl)) (hw _ (List.mem_of_getElem? (i := 7) rfl)) (by decide) (by decide)) (g := (mkF m 117 #[.val (.int xa), .val (.int xb), .val (.int xc), .val (.ref b1), .val (.int v18_t0), .val (.int w20), .val (.int w21), .val (.int w23), .val (.int w20), .unset, .unset] [(.int v18_t0), (.int w23), (.int w20), (.ref b1)])) rfl (by rw [hml]; rfl) (argsL := [(.ref b1), (.int w20), (.int w23), (.int v18_t0)]) (rest := []) (lenOf own_pd0 rfl) rfl (by show 2 * 0 + _ ≤ _; exact Nat.le_of_eq rfl) (hb hby at_117) (fun _ _ => ⟨rfl, e22, (by decide : 1 + 0 ≤ _), (by decide : 8 + 0 ≤ _)⟩)
  dsimp only [Pt.U, Pt.locs, Pt.cells, Pt.slots] at X24 l24 y24 z24' st24 hQ24
  subst l24 y24 z24'
  obtain ⟨rfl, N24q, e24⟩ := hQ24
  have N24 := Fr.app N22 N24q
  refine own_by st24 ?_
  show own_Go p e below _ (T24.setTop (mkF m 120 #[.val (.int xa), .val (.int xb), .val (.int xc), .val (.ref b1), .val (.int v18_t0), .val (.int w20), .val (.int w21), .val (.int w23), .val (.int w20), .unset, .unset] [(.int (own_adv w20 w23 v18_t0 bl))]))
  refine own_by (fun _ => XS.istore X24.here hx rfl (hb hby at_120) rfl (l' := #[.val (.int xa), .val (.int xb), .val (.int xc), .val (.ref b1), .val (.int v18_t0), .val (.int w20), .val (.int w21), .val (.int w23), .val (.int (own_adv w20 w23 v18_t0 bl)), .unset, .unset]) rfl) ?_
  show own_Go p e below _ (T24.setTop (mkF m 122 #[.val (.int xa), .val (.int xb), .val (.int xc), .val (.ref b1), .val (.int v18_t0), .val (.int w20), .val (.int w21), .val (.int w23), .val (.int (own_adv w20 w23 v18_t0 bl)), .unset, .unset] []))
  obtain ⟨w25, hw25⟩ : ∃ z : Int32, z = (own_adv w20 w23 v18_t0 bl) := ⟨_, rfl⟩
  rw [← hw25]
  show own_Go p e below _ (T24.setTop (mkF m 122 #[.val (.int xa), .val (.int xb), .val (.int xc), .val (.ref b1), .val (.int v18_t0), .val (.int w20), .val (.int w21), .val (.int w23), .val (.int w25), .unset, .unset] []))
  refine own_by (fun _ => XS.aloadN X24.here hx rfl (hb hby at_122) rfl rfl) ?_
  show own_Go p e below _ (T24.setTop (mkF m 123 #[.val (.int xa), .val (.int xb), .val (.int xc), .val (.ref b1), .val (.int v18_t0), .val (.int w20), .val (.int w21), .val (.int w23), .val (.int w25), .unset, .unset] [(.ref b1)]))
  refine own_by (fun _ => XS.iload X24.here hx rfl (hb hby at_123) rfl) ?_
  show own_Go p e below _ (T24.setTop (mkF m 125 #[.val (.int xa), .val (.int xb), .val (.int xc), .val (.ref b1), .val (.int v18_t0), .val (.int w20), .val (.int w21), .val (.int w23), .val (.int w25), .unset, .unset] [(.int w25), (.ref b1)]))
  refine own_by (fun _ => XS.iload X24.here hx rfl (hb hby at_125) rfl) ?_
  show own_Go p e below _ (T24.setTop (mkF m 127 #[.val (.int xa), .val (.int xb), .val (.int xc), .val (.ref b1), .val (.int v18_t0), .val (.int w20), .val (.int w21), .val (.int w23), .val (.int w25), .unset, .unset] [(.int w23), (.int w25), (.ref b1)]))
  refine own_by (fun _ => XS.iload X24.here hx rfl (hb hby at_127) rfl) ?_
  show own_Go p e below _ (T24.setTop (mkF m 129 #[.val (.int xa), .val (.int xb), .val (.int xc), .val (.ref b1), .val (.int v18_t0), .val (.int w20), .val (.int w21), .val (.int w23), .val (.int w25), .unset, .unset] [(.int v18_t0), (.int w23), (.int w25), (.ref b1)]))
  obtain ⟨_, _, ⟨T26, L26, k26, n26⟩, -, X26, ⟨Lc26, hQ26, l26, y26, z26'⟩, st26⟩ := Jvm.LawKit.callS X24 hx (y := (⟨"com/example/bucketsplit/bucketsplit/core/Utf8FirstIllFormedPinLaw", "adv", "([BIIZ)I"⟩ : MethodName)) hown (mvT hZ (hw _ (List.mem_of_getElem? (i := 5) rfl))) (mvT hZ (hw _ (List.mem_of_getElem? (i := 6) rfl))) (mvT hZ (hw _ (List.mem_of_getElem? (i := 7) rfl))) (mvT hZ (hw _ (List.mem_of_getElem? (i := 8) rfl))) (by decide) (backOf (W := 0) (own_rm2 l Z a0 hw [] b1 w25 w23 v18_t0 k1 bl h17 n0 z17 fbl ((own_hto hw23) : ¬ ((8 : Int32) < w23))) hZ (hw _ (List.mem_of_getElem? (i := 8) rfl)) (hw _ (List.mem_of_getElem? (i := 7) rfl)) (by decide) (by decide)) (g := (mkF m 129 #[.val (.int xa), .val (.int xb), .val (.int xc), .val (.ref b1), .val (.int v18_t0), .val (.int w20), .val (.int w21), .val (.int w23), .val (.int w25), .unset, .unset] [(.int v18_t0), (.int w23), (.int w25), (.ref b1)])) rfl (by rw [hml]; rfl) (argsL := [(.ref b1), (.int w25), (.int w23), (.int v18_t0)]) (rest := []) (lenOf own_pd0 rfl) rfl (by show 2 * 0 + _ ≤ _; exact Nat.le_of_eq rfl) (hb hby at_129) (fun _ _ => ⟨rfl, e24, (by decide : 1 + 0 ≤ _), (by decide : 8 + 0 ≤ _)⟩)
  dsimp only [Pt.U, Pt.locs, Pt.cells, Pt.slots] at X26 l26 y26 z26' st26 hQ26
  subst l26 y26 z26'
  obtain ⟨rfl, N26q, e26⟩ := hQ26
  have N26 := Fr.app N24 N26q
  refine own_by st26 ?_
  show own_Go p e below _ (T26.setTop (mkF m 132 #[.val (.int xa), .val (.int xb), .val (.int xc), .val (.ref b1), .val (.int v18_t0), .val (.int w20), .val (.int w21), .val (.int w23), .val (.int w25), .unset, .unset] [(.int (own_adv w25 w23 v18_t0 bl))]))
  refine own_by (fun _ => XS.istore X26.here hx rfl (hb hby at_132) rfl (l' := #[.val (.int xa), .val (.int xb), .val (.int xc), .val (.ref b1), .val (.int v18_t0), .val (.int w20), .val (.int w21), .val (.int w23), .val (.int (own_adv w25 w23 v18_t0 bl)), .unset, .unset]) rfl) ?_
  show own_Go p e below _ (T26.setTop (mkF m 134 #[.val (.int xa), .val (.int xb), .val (.int xc), .val (.ref b1), .val (.int v18_t0), .val (.int w20), .val (.int w21), .val (.int w23), .val (.int (own_adv w25 w23 v18_t0 bl)), .unset, .unset] []))
  obtain ⟨w27, hw27⟩ : ∃ z : Int32, z = (own_adv w25 w23 v18_t0 bl) := ⟨_, rfl⟩
  rw [← hw27]
  show own_Go p e below _ (T26.setTop (mkF m 134 #[.val (.int xa), .val (.int xb), .val (.int xc), .val (.ref b1), .val (.int v18_t0), .val (.int w20), .val (.int w21), .val (.int w23), .val (.int w27), .unset, .unset] []))
  refine own_by (fun _ => XS.aloadN X26.here hx rfl (hb hby at_134) rfl rfl) ?_
  show own_Go p e below _ (T26.setTop (mkF m 135 #[.val (.int xa), .val (.int xb), .val (.int xc), .val (.ref b1), .val (.int v18_t0), .val (.int w20), .val (.int w21), .val (.int w23), .val (.int w27), .unset, .unset] [(.ref b1)]))
  refine own_by (fun _ => XS.iload X26.here hx rfl (hb hby at_135) rfl) ?_
  show own_Go p e below _ (T26.setTop (mkF m 137 #[.val (.int xa), .val (.int xb), .val (.int xc), .val (.ref b1), .val (.int v18_t0), .val (.int w20), .val (.int w21), .val (.int w23), .val (.int w27), .unset, .unset] [(.int w27), (.ref b1)]))
  refine own_by (fun _ => XS.iload X26.here hx rfl (hb hby at_137) rfl) ?_
  show own_Go p e below _ (T26.setTop (mkF m 139 #[.val (.int xa), .val (.int xb), .val (.int xc), .val (.ref b1), .val (.int v18_t0), .val (.int w20), .val (.int w21), .val (.int w23), .val (.int w27), .unset, .unset] [(.int w23), (.int w27), (.ref b1)]))
  refine own_by (fun _ => XS.iload X26.here hx rfl (hb hby at_139) rfl) ?_
  show own_Go p e below _ (T26.setTop (mkF m 141 #[.val (.int xa), .val (.int xb), .val (.int xc), .val (.ref b1), .val (.int v18_t0), .val (.int w20), .val (.int w21), .val (.int w23), .val (.int w27), .unset, .unset] [(.int v18_t0), (.int w23), (.int w27), (.ref b1)]))
  obtain ⟨_, _, ⟨T28, L28, k28, n28⟩, -, X28, ⟨Lc28, hQ28, l28, y28, z28'⟩, st28⟩ := Jvm.LawKit.callS X26 hx (y := (⟨"com/example/bucketsplit/bucketsplit/core/Utf8FirstIllFormedPinLaw", "adv", "([BIIZ)I"⟩ : MethodName)) hown (mvT hZ (hw _ (List.mem_of_getElem? (i := 5) rfl))) (mvT hZ (hw _ (List.mem_of_getElem? (i := 6) rfl))) (mvT hZ (hw _ (List.mem_of_getElem? (i := 7) rfl))) (mvT hZ (hw _ (List.mem_of_getElem? (i := 8) rfl))) (by decide) (backOf (W := 0) (own_rm2 l Z a0 hw [] b1 w27 w23 v18_t0 k1 bl h17 n0 z17 fbl ((own_hto hw23) : ¬ ((8 : Int32) < w23))) hZ (hw _ (List.mem_of_getElem? (i := 8) rfl)) (hw _ (List.mem_of_getElem? (i := 7) rfl)) (by decide) (by decide)) (g := (mkF m 141 #[.val (.int xa), .val (.int xb), .val (.int xc), .val (.ref b1), .val (.int v18_t0), .val (.int w20), .val (.int w21), .val (.int w23), .val (.int w27), .unset, .unset] [(.int v18_t0), (.int w23), (.int w27), (.ref b1)])) rfl (by rw [hml]; rfl) (argsL := [(.ref b1), (.int w27), (.int w23), (.int v18_t0)]) (rest := []) (lenOf own_pd0 rfl) rfl (by show 2 * 0 + _ ≤ _; exact Nat.le_of_eq rfl) (hb hby at_141) (fun _ _ => ⟨rfl, e26, (by decide : 1 + 0 ≤ _), (by decide : 8 + 0 ≤ _)⟩)
  dsimp only [Pt.U, Pt.locs, Pt.cells, Pt.slots] at X28 l28 y28 z28' st28 hQ28
  subst l28 y28 z28'
  obtain ⟨rfl, N28q, e28⟩ := hQ28
  have N28 := Fr.app N26 N28q
  refine own_by st28 ?_
  show own_Go p e below _ (T28.setTop (mkF m 144 #[.val (.int xa), .val (.int xb), .val (.int xc), .val (.ref b1), .val (.int v18_t0), .val (.int w20), .val (.int w21), .val (.int w23), .val (.int w27), .unset, .unset] [(.int (own_adv w27 w23 v18_t0 bl))]))
  refine own_by (fun _ => XS.istore X28.here hx rfl (hb hby at_144) rfl (l' := #[.val (.int xa), .val (.int xb), .val (.int xc), .val (.ref b1), .val (.int v18_t0), .val (.int w20), .val (.int w21), .val (.int w23), .val (.int (own_adv w27 w23 v18_t0 bl)), .unset, .unset]) rfl) ?_
  show own_Go p e below _ (T28.setTop (mkF m 146 #[.val (.int xa), .val (.int xb), .val (.int xc), .val (.ref b1), .val (.int v18_t0), .val (.int w20), .val (.int w21), .val (.int w23), .val (.int (own_adv w27 w23 v18_t0 bl)), .unset, .unset] []))
  obtain ⟨w29, hw29⟩ : ∃ z : Int32, z = (own_adv w27 w23 v18_t0 bl) := ⟨_, rfl⟩
  rw [← hw29]
  show own_Go p e below _ (T28.setTop (mkF m 146 #[.val (.int xa), .val (.int xb), .val (.int xc), .val (.ref b1), .val (.int v18_t0), .val (.int w20), .val (.int w21), .val (.int w23), .val (.int w29), .unset, .unset] []))
  refine own_by (fun _ => XS.aloadN X28.here hx rfl (hb hby at_146) rfl rfl) ?_
  show own_Go p e below _ (T28.setTop (mkF m 147 #[.val (.int xa), .val (.int xb), .val (.int xc), .val (.ref b1), .val (.int v18_t0), .val (.int w20), .val (.int w21), .val (.int w23), .val (.int w29), .unset, .unset] [(.ref b1)]))
  refine own_by (fun _ => XS.iload X28.here hx rfl (hb hby at_147) rfl) ?_
  show own_Go p e below _ (T28.setTop (mkF m 149 #[.val (.int xa), .val (.int xb), .val (.int xc), .val (.ref b1), .val (.int v18_t0), .val (.int w20), .val (.int w21), .val (.int w23), .val (.int w29), .unset, .unset] [(.int w29), (.ref b1)]))
  refine own_by (fun _ => XS.iload X28.here hx rfl (hb hby at_149) rfl) ?_
  show own_Go p e below _ (T28.setTop (mkF m 151 #[.val (.int xa), .val (.int xb), .val (.int xc), .val (.ref b1), .val (.int v18_t0), .val (.int w20), .val (.int w21), .val (.int w23), .val (.int w29), .unset, .unset] [(.int w23), (.int w29), (.ref b1)]))
  refine own_by (fun _ => XS.iload X28.here hx rfl (hb hby at_151) rfl) ?_
  show own_Go p e below _ (T28.setTop (mkF m 153 #[.val (.int xa), .val (.int xb), .val (.int xc), .val (.ref b1), .val (.int v18_t0), .val (.int w20), .val (.int w21), .val (.int w23), .val (.int w29), .unset, .unset] [(.int v18_t0), (.int w23), (.int w29), (.ref b1)]))
  obtain ⟨_, _, ⟨T30, L30, k30, n30⟩, -, X30, ⟨Lc30, hQ30, l30, y30, z30'⟩, st30⟩ := Jvm.LawKit.callS X28 hx (y := (⟨"com/example/bucketsplit/bucketsplit/core/Utf8FirstIllFormedPinLaw", "adv", "([BIIZ)I"⟩ : MethodName)) hown (mvT hZ (hw _ (List.mem_of_getElem? (i := 5) rfl))) (mvT hZ (hw _ (List.mem_of_getElem? (i := 6) rfl))) (mvT hZ (hw _ (List.mem_of_getElem? (i := 7) rfl))) (mvT hZ (hw _ (List.mem_of_getElem? (i := 8) rfl))) (by decide) (backOf (W := 0) (own_rm2 l Z a0 hw [] b1 w29 w23 v18_t0 k1 bl h17 n0 z17 fbl ((own_hto hw23) : ¬ ((8 : Int32) < w23))) hZ (hw _ (List.mem_of_getElem? (i := 8) rfl)) (hw _ (List.mem_of_getElem? (i := 7) rfl)) (by decide) (by decide)) (g := (mkF m 153 #[.val (.int xa), .val (.int xb), .val (.int xc), .val (.ref b1), .val (.int v18_t0), .val (.int w20), .val (.int w21), .val (.int w23), .val (.int w29), .unset, .unset] [(.int v18_t0), (.int w23), (.int w29), (.ref b1)])) rfl (by rw [hml]; rfl) (argsL := [(.ref b1), (.int w29), (.int w23), (.int v18_t0)]) (rest := []) (lenOf own_pd0 rfl) rfl (by show 2 * 0 + _ ≤ _; exact Nat.le_of_eq rfl) (hb hby at_153) (fun _ _ => ⟨rfl, e28, (by decide : 1 + 0 ≤ _), (by decide : 8 + 0 ≤ _)⟩)
  dsimp only [Pt.U, Pt.locs, Pt.cells, Pt.slots] at X30 l30 y30 z30' st30 hQ30
  subst l30 y30 z30'
  obtain ⟨rfl, N30q, e30⟩ := hQ30
  have N30 := Fr.app N28 N30q
  refine own_by st30 ?_
  show own_Go p e below _ (T30.setTop (mkF m 156 #[.val (.int xa), .val (.int xb), .val (.int xc), .val (.ref b1), .val (.int v18_t0), .val (.int w20), .val (.int w21), .val (.int w23), .val (.int w29), .unset, .unset] [(.int (own_adv w29 w23 v18_t0 bl))]))
  refine own_by (fun _ => XS.istore X30.here hx rfl (hb hby at_156) rfl (l' := #[.val (.int xa), .val (.int xb), .val (.int xc), .val (.ref b1), .val (.int v18_t0), .val (.int w20), .val (.int w21), .val (.int w23), .val (.int (own_adv w29 w23 v18_t0 bl)), .unset, .unset]) rfl) ?_
  show own_Go p e below _ (T30.setTop (mkF m 158 #[.val (.int xa), .val (.int xb), .val (.int xc), .val (.ref b1), .val (.int v18_t0), .val (.int w20), .val (.int w21), .val (.int w23), .val (.int (own_adv w29 w23 v18_t0 bl)), .unset, .unset] []))
  obtain ⟨w31, hw31⟩ : ∃ z : Int32, z = (own_adv w29 w23 v18_t0 bl) := ⟨_, rfl⟩
  rw [← hw31]
  show own_Go p e below _ (T30.setTop (mkF m 158 #[.val (.int xa), .val (.int xb), .val (.int xc), .val (.ref b1), .val (.int v18_t0), .val (.int w20), .val (.int w21), .val (.int w23), .val (.int w31), .unset, .unset] []))
  refine own_by (fun _ => XS.aloadN X30.here hx rfl (hb hby at_158) rfl rfl) ?_
  show own_Go p e below _ (T30.setTop (mkF m 159 #[.val (.int xa), .val (.int xb), .val (.int xc), .val (.ref b1), .val (.int v18_t0), .val (.int w20), .val (.int w21), .val (.int w23), .val (.int w31), .unset, .unset] [(.ref b1)]))
  refine own_by (fun _ => XS.iload X30.here hx rfl (hb hby at_159) rfl) ?_
  show own_Go p e below _ (T30.setTop (mkF m 161 #[.val (.int xa), .val (.int xb), .val (.int xc), .val (.ref b1), .val (.int v18_t0), .val (.int w20), .val (.int w21), .val (.int w23), .val (.int w31), .unset, .unset] [(.int w31), (.ref b1)]))
  refine own_by (fun _ => XS.iload X30.here hx rfl (hb hby at_161) rfl) ?_
  show own_Go p e below _ (T30.setTop (mkF m 163 #[.val (.int xa), .val (.int xb), .val (.int xc), .val (.ref b1), .val (.int v18_t0), .val (.int w20), .val (.int w21), .val (.int w23), .val (.int w31), .unset, .unset] [(.int w23), (.int w31), (.ref b1)]))
  refine own_by (fun _ => XS.iload X30.here hx rfl (hb hby at_163) rfl) ?_
  show own_Go p e below _ (T30.setTop (mkF m 165 #[.val (.int xa), .val (.int xb), .val (.int xc), .val (.ref b1), .val (.int v18_t0), .val (.int w20), .val (.int w21), .val (.int w23), .val (.int w31), .unset, .unset] [(.int v18_t0), (.int w23), (.int w31), (.ref b1)]))
  obtain ⟨_, _, ⟨T32, L32, k32, n32⟩, -, X32, ⟨Lc32, hQ32, l32, y32, z32'⟩, st32⟩ := Jvm.LawKit.callS X30 hx (y := (⟨"com/example/bucketsplit/bucketsplit/core/Utf8FirstIllFormedPinLaw", "adv", "([BIIZ)I"⟩ : MethodName)) hown (mvT hZ (hw _ (List.mem_of_getElem? (i := 5) rfl))) (mvT hZ (hw _ (List.mem_of_getElem? (i := 6) rfl))) (mvT hZ (hw _ (List.mem_of_getElem? (i := 7) rfl))) (mvT hZ (hw _ (List.mem_of_getElem? (i := 8) rfl))) (by decide) (backOf (W := 0) (own_rm2 l Z a0 hw [] b1 w31 w23 v18_t0 k1 bl h17 n0 z17 fbl ((own_hto hw23) : ¬ ((8 : Int32) < w23))) hZ (hw _ (List.mem_of_getElem? (i := 8) rfl)) (hw _ (List.mem_of_getElem? (i := 7) rfl)) (by decide) (by decide)) (g := (mkF m 165 #[.val (.int xa), .val (.int xb), .val (.int xc), .val (.ref b1), .val (.int v18_t0), .val (.int w20), .val (.int w21), .val (.int w23), .val (.int w31), .unset, .unset] [(.int v18_t0), (.int w23), (.int w31), (.ref b1)])) rfl (by rw [hml]; rfl) (argsL := [(.ref b1), (.int w31), (.int w23), (.int v18_t0)]) (rest := []) (lenOf own_pd0 rfl) rfl (by show 2 * 0 + _ ≤ _; exact Nat.le_of_eq rfl) (hb hby at_165) (fun _ _ => ⟨rfl, e30, (by decide : 1 + 0 ≤ _), (by decide : 8 + 0 ≤ _)⟩)
  dsimp only [Pt.U, Pt.locs, Pt.cells, Pt.slots] at X32 l32 y32 z32' st32 hQ32
  subst l32 y32 z32'
  obtain ⟨rfl, N32q, e32⟩ := hQ32
  have N32 := Fr.app N30 N32q
  refine own_by st32 ?_
  show own_Go p e below _ (T32.setTop (mkF m 168 #[.val (.int xa), .val (.int xb), .val (.int xc), .val (.ref b1), .val (.int v18_t0), .val (.int w20), .val (.int w21), .val (.int w23), .val (.int w31), .unset, .unset] [(.int (own_adv w31 w23 v18_t0 bl))]))
  refine own_by (fun _ => XS.istore X32.here hx rfl (hb hby at_168) rfl (l' := #[.val (.int xa), .val (.int xb), .val (.int xc), .val (.ref b1), .val (.int v18_t0), .val (.int w20), .val (.int w21), .val (.int w23), .val (.int (own_adv w31 w23 v18_t0 bl)), .unset, .unset]) rfl) ?_
  show own_Go p e below _ (T32.setTop (mkF m 170 #[.val (.int xa), .val (.int xb), .val (.int xc), .val (.ref b1), .val (.int v18_t0), .val (.int w20), .val (.int w21), .val (.int w23), .val (.int (own_adv w31 w23 v18_t0 bl)), .unset, .unset] []))
  obtain ⟨w33, hw33⟩ : ∃ z : Int32, z = (own_adv w31 w23 v18_t0 bl) := ⟨_, rfl⟩
  rw [← hw33]
  show own_Go p e below _ (T32.setTop (mkF m 170 #[.val (.int xa), .val (.int xb), .val (.int xc), .val (.ref b1), .val (.int v18_t0), .val (.int w20), .val (.int w21), .val (.int w23), .val (.int w33), .unset, .unset] []))
  refine own_by (fun _ => XS.aloadN X32.here hx rfl (hb hby at_170) rfl rfl) ?_
  show own_Go p e below _ (T32.setTop (mkF m 171 #[.val (.int xa), .val (.int xb), .val (.int xc), .val (.ref b1), .val (.int v18_t0), .val (.int w20), .val (.int w21), .val (.int w23), .val (.int w33), .unset, .unset] [(.ref b1)]))
  refine own_by (fun _ => XS.iload X32.here hx rfl (hb hby at_171) rfl) ?_
  show own_Go p e below _ (T32.setTop (mkF m 173 #[.val (.int xa), .val (.int xb), .val (.int xc), .val (.ref b1), .val (.int v18_t0), .val (.int w20), .val (.int w21), .val (.int w23), .val (.int w33), .unset, .unset] [(.int w33), (.ref b1)]))
  refine own_by (fun _ => XS.iload X32.here hx rfl (hb hby at_173) rfl) ?_
  show own_Go p e below _ (T32.setTop (mkF m 175 #[.val (.int xa), .val (.int xb), .val (.int xc), .val (.ref b1), .val (.int v18_t0), .val (.int w20), .val (.int w21), .val (.int w23), .val (.int w33), .unset, .unset] [(.int w23), (.int w33), (.ref b1)]))
  refine own_by (fun _ => XS.iload X32.here hx rfl (hb hby at_175) rfl) ?_
  show own_Go p e below _ (T32.setTop (mkF m 177 #[.val (.int xa), .val (.int xb), .val (.int xc), .val (.ref b1), .val (.int v18_t0), .val (.int w20), .val (.int w21), .val (.int w23), .val (.int w33), .unset, .unset] [(.int v18_t0), (.int w23), (.int w33), (.ref b1)]))
  obtain ⟨_, _, ⟨T34, L34, k34, n34⟩, -, X34, ⟨Lc34, hQ34, l34, y34, z34'⟩, st34⟩ := Jvm.LawKit.callS X32 hx (y := (⟨"com/example/bucketsplit/bucketsplit/core/Utf8FirstIllFormedPinLaw", "adv", "([BIIZ)I"⟩ : MethodName)) hown (mvT hZ (hw _ (List.mem_of_getElem? (i := 5) rfl))) (mvT hZ (hw _ (List.mem_of_getElem? (i := 6) rfl))) (mvT hZ (hw _ (List.mem_of_getElem? (i := 7) rfl))) (mvT hZ (hw _ (List.mem_of_getElem? (i := 8) rfl))) (by decide) (backOf (W := 0) (own_rm2 l Z a0 hw [] b1 w33 w23 v18_t0 k1 bl h17 n0 z17 fbl ((own_hto hw23) : ¬ ((8 : Int32) < w23))) hZ (hw _ (List.mem_of_getElem? (i := 8) rfl)) (hw _ (List.mem_of_getElem? (i := 7) rfl)) (by decide) (by decide)) (g := (mkF m 177 #[.val (.int xa), .val (.int xb), .val (.int xc), .val (.ref b1), .val (.int v18_t0), .val (.int w20), .val (.int w21), .val (.int w23), .val (.int w33), .unset, .unset] [(.int v18_t0), (.int w23), (.int w33), (.ref b1)])) rfl (by rw [hml]; rfl) (argsL := [(.ref b1), (.int w33), (.int w23), (.int v18_t0)]) (rest := []) (lenOf own_pd0 rfl) rfl (by show 2 * 0 + _ ≤ _; exact Nat.le_of_eq rfl) (hb hby at_177) (fun _ _ => ⟨rfl, e32, (by decide : 1 + 0 ≤ _), (by decide : 8 + 0 ≤ _)⟩)
  dsimp only [Pt.U, Pt.locs, Pt.cells, Pt.slots] at X34 l34 y34 z34' st34 hQ34
  subst l34 y34 z34'
  obtain ⟨rfl, N34q, e34⟩ := hQ34
  have N34 := Fr.app N32 N34q
  refine own_by st34 ?_
  show own_Go p e below _ (T34.setTop (mkF m 180 #[.val (.int xa), .val (.int xb), .val (.int xc), .val (.ref b1), .val (.int v18_t0), .val (.int w20), .val (.int w21), .val (.int w23), .val (.int w33), .unset, .unset] [(.int (own_adv w33 w23 v18_t0 bl))]))
  refine own_by (fun _ => XS.istore X34.here hx rfl (hb hby at_180) rfl (l' := #[.val (.int xa), .val (.int xb), .val (.int xc), .val (.ref b1), .val (.int v18_t0), .val (.int w20), .val (.int w21), .val (.int w23), .val (.int (own_adv w33 w23 v18_t0 bl)), .unset, .unset]) rfl) ?_
  show own_Go p e below _ (T34.setTop (mkF m 182 #[.val (.int xa), .val (.int xb), .val (.int xc), .val (.ref b1), .val (.int v18_t0), .val (.int w20), .val (.int w21), .val (.int w23), .val (.int (own_adv w33 w23 v18_t0 bl)), .unset, .unset] []))
  obtain ⟨w35, hw35⟩ : ∃ z : Int32, z = (own_adv w33 w23 v18_t0 bl) := ⟨_, rfl⟩
  rw [← hw35]
  show own_Go p e below _ (T34.setTop (mkF m 182 #[.val (.int xa), .val (.int xb), .val (.int xc), .val (.ref b1), .val (.int v18_t0), .val (.int w20), .val (.int w21), .val (.int w23), .val (.int w35), .unset, .unset] []))
  refine own_by (fun _ => XS.aloadN X34.here hx rfl (hb hby at_182) rfl rfl) ?_
  show own_Go p e below _ (T34.setTop (mkF m 183 #[.val (.int xa), .val (.int xb), .val (.int xc), .val (.ref b1), .val (.int v18_t0), .val (.int w20), .val (.int w21), .val (.int w23), .val (.int w35), .unset, .unset] [(.ref b1)]))
  refine own_by (fun _ => XS.iload X34.here hx rfl (hb hby at_183) rfl) ?_
  show own_Go p e below _ (T34.setTop (mkF m 185 #[.val (.int xa), .val (.int xb), .val (.int xc), .val (.ref b1), .val (.int v18_t0), .val (.int w20), .val (.int w21), .val (.int w23), .val (.int w35), .unset, .unset] [(.int w35), (.ref b1)]))
  refine own_by (fun _ => XS.iload X34.here hx rfl (hb hby at_185) rfl) ?_
  show own_Go p e below _ (T34.setTop (mkF m 187 #[.val (.int xa), .val (.int xb), .val (.int xc), .val (.ref b1), .val (.int v18_t0), .val (.int w20), .val (.int w21), .val (.int w23), .val (.int w35), .unset, .unset] [(.int w23), (.int w35), (.ref b1)]))
  refine own_by (fun _ => XS.iload X34.here hx rfl (hb hby at_187) rfl) ?_
  show own_Go p e below _ (T34.setTop (mkF m 189 #[.val (.int xa), .val (.int xb), .val (.int xc), .val (.ref b1), .val (.int v18_t0), .val (.int w20), .val (.int w21), .val (.int w23), .val (.int w35), .unset, .unset] [(.int v18_t0), (.int w23), (.int w35), (.ref b1)]))
  obtain ⟨_, _, ⟨T36, L36, k36, n36⟩, -, X36, ⟨Lc36, hQ36, l36, y36, z36'⟩, st36⟩ := Jvm.LawKit.callS X34 hx (y := (⟨"com/example/bucketsplit/bucketsplit/core/Utf8FirstIllFormedPinLaw", "adv", "([BIIZ)I"⟩ : MethodName)) hown (mvT hZ (hw _ (List.mem_of_getElem? (i := 5) rfl))) (mvT hZ (hw _ (List.mem_of_getElem? (i := 6) rfl))) (mvT hZ (hw _ (List.mem_of_getElem? (i := 7) rfl))) (mvT hZ (hw _ (List.mem_of_getElem? (i := 8) rfl))) (by decide) (backOf (W := 0) (own_rm2 l Z a0 hw [] b1 w35 w23 v18_t0 k1 bl h17 n0 z17 fbl ((own_hto hw23) : ¬ ((8 : Int32) < w23))) hZ (hw _ (List.mem_of_getElem? (i := 8) rfl)) (hw _ (List.mem_of_getElem? (i := 7) rfl)) (by decide) (by decide)) (g := (mkF m 189 #[.val (.int xa), .val (.int xb), .val (.int xc), .val (.ref b1), .val (.int v18_t0), .val (.int w20), .val (.int w21), .val (.int w23), .val (.int w35), .unset, .unset] [(.int v18_t0), (.int w23), (.int w35), (.ref b1)])) rfl (by rw [hml]; rfl) (argsL := [(.ref b1), (.int w35), (.int w23), (.int v18_t0)]) (rest := []) (lenOf own_pd0 rfl) rfl (by show 2 * 0 + _ ≤ _; exact Nat.le_of_eq rfl) (hb hby at_189) (fun _ _ => ⟨rfl, e34, (by decide : 1 + 0 ≤ _), (by decide : 8 + 0 ≤ _)⟩)
  dsimp only [Pt.U, Pt.locs, Pt.cells, Pt.slots] at X36 l36 y36 z36' st36 hQ36
  subst l36 y36 z36'
  obtain ⟨rfl, N36q, e36⟩ := hQ36
  have N36 := Fr.app N34 N36q
  refine own_by st36 ?_
  show own_Go p e below _ (T36.setTop (mkF m 192 #[.val (.int xa), .val (.int xb), .val (.int xc), .val (.ref b1), .val (.int v18_t0), .val (.int w20), .val (.int w21), .val (.int w23), .val (.int w35), .unset, .unset] [(.int (own_adv w35 w23 v18_t0 bl))]))
  refine own_by (fun _ => XS.istore X36.here hx rfl (hb hby at_192) rfl (l' := #[.val (.int xa), .val (.int xb), .val (.int xc), .val (.ref b1), .val (.int v18_t0), .val (.int w20), .val (.int w21), .val (.int w23), .val (.int (own_adv w35 w23 v18_t0 bl)), .unset, .unset]) rfl) ?_
  show own_Go p e below _ (T36.setTop (mkF m 194 #[.val (.int xa), .val (.int xb), .val (.int xc), .val (.ref b1), .val (.int v18_t0), .val (.int w20), .val (.int w21), .val (.int w23), .val (.int (own_adv w35 w23 v18_t0 bl)), .unset, .unset] []))
  obtain ⟨w37, hw37⟩ : ∃ z : Int32, z = (own_adv w35 w23 v18_t0 bl) := ⟨_, rfl⟩
  rw [← hw37]
  show own_Go p e below _ (T36.setTop (mkF m 194 #[.val (.int xa), .val (.int xb), .val (.int xc), .val (.ref b1), .val (.int v18_t0), .val (.int w20), .val (.int w21), .val (.int w23), .val (.int w37), .unset, .unset] []))
  refine own_by (fun _ => XS.aloadN X36.here hx rfl (hb hby at_194) rfl rfl) ?_
  show own_Go p e below _ (T36.setTop (mkF m 195 #[.val (.int xa), .val (.int xb), .val (.int xc), .val (.ref b1), .val (.int v18_t0), .val (.int w20), .val (.int w21), .val (.int w23), .val (.int w37), .unset, .unset] [(.ref b1)]))
  refine own_by (fun _ => XS.iload X36.here hx rfl (hb hby at_195) rfl) ?_
  show own_Go p e below _ (T36.setTop (mkF m 197 #[.val (.int xa), .val (.int xb), .val (.int xc), .val (.ref b1), .val (.int v18_t0), .val (.int w20), .val (.int w21), .val (.int w23), .val (.int w37), .unset, .unset] [(.int w37), (.ref b1)]))
  refine own_by (fun _ => XS.iload X36.here hx rfl (hb hby at_197) rfl) ?_
  show own_Go p e below _ (T36.setTop (mkF m 199 #[.val (.int xa), .val (.int xb), .val (.int xc), .val (.ref b1), .val (.int v18_t0), .val (.int w20), .val (.int w21), .val (.int w23), .val (.int w37), .unset, .unset] [(.int w23), (.int w37), (.ref b1)]))
  refine own_by (fun _ => XS.iload X36.here hx rfl (hb hby at_199) rfl) ?_
  show own_Go p e below _ (T36.setTop (mkF m 201 #[.val (.int xa), .val (.int xb), .val (.int xc), .val (.ref b1), .val (.int v18_t0), .val (.int w20), .val (.int w21), .val (.int w23), .val (.int w37), .unset, .unset] [(.int v18_t0), (.int w23), (.int w37), (.ref b1)]))
  obtain ⟨_, _, ⟨T38, L38, k38, n38⟩, -, X38, ⟨Lc38, hQ38, l38, y38, z38'⟩, st38⟩ := Jvm.LawKit.callS X36 hx (y := (⟨"com/example/bucketsplit/bucketsplit/core/Utf8FirstIllFormedPinLaw", "adv", "([BIIZ)I"⟩ : MethodName)) hown (mvT hZ (hw _ (List.mem_of_getElem? (i := 5) rfl))) (mvT hZ (hw _ (List.mem_of_getElem? (i := 6) rfl))) (mvT hZ (hw _ (List.mem_of_getElem? (i := 7) rfl))) (mvT hZ (hw _ (List.mem_of_getElem? (i := 8) rfl))) (by decide) (backOf (W := 0) (own_rm2 l Z a0 hw [] b1 w37 w23 v18_t0 k1 bl h17 n0 z17 fbl ((own_hto hw23) : ¬ ((8 : Int32) < w23))) hZ (hw _ (List.mem_of_getElem? (i := 8) rfl)) (hw _ (List.mem_of_getElem? (i := 7) rfl)) (by decide) (by decide)) (g := (mkF m 201 #[.val (.int xa), .val (.int xb), .val (.int xc), .val (.ref b1), .val (.int v18_t0), .val (.int w20), .val (.int w21), .val (.int w23), .val (.int w37), .unset, .unset] [(.int v18_t0), (.int w23), (.int w37), (.ref b1)])) rfl (by rw [hml]; rfl) (argsL := [(.ref b1), (.int w37), (.int w23), (.int v18_t0)]) (rest := []) (lenOf own_pd0 rfl) rfl (by show 2 * 0 + _ ≤ _; exact Nat.le_of_eq rfl) (hb hby at_201) (fun _ _ => ⟨rfl, e36, (by decide : 1 + 0 ≤ _), (by decide : 8 + 0 ≤ _)⟩)
  dsimp only [Pt.U, Pt.locs, Pt.cells, Pt.slots] at X38 l38 y38 z38' st38 hQ38
  subst l38 y38 z38'
  obtain ⟨rfl, N38q, e38⟩ := hQ38
  have N38 := Fr.app N36 N38q
  refine own_by st38 ?_
  show own_Go p e below _ (T38.setTop (mkF m 204 #[.val (.int xa), .val (.int xb), .val (.int xc), .val (.ref b1), .val (.int v18_t0), .val (.int w20), .val (.int w21), .val (.int w23), .val (.int w37), .unset, .unset] [(.int (own_adv w37 w23 v18_t0 bl))]))
  refine own_by (fun _ => XS.istore X38.here hx rfl (hb hby at_204) rfl (l' := #[.val (.int xa), .val (.int xb), .val (.int xc), .val (.ref b1), .val (.int v18_t0), .val (.int w20), .val (.int w21), .val (.int w23), .val (.int (own_adv w37 w23 v18_t0 bl)), .unset, .unset]) rfl) ?_
  show own_Go p e below _ (T38.setTop (mkF m 206 #[.val (.int xa), .val (.int xb), .val (.int xc), .val (.ref b1), .val (.int v18_t0), .val (.int w20), .val (.int w21), .val (.int w23), .val (.int (own_adv w37 w23 v18_t0 bl)), .unset, .unset] []))
  obtain ⟨w39, hw39⟩ : ∃ z : Int32, z = (own_adv w37 w23 v18_t0 bl) := ⟨_, rfl⟩
  rw [← hw39]
  show own_Go p e below _ (T38.setTop (mkF m 206 #[.val (.int xa), .val (.int xb), .val (.int xc), .val (.ref b1), .val (.int v18_t0), .val (.int w20), .val (.int w21), .val (.int w23), .val (.int w39), .unset, .unset] []))
  refine own_by (fun _ => XS.aloadN X38.here hx rfl (hb hby at_206) rfl rfl) ?_
  show own_Go p e below _ (T38.setTop (mkF m 207 #[.val (.int xa), .val (.int xb), .val (.int xc), .val (.ref b1), .val (.int v18_t0), .val (.int w20), .val (.int w21), .val (.int w23), .val (.int w39), .unset, .unset] [(.ref b1)]))
  refine own_by (fun _ => XS.iload X38.here hx rfl (hb hby at_207) rfl) ?_
  show own_Go p e below _ (T38.setTop (mkF m 209 #[.val (.int xa), .val (.int xb), .val (.int xc), .val (.ref b1), .val (.int v18_t0), .val (.int w20), .val (.int w21), .val (.int w23), .val (.int w39), .unset, .unset] [(.int w39), (.ref b1)]))
  refine own_by (fun _ => XS.iload X38.here hx rfl (hb hby at_209) rfl) ?_
  show own_Go p e below _ (T38.setTop (mkF m 211 #[.val (.int xa), .val (.int xb), .val (.int xc), .val (.ref b1), .val (.int v18_t0), .val (.int w20), .val (.int w21), .val (.int w23), .val (.int w39), .unset, .unset] [(.int w23), (.int w39), (.ref b1)]))
  refine own_by (fun _ => XS.iload X38.here hx rfl (hb hby at_211) rfl) ?_
  show own_Go p e below _ (T38.setTop (mkF m 213 #[.val (.int xa), .val (.int xb), .val (.int xc), .val (.ref b1), .val (.int v18_t0), .val (.int w20), .val (.int w21), .val (.int w23), .val (.int w39), .unset, .unset] [(.int v18_t0), (.int w23), (.int w39), (.ref b1)]))
  obtain ⟨_, _, ⟨T40, L40, k40, n40⟩, -, X40, ⟨Lc40, hQ40, l40, y40, z40'⟩, st40⟩ := Jvm.LawKit.callS X38 hx (y := (⟨"com/example/bucketsplit/bucketsplit/core/Utf8FirstIllFormedPinLaw", "adv", "([BIIZ)I"⟩ : MethodName)) hown (mvT hZ (hw _ (List.mem_of_getElem? (i := 5) rfl))) (mvT hZ (hw _ (List.mem_of_getElem? (i := 6) rfl))) (mvT hZ (hw _ (List.mem_of_getElem? (i := 7) rfl))) (mvT hZ (hw _ (List.mem_of_getElem? (i := 8) rfl))) (by decide) (backOf (W := 0) (own_rm2 l Z a0 hw [] b1 w39 w23 v18_t0 k1 bl h17 n0 z17 fbl ((own_hto hw23) : ¬ ((8 : Int32) < w23))) hZ (hw _ (List.mem_of_getElem? (i := 8) rfl)) (hw _ (List.mem_of_getElem? (i := 7) rfl)) (by decide) (by decide)) (g := (mkF m 213 #[.val (.int xa), .val (.int xb), .val (.int xc), .val (.ref b1), .val (.int v18_t0), .val (.int w20), .val (.int w21), .val (.int w23), .val (.int w39), .unset, .unset] [(.int v18_t0), (.int w23), (.int w39), (.ref b1)])) rfl (by rw [hml]; rfl) (argsL := [(.ref b1), (.int w39), (.int w23), (.int v18_t0)]) (rest := []) (lenOf own_pd0 rfl) rfl (by show 2 * 0 + _ ≤ _; exact Nat.le_of_eq rfl) (hb hby at_213) (fun _ _ => ⟨rfl, e38, (by decide : 1 + 0 ≤ _), (by decide : 8 + 0 ≤ _)⟩)
  dsimp only [Pt.U, Pt.locs, Pt.cells, Pt.slots] at X40 l40 y40 z40' st40 hQ40
  subst l40 y40 z40'
  obtain ⟨rfl, N40q, e40⟩ := hQ40
  have N40 := Fr.app N38 N40q
  refine own_by st40 ?_
  show own_Go p e below _ (T40.setTop (mkF m 216 #[.val (.int xa), .val (.int xb), .val (.int xc), .val (.ref b1), .val (.int v18_t0), .val (.int w20), .val (.int w21), .val (.int w23), .val (.int w39), .unset, .unset] [(.int (own_adv w39 w23 v18_t0 bl))]))
  refine own_by (fun _ => XS.istore X40.here hx rfl (hb hby at_216) rfl (l' := #[.val (.int xa), .val (.int xb), .val (.int xc), .val (.ref b1), .val (.int v18_t0), .val (.int w20), .val (.int w21), .val (.int w23), .val (.int (own_adv w39 w23 v18_t0 bl)), .unset, .unset]) rfl) ?_
  show own_Go p e below _ (T40.setTop (mkF m 218 #[.val (.int xa), .val (.int xb), .val (.int xc), .val (.ref b1), .val (.int v18_t0), .val (.int w20), .val (.int w21), .val (.int w23), .val (.int (own_adv w39 w23 v18_t0 bl)), .unset, .unset] []))
  obtain ⟨w41, hw41⟩ : ∃ z : Int32, z = (own_adv w39 w23 v18_t0 bl) := ⟨_, rfl⟩
  rw [← hw41]
  show own_Go p e below _ (T40.setTop (mkF m 218 #[.val (.int xa), .val (.int xb), .val (.int xc), .val (.ref b1), .val (.int v18_t0), .val (.int w20), .val (.int w21), .val (.int w23), .val (.int w41), .unset, .unset] []))
  refine own_by (fun _ => XS.iload X40.here hx rfl (hb hby at_218) rfl) ?_
  show own_Go p e below _ (T40.setTop (mkF m 220 #[.val (.int xa), .val (.int xb), .val (.int xc), .val (.ref b1), .val (.int v18_t0), .val (.int w20), .val (.int w21), .val (.int w23), .val (.int w41), .unset, .unset] [(.int w41)]))
  refine own_by (fun _ => XS.bipush X40.here hx rfl (hb hby at_220)) ?_
  show own_Go p e below _ (T40.setTop (mkF m 222 #[.val (.int xa), .val (.int xb), .val (.int xc), .val (.ref b1), .val (.int v18_t0), .val (.int w20), .val (.int w21), .val (.int w23), .val (.int w41), .unset, .unset] [(.int (-2 : Int32)), (.int w41)]))
  suffices J42 : ∀ (T' : State) (v42_t0 : Int32), v42_t0 = (if (-2 : Int32) < w41 then (-1 : Int32) else ((-2 : Int32) - w41)) → own_At p l e room_1 s m #[(.int xa), (.int xb), (.int xc)] below meth c n0 T' h17 1 8 → own_Go p e below (own_End s below (own_Q0 Z xa xb xc h0 n0) room_1.cells room_1.slots) (T'.setTop (mkF m 234 #[.val (.int xa), .val (.int xb), .val (.int xc), .val (.ref b1), .val (.int v18_t0), .val (.int w20), .val (.int w21), .val (.int w23), .val (.int w41), .unset, .unset] [(.int v42_t0)])) by
    by_cases hc222_43 : (-2 : Int32) < w41
    ·
      skip
      refine own_by (fun _ => XS.icmpYes X40.here hx rfl (pc0 := 222) (pc' := 233) rfl (hb hby at_222) rfl (tlt hc222_43).2.2.1 (by decide) (by decide)) ?_
      show own_Go p e below _ (T40.setTop (mkF m 233 #[.val (.int xa), .val (.int xb), .val (.int xc), .val (.ref b1), .val (.int v18_t0), .val (.int w20), .val (.int w21), .val (.int w23), .val (.int w41), .unset, .unset] []))
      refine own_by (fun _ => XS.iconst X40.here hx rfl (hb hby at_233)) ?_
      show own_Go p e below _ (T40.setTop (mkF m 234 #[.val (.int xa), .val (.int xb), .val (.int xc), .val (.ref b1), .val (.int v18_t0), .val (.int w20), .val (.int w21), .val (.int w23), .val (.int w41), .unset, .unset] [(.int (-1 : Int32))]))
      exact J42 _ _ (by first | with_reducible rfl | simp only [if_pos hc222_43] | rfl) ⟨_, X40, N40, e40⟩
    ·
      skip
      refine own_by (fun _ => XS.icmpNo X40.here hx rfl (hb hby at_222) rfl (flt hc222_43).2.2.1) ?_
      show own_Go p e below _ (T40.setTop (mkF m 225 #[.val (.int xa), .val (.int xb), .val (.int xc), .val (.ref b1), .val (.int v18_t0), .val (.int w20), .val (.int w21), .val (.int w23), .val (.int w41), .unset, .unset] []))
      refine own_by (fun _ => XS.bipush X40.here hx rfl (hb hby at_225)) ?_
      show own_Go p e below _ (T40.setTop (mkF m 227 #[.val (.int xa), .val (.int xb), .val (.int xc), .val (.ref b1), .val (.int v18_t0), .val (.int w20), .val (.int w21), .val (.int w23), .val (.int w41), .unset, .unset] [(.int (-2 : Int32))]))
      refine own_by (fun _ => XS.iload X40.here hx rfl (hb hby at_227) rfl) ?_
      show own_Go p e below _ (T40.setTop (mkF m 229 #[.val (.int xa), .val (.int xb), .val (.int xc), .val (.ref b1), .val (.int v18_t0), .val (.int w20), .val (.int w21), .val (.int w23), .val (.int w41), .unset, .unset] [(.int w41), (.int (-2 : Int32))]))
      refine own_by (fun _ => XS.isub X40.here hx rfl (hb hby at_229) rfl) ?_
      show own_Go p e below _ (T40.setTop (mkF m 230 #[.val (.int xa), .val (.int xb), .val (.int xc), .val (.ref b1), .val (.int v18_t0), .val (.int w20), .val (.int w21), .val (.int w23), .val (.int w41), .unset, .unset] [(.int ((-2 : Int32) - w41))]))
      refine own_by (fun _ => XS.goto X40.here hx rfl (pc0 := 230) (pc' := 234) rfl (hb hby at_230) (by decide) (by decide)) ?_
      show own_Go p e below _ (T40.setTop (mkF m 234 #[.val (.int xa), .val (.int xb), .val (.int xc), .val (.ref b1), .val (.int v18_t0), .val (.int w20), .val (.int w21), .val (.int w23), .val (.int w41), .unset, .unset] [(.int ((-2 : Int32) - w41))]))
      exact J42 _ _ (by first | with_reducible rfl | simp only [if_neg hc222_43] | rfl) ⟨_, X40, N40, e40⟩
  intro T42 v42_t0 hv42_t0 ⟨locs42, X42, N42, e42⟩
  show own_Go p e below _ (T42.setTop (mkF m 234 #[.val (.int xa), .val (.int xb), .val (.int xc), .val (.ref b1), .val (.int v18_t0), .val (.int w20), .val (.int w21), .val (.int w23), .val (.int w41), .unset, .unset] [(.int v42_t0)]))
  refine own_by (fun _ => XS.istore X42.here hx rfl (hb hby at_234) rfl (l' := #[.val (.int xa), .val (.int xb), .val (.int xc), .val (.ref b1), .val (.int v18_t0), .val (.int w20), .val (.int w21), .val (.int w23), .val (.int w41), .val (.int v42_t0), .unset]) rfl) ?_
  show own_Go p e below _ (T42.setTop (mkF m 236 #[.val (.int xa), .val (.int xb), .val (.int xc), .val (.ref b1), .val (.int v18_t0), .val (.int w20), .val (.int w21), .val (.int w23), .val (.int w41), .val (.int v42_t0), .unset] []))
  refine own_by (fun _ => XS.aloadN X42.here hx rfl (hb hby at_236) rfl rfl) ?_
  show own_Go p e below _ (T42.setTop (mkF m 237 #[.val (.int xa), .val (.int xb), .val (.int xc), .val (.ref b1), .val (.int v18_t0), .val (.int w20), .val (.int w21), .val (.int w23), .val (.int w41), .val (.int v42_t0), .unset] [(.ref b1)]))
  refine own_by (fun _ => XS.iload X42.here hx rfl (hb hby at_237) rfl) ?_
  show own_Go p e below _ (T42.setTop (mkF m 239 #[.val (.int xa), .val (.int xb), .val (.int xc), .val (.ref b1), .val (.int v18_t0), .val (.int w20), .val (.int w21), .val (.int w23), .val (.int w41), .val (.int v42_t0), .unset] [(.int w20), (.ref b1)]))
  refine own_by (fun _ => XS.iload X42.here hx rfl (hb hby at_239) rfl) ?_
  show own_Go p e below _ (T42.setTop (mkF m 241 #[.val (.int xa), .val (.int xb), .val (.int xc), .val (.ref b1), .val (.int v18_t0), .val (.int w20), .val (.int w21), .val (.int w23), .val (.int w41), .val (.int v42_t0), .unset] [(.int w23), (.int w20), (.ref b1)]))
  refine own_by (fun _ => XS.iload X42.here hx rfl (hb hby at_241) rfl) ?_
  show own_Go p e below _ (T42.setTop (mkF m 243 #[.val (.int xa), .val (.int xb), .val (.int xc), .val (.ref b1), .val (.int v18_t0), .val (.int w20), .val (.int w21), .val (.int w23), .val (.int w41), .val (.int v42_t0), .unset] [(.int v18_t0), (.int w23), (.int w20), (.ref b1)]))
  obtain ⟨_, _, ⟨T44, L44, k44, n44⟩, -, X44, ⟨Lc44, hQ44, l44, y44, z44'⟩, st44⟩ := Jvm.LawKit.callS X42 hx (y := (⟨"com/example/bucketsplit/bucketsplit/core/Utf8", "firstIllFormed", "([BIIZ)I"⟩ : MethodName)) hown (mvT hZ (hw _ (List.mem_of_getElem? (i := 12) rfl))) (mvT hZ (hw _ (List.mem_of_getElem? (i := 13) rfl))) (mvT hZ (hw _ (List.mem_of_getElem? (i := 14) rfl))) (mvT hZ (hw _ (List.mem_of_getElem? (i := 15) rfl))) (by decide) (backOf (W := 0) (own_rm4 l Z a0 hw [] b1 w20 w23 v18_t0 k1 bl h17 n0 z17 fbl ((own_hlo hw20) : ¬ (w20 < (0 : Int32))) ((own_hft hw20 hw21 hw23) : ¬ (w23 < w20)) ((own_hto hw23) : ¬ ((8 : Int32) < w23))) hZ (hw _ (List.mem_of_getElem? (i := 15) rfl)) (hw _ (List.mem_of_getElem? (i := 14) rfl)) (by decide) (by decide)) (g := (mkF m 243 #[.val (.int xa), .val (.int xb), .val (.int xc), .val (.ref b1), .val (.int v18_t0), .val (.int w20), .val (.int w21), .val (.int w23), .val (.int w41), .val (.int v42_t0), .unset] [(.int v18_t0), (.int w23), (.int w20), (.ref b1)])) rfl (by rw [hml]; rfl) (argsL := [(.ref b1), (.int w20), (.int w23), (.int v18_t0)]) (rest := []) (lenOf own_pd0 rfl) rfl (by show 2 * 0 + _ ≤ _; exact Nat.le_of_eq rfl) (hb hby at_243) (fun _ _ => ⟨rfl, e42, (by decide : 1 + 0 ≤ _), (by decide : 8 + 0 ≤ _)⟩)
  dsimp only [Pt.U, Pt.locs, Pt.cells, Pt.slots] at X44 l44 y44 z44' st44 hQ44
  subst l44 y44 z44'
  obtain ⟨rfl, N44q, e44⟩ := hQ44
  have N44 := Fr.app N42 N44q
  refine own_by st44 ?_
  show own_Go p e below _ (T44.setTop (mkF m 246 #[.val (.int xa), .val (.int xb), .val (.int xc), .val (.ref b1), .val (.int v18_t0), .val (.int w20), .val (.int w21), .val (.int w23), .val (.int w41), .val (.int v42_t0), .unset] [(.int (own_run 8 w20 w23 v18_t0 bl))]))
  refine own_by (fun _ => XS.istore X44.here hx rfl (hb hby at_246) rfl (l' := #[.val (.int xa), .val (.int xb), .val (.int xc), .val (.ref b1), .val (.int v18_t0), .val (.int w20), .val (.int w21), .val (.int w23), .val (.int w41), .val (.int v42_t0), .val (.int (own_run 8 w20 w23 v18_t0 bl))]) rfl) ?_
  show own_Go p e below _ (T44.setTop (mkF m 248 #[.val (.int xa), .val (.int xb), .val (.int xc), .val (.ref b1), .val (.int v18_t0), .val (.int w20), .val (.int w21), .val (.int w23), .val (.int w41), .val (.int v42_t0), .val (.int (own_run 8 w20 w23 v18_t0 bl))] []))
  obtain ⟨w45, hw45⟩ : ∃ z : Int32, z = (own_run 8 w20 w23 v18_t0 bl) := ⟨_, rfl⟩
  rw [← hw45]
  show own_Go p e below _ (T44.setTop (mkF m 248 #[.val (.int xa), .val (.int xb), .val (.int xc), .val (.ref b1), .val (.int v18_t0), .val (.int w20), .val (.int w21), .val (.int w23), .val (.int w41), .val (.int v42_t0), .val (.int w45)] []))
  refine own_by (fun _ => XS.iload X44.here hx rfl (hb hby at_248) rfl) ?_
  show own_Go p e below _ (T44.setTop (mkF m 250 #[.val (.int xa), .val (.int xb), .val (.int xc), .val (.ref b1), .val (.int v18_t0), .val (.int w20), .val (.int w21), .val (.int w23), .val (.int w41), .val (.int v42_t0), .val (.int w45)] [(.int w45)]))
  refine own_by (fun _ => XS.iload X44.here hx rfl (hb hby at_250) rfl) ?_
  show own_Go p e below _ (T44.setTop (mkF m 252 #[.val (.int xa), .val (.int xb), .val (.int xc), .val (.ref b1), .val (.int v18_t0), .val (.int w20), .val (.int w21), .val (.int w23), .val (.int w41), .val (.int v42_t0), .val (.int w45)] [(.int v42_t0), (.int w45)]))
  suffices J46 : ∀ (T' : State) (v46_t0 : Int32), v46_t0 = (if w45 = v42_t0 then (1 : Int32) else (0 : Int32)) → own_At p l e room_1 s m #[(.int xa), (.int xb), (.int xc)] below meth c n0 T' h17 1 8 → own_Go p e below (own_End s below (own_Q0 Z xa xb xc h0 n0) room_1.cells room_1.slots) (T'.setTop (mkF m 260 #[.val (.int xa), .val (.int xb), .val (.int xc), .val (.ref b1), .val (.int v18_t0), .val (.int w20), .val (.int w21), .val (.int w23), .val (.int w41), .val (.int v42_t0), .val (.int w45)] [(.int v46_t0)])) by
    by_cases hc252_47 : w45 = v42_t0
    ·
      skip
      refine own_by (fun _ => XS.icmpNo X44.here hx rfl (hb hby at_252) rfl (teq hc252_47).2) ?_
      show own_Go p e below _ (T44.setTop (mkF m 255 #[.val (.int xa), .val (.int xb), .val (.int xc), .val (.ref b1), .val (.int v18_t0), .val (.int w20), .val (.int w21), .val (.int w23), .val (.int w41), .val (.int v42_t0), .val (.int w45)] []))
      refine own_by (fun _ => XS.iconst X44.here hx rfl (hb hby at_255)) ?_
      show own_Go p e below _ (T44.setTop (mkF m 256 #[.val (.int xa), .val (.int xb), .val (.int xc), .val (.ref b1), .val (.int v18_t0), .val (.int w20), .val (.int w21), .val (.int w23), .val (.int w41), .val (.int v42_t0), .val (.int w45)] [(.int (1 : Int32))]))
      refine own_by (fun _ => XS.goto X44.here hx rfl (pc0 := 256) (pc' := 260) rfl (hb hby at_256) (by decide) (by decide)) ?_
      show own_Go p e below _ (T44.setTop (mkF m 260 #[.val (.int xa), .val (.int xb), .val (.int xc), .val (.ref b1), .val (.int v18_t0), .val (.int w20), .val (.int w21), .val (.int w23), .val (.int w41), .val (.int v42_t0), .val (.int w45)] [(.int (1 : Int32))]))
      exact J46 _ _ (by first | with_reducible rfl | simp only [if_pos hc252_47] | rfl) ⟨_, X44, N44, e44⟩
    ·
      skip
      refine own_by (fun _ => XS.icmpYes X44.here hx rfl (pc0 := 252) (pc' := 259) rfl (hb hby at_252) rfl (feq hc252_47).2 (by decide) (by decide)) ?_
      show own_Go p e below _ (T44.setTop (mkF m 259 #[.val (.int xa), .val (.int xb), .val (.int xc), .val (.ref b1), .val (.int v18_t0), .val (.int w20), .val (.int w21), .val (.int w23), .val (.int w41), .val (.int v42_t0), .val (.int w45)] []))
      refine own_by (fun _ => XS.iconst X44.here hx rfl (hb hby at_259)) ?_
      show own_Go p e below _ (T44.setTop (mkF m 260 #[.val (.int xa), .val (.int xb), .val (.int xc), .val (.ref b1), .val (.int v18_t0), .val (.int w20), .val (.int w21), .val (.int w23), .val (.int w41), .val (.int v42_t0), .val (.int w45)] [(.int (0 : Int32))]))
      exact J46 _ _ (by first | with_reducible rfl | simp only [if_neg hc252_47] | rfl) ⟨_, X44, N44, e44⟩
  intro T46 v46_t0 hv46_t0 ⟨locs46, X46, N46, e46⟩
  show own_Go p e below _ (T46.setTop (mkF m 260 #[.val (.int xa), .val (.int xb), .val (.int xc), .val (.ref b1), .val (.int v18_t0), .val (.int w20), .val (.int w21), .val (.int w23), .val (.int w41), .val (.int v42_t0), .val (.int w45)] [(.int v46_t0)]))
  exact own_retZ X46 hx hlk e46 (by rw [hv46_t0]; (repeat' split) <;> first | exact Or.inl rfl | exact Or.inr rfl) hret (hb hby at_260) (by decide) (by decide) ⟨(congrArg some (congrArg Value.int (by subst hv46_t0; subst hw45; subst hv42_t0; subst hw41; subst hw39; subst hw37; subst hw35; subst hw33; subst hw31; subst hw29; subst hw27; subst hw25; subst hw23; subst hw21; subst hw20; subst hv18_t0; subst hbl; exact own_plain xa xb xc : v46_t0 = (1 : Int32)))), N46⟩

theorem own_comes {Post : Tables → Env → Array Value → State → Outcome → State → Prop} (hpost : ∀ tb e args s v u, (limb_1_1.after args s (.returned v) u = true ∧ limb_1_2.after args s (.returned v) u = true ∧ True) → FrameEnd s (.returned v) u (Jvm.fieldLocs frame_1_writes args s ++ Jvm.arrayLocs frame_1_arrays args s ++ Jvm.staticLocs frame_1_statics s) 16 128 → Post tb e args s (.returned v) u) :
    ArmFor flags0 classFile x code maxLocals ret World_1 tables_1 room_1 Calls_1 rest_1 Pre_1 Post := by
  intro l hfl _ _ p e ha hc hk s m args below hf hA hF happ hP
  obtain ⟨hcalls, hrest, hpre⟩ := hP
  obtain ⟨-, -, -, hnamed, -, -, -, hat⟩ := (Spec.applies_iff hf).mp happ
  obtain ⟨hg, hn⟩ := and_e (Cond.before_iff.mp (show (Jvm.Cond.and given_1 narrow_1).before args s = true from hpre))
  obtain ⟨hg1, hg2⟩ := and_e hg
  obtain ⟨hg3, hg4⟩ := and_e hg2
  obtain ⟨hg5, hg6⟩ := and_e hg4
  obtain ⟨w0, w1, w2, rfl⟩ : ∃ w0 w1 w2 : Value, args = #[w0, w1, w2] := by
    have hs : args.size = 3 := by simpa [Cond.value, given_1] using hg1
    obtain ⟨L⟩ := args
    match L, hs with
    | [w0, w1, w2], _ => exact ⟨w0, w1, w2, rfl⟩
  have hw := fun d (hd : d ∈ tables_1) => atoms_spec (ws := Jvm.Cond.code x code maxLocals ret :: tables_1) hat d (List.mem_cons_of_mem _ hd)
  have hfit : Fit s := fun {y c} hc i hi => by
    obtain ⟨ha, rfl⟩ := Array.getElem?_eq_some_iff.mp hc
    have q := List.all_eq_true.mp ((Array.all_eq_true_iff_forall_mem.mp hF) _ (Array.getElem_mem ha)) i (List.mem_range.mpr hi)
    simpa [Array.getElem?_eq_getElem hi] using q
  obtain ⟨i0, ei0⟩ := is_v hg3
  obtain rfl : w0 = (.int i0) := Option.some.inj ei0
  obtain ⟨i1, ei1⟩ := is_v hg5
  obtain rfl : w1 = (.int i1) := Option.some.inj ei1
  obtain ⟨i2, ei2⟩ := is_v hg6
  obtain rfl : w2 = (.int i2) := Option.some.inj ei2
  obtain ⟨n, o, h1, h2, h3, _, L, rfl, ⟨rfl, N⟩, hq⟩ := own_rm0 l s _ hw tables_1 i0 i1 i2 s.heap s.heap.size (Nat.le_refl _) p e ha hc hk s m _ below hf ((Spec.applies_iff_loose hf).mp happ).1 ⟨rfl, State.Warmed39.refl s, rfl⟩ trivial
  refine ⟨n, _, h1, h2, h3, hpost _ _ _ _ _ _ ⟨Cond.after_iff.mpr rfl, Cond.after_iff.mpr (eq_i res_at (Term.int_eval (1)) rfl), trivial⟩ ⟨hq.1, hq.2.1, (hq.2.2.sift fun y hy => Or.inr (N y hy)).mono (by decide) (by decide)⟩⟩
theorem main_1_1 : Claimed_1_1 := own_comes fun _ _ _ _ _ _ h hF => ⟨h.1, hF⟩
theorem main_1_2 : Claimed_1_2 := own_comes fun _ _ _ _ _ _ h hF => ⟨h.2.1, hF⟩
end Jvm.Pilot.@@N@@
namespace Jvm.Pilot.@@N@@
open Jvm Jvm.ClassFile Sem Op Lib Jvm.Free Jvm.Stand Jvm.Pilot.@@N@@.Jvm.D
/-! MADE BY PROGRAM (witnessworld.py) out of the Statement's table words and the real class files: 10 classes; the members and pool entries that the words name. The judged class is class 1, her method 3. -/
namespace start1
open Jvm.ClassFile
def u (s : String) : CpInfo := .utf8 (stringToUtf16 s)
/-- a pool by its gaps: so many unusable entries, then the entry; so many at the end -/
def gap : Nat → List CpInfo → List CpInfo
  | 0, r => r
  | n + 1, r => .unusable :: gap n r
def poolList (es : List (Nat × CpInfo)) (last : Nat) : List CpInfo := es.foldr (fun e r => gap e.1 (e.2 :: r)) (gap last [])
def pool (es : List (Nat × CpInfo)) (last : Nat) : Array CpInfo := ⟨poolList es last⟩
def fileOf (pool : Array CpInfo) (this : Nat) (attrs : Array Attribute := #[]) (ms : Array MethodInfo := #[]) (fl : Nat := 33) (sup : Nat := 0) (ifs : Array Nat := #[]) (fds : Array FieldInfo := #[]) : ClassFile where
  minorVersion := 0
  majorVersion := 65
  constantPool := pool
  accessFlags := fl
  thisClass := this
  superClass := sup
  interfaces := ifs
  fields := fds
  methods := ms
  attributes := attrs
def plain (name : String) (sup : Option ClassId) : Class where
  name := name
  kind := .ordinary
  loader := none
  accessFlags := 33
  super := sup
  interfaces := #[]
  cf := none
  fields := #[]
  methods := #[]
  instanceTypes := #[]
  staticTypes := #[]
  resolved := #[]
  callSites := []
  init := .initialized
  statics := none
  mirror := none

def pool0 : Array CpInfo := pool [(5, u "<init>"), (0, u "()V"), (1, .class_ 10), (1, u "java/lang/Object")] 113

def k0m0 : Method := { name := "<init>", desc := "()V", sig := { parameters := [], returnType := none }, accessFlags := 1, code := none }
/-- java/lang/Object -/
def k0 : Class := { plain "java/lang/Object" none with
  accessFlags := 33
  interfaces := #[]
  cf := some (fileOf pool0 8 #[] #[{ accessFlags := 1, nameIndex := 5, descriptorIndex := 6, attributes := #[] }] 33 0 #[] #[])
  fields := #[]
  methods := #[k0m0]
  instanceTypes := #[]
  staticTypes := #[]
  resolved := Array.replicate 124 none
  statics := none }

def pool1 : Array CpInfo := pool [(2, .class_ 4), (1, u "java/lang/Object"), (0, u "<init>"), (0, u "()V"), (0, .methodref 8 9), (0, .class_ 10), (0, .nameAndType 11 12), (0, u "com/example/bucketsplit/bucketsplit/core/Utf8FirstIllFormedPinLaw"), (0, u "step"), (0, u "([BIIZ)I"), (0, .methodref 14 15), (0, .class_ 16), (0, .nameAndType 17 18), (0, u "java/lang/Math"), (0, u "min"), (0, u "(II)I"), (0, .methodref 8 20), (0, .nameAndType 21 12), (0, u "adv"), (0, .methodref 23 24), (0, .class_ 25), (0, .nameAndType 26 12), (0, u "com/example/bucketsplit/bucketsplit/core/Utf8"), (0, u "firstIllFormed"), (3, u "law"), (0, u "(III)Z")] 4

def k1m0 : Method := { name := "<init>", desc := "()V", sig := { parameters := [], returnType := none }, accessFlags := 2, code := none }
def k1c1 : Code := { maxStack := 3, maxLocals := 13, code := method_2_code, exceptionTable := #[], attributes := #[] }
def k1m1 : Method := { name := "step", desc := "([BIIZ)I", sig := { parameters := [(.array .byte), .int, .int, .boolean], returnType := some .int }, accessFlags := 10, code := some k1c1 }
def k1c2 : Code := { maxStack := 4, maxLocals := 4, code := method_3_code, exceptionTable := #[], attributes := #[] }
def k1m2 : Method := { name := "adv", desc := "([BIIZ)I", sig := { parameters := [(.array .byte), .int, .int, .boolean], returnType := some .int }, accessFlags := 10, code := some k1c2 }
def k1c3 : Code := { maxStack := 4, maxLocals := 11, code := code, exceptionTable := #[], attributes := #[] }
def k1m3 : Method := { name := "law", desc := "(III)Z", sig := { parameters := [.int, .int, .int], returnType := some .boolean }, accessFlags := 9, code := some k1c3 }
/-- com/example/bucketsplit/bucketsplit/core/Utf8FirstIllFormedPinLaw -/
def k1 : Class := { plain "com/example/bucketsplit/bucketsplit/core/Utf8FirstIllFormedPinLaw" (some 0) with
  accessFlags := 49
  interfaces := #[]
  cf := some (fileOf pool1 8 #[] #[{ accessFlags := 2, nameIndex := 5, descriptorIndex := 6, attributes := #[] }, { accessFlags := 10, nameIndex := 11, descriptorIndex := 12, attributes := #[] }, { accessFlags := 10, nameIndex := 21, descriptorIndex := 12, attributes := #[] }, { accessFlags := 9, nameIndex := 30, descriptorIndex := 31, attributes := #[] }] 49 2 #[] #[])
  fields := #[]
  methods := #[k1m0, k1m1, k1m2, k1m3]
  instanceTypes := #[]
  staticTypes := #[]
  resolved := Array.replicate 36 none
  statics := none }

def pool2 : Array CpInfo := pool [(1, .class_ 2), (0, u "java/lang/Math"), (1, .class_ 6), (1, u "java/lang/Object"), (0, u "<init>"), (0, u "()V"), (89, .class_ 100), (1, u "java/lang/Math$RandomNumberGeneratorHolder"), (71, u "negativeZeroFloatBits"), (0, u "J"), (2, u "negativeZeroDoubleBits"), (24, u "min"), (43, u "$assertionsDisabled"), (0, u "Z"), (88, u "(II)I"), (2, u "twoToTheDoubleScaleDown"), (0, u "D"), (4, u "twoToTheDoubleScaleUp"), (9, u "E"), (3, u "PI"), (2, u "TAU"), (2, u "DEGREES_TO_RADIANS"), (0, u "RADIANS_TO_DEGREES")] 94

def k2m0 : Method := { name := "<init>", desc := "()V", sig := { parameters := [], returnType := none }, accessFlags := 2, code := none }
def k2c1 : Code := { maxStack := 2, maxLocals := 2, code := jdk_29_method_69_code, exceptionTable := #[], attributes := #[] }
def k2m1 : Method := { name := "min", desc := "(II)I", sig := { parameters := [.int, .int], returnType := some .int }, accessFlags := 9, code := some k2c1 }
/-- java/lang/Math -/
def k2 : Class := { plain "java/lang/Math" (some 0) with
  accessFlags := 49
  interfaces := #[]
  cf := some (fileOf pool2 1 #[.nestMembers #[98]] #[{ accessFlags := 2, nameIndex := 7, descriptorIndex := 8, attributes := #[] }, { accessFlags := 9, nameIndex := 201, descriptorIndex := 335, attributes := #[] }] 49 4 #[] #[{ accessFlags := 25, nameIndex := 354, descriptorIndex := 339, attributes := #[] }, { accessFlags := 25, nameIndex := 358, descriptorIndex := 339, attributes := #[] }, { accessFlags := 25, nameIndex := 361, descriptorIndex := 339, attributes := #[] }, { accessFlags := 26, nameIndex := 364, descriptorIndex := 339, attributes := #[] }, { accessFlags := 26, nameIndex := 365, descriptorIndex := 339, attributes := #[] }, { accessFlags := 26, nameIndex := 172, descriptorIndex := 173, attributes := #[] }, { accessFlags := 26, nameIndex := 176, descriptorIndex := 173, attributes := #[] }, { accessFlags := 8, nameIndex := 344, descriptorIndex := 339, attributes := #[] }, { accessFlags := 8, nameIndex := 338, descriptorIndex := 339, attributes := #[] }, { accessFlags := 4120, nameIndex := 245, descriptorIndex := 246, attributes := #[] }])
  fields := #[{ name := "E", type := .double, accessFlags := 25, slot := 0, constantValue := 0 }, { name := "PI", type := .double, accessFlags := 25, slot := 1, constantValue := 0 }, { name := "TAU", type := .double, accessFlags := 25, slot := 2, constantValue := 0 }, { name := "DEGREES_TO_RADIANS", type := .double, accessFlags := 26, slot := 3, constantValue := 0 }, { name := "RADIANS_TO_DEGREES", type := .double, accessFlags := 26, slot := 4, constantValue := 0 }, { name := "negativeZeroFloatBits", type := .long, accessFlags := 26, slot := 5, constantValue := 0 }, { name := "negativeZeroDoubleBits", type := .long, accessFlags := 26, slot := 6, constantValue := 0 }, { name := "twoToTheDoubleScaleUp", type := .double, accessFlags := 8, slot := 7, constantValue := 0 }, { name := "twoToTheDoubleScaleDown", type := .double, accessFlags := 8, slot := 8, constantValue := 0 }, { name := "$assertionsDisabled", type := .boolean, accessFlags := 4120, slot := 9, constantValue := 0 }]
  methods := #[k2m0, k2m1]
  instanceTypes := #[]
  staticTypes := #[.double, .double, .double, .double, .double, .long, .long, .double, .double, .boolean]
  resolved := Array.replicate 460 none
  statics := none }

def pool3 : Array CpInfo := pool [(2, .class_ 4), (1, u "java/lang/Object"), (0, u "<init>"), (0, u "()V"), (0, .class_ 8), (0, u "com/example/bucketsplit/bucketsplit/core/Utf8"), (0, u "WELL_FORMED"), (0, u "I"), (4, u "firstIllFormed"), (0, u "([BIIZ)I")] 5

def k3m0 : Method := { name := "<init>", desc := "()V", sig := { parameters := [], returnType := none }, accessFlags := 2, code := none }
def k3c1 : Code := { maxStack := 3, maxLocals := 11, code := prog_83_method_2_code, exceptionTable := #[], attributes := #[] }
def k3m1 : Method := { name := "firstIllFormed", desc := "([BIIZ)I", sig := { parameters := [(.array .byte), .int, .int, .boolean], returnType := some .int }, accessFlags := 8, code := some k3c1 }
/-- com/example/bucketsplit/bucketsplit/core/Utf8 -/
def k3 : Class := { plain "com/example/bucketsplit/bucketsplit/core/Utf8" (some 0) with
  accessFlags := 48
  interfaces := #[]
  cf := some (fileOf pool3 7 #[] #[{ accessFlags := 2, nameIndex := 5, descriptorIndex := 6, attributes := #[] }, { accessFlags := 8, nameIndex := 15, descriptorIndex := 16, attributes := #[] }] 48 2 #[] #[{ accessFlags := 24, nameIndex := 9, descriptorIndex := 10, attributes := #[] }])
  fields := #[{ name := "WELL_FORMED", type := .int, accessFlags := 24, slot := 0, constantValue := 0 }]
  methods := #[k3m0, k3m1]
  instanceTypes := #[]
  staticTypes := #[.int]
  resolved := Array.replicate 22 none
  statics := none }

def pool4 : Array CpInfo := pool [(1, u "java/lang/Cloneable"), (0, .class_ 1), (0, u "java/lang/Object"), (0, .class_ 3)] 3

/-- java/lang/Cloneable -/
def k4 : Class := { plain "java/lang/Cloneable" (some 0) with
  accessFlags := 1537
  interfaces := #[]
  cf := some (fileOf pool4 2 #[] #[] 1537 4 #[] #[])
  fields := #[]
  methods := #[]
  instanceTypes := #[]
  staticTypes := #[]
  resolved := Array.replicate 8 none
  statics := none }

def pool5 : Array CpInfo := pool [(1, u "java/io/Serializable"), (0, .class_ 1), (0, u "java/lang/Object"), (0, .class_ 3)] 3

/-- java/io/Serializable -/
def k5 : Class := { plain "java/io/Serializable" (some 0) with
  accessFlags := 1537
  interfaces := #[]
  cf := some (fileOf pool5 2 #[] #[] 1537 4 #[] #[])
  fields := #[]
  methods := #[]
  instanceTypes := #[]
  staticTypes := #[]
  resolved := Array.replicate 8 none
  statics := none }

/-- the primitive byte -/
def k6 : Class := { plain "byte" none with kind := .primitive 'B', accessFlags := 0x411 }
/-- [B -/
def k7 : Class := { plain "[B" (some 0) with kind := .array 6 .byte, interfaces := #[4, 5], accessFlags := 1041 }

/-- the primitive int -/
def k8 : Class := { plain "int" none with kind := .primitive 'I', accessFlags := 0x411 }
/-- [I -/
def k9 : Class := { plain "[I" (some 0) with kind := .array 8 .int, interfaces := #[4, 5], accessFlags := 1041 }

def heap : Heap := #[]
def classes : Array Class := #[k0, k1, k2, k3, k4, k5, k6, k7, k8, k9]
def interned : List (Array UInt16 × Addr) := []
def slotsUsed : Nat := 0
def theMethod : MethodId := ⟨1, 3⟩
def args0 : Array Value := #[.int 5, .int 3, .int 2]
def aboutOver (below : List Frame) : State where
  vm := { classes := classes, interned := interned.toArray }
  heap := heap
  slotsUsed := slotsUsed
  threads := #[{ frames := .invoking theMethod args0 :: below }]
def below0 : List Frame := [.native { method := ⟨0, 0⟩, args := #[] }]
def about1 : State := aboutOver below0
def p0 : Program := .bare "" "" ""
def e0 : Env := launch0.env 0 0 0
theorem w_frames : about1.frames = Frame.invoking theMethod args0 :: below0 := rfl
set_option maxRecDepth 65536 in
theorem w_args : argsFit about1.vm theMethod args0 = true := by decide +kernel
set_option maxRecDepth 65536 in
theorem w_heap : heapFits about1 = true := by decide +kernel
set_option maxRecDepth 65536 in
theorem w_runnable : about1.curStatus? = some .runnable := by decide +kernel
set_option maxRecDepth 65536 in
theorem w_alone : about1.alone = true := by decide +kernel
set_option maxRecDepth 65536 in
theorem w_named : about1.methodNamed? x = some theMethod := by decide +kernel
set_option maxRecDepth 65536 in
theorem w_hears : about1.hears theMethod below0 = true := by decide +kernel
set_option maxRecDepth 65536 in
theorem w_ripe : about1.ripe theMethod args0 below0 = true := by decide +kernel
theorem w_running : about1.status = .running := rfl
set_option maxRecDepth 65536 in
theorem w_room : about1.hasRoom e0.platform room_1 = true :=
  launch0.hasRoom_least _ room_1 (by decide +kernel) (by decide +kernel) (by decide +kernel) (by decide +kernel) (by decide +kernel) (by decide +kernel)
theorem allAtoms_all (ts : List Jvm.Cond) (a : Array Jvm.Value) (st : Jvm.State) : (allAtoms ts).before a st = ts.all (fun c => c.before a st) := by
  induction ts with
  | nil => rfl
  | cons c t ih =>
    show (Jvm.Cond.and c (allAtoms t)).before a st = _
    rw [Jvm.Cond.before_and, ih, List.all_cons]
def words1 : List Jvm.Cond := Jvm.Cond.code x code maxLocals ret :: tables_1
/-- a 'code' word, met by the world's own term for the bytes: nothing is compared byte by byte -/
theorem code_word {y : MethodName} {bytes : ByteArray} {mx : Nat} {rt : Option FieldType} {a : Array Value} {s : State} {m : MethodId} {meth : Method} {c : Code} (h1 : s.methodNamed? y = some m) (h2 : s.vm.method? m = some meth) (h3 : meth.code = some c) (h4 : c.code = bytes)
    (h5 : (c.maxLocals == mx && c.exceptionTable.isEmpty && decide (c.maxStack ≤ mostOperands) && decide (meth.sig.returnType = rt) && !meth.locks && decide (parseMethodDescriptor y.desc = some meth.sig)) = true) : (Jvm.Cond.code y bytes mx rt).before a s = true := by
  simp only [Bool.and_eq_true, beq_iff_eq, Bool.not_eq_true', decide_eq_true_eq] at h5
  obtain ⟨⟨⟨⟨⟨g1, g2⟩, g3⟩, g4⟩, g5⟩, g6⟩ := h5
  simp [Cond.before, Cond.holds, Cond.value, h1, h2, h3, h4, g1, g2, g3, g4, g5, g6]
def isCode : Jvm.Cond → Bool
  | .code _ _ _ _ => true
  | _ => false
theorem all_split {L : List Jvm.Cond} {P : Jvm.Cond → Bool} (h1 : L.all (fun c => isCode c || P c) = true) (h2 : ∀ c ∈ L.filter isCode, P c = true) : L.all P = true := by
  refine List.all_eq_true.mpr fun c hc => ?_
  have h := List.all_eq_true.mp h1 c hc
  rcases Bool.eq_false_or_eq_true (isCode c) with hi | hi
  · exact h2 c (List.mem_filter.mpr ⟨hc, hi⟩)
  · simpa [hi] using h
set_option maxRecDepth 65536 in
theorem w_c0 : (Jvm.Cond.code x code maxLocals ret).before args0 about1 = true := code_word (m := ⟨1, 3⟩) (meth := k1m3) (c := k1c3) (by decide +kernel) rfl rfl rfl (by decide +kernel)
set_option maxRecDepth 65536 in
theorem w_c1 : (Jvm.Cond.code ({ cls := "java/lang/Math", name := "min", desc := "(II)I" } : Jvm.MethodName) jdk_29_method_69_code (2 : Nat) (Option.some Jvm.ClassFile.FieldType.int)).before args0 about1 = true := code_word (m := ⟨2, 1⟩) (meth := k2m1) (c := k2c1) (by decide +kernel) rfl rfl rfl (by decide +kernel)
set_option maxRecDepth 65536 in
theorem w_c2 : (Jvm.Cond.code ({ cls := "com/example/bucketsplit/bucketsplit/core/Utf8FirstIllFormedPinLaw", name := "adv", desc := "([BIIZ)I" } : Jvm.MethodName) method_3_code (4 : Nat) (Option.some Jvm.ClassFile.FieldType.int)).before args0 about1 = true := code_word (m := ⟨1, 2⟩) (meth := k1m2) (c := k1c2) (by decide +kernel) rfl rfl rfl (by decide +kernel)
set_option maxRecDepth 65536 in
theorem w_c3 : (Jvm.Cond.code ({ cls := "com/example/bucketsplit/bucketsplit/core/Utf8FirstIllFormedPinLaw", name := "step", desc := "([BIIZ)I" } : Jvm.MethodName) method_2_code (13 : Nat) (Option.some Jvm.ClassFile.FieldType.int)).before args0 about1 = true := code_word (m := ⟨1, 1⟩) (meth := k1m1) (c := k1c1) (by decide +kernel) rfl rfl rfl (by decide +kernel)
set_option maxRecDepth 65536 in
theorem w_c4 : (Jvm.Cond.code ({ cls := "com/example/bucketsplit/bucketsplit/core/Utf8", name := "firstIllFormed", desc := "([BIIZ)I" } : Jvm.MethodName) prog_83_method_2_code (11 : Nat) (Option.some Jvm.ClassFile.FieldType.int)).before args0 about1 = true := code_word (m := ⟨3, 1⟩) (meth := k3m1) (c := k3c1) (by decide +kernel) rfl rfl rfl (by decide +kernel)
def codes1 : List Jvm.Cond := [Jvm.Cond.code x code maxLocals ret, Jvm.Cond.code ({ cls := "java/lang/Math", name := "min", desc := "(II)I" } : Jvm.MethodName) jdk_29_method_69_code (2 : Nat) (Option.some Jvm.ClassFile.FieldType.int), Jvm.Cond.code ({ cls := "com/example/bucketsplit/bucketsplit/core/Utf8FirstIllFormedPinLaw", name := "adv", desc := "([BIIZ)I" } : Jvm.MethodName) method_3_code (4 : Nat) (Option.some Jvm.ClassFile.FieldType.int), Jvm.Cond.code ({ cls := "com/example/bucketsplit/bucketsplit/core/Utf8FirstIllFormedPinLaw", name := "step", desc := "([BIIZ)I" } : Jvm.MethodName) method_2_code (13 : Nat) (Option.some Jvm.ClassFile.FieldType.int), Jvm.Cond.code ({ cls := "com/example/bucketsplit/bucketsplit/core/Utf8", name := "firstIllFormed", desc := "([BIIZ)I" } : Jvm.MethodName) prog_83_method_2_code (11 : Nat) (Option.some Jvm.ClassFile.FieldType.int)]
set_option maxRecDepth 65536 in
theorem codes_eq : words1.filter isCode = codes1 := rfl
theorem w_codes : ∀ c ∈ words1.filter isCode, c.before args0 about1 = true := by
  rw [codes_eq]
  intro c hc
  simp only [codes1, List.mem_cons, List.not_mem_nil, or_false] at hc
  rcases hc with rfl | rfl | rfl | rfl | rfl
  · exact w_c0
  · exact w_c1
  · exact w_c2
  · exact w_c3
  · exact w_c4
set_option maxRecDepth 65536 in
theorem w_t1 : words1.all (fun c => isCode c || c.before args0 about1) = true := by decide +kernel
theorem w_tables : (allAtoms (Jvm.Cond.code x code maxLocals ret :: tables_1)).before args0 about1 = true := by
  rw [allAtoms_all]
  show words1.all (fun c => c.before args0 about1) = true
  refine all_split ?_ w_codes
  rw [w_t1]
set_option maxRecDepth 65536 in
theorem w_case : (Jvm.Cond.and given_1 narrow_1).before args0 about1 = true := by decide +kernel
theorem w_applies : (headSpec (Jvm.Cond.code x code maxLocals ret :: tables_1) room_1).applies x e0.platform about1 = true :=
  (Spec.applies_iff w_frames).mpr ⟨w_running, w_runnable, w_alone, w_named, w_hears, w_ripe, w_room, w_tables⟩
theorem atStart : AtStart classFile x code maxLocals ret World_1 tables_1 room_1 Calls_1 rest_1 Pre_1 launch0 p0 e0 about1 theMethod args0 below0 :=
  ⟨lists_1, trivial, launch0.admits_env _ _ _, launch0.least_env, fairChoices_fair.cas, fairChoices_fair.clock, w_frames, w_args, w_heap, w_applies, trivial, trivial, w_case⟩
end start1
theorem witness_1 : WitnessClaimed_1 := ⟨start1.p0, start1.e0, start1.about1, start1.theMethod, start1.args0, start1.below0, start1.atStart⟩
end Jvm.Pilot.@@N@@
