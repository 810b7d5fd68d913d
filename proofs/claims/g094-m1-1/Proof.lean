import JvmDerived
import JvmDerived.Pilot.@@N@@Statement
import JvmDerived.Pilot.@@N@@Code
set_option linter.unusedVariables false
set_option linter.unusedSimpArgs false
set_option maxRecDepth 65536
set_option maxHeartbeats 40000000
namespace Jvm.Pilot.@@N@@
open Jvm Jvm.ClassFile Sem Op Lib Jvm.Free Jvm.Stand Jvm.LawKit Jvm.RoadKit Bundle Jvm.Pilot.@@N@@.Jvm.D
section OwnKit
variable {p : Program} {l : Launch} {e : Env} {R : Room} {s : State} {m : MethodId} {args : Array Value} {below : List Frame} {meth : Method} {c : Code} {T : State} {locs : List Loc} {cells slots : Nat}
/-- from here the run comes to an end that E allows -/
def own_Go (p : Program) (e : Env) (below : List Frame) (E : State → Prop) (S : State) : Prop := ∃ t, Steps p.tables e below S t ∧ E t
/-- the invocation has ended, with a value, a heap and a list of written places that Q allows -/
def own_End (s : State) (below : List Frame) (Q : Option Value → Heap → List Loc → Prop) (C N : Nat) (t : State) : Prop :=
  t.status = .running ∧ ∃ v L, Ended t below (.returned v) ∧ Q v t.heap L ∧ FrameEnd s (.returned v) t L C N
/-- the walk stands here, with this heap, having written only what is new -/
def own_At (p : Program) (l : Launch) (e : Env) (R : Room) (s : State) (m : MethodId) (args : Array Value) (below : List Frame) (meth : Method) (c : Code) (n0 : Nat) (T : State) (h : Heap) (cells slots : Nat) : Prop :=
  ∃ locs, Stand p l e R s m args below meth c T locs cells slots ∧ Fr n0 locs ∧ T.heap = h
theorem own_by {E : State → Prop} {S S' : State} (k : ∀ t, Steps p.tables e below S' t → Steps p.tables e below S t) (h : own_Go p e below E S') : own_Go p e below E S :=
  h.imp fun t q => ⟨k t q.1, q.2⟩
theorem own_tr {E : State → Prop} {S S' : State} (k : Steps p.tables e below S S') (h : own_Go p e below E S') : own_Go p e below E S :=
  h.imp fun t q => ⟨k.trans q.1, q.2⟩
theorem own_mono {E E' : State → Prop} {S : State} (k : ∀ t, E t → E' t) (h : own_Go p e below E S) : own_Go p e below E' S := h.imp fun t q => ⟨q.1, k t q.2⟩
theorem own_monoQ {Q Q' : Option Value → Heap → List Loc → Prop} {C N : Nat} {S : State} (k : ∀ v h L, Q v h L → Q' v h L) (h : own_Go p e below (own_End s below Q C N) S) : own_Go p e below (own_End s below Q' C N) S :=
  own_mono (fun t ⟨a, v, L, b, q, r⟩ => ⟨a, v, L, b, k _ _ _ q, r⟩) h
variable {Q : Option Value → Heap → List Loc → Prop} {C N : Nat} {h : Heap} {pc : Nat} {Ls : Array Slot} {rest : List Value}
theorem own_ret (X : Stand p l e R s m args below meth c T locs cells slots) (hx : p.tables.exec = Jvm.exec) (hlk : meth.locks = false) (eT : T.heap = h) {w : Value} {t : FieldType} {i : Instr} (hret : meth.sig.returnType = some t) (hn : narrow t w = w)
    (hi : (i = .ireturn ∧ (t = .int ∨ t = .boolean ∨ t = .byte ∨ t = .char ∨ t = .short) ∧ ∃ z, w = .int z) ∨ (i = .lreturn ∧ t = .long ∧ ∃ z, w = .long z) ∨ (i = .dreturn ∧ t = .double ∧ ∃ z, w = .double z) ∨ (i = .freturn ∧ t = .float ∧ ∃ z, w = .float z) ∨ (i = .areturn ∧ t.isReference = true ∧ w.isRef = true))
    (hd : decode c.code pc = .ok (i, 1)) (hc : cells ≤ C) (hs : slots ≤ N) (hQ : Q (some w) h locs) : own_Go p e below (own_End s below Q C N) (T.setTop (mkF m pc Ls (w :: rest))) := by
  obtain ⟨fs, hr, hrun, hended, hW, hsame⟩ := X.leave (v := some w) (fun q => by rw [hret] at q; cases q) hlk
  subst eT
  exact ⟨_, retOut X hx hret hn hi hd hr, hrun, _, _, hended, hQ, ⟨_, rfl⟩, hW, hsame.mono hc hs⟩
theorem own_retI (X : Stand p l e R s m args below meth c T locs cells slots) (hx : p.tables.exec = Jvm.exec) (hlk : meth.locks = false) (eT : T.heap = h) {z : Int32} (hret : meth.sig.returnType = some .int) (hd : decode c.code pc = .ok (.ireturn, 1)) (hc : cells ≤ C) (hs : slots ≤ N) (hQ : Q (some (.int z)) h locs) :
    own_Go p e below (own_End s below Q C N) (T.setTop (mkF m pc Ls (.int z :: rest))) := own_ret X hx hlk eT hret rfl (Or.inl ⟨rfl, Or.inl rfl, _, rfl⟩) hd hc hs hQ
theorem own_retZ (X : Stand p l e R s m args below meth c T locs cells slots) (hx : p.tables.exec = Jvm.exec) (hlk : meth.locks = false) (eT : T.heap = h) {z : Int32} (hz : z = 0 ∨ z = 1) (hret : meth.sig.returnType = some .boolean) (hd : decode c.code pc = .ok (.ireturn, 1)) (hc : cells ≤ C) (hs : slots ≤ N) (hQ : Q (some (.int z)) h locs) :
    own_Go p e below (own_End s below Q C N) (T.setTop (mkF m pc Ls (.int z :: rest))) := own_ret X hx hlk eT hret (by rcases hz with rfl | rfl <;> rfl) (Or.inl ⟨rfl, Or.inr (Or.inl rfl), _, rfl⟩) hd hc hs hQ
theorem own_retJ (X : Stand p l e R s m args below meth c T locs cells slots) (hx : p.tables.exec = Jvm.exec) (hlk : meth.locks = false) (eT : T.heap = h) {z : Int64} (hret : meth.sig.returnType = some .long) (hd : decode c.code pc = .ok (.lreturn, 1)) (hc : cells ≤ C) (hs : slots ≤ N) (hQ : Q (some (.long z)) h locs) :
    own_Go p e below (own_End s below Q C N) (T.setTop (mkF m pc Ls (.long z :: rest))) := own_ret X hx hlk eT hret rfl (Or.inr (Or.inl ⟨rfl, rfl, _, rfl⟩)) hd hc hs hQ
theorem own_retD (X : Stand p l e R s m args below meth c T locs cells slots) (hx : p.tables.exec = Jvm.exec) (hlk : meth.locks = false) (eT : T.heap = h) {z : UInt64} (hret : meth.sig.returnType = some .double) (hd : decode c.code pc = .ok (.dreturn, 1)) (hc : cells ≤ C) (hs : slots ≤ N) (hQ : Q (some (.double z)) h locs) :
    own_Go p e below (own_End s below Q C N) (T.setTop (mkF m pc Ls (.double z :: rest))) := own_ret X hx hlk eT hret rfl (Or.inr (Or.inr (Or.inl ⟨rfl, rfl, _, rfl⟩))) hd hc hs hQ
theorem own_retR (X : Stand p l e R s m args below meth c T locs cells slots) (hx : p.tables.exec = Jvm.exec) (hlk : meth.locks = false) (eT : T.heap = h) {w : Value} {t : FieldType} (hw : w.isRef = true) (ht : t.isReference = true) (hret : meth.sig.returnType = some t) (hd : decode c.code pc = .ok (.areturn, 1)) (hc : cells ≤ C) (hs : slots ≤ N) (hQ : Q (some w) h locs) :
    own_Go p e below (own_End s below Q C N) (T.setTop (mkF m pc Ls (w :: rest))) := own_ret X hx hlk eT hret (by cases t <;> first | (cases ht; done) | (cases w <;> first | rfl | cases hw)) (Or.inr (Or.inr (Or.inr (Or.inr ⟨rfl, ht, hw⟩)))) hd hc hs hQ
theorem own_retV (X : Stand p l e R s m args below meth c T locs cells slots) (hx : p.tables.exec = Jvm.exec) (hlk : meth.locks = false) (eT : T.heap = h) (hret : meth.sig.returnType = none) (hd : decode c.code pc = .ok (.return_, 1)) (hc : cells ≤ C) (hs : slots ≤ N) (hQ : Q none h locs) :
    own_Go p e below (own_End s below Q C N) (T.setTop (mkF m pc Ls [])) := by
  obtain ⟨fs, hr, hrun, hended, hW, hsame⟩ := X.leave (v := none) (fun _ => rfl) hlk
  subst eT
  exact ⟨_, X.returnOut hx hret hd hr, hrun, _, _, hended, hQ, ⟨_, rfl⟩, hW, hsame.mono hc hs⟩
end OwnKit

theorem own_pd0 : parseMethodDescriptor "(B)Z" = some ⟨[.byte], some .boolean⟩ := by decide +kernel
theorem own_d1_0 : decode prog_100_method_3_code 0 = .ok (.iload_n 0, 1) := by decide +kernel
theorem own_d1_1 : decode prog_100_method_3_code 1 = .ok (.ifCond .lt 9, 3) := by decide +kernel
theorem own_d1_4 : decode prog_100_method_3_code 4 = .ok (.iload_n 0, 1) := by decide +kernel
theorem own_d1_5 : decode prog_100_method_3_code 5 = .ok (.bipush 32, 2) := by decide +kernel
theorem own_d1_7 : decode prog_100_method_3_code 7 = .ok (.if_icmp .lt 21, 3) := by decide +kernel
theorem own_d1_10 : decode prog_100_method_3_code 10 = .ok (.iload_n 0, 1) := by decide +kernel
theorem own_d1_11 : decode prog_100_method_3_code 11 = .ok (.bipush 34, 2) := by decide +kernel
theorem own_d1_13 : decode prog_100_method_3_code 13 = .ok (.if_icmp .eq 15, 3) := by decide +kernel
theorem own_d1_16 : decode prog_100_method_3_code 16 = .ok (.iload_n 0, 1) := by decide +kernel
theorem own_d1_17 : decode prog_100_method_3_code 17 = .ok (.bipush 92, 2) := by decide +kernel
theorem own_d1_19 : decode prog_100_method_3_code 19 = .ok (.if_icmp .eq 9, 3) := by decide +kernel
theorem own_d1_22 : decode prog_100_method_3_code 22 = .ok (.iload_n 0, 1) := by decide +kernel
theorem own_d1_23 : decode prog_100_method_3_code 23 = .ok (.bipush (-30), 2) := by decide +kernel
theorem own_d1_25 : decode prog_100_method_3_code 25 = .ok (.if_icmp .ne 7, 3) := by decide +kernel
theorem own_d1_28 : decode prog_100_method_3_code 28 = .ok (.iconst 1, 1) := by decide +kernel
theorem own_d1_29 : decode prog_100_method_3_code 29 = .ok (.goto 4, 3) := by decide +kernel
theorem own_d1_32 : decode prog_100_method_3_code 32 = .ok (.iconst 0, 1) := by decide +kernel
theorem own_d1_33 : decode prog_100_method_3_code 33 = .ok (.ireturn, 1) := by decide +kernel
def own_isOne (xa : Int32) : Int32 := (if xa < (0 : Int32) then (if xa = (34 : Int32) then (1 : Int32) else (if xa = (92 : Int32) then (1 : Int32) else (if xa = (-30 : Int32) then (1 : Int32) else (0 : Int32)))) else (if xa < (32 : Int32) then (1 : Int32) else (if xa = (34 : Int32) then (1 : Int32) else (if xa = (92 : Int32) then (1 : Int32) else (if xa = (-30 : Int32) then (1 : Int32) else (0 : Int32))))))
theorem own_pn1 : plainName "com/example/delivery_queue/deliveryqueue/server/wire/JsonStringBytes" = true := by first | (simp [plainName, overriddenIn]; done) | decide +kernel
theorem own_ef1 (m : MethodId) (x0 : Int32) : entryFrame m #[(.int x0)] 1 = mkF m 0 #[.val (.int x0)] [] := by first | (simp [entryFrame, mkF, argsToLocals, Value.category]; done) | rfl
def own_Q1 (Z : State) (xa : Int32) (h0 : Heap) (n0 : Nat) (v : Option Value) (h : Heap) (L : List Loc) : Prop := v = some (.int (own_isOne xa)) ∧ Fr n0 L ∧ h = h0
theorem own_rm1 (l : Launch) (Z : State) (a0 : Array Value) (hw : ∀ d ∈ tables_1, d.before a0 Z = true) (ws : List Jvm.Cond) (xa : Int32) (h0 : Heap) (n0 : Nat) (Z0 : n0 ≤ h0.size) :
    MetFree l (⟨"com/example/delivery_queue/deliveryqueue/server/wire/JsonStringBytes", "isOne", "(B)Z"⟩ : MethodName) (head1 (Jvm.Cond.code (⟨"com/example/delivery_queue/deliveryqueue/server/wire/JsonStringBytes", "isOne", "(B)Z"⟩ : MethodName) prog_100_method_3_code 1 (some .boolean) :: ws) ({ frames := 0, cells := 0, slots := 0, locals := 0 } : Room)) (fun a U => a = #[(.int xa)] ∧ Z.Warmed39 U.vm ∧ U.heap = h0) (fun _ _ _ _ _ => True) (fun _ U o U' => ∃ v L, o = .returned v ∧ own_Q1 Z xa h0 n0 v U'.heap L ∧ FrameEnd U o U' L ({ frames := 0, cells := 0, slots := 0, locals := 0 } : Room).cells ({ frames := 0, cells := 0, slots := 0, locals := 0 } : Room).slots) := by
  refine MetFree.of_bodySF (plainFor_of_name own_pn1) hisR ?_
  intro p e s m args below meth c s₁ Bd hml0 hP hK
  obtain ⟨rfl, hZ, hh⟩ := hP
  have hx := Bd.exec
  have hby := Bd.bytes
  have hlk := Bd.notSynchronized
  have hret := Bd.returns
  have hml : c.maxLocals = 1 := hml0
  have hown : s.vm.findClass "com/example/delivery_queue/deliveryqueue/server/wire/JsonStringBytes" = some m.cls := findClass_of_methodNamed Bd.named
  have hnm := (name_of_methodNamed Bd.named Bd.method).1
  have X0 : Stand p l e ({ frames := 0, cells := 0, slots := 0, locals := 0 } : Room) s m #[(.int xa)] below meth c s₁ [] 0 0 := Stand.of_body Bd
  have e0 : s₁.heap = h0 := by rw [← hh, Bd.state]; rfl
  have N0 := Fr.nil n0
  suffices key : own_Go p e below (own_End s below (own_Q1 Z xa h0 n0) ({ frames := 0, cells := 0, slots := 0, locals := 0 } : Room).cells ({ frames := 0, cells := 0, slots := 0, locals := 0 } : Room).slots) (s₁.setTop (mkF m 0 #[.val (.int xa)] [])) by
    obtain ⟨t, k1, k2, v, L, k3, k4, k5⟩ := key
    exact ⟨t, _, castTop (own_ef1 m xa) k1, k2, k3, v, L, rfl, k4, k5⟩
  show own_Go p e below _ (s₁.setTop (mkF m 0 #[.val (.int xa)] []))
  refine own_by (fun _ => XS.iloadN X0.here hx rfl (hb hby own_d1_0) rfl) ?_
  show own_Go p e below _ (s₁.setTop (mkF m 1 #[.val (.int xa)] [(.int xa)]))
  suffices J1 : ∀ (T' : State) (v1_t0 : Int32), v1_t0 = (if xa < (0 : Int32) then (if xa = (34 : Int32) then (1 : Int32) else (if xa = (92 : Int32) then (1 : Int32) else (if xa = (-30 : Int32) then (1 : Int32) else (0 : Int32)))) else (if xa < (32 : Int32) then (1 : Int32) else (if xa = (34 : Int32) then (1 : Int32) else (if xa = (92 : Int32) then (1 : Int32) else (if xa = (-30 : Int32) then (1 : Int32) else (0 : Int32)))))) → own_At p l e ({ frames := 0, cells := 0, slots := 0, locals := 0 } : Room) s m #[(.int xa)] below meth c n0 T' h0 0 0 → own_Go p e below (own_End s below (own_Q1 Z xa h0 n0) ({ frames := 0, cells := 0, slots := 0, locals := 0 } : Room).cells ({ frames := 0, cells := 0, slots := 0, locals := 0 } : Room).slots) (T'.setTop (mkF m 33 #[.val (.int xa)] [(.int v1_t0)])) by
    by_cases hc1_2 : xa < (0 : Int32)
    ·
      skip
      refine own_by (fun _ => XS.ifYes X0.here hx rfl (pc0 := 1) (pc' := 10) rfl (hb hby own_d1_1) rfl ((if0 _ _).trans (tlt hc1_2).1) (by decide) (by decide)) ?_
      show own_Go p e below _ (s₁.setTop (mkF m 10 #[.val (.int xa)] []))
      refine own_by (fun _ => XS.iloadN X0.here hx rfl (hb hby own_d1_10) rfl) ?_
      show own_Go p e below _ (s₁.setTop (mkF m 11 #[.val (.int xa)] [(.int xa)]))
      refine own_by (fun _ => XS.bipush X0.here hx rfl (hb hby own_d1_11)) ?_
      show own_Go p e below _ (s₁.setTop (mkF m 13 #[.val (.int xa)] [(.int (34 : Int32)), (.int xa)]))
      by_cases hc13_3 : xa = (34 : Int32)
      ·
        skip
        refine own_by (fun _ => XS.icmpYes X0.here hx rfl (pc0 := 13) (pc' := 28) rfl (hb hby own_d1_13) rfl (teq hc13_3).1 (by decide) (by decide)) ?_
        show own_Go p e below _ (s₁.setTop (mkF m 28 #[.val (.int xa)] []))
        refine own_by (fun _ => XS.iconst X0.here hx rfl (hb hby own_d1_28)) ?_
        show own_Go p e below _ (s₁.setTop (mkF m 29 #[.val (.int xa)] [(.int (1 : Int32))]))
        refine own_by (fun _ => XS.goto X0.here hx rfl (pc0 := 29) (pc' := 33) rfl (hb hby own_d1_29) (by decide) (by decide)) ?_
        show own_Go p e below _ (s₁.setTop (mkF m 33 #[.val (.int xa)] [(.int (1 : Int32))]))
        exact J1 _ _ (by first | rfl | simp only [if_pos hc1_2, if_pos hc13_3]) ⟨_, X0, N0, e0⟩
      ·
        skip
        refine own_by (fun _ => XS.icmpNo X0.here hx rfl (hb hby own_d1_13) rfl (feq hc13_3).1) ?_
        show own_Go p e below _ (s₁.setTop (mkF m 16 #[.val (.int xa)] []))
        refine own_by (fun _ => XS.iloadN X0.here hx rfl (hb hby own_d1_16) rfl) ?_
        show own_Go p e below _ (s₁.setTop (mkF m 17 #[.val (.int xa)] [(.int xa)]))
        refine own_by (fun _ => XS.bipush X0.here hx rfl (hb hby own_d1_17)) ?_
        show own_Go p e below _ (s₁.setTop (mkF m 19 #[.val (.int xa)] [(.int (92 : Int32)), (.int xa)]))
        by_cases hc19_4 : xa = (92 : Int32)
        ·
          skip
          refine own_by (fun _ => XS.icmpYes X0.here hx rfl (pc0 := 19) (pc' := 28) rfl (hb hby own_d1_19) rfl (teq hc19_4).1 (by decide) (by decide)) ?_
          show own_Go p e below _ (s₁.setTop (mkF m 28 #[.val (.int xa)] []))
          refine own_by (fun _ => XS.iconst X0.here hx rfl (hb hby own_d1_28)) ?_
          show own_Go p e below _ (s₁.setTop (mkF m 29 #[.val (.int xa)] [(.int (1 : Int32))]))
          refine own_by (fun _ => XS.goto X0.here hx rfl (pc0 := 29) (pc' := 33) rfl (hb hby own_d1_29) (by decide) (by decide)) ?_
          show own_Go p e below _ (s₁.setTop (mkF m 33 #[.val (.int xa)] [(.int (1 : Int32))]))
          exact J1 _ _ (by first | rfl | simp only [if_pos hc1_2, if_neg hc13_3, if_pos hc19_4]) ⟨_, X0, N0, e0⟩
        ·
          skip
          refine own_by (fun _ => XS.icmpNo X0.here hx rfl (hb hby own_d1_19) rfl (feq hc19_4).1) ?_
          show own_Go p e below _ (s₁.setTop (mkF m 22 #[.val (.int xa)] []))
          refine own_by (fun _ => XS.iloadN X0.here hx rfl (hb hby own_d1_22) rfl) ?_
          show own_Go p e below _ (s₁.setTop (mkF m 23 #[.val (.int xa)] [(.int xa)]))
          refine own_by (fun _ => XS.bipush X0.here hx rfl (hb hby own_d1_23)) ?_
          show own_Go p e below _ (s₁.setTop (mkF m 25 #[.val (.int xa)] [(.int (-30 : Int32)), (.int xa)]))
          by_cases hc25_5 : xa = (-30 : Int32)
          ·
            skip
            refine own_by (fun _ => XS.icmpNo X0.here hx rfl (hb hby own_d1_25) rfl (teq hc25_5).2) ?_
            show own_Go p e below _ (s₁.setTop (mkF m 28 #[.val (.int xa)] []))
            refine own_by (fun _ => XS.iconst X0.here hx rfl (hb hby own_d1_28)) ?_
            show own_Go p e below _ (s₁.setTop (mkF m 29 #[.val (.int xa)] [(.int (1 : Int32))]))
            refine own_by (fun _ => XS.goto X0.here hx rfl (pc0 := 29) (pc' := 33) rfl (hb hby own_d1_29) (by decide) (by decide)) ?_
            show own_Go p e below _ (s₁.setTop (mkF m 33 #[.val (.int xa)] [(.int (1 : Int32))]))
            exact J1 _ _ (by first | rfl | simp only [if_pos hc1_2, if_neg hc13_3, if_neg hc19_4, if_pos hc25_5]) ⟨_, X0, N0, e0⟩
          ·
            skip
            refine own_by (fun _ => XS.icmpYes X0.here hx rfl (pc0 := 25) (pc' := 32) rfl (hb hby own_d1_25) rfl (feq hc25_5).2 (by decide) (by decide)) ?_
            show own_Go p e below _ (s₁.setTop (mkF m 32 #[.val (.int xa)] []))
            refine own_by (fun _ => XS.iconst X0.here hx rfl (hb hby own_d1_32)) ?_
            show own_Go p e below _ (s₁.setTop (mkF m 33 #[.val (.int xa)] [(.int (0 : Int32))]))
            exact J1 _ _ (by first | rfl | simp only [if_pos hc1_2, if_neg hc13_3, if_neg hc19_4, if_neg hc25_5]) ⟨_, X0, N0, e0⟩
    ·
      skip
      refine own_by (fun _ => XS.ifNo X0.here hx rfl (hb hby own_d1_1) rfl ((if0 _ _).trans (flt hc1_2).1)) ?_
      show own_Go p e below _ (s₁.setTop (mkF m 4 #[.val (.int xa)] []))
      refine own_by (fun _ => XS.iloadN X0.here hx rfl (hb hby own_d1_4) rfl) ?_
      show own_Go p e below _ (s₁.setTop (mkF m 5 #[.val (.int xa)] [(.int xa)]))
      refine own_by (fun _ => XS.bipush X0.here hx rfl (hb hby own_d1_5)) ?_
      show own_Go p e below _ (s₁.setTop (mkF m 7 #[.val (.int xa)] [(.int (32 : Int32)), (.int xa)]))
      by_cases hc7_6 : xa < (32 : Int32)
      ·
        skip
        refine own_by (fun _ => XS.icmpYes X0.here hx rfl (pc0 := 7) (pc' := 28) rfl (hb hby own_d1_7) rfl (tlt hc7_6).1 (by decide) (by decide)) ?_
        show own_Go p e below _ (s₁.setTop (mkF m 28 #[.val (.int xa)] []))
        refine own_by (fun _ => XS.iconst X0.here hx rfl (hb hby own_d1_28)) ?_
        show own_Go p e below _ (s₁.setTop (mkF m 29 #[.val (.int xa)] [(.int (1 : Int32))]))
        refine own_by (fun _ => XS.goto X0.here hx rfl (pc0 := 29) (pc' := 33) rfl (hb hby own_d1_29) (by decide) (by decide)) ?_
        show own_Go p e below _ (s₁.setTop (mkF m 33 #[.val (.int xa)] [(.int (1 : Int32))]))
        exact J1 _ _ (by first | rfl | simp only [if_neg hc1_2, if_pos hc7_6]) ⟨_, X0, N0, e0⟩
      ·
        skip
        refine own_by (fun _ => XS.icmpNo X0.here hx rfl (hb hby own_d1_7) rfl (flt hc7_6).1) ?_
        show own_Go p e below _ (s₁.setTop (mkF m 10 #[.val (.int xa)] []))
        refine own_by (fun _ => XS.iloadN X0.here hx rfl (hb hby own_d1_10) rfl) ?_
        show own_Go p e below _ (s₁.setTop (mkF m 11 #[.val (.int xa)] [(.int xa)]))
        refine own_by (fun _ => XS.bipush X0.here hx rfl (hb hby own_d1_11)) ?_
        show own_Go p e below _ (s₁.setTop (mkF m 13 #[.val (.int xa)] [(.int (34 : Int32)), (.int xa)]))
        by_cases hc13_7 : xa = (34 : Int32)
        ·
          skip
          refine own_by (fun _ => XS.icmpYes X0.here hx rfl (pc0 := 13) (pc' := 28) rfl (hb hby own_d1_13) rfl (teq hc13_7).1 (by decide) (by decide)) ?_
          show own_Go p e below _ (s₁.setTop (mkF m 28 #[.val (.int xa)] []))
          refine own_by (fun _ => XS.iconst X0.here hx rfl (hb hby own_d1_28)) ?_
          show own_Go p e below _ (s₁.setTop (mkF m 29 #[.val (.int xa)] [(.int (1 : Int32))]))
          refine own_by (fun _ => XS.goto X0.here hx rfl (pc0 := 29) (pc' := 33) rfl (hb hby own_d1_29) (by decide) (by decide)) ?_
          show own_Go p e below _ (s₁.setTop (mkF m 33 #[.val (.int xa)] [(.int (1 : Int32))]))
          exact J1 _ _ (by first | rfl | simp only [if_neg hc1_2, if_neg hc7_6, if_pos hc13_7]) ⟨_, X0, N0, e0⟩
        ·
          skip
          refine own_by (fun _ => XS.icmpNo X0.here hx rfl (hb hby own_d1_13) rfl (feq hc13_7).1) ?_
          show own_Go p e below _ (s₁.setTop (mkF m 16 #[.val (.int xa)] []))
          refine own_by (fun _ => XS.iloadN X0.here hx rfl (hb hby own_d1_16) rfl) ?_
          show own_Go p e below _ (s₁.setTop (mkF m 17 #[.val (.int xa)] [(.int xa)]))
          refine own_by (fun _ => XS.bipush X0.here hx rfl (hb hby own_d1_17)) ?_
          show own_Go p e below _ (s₁.setTop (mkF m 19 #[.val (.int xa)] [(.int (92 : Int32)), (.int xa)]))
          by_cases hc19_8 : xa = (92 : Int32)
          ·
            skip
            refine own_by (fun _ => XS.icmpYes X0.here hx rfl (pc0 := 19) (pc' := 28) rfl (hb hby own_d1_19) rfl (teq hc19_8).1 (by decide) (by decide)) ?_
            show own_Go p e below _ (s₁.setTop (mkF m 28 #[.val (.int xa)] []))
            refine own_by (fun _ => XS.iconst X0.here hx rfl (hb hby own_d1_28)) ?_
            show own_Go p e below _ (s₁.setTop (mkF m 29 #[.val (.int xa)] [(.int (1 : Int32))]))
            refine own_by (fun _ => XS.goto X0.here hx rfl (pc0 := 29) (pc' := 33) rfl (hb hby own_d1_29) (by decide) (by decide)) ?_
            show own_Go p e below _ (s₁.setTop (mkF m 33 #[.val (.int xa)] [(.int (1 : Int32))]))
            exact J1 _ _ (by first | rfl | simp only [if_neg hc1_2, if_neg hc7_6, if_neg hc13_7, if_pos hc19_8]) ⟨_, X0, N0, e0⟩
          ·
            skip
            refine own_by (fun _ => XS.icmpNo X0.here hx rfl (hb hby own_d1_19) rfl (feq hc19_8).1) ?_
            show own_Go p e below _ (s₁.setTop (mkF m 22 #[.val (.int xa)] []))
            refine own_by (fun _ => XS.iloadN X0.here hx rfl (hb hby own_d1_22) rfl) ?_
            show own_Go p e below _ (s₁.setTop (mkF m 23 #[.val (.int xa)] [(.int xa)]))
            refine own_by (fun _ => XS.bipush X0.here hx rfl (hb hby own_d1_23)) ?_
            show own_Go p e below _ (s₁.setTop (mkF m 25 #[.val (.int xa)] [(.int (-30 : Int32)), (.int xa)]))
            by_cases hc25_9 : xa = (-30 : Int32)
            ·
              skip
              refine own_by (fun _ => XS.icmpNo X0.here hx rfl (hb hby own_d1_25) rfl (teq hc25_9).2) ?_
              show own_Go p e below _ (s₁.setTop (mkF m 28 #[.val (.int xa)] []))
              refine own_by (fun _ => XS.iconst X0.here hx rfl (hb hby own_d1_28)) ?_
              show own_Go p e below _ (s₁.setTop (mkF m 29 #[.val (.int xa)] [(.int (1 : Int32))]))
              refine own_by (fun _ => XS.goto X0.here hx rfl (pc0 := 29) (pc' := 33) rfl (hb hby own_d1_29) (by decide) (by decide)) ?_
              show own_Go p e below _ (s₁.setTop (mkF m 33 #[.val (.int xa)] [(.int (1 : Int32))]))
              exact J1 _ _ (by first | rfl | simp only [if_neg hc1_2, if_neg hc7_6, if_neg hc13_7, if_neg hc19_8, if_pos hc25_9]) ⟨_, X0, N0, e0⟩
            ·
              skip
              refine own_by (fun _ => XS.icmpYes X0.here hx rfl (pc0 := 25) (pc' := 32) rfl (hb hby own_d1_25) rfl (feq hc25_9).2 (by decide) (by decide)) ?_
              show own_Go p e below _ (s₁.setTop (mkF m 32 #[.val (.int xa)] []))
              refine own_by (fun _ => XS.iconst X0.here hx rfl (hb hby own_d1_32)) ?_
              show own_Go p e below _ (s₁.setTop (mkF m 33 #[.val (.int xa)] [(.int (0 : Int32))]))
              exact J1 _ _ (by first | rfl | simp only [if_neg hc1_2, if_neg hc7_6, if_neg hc13_7, if_neg hc19_8, if_neg hc25_9]) ⟨_, X0, N0, e0⟩
  intro T1 v1_t0 hv1_t0 ⟨locs1, X1, N1, e1⟩
  show own_Go p e below _ (T1.setTop (mkF m 33 #[.val (.int xa)] [(.int v1_t0)]))
  exact own_retZ X1 hx hlk e1 (by rw [hv1_t0]; (repeat' split) <;> first | exact Or.inl rfl | exact Or.inr rfl) hret (hb hby own_d1_33) (by decide) (by decide) ⟨(by subst hv1_t0; first | rfl | simp only [own_isOne]), N1, rfl⟩

def own_law (xa : Int32) : Int32 := (if (own_isOne (xa.toInt8.toInt32)) = (if (31 : Int32) < (xa &&& (255 : Int32)) then (if (xa &&& (255 : Int32)) = (34 : Int32) then (1 : Int32) else (if (xa &&& (255 : Int32)) = (92 : Int32) then (1 : Int32) else (if (xa &&& (255 : Int32)) = (226 : Int32) then (1 : Int32) else (0 : Int32)))) else (1 : Int32)) then (1 : Int32) else (0 : Int32))
theorem own_plain (xa : Int32) : own_law xa = 1 := by
  have e1 := c_i2b xa
  have e2 := c_mask xa 255 8 (by decide) (by decide)
  have k : (0 : Int32).toInt = 0 ∧ (31 : Int32).toInt = 31 ∧ (32 : Int32).toInt = 32 ∧ (34 : Int32).toInt = 34 ∧ (92 : Int32).toInt = 92 ∧ (226 : Int32).toInt = 226 ∧ (-30 : Int32).toInt = -30 := by decide
  obtain ⟨k0, k1, k2, k3, k4, k5, k6⟩ := k
  simp only [own_law, own_isOne]
  generalize xa.toInt8.toInt32 = u at *
  generalize xa &&& 255 = w at *
  simp only [Int32.lt_iff_toInt_lt, ← Int32.toInt_inj (x := u), ← Int32.toInt_inj (x := w), k0, k1, k2, k3, k4, k5, k6]
  repeat' split
  all_goals first | rfl | (exfalso; omega) | (exfalso; simp_all; done) | (exfalso; simp_all; omega)

theorem own_pn0 : plainName "com/example/delivery_queue/deliveryqueue/server/wire/JsonStringBytesIsOnePinLaw" = true := by first | (simp [plainName, overriddenIn]; done) | decide +kernel
theorem own_ef0 (m : MethodId) (x0 : Int32) : entryFrame m #[(.int x0)] maxLocals = mkF m 0 #[.val (.int x0), .unset, .unset, .unset] [] := by first | (simp [entryFrame, mkF, argsToLocals, Value.category, maxLocals]; done) | rfl
def own_Q0 (Z : State) (xa : Int32) (h0 : Heap) (n0 : Nat) (v : Option Value) (h : Heap) (L : List Loc) : Prop := v = some (.int (1 : Int32)) ∧ Fr n0 L
theorem own_rm0 (l : Launch) (Z : State) (a0 : Array Value) (hw : ∀ d ∈ tables_1, d.before a0 Z = true) (ws : List Jvm.Cond) (xa : Int32) (h0 : Heap) (n0 : Nat) (Z0 : n0 ≤ h0.size) :
    MetFree l x (head1 (Jvm.Cond.code x code maxLocals ret :: ws) room_1) (fun a U => a = #[(.int xa)] ∧ Z.Warmed39 U.vm ∧ U.heap = h0) (fun _ _ _ _ _ => True) (fun _ U o U' => ∃ v L, o = .returned v ∧ own_Q0 Z xa h0 n0 v U'.heap L ∧ FrameEnd U o U' L room_1.cells room_1.slots) := by
  refine MetFree.of_bodySF (plainFor_of_name own_pn0) hisR ?_
  intro p e s m args below meth c s₁ Bd hml0 hP hK
  obtain ⟨rfl, hZ, hh⟩ := hP
  have hx := Bd.exec
  have hby := Bd.bytes
  have hlk := Bd.notSynchronized
  have hret := Bd.returns
  have hml : c.maxLocals = 4 := hml0
  have hown : s.vm.findClass "com/example/delivery_queue/deliveryqueue/server/wire/JsonStringBytesIsOnePinLaw" = some m.cls := findClass_of_methodNamed Bd.named
  have hnm := (name_of_methodNamed Bd.named Bd.method).1
  have X0 : Stand p l e room_1 s m #[(.int xa)] below meth c s₁ [] 0 0 := Stand.of_body Bd
  have e0 : s₁.heap = h0 := by rw [← hh, Bd.state]; rfl
  have N0 := Fr.nil n0
  suffices key : own_Go p e below (own_End s below (own_Q0 Z xa h0 n0) room_1.cells room_1.slots) (s₁.setTop (mkF m 0 #[.val (.int xa), .unset, .unset, .unset] [])) by
    obtain ⟨t, k1, k2, v, L, k3, k4, k5⟩ := key
    exact ⟨t, _, castTop (own_ef0 m xa) k1, k2, k3, v, L, rfl, k4, k5⟩
  show own_Go p e below _ (s₁.setTop (mkF m 0 #[.val (.int xa), .unset, .unset, .unset] []))
  refine own_by (fun _ => XS.iloadN X0.here hx rfl (hb hby at_0) rfl) ?_
  show own_Go p e below _ (s₁.setTop (mkF m 1 #[.val (.int xa), .unset, .unset, .unset] [(.int xa)]))
  refine own_by (fun _ => XS.i2b X0.here hx rfl (hb hby at_1) rfl) ?_
  show own_Go p e below _ (s₁.setTop (mkF m 2 #[.val (.int xa), .unset, .unset, .unset] [(.int (xa.toInt8.toInt32))]))
  refine own_by (fun _ => XS.istoreN X0.here hx rfl (hb hby at_2) rfl (l' := #[.val (.int xa), .val (.int (xa.toInt8.toInt32)), .unset, .unset]) rfl) ?_
  show own_Go p e below _ (s₁.setTop (mkF m 3 #[.val (.int xa), .val (.int (xa.toInt8.toInt32)), .unset, .unset] []))
  refine own_by (fun _ => XS.iloadN X0.here hx rfl (hb hby at_3) rfl) ?_
  show own_Go p e below _ (s₁.setTop (mkF m 4 #[.val (.int xa), .val (.int (xa.toInt8.toInt32)), .unset, .unset] [(.int xa)]))
  refine own_by (fun _ => XS.sipush X0.here hx rfl (hb hby at_4)) ?_
  show own_Go p e below _ (s₁.setTop (mkF m 7 #[.val (.int xa), .val (.int (xa.toInt8.toInt32)), .unset, .unset] [(.int (255 : Int32)), (.int xa)]))
  refine own_by (fun _ => XS.iand X0.here hx rfl (hb hby at_7) rfl) ?_
  show own_Go p e below _ (s₁.setTop (mkF m 8 #[.val (.int xa), .val (.int (xa.toInt8.toInt32)), .unset, .unset] [(.int (xa &&& (255 : Int32)))]))
  refine own_by (fun _ => XS.istoreN X0.here hx rfl (hb hby at_8) rfl (l' := #[.val (.int xa), .val (.int (xa.toInt8.toInt32)), .val (.int (xa &&& (255 : Int32))), .unset]) rfl) ?_
  show own_Go p e below _ (s₁.setTop (mkF m 9 #[.val (.int xa), .val (.int (xa.toInt8.toInt32)), .val (.int (xa &&& (255 : Int32))), .unset] []))
  refine own_by (fun _ => XS.iloadN X0.here hx rfl (hb hby at_9) rfl) ?_
  show own_Go p e below _ (s₁.setTop (mkF m 10 #[.val (.int xa), .val (.int (xa.toInt8.toInt32)), .val (.int (xa &&& (255 : Int32))), .unset] [(.int (xa &&& (255 : Int32)))]))
  refine own_by (fun _ => XS.bipush X0.here hx rfl (hb hby at_10)) ?_
  show own_Go p e below _ (s₁.setTop (mkF m 12 #[.val (.int xa), .val (.int (xa.toInt8.toInt32)), .val (.int (xa &&& (255 : Int32))), .unset] [(.int (31 : Int32)), (.int (xa &&& (255 : Int32)))]))
  suffices J1 : ∀ (T' : State) (v1_3 : Int32), v1_3 = (if (31 : Int32) < (xa &&& (255 : Int32)) then (if (xa &&& (255 : Int32)) = (34 : Int32) then (1 : Int32) else (if (xa &&& (255 : Int32)) = (92 : Int32) then (1 : Int32) else (if (xa &&& (255 : Int32)) = (226 : Int32) then (1 : Int32) else (0 : Int32)))) else (1 : Int32)) → own_At p l e room_1 s m #[(.int xa)] below meth c n0 T' h0 0 0 → own_Go p e below (own_End s below (own_Q0 Z xa h0 n0) room_1.cells room_1.slots) (T'.setTop (mkF m 56 #[.val (.int xa), .val (.int (xa.toInt8.toInt32)), .val (.int (xa &&& (255 : Int32))), .val (.int v1_3)] [])) by
    by_cases hc12_2 : (31 : Int32) < (xa &&& (255 : Int32))
    ·
      skip
      refine own_by (fun _ => XS.icmpYes X0.here hx rfl (pc0 := 12) (pc' := 20) rfl (hb hby at_12) rfl (tlt hc12_2).2.2.1 (by decide) (by decide)) ?_
      show own_Go p e below _ (s₁.setTop (mkF m 20 #[.val (.int xa), .val (.int (xa.toInt8.toInt32)), .val (.int (xa &&& (255 : Int32))), .unset] []))
      refine own_by (fun _ => XS.iloadN X0.here hx rfl (hb hby at_20) rfl) ?_
      show own_Go p e below _ (s₁.setTop (mkF m 21 #[.val (.int xa), .val (.int (xa.toInt8.toInt32)), .val (.int (xa &&& (255 : Int32))), .unset] [(.int (xa &&& (255 : Int32)))]))
      refine own_by (fun _ => XS.bipush X0.here hx rfl (hb hby at_21)) ?_
      show own_Go p e below _ (s₁.setTop (mkF m 23 #[.val (.int xa), .val (.int (xa.toInt8.toInt32)), .val (.int (xa &&& (255 : Int32))), .unset] [(.int (34 : Int32)), (.int (xa &&& (255 : Int32)))]))
      by_cases hc23_3 : (xa &&& (255 : Int32)) = (34 : Int32)
      ·
        skip
        refine own_by (fun _ => XS.icmpNo X0.here hx rfl (hb hby at_23) rfl (teq hc23_3).2) ?_
        show own_Go p e below _ (s₁.setTop (mkF m 26 #[.val (.int xa), .val (.int (xa.toInt8.toInt32)), .val (.int (xa &&& (255 : Int32))), .unset] []))
        refine own_by (fun _ => XS.iconst X0.here hx rfl (hb hby at_26)) ?_
        show own_Go p e below _ (s₁.setTop (mkF m 27 #[.val (.int xa), .val (.int (xa.toInt8.toInt32)), .val (.int (xa &&& (255 : Int32))), .unset] [(.int (1 : Int32))]))
        refine own_by (fun _ => XS.istoreN X0.here hx rfl (hb hby at_27) rfl (l' := #[.val (.int xa), .val (.int (xa.toInt8.toInt32)), .val (.int (xa &&& (255 : Int32))), .val (.int (1 : Int32))]) rfl) ?_
        show own_Go p e below _ (s₁.setTop (mkF m 28 #[.val (.int xa), .val (.int (xa.toInt8.toInt32)), .val (.int (xa &&& (255 : Int32))), .val (.int (1 : Int32))] []))
        refine own_by (fun _ => XS.goto X0.here hx rfl (pc0 := 28) (pc' := 56) rfl (hb hby at_28) (by decide) (by decide)) ?_
        show own_Go p e below _ (s₁.setTop (mkF m 56 #[.val (.int xa), .val (.int (xa.toInt8.toInt32)), .val (.int (xa &&& (255 : Int32))), .val (.int (1 : Int32))] []))
        exact J1 _ _ (by first | rfl | simp only [if_pos hc12_2, if_pos hc23_3]) ⟨_, X0, N0, e0⟩
      ·
        skip
        refine own_by (fun _ => XS.icmpYes X0.here hx rfl (pc0 := 23) (pc' := 31) rfl (hb hby at_23) rfl (feq hc23_3).2 (by decide) (by decide)) ?_
        show own_Go p e below _ (s₁.setTop (mkF m 31 #[.val (.int xa), .val (.int (xa.toInt8.toInt32)), .val (.int (xa &&& (255 : Int32))), .unset] []))
        refine own_by (fun _ => XS.iloadN X0.here hx rfl (hb hby at_31) rfl) ?_
        show own_Go p e below _ (s₁.setTop (mkF m 32 #[.val (.int xa), .val (.int (xa.toInt8.toInt32)), .val (.int (xa &&& (255 : Int32))), .unset] [(.int (xa &&& (255 : Int32)))]))
        refine own_by (fun _ => XS.bipush X0.here hx rfl (hb hby at_32)) ?_
        show own_Go p e below _ (s₁.setTop (mkF m 34 #[.val (.int xa), .val (.int (xa.toInt8.toInt32)), .val (.int (xa &&& (255 : Int32))), .unset] [(.int (92 : Int32)), (.int (xa &&& (255 : Int32)))]))
        by_cases hc34_4 : (xa &&& (255 : Int32)) = (92 : Int32)
        ·
          skip
          refine own_by (fun _ => XS.icmpNo X0.here hx rfl (hb hby at_34) rfl (teq hc34_4).2) ?_
          show own_Go p e below _ (s₁.setTop (mkF m 37 #[.val (.int xa), .val (.int (xa.toInt8.toInt32)), .val (.int (xa &&& (255 : Int32))), .unset] []))
          refine own_by (fun _ => XS.iconst X0.here hx rfl (hb hby at_37)) ?_
          show own_Go p e below _ (s₁.setTop (mkF m 38 #[.val (.int xa), .val (.int (xa.toInt8.toInt32)), .val (.int (xa &&& (255 : Int32))), .unset] [(.int (1 : Int32))]))
          refine own_by (fun _ => XS.istoreN X0.here hx rfl (hb hby at_38) rfl (l' := #[.val (.int xa), .val (.int (xa.toInt8.toInt32)), .val (.int (xa &&& (255 : Int32))), .val (.int (1 : Int32))]) rfl) ?_
          show own_Go p e below _ (s₁.setTop (mkF m 39 #[.val (.int xa), .val (.int (xa.toInt8.toInt32)), .val (.int (xa &&& (255 : Int32))), .val (.int (1 : Int32))] []))
          refine own_by (fun _ => XS.goto X0.here hx rfl (pc0 := 39) (pc' := 56) rfl (hb hby at_39) (by decide) (by decide)) ?_
          show own_Go p e below _ (s₁.setTop (mkF m 56 #[.val (.int xa), .val (.int (xa.toInt8.toInt32)), .val (.int (xa &&& (255 : Int32))), .val (.int (1 : Int32))] []))
          exact J1 _ _ (by first | rfl | simp only [if_pos hc12_2, if_neg hc23_3, if_pos hc34_4]) ⟨_, X0, N0, e0⟩
        ·
          skip
          refine own_by (fun _ => XS.icmpYes X0.here hx rfl (pc0 := 34) (pc' := 42) rfl (hb hby at_34) rfl (feq hc34_4).2 (by decide) (by decide)) ?_
          show own_Go p e below _ (s₁.setTop (mkF m 42 #[.val (.int xa), .val (.int (xa.toInt8.toInt32)), .val (.int (xa &&& (255 : Int32))), .unset] []))
          refine own_by (fun _ => XS.iloadN X0.here hx rfl (hb hby at_42) rfl) ?_
          show own_Go p e below _ (s₁.setTop (mkF m 43 #[.val (.int xa), .val (.int (xa.toInt8.toInt32)), .val (.int (xa &&& (255 : Int32))), .unset] [(.int (xa &&& (255 : Int32)))]))
          refine own_by (fun _ => XS.sipush X0.here hx rfl (hb hby at_43)) ?_
          show own_Go p e below _ (s₁.setTop (mkF m 46 #[.val (.int xa), .val (.int (xa.toInt8.toInt32)), .val (.int (xa &&& (255 : Int32))), .unset] [(.int (226 : Int32)), (.int (xa &&& (255 : Int32)))]))
          by_cases hc46_5 : (xa &&& (255 : Int32)) = (226 : Int32)
          ·
            skip
            refine own_by (fun _ => XS.icmpNo X0.here hx rfl (hb hby at_46) rfl (teq hc46_5).2) ?_
            show own_Go p e below _ (s₁.setTop (mkF m 49 #[.val (.int xa), .val (.int (xa.toInt8.toInt32)), .val (.int (xa &&& (255 : Int32))), .unset] []))
            refine own_by (fun _ => XS.iconst X0.here hx rfl (hb hby at_49)) ?_
            show own_Go p e below _ (s₁.setTop (mkF m 50 #[.val (.int xa), .val (.int (xa.toInt8.toInt32)), .val (.int (xa &&& (255 : Int32))), .unset] [(.int (1 : Int32))]))
            refine own_by (fun _ => XS.istoreN X0.here hx rfl (hb hby at_50) rfl (l' := #[.val (.int xa), .val (.int (xa.toInt8.toInt32)), .val (.int (xa &&& (255 : Int32))), .val (.int (1 : Int32))]) rfl) ?_
            show own_Go p e below _ (s₁.setTop (mkF m 51 #[.val (.int xa), .val (.int (xa.toInt8.toInt32)), .val (.int (xa &&& (255 : Int32))), .val (.int (1 : Int32))] []))
            refine own_by (fun _ => XS.goto X0.here hx rfl (pc0 := 51) (pc' := 56) rfl (hb hby at_51) (by decide) (by decide)) ?_
            show own_Go p e below _ (s₁.setTop (mkF m 56 #[.val (.int xa), .val (.int (xa.toInt8.toInt32)), .val (.int (xa &&& (255 : Int32))), .val (.int (1 : Int32))] []))
            exact J1 _ _ (by first | rfl | simp only [if_pos hc12_2, if_neg hc23_3, if_neg hc34_4, if_pos hc46_5]) ⟨_, X0, N0, e0⟩
          ·
            skip
            refine own_by (fun _ => XS.icmpYes X0.here hx rfl (pc0 := 46) (pc' := 54) rfl (hb hby at_46) rfl (feq hc46_5).2 (by decide) (by decide)) ?_
            show own_Go p e below _ (s₁.setTop (mkF m 54 #[.val (.int xa), .val (.int (xa.toInt8.toInt32)), .val (.int (xa &&& (255 : Int32))), .unset] []))
            refine own_by (fun _ => XS.iconst X0.here hx rfl (hb hby at_54)) ?_
            show own_Go p e below _ (s₁.setTop (mkF m 55 #[.val (.int xa), .val (.int (xa.toInt8.toInt32)), .val (.int (xa &&& (255 : Int32))), .unset] [(.int (0 : Int32))]))
            refine own_by (fun _ => XS.istoreN X0.here hx rfl (hb hby at_55) rfl (l' := #[.val (.int xa), .val (.int (xa.toInt8.toInt32)), .val (.int (xa &&& (255 : Int32))), .val (.int (0 : Int32))]) rfl) ?_
            show own_Go p e below _ (s₁.setTop (mkF m 56 #[.val (.int xa), .val (.int (xa.toInt8.toInt32)), .val (.int (xa &&& (255 : Int32))), .val (.int (0 : Int32))] []))
            exact J1 _ _ (by first | rfl | simp only [if_pos hc12_2, if_neg hc23_3, if_neg hc34_4, if_neg hc46_5]) ⟨_, X0, N0, e0⟩
    ·
      skip
      refine own_by (fun _ => XS.icmpNo X0.here hx rfl (hb hby at_12) rfl (flt hc12_2).2.2.1) ?_
      show own_Go p e below _ (s₁.setTop (mkF m 15 #[.val (.int xa), .val (.int (xa.toInt8.toInt32)), .val (.int (xa &&& (255 : Int32))), .unset] []))
      refine own_by (fun _ => XS.iconst X0.here hx rfl (hb hby at_15)) ?_
      show own_Go p e below _ (s₁.setTop (mkF m 16 #[.val (.int xa), .val (.int (xa.toInt8.toInt32)), .val (.int (xa &&& (255 : Int32))), .unset] [(.int (1 : Int32))]))
      refine own_by (fun _ => XS.istoreN X0.here hx rfl (hb hby at_16) rfl (l' := #[.val (.int xa), .val (.int (xa.toInt8.toInt32)), .val (.int (xa &&& (255 : Int32))), .val (.int (1 : Int32))]) rfl) ?_
      show own_Go p e below _ (s₁.setTop (mkF m 17 #[.val (.int xa), .val (.int (xa.toInt8.toInt32)), .val (.int (xa &&& (255 : Int32))), .val (.int (1 : Int32))] []))
      refine own_by (fun _ => XS.goto X0.here hx rfl (pc0 := 17) (pc' := 56) rfl (hb hby at_17) (by decide) (by decide)) ?_
      show own_Go p e below _ (s₁.setTop (mkF m 56 #[.val (.int xa), .val (.int (xa.toInt8.toInt32)), .val (.int (xa &&& (255 : Int32))), .val (.int (1 : Int32))] []))
      exact J1 _ _ (by first | rfl | simp only [if_neg hc12_2]) ⟨_, X0, N0, e0⟩
  intro T1 v1_3 hv1_3 ⟨locs1, X1, N1, e1⟩
  show own_Go p e below _ (T1.setTop (mkF m 56 #[.val (.int xa), .val (.int (xa.toInt8.toInt32)), .val (.int (xa &&& (255 : Int32))), .val (.int v1_3)] []))
  refine own_by (fun _ => XS.iloadN X1.here hx rfl (hb hby at_56) rfl) ?_
  show own_Go p e below _ (T1.setTop (mkF m 57 #[.val (.int xa), .val (.int (xa.toInt8.toInt32)), .val (.int (xa &&& (255 : Int32))), .val (.int v1_3)] [(.int (xa.toInt8.toInt32))]))
  obtain ⟨_, _, ⟨T6, L6, k6, n6⟩, -, X6, ⟨Lc6, hQ6, l6, y6, z6'⟩, st6⟩ := Jvm.LawKit.callS X1 hx (y := (⟨"com/example/delivery_queue/deliveryqueue/server/wire/JsonStringBytes", "isOne", "(B)Z"⟩ : MethodName)) hown (mvT hZ (hw _ (List.mem_of_getElem? (i := 0) rfl))) (mvT hZ (hw _ (List.mem_of_getElem? (i := 1) rfl))) (mvT hZ (hw _ (List.mem_of_getElem? (i := 2) rfl))) (mvT hZ (hw _ (List.mem_of_getElem? (i := 3) rfl))) (by decide) (backOf (W := 0) (own_rm1 l Z a0 hw [] (xa.toInt8.toInt32) h0 n0 Z0 ) hZ (hw _ (List.mem_of_getElem? (i := 3) rfl)) (hw _ (List.mem_of_getElem? (i := 2) rfl)) (by decide) (by decide)) (g := (mkF m 57 #[.val (.int xa), .val (.int (xa.toInt8.toInt32)), .val (.int (xa &&& (255 : Int32))), .val (.int v1_3)] [(.int (xa.toInt8.toInt32))])) rfl (by rw [hml]; rfl) (argsL := [(.int (xa.toInt8.toInt32))]) (rest := []) (lenOf own_pd0 rfl) rfl (by show 2 * 0 + _ ≤ _; exact Nat.le_of_eq rfl) (hb hby at_57) (fun _ _ => ⟨rfl, e1, (by decide : 0 + 0 ≤ _), (by decide : 0 + 0 ≤ _)⟩)
  dsimp only [Pt.U, Pt.locs, Pt.cells, Pt.slots] at X6 l6 y6 z6' st6 hQ6
  subst l6 y6 z6'
  obtain ⟨rfl, N6q, e6⟩ := hQ6
  have N6 := Fr.app N1 N6q
  refine own_by st6 ?_
  show own_Go p e below _ (T6.setTop (mkF m 60 #[.val (.int xa), .val (.int (xa.toInt8.toInt32)), .val (.int (xa &&& (255 : Int32))), .val (.int v1_3)] [(.int (own_isOne (xa.toInt8.toInt32)))]))
  refine own_by (fun _ => XS.iloadN X6.here hx rfl (hb hby at_60) rfl) ?_
  show own_Go p e below _ (T6.setTop (mkF m 61 #[.val (.int xa), .val (.int (xa.toInt8.toInt32)), .val (.int (xa &&& (255 : Int32))), .val (.int v1_3)] [(.int v1_3), (.int (own_isOne (xa.toInt8.toInt32)))]))
  suffices J7 : ∀ (T' : State) (v7_t0 : Int32), v7_t0 = (if (own_isOne (xa.toInt8.toInt32)) = v1_3 then (1 : Int32) else (0 : Int32)) → own_At p l e room_1 s m #[(.int xa)] below meth c n0 T' h0 0 0 → own_Go p e below (own_End s below (own_Q0 Z xa h0 n0) room_1.cells room_1.slots) (T'.setTop (mkF m 69 #[.val (.int xa), .val (.int (xa.toInt8.toInt32)), .val (.int (xa &&& (255 : Int32))), .val (.int v1_3)] [(.int v7_t0)])) by
    by_cases hc61_8 : (own_isOne (xa.toInt8.toInt32)) = v1_3
    ·
      skip
      refine own_by (fun _ => XS.icmpNo X6.here hx rfl (hb hby at_61) rfl (teq hc61_8).2) ?_
      show own_Go p e below _ (T6.setTop (mkF m 64 #[.val (.int xa), .val (.int (xa.toInt8.toInt32)), .val (.int (xa &&& (255 : Int32))), .val (.int v1_3)] []))
      refine own_by (fun _ => XS.iconst X6.here hx rfl (hb hby at_64)) ?_
      show own_Go p e below _ (T6.setTop (mkF m 65 #[.val (.int xa), .val (.int (xa.toInt8.toInt32)), .val (.int (xa &&& (255 : Int32))), .val (.int v1_3)] [(.int (1 : Int32))]))
      refine own_by (fun _ => XS.goto X6.here hx rfl (pc0 := 65) (pc' := 69) rfl (hb hby at_65) (by decide) (by decide)) ?_
      show own_Go p e below _ (T6.setTop (mkF m 69 #[.val (.int xa), .val (.int (xa.toInt8.toInt32)), .val (.int (xa &&& (255 : Int32))), .val (.int v1_3)] [(.int (1 : Int32))]))
      exact J7 _ _ (by first | rfl | simp only [if_pos hc61_8]) ⟨_, X6, N6, e6⟩
    ·
      skip
      refine own_by (fun _ => XS.icmpYes X6.here hx rfl (pc0 := 61) (pc' := 68) rfl (hb hby at_61) rfl (feq hc61_8).2 (by decide) (by decide)) ?_
      show own_Go p e below _ (T6.setTop (mkF m 68 #[.val (.int xa), .val (.int (xa.toInt8.toInt32)), .val (.int (xa &&& (255 : Int32))), .val (.int v1_3)] []))
      refine own_by (fun _ => XS.iconst X6.here hx rfl (hb hby at_68)) ?_
      show own_Go p e below _ (T6.setTop (mkF m 69 #[.val (.int xa), .val (.int (xa.toInt8.toInt32)), .val (.int (xa &&& (255 : Int32))), .val (.int v1_3)] [(.int (0 : Int32))]))
      exact J7 _ _ (by first | rfl | simp only [if_neg hc61_8]) ⟨_, X6, N6, e6⟩
  intro T7 v7_t0 hv7_t0 ⟨locs7, X7, N7, e7⟩
  show own_Go p e below _ (T7.setTop (mkF m 69 #[.val (.int xa), .val (.int (xa.toInt8.toInt32)), .val (.int (xa &&& (255 : Int32))), .val (.int v1_3)] [(.int v7_t0)]))
  exact own_retZ X7 hx hlk e7 (by rw [hv7_t0]; (repeat' split) <;> first | exact Or.inl rfl | exact Or.inr rfl) hret (hb hby at_69) (by decide) (by decide) ⟨(congrArg some (congrArg Value.int (by subst hv7_t0; subst hv1_3; exact own_plain xa : v7_t0 = (1 : Int32)))), N7⟩

theorem own_comes {Post : Tables → Env → Array Value → State → Outcome → State → Prop} (hpost : ∀ tb e args s v u, (limb_1_1.after args s (.returned v) u = true ∧ limb_1_2.after args s (.returned v) u = true ∧ True) → FrameEnd s (.returned v) u (Jvm.fieldLocs frame_1_writes args s ++ Jvm.arrayLocs frame_1_arrays args s ++ Jvm.staticLocs frame_1_statics s) 0 0 → Post tb e args s (.returned v) u) :
    ArmFor flags0 classFile x code maxLocals ret World_1 tables_1 room_1 Calls_1 rest_1 Pre_1 Post := by
  intro l hfl _ _ p e ha hc hk s m args below hf hA hF happ hP
  obtain ⟨hcalls, hrest, hpre⟩ := hP
  obtain ⟨-, -, -, hnamed, -, -, -, hat⟩ := (Spec.applies_iff hf).mp happ
  obtain ⟨hg, hn⟩ := and_e (Cond.before_iff.mp (show (Jvm.Cond.and given_1 narrow_1).before args s = true from hpre))
  obtain ⟨hg1, hg2⟩ := and_e hg
  obtain ⟨w0, rfl⟩ : ∃ w0 : Value, args = #[w0] := by
    have hs : args.size = 1 := by simpa [Cond.value, given_1] using hg1
    obtain ⟨L⟩ := args
    match L, hs with
    | [w0], _ => exact ⟨w0, rfl⟩
  have hw := fun d (hd : d ∈ tables_1) => atoms_spec (ws := Jvm.Cond.code x code maxLocals ret :: tables_1) hat d (List.mem_cons_of_mem _ hd)
  have hfit : Fit s := fun {y c} hc i hi => by
    obtain ⟨ha, rfl⟩ := Array.getElem?_eq_some_iff.mp hc
    have q := List.all_eq_true.mp ((Array.all_eq_true_iff_forall_mem.mp hF) _ (Array.getElem_mem ha)) i (List.mem_range.mpr hi)
    simpa [Array.getElem?_eq_getElem hi] using q
  obtain ⟨i0, ei0⟩ := is_v hg2
  obtain rfl : w0 = (.int i0) := Option.some.inj ei0
  obtain ⟨n, o, h1, h2, h3, _, L, rfl, ⟨rfl, N⟩, hq⟩ := own_rm0 l s _ hw tables_1 i0 s.heap s.heap.size (Nat.le_refl _) p e ha hc hk s m _ below hf ((Spec.applies_iff_loose hf).mp happ).1 ⟨rfl, State.Warmed39.refl s, rfl⟩ trivial
  refine ⟨n, _, h1, h2, h3, hpost _ _ _ _ _ _ ⟨Cond.after_iff.mpr rfl, Cond.after_iff.mpr (eq_i res_at (Term.int_eval (1)) rfl), trivial⟩ ⟨hq.1, hq.2.1, (hq.2.2.sift fun y hy => Or.inr (N y hy)).mono (by decide) (by decide)⟩⟩
theorem main_1_1 : Claimed_1_1 := own_comes fun _ _ _ _ _ _ h hF => ⟨h.1, hF⟩
theorem main_1_2 : Claimed_1_2 := own_comes fun _ _ _ _ _ _ h hF => ⟨h.2.1, hF⟩
end Jvm.Pilot.@@N@@
namespace Jvm.Pilot.@@N@@
open Jvm Jvm.ClassFile Sem Op Lib Jvm.Free Jvm.Stand Jvm.Pilot.@@N@@.Jvm.D
/-! MADE BY PROGRAM (witnessworld.py) out of the Statement's table words and the real class files: 9 classes; the members and pool entries that the words name. The judged class is class 1, her method 1. -/
namespace start1
open Jvm.ClassFile
def u (s : String) : CpInfo := .utf8 (stringToUtf16 s)
/-- a pool by its gaps: so many unusable entries, then the entry; so many at the end -/
def gap : Nat → List CpInfo → List CpInfo
  | 0, r => r
  | n + 1, r => .unusable :: gap n r
def poolList (es : List (Nat × CpInfo)) (last : Nat) : List CpInfo := es.foldr (fun e r => gap e.1 (e.2 :: r)) (gap last [])
def pool (es : List (Nat × CpInfo)) (last : Nat) : Array CpInfo := ⟨poolList es last⟩
def fileOf (pool : Array CpInfo) (this : Nat) (attrs : Array Attribute := #[]) (ms : Array MethodInfo := #[]) (fl : Nat := 33) (sup : Nat := 0) (ifs : Array Nat := #[]) (fds : Array FieldInfo := #[]) : ClassFile where
  minorVersion := 0
  majorVersion := 65
  constantPool := pool
  accessFlags := fl
  thisClass := this
  superClass := sup
  interfaces := ifs
  fields := fds
  methods := ms
  attributes := attrs
def plain (name : String) (sup : Option ClassId) : Class where
  name := name
  kind := .ordinary
  loader := none
  accessFlags := 33
  super := sup
  interfaces := #[]
  cf := none
  fields := #[]
  methods := #[]
  instanceTypes := #[]
  staticTypes := #[]
  resolved := #[]
  callSites := []
  init := .initialized
  statics := none
  mirror := none

def pool0 : Array CpInfo := pool [(5, u "<init>"), (0, u "()V"), (1, .class_ 10), (1, u "java/lang/Object")] 113

def k0m0 : Method := { name := "<init>", desc := "()V", sig := { parameters := [], returnType := none }, accessFlags := 1, code := none }
/-- java/lang/Object -/
def k0 : Class := { plain "java/lang/Object" none with
  accessFlags := 33
  interfaces := #[]
  cf := some (fileOf pool0 8 #[] #[{ accessFlags := 1, nameIndex := 5, descriptorIndex := 6, attributes := #[] }] 33 0 #[] #[])
  fields := #[]
  methods := #[k0m0]
  instanceTypes := #[]
  staticTypes := #[]
  resolved := Array.replicate 124 none
  statics := none }

def pool1 : Array CpInfo := pool [(2, .class_ 4), (1, u "java/lang/Object"), (0, u "<init>"), (0, u "()V"), (0, .methodref 8 9), (0, .class_ 10), (0, .nameAndType 11 12), (0, u "com/example/delivery_queue/deliveryqueue/server/wire/JsonStringBytes"), (0, u "isOne"), (0, u "(B)Z"), (0, .class_ 14), (0, u "com/example/delivery_queue/deliveryqueue/server/wire/JsonStringBytesIsOnePinLaw"), (2, u "law"), (0, u "(I)Z")] 3

def k1m0 : Method := { name := "<init>", desc := "()V", sig := { parameters := [], returnType := none }, accessFlags := 2, code := none }
def k1c1 : Code := { maxStack := 2, maxLocals := 4, code := code, exceptionTable := #[], attributes := #[] }
def k1m1 : Method := { name := "law", desc := "(I)Z", sig := { parameters := [.int], returnType := some .boolean }, accessFlags := 9, code := some k1c1 }
/-- com/example/delivery_queue/deliveryqueue/server/wire/JsonStringBytesIsOnePinLaw -/
def k1 : Class := { plain "com/example/delivery_queue/deliveryqueue/server/wire/JsonStringBytesIsOnePinLaw" (some 0) with
  accessFlags := 49
  interfaces := #[]
  cf := some (fileOf pool1 13 #[] #[{ accessFlags := 2, nameIndex := 5, descriptorIndex := 6, attributes := #[] }, { accessFlags := 9, nameIndex := 17, descriptorIndex := 18, attributes := #[] }] 49 2 #[] #[])
  fields := #[]
  methods := #[k1m0, k1m1]
  instanceTypes := #[]
  staticTypes := #[]
  resolved := Array.replicate 22 none
  statics := none }

def pool2 : Array CpInfo := pool [(2, .class_ 4), (1, u "java/lang/Object"), (0, u "<init>"), (0, u "()V"), (3, .class_ 12), (1, u "com/example/delivery_queue/deliveryqueue/server/wire/JsonStringBytes"), (0, u "WORDS"), (0, u "Ljava/lang/invoke/VarHandle;"), (12, u "isOne"), (0, u "(B)Z"), (32, u "SEPARATOR_LEAD"), (0, u "B"), (2, u "LOW_BITS"), (0, u "J"), (0, u "HIGH_BITS")] 8

def k2m0 : Method := { name := "<init>", desc := "()V", sig := { parameters := [], returnType := none }, accessFlags := 2, code := none }
def k2c1 : Code := { maxStack := 2, maxLocals := 1, code := prog_100_method_3_code, exceptionTable := #[], attributes := #[] }
def k2m1 : Method := { name := "isOne", desc := "(B)Z", sig := { parameters := [.byte], returnType := some .boolean }, accessFlags := 8, code := some k2c1 }
/-- com/example/delivery_queue/deliveryqueue/server/wire/JsonStringBytes -/
def k2 : Class := { plain "com/example/delivery_queue/deliveryqueue/server/wire/JsonStringBytes" (some 0) with
  accessFlags := 32
  interfaces := #[]
  cf := some (fileOf pool2 10 #[] #[{ accessFlags := 2, nameIndex := 5, descriptorIndex := 6, attributes := #[] }, { accessFlags := 8, nameIndex := 27, descriptorIndex := 28, attributes := #[] }] 32 2 #[] #[{ accessFlags := 24, nameIndex := 61, descriptorIndex := 62, attributes := #[] }, { accessFlags := 26, nameIndex := 13, descriptorIndex := 14, attributes := #[] }, { accessFlags := 26, nameIndex := 65, descriptorIndex := 66, attributes := #[] }, { accessFlags := 26, nameIndex := 67, descriptorIndex := 66, attributes := #[] }])
  fields := #[{ name := "SEPARATOR_LEAD", type := .byte, accessFlags := 24, slot := 0, constantValue := 0 }, { name := "WORDS", type := (.object "java/lang/invoke/VarHandle"), accessFlags := 26, slot := 1, constantValue := 0 }, { name := "LOW_BITS", type := .long, accessFlags := 26, slot := 2, constantValue := 0 }, { name := "HIGH_BITS", type := .long, accessFlags := 26, slot := 3, constantValue := 0 }]
  methods := #[k2m0, k2m1]
  instanceTypes := #[]
  staticTypes := #[.byte, (.object "java/lang/invoke/VarHandle"), .long, .long]
  resolved := Array.replicate 76 none
  statics := none }

def pool3 : Array CpInfo := pool [(1, u "java/lang/Cloneable"), (0, .class_ 1), (0, u "java/lang/Object"), (0, .class_ 3)] 3

/-- java/lang/Cloneable -/
def k3 : Class := { plain "java/lang/Cloneable" (some 0) with
  accessFlags := 1537
  interfaces := #[]
  cf := some (fileOf pool3 2 #[] #[] 1537 4 #[] #[])
  fields := #[]
  methods := #[]
  instanceTypes := #[]
  staticTypes := #[]
  resolved := Array.replicate 8 none
  statics := none }

def pool4 : Array CpInfo := pool [(1, u "java/io/Serializable"), (0, .class_ 1), (0, u "java/lang/Object"), (0, .class_ 3)] 3

/-- java/io/Serializable -/
def k4 : Class := { plain "java/io/Serializable" (some 0) with
  accessFlags := 1537
  interfaces := #[]
  cf := some (fileOf pool4 2 #[] #[] 1537 4 #[] #[])
  fields := #[]
  methods := #[]
  instanceTypes := #[]
  staticTypes := #[]
  resolved := Array.replicate 8 none
  statics := none }

/-- the primitive byte -/
def k5 : Class := { plain "byte" none with kind := .primitive 'B', accessFlags := 0x411 }
/-- [B -/
def k6 : Class := { plain "[B" (some 0) with kind := .array 5 .byte, interfaces := #[3, 4], accessFlags := 1041 }

/-- the primitive int -/
def k7 : Class := { plain "int" none with kind := .primitive 'I', accessFlags := 0x411 }
/-- [I -/
def k8 : Class := { plain "[I" (some 0) with kind := .array 7 .int, interfaces := #[3, 4], accessFlags := 1041 }

def heap : Heap := #[]
def classes : Array Class := #[k0, k1, k2, k3, k4, k5, k6, k7, k8]
def interned : List (Array UInt16 × Addr) := []
def slotsUsed : Nat := 0
def theMethod : MethodId := ⟨1, 1⟩
def args0 : Array Value := #[.int 5]
def aboutOver (below : List Frame) : State where
  vm := { classes := classes, interned := interned.toArray }
  heap := heap
  slotsUsed := slotsUsed
  threads := #[{ frames := .invoking theMethod args0 :: below }]
def below0 : List Frame := [.native { method := ⟨0, 0⟩, args := #[] }]
def about1 : State := aboutOver below0
def p0 : Program := .bare "" "" ""
def e0 : Env := launch0.env 0 0 0
theorem w_frames : about1.frames = Frame.invoking theMethod args0 :: below0 := rfl
set_option maxRecDepth 65536 in
theorem w_args : argsFit about1.vm theMethod args0 = true := by decide +kernel
set_option maxRecDepth 65536 in
theorem w_heap : heapFits about1 = true := by decide +kernel
set_option maxRecDepth 65536 in
theorem w_runnable : about1.curStatus? = some .runnable := by decide +kernel
set_option maxRecDepth 65536 in
theorem w_alone : about1.alone = true := by decide +kernel
set_option maxRecDepth 65536 in
theorem w_named : about1.methodNamed? x = some theMethod := by decide +kernel
set_option maxRecDepth 65536 in
theorem w_hears : about1.hears theMethod below0 = true := by decide +kernel
set_option maxRecDepth 65536 in
theorem w_ripe : about1.ripe theMethod args0 below0 = true := by decide +kernel
theorem w_running : about1.status = .running := rfl
set_option maxRecDepth 65536 in
theorem w_room : about1.hasRoom e0.platform room_1 = true :=
  launch0.hasRoom_least _ room_1 (by decide +kernel) (by decide +kernel) (by decide +kernel) (by decide +kernel) (by decide +kernel) (by decide +kernel)
theorem allAtoms_all (ts : List Jvm.Cond) (a : Array Jvm.Value) (st : Jvm.State) : (allAtoms ts).before a st = ts.all (fun c => c.before a st) := by
  induction ts with
  | nil => rfl
  | cons c t ih =>
    show (Jvm.Cond.and c (allAtoms t)).before a st = _
    rw [Jvm.Cond.before_and, ih, List.all_cons]
def words1 : List Jvm.Cond := Jvm.Cond.code x code maxLocals ret :: tables_1
/-- a 'code' word, met by the world's own term for the bytes: nothing is compared byte by byte -/
theorem code_word {y : MethodName} {bytes : ByteArray} {mx : Nat} {rt : Option FieldType} {a : Array Value} {s : State} {m : MethodId} {meth : Method} {c : Code} (h1 : s.methodNamed? y = some m) (h2 : s.vm.method? m = some meth) (h3 : meth.code = some c) (h4 : c.code = bytes)
    (h5 : (c.maxLocals == mx && c.exceptionTable.isEmpty && decide (c.maxStack ≤ mostOperands) && decide (meth.sig.returnType = rt) && !meth.locks && decide (parseMethodDescriptor y.desc = some meth.sig)) = true) : (Jvm.Cond.code y bytes mx rt).before a s = true := by
  simp only [Bool.and_eq_true, beq_iff_eq, Bool.not_eq_true', decide_eq_true_eq] at h5
  obtain ⟨⟨⟨⟨⟨g1, g2⟩, g3⟩, g4⟩, g5⟩, g6⟩ := h5
  simp [Cond.before, Cond.holds, Cond.value, h1, h2, h3, h4, g1, g2, g3, g4, g5, g6]
def isCode : Jvm.Cond → Bool
  | .code _ _ _ _ => true
  | _ => false
theorem all_split {L : List Jvm.Cond} {P : Jvm.Cond → Bool} (h1 : L.all (fun c => isCode c || P c) = true) (h2 : ∀ c ∈ L.filter isCode, P c = true) : L.all P = true := by
  refine List.all_eq_true.mpr fun c hc => ?_
  have h := List.all_eq_true.mp h1 c hc
  rcases Bool.eq_false_or_eq_true (isCode c) with hi | hi
  · exact h2 c (List.mem_filter.mpr ⟨hc, hi⟩)
  · simpa [hi] using h
set_option maxRecDepth 65536 in
theorem w_c0 : (Jvm.Cond.code x code maxLocals ret).before args0 about1 = true := code_word (m := ⟨1, 1⟩) (meth := k1m1) (c := k1c1) (by decide +kernel) rfl rfl rfl (by decide +kernel)
set_option maxRecDepth 65536 in
theorem w_c1 : (Jvm.Cond.code ({ cls := "com/example/delivery_queue/deliveryqueue/server/wire/JsonStringBytes", name := "isOne", desc := "(B)Z" } : Jvm.MethodName) prog_100_method_3_code (1 : Nat) (Option.some Jvm.ClassFile.FieldType.boolean)).before args0 about1 = true := code_word (m := ⟨2, 1⟩) (meth := k2m1) (c := k2c1) (by decide +kernel) rfl rfl rfl (by decide +kernel)
def codes1 : List Jvm.Cond := [Jvm.Cond.code x code maxLocals ret, Jvm.Cond.code ({ cls := "com/example/delivery_queue/deliveryqueue/server/wire/JsonStringBytes", name := "isOne", desc := "(B)Z" } : Jvm.MethodName) prog_100_method_3_code (1 : Nat) (Option.some Jvm.ClassFile.FieldType.boolean)]
set_option maxRecDepth 65536 in
theorem codes_eq : words1.filter isCode = codes1 := rfl
theorem w_codes : ∀ c ∈ words1.filter isCode, c.before args0 about1 = true := by
  rw [codes_eq]
  intro c hc
  simp only [codes1, List.mem_cons, List.not_mem_nil, or_false] at hc
  rcases hc with rfl | rfl
  · exact w_c0
  · exact w_c1
set_option maxRecDepth 65536 in
theorem w_t1 : words1.all (fun c => isCode c || c.before args0 about1) = true := by decide +kernel
theorem w_tables : (allAtoms (Jvm.Cond.code x code maxLocals ret :: tables_1)).before args0 about1 = true := by
  rw [allAtoms_all]
  show words1.all (fun c => c.before args0 about1) = true
  refine all_split ?_ w_codes
  rw [w_t1]
set_option maxRecDepth 65536 in
theorem w_case : (Jvm.Cond.and given_1 narrow_1).before args0 about1 = true := by decide +kernel
theorem w_applies : (headSpec (Jvm.Cond.code x code maxLocals ret :: tables_1) room_1).applies x e0.platform about1 = true :=
  (Spec.applies_iff w_frames).mpr ⟨w_running, w_runnable, w_alone, w_named, w_hears, w_ripe, w_room, w_tables⟩
theorem atStart : AtStart classFile x code maxLocals ret World_1 tables_1 room_1 Calls_1 rest_1 Pre_1 launch0 p0 e0 about1 theMethod args0 below0 :=
  ⟨lists_1, trivial, launch0.admits_env _ _ _, launch0.least_env, fairChoices_fair.cas, fairChoices_fair.clock, w_frames, w_args, w_heap, w_applies, trivial, trivial, w_case⟩
end start1
theorem witness_1 : WitnessClaimed_1 := ⟨start1.p0, start1.e0, start1.about1, start1.theMethod, start1.args0, start1.below0, start1.atStart⟩
end Jvm.Pilot.@@N@@
