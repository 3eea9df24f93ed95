import JvmDerived
import JvmDerived.Pilot.@@N@@Statement
import JvmDerived.Pilot.@@N@@Code
set_option linter.unusedVariables false
set_option linter.unusedSimpArgs false
namespace Jvm.RoadKit
open Sem ClassFile Op Lib Jvm.Stand Jvm.Free Jvm.LawKit
section New
variable {p : Program} {l : Launch} {e : Env} {R : Room} {s : State} {m : MethodId} {args : Array Value} {below : List Frame} {meth : Method} {c : Code} {T T' : State} {locs : List Loc} {cells slots : Nat}
/-- what a body leaves: the value, and what is known of the heap and of the places written -/
def QV (w : Option Value) (P : Heap → List Loc → Prop) (v : Option Value) (h : Heap) (L : List Loc) : Prop := v = w ∧ P h L
/-- a body that writes nothing -/
def PureP (n0 : Nat) (h0 : Heap) (h : Heap) (L : List Loc) : Prop := Fr n0 L ∧ h = h0
/-- from here the body returns w and leaves P -/
def Got (p : Program) (e : Env) (below : List Frame) (s : State) (P : Heap → List Loc → Prop) (ck cs : Nat) (w : Option Value) (T : State) (g : JFrame) : Prop :=
  ∃ s₂ L, Steps p.tables e below (T.setTop g) s₂ ∧ s₂.status = .running ∧ Ended s₂ below (.returned w) ∧ P s₂.heap L ∧ FrameEnd s (.returned w) s₂ L ck cs
variable {P : Heap → List Loc → Prop} {ck cs : Nat} {w : Option Value} {g g' : JFrame}
theorem Got.step (h : ∀ t, Steps p.tables e below (T'.setTop g') t → Steps p.tables e below (T.setTop g) t) (k : Got p e below s P ck cs w T' g') : Got p e below s P ck cs w T g := by
  obtain ⟨s₂, L, h1, r⟩ := k
  exact ⟨s₂, L, h _ h1, r⟩
theorem Got.hop (h : Steps p.tables e below (T.setTop g) (T'.setTop g')) (k : Got p e below s P ck cs w T' g') : Got p e below s P ck cs w T g := Got.step (fun _ q => h.trans q) k
theorem Got.ite {q : Prop} [Decidable q] {x y : Int32} (h1 : q → Got p e below s P ck cs (some (.int x)) T g) (h2 : ¬ q → Got p e below s P ck cs (some (.int y)) T g) : Got p e below s P ck cs (some (.int (if q then x else y))) T g := by
  by_cases h : q
  · rw [if_pos h]; exact h1 h
  · rw [if_neg h]; exact h2 h
theorem Got.iteJ {q : Prop} [Decidable q] {x y : Int64} (h1 : q → Got p e below s P ck cs (some (.long x)) T g) (h2 : ¬ q → Got p e below s P ck cs (some (.long y)) T g) : Got p e below s P ck cs (some (.long (if q then x else y))) T g := by
  by_cases h : q
  · rw [if_pos h]; exact h1 h
  · rw [if_neg h]; exact h2 h
theorem Got.iteR {q : Prop} [Decidable q] {x y : Addr} (h1 : q → Got p e below s P ck cs (some (.ref x)) T g) (h2 : ¬ q → Got p e below s P ck cs (some (.ref y)) T g) : Got p e below s P ck cs (some (.ref (if q then x else y))) T g := by
  by_cases h : q
  · rw [if_pos h]; exact h1 h
  · rw [if_neg h]; exact h2 h
theorem Got.body {n : Nat} {as' : Array Value} (hg : entryFrame m as' n = g) (k : Got p e below s P ck cs w T g) :
    ∃ s₂ o, Steps p.tables e below (T.setTop (entryFrame m as' n)) s₂ ∧ s₂.status = .running ∧ Ended s₂ below o ∧ ∃ v L, o = .returned v ∧ QV w P v s₂.heap L ∧ FrameEnd s o s₂ L ck cs := by
  obtain ⟨s₂, L, h1, h2, h3, h4, h5⟩ := k
  exact ⟨s₂, _, by rw [hg]; exact h1, h2, h3, w, L, rfl, ⟨rfl, h4⟩, h5⟩
theorem Got.retN (X : Stand p l e R s m args below meth c T locs cells slots) (hx : p.tables.exec = Jvm.exec) {t : FieldType} (hret : meth.sig.returnType = some t) (ht : t = .boolean ∨ t = .byte ∨ t = .char ∨ t = .short) (hlk : meth.locks = false) {pc : Nat} {Ls : Array Slot} {z y : Int32} {rest : List Value}
    (hd : decode c.code pc = .ok (.ireturn, 1)) (hy : nar t z = y) (hP : P T.heap locs) (hc : cells ≤ ck) (hs : slots ≤ cs) : Got p e below s P ck cs (some (.int y)) T (mkF m pc Ls (.int z :: rest)) := by
  subst hy
  obtain ⟨fs, hr, hrun, hended, hW, hsame⟩ := X.leave (v := some (.int (nar t z))) (fun h => by rw [hret] at h; cases h) hlk
  exact ⟨_, locs, Jvm.RoadKit.retN X hx hret ht hd hr, hrun, hended, hP, ⟨_, rfl⟩, hW, hsame.mono hc hs⟩
theorem Got.retI (X : Stand p l e R s m args below meth c T locs cells slots) (hx : p.tables.exec = Jvm.exec) (hret : meth.sig.returnType = some .int) (hlk : meth.locks = false) {pc : Nat} {Ls : Array Slot} {z y : Int32} {rest : List Value}
    (hd : decode c.code pc = .ok (.ireturn, 1)) (hy : z = y) (hP : P T.heap locs) (hc : cells ≤ ck) (hs : slots ≤ cs) : Got p e below s P ck cs (some (.int y)) T (mkF m pc Ls (.int z :: rest)) := by
  subst hy
  obtain ⟨fs, hr, hrun, hended, hW, hsame⟩ := X.leave (v := some (.int z)) (fun h => by rw [hret] at h; cases h) hlk
  exact ⟨_, locs, retOut X hx hret rfl (Or.inl ⟨rfl, Or.inl rfl, z, rfl⟩) hd hr, hrun, hended, hP, ⟨_, rfl⟩, hW, hsame.mono hc hs⟩
theorem Got.retJ (X : Stand p l e R s m args below meth c T locs cells slots) (hx : p.tables.exec = Jvm.exec) (hret : meth.sig.returnType = some .long) (hlk : meth.locks = false) {pc : Nat} {Ls : Array Slot} {z y : Int64}
    (hd : decode c.code pc = .ok (.lreturn, 1)) (hy : z = y) (hP : P T.heap locs) (hc : cells ≤ ck) (hs : slots ≤ cs) : Got p e below s P ck cs (some (.long y)) T (mkF m pc Ls [.long z]) := by
  subst hy
  obtain ⟨fs, hr, hrun, hended, hW, hsame⟩ := X.leave (v := some (.long z)) (fun h => by rw [hret] at h; cases h) hlk
  exact ⟨_, locs, X.lreturnOut hx hret hd hr, hrun, hended, hP, ⟨_, rfl⟩, hW, hsame.mono hc hs⟩
theorem Got.retV (X : Stand p l e R s m args below meth c T locs cells slots) (hx : p.tables.exec = Jvm.exec) (hret : meth.sig.returnType = none) (hlk : meth.locks = false) {pc : Nat} {Ls : Array Slot}
    (hd : decode c.code pc = .ok (.return_, 1)) (hP : P T.heap locs) (hc : cells ≤ ck) (hs : slots ≤ cs) : Got p e below s P ck cs none T (mkF m pc Ls []) := by
  obtain ⟨fs, hr, hrun, hended, hW, hsame⟩ := X.leave (v := none) (fun _ => rfl) hlk
  exact ⟨_, locs, X.returnOut hx hret hd hr, hrun, hended, hP, ⟨_, rfl⟩, hW, hsame.mono hc hs⟩
theorem Got.retA (X : Stand p l e R s m args below meth c T locs cells slots) (hx : p.tables.exec = Jvm.exec) {t : FieldType} (hret : meth.sig.returnType = some t) (ht : t.isReference = true) (hlk : meth.locks = false) {pc : Nat} {Ls : Array Slot} {a : Addr} {rest : List Value}
    (hd : decode c.code pc = .ok (.areturn, 1)) (hn : narrow t (.ref a) = .ref a) (hP : P T.heap locs) (hc : cells ≤ ck) (hs : slots ≤ cs) : Got p e below s P ck cs (some (.ref a)) T (mkF m pc Ls (.ref a :: rest)) := by
  obtain ⟨fs, hr, hrun, hended, hW, hsame⟩ := X.leave (v := some (.ref a)) (fun h => by rw [hret] at h; cases h) hlk
  exact ⟨_, locs, retOut X hx hret hn (Or.inr (Or.inr (Or.inr (Or.inr ⟨rfl, ht, rfl⟩)))) hd hr, hrun, hended, hP, ⟨_, rfl⟩, hW, hsame.mono hc hs⟩
theorem remJ {g : JFrame} {target : State} (X : Stand p l e R s m args below meth c T locs cells slots) (hx : p.tables.exec = Jvm.exec) (hg : g.method = m) {x y : Int64} {rest : List Value} (hd : decode c.code g.pc = .ok (.lrem, 1)) (hs : g.stack = .long y :: .long x :: rest) (hy : y ≠ 0)
    (hr : Steps p.tables e below (T.setTop { g with pc := g.pc + 1, stack := .long (x % y) :: rest }) target) : Steps p.tables e below (T.setTop g) target := by
  rw [← lrem_mod x y] at hr
  exact XS.lrem X.here hx hg hd hs hy hr
theorem one_unset : One .unset := Or.inl rfl
theorem one_int (x : Int32) : One (.val (.int x)) := Or.inr ⟨_, rfl, rfl⟩
theorem one_ref (x : Addr) : One (.val (.ref x)) := Or.inr ⟨_, rfl, rfl⟩
theorem narB (x : Int32) : nar .byte x.toInt8.toInt32 = x.toInt8.toInt32 := by simp [nar]
end New
end Jvm.RoadKit
namespace Jvm.RoadKit
open Sem ClassFile Op Lib Jvm.Stand Jvm.Free Jvm.LawKit
section Wide
variable {p : Program} {l : Launch} {e : Env} {R : Room} {s : State} {m : MethodId} {args : Array Value} {below : List Frame} {meth : Method} {c : Code} {T T' : State} {locs : List Loc} {cells slots : Nat}
/-- the end of a walk that has interned a text -/
def FEW (s : State) (o : Outcome) (t : State) (L : List Loc) (k n : Nat) : Prop := (∃ v : Option Value, o = Outcome.returned v) ∧ s.Warmed39 t.vm ∧ s.Booked t.vm t.heap.size ∧ s.sameButNew ({ t with vm := s.vm } : State) L k n
def GotW (p : Program) (e : Env) (below : List Frame) (s : State) (P : Heap → List Loc → Prop) (ck cs : Nat) (w : Option Value) (T : State) (g : JFrame) : Prop :=
  ∃ s₂ L, Steps p.tables e below (T.setTop g) s₂ ∧ s₂.status = .running ∧ Ended s₂ below (.returned w) ∧ P s₂.heap L ∧ FEW s (.returned w) s₂ L ck cs
variable {P : Heap → List Loc → Prop} {ck cs : Nat} {w : Option Value} {g g' : JFrame}
theorem GotW.step (h : ∀ t, Steps p.tables e below (T'.setTop g') t → Steps p.tables e below (T.setTop g) t) (k : GotW p e below s P ck cs w T' g') : GotW p e below s P ck cs w T g := by
  obtain ⟨s₂, L, h1, r⟩ := k
  exact ⟨s₂, L, h _ h1, r⟩
theorem GotW.hop (h : Steps p.tables e below (T.setTop g) (T'.setTop g')) (k : GotW p e below s P ck cs w T' g') : GotW p e below s P ck cs w T g := GotW.step (fun _ q => h.trans q) k
theorem GotW.body {n : Nat} {as' : Array Value} (hg : entryFrame m as' n = g) (k : GotW p e below s P ck cs w T g) :
    ∃ s₂ o, Steps p.tables e below (T.setTop (entryFrame m as' n)) s₂ ∧ s₂.status = .running ∧ Ended s₂ below o ∧ ∃ v L, o = .returned v ∧ QV w P v s₂.heap L ∧ FEW s o s₂ L ck cs := by
  obtain ⟨s₂, L, h1, h2, h3, h4, h5⟩ := k
  exact ⟨s₂, _, by rw [hg]; exact h1, h2, h3, w, L, rfl, ⟨rfl, h4⟩, h5⟩
theorem GotW.retN {sL : State} {vm1 : Vm} {k1 : Nat} (hsL : sL = s.setVm vm1) (hS : s.Since vm1 k1) (hk : k1 ≤ T.heap.size) (X : Stand p l e R sL m args below meth c T locs cells slots) (hx : p.tables.exec = Jvm.exec) {t : FieldType} (hret : meth.sig.returnType = some t) (ht : t = .boolean ∨ t = .byte ∨ t = .char ∨ t = .short) (hlk : meth.locks = false) {pc : Nat} {Ls : Array Slot} {z y : Int32} {rest : List Value}
    (hd : decode c.code pc = .ok (.ireturn, 1)) (hy : nar t z = y) (hP : P T.heap locs) (hc : cells ≤ ck) (hs : slots ≤ cs) : GotW p e below s P ck cs (some (.int y)) T (mkF m pc Ls (.int z :: rest)) := by
  subst hy hsL
  obtain ⟨fs, hr, hrun, hended, hW, hsame⟩ := X.leave (v := some (.int (nar t z))) (fun h => by rw [hret] at h; cases h) hlk
  have E := hS.ended (U := T.setFrames fs) hW hk hsame
  exact ⟨_, locs, Jvm.RoadKit.retN X hx hret ht hd hr, hrun, hended, hP, ⟨_, rfl⟩, E.1, E.2.1, E.2.2.mono hc hs⟩
end Wide
end Jvm.RoadKit
namespace Jvm.Pilot.@@N@@
open Jvm Jvm.ClassFile Sem Op Lib Jvm.Free Jvm.Stand Jvm.LawKit Jvm.RoadKit Bundle Jvm.Pilot.@@N@@.Jvm.D
theorem own_wS {a0 : Array Value} {Z : State} (hw : ∀ d ∈ tables_1, d.before a0 Z = true) : ∀ a ∈ Bundle.stringAtoms, a.before a0 Z = true := fun a ha => by
  simp only [Bundle.stringAtoms, List.mem_cons, List.not_mem_nil, or_false] at ha
  rcases ha with rfl | rfl | rfl | rfl | rfl | rfl | rfl
  · exact (hw _ (List.mem_of_getElem? (i := 4) rfl))
  · exact (hw _ (List.mem_of_getElem? (i := 5) rfl))
  · exact (hw _ (List.mem_of_getElem? (i := 6) rfl))
  · exact (hw _ (List.mem_of_getElem? (i := 7) rfl))
  · exact (hw _ (List.mem_of_getElem? (i := 8) rfl))
  · exact (hw _ (List.mem_of_getElem? (i := 9) rfl))
  · exact (hw _ (List.mem_of_getElem? (i := 10) rfl))
theorem ef_2 (m : MethodId) (x0 : Addr) : entryFrame m #[(.ref x0)] 1 = mkF m 0 #[.val (.ref x0)] [] := by first | (simp [entryFrame, mkF, argsToLocals, Value.category]; done) | rfl
theorem pn_0 : plainName "java/lang/Record" = true := by first | (simp [plainName, overriddenIn]; done) | decide +kernel
theorem d2_0 : decode jdk_30_method_1_code 0 = .ok (.aload_n 0, 1) := by decide +kernel
theorem d2_1 : decode jdk_30_method_1_code 1 = .ok (.invokespecial 1, 3) := by decide +kernel
theorem d2_4 : decode jdk_30_method_1_code 4 = .ok (.return_, 1) := by decide +kernel
set_option maxRecDepth 65536 in
set_option maxHeartbeats 40000000 in
theorem rm2 (l : Launch) (Z : State) (a0 : Array Value) (hw : ∀ d ∈ tables_1, d.before a0 Z = true) (ws : List Jvm.Cond) (o0 : Addr) (h0 : Heap) (n0 : Nat) (Z0 : n0 ≤ h0.size) (gn_o0 : n0 ≤ o0) (E_o0 : Exa Z h0 o0 "com/example/hardy_broker/hardybroker/bench/Plan") (F_host : Fld Z h0 o0 "com/example/hardy_broker/hardybroker/bench/Plan" "host" "Ljava/lang/String;" .null) (F_port : Fld Z h0 o0 "com/example/hardy_broker/hardybroker/bench/Plan" "port" "I" (.int (0 : Int32))) (F_publishers : Fld Z h0 o0 "com/example/hardy_broker/hardybroker/bench/Plan" "publishers" "I" (.int (0 : Int32))) (F_messages : Fld Z h0 o0 "com/example/hardy_broker/hardybroker/bench/Plan" "messages" "I" (.int (0 : Int32))) (F_payloadBytes : Fld Z h0 o0 "com/example/hardy_broker/hardybroker/bench/Plan" "payloadBytes" "I" (.int (0 : Int32)))  :
    MetFree l (⟨"java/lang/Record", "<init>", "()V"⟩ : MethodName) (head1 (Jvm.Cond.code (⟨"java/lang/Record", "<init>", "()V"⟩ : MethodName) jdk_30_method_1_code 1 none :: ws) ({ frames := 1, cells := 0, slots := 0, locals := 12 } : Room)) (fun a U => a = #[(.ref o0)] ∧ Z.Warmed39 U.vm ∧ U.heap = h0) (fun _ _ _ _ _ => True) (fun _ U o U' => ∃ v L, o = .returned v ∧ QV none (fun h L => Fr n0 L ∧ Keep h0 h [o0] ∧ Exa Z h o0 "com/example/hardy_broker/hardybroker/bench/Plan" ∧ Fld Z h o0 "com/example/hardy_broker/hardybroker/bench/Plan" "host" "Ljava/lang/String;" .null ∧ Fld Z h o0 "com/example/hardy_broker/hardybroker/bench/Plan" "port" "I" (.int (0 : Int32)) ∧ Fld Z h o0 "com/example/hardy_broker/hardybroker/bench/Plan" "publishers" "I" (.int (0 : Int32)) ∧ Fld Z h o0 "com/example/hardy_broker/hardybroker/bench/Plan" "messages" "I" (.int (0 : Int32)) ∧ Fld Z h o0 "com/example/hardy_broker/hardybroker/bench/Plan" "payloadBytes" "I" (.int (0 : Int32))) v U'.heap L ∧ FrameEnd U o U' L ({ frames := 1, cells := 0, slots := 0, locals := 12 } : Room).cells ({ frames := 1, cells := 0, slots := 0, locals := 12 } : Room).slots) := by
  refine MetFree.of_bodySF (plainFor_of_name pn_0) hisR ?_
  intro p e s m args below meth c s₁ Bd hml0 hP hK
  obtain ⟨rfl, hZ, hh⟩ := hP
  have hx := Bd.exec
  have hby := Bd.bytes
  have hml : c.maxLocals = 1 := hml0
  have hown : s.vm.findClass "java/lang/Record" = some m.cls := findClass_of_methodNamed Bd.named
  have hnm := (name_of_methodNamed Bd.named Bd.method).1
  have hlk : meth.locks = false := BodyLoose.notSynchronized Bd
  have X0 : Stand p l e ({ frames := 1, cells := 0, slots := 0, locals := 12 } : Room) s m #[(.ref o0)] below meth c s₁ [] 0 0 := Stand.of_body Bd
  have e0 : s₁.heap = h0 := by rw [← hh, Bd.state]; rfl
  have N0 := Fr.nil n0
  refine Got.body (ef_2 m o0) ?_
  have K0 := Keep.refl h0 [o0]
  refine Got.step (T' := s₁) (g' := (mkF m 1 #[.val (.ref o0)] [(.ref o0)])) (fun tq kt => ?_) ?_
  · show Steps p.tables e below (s₁.setTop (mkF m 0 #[.val (.ref o0)] [])) _
    refine XS.aloadN X0.here hx rfl (hb hby d2_0) rfl rfl ?_
    exact kt
  obtain ⟨T1, X1, e1, st1⟩ := initO X0 hx hZ hown (hw _ (List.mem_of_getElem? (i := 19) rfl)) (hw _ (List.mem_of_getElem? (i := 20) rfl)) (hw _ (List.mem_of_getElem? (i := 21) rfl)) e0 (g := (mkF m 1 #[.val (.ref o0)] [(.ref o0)])) rfl (by rw [hml]; rfl) rfl (hb hby d2_1) (by decide) (W := 0) (by show 2 * 0 + _ ≤ _; exact Nat.le_of_eq rfl) (by decide)
  refine Got.step st1 ?_
  show Got p e below s _ _ _ _ T1 (mkF m 4 #[.val (.ref o0)] [])
  exact Got.retV X1 hx Bd.returns hlk (hb hby d2_4) ⟨N0, by rw [e1]; exact K0, by rw [e1]; exact E_o0, by rw [e1]; exact F_host, by rw [e1]; exact F_port, by rw [e1]; exact F_publishers, by rw [e1]; exact F_messages, by rw [e1]; exact F_payloadBytes⟩ (by decide) (by decide)
theorem pd_0 : parseMethodDescriptor "()V" = some ⟨[], none⟩ := by decide +kernel
theorem ef_1 (m : MethodId) (x0 : Addr) (x1 : Addr) (x2 : Int32) (x3 : Int32) (x4 : Int32) (x5 : Int32) : entryFrame m #[(.ref x0), (.ref x1), (.int x2), (.int x3), (.int x4), (.int x5)] 6 = mkF m 0 #[.val (.ref x0), .val (.ref x1), .val (.int x2), .val (.int x3), .val (.int x4), .val (.int x5)] [] := by first | (simp [entryFrame, mkF, argsToLocals, Value.category]; done) | rfl
theorem pn_1 : plainName "com/example/hardy_broker/hardybroker/bench/Plan" = true := by first | (simp [plainName, overriddenIn]; done) | decide +kernel
theorem d1_0 : decode prog_3_method_1_code 0 = .ok (.aload_n 0, 1) := by decide +kernel
theorem d1_1 : decode prog_3_method_1_code 1 = .ok (.invokespecial 1, 3) := by decide +kernel
theorem d1_4 : decode prog_3_method_1_code 4 = .ok (.aload_n 0, 1) := by decide +kernel
theorem d1_5 : decode prog_3_method_1_code 5 = .ok (.aload_n 1, 1) := by decide +kernel
theorem d1_6 : decode prog_3_method_1_code 6 = .ok (.putfield 7, 3) := by decide +kernel
theorem d1_9 : decode prog_3_method_1_code 9 = .ok (.aload_n 0, 1) := by decide +kernel
theorem d1_10 : decode prog_3_method_1_code 10 = .ok (.iload_n 2, 1) := by decide +kernel
theorem d1_11 : decode prog_3_method_1_code 11 = .ok (.putfield 13, 3) := by decide +kernel
theorem d1_14 : decode prog_3_method_1_code 14 = .ok (.aload_n 0, 1) := by decide +kernel
theorem d1_15 : decode prog_3_method_1_code 15 = .ok (.iload_n 3, 1) := by decide +kernel
theorem d1_16 : decode prog_3_method_1_code 16 = .ok (.putfield 17, 3) := by decide +kernel
theorem d1_19 : decode prog_3_method_1_code 19 = .ok (.aload_n 0, 1) := by decide +kernel
theorem d1_20 : decode prog_3_method_1_code 20 = .ok (.iload 4, 2) := by decide +kernel
theorem d1_22 : decode prog_3_method_1_code 22 = .ok (.putfield 20, 3) := by decide +kernel
theorem d1_25 : decode prog_3_method_1_code 25 = .ok (.aload_n 0, 1) := by decide +kernel
theorem d1_26 : decode prog_3_method_1_code 26 = .ok (.iload 5, 2) := by decide +kernel
theorem d1_28 : decode prog_3_method_1_code 28 = .ok (.putfield 23, 3) := by decide +kernel
theorem d1_31 : decode prog_3_method_1_code 31 = .ok (.return_, 1) := by decide +kernel
set_option maxRecDepth 65536 in
set_option maxHeartbeats 40000000 in
theorem rm1 (l : Launch) (Z : State) (a0 : Array Value) (hw : ∀ d ∈ tables_1, d.before a0 Z = true) (ws : List Jvm.Cond) (o0 : Addr) (o1 : Addr) (p2 : Int32) (p3 : Int32) (p4 : Int32) (p5 : Int32) (h0 : Heap) (n0 : Nat) (Z0 : n0 ≤ h0.size) (gn_o0 : n0 ≤ o0) (E_o0 : Exa Z h0 o0 "com/example/hardy_broker/hardybroker/bench/Plan") (F_host : Fld Z h0 o0 "com/example/hardy_broker/hardybroker/bench/Plan" "host" "Ljava/lang/String;" .null) (F_port : Fld Z h0 o0 "com/example/hardy_broker/hardybroker/bench/Plan" "port" "I" (.int (0 : Int32))) (F_publishers : Fld Z h0 o0 "com/example/hardy_broker/hardybroker/bench/Plan" "publishers" "I" (.int (0 : Int32))) (F_messages : Fld Z h0 o0 "com/example/hardy_broker/hardybroker/bench/Plan" "messages" "I" (.int (0 : Int32))) (F_payloadBytes : Fld Z h0 o0 "com/example/hardy_broker/hardybroker/bench/Plan" "payloadBytes" "I" (.int (0 : Int32)))  :
    MetFree l (⟨"com/example/hardy_broker/hardybroker/bench/Plan", "<init>", "(Ljava/lang/String;IIII)V"⟩ : MethodName) (head1 (Jvm.Cond.code (⟨"com/example/hardy_broker/hardybroker/bench/Plan", "<init>", "(Ljava/lang/String;IIII)V"⟩ : MethodName) prog_3_method_1_code 6 none :: ws) ({ frames := 2, cells := 0, slots := 0, locals := 24 } : Room)) (fun a U => a = #[(.ref o0), (.ref o1), (.int p2), (.int p3), (.int p4), (.int p5)] ∧ Z.Warmed39 U.vm ∧ U.heap = h0) (fun _ _ _ _ _ => True) (fun _ U o U' => ∃ v L, o = .returned v ∧ QV none (fun h L => Fr n0 L ∧ Keep h0 h [o0] ∧ Exa Z h o0 "com/example/hardy_broker/hardybroker/bench/Plan" ∧ Fld Z h o0 "com/example/hardy_broker/hardybroker/bench/Plan" "publishers" "I" (.int p3) ∧ Fld Z h o0 "com/example/hardy_broker/hardybroker/bench/Plan" "messages" "I" (.int p4)) v U'.heap L ∧ FrameEnd U o U' L ({ frames := 2, cells := 0, slots := 0, locals := 24 } : Room).cells ({ frames := 2, cells := 0, slots := 0, locals := 24 } : Room).slots) := by
  refine MetFree.of_bodySF (plainFor_of_name pn_1) hisR ?_
  intro p e s m args below meth c s₁ Bd hml0 hP hK
  obtain ⟨rfl, hZ, hh⟩ := hP
  have hx := Bd.exec
  have hby := Bd.bytes
  have hml : c.maxLocals = 6 := hml0
  have hown : s.vm.findClass "com/example/hardy_broker/hardybroker/bench/Plan" = some m.cls := findClass_of_methodNamed Bd.named
  have hnm := (name_of_methodNamed Bd.named Bd.method).1
  have hlk : meth.locks = false := BodyLoose.notSynchronized Bd
  have X0 : Stand p l e ({ frames := 2, cells := 0, slots := 0, locals := 24 } : Room) s m #[(.ref o0), (.ref o1), (.int p2), (.int p3), (.int p4), (.int p5)] below meth c s₁ [] 0 0 := Stand.of_body Bd
  have e0 : s₁.heap = h0 := by rw [← hh, Bd.state]; rfl
  have N0 := Fr.nil n0
  refine Got.body (ef_1 m o0 o1 p2 p3 p4 p5) ?_
  have K0 := Keep.refl h0 [o0]
  refine Got.step (T' := s₁) (g' := (mkF m 1 #[.val (.ref o0), .val (.ref o1), .val (.int p2), .val (.int p3), .val (.int p4), .val (.int p5)] [(.ref o0)])) (fun tq kt => ?_) ?_
  · show Steps p.tables e below (s₁.setTop (mkF m 0 #[.val (.ref o0), .val (.ref o1), .val (.int p2), .val (.int p3), .val (.int p4), .val (.int p5)] [])) _
    refine XS.aloadN X0.here hx rfl (hb hby d1_0) rfl rfl ?_
    exact kt
  obtain ⟨_, _, ⟨T2, L2, k2, n2⟩, -, X2, ⟨Lc2, hQ2, l2, y2, z2⟩, st2⟩ := X0.specialBack hx (y := (⟨"java/lang/Record", "<init>", "()V"⟩ : MethodName)) rfl hown (mvT hZ (hw _ (List.mem_of_getElem? (i := 14) rfl))) (mvT hZ (hw _ (List.mem_of_getElem? (i := 15) rfl))) (mvT hZ (hw _ (List.mem_of_getElem? (i := 18) rfl))) (by decide) (backOf (W := 0) (rm2 l Z a0 hw [] o0 h0 n0 Z0 gn_o0 E_o0 F_host F_port F_publishers F_messages F_payloadBytes ) hZ (hw _ (List.mem_of_getElem? (i := 18) rfl)) (hw _ (List.mem_of_getElem? (i := 17) rfl)) (by decide) (by decide)) (g := (mkF m 1 #[.val (.ref o0), .val (.ref o1), .val (.int p2), .val (.int p3), .val (.int p4), .val (.int p5)] [(.ref o0)])) rfl (by rw [hml]; rfl) (Steps.refl _) (a := o0) (argsL := []) (rest := []) (lenOf pd_0 rfl) rfl (by show 2 * 0 + _ ≤ _; exact Nat.le_of_eq rfl) (hb hby d1_1) (fun _ _ => ⟨rfl, e0, (by decide : 0 + 0 ≤ _), (by decide : 0 + 0 ≤ _)⟩)
  dsimp only [Pt.U, Pt.locs, Pt.cells, Pt.slots] at X2 l2 y2 z2 st2 hQ2
  subst y2 z2
  obtain ⟨h2, e2⟩ : ∃ z, T2.heap = z := ⟨_, rfl⟩
  rw [e2] at hQ2
  obtain ⟨rfl, Nq2, K2, E2, G2_host, G2_port, G2_publishers, G2_messages, G2_payloadBytes⟩ := hQ2
  have N2 : Fr n0 L2 := by rw [l2]; exact Fr.app N0 Nq2
  have Z0_3 : n0 ≤ h2.size := (Nat.le_trans Z0 K2.1)
  have K0_4 : Keep h0 h2 [o0] := (K0.trans K2 (allS (Or.inl (List.mem_of_getElem? (i := 0) rfl)) all0))
  have E_o0_5 : Exa Z h2 o0 "com/example/hardy_broker/hardybroker/bench/Plan" := (E_o0.keep K2)
  refine Got.hop st2 ?_
  show Got p e below s _ _ _ _ T2 (mkF m 4 #[.val (.ref o0), .val (.ref o1), .val (.int p2), .val (.int p3), .val (.int p4), .val (.int p5)] [])
  refine Got.step (T' := T2) (g' := (mkF m 6 #[.val (.ref o0), .val (.ref o1), .val (.int p2), .val (.int p3), .val (.int p4), .val (.int p5)] [(.ref o1), (.ref o0)])) (fun tq kt => ?_) ?_
  · show Steps p.tables e below (T2.setTop (mkF m 4 #[.val (.ref o0), .val (.ref o1), .val (.int p2), .val (.int p3), .val (.int p4), .val (.int p5)] [])) _
    refine XS.aloadN X2.here hx rfl (hb hby d1_4) rfl rfl ?_
    show Steps p.tables e below (T2.setTop (mkF m 5 #[.val (.ref o0), .val (.ref o1), .val (.int p2), .val (.int p3), .val (.int p4), .val (.int p5)] [(.ref o0)])) _
    refine XS.aloadN X2.here hx rfl (hb hby d1_5) rfl rfl ?_
    exact kt
  obtain ⟨T6, h6, X6, e6, W6, st6⟩ := putF X2 hx hZ hown (host := "") (Or.inl (hw _ (List.mem_of_getElem? (i := 22) rfl))) Via.refl e2 G2_host E_o0_5 (Or.inr ⟨(hw _ (List.mem_of_getElem? (i := 23) rfl)), rfl, hnm⟩) (hw _ (List.mem_of_getElem? (i := 1) rfl)) (ty := (.object "java/lang/String")) (by decide) rfl rfl (g := (mkF m 6 #[.val (.ref o0), .val (.ref o1), .val (.int p2), .val (.int p3), .val (.int p4), .val (.int p5)] [(.ref o1), (.ref o0)])) rfl rfl (hb hby d1_6)
  have Z0_7 : n0 ≤ h6.size := (Nat.le_trans Z0_3 (Keep.of_wr W6).1)
  have K0_8 : Keep h0 h6 [o0] := (K0_4.wr W6 (Or.inl (List.mem_of_getElem? (i := 0) rfl)))
  have E_o0_9 : Exa Z h6 o0 "com/example/hardy_broker/hardybroker/bench/Plan" := (E_o0_5.wr W6)
  have G2_host_10 : Fld Z h6 o0 "com/example/hardy_broker/hardybroker/bench/Plan" "host" "Ljava/lang/String;" (.ref o1) := (G2_host.same W6)
  have G2_port_11 : Fld Z h6 o0 "com/example/hardy_broker/hardybroker/bench/Plan" "port" "I" (.int (0 : Int32)) := (G2_port.other W6 (Or.inr (slot_ne (Or.inr (hw _ (List.mem_of_getElem? (i := 25) rfl))) (Or.inr (hw _ (List.mem_of_getElem? (i := 23) rfl))) (by decide) (t := .int) (t' := (.object "java/lang/String")) (by decide) (by decide))))
  have G2_publishers_12 : Fld Z h6 o0 "com/example/hardy_broker/hardybroker/bench/Plan" "publishers" "I" (.int (0 : Int32)) := (G2_publishers.other W6 (Or.inr (slot_ne (Or.inr (hw _ (List.mem_of_getElem? (i := 27) rfl))) (Or.inr (hw _ (List.mem_of_getElem? (i := 23) rfl))) (by decide) (t := .int) (t' := (.object "java/lang/String")) (by decide) (by decide))))
  have G2_messages_13 : Fld Z h6 o0 "com/example/hardy_broker/hardybroker/bench/Plan" "messages" "I" (.int (0 : Int32)) := (G2_messages.other W6 (Or.inr (slot_ne (Or.inr (hw _ (List.mem_of_getElem? (i := 29) rfl))) (Or.inr (hw _ (List.mem_of_getElem? (i := 23) rfl))) (by decide) (t := .int) (t' := (.object "java/lang/String")) (by decide) (by decide))))
  have G2_payloadBytes_14 : Fld Z h6 o0 "com/example/hardy_broker/hardybroker/bench/Plan" "payloadBytes" "I" (.int (0 : Int32)) := (G2_payloadBytes.other W6 (Or.inr (slot_ne (Or.inr (hw _ (List.mem_of_getElem? (i := 31) rfl))) (Or.inr (hw _ (List.mem_of_getElem? (i := 23) rfl))) (by decide) (t := .int) (t' := (.object "java/lang/String")) (by decide) (by decide))))
  have N6 := Fr.snoc X6 N2 gn_o0
  refine Got.step st6 ?_
  show Got p e below s _ _ _ _ T6 (mkF m 9 #[.val (.ref o0), .val (.ref o1), .val (.int p2), .val (.int p3), .val (.int p4), .val (.int p5)] [])
  refine Got.step (T' := T6) (g' := (mkF m 11 #[.val (.ref o0), .val (.ref o1), .val (.int p2), .val (.int p3), .val (.int p4), .val (.int p5)] [(.int p2), (.ref o0)])) (fun tq kt => ?_) ?_
  · show Steps p.tables e below (T6.setTop (mkF m 9 #[.val (.ref o0), .val (.ref o1), .val (.int p2), .val (.int p3), .val (.int p4), .val (.int p5)] [])) _
    refine XS.aloadN X6.here hx rfl (hb hby d1_9) rfl rfl ?_
    show Steps p.tables e below (T6.setTop (mkF m 10 #[.val (.ref o0), .val (.ref o1), .val (.int p2), .val (.int p3), .val (.int p4), .val (.int p5)] [(.ref o0)])) _
    refine XS.iloadN X6.here hx rfl (hb hby d1_10) rfl ?_
    exact kt
  obtain ⟨T15, h15, X15, e15, W15, st15⟩ := putF X6 hx hZ hown (host := "") (Or.inl (hw _ (List.mem_of_getElem? (i := 24) rfl))) Via.refl e6 G2_port_11 E_o0_9 (Or.inr ⟨(hw _ (List.mem_of_getElem? (i := 25) rfl)), rfl, hnm⟩) (hw _ (List.mem_of_getElem? (i := 1) rfl)) (ty := .int) (by decide) rfl rfl (g := (mkF m 11 #[.val (.ref o0), .val (.ref o1), .val (.int p2), .val (.int p3), .val (.int p4), .val (.int p5)] [(.int p2), (.ref o0)])) rfl rfl (hb hby d1_11)
  have Z0_16 : n0 ≤ h15.size := (Nat.le_trans Z0_7 (Keep.of_wr W15).1)
  have K0_17 : Keep h0 h15 [o0] := (K0_8.wr W15 (Or.inl (List.mem_of_getElem? (i := 0) rfl)))
  have E_o0_18 : Exa Z h15 o0 "com/example/hardy_broker/hardybroker/bench/Plan" := (E_o0_9.wr W15)
  have G2_host_19 : Fld Z h15 o0 "com/example/hardy_broker/hardybroker/bench/Plan" "host" "Ljava/lang/String;" (.ref o1) := (G2_host_10.other W15 (Or.inr (slot_ne (Or.inr (hw _ (List.mem_of_getElem? (i := 23) rfl))) (Or.inr (hw _ (List.mem_of_getElem? (i := 25) rfl))) (by decide) (t := (.object "java/lang/String")) (t' := .int) (by decide) (by decide))))
  have G2_port_20 : Fld Z h15 o0 "com/example/hardy_broker/hardybroker/bench/Plan" "port" "I" (.int p2) := (G2_port_11.same W15)
  have G2_publishers_21 : Fld Z h15 o0 "com/example/hardy_broker/hardybroker/bench/Plan" "publishers" "I" (.int (0 : Int32)) := (G2_publishers_12.other W15 (Or.inr (slot_ne (Or.inr (hw _ (List.mem_of_getElem? (i := 27) rfl))) (Or.inr (hw _ (List.mem_of_getElem? (i := 25) rfl))) (by decide) (t := .int) (t' := .int) (by decide) (by decide))))
  have G2_messages_22 : Fld Z h15 o0 "com/example/hardy_broker/hardybroker/bench/Plan" "messages" "I" (.int (0 : Int32)) := (G2_messages_13.other W15 (Or.inr (slot_ne (Or.inr (hw _ (List.mem_of_getElem? (i := 29) rfl))) (Or.inr (hw _ (List.mem_of_getElem? (i := 25) rfl))) (by decide) (t := .int) (t' := .int) (by decide) (by decide))))
  have G2_payloadBytes_23 : Fld Z h15 o0 "com/example/hardy_broker/hardybroker/bench/Plan" "payloadBytes" "I" (.int (0 : Int32)) := (G2_payloadBytes_14.other W15 (Or.inr (slot_ne (Or.inr (hw _ (List.mem_of_getElem? (i := 31) rfl))) (Or.inr (hw _ (List.mem_of_getElem? (i := 25) rfl))) (by decide) (t := .int) (t' := .int) (by decide) (by decide))))
  have N15 := Fr.snoc X15 N6 gn_o0
  refine Got.step st15 ?_
  show Got p e below s _ _ _ _ T15 (mkF m 14 #[.val (.ref o0), .val (.ref o1), .val (.int p2), .val (.int p3), .val (.int p4), .val (.int p5)] [])
  refine Got.step (T' := T15) (g' := (mkF m 16 #[.val (.ref o0), .val (.ref o1), .val (.int p2), .val (.int p3), .val (.int p4), .val (.int p5)] [(.int p3), (.ref o0)])) (fun tq kt => ?_) ?_
  · show Steps p.tables e below (T15.setTop (mkF m 14 #[.val (.ref o0), .val (.ref o1), .val (.int p2), .val (.int p3), .val (.int p4), .val (.int p5)] [])) _
    refine XS.aloadN X15.here hx rfl (hb hby d1_14) rfl rfl ?_
    show Steps p.tables e below (T15.setTop (mkF m 15 #[.val (.ref o0), .val (.ref o1), .val (.int p2), .val (.int p3), .val (.int p4), .val (.int p5)] [(.ref o0)])) _
    refine XS.iloadN X15.here hx rfl (hb hby d1_15) rfl ?_
    exact kt
  obtain ⟨T24, h24, X24, e24, W24, st24⟩ := putF X15 hx hZ hown (host := "") (Or.inl (hw _ (List.mem_of_getElem? (i := 26) rfl))) Via.refl e15 G2_publishers_21 E_o0_18 (Or.inr ⟨(hw _ (List.mem_of_getElem? (i := 27) rfl)), rfl, hnm⟩) (hw _ (List.mem_of_getElem? (i := 1) rfl)) (ty := .int) (by decide) rfl rfl (g := (mkF m 16 #[.val (.ref o0), .val (.ref o1), .val (.int p2), .val (.int p3), .val (.int p4), .val (.int p5)] [(.int p3), (.ref o0)])) rfl rfl (hb hby d1_16)
  have Z0_25 : n0 ≤ h24.size := (Nat.le_trans Z0_16 (Keep.of_wr W24).1)
  have K0_26 : Keep h0 h24 [o0] := (K0_17.wr W24 (Or.inl (List.mem_of_getElem? (i := 0) rfl)))
  have E_o0_27 : Exa Z h24 o0 "com/example/hardy_broker/hardybroker/bench/Plan" := (E_o0_18.wr W24)
  have G2_host_28 : Fld Z h24 o0 "com/example/hardy_broker/hardybroker/bench/Plan" "host" "Ljava/lang/String;" (.ref o1) := (G2_host_19.other W24 (Or.inr (slot_ne (Or.inr (hw _ (List.mem_of_getElem? (i := 23) rfl))) (Or.inr (hw _ (List.mem_of_getElem? (i := 27) rfl))) (by decide) (t := (.object "java/lang/String")) (t' := .int) (by decide) (by decide))))
  have G2_port_29 : Fld Z h24 o0 "com/example/hardy_broker/hardybroker/bench/Plan" "port" "I" (.int p2) := (G2_port_20.other W24 (Or.inr (slot_ne (Or.inr (hw _ (List.mem_of_getElem? (i := 25) rfl))) (Or.inr (hw _ (List.mem_of_getElem? (i := 27) rfl))) (by decide) (t := .int) (t' := .int) (by decide) (by decide))))
  have G2_publishers_30 : Fld Z h24 o0 "com/example/hardy_broker/hardybroker/bench/Plan" "publishers" "I" (.int p3) := (G2_publishers_21.same W24)
  have G2_messages_31 : Fld Z h24 o0 "com/example/hardy_broker/hardybroker/bench/Plan" "messages" "I" (.int (0 : Int32)) := (G2_messages_22.other W24 (Or.inr (slot_ne (Or.inr (hw _ (List.mem_of_getElem? (i := 29) rfl))) (Or.inr (hw _ (List.mem_of_getElem? (i := 27) rfl))) (by decide) (t := .int) (t' := .int) (by decide) (by decide))))
  have G2_payloadBytes_32 : Fld Z h24 o0 "com/example/hardy_broker/hardybroker/bench/Plan" "payloadBytes" "I" (.int (0 : Int32)) := (G2_payloadBytes_23.other W24 (Or.inr (slot_ne (Or.inr (hw _ (List.mem_of_getElem? (i := 31) rfl))) (Or.inr (hw _ (List.mem_of_getElem? (i := 27) rfl))) (by decide) (t := .int) (t' := .int) (by decide) (by decide))))
  have N24 := Fr.snoc X24 N15 gn_o0
  refine Got.step st24 ?_
  show Got p e below s _ _ _ _ T24 (mkF m 19 #[.val (.ref o0), .val (.ref o1), .val (.int p2), .val (.int p3), .val (.int p4), .val (.int p5)] [])
  refine Got.step (T' := T24) (g' := (mkF m 22 #[.val (.ref o0), .val (.ref o1), .val (.int p2), .val (.int p3), .val (.int p4), .val (.int p5)] [(.int p4), (.ref o0)])) (fun tq kt => ?_) ?_
  · show Steps p.tables e below (T24.setTop (mkF m 19 #[.val (.ref o0), .val (.ref o1), .val (.int p2), .val (.int p3), .val (.int p4), .val (.int p5)] [])) _
    refine XS.aloadN X24.here hx rfl (hb hby d1_19) rfl rfl ?_
    show Steps p.tables e below (T24.setTop (mkF m 20 #[.val (.ref o0), .val (.ref o1), .val (.int p2), .val (.int p3), .val (.int p4), .val (.int p5)] [(.ref o0)])) _
    refine XS.iload X24.here hx rfl (hb hby d1_20) rfl ?_
    exact kt
  obtain ⟨T33, h33, X33, e33, W33, st33⟩ := putF X24 hx hZ hown (host := "") (Or.inl (hw _ (List.mem_of_getElem? (i := 28) rfl))) Via.refl e24 G2_messages_31 E_o0_27 (Or.inr ⟨(hw _ (List.mem_of_getElem? (i := 29) rfl)), rfl, hnm⟩) (hw _ (List.mem_of_getElem? (i := 1) rfl)) (ty := .int) (by decide) rfl rfl (g := (mkF m 22 #[.val (.ref o0), .val (.ref o1), .val (.int p2), .val (.int p3), .val (.int p4), .val (.int p5)] [(.int p4), (.ref o0)])) rfl rfl (hb hby d1_22)
  have Z0_34 : n0 ≤ h33.size := (Nat.le_trans Z0_25 (Keep.of_wr W33).1)
  have K0_35 : Keep h0 h33 [o0] := (K0_26.wr W33 (Or.inl (List.mem_of_getElem? (i := 0) rfl)))
  have E_o0_36 : Exa Z h33 o0 "com/example/hardy_broker/hardybroker/bench/Plan" := (E_o0_27.wr W33)
  have G2_host_37 : Fld Z h33 o0 "com/example/hardy_broker/hardybroker/bench/Plan" "host" "Ljava/lang/String;" (.ref o1) := (G2_host_28.other W33 (Or.inr (slot_ne (Or.inr (hw _ (List.mem_of_getElem? (i := 23) rfl))) (Or.inr (hw _ (List.mem_of_getElem? (i := 29) rfl))) (by decide) (t := (.object "java/lang/String")) (t' := .int) (by decide) (by decide))))
  have G2_port_38 : Fld Z h33 o0 "com/example/hardy_broker/hardybroker/bench/Plan" "port" "I" (.int p2) := (G2_port_29.other W33 (Or.inr (slot_ne (Or.inr (hw _ (List.mem_of_getElem? (i := 25) rfl))) (Or.inr (hw _ (List.mem_of_getElem? (i := 29) rfl))) (by decide) (t := .int) (t' := .int) (by decide) (by decide))))
  have G2_publishers_39 : Fld Z h33 o0 "com/example/hardy_broker/hardybroker/bench/Plan" "publishers" "I" (.int p3) := (G2_publishers_30.other W33 (Or.inr (slot_ne (Or.inr (hw _ (List.mem_of_getElem? (i := 27) rfl))) (Or.inr (hw _ (List.mem_of_getElem? (i := 29) rfl))) (by decide) (t := .int) (t' := .int) (by decide) (by decide))))
  have G2_messages_40 : Fld Z h33 o0 "com/example/hardy_broker/hardybroker/bench/Plan" "messages" "I" (.int p4) := (G2_messages_31.same W33)
  have G2_payloadBytes_41 : Fld Z h33 o0 "com/example/hardy_broker/hardybroker/bench/Plan" "payloadBytes" "I" (.int (0 : Int32)) := (G2_payloadBytes_32.other W33 (Or.inr (slot_ne (Or.inr (hw _ (List.mem_of_getElem? (i := 31) rfl))) (Or.inr (hw _ (List.mem_of_getElem? (i := 29) rfl))) (by decide) (t := .int) (t' := .int) (by decide) (by decide))))
  have N33 := Fr.snoc X33 N24 gn_o0
  refine Got.step st33 ?_
  show Got p e below s _ _ _ _ T33 (mkF m 25 #[.val (.ref o0), .val (.ref o1), .val (.int p2), .val (.int p3), .val (.int p4), .val (.int p5)] [])
  refine Got.step (T' := T33) (g' := (mkF m 28 #[.val (.ref o0), .val (.ref o1), .val (.int p2), .val (.int p3), .val (.int p4), .val (.int p5)] [(.int p5), (.ref o0)])) (fun tq kt => ?_) ?_
  · show Steps p.tables e below (T33.setTop (mkF m 25 #[.val (.ref o0), .val (.ref o1), .val (.int p2), .val (.int p3), .val (.int p4), .val (.int p5)] [])) _
    refine XS.aloadN X33.here hx rfl (hb hby d1_25) rfl rfl ?_
    show Steps p.tables e below (T33.setTop (mkF m 26 #[.val (.ref o0), .val (.ref o1), .val (.int p2), .val (.int p3), .val (.int p4), .val (.int p5)] [(.ref o0)])) _
    refine XS.iload X33.here hx rfl (hb hby d1_26) rfl ?_
    exact kt
  obtain ⟨T42, h42, X42, e42, W42, st42⟩ := putF X33 hx hZ hown (host := "") (Or.inl (hw _ (List.mem_of_getElem? (i := 30) rfl))) Via.refl e33 G2_payloadBytes_41 E_o0_36 (Or.inr ⟨(hw _ (List.mem_of_getElem? (i := 31) rfl)), rfl, hnm⟩) (hw _ (List.mem_of_getElem? (i := 1) rfl)) (ty := .int) (by decide) rfl rfl (g := (mkF m 28 #[.val (.ref o0), .val (.ref o1), .val (.int p2), .val (.int p3), .val (.int p4), .val (.int p5)] [(.int p5), (.ref o0)])) rfl rfl (hb hby d1_28)
  have Z0_43 : n0 ≤ h42.size := (Nat.le_trans Z0_34 (Keep.of_wr W42).1)
  have K0_44 : Keep h0 h42 [o0] := (K0_35.wr W42 (Or.inl (List.mem_of_getElem? (i := 0) rfl)))
  have E_o0_45 : Exa Z h42 o0 "com/example/hardy_broker/hardybroker/bench/Plan" := (E_o0_36.wr W42)
  have G2_host_46 : Fld Z h42 o0 "com/example/hardy_broker/hardybroker/bench/Plan" "host" "Ljava/lang/String;" (.ref o1) := (G2_host_37.other W42 (Or.inr (slot_ne (Or.inr (hw _ (List.mem_of_getElem? (i := 23) rfl))) (Or.inr (hw _ (List.mem_of_getElem? (i := 31) rfl))) (by decide) (t := (.object "java/lang/String")) (t' := .int) (by decide) (by decide))))
  have G2_port_47 : Fld Z h42 o0 "com/example/hardy_broker/hardybroker/bench/Plan" "port" "I" (.int p2) := (G2_port_38.other W42 (Or.inr (slot_ne (Or.inr (hw _ (List.mem_of_getElem? (i := 25) rfl))) (Or.inr (hw _ (List.mem_of_getElem? (i := 31) rfl))) (by decide) (t := .int) (t' := .int) (by decide) (by decide))))
  have G2_publishers_48 : Fld Z h42 o0 "com/example/hardy_broker/hardybroker/bench/Plan" "publishers" "I" (.int p3) := (G2_publishers_39.other W42 (Or.inr (slot_ne (Or.inr (hw _ (List.mem_of_getElem? (i := 27) rfl))) (Or.inr (hw _ (List.mem_of_getElem? (i := 31) rfl))) (by decide) (t := .int) (t' := .int) (by decide) (by decide))))
  have G2_messages_49 : Fld Z h42 o0 "com/example/hardy_broker/hardybroker/bench/Plan" "messages" "I" (.int p4) := (G2_messages_40.other W42 (Or.inr (slot_ne (Or.inr (hw _ (List.mem_of_getElem? (i := 29) rfl))) (Or.inr (hw _ (List.mem_of_getElem? (i := 31) rfl))) (by decide) (t := .int) (t' := .int) (by decide) (by decide))))
  have G2_payloadBytes_50 : Fld Z h42 o0 "com/example/hardy_broker/hardybroker/bench/Plan" "payloadBytes" "I" (.int p5) := (G2_payloadBytes_41.same W42)
  have N42 := Fr.snoc X42 N33 gn_o0
  refine Got.step st42 ?_
  show Got p e below s _ _ _ _ T42 (mkF m 31 #[.val (.ref o0), .val (.ref o1), .val (.int p2), .val (.int p3), .val (.int p4), .val (.int p5)] [])
  exact Got.retV X42 hx Bd.returns hlk (hb hby d1_31) ⟨N42, by rw [e42]; exact K0_44, by rw [e42]; exact E_o0_45, by rw [e42]; exact G2_publishers_48, by rw [e42]; exact G2_messages_49⟩ (by decide) (by decide)
def f4 (pb : Int32) (ms : Int32)  : Int64 := ((pb.toInt64) * (ms.toInt64))
theorem ef_4 (m : MethodId) (x0 : Addr) : entryFrame m #[(.ref x0)] 1 = mkF m 0 #[.val (.ref x0)] [] := by first | (simp [entryFrame, mkF, argsToLocals, Value.category]; done) | rfl
theorem d4_0 : decode prog_3_method_2_code 0 = .ok (.aload_n 0, 1) := by decide +kernel
theorem d4_1 : decode prog_3_method_2_code 1 = .ok (.getfield 17, 3) := by decide +kernel
theorem d4_4 : decode prog_3_method_2_code 4 = .ok (.i2l, 1) := by decide +kernel
theorem d4_5 : decode prog_3_method_2_code 5 = .ok (.aload_n 0, 1) := by decide +kernel
theorem d4_6 : decode prog_3_method_2_code 6 = .ok (.getfield 20, 3) := by decide +kernel
theorem d4_9 : decode prog_3_method_2_code 9 = .ok (.i2l, 1) := by decide +kernel
theorem d4_10 : decode prog_3_method_2_code 10 = .ok (.lmul, 1) := by decide +kernel
theorem d4_11 : decode prog_3_method_2_code 11 = .ok (.lreturn, 1) := by decide +kernel
set_option maxRecDepth 65536 in
set_option maxHeartbeats 40000000 in
theorem rm4 (l : Launch) (Z : State) (a0 : Array Value) (hw : ∀ d ∈ tables_1, d.before a0 Z = true) (ws : List Jvm.Cond) (o0 : Addr) (pb : Int32) (ms : Int32)  (h0 : Heap) (n0 : Nat) (Z0 : n0 ≤ h0.size) (E_o0 : Exa Z h0 o0 "com/example/hardy_broker/hardybroker/bench/Plan") (F_publishers : Fld Z h0 o0 "com/example/hardy_broker/hardybroker/bench/Plan" "publishers" "I" (.int pb)) (F_messages : Fld Z h0 o0 "com/example/hardy_broker/hardybroker/bench/Plan" "messages" "I" (.int ms))  :
    MetFree l (⟨"com/example/hardy_broker/hardybroker/bench/Plan", "messagesInAll", "()J"⟩ : MethodName) (head1 (Jvm.Cond.code (⟨"com/example/hardy_broker/hardybroker/bench/Plan", "messagesInAll", "()J"⟩ : MethodName) prog_3_method_2_code 1 (some .long) :: ws) ({ frames := 0, cells := 0, slots := 0, locals := 0 } : Room)) (fun a U => a = #[(.ref o0)] ∧ Z.Warmed39 U.vm ∧ U.heap = h0) (fun _ _ _ _ _ => True) (fun _ U o U' => ∃ v L, o = .returned v ∧ QV (some (.long (f4 pb ms))) (PureP n0 h0) v U'.heap L ∧ FrameEnd U o U' L ({ frames := 0, cells := 0, slots := 0, locals := 0 } : Room).cells ({ frames := 0, cells := 0, slots := 0, locals := 0 } : Room).slots) := by
  refine MetFree.of_bodySF (plainFor_of_name pn_1) hisR ?_
  intro p e s m args below meth c s₁ Bd hml0 hP hK
  obtain ⟨rfl, hZ, hh⟩ := hP
  have hx := Bd.exec
  have hby := Bd.bytes
  have hml : c.maxLocals = 1 := hml0
  have hown : s.vm.findClass "com/example/hardy_broker/hardybroker/bench/Plan" = some m.cls := findClass_of_methodNamed Bd.named
  have hnm := (name_of_methodNamed Bd.named Bd.method).1
  have hlk : meth.locks = false := BodyLoose.notSynchronized Bd
  have X0 : Stand p l e ({ frames := 0, cells := 0, slots := 0, locals := 0 } : Room) s m #[(.ref o0)] below meth c s₁ [] 0 0 := Stand.of_body Bd
  have e0 : s₁.heap = h0 := by rw [← hh, Bd.state]; rfl
  have N0 := Fr.nil n0
  refine Got.body (ef_4 m o0) ?_
  refine Got.step (T' := s₁) (g' := (mkF m 1 #[.val (.ref o0)] [(.ref o0)])) (fun tq kt => ?_) ?_
  · show Steps p.tables e below (s₁.setTop (mkF m 0 #[.val (.ref o0)] [])) _
    refine XS.aloadN X0.here hx rfl (hb hby d4_0) rfl rfl ?_
    exact kt
  obtain ⟨T51, X51, e51, st51⟩ := getF X0 hx hZ hown (host := "") (Or.inl (hw _ (List.mem_of_getElem? (i := 26) rfl))) Via.refl e0 F_publishers (g := (mkF m 1 #[.val (.ref o0)] [(.ref o0)])) rfl rfl (hb hby d4_1)
  refine Got.step st51 ?_
  show Got p e below s _ _ _ _ T51 (mkF m 4 #[.val (.ref o0)] [(.int pb)])
  refine Got.step (T' := T51) (g' := (mkF m 6 #[.val (.ref o0)] [(.ref o0), (.long (pb.toInt64))])) (fun tq kt => ?_) ?_
  · show Steps p.tables e below (T51.setTop (mkF m 4 #[.val (.ref o0)] [(.int pb)])) _
    refine XS.i2l X51.here hx rfl (hb hby d4_4) rfl ?_
    show Steps p.tables e below (T51.setTop (mkF m 5 #[.val (.ref o0)] [(.long (pb.toInt64))])) _
    refine XS.aloadN X51.here hx rfl (hb hby d4_5) rfl rfl ?_
    exact kt
  obtain ⟨T52, X52, e52, st52⟩ := getF X51 hx hZ hown (host := "") (Or.inl (hw _ (List.mem_of_getElem? (i := 28) rfl))) Via.refl e51 F_messages (g := (mkF m 6 #[.val (.ref o0)] [(.ref o0), (.long (pb.toInt64))])) rfl rfl (hb hby d4_6)
  refine Got.step st52 ?_
  show Got p e below s _ _ _ _ T52 (mkF m 9 #[.val (.ref o0)] [(.int ms), (.long (pb.toInt64))])
  refine Got.step (T' := T52) (g' := (mkF m 11 #[.val (.ref o0)] [(.long ((pb.toInt64) * (ms.toInt64)))])) (fun tq kt => ?_) ?_
  · show Steps p.tables e below (T52.setTop (mkF m 9 #[.val (.ref o0)] [(.int ms), (.long (pb.toInt64))])) _
    refine XS.i2l X52.here hx rfl (hb hby d4_9) rfl ?_
    show Steps p.tables e below (T52.setTop (mkF m 10 #[.val (.ref o0)] [(.long (ms.toInt64)), (.long (pb.toInt64))])) _
    refine XS.lmul X52.here hx rfl (hb hby d4_10) rfl ?_
    exact kt
  exact Got.retJ (y := ((pb.toInt64) * (ms.toInt64))) X52 hx Bd.returns hlk (hb hby d4_11) rfl ⟨N0, e52⟩ (by decide) (by decide)
theorem own_split (p : Int32) : p.toInt64 = ((p >>> ((16 : Int32) &&& 31)).toInt64) * (65536 : Int64) + ((p &&& (65535 : Int32)).toInt64) := by
  have a := c_ishr p 16 16 (by decide)
  have b := c_mask p 65535 16 (by decide) (by decide)
  have z : (65536 : Int64).toInt = 65536 := rfl
  have r1 := Int32.le_toInt p
  have r2 := Int32.toInt_lt p
  have m : ((p >>> ((16 : Int32) &&& 31)).toInt64 * (65536 : Int64)).toInt = (p >>> ((16 : Int32) &&& 31)).toInt * 65536 := by
    rw [XT.mul64 (by unfold XT.fits64; rw [Int32.toInt_toInt64, z]; omega), Int32.toInt_toInt64, z]
  rw [← Int64.toInt_inj, XT.add64 (by unfold XT.fits64; rw [m, Int32.toInt_toInt64]; omega), m, Int32.toInt_toInt64, Int32.toInt_toInt64]
  omega
theorem own_fin (p0 p1 : Int32) : (f4 p0 p1) = (((((p0 >>> ((16 : Int32) &&& 31)).toInt64) * (p1.toInt64)) * (65536 : Int64)) + (((p0 &&& (65535 : Int32)).toInt64) * (p1.toInt64))) := by
  unfold f4
  rw [Int64.mul_assoc, Int64.mul_comm p1.toInt64 65536, ← Int64.mul_assoc, ← Int64.add_mul, ← own_split]

theorem pd_1 : parseMethodDescriptor "(Ljava/lang/String;IIII)V" = some ⟨[(.object "java/lang/String"), .int, .int, .int, .int], none⟩ := by decide +kernel
theorem pd_2 : parseMethodDescriptor "()J" = some ⟨[], some .long⟩ := by decide +kernel
theorem ef_0 (m : MethodId) (x0 : Int32) (x1 : Int32) (x2 : Int32) (x3 : Int32) : entryFrame m #[(.int x0), (.int x1), (.int x2), (.int x3)] maxLocals = mkF m 0 #[.val (.int x0), .val (.int x1), .val (.int x2), .val (.int x3), .unset, .unset, .unset, .unset, .unset, .unset, .unset, .unset, .unset] [] := by first | (simp [entryFrame, mkF, argsToLocals, Value.category, maxLocals]; done) | rfl
theorem pn_2 : plainName "com/example/hardy_broker/hardybroker/bench/PlanMessagesInAllPinLaw" = true := by first | (simp [plainName, overriddenIn]; done) | decide +kernel
set_option maxRecDepth 65536 in
set_option maxHeartbeats 40000000 in
theorem rm0 (l : Launch) (Z : State) (a0 : Array Value) (hw : ∀ d ∈ tables_1, d.before a0 Z = true) (ws : List Jvm.Cond) (p0 p1 p2 p3 : Int32) (h0 : Heap) (n0 : Nat) (Z0 : n0 ≤ h0.size)  :
    MetFree l x (head1 (Jvm.Cond.code x code maxLocals ret :: ws) room_1) (fun a U => a = #[(.int p0), (.int p1), (.int p2), (.int p3)] ∧ Z.Warmed39 U.vm ∧ U.heap = h0) (fun _ _ _ _ _ => True) (fun _ U o U' => ∃ v L, o = .returned v ∧ QV (some (.int (1 : Int32))) (fun _ L => Fr n0 L) v U'.heap L ∧ FEW U o U' L room_1.cells room_1.slots) := by
  refine MetFree.of_bodySF (plainFor_of_name pn_2) hisR ?_
  intro p e s m args below meth c s₁ Bd hml0 hP hK
  obtain ⟨rfl, hZ, hh⟩ := hP
  have hx := Bd.exec
  have hby := Bd.bytes
  have hml : c.maxLocals = 13 := hml0
  have hown : s.vm.findClass "com/example/hardy_broker/hardybroker/bench/PlanMessagesInAllPinLaw" = some m.cls := findClass_of_methodNamed Bd.named
  have hnm := (name_of_methodNamed Bd.named Bd.method).1
  have hlk : meth.locks = false := BodyLoose.notSynchronized Bd
  have X0 : Stand p l e room_1 s m #[(.int p0), (.int p1), (.int p2), (.int p3)] below meth c s₁ [] 0 0 := Stand.of_body Bd
  have e0 : s₁.heap = h0 := by rw [← hh, Bd.state]; rfl
  have N0 := Fr.nil n0
  refine GotW.body (ef_0 m p0 p1 p2 p3) ?_
  obtain ⟨T53, h53, X53, e53, E53, A53, D53, -, st53⟩ := newO X0 hx hZ hown (hw _ (List.mem_of_getElem? (i := 0) rfl)) (hw _ (List.mem_of_getElem? (i := 1) rfl)) (hw _ (List.mem_of_getElem? (i := 2) rfl)) e0 (g := (mkF m 0 #[.val (.int p0), .val (.int p1), .val (.int p2), .val (.int p3), .unset, .unset, .unset, .unset, .unset, .unset, .unset, .unset, .unset] [])) rfl (hb hby at_0) (by decide) (by decide)
  obtain ⟨b53, g53⟩ : ∃ z, z = h0.size := ⟨_, rfl⟩
  rw [← g53] at A53 D53 st53
  have gn_b53 : n0 ≤ b53 := by rw [g53]; exact Z0
  have Z0_54 : n0 ≤ h53.size := (Nat.le_trans Z0 E53.1)
  have F53_host : Fld Z h53 b53 "com/example/hardy_broker/hardybroker/bench/Plan" "host" "Ljava/lang/String;" .null := D53 (Or.inr (hw _ (List.mem_of_getElem? (i := 23) rfl))) (ty := (.object "java/lang/String")) (by decide)
  have F53_port : Fld Z h53 b53 "com/example/hardy_broker/hardybroker/bench/Plan" "port" "I" (.int (0 : Int32)) := D53 (Or.inr (hw _ (List.mem_of_getElem? (i := 25) rfl))) (ty := .int) (by decide)
  have F53_publishers : Fld Z h53 b53 "com/example/hardy_broker/hardybroker/bench/Plan" "publishers" "I" (.int (0 : Int32)) := D53 (Or.inr (hw _ (List.mem_of_getElem? (i := 27) rfl))) (ty := .int) (by decide)
  have F53_messages : Fld Z h53 b53 "com/example/hardy_broker/hardybroker/bench/Plan" "messages" "I" (.int (0 : Int32)) := D53 (Or.inr (hw _ (List.mem_of_getElem? (i := 29) rfl))) (ty := .int) (by decide)
  have F53_payloadBytes : Fld Z h53 b53 "com/example/hardy_broker/hardybroker/bench/Plan" "payloadBytes" "I" (.int (0 : Int32)) := D53 (Or.inr (hw _ (List.mem_of_getElem? (i := 31) rfl))) (ty := .int) (by decide)
  refine GotW.step st53 ?_
  show GotW p e below s _ _ _ _ T53 (mkF m 3 #[.val (.int p0), .val (.int p1), .val (.int p2), .val (.int p3), .unset, .unset, .unset, .unset, .unset, .unset, .unset, .unset, .unset] [(.ref b53)])
  refine GotW.step (T' := T53) (g' := (mkF m 4 #[.val (.int p0), .val (.int p1), .val (.int p2), .val (.int p3), .unset, .unset, .unset, .unset, .unset, .unset, .unset, .unset, .unset] [(.ref b53), (.ref b53)])) (fun tq kt => ?_) ?_
  · show Steps p.tables e below (T53.setTop (mkF m 3 #[.val (.int p0), .val (.int p1), .val (.int p2), .val (.int p3), .unset, .unset, .unset, .unset, .unset, .unset, .unset, .unset, .unset] [(.ref b53)])) _
    refine XS.dup X53.here hx rfl (hb hby at_3) rfl rfl ?_
    exact kt
  obtain ⟨as55, T55, h55, kk55, X55, e55, E55, hS55, hk55, hZ55, hown55, st55⟩ := ldcS (s := s) (vm0 := s.vm) X53 hx hZ hown (hw _ (List.mem_of_getElem? (i := 3) rfl)) (own_wS hw) e53 ((State.WarmedH.refl s).since 0) (Nat.zero_le _) (g := (mkF m 4 #[.val (.int p0), .val (.int p1), .val (.int p2), .val (.int p3), .unset, .unset, .unset, .unset, .unset, .unset, .unset, .unset, .unset] [(.ref b53), (.ref b53)])) rfl (hb hby at_4) (n := 4) (by decide) (by decide) (by decide) (by decide)
  obtain ⟨sL, hsL⟩ : ∃ z, z = s.setVm T55.vm := ⟨_, rfl⟩
  rw [← hsL] at X55 hZ55 hown55
  have hZ := hZ55
  have hown := hown55
  have hS := hS55
  have Z0_56 : n0 ≤ h55.size := (Nat.le_trans Z0_54 E55.1)
  have A53_57 : Exa Z h55 b53 "com/example/hardy_broker/hardybroker/bench/Plan" := (A53.ext E55)
  have F53_host_58 : Fld Z h55 b53 "com/example/hardy_broker/hardybroker/bench/Plan" "host" "Ljava/lang/String;" .null := (F53_host.ext E55)
  have F53_port_59 : Fld Z h55 b53 "com/example/hardy_broker/hardybroker/bench/Plan" "port" "I" (.int (0 : Int32)) := (F53_port.ext E55)
  have F53_publishers_60 : Fld Z h55 b53 "com/example/hardy_broker/hardybroker/bench/Plan" "publishers" "I" (.int (0 : Int32)) := (F53_publishers.ext E55)
  have F53_messages_61 : Fld Z h55 b53 "com/example/hardy_broker/hardybroker/bench/Plan" "messages" "I" (.int (0 : Int32)) := (F53_messages.ext E55)
  have F53_payloadBytes_62 : Fld Z h55 b53 "com/example/hardy_broker/hardybroker/bench/Plan" "payloadBytes" "I" (.int (0 : Int32)) := (F53_payloadBytes.ext E55)
  refine GotW.step st55 ?_
  show GotW p e below s _ _ _ _ T55 (mkF m 6 #[.val (.int p0), .val (.int p1), .val (.int p2), .val (.int p3), .unset, .unset, .unset, .unset, .unset, .unset, .unset, .unset, .unset] [(.ref as55), (.ref b53), (.ref b53)])
  refine GotW.step (T' := T55) (g' := (mkF m 10 #[.val (.int p0), .val (.int p1), .val (.int p2), .val (.int p3), .unset, .unset, .unset, .unset, .unset, .unset, .unset, .unset, .unset] [(.int p3), (.int p1), (.int p0), (.int p2), (.ref as55), (.ref b53), (.ref b53)])) (fun tq kt => ?_) ?_
  · show Steps p.tables e below (T55.setTop (mkF m 6 #[.val (.int p0), .val (.int p1), .val (.int p2), .val (.int p3), .unset, .unset, .unset, .unset, .unset, .unset, .unset, .unset, .unset] [(.ref as55), (.ref b53), (.ref b53)])) _
    refine XS.iloadN X55.here hx rfl (hb hby at_6) rfl ?_
    show Steps p.tables e below (T55.setTop (mkF m 7 #[.val (.int p0), .val (.int p1), .val (.int p2), .val (.int p3), .unset, .unset, .unset, .unset, .unset, .unset, .unset, .unset, .unset] [(.int p2), (.ref as55), (.ref b53), (.ref b53)])) _
    refine XS.iloadN X55.here hx rfl (hb hby at_7) rfl ?_
    show Steps p.tables e below (T55.setTop (mkF m 8 #[.val (.int p0), .val (.int p1), .val (.int p2), .val (.int p3), .unset, .unset, .unset, .unset, .unset, .unset, .unset, .unset, .unset] [(.int p0), (.int p2), (.ref as55), (.ref b53), (.ref b53)])) _
    refine XS.iloadN X55.here hx rfl (hb hby at_8) rfl ?_
    show Steps p.tables e below (T55.setTop (mkF m 9 #[.val (.int p0), .val (.int p1), .val (.int p2), .val (.int p3), .unset, .unset, .unset, .unset, .unset, .unset, .unset, .unset, .unset] [(.int p1), (.int p0), (.int p2), (.ref as55), (.ref b53), (.ref b53)])) _
    refine XS.iloadN X55.here hx rfl (hb hby at_9) rfl ?_
    exact kt
  obtain ⟨_, _, ⟨T63, L63, k63, n63⟩, -, X63, ⟨Lc63, hQ63, l63, y63, z63⟩, st63⟩ := X55.specialBack hx (y := (⟨"com/example/hardy_broker/hardybroker/bench/Plan", "<init>", "(Ljava/lang/String;IIII)V"⟩ : MethodName)) rfl hown (mvT hZ (hw _ (List.mem_of_getElem? (i := 11) rfl))) (mvT hZ (hw _ (List.mem_of_getElem? (i := 12) rfl))) (mvT hZ (hw _ (List.mem_of_getElem? (i := 13) rfl))) (by decide) (backOf (W := 1) (rm1 l Z a0 hw [] b53 as55 p2 p0 p1 p3 h55 n0 Z0_56 gn_b53 A53_57 F53_host_58 F53_port_59 F53_publishers_60 F53_messages_61 F53_payloadBytes_62 ) hZ (hw _ (List.mem_of_getElem? (i := 13) rfl)) (hw _ (List.mem_of_getElem? (i := 2) rfl)) (by decide) (by decide)) (g := (mkF m 10 #[.val (.int p0), .val (.int p1), .val (.int p2), .val (.int p3), .unset, .unset, .unset, .unset, .unset, .unset, .unset, .unset, .unset] [(.int p3), (.int p1), (.int p0), (.int p2), (.ref as55), (.ref b53), (.ref b53)])) rfl (by rw [hml]; rfl) (Steps.refl _) (a := b53) (argsL := [(.ref as55), (.int p2), (.int p0), (.int p1), (.int p3)]) (rest := [(.ref b53)]) (lenOf pd_1 rfl) rfl (by show 2 * 0 + _ ≤ _; exact Nat.le_of_eq rfl) (hb hby at_10) (fun _ _ => ⟨rfl, e55, (by decide : 3 + 0 ≤ _), (by decide : 13 + 0 ≤ _)⟩)
  dsimp only [Pt.U, Pt.locs, Pt.cells, Pt.slots] at X63 l63 y63 z63 st63 hQ63
  subst y63 z63
  obtain ⟨h63, e63⟩ : ∃ z, T63.heap = z := ⟨_, rfl⟩
  rw [e63] at hQ63
  obtain ⟨rfl, Nq63, K63, E63, G63_publishers, G63_messages⟩ := hQ63
  have N63 : Fr n0 L63 := by rw [l63]; exact Fr.app N0 Nq63
  have Z0_64 : n0 ≤ h63.size := (Nat.le_trans Z0_56 K63.1)
  have A53_65 : Exa Z h63 b53 "com/example/hardy_broker/hardybroker/bench/Plan" := (A53_57.keep K63)
  have hk55_66 : kk55 ≤ h63.size := (Nat.le_trans hk55 K63.1)
  refine GotW.hop st63 ?_
  show GotW p e below s _ _ _ _ T63 (mkF m 13 #[.val (.int p0), .val (.int p1), .val (.int p2), .val (.int p3), .unset, .unset, .unset, .unset, .unset, .unset, .unset, .unset, .unset] [(.ref b53)])
  refine GotW.step (T' := T63) (g' := (mkF m 17 #[.val (.int p0), .val (.int p1), .val (.int p2), .val (.int p3), .val (.ref b53), .unset, .unset, .unset, .unset, .unset, .unset, .unset, .unset] [(.ref b53)])) (fun tq kt => ?_) ?_
  · show Steps p.tables e below (T63.setTop (mkF m 13 #[.val (.int p0), .val (.int p1), .val (.int p2), .val (.int p3), .unset, .unset, .unset, .unset, .unset, .unset, .unset, .unset, .unset] [(.ref b53)])) _
    refine XS.astore X63.here hx rfl (hb hby at_13) rfl rfl (l' := #[.val (.int p0), .val (.int p1), .val (.int p2), .val (.int p3), .val (.ref b53), .unset, .unset, .unset, .unset, .unset, .unset, .unset, .unset]) rfl ?_
    show Steps p.tables e below (T63.setTop (mkF m 15 #[.val (.int p0), .val (.int p1), .val (.int p2), .val (.int p3), .val (.ref b53), .unset, .unset, .unset, .unset, .unset, .unset, .unset, .unset] [])) _
    refine XS.aload X63.here hx rfl (hb hby at_15) rfl rfl ?_
    exact kt
  obtain ⟨cq67, kq67, qa67, qb67, qc67⟩ := isOf hZ e63 A53_65
  obtain ⟨_, _, ⟨T67, L67, k67, n67⟩, -, X67, ⟨Lc67, hQ67, l67, y67, z67⟩, st67⟩ := X63.virtualBack hx (y := (⟨"com/example/hardy_broker/hardybroker/bench/Plan", "messagesInAll", "()J"⟩ : MethodName)) (z := (⟨"com/example/hardy_broker/hardybroker/bench/Plan", "messagesInAll", "()J"⟩ : MethodName)) hown (mvT hZ (hw _ (List.mem_of_getElem? (i := 32) rfl))) (mvT hZ (hw _ (List.mem_of_getElem? (i := 33) rfl))) (notFace_of_selects (args := #[]) (mvT hZ (hw _ (List.mem_of_getElem? (i := 35) rfl)))) (mvT hZ (hw _ (List.mem_of_getElem? (i := 35) rfl))) (mvT hZ (hw _ (List.mem_of_getElem? (i := 34) rfl))) (by decide) (backOf (W := 0) (rm4 l Z a0 hw [] b53 p0 p1 h63 n0 Z0_64 A53_65 G63_publishers G63_messages ) hZ (hw _ (List.mem_of_getElem? (i := 36) rfl)) (hw _ (List.mem_of_getElem? (i := 2) rfl)) (by decide) (by decide)) qa67 qc67 (g := (mkF m 17 #[.val (.int p0), .val (.int p1), .val (.int p2), .val (.int p3), .val (.ref b53), .unset, .unset, .unset, .unset, .unset, .unset, .unset, .unset] [(.ref b53)])) rfl (by rw [hml]; rfl) (Steps.refl _) (argsL := []) (rest := []) (lenOf pd_2 rfl) rfl (by show 2 * 0 + _ ≤ _; exact Nat.le_of_eq rfl) (hb hby at_17) (fun _ _ => ⟨rfl, e63, (by decide : 3 + 0 ≤ _), (by decide : 13 + 0 ≤ _)⟩)
  dsimp only [Pt.U, Pt.locs, Pt.cells, Pt.slots] at X67 l67 y67 z67 st67 hQ67
  subst y67 z67
  obtain ⟨rfl, Nq67, e67⟩ := hQ67
  have N67 : Fr n0 L67 := by rw [l67]; exact Fr.app N63 Nq67
  refine GotW.hop st67 ?_
  show GotW p e below s _ _ _ _ T67 (mkF m 20 #[.val (.int p0), .val (.int p1), .val (.int p2), .val (.int p3), .val (.ref b53), .unset, .unset, .unset, .unset, .unset, .unset, .unset, .unset] [(.long (f4 p0 p1))])
  refine GotW.step (T' := T67) (g' := (mkF m 66 #[.val (.int p0), .val (.int p1), .val (.int p2), .val (.int p3), .val (.ref b53), .val (.long (f4 p0 p1)), .second, .val (.long (((p0 >>> ((16 : Int32) &&& 31)).toInt64) * (p1.toInt64))), .second, .val (.long (((p0 &&& (65535 : Int32)).toInt64) * (p1.toInt64))), .second, .val (.long (((((p0 >>> ((16 : Int32) &&& 31)).toInt64) * (p1.toInt64)) * (65536 : Int64)) + (((p0 &&& (65535 : Int32)).toInt64) * (p1.toInt64)))), .second] [(.int (1 : Int32))])) (fun tq kt => ?_) ?_
  · show Steps p.tables e below (T67.setTop (mkF m 20 #[.val (.int p0), .val (.int p1), .val (.int p2), .val (.int p3), .val (.ref b53), .unset, .unset, .unset, .unset, .unset, .unset, .unset, .unset] [(.long (f4 p0 p1))])) _
    refine XS.lstore X67.here hx rfl (hb hby at_20) rfl (l' := #[.val (.int p0), .val (.int p1), .val (.int p2), .val (.int p3), .val (.ref b53), .val (.long (f4 p0 p1)), .second, .unset, .unset, .unset, .unset, .unset, .unset]) rfl ?_
    show Steps p.tables e below (T67.setTop (mkF m 22 #[.val (.int p0), .val (.int p1), .val (.int p2), .val (.int p3), .val (.ref b53), .val (.long (f4 p0 p1)), .second, .unset, .unset, .unset, .unset, .unset, .unset] [])) _
    refine XS.iloadN X67.here hx rfl (hb hby at_22) rfl ?_
    show Steps p.tables e below (T67.setTop (mkF m 23 #[.val (.int p0), .val (.int p1), .val (.int p2), .val (.int p3), .val (.ref b53), .val (.long (f4 p0 p1)), .second, .unset, .unset, .unset, .unset, .unset, .unset] [(.int p0)])) _
    refine XS.bipush X67.here hx rfl (hb hby at_23) ?_
    show Steps p.tables e below (T67.setTop (mkF m 25 #[.val (.int p0), .val (.int p1), .val (.int p2), .val (.int p3), .val (.ref b53), .val (.long (f4 p0 p1)), .second, .unset, .unset, .unset, .unset, .unset, .unset] [(.int (16 : Int32)), (.int p0)])) _
    refine XS.ishr X67.here hx rfl (hb hby at_25) rfl ?_
    show Steps p.tables e below (T67.setTop (mkF m 26 #[.val (.int p0), .val (.int p1), .val (.int p2), .val (.int p3), .val (.ref b53), .val (.long (f4 p0 p1)), .second, .unset, .unset, .unset, .unset, .unset, .unset] [(.int (p0 >>> ((16 : Int32) &&& 31)))])) _
    refine XS.i2l X67.here hx rfl (hb hby at_26) rfl ?_
    show Steps p.tables e below (T67.setTop (mkF m 27 #[.val (.int p0), .val (.int p1), .val (.int p2), .val (.int p3), .val (.ref b53), .val (.long (f4 p0 p1)), .second, .unset, .unset, .unset, .unset, .unset, .unset] [(.long ((p0 >>> ((16 : Int32) &&& 31)).toInt64))])) _
    refine XS.iloadN X67.here hx rfl (hb hby at_27) rfl ?_
    show Steps p.tables e below (T67.setTop (mkF m 28 #[.val (.int p0), .val (.int p1), .val (.int p2), .val (.int p3), .val (.ref b53), .val (.long (f4 p0 p1)), .second, .unset, .unset, .unset, .unset, .unset, .unset] [(.int p1), (.long ((p0 >>> ((16 : Int32) &&& 31)).toInt64))])) _
    refine XS.i2l X67.here hx rfl (hb hby at_28) rfl ?_
    show Steps p.tables e below (T67.setTop (mkF m 29 #[.val (.int p0), .val (.int p1), .val (.int p2), .val (.int p3), .val (.ref b53), .val (.long (f4 p0 p1)), .second, .unset, .unset, .unset, .unset, .unset, .unset] [(.long (p1.toInt64)), (.long ((p0 >>> ((16 : Int32) &&& 31)).toInt64))])) _
    refine XS.lmul X67.here hx rfl (hb hby at_29) rfl ?_
    show Steps p.tables e below (T67.setTop (mkF m 30 #[.val (.int p0), .val (.int p1), .val (.int p2), .val (.int p3), .val (.ref b53), .val (.long (f4 p0 p1)), .second, .unset, .unset, .unset, .unset, .unset, .unset] [(.long (((p0 >>> ((16 : Int32) &&& 31)).toInt64) * (p1.toInt64)))])) _
    refine XS.lstore X67.here hx rfl (hb hby at_30) rfl (l' := #[.val (.int p0), .val (.int p1), .val (.int p2), .val (.int p3), .val (.ref b53), .val (.long (f4 p0 p1)), .second, .val (.long (((p0 >>> ((16 : Int32) &&& 31)).toInt64) * (p1.toInt64))), .second, .unset, .unset, .unset, .unset]) rfl ?_
    show Steps p.tables e below (T67.setTop (mkF m 32 #[.val (.int p0), .val (.int p1), .val (.int p2), .val (.int p3), .val (.ref b53), .val (.long (f4 p0 p1)), .second, .val (.long (((p0 >>> ((16 : Int32) &&& 31)).toInt64) * (p1.toInt64))), .second, .unset, .unset, .unset, .unset] [])) _
    refine XS.iloadN X67.here hx rfl (hb hby at_32) rfl ?_
    show Steps p.tables e below (T67.setTop (mkF m 33 #[.val (.int p0), .val (.int p1), .val (.int p2), .val (.int p3), .val (.ref b53), .val (.long (f4 p0 p1)), .second, .val (.long (((p0 >>> ((16 : Int32) &&& 31)).toInt64) * (p1.toInt64))), .second, .unset, .unset, .unset, .unset] [(.int p0)])) _
    refine X67.ldcI hx hown (mvT hZ (hw _ (List.mem_of_getElem? (i := 37) rfl))) rfl (hb hby at_33) ?_
    show Steps p.tables e below (T67.setTop (mkF m 35 #[.val (.int p0), .val (.int p1), .val (.int p2), .val (.int p3), .val (.ref b53), .val (.long (f4 p0 p1)), .second, .val (.long (((p0 >>> ((16 : Int32) &&& 31)).toInt64) * (p1.toInt64))), .second, .unset, .unset, .unset, .unset] [(.int (65535 : Int32)), (.int p0)])) _
    refine XS.iand X67.here hx rfl (hb hby at_35) rfl ?_
    show Steps p.tables e below (T67.setTop (mkF m 36 #[.val (.int p0), .val (.int p1), .val (.int p2), .val (.int p3), .val (.ref b53), .val (.long (f4 p0 p1)), .second, .val (.long (((p0 >>> ((16 : Int32) &&& 31)).toInt64) * (p1.toInt64))), .second, .unset, .unset, .unset, .unset] [(.int (p0 &&& (65535 : Int32)))])) _
    refine XS.i2l X67.here hx rfl (hb hby at_36) rfl ?_
    show Steps p.tables e below (T67.setTop (mkF m 37 #[.val (.int p0), .val (.int p1), .val (.int p2), .val (.int p3), .val (.ref b53), .val (.long (f4 p0 p1)), .second, .val (.long (((p0 >>> ((16 : Int32) &&& 31)).toInt64) * (p1.toInt64))), .second, .unset, .unset, .unset, .unset] [(.long ((p0 &&& (65535 : Int32)).toInt64))])) _
    refine XS.iloadN X67.here hx rfl (hb hby at_37) rfl ?_
    show Steps p.tables e below (T67.setTop (mkF m 38 #[.val (.int p0), .val (.int p1), .val (.int p2), .val (.int p3), .val (.ref b53), .val (.long (f4 p0 p1)), .second, .val (.long (((p0 >>> ((16 : Int32) &&& 31)).toInt64) * (p1.toInt64))), .second, .unset, .unset, .unset, .unset] [(.int p1), (.long ((p0 &&& (65535 : Int32)).toInt64))])) _
    refine XS.i2l X67.here hx rfl (hb hby at_38) rfl ?_
    show Steps p.tables e below (T67.setTop (mkF m 39 #[.val (.int p0), .val (.int p1), .val (.int p2), .val (.int p3), .val (.ref b53), .val (.long (f4 p0 p1)), .second, .val (.long (((p0 >>> ((16 : Int32) &&& 31)).toInt64) * (p1.toInt64))), .second, .unset, .unset, .unset, .unset] [(.long (p1.toInt64)), (.long ((p0 &&& (65535 : Int32)).toInt64))])) _
    refine XS.lmul X67.here hx rfl (hb hby at_39) rfl ?_
    show Steps p.tables e below (T67.setTop (mkF m 40 #[.val (.int p0), .val (.int p1), .val (.int p2), .val (.int p3), .val (.ref b53), .val (.long (f4 p0 p1)), .second, .val (.long (((p0 >>> ((16 : Int32) &&& 31)).toInt64) * (p1.toInt64))), .second, .unset, .unset, .unset, .unset] [(.long (((p0 &&& (65535 : Int32)).toInt64) * (p1.toInt64)))])) _
    refine XS.lstore X67.here hx rfl (hb hby at_40) rfl (l' := #[.val (.int p0), .val (.int p1), .val (.int p2), .val (.int p3), .val (.ref b53), .val (.long (f4 p0 p1)), .second, .val (.long (((p0 >>> ((16 : Int32) &&& 31)).toInt64) * (p1.toInt64))), .second, .val (.long (((p0 &&& (65535 : Int32)).toInt64) * (p1.toInt64))), .second, .unset, .unset]) rfl ?_
    show Steps p.tables e below (T67.setTop (mkF m 42 #[.val (.int p0), .val (.int p1), .val (.int p2), .val (.int p3), .val (.ref b53), .val (.long (f4 p0 p1)), .second, .val (.long (((p0 >>> ((16 : Int32) &&& 31)).toInt64) * (p1.toInt64))), .second, .val (.long (((p0 &&& (65535 : Int32)).toInt64) * (p1.toInt64))), .second, .unset, .unset] [])) _
    refine XS.lload X67.here hx rfl (hb hby at_42) rfl ?_
    show Steps p.tables e below (T67.setTop (mkF m 44 #[.val (.int p0), .val (.int p1), .val (.int p2), .val (.int p3), .val (.ref b53), .val (.long (f4 p0 p1)), .second, .val (.long (((p0 >>> ((16 : Int32) &&& 31)).toInt64) * (p1.toInt64))), .second, .val (.long (((p0 &&& (65535 : Int32)).toInt64) * (p1.toInt64))), .second, .unset, .unset] [(.long (((p0 >>> ((16 : Int32) &&& 31)).toInt64) * (p1.toInt64)))])) _
    refine X67.ldc2J hx hown (mvT hZ (hw _ (List.mem_of_getElem? (i := 38) rfl))) rfl (hb hby at_44) ?_
    show Steps p.tables e below (T67.setTop (mkF m 47 #[.val (.int p0), .val (.int p1), .val (.int p2), .val (.int p3), .val (.ref b53), .val (.long (f4 p0 p1)), .second, .val (.long (((p0 >>> ((16 : Int32) &&& 31)).toInt64) * (p1.toInt64))), .second, .val (.long (((p0 &&& (65535 : Int32)).toInt64) * (p1.toInt64))), .second, .unset, .unset] [(.long (65536 : Int64)), (.long (((p0 >>> ((16 : Int32) &&& 31)).toInt64) * (p1.toInt64)))])) _
    refine XS.lmul X67.here hx rfl (hb hby at_47) rfl ?_
    show Steps p.tables e below (T67.setTop (mkF m 48 #[.val (.int p0), .val (.int p1), .val (.int p2), .val (.int p3), .val (.ref b53), .val (.long (f4 p0 p1)), .second, .val (.long (((p0 >>> ((16 : Int32) &&& 31)).toInt64) * (p1.toInt64))), .second, .val (.long (((p0 &&& (65535 : Int32)).toInt64) * (p1.toInt64))), .second, .unset, .unset] [(.long ((((p0 >>> ((16 : Int32) &&& 31)).toInt64) * (p1.toInt64)) * (65536 : Int64)))])) _
    refine XS.lload X67.here hx rfl (hb hby at_48) rfl ?_
    show Steps p.tables e below (T67.setTop (mkF m 50 #[.val (.int p0), .val (.int p1), .val (.int p2), .val (.int p3), .val (.ref b53), .val (.long (f4 p0 p1)), .second, .val (.long (((p0 >>> ((16 : Int32) &&& 31)).toInt64) * (p1.toInt64))), .second, .val (.long (((p0 &&& (65535 : Int32)).toInt64) * (p1.toInt64))), .second, .unset, .unset] [(.long (((p0 &&& (65535 : Int32)).toInt64) * (p1.toInt64))), (.long ((((p0 >>> ((16 : Int32) &&& 31)).toInt64) * (p1.toInt64)) * (65536 : Int64)))])) _
    refine XS.ladd X67.here hx rfl (hb hby at_50) rfl ?_
    show Steps p.tables e below (T67.setTop (mkF m 51 #[.val (.int p0), .val (.int p1), .val (.int p2), .val (.int p3), .val (.ref b53), .val (.long (f4 p0 p1)), .second, .val (.long (((p0 >>> ((16 : Int32) &&& 31)).toInt64) * (p1.toInt64))), .second, .val (.long (((p0 &&& (65535 : Int32)).toInt64) * (p1.toInt64))), .second, .unset, .unset] [(.long (((((p0 >>> ((16 : Int32) &&& 31)).toInt64) * (p1.toInt64)) * (65536 : Int64)) + (((p0 &&& (65535 : Int32)).toInt64) * (p1.toInt64))))])) _
    refine XS.lstore X67.here hx rfl (hb hby at_51) rfl (l' := #[.val (.int p0), .val (.int p1), .val (.int p2), .val (.int p3), .val (.ref b53), .val (.long (f4 p0 p1)), .second, .val (.long (((p0 >>> ((16 : Int32) &&& 31)).toInt64) * (p1.toInt64))), .second, .val (.long (((p0 &&& (65535 : Int32)).toInt64) * (p1.toInt64))), .second, .val (.long (((((p0 >>> ((16 : Int32) &&& 31)).toInt64) * (p1.toInt64)) * (65536 : Int64)) + (((p0 &&& (65535 : Int32)).toInt64) * (p1.toInt64)))), .second]) rfl ?_
    show Steps p.tables e below (T67.setTop (mkF m 53 #[.val (.int p0), .val (.int p1), .val (.int p2), .val (.int p3), .val (.ref b53), .val (.long (f4 p0 p1)), .second, .val (.long (((p0 >>> ((16 : Int32) &&& 31)).toInt64) * (p1.toInt64))), .second, .val (.long (((p0 &&& (65535 : Int32)).toInt64) * (p1.toInt64))), .second, .val (.long (((((p0 >>> ((16 : Int32) &&& 31)).toInt64) * (p1.toInt64)) * (65536 : Int64)) + (((p0 &&& (65535 : Int32)).toInt64) * (p1.toInt64)))), .second] [])) _
    refine XS.lload X67.here hx rfl (hb hby at_53) rfl ?_
    show Steps p.tables e below (T67.setTop (mkF m 55 #[.val (.int p0), .val (.int p1), .val (.int p2), .val (.int p3), .val (.ref b53), .val (.long (f4 p0 p1)), .second, .val (.long (((p0 >>> ((16 : Int32) &&& 31)).toInt64) * (p1.toInt64))), .second, .val (.long (((p0 &&& (65535 : Int32)).toInt64) * (p1.toInt64))), .second, .val (.long (((((p0 >>> ((16 : Int32) &&& 31)).toInt64) * (p1.toInt64)) * (65536 : Int64)) + (((p0 &&& (65535 : Int32)).toInt64) * (p1.toInt64)))), .second] [(.long (f4 p0 p1))])) _
    refine XS.lload X67.here hx rfl (hb hby at_55) rfl ?_
    show Steps p.tables e below (T67.setTop (mkF m 57 #[.val (.int p0), .val (.int p1), .val (.int p2), .val (.int p3), .val (.ref b53), .val (.long (f4 p0 p1)), .second, .val (.long (((p0 >>> ((16 : Int32) &&& 31)).toInt64) * (p1.toInt64))), .second, .val (.long (((p0 &&& (65535 : Int32)).toInt64) * (p1.toInt64))), .second, .val (.long (((((p0 >>> ((16 : Int32) &&& 31)).toInt64) * (p1.toInt64)) * (65536 : Int64)) + (((p0 &&& (65535 : Int32)).toInt64) * (p1.toInt64)))), .second] [(.long (((((p0 >>> ((16 : Int32) &&& 31)).toInt64) * (p1.toInt64)) * (65536 : Int64)) + (((p0 &&& (65535 : Int32)).toInt64) * (p1.toInt64)))), (.long (f4 p0 p1))])) _
    refine XT.lcmp X67.here hx rfl (hb hby at_57) rfl ?_
    show Steps p.tables e below (T67.setTop (mkF m 58 #[.val (.int p0), .val (.int p1), .val (.int p2), .val (.int p3), .val (.ref b53), .val (.long (f4 p0 p1)), .second, .val (.long (((p0 >>> ((16 : Int32) &&& 31)).toInt64) * (p1.toInt64))), .second, .val (.long (((p0 &&& (65535 : Int32)).toInt64) * (p1.toInt64))), .second, .val (.long (((((p0 >>> ((16 : Int32) &&& 31)).toInt64) * (p1.toInt64)) * (65536 : Int64)) + (((p0 &&& (65535 : Int32)).toInt64) * (p1.toInt64)))), .second] [(.int (XT.cmpL (f4 p0 p1) (((((p0 >>> ((16 : Int32) &&& 31)).toInt64) * (p1.toInt64)) * (65536 : Int64)) + (((p0 &&& (65535 : Int32)).toInt64) * (p1.toInt64)))))])) _
    refine XS.ifNo X67.here hx rfl (hb hby at_58) rfl (XT.ll_ne_f (own_fin p0 p1)) ?_
    show Steps p.tables e below (T67.setTop (mkF m 61 #[.val (.int p0), .val (.int p1), .val (.int p2), .val (.int p3), .val (.ref b53), .val (.long (f4 p0 p1)), .second, .val (.long (((p0 >>> ((16 : Int32) &&& 31)).toInt64) * (p1.toInt64))), .second, .val (.long (((p0 &&& (65535 : Int32)).toInt64) * (p1.toInt64))), .second, .val (.long (((((p0 >>> ((16 : Int32) &&& 31)).toInt64) * (p1.toInt64)) * (65536 : Int64)) + (((p0 &&& (65535 : Int32)).toInt64) * (p1.toInt64)))), .second] [])) _
    refine XS.iconst X67.here hx rfl (hb hby at_61) ?_
    show Steps p.tables e below (T67.setTop (mkF m 62 #[.val (.int p0), .val (.int p1), .val (.int p2), .val (.int p3), .val (.ref b53), .val (.long (f4 p0 p1)), .second, .val (.long (((p0 >>> ((16 : Int32) &&& 31)).toInt64) * (p1.toInt64))), .second, .val (.long (((p0 &&& (65535 : Int32)).toInt64) * (p1.toInt64))), .second, .val (.long (((((p0 >>> ((16 : Int32) &&& 31)).toInt64) * (p1.toInt64)) * (65536 : Int64)) + (((p0 &&& (65535 : Int32)).toInt64) * (p1.toInt64)))), .second] [(.int (1 : Int32))])) _
    refine XS.goto X67.here hx rfl (pc0 := 62) (pc' := 66) rfl (hb hby at_62) (by decide) (by decide) ?_
    exact kt
  exact GotW.retN (y := (1 : Int32)) (t := .boolean) hsL hS (by rw [e67]; exact hk55_66) X67 hx Bd.returns (by simp) hlk (hb hby at_66) (by decide) N67 (by decide) (by decide)
set_option maxRecDepth 65536 in
set_option maxHeartbeats 40000000 in
theorem comes_1 {Post : Tables → Env → Array Value → State → Outcome → State → Prop} (hpost : ∀ tb e args s v u, (limb_1_1.after args s (.returned v) u = true ∧ limb_1_2.after args s (.returned v) u = true ∧ True) → FEW s (.returned v) u (Jvm.fieldLocs frame_1_writes args s ++ Jvm.arrayLocs frame_1_arrays args s ++ Jvm.staticLocs frame_1_statics s) 16 1152 → Post tb e args s (.returned v) u) :
    ArmFor flags0 classFile x code maxLocals ret World_1 tables_1 room_1 Calls_1 rest_1 Pre_1 Post := by
  intro l hfl _ _ p e ha hc hk s m args below hf hA hF happ hP
  obtain ⟨hcalls, hrest, hpre⟩ := hP
  obtain ⟨-, -, -, hnamed, -, -, -, hat⟩ := (Spec.applies_iff hf).mp happ
  obtain ⟨hg, hn⟩ := and_e (Cond.before_iff.mp (show (Jvm.Cond.and given_1 narrow_1).before args s = true from hpre))
  obtain ⟨h1, g0⟩ := and_e hg
  obtain ⟨c0, g1⟩ := and_e g0
  obtain ⟨c1, g2⟩ := and_e g1
  obtain ⟨c2, g3⟩ := and_e g2
  obtain ⟨w0, w1, w2, w3, rfl⟩ : ∃ w0 w1 w2 w3 : Value, args = #[w0, w1, w2, w3] := by
    have hs : args.size = 4 := by simpa [Cond.value, given_1] using h1
    obtain ⟨L⟩ := args
    match L, hs with
    | [w0, w1, w2, w3], _ => exact ⟨w0, w1, w2, w3, rfl⟩
  have hw := fun d (hd : d ∈ tables_1) => atoms_spec (ws := Jvm.Cond.code x code maxLocals ret :: tables_1) hat d (List.mem_cons_of_mem _ hd)
  obtain ⟨i0, e0⟩ := is_v c0
  obtain rfl : w0 = (.int i0) := Option.some.inj e0
  obtain ⟨i1, e1⟩ := is_v c1
  obtain rfl : w1 = (.int i1) := Option.some.inj e1
  obtain ⟨i2, e2⟩ := is_v c2
  obtain rfl : w2 = (.int i2) := Option.some.inj e2
  obtain ⟨i3, e3⟩ := is_v g3
  obtain rfl : w3 = (.int i3) := Option.some.inj e3
  obtain ⟨n, o, h1, h2, h3, vq, L, rfl, ⟨hv, N⟩, hq⟩ := rm0 l s _ hw tables_1 i0 i1 i2 i3  s.heap s.heap.size (Nat.le_refl _)  p e ha hc hk s m _ below hf ((Spec.applies_iff_loose hf).mp happ).1 ⟨rfl, State.Warmed39.refl s, rfl⟩ trivial
  subst hv
  refine ⟨n, _, h1, h2, h3, hpost _ _ _ _ _ _ ⟨Cond.after_iff.mpr rfl, Cond.after_iff.mpr (eq_i res_at (Term.int_eval (1)) rfl), trivial⟩ ⟨hq.1, hq.2.1, hq.2.2.1, (hq.2.2.2.sift fun y hy => Or.inr (N y hy)).mono (by decide) (by decide)⟩⟩
theorem main_1_1 : Claimed_1_1 := comes_1 fun _ _ _ _ _ _ h hF => ⟨h.1, hF.1, hF.2.1, hF.2.2.1, hF.2.2.2⟩
theorem main_1_2 : Claimed_1_2 := comes_1 fun _ _ _ _ _ _ h hF => ⟨h.2.1, hF.1, hF.2.1, hF.2.2.1, hF.2.2.2⟩
end Jvm.Pilot.@@N@@
namespace Jvm.Pilot.@@N@@
open Jvm Jvm.ClassFile Sem Op Lib Jvm.Free Jvm.Stand Jvm.Pilot.@@N@@.Jvm.D
/-! MADE BY PROGRAM (witnessworld.py) out of the Statement's table words and the real class files: 15 classes; the members and pool entries that the words name. The judged class is class 1, her method 1. -/
namespace start1
open Jvm.ClassFile
def u (s : String) : CpInfo := .utf8 (stringToUtf16 s)
/-- a pool by its gaps: so many unusable entries, then the entry; so many at the end -/
def gap : Nat → List CpInfo → List CpInfo
  | 0, r => r
  | n + 1, r => .unusable :: gap n r
def poolList (es : List (Nat × CpInfo)) (last : Nat) : List CpInfo := es.foldr (fun e r => gap e.1 (e.2 :: r)) (gap last [])
def pool (es : List (Nat × CpInfo)) (last : Nat) : Array CpInfo := ⟨poolList es last⟩
def fileOf (pool : Array CpInfo) (this : Nat) (attrs : Array Attribute := #[]) (ms : Array MethodInfo := #[]) (fl : Nat := 33) (sup : Nat := 0) (ifs : Array Nat := #[]) (fds : Array FieldInfo := #[]) : ClassFile where
  minorVersion := 0
  majorVersion := 65
  constantPool := pool
  accessFlags := fl
  thisClass := this
  superClass := sup
  interfaces := ifs
  fields := fds
  methods := ms
  attributes := attrs
def plain (name : String) (sup : Option ClassId) : Class where
  name := name
  kind := .ordinary
  loader := none
  accessFlags := 33
  super := sup
  interfaces := #[]
  cf := none
  fields := #[]
  methods := #[]
  instanceTypes := #[]
  staticTypes := #[]
  resolved := #[]
  callSites := []
  init := .initialized
  statics := none
  mirror := none

def pool0 : Array CpInfo := pool [(5, u "<init>"), (0, u "()V"), (1, .class_ 10), (1, u "java/lang/Object")] 113

def k0c0 : Code := { maxStack := 0, maxLocals := 1, code := object_method_1_code, exceptionTable := #[], attributes := #[] }
def k0m0 : Method := { name := "<init>", desc := "()V", sig := { parameters := [], returnType := none }, accessFlags := 1, code := some k0c0 }
/-- java/lang/Object -/
def k0 : Class := { plain "java/lang/Object" none with
  accessFlags := 33
  interfaces := #[]
  cf := some (fileOf pool0 8 #[] #[{ accessFlags := 1, nameIndex := 5, descriptorIndex := 6, attributes := #[] }] 33 0 #[] #[])
  fields := #[]
  methods := #[k0m0]
  instanceTypes := #[]
  staticTypes := #[]
  resolved := Array.replicate 124 none
  statics := none }

def pool1 : Array CpInfo := pool [(2, .class_ 4), (1, u "java/lang/Object"), (0, u "<init>"), (0, u "()V"), (0, .class_ 8), (0, u "com/example/hardy_broker/hardybroker/bench/Plan"), (0, .string 10), (0, u "h"), (0, .methodref 7 12), (0, .nameAndType 5 13), (0, u "(Ljava/lang/String;IIII)V"), (0, .methodref 7 15), (0, .nameAndType 16 17), (0, u "messagesInAll"), (0, u "()J"), (0, .integer 65535), (0, .long 65536), (1, .class_ 22), (0, u "com/example/hardy_broker/hardybroker/bench/PlanMessagesInAllPinLaw"), (2, u "law"), (0, u "(IIII)Z")] 3

def k1m0 : Method := { name := "<init>", desc := "()V", sig := { parameters := [], returnType := none }, accessFlags := 2, code := none }
def k1c1 : Code := { maxStack := 7, maxLocals := 13, code := code, exceptionTable := #[], attributes := #[] }
def k1m1 : Method := { name := "law", desc := "(IIII)Z", sig := { parameters := [.int, .int, .int, .int], returnType := some .boolean }, accessFlags := 9, code := some k1c1 }
/-- com/example/hardy_broker/hardybroker/bench/PlanMessagesInAllPinLaw -/
def k1 : Class := { plain "com/example/hardy_broker/hardybroker/bench/PlanMessagesInAllPinLaw" (some 0) with
  accessFlags := 49
  interfaces := #[]
  cf := some (fileOf pool1 21 #[] #[{ accessFlags := 2, nameIndex := 5, descriptorIndex := 6, attributes := #[] }, { accessFlags := 9, nameIndex := 25, descriptorIndex := 26, attributes := #[] }] 49 2 #[] #[])
  fields := #[]
  methods := #[k1m0, k1m1]
  instanceTypes := #[]
  staticTypes := #[]
  resolved := Array.replicate 30 none
  statics := none }

def pool2 : Array CpInfo := pool [(1, .methodref 2 3), (0, .class_ 4), (0, .nameAndType 5 6), (0, u "java/lang/Object"), (0, u "<init>"), (0, u "()V"), (0, .class_ 8), (0, u "java/lang/Record")] 13

def k2c0 : Code := { maxStack := 1, maxLocals := 1, code := jdk_30_method_1_code, exceptionTable := #[], attributes := #[] }
def k2m0 : Method := { name := "<init>", desc := "()V", sig := { parameters := [], returnType := none }, accessFlags := 4, code := some k2c0 }
/-- java/lang/Record -/
def k2 : Class := { plain "java/lang/Record" (some 0) with
  accessFlags := 1057
  interfaces := #[]
  cf := some (fileOf pool2 7 #[] #[{ accessFlags := 4, nameIndex := 5, descriptorIndex := 6, attributes := #[] }] 1057 2 #[] #[])
  fields := #[]
  methods := #[k2m0]
  instanceTypes := #[]
  staticTypes := #[]
  resolved := Array.replicate 22 none
  statics := none }

def pool3 : Array CpInfo := pool [(1, .methodref 2 3), (0, .class_ 4), (0, .nameAndType 5 6), (0, u "java/lang/Record"), (0, u "<init>"), (0, u "()V"), (0, .fieldref 8 9), (0, .class_ 10), (0, .nameAndType 11 12), (0, u "com/example/hardy_broker/hardybroker/bench/Plan"), (0, u "host"), (0, u "Ljava/lang/String;"), (0, .fieldref 8 14), (0, .nameAndType 15 16), (0, u "port"), (0, u "I"), (0, .fieldref 8 18), (0, .nameAndType 19 16), (0, u "publishers"), (0, .fieldref 8 21), (0, .nameAndType 22 16), (0, u "messages"), (0, .fieldref 8 24), (0, .nameAndType 25 16), (0, u "payloadBytes"), (32, u "MAX_PAYLOAD"), (5, u "(Ljava/lang/String;IIII)V"), (2, u "DEFAULTS"), (0, u "Lcom/example/hardy_broker/hardybroker/bench/Plan;"), (3, u "messagesInAll"), (0, u "()J")] 27

def k3c0 : Code := { maxStack := 2, maxLocals := 6, code := prog_3_method_1_code, exceptionTable := #[], attributes := #[] }
def k3m0 : Method := { name := "<init>", desc := "(Ljava/lang/String;IIII)V", sig := { parameters := [(.object "java/lang/String"), .int, .int, .int, .int], returnType := none }, accessFlags := 1, code := some k3c0 }
def k3c1 : Code := { maxStack := 4, maxLocals := 1, code := prog_3_method_2_code, exceptionTable := #[], attributes := #[] }
def k3m1 : Method := { name := "messagesInAll", desc := "()J", sig := { parameters := [], returnType := some .long }, accessFlags := 1, code := some k3c1 }
/-- com/example/hardy_broker/hardybroker/bench/Plan -/
def k3 : Class := { plain "com/example/hardy_broker/hardybroker/bench/Plan" (some 2) with
  accessFlags := 49
  interfaces := #[]
  cf := some (fileOf pool3 8 #[] #[{ accessFlags := 1, nameIndex := 5, descriptorIndex := 64, attributes := #[] }, { accessFlags := 1, nameIndex := 72, descriptorIndex := 73, attributes := #[] }] 49 2 #[] #[{ accessFlags := 18, nameIndex := 11, descriptorIndex := 12, attributes := #[] }, { accessFlags := 18, nameIndex := 15, descriptorIndex := 16, attributes := #[] }, { accessFlags := 18, nameIndex := 19, descriptorIndex := 16, attributes := #[] }, { accessFlags := 18, nameIndex := 22, descriptorIndex := 16, attributes := #[] }, { accessFlags := 18, nameIndex := 25, descriptorIndex := 16, attributes := #[] }, { accessFlags := 25, nameIndex := 58, descriptorIndex := 16, attributes := #[] }, { accessFlags := 25, nameIndex := 67, descriptorIndex := 68, attributes := #[] }])
  fields := #[{ name := "host", type := (.object "java/lang/String"), accessFlags := 18, slot := 0, constantValue := 0 }, { name := "port", type := .int, accessFlags := 18, slot := 1, constantValue := 0 }, { name := "publishers", type := .int, accessFlags := 18, slot := 2, constantValue := 0 }, { name := "messages", type := .int, accessFlags := 18, slot := 3, constantValue := 0 }, { name := "payloadBytes", type := .int, accessFlags := 18, slot := 4, constantValue := 0 }, { name := "MAX_PAYLOAD", type := .int, accessFlags := 25, slot := 0, constantValue := 0 }, { name := "DEFAULTS", type := (.object "com/example/hardy_broker/hardybroker/bench/Plan"), accessFlags := 25, slot := 1, constantValue := 0 }]
  methods := #[k3m0, k3m1]
  instanceTypes := #[(.object "java/lang/String"), .int, .int, .int, .int]
  staticTypes := #[.int, (.object "com/example/hardy_broker/hardybroker/bench/Plan")]
  resolved := Array.replicate 101 none
  statics := none }

def pool4 : Array CpInfo := pool [(1, .class_ 2), (0, u "java/io/Serializable"), (0, .class_ 4), (0, u "java/lang/Object")] 2

/-- java/io/Serializable -/
def k4 : Class := { plain "java/io/Serializable" (some 0) with
  accessFlags := 1537
  interfaces := #[]
  cf := some (fileOf pool4 1 #[] #[] 1537 3 #[] #[])
  fields := #[]
  methods := #[]
  instanceTypes := #[]
  staticTypes := #[]
  resolved := Array.replicate 7 none
  statics := none }

def pool5 : Array CpInfo := pool [(1, .class_ 2), (0, u "java/lang/Comparable"), (0, .class_ 4), (0, u "java/lang/Object")] 7

/-- java/lang/Comparable -/
def k5 : Class := { plain "java/lang/Comparable" (some 0) with
  accessFlags := 1537
  interfaces := #[]
  cf := some (fileOf pool5 1 #[] #[] 1537 3 #[] #[])
  fields := #[]
  methods := #[]
  instanceTypes := #[]
  staticTypes := #[]
  resolved := Array.replicate 12 none
  statics := none }

def pool6 : Array CpInfo := pool [(2, .class_ 4), (1, u "java/lang/CharSequence"), (42, .class_ 48), (0, u "java/lang/CharSequence$1CodePointIterator"), (10, .class_ 60), (0, u "java/lang/CharSequence$1CharIterator"), (5, .class_ 67), (0, u "java/lang/Object")] 63

/-- java/lang/CharSequence -/
def k6 : Class := { plain "java/lang/CharSequence" (some 0) with
  accessFlags := 1537
  interfaces := #[]
  cf := some (fileOf pool6 2 #[.nestMembers #[47, 59]] #[] 1537 66 #[] #[])
  fields := #[]
  methods := #[]
  instanceTypes := #[]
  staticTypes := #[]
  resolved := Array.replicate 131 none
  statics := none }

def pool7 : Array CpInfo := pool [(1, .class_ 2), (0, u "java/lang/constant/Constable"), (0, .class_ 4), (0, u "java/lang/Object")] 6

/-- java/lang/constant/Constable -/
def k7 : Class := { plain "java/lang/constant/Constable" (some 0) with
  accessFlags := 1537
  interfaces := #[]
  cf := some (fileOf pool7 1 #[] #[] 1537 3 #[] #[])
  fields := #[]
  methods := #[]
  instanceTypes := #[]
  staticTypes := #[]
  resolved := Array.replicate 11 none
  statics := none }

def pool8 : Array CpInfo := pool [(1, .class_ 2), (0, u "java/lang/constant/ConstantDesc"), (0, .class_ 4), (0, u "java/lang/Object")] 32

/-- java/lang/constant/ConstantDesc -/
def k8 : Class := { plain "java/lang/constant/ConstantDesc" (some 0) with
  accessFlags := 1537
  interfaces := #[]
  cf := some (fileOf pool8 1 #[] #[] 1537 3 #[] #[])
  fields := #[]
  methods := #[]
  instanceTypes := #[]
  staticTypes := #[]
  resolved := Array.replicate 37 none
  statics := none }

def pool9 : Array CpInfo := pool [(2, .class_ 4), (1, u "java/lang/Object"), (0, u "<init>"), (0, u "()V"), (3, .class_ 12), (1, u "java/lang/String"), (0, u "value"), (0, u "[B"), (2, u "coder"), (0, u "B"), (2, u "hash"), (0, u "I"), (2, u "hashIsZero"), (0, u "Z"), (13, u "COMPACT_STRINGS"), (534, .class_ 576), (0, u "java/lang/CharSequence"), (22, u "CASE_INSENSITIVE_ORDER"), (0, u "Ljava/util/Comparator;"), (500, u "serialPersistentFields"), (0, u "[Ljava/io/ObjectStreamField;"), (0, .class_ 1104), (0, u "java/lang/String$CaseInsensitiveComparator"), (1, .class_ 1107), (0, u "java/io/Serializable"), (0, .class_ 1109), (0, u "java/lang/Comparable"), (0, .class_ 1111), (0, u "java/lang/constant/Constable"), (0, .class_ 1113), (0, u "java/lang/constant/ConstantDesc"), (2, u "serialVersionUID"), (0, u "J"), (3, u "REPL"), (0, u "C"), (2, u "LATIN1"), (1, u "UTF16")] 323

def k9m0 : Method := { name := "<init>", desc := "()V", sig := { parameters := [], returnType := none }, accessFlags := 1, code := none }
/-- java/lang/String -/
def k9 : Class := { plain "java/lang/String" (some 0) with
  accessFlags := 49
  interfaces := #[4, 5, 6, 7, 8]
  cf := some (fileOf pool9 10 #[.nestMembers #[1103]] #[{ accessFlags := 1, nameIndex := 5, descriptorIndex := 6, attributes := #[] }] 49 2 #[1106, 1108, 575, 1110, 1112] #[{ accessFlags := 18, nameIndex := 13, descriptorIndex := 14, attributes := #[] }, { accessFlags := 18, nameIndex := 17, descriptorIndex := 18, attributes := #[] }, { accessFlags := 2, nameIndex := 21, descriptorIndex := 22, attributes := #[] }, { accessFlags := 2, nameIndex := 25, descriptorIndex := 26, attributes := #[] }, { accessFlags := 26, nameIndex := 1116, descriptorIndex := 1117, attributes := #[] }, { accessFlags := 24, nameIndex := 40, descriptorIndex := 26, attributes := #[] }, { accessFlags := 26, nameIndex := 1101, descriptorIndex := 1102, attributes := #[] }, { accessFlags := 26, nameIndex := 1121, descriptorIndex := 1122, attributes := #[] }, { accessFlags := 25, nameIndex := 599, descriptorIndex := 600, attributes := #[] }, { accessFlags := 24, nameIndex := 1125, descriptorIndex := 18, attributes := #[] }, { accessFlags := 24, nameIndex := 1127, descriptorIndex := 18, attributes := #[] }])
  fields := #[{ name := "value", type := (.array .byte), accessFlags := 18, slot := 0, constantValue := 0 }, { name := "coder", type := .byte, accessFlags := 18, slot := 1, constantValue := 0 }, { name := "hash", type := .int, accessFlags := 2, slot := 2, constantValue := 0 }, { name := "hashIsZero", type := .boolean, accessFlags := 2, slot := 3, constantValue := 0 }, { name := "serialVersionUID", type := .long, accessFlags := 26, slot := 0, constantValue := 0 }, { name := "COMPACT_STRINGS", type := .boolean, accessFlags := 24, slot := 1, constantValue := 0 }, { name := "serialPersistentFields", type := (.array (.object "java/io/ObjectStreamField")), accessFlags := 26, slot := 2, constantValue := 0 }, { name := "REPL", type := .char, accessFlags := 26, slot := 3, constantValue := 0 }, { name := "CASE_INSENSITIVE_ORDER", type := (.object "java/util/Comparator"), accessFlags := 25, slot := 4, constantValue := 0 }, { name := "LATIN1", type := .byte, accessFlags := 24, slot := 5, constantValue := 0 }, { name := "UTF16", type := .byte, accessFlags := 24, slot := 6, constantValue := 0 }]
  methods := #[k9m0]
  instanceTypes := #[(.array .byte), .byte, .int, .boolean]
  staticTypes := #[.long, .boolean, (.array (.object "java/io/ObjectStreamField")), .char, (.object "java/util/Comparator"), .byte, .byte]
  resolved := Array.replicate 1451 none
  statics := none }

def pool10 : Array CpInfo := pool [(1, u "java/lang/Cloneable"), (0, .class_ 1), (0, u "java/lang/Object"), (0, .class_ 3)] 3

/-- java/lang/Cloneable -/
def k10 : Class := { plain "java/lang/Cloneable" (some 0) with
  accessFlags := 1537
  interfaces := #[]
  cf := some (fileOf pool10 2 #[] #[] 1537 4 #[] #[])
  fields := #[]
  methods := #[]
  instanceTypes := #[]
  staticTypes := #[]
  resolved := Array.replicate 8 none
  statics := none }

/-- the primitive byte -/
def k11 : Class := { plain "byte" none with kind := .primitive 'B', accessFlags := 0x411 }
/-- [B -/
def k12 : Class := { plain "[B" (some 0) with kind := .array 11 .byte, interfaces := #[10, 4], accessFlags := 1041 }

/-- the primitive int -/
def k13 : Class := { plain "int" none with kind := .primitive 'I', accessFlags := 0x411 }
/-- [I -/
def k14 : Class := { plain "[I" (some 0) with kind := .array 13 .int, interfaces := #[10, 4], accessFlags := 1041 }

def heap : Heap := #[]
def classes : Array Class := #[k0, k1, k2, k3, k4, k5, k6, k7, k8, k9, k10, k11, k12, k13, k14]
def interned : List (Array UInt16 × Addr) := []
def slotsUsed : Nat := 0
def theMethod : MethodId := ⟨1, 1⟩
def args0 : Array Value := #[.int 5, .int 3, .int 4, .int 9]
def aboutOver (below : List Frame) : State where
  vm := { classes := classes, interned := interned.toArray }
  heap := heap
  slotsUsed := slotsUsed
  threads := #[{ frames := .invoking theMethod args0 :: below }]
def below0 : List Frame := [.native { method := ⟨0, 0⟩, args := #[] }]
def about1 : State := aboutOver below0
def p0 : Program := .bare "" "" ""
def e0 : Env := launch0.env 0 0 0
theorem w_frames : about1.frames = Frame.invoking theMethod args0 :: below0 := rfl
set_option maxRecDepth 65536 in
theorem w_args : argsFit about1.vm theMethod args0 = true := by decide +kernel
set_option maxRecDepth 65536 in
theorem w_heap : heapFits about1 = true := by decide +kernel
set_option maxRecDepth 65536 in
theorem w_runnable : about1.curStatus? = some .runnable := by decide +kernel
set_option maxRecDepth 65536 in
theorem w_alone : about1.alone = true := by decide +kernel
set_option maxRecDepth 65536 in
theorem w_named : about1.methodNamed? x = some theMethod := by decide +kernel
set_option maxRecDepth 65536 in
theorem w_hears : about1.hears theMethod below0 = true := by decide +kernel
set_option maxRecDepth 65536 in
theorem w_ripe : about1.ripe theMethod args0 below0 = true := by decide +kernel
theorem w_running : about1.status = .running := rfl
set_option maxRecDepth 65536 in
theorem w_room : about1.hasRoom e0.platform room_1 = true :=
  launch0.hasRoom_least _ room_1 (by decide +kernel) (by decide +kernel) (by decide +kernel) (by decide +kernel) (by decide +kernel) (by decide +kernel)
theorem allAtoms_all (ts : List Jvm.Cond) (a : Array Jvm.Value) (st : Jvm.State) : (allAtoms ts).before a st = ts.all (fun c => c.before a st) := by
  induction ts with
  | nil => rfl
  | cons c t ih =>
    show (Jvm.Cond.and c (allAtoms t)).before a st = _
    rw [Jvm.Cond.before_and, ih, List.all_cons]
def words1 : List Jvm.Cond := Jvm.Cond.code x code maxLocals ret :: tables_1
/-- a 'code' word, met by the world's own term for the bytes: nothing is compared byte by byte -/
theorem code_word {y : MethodName} {bytes : ByteArray} {mx : Nat} {rt : Option FieldType} {a : Array Value} {s : State} {m : MethodId} {meth : Method} {c : Code} (h1 : s.methodNamed? y = some m) (h2 : s.vm.method? m = some meth) (h3 : meth.code = some c) (h4 : c.code = bytes)
    (h5 : (c.maxLocals == mx && c.exceptionTable.isEmpty && decide (c.maxStack ≤ mostOperands) && decide (meth.sig.returnType = rt) && !meth.locks && decide (parseMethodDescriptor y.desc = some meth.sig)) = true) : (Jvm.Cond.code y bytes mx rt).before a s = true := by
  simp only [Bool.and_eq_true, beq_iff_eq, Bool.not_eq_true', decide_eq_true_eq] at h5
  obtain ⟨⟨⟨⟨⟨g1, g2⟩, g3⟩, g4⟩, g5⟩, g6⟩ := h5
  simp [Cond.before, Cond.holds, Cond.value, h1, h2, h3, h4, g1, g2, g3, g4, g5, g6]
def isCode : Jvm.Cond → Bool
  | .code _ _ _ _ => true
  | _ => false
theorem all_split {L : List Jvm.Cond} {P : Jvm.Cond → Bool} (h1 : L.all (fun c => isCode c || P c) = true) (h2 : ∀ c ∈ L.filter isCode, P c = true) : L.all P = true := by
  refine List.all_eq_true.mpr fun c hc => ?_
  have h := List.all_eq_true.mp h1 c hc
  rcases Bool.eq_false_or_eq_true (isCode c) with hi | hi
  · exact h2 c (List.mem_filter.mpr ⟨hc, hi⟩)
  · simpa [hi] using h
set_option maxRecDepth 65536 in
theorem w_c0 : (Jvm.Cond.code x code maxLocals ret).before args0 about1 = true := code_word (m := ⟨1, 1⟩) (meth := k1m1) (c := k1c1) (by decide +kernel) rfl rfl rfl (by decide +kernel)
set_option maxRecDepth 65536 in
theorem w_c1 : (Jvm.Cond.code ({ cls := "com/example/hardy_broker/hardybroker/bench/Plan", name := "<init>", desc := "(Ljava/lang/String;IIII)V" } : Jvm.MethodName) prog_3_method_1_code (6 : Nat) (Option.none : Option Jvm.ClassFile.FieldType)).before args0 about1 = true := code_word (m := ⟨3, 0⟩) (meth := k3m0) (c := k3c0) (by decide +kernel) rfl rfl rfl (by decide +kernel)
set_option maxRecDepth 65536 in
theorem w_c2 : (Jvm.Cond.code ({ cls := "java/lang/Record", name := "<init>", desc := "()V" } : Jvm.MethodName) jdk_30_method_1_code (1 : Nat) (Option.none : Option Jvm.ClassFile.FieldType)).before args0 about1 = true := code_word (m := ⟨2, 0⟩) (meth := k2m0) (c := k2c0) (by decide +kernel) rfl rfl rfl (by decide +kernel)
set_option maxRecDepth 65536 in
theorem w_c3 : (Jvm.Cond.code ({ cls := "java/lang/Object", name := "<init>", desc := "()V" } : Jvm.MethodName) object_method_1_code (1 : Nat) (Option.none : Option Jvm.ClassFile.FieldType)).before args0 about1 = true := code_word (m := ⟨0, 0⟩) (meth := k0m0) (c := k0c0) (by decide +kernel) rfl rfl rfl (by decide +kernel)
set_option maxRecDepth 65536 in
theorem w_c4 : (Jvm.Cond.code ({ cls := "com/example/hardy_broker/hardybroker/bench/Plan", name := "messagesInAll", desc := "()J" } : Jvm.MethodName) prog_3_method_2_code (1 : Nat) (Option.some Jvm.ClassFile.FieldType.long)).before args0 about1 = true := code_word (m := ⟨3, 1⟩) (meth := k3m1) (c := k3c1) (by decide +kernel) rfl rfl rfl (by decide +kernel)
def codes1 : List Jvm.Cond := [Jvm.Cond.code x code maxLocals ret, Jvm.Cond.code ({ cls := "com/example/hardy_broker/hardybroker/bench/Plan", name := "<init>", desc := "(Ljava/lang/String;IIII)V" } : Jvm.MethodName) prog_3_method_1_code (6 : Nat) (Option.none : Option Jvm.ClassFile.FieldType), Jvm.Cond.code ({ cls := "java/lang/Record", name := "<init>", desc := "()V" } : Jvm.MethodName) jdk_30_method_1_code (1 : Nat) (Option.none : Option Jvm.ClassFile.FieldType), Jvm.Cond.code ({ cls := "java/lang/Object", name := "<init>", desc := "()V" } : Jvm.MethodName) object_method_1_code (1 : Nat) (Option.none : Option Jvm.ClassFile.FieldType), Jvm.Cond.code ({ cls := "com/example/hardy_broker/hardybroker/bench/Plan", name := "messagesInAll", desc := "()J" } : Jvm.MethodName) prog_3_method_2_code (1 : Nat) (Option.some Jvm.ClassFile.FieldType.long)]
set_option maxRecDepth 65536 in
theorem codes_eq : words1.filter isCode = codes1 := rfl
theorem w_codes : ∀ c ∈ words1.filter isCode, c.before args0 about1 = true := by
  rw [codes_eq]
  intro c hc
  simp only [codes1, List.mem_cons, List.not_mem_nil, or_false] at hc
  rcases hc with rfl | rfl | rfl | rfl | rfl
  · exact w_c0
  · exact w_c1
  · exact w_c2
  · exact w_c3
  · exact w_c4
set_option maxRecDepth 65536 in
theorem w_t1 : (words1.take 24).all (fun c => isCode c || c.before args0 about1) = true := by decide +kernel
set_option maxRecDepth 65536 in
theorem w_t2 : (words1.drop 24).all (fun c => isCode c || c.before args0 about1) = true := by decide +kernel
theorem w_tables : (allAtoms (Jvm.Cond.code x code maxLocals ret :: tables_1)).before args0 about1 = true := by
  rw [allAtoms_all]
  show words1.all (fun c => c.before args0 about1) = true
  refine all_split ?_ w_codes
  rw [← List.take_append_drop 24 words1, List.all_append, w_t1, w_t2]
  rfl
set_option maxRecDepth 65536 in
theorem w_case : (Jvm.Cond.and given_1 narrow_1).before args0 about1 = true := by decide +kernel
theorem w_applies : (headSpec (Jvm.Cond.code x code maxLocals ret :: tables_1) room_1).applies x e0.platform about1 = true :=
  (Spec.applies_iff w_frames).mpr ⟨w_running, w_runnable, w_alone, w_named, w_hears, w_ripe, w_room, w_tables⟩
theorem atStart : AtStart classFile x code maxLocals ret World_1 tables_1 room_1 Calls_1 rest_1 Pre_1 launch0 p0 e0 about1 theMethod args0 below0 :=
  ⟨lists_1, trivial, launch0.admits_env _ _ _, launch0.least_env, fairChoices_fair.cas, fairChoices_fair.clock, w_frames, w_args, w_heap, w_applies, trivial, trivial, w_case⟩
end start1
theorem witness_1 : WitnessClaimed_1 := ⟨start1.p0, start1.e0, start1.about1, start1.theMethod, start1.args0, start1.below0, start1.atStart⟩
end Jvm.Pilot.@@N@@
