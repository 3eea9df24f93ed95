import JvmDerived
import JvmDerived.Pilot.@@N@@Statement
import JvmDerived.Pilot.@@N@@Code
set_option linter.unusedVariables false
set_option linter.unusedSimpArgs false
namespace Jvm.RoadKit
open Sem ClassFile Op Lib Jvm.Stand Jvm.Free Jvm.LawKit
section New
variable {p : Program} {l : Launch} {e : Env} {R : Room} {s : State} {m : MethodId} {args : Array Value} {below : List Frame} {meth : Method} {c : Code} {T T' : State} {locs : List Loc} {cells slots : Nat}
/-- what a body leaves: the value, and what is known of the heap and of the places written -/
def QV (w : Option Value) (P : Heap → List Loc → Prop) (v : Option Value) (h : Heap) (L : List Loc) : Prop := v = w ∧ P h L
/-- a body that writes nothing -/
def PureP (n0 : Nat) (h0 : Heap) (h : Heap) (L : List Loc) : Prop := Fr n0 L ∧ h = h0
/-- from here the body returns w and leaves P -/
def Got (p : Program) (e : Env) (below : List Frame) (s : State) (P : Heap → List Loc → Prop) (ck cs : Nat) (w : Option Value) (T : State) (g : JFrame) : Prop :=
  ∃ s₂ L, Steps p.tables e below (T.setTop g) s₂ ∧ s₂.status = .running ∧ Ended s₂ below (.returned w) ∧ P s₂.heap L ∧ FrameEnd s (.returned w) s₂ L ck cs
variable {P : Heap → List Loc → Prop} {ck cs : Nat} {w : Option Value} {g g' : JFrame}
theorem Got.step (h : ∀ t, Steps p.tables e below (T'.setTop g') t → Steps p.tables e below (T.setTop g) t) (k : Got p e below s P ck cs w T' g') : Got p e below s P ck cs w T g := by
  obtain ⟨s₂, L, h1, r⟩ := k
  exact ⟨s₂, L, h _ h1, r⟩
theorem Got.hop (h : Steps p.tables e below (T.setTop g) (T'.setTop g')) (k : Got p e below s P ck cs w T' g') : Got p e below s P ck cs w T g := Got.step (fun _ q => h.trans q) k
theorem Got.ite {q : Prop} [Decidable q] {x y : Int32} (h1 : q → Got p e below s P ck cs (some (.int x)) T g) (h2 : ¬ q → Got p e below s P ck cs (some (.int y)) T g) : Got p e below s P ck cs (some (.int (if q then x else y))) T g := by
  by_cases h : q
  · rw [if_pos h]; exact h1 h
  · rw [if_neg h]; exact h2 h
theorem Got.iteJ {q : Prop} [Decidable q] {x y : Int64} (h1 : q → Got p e below s P ck cs (some (.long x)) T g) (h2 : ¬ q → Got p e below s P ck cs (some (.long y)) T g) : Got p e below s P ck cs (some (.long (if q then x else y))) T g := by
  by_cases h : q
  · rw [if_pos h]; exact h1 h
  · rw [if_neg h]; exact h2 h
theorem Got.iteR {q : Prop} [Decidable q] {x y : Addr} (h1 : q → Got p e below s P ck cs (some (.ref x)) T g) (h2 : ¬ q → Got p e below s P ck cs (some (.ref y)) T g) : Got p e below s P ck cs (some (.ref (if q then x else y))) T g := by
  by_cases h : q
  · rw [if_pos h]; exact h1 h
  · rw [if_neg h]; exact h2 h
theorem Got.body {n : Nat} {as' : Array Value} (hg : entryFrame m as' n = g) (k : Got p e below s P ck cs w T g) :
    ∃ s₂ o, Steps p.tables e below (T.setTop (entryFrame m as' n)) s₂ ∧ s₂.status = .running ∧ Ended s₂ below o ∧ ∃ v L, o = .returned v ∧ QV w P v s₂.heap L ∧ FrameEnd s o s₂ L ck cs := by
  obtain ⟨s₂, L, h1, h2, h3, h4, h5⟩ := k
  exact ⟨s₂, _, by rw [hg]; exact h1, h2, h3, w, L, rfl, ⟨rfl, h4⟩, h5⟩
theorem Got.retN (X : Stand p l e R s m args below meth c T locs cells slots) (hx : p.tables.exec = Jvm.exec) {t : FieldType} (hret : meth.sig.returnType = some t) (ht : t = .boolean ∨ t = .byte ∨ t = .char ∨ t = .short) (hlk : meth.locks = false) {pc : Nat} {Ls : Array Slot} {z y : Int32} {rest : List Value}
    (hd : decode c.code pc = .ok (.ireturn, 1)) (hy : nar t z = y) (hP : P T.heap locs) (hc : cells ≤ ck) (hs : slots ≤ cs) : Got p e below s P ck cs (some (.int y)) T (mkF m pc Ls (.int z :: rest)) := by
  subst hy
  obtain ⟨fs, hr, hrun, hended, hW, hsame⟩ := X.leave (v := some (.int (nar t z))) (fun h => by rw [hret] at h; cases h) hlk
  exact ⟨_, locs, Jvm.RoadKit.retN X hx hret ht hd hr, hrun, hended, hP, ⟨_, rfl⟩, hW, hsame.mono hc hs⟩
theorem Got.retI (X : Stand p l e R s m args below meth c T locs cells slots) (hx : p.tables.exec = Jvm.exec) (hret : meth.sig.returnType = some .int) (hlk : meth.locks = false) {pc : Nat} {Ls : Array Slot} {z y : Int32} {rest : List Value}
    (hd : decode c.code pc = .ok (.ireturn, 1)) (hy : z = y) (hP : P T.heap locs) (hc : cells ≤ ck) (hs : slots ≤ cs) : Got p e below s P ck cs (some (.int y)) T (mkF m pc Ls (.int z :: rest)) := by
  subst hy
  obtain ⟨fs, hr, hrun, hended, hW, hsame⟩ := X.leave (v := some (.int z)) (fun h => by rw [hret] at h; cases h) hlk
  exact ⟨_, locs, retOut X hx hret rfl (Or.inl ⟨rfl, Or.inl rfl, z, rfl⟩) hd hr, hrun, hended, hP, ⟨_, rfl⟩, hW, hsame.mono hc hs⟩
theorem Got.retJ (X : Stand p l e R s m args below meth c T locs cells slots) (hx : p.tables.exec = Jvm.exec) (hret : meth.sig.returnType = some .long) (hlk : meth.locks = false) {pc : Nat} {Ls : Array Slot} {z y : Int64}
    (hd : decode c.code pc = .ok (.lreturn, 1)) (hy : z = y) (hP : P T.heap locs) (hc : cells ≤ ck) (hs : slots ≤ cs) : Got p e below s P ck cs (some (.long y)) T (mkF m pc Ls [.long z]) := by
  subst hy
  obtain ⟨fs, hr, hrun, hended, hW, hsame⟩ := X.leave (v := some (.long z)) (fun h => by rw [hret] at h; cases h) hlk
  exact ⟨_, locs, X.lreturnOut hx hret hd hr, hrun, hended, hP, ⟨_, rfl⟩, hW, hsame.mono hc hs⟩
theorem Got.retV (X : Stand p l e R s m args below meth c T locs cells slots) (hx : p.tables.exec = Jvm.exec) (hret : meth.sig.returnType = none) (hlk : meth.locks = false) {pc : Nat} {Ls : Array Slot}
    (hd : decode c.code pc = .ok (.return_, 1)) (hP : P T.heap locs) (hc : cells ≤ ck) (hs : slots ≤ cs) : Got p e below s P ck cs none T (mkF m pc Ls []) := by
  obtain ⟨fs, hr, hrun, hended, hW, hsame⟩ := X.leave (v := none) (fun _ => rfl) hlk
  exact ⟨_, locs, X.returnOut hx hret hd hr, hrun, hended, hP, ⟨_, rfl⟩, hW, hsame.mono hc hs⟩
theorem Got.retA (X : Stand p l e R s m args below meth c T locs cells slots) (hx : p.tables.exec = Jvm.exec) {t : FieldType} (hret : meth.sig.returnType = some t) (ht : t.isReference = true) (hlk : meth.locks = false) {pc : Nat} {Ls : Array Slot} {a : Addr} {rest : List Value}
    (hd : decode c.code pc = .ok (.areturn, 1)) (hn : narrow t (.ref a) = .ref a) (hP : P T.heap locs) (hc : cells ≤ ck) (hs : slots ≤ cs) : Got p e below s P ck cs (some (.ref a)) T (mkF m pc Ls (.ref a :: rest)) := by
  obtain ⟨fs, hr, hrun, hended, hW, hsame⟩ := X.leave (v := some (.ref a)) (fun h => by rw [hret] at h; cases h) hlk
  exact ⟨_, locs, retOut X hx hret hn (Or.inr (Or.inr (Or.inr (Or.inr ⟨rfl, ht, rfl⟩)))) hd hr, hrun, hended, hP, ⟨_, rfl⟩, hW, hsame.mono hc hs⟩
theorem remJ {g : JFrame} {target : State} (X : Stand p l e R s m args below meth c T locs cells slots) (hx : p.tables.exec = Jvm.exec) (hg : g.method = m) {x y : Int64} {rest : List Value} (hd : decode c.code g.pc = .ok (.lrem, 1)) (hs : g.stack = .long y :: .long x :: rest) (hy : y ≠ 0)
    (hr : Steps p.tables e below (T.setTop { g with pc := g.pc + 1, stack := .long (x % y) :: rest }) target) : Steps p.tables e below (T.setTop g) target := by
  rw [← lrem_mod x y] at hr
  exact XS.lrem X.here hx hg hd hs hy hr
theorem narB (x : Int32) : nar .byte x.toInt8.toInt32 = x.toInt8.toInt32 := by simp [nar]
end New
end Jvm.RoadKit
namespace Jvm.Pilot.@@N@@
open Jvm Jvm.ClassFile Sem Op Lib Jvm.Free Jvm.Stand Jvm.LawKit Jvm.RoadKit Bundle Jvm.Pilot.@@N@@.Jvm.D
def f1 (p0 : Int32) (p1 : Int32)  : Int32 := (if p0 < p1 then p1 else p0)
theorem ef_1 (m : MethodId) (x0 : Int32) (x1 : Int32) : entryFrame m #[(.int x0), (.int x1)] 2 = mkF m 0 #[.val (.int x0), .val (.int x1)] [] := by first | (simp [entryFrame, mkF, argsToLocals, Value.category]; done) | rfl
theorem d1_0 : decode jdk_29_method_65_code 0 = .ok (.iload_n 0, 1) := by decide +kernel
theorem d1_1 : decode jdk_29_method_65_code 1 = .ok (.iload_n 1, 1) := by decide +kernel
theorem d1_2 : decode jdk_29_method_65_code 2 = .ok (.if_icmp .lt 7, 3) := by decide +kernel
theorem d1_5 : decode jdk_29_method_65_code 5 = .ok (.iload_n 0, 1) := by decide +kernel
theorem d1_6 : decode jdk_29_method_65_code 6 = .ok (.goto 4, 3) := by decide +kernel
theorem d1_9 : decode jdk_29_method_65_code 9 = .ok (.iload_n 1, 1) := by decide +kernel
theorem d1_10 : decode jdk_29_method_65_code 10 = .ok (.ireturn, 1) := by decide +kernel
set_option maxRecDepth 65536 in
set_option maxHeartbeats 40000000 in
theorem rm1 (l : Launch) (Z : State) (a0 : Array Value) (hw : ∀ d ∈ tables_1, d.before a0 Z = true) (ws : List Jvm.Cond) (p0 : Int32) (p1 : Int32) (h0 : Heap) (n0 : Nat) (Z0 : n0 ≤ h0.size)  :
    MetFree l (⟨"java/lang/Math", "max", "(II)I"⟩ : MethodName) (head1 (Jvm.Cond.code (⟨"java/lang/Math", "max", "(II)I"⟩ : MethodName) jdk_29_method_65_code 2 (some .int) :: ws) ({ frames := 0, cells := 0, slots := 0, locals := 0 } : Room)) (fun a U => a = #[(.int p0), (.int p1)] ∧ Z.Warmed39 U.vm ∧ U.heap = h0) (fun _ _ _ _ _ => True) (fun _ U o U' => ∃ v L, o = .returned v ∧ QV (some (.int (f1 p0 p1))) (PureP n0 h0) v U'.heap L ∧ FrameEnd U o U' L ({ frames := 0, cells := 0, slots := 0, locals := 0 } : Room).cells ({ frames := 0, cells := 0, slots := 0, locals := 0 } : Room).slots) := by
  refine MetFree.of_bodySF (Jvm.Free.JP.mathPlain rfl (by decide +kernel)) hisR ?_
  intro p e s m args below meth c s₁ Bd hml0 hP hK
  obtain ⟨rfl, hZ, hh⟩ := hP
  have hx := Bd.exec
  have hby := Bd.bytes
  have hml : c.maxLocals = 2 := hml0
  have hown : s.vm.findClass "java/lang/Math" = some m.cls := findClass_of_methodNamed Bd.named
  have hnm := (name_of_methodNamed Bd.named Bd.method).1
  have hlk : meth.locks = false := BodyLoose.notSynchronized Bd
  have X0 : Stand p l e ({ frames := 0, cells := 0, slots := 0, locals := 0 } : Room) s m #[(.int p0), (.int p1)] below meth c s₁ [] 0 0 := Stand.of_body Bd
  have e0 : s₁.heap = h0 := by rw [← hh, Bd.state]; rfl
  have N0 := Fr.nil n0
  refine Got.body (ef_1 m p0 p1) ?_
  refine Got.step (T' := s₁) (g' := (mkF m 2 #[.val (.int p0), .val (.int p1)] [(.int p1), (.int p0)])) (fun tq kt => ?_) ?_
  · show Steps p.tables e below (s₁.setTop (mkF m 0 #[.val (.int p0), .val (.int p1)] [])) _
    refine XS.iloadN X0.here hx rfl (hb hby d1_0) rfl ?_
    show Steps p.tables e below (s₁.setTop (mkF m 1 #[.val (.int p0), .val (.int p1)] [(.int p0)])) _
    refine XS.iloadN X0.here hx rfl (hb hby d1_1) rfl ?_
    exact kt
  refine Got.ite (q := (p0 < p1)) (fun hc1 => ?_) (fun hc1 => ?_)
  · refine Got.step (T' := s₁) (g' := (mkF m 10 #[.val (.int p0), .val (.int p1)] [(.int p1)])) (fun tq kt => ?_) ?_
    · show Steps p.tables e below (s₁.setTop (mkF m 2 #[.val (.int p0), .val (.int p1)] [(.int p1), (.int p0)])) _
      refine XS.icmpYes X0.here hx rfl (pc0 := 2) (pc' := 9) rfl (hb hby d1_2) rfl (XT.ii_lt_t hc1) (by decide) (by decide) ?_
      show Steps p.tables e below (s₁.setTop (mkF m 9 #[.val (.int p0), .val (.int p1)] [])) _
      refine XS.iloadN X0.here hx rfl (hb hby d1_9) rfl ?_
      exact kt
    exact Got.retI (y := p1) X0 hx Bd.returns hlk (hb hby d1_10) rfl ⟨N0, e0⟩ (by decide) (by decide)
  · refine Got.step (T' := s₁) (g' := (mkF m 10 #[.val (.int p0), .val (.int p1)] [(.int p0)])) (fun tq kt => ?_) ?_
    · show Steps p.tables e below (s₁.setTop (mkF m 2 #[.val (.int p0), .val (.int p1)] [(.int p1), (.int p0)])) _
      refine XS.icmpNo X0.here hx rfl (hb hby d1_2) rfl (XT.ii_lt_f hc1) ?_
      show Steps p.tables e below (s₁.setTop (mkF m 5 #[.val (.int p0), .val (.int p1)] [])) _
      refine XS.iloadN X0.here hx rfl (hb hby d1_5) rfl ?_
      show Steps p.tables e below (s₁.setTop (mkF m 6 #[.val (.int p0), .val (.int p1)] [(.int p0)])) _
      refine XS.goto X0.here hx rfl (pc0 := 6) (pc' := 10) rfl (hb hby d1_6) (by decide) (by decide) ?_
      exact kt
    exact Got.retI (y := p0) X0 hx Bd.returns hlk (hb hby d1_10) rfl ⟨N0, e0⟩ (by decide) (by decide)
theorem ef_3 (m : MethodId) (x0 : Addr) : entryFrame m #[(.ref x0)] 1 = mkF m 0 #[.val (.ref x0)] [] := by first | (simp [entryFrame, mkF, argsToLocals, Value.category]; done) | rfl
theorem pn_0 : plainName "java/lang/Record" = true := by first | (simp [plainName, overriddenIn]; done) | decide +kernel
theorem d3_0 : decode jdk_30_method_1_code 0 = .ok (.aload_n 0, 1) := by decide +kernel
theorem d3_1 : decode jdk_30_method_1_code 1 = .ok (.invokespecial 1, 3) := by decide +kernel
theorem d3_4 : decode jdk_30_method_1_code 4 = .ok (.return_, 1) := by decide +kernel
set_option maxRecDepth 65536 in
set_option maxHeartbeats 40000000 in
theorem rm3 (l : Launch) (Z : State) (a0 : Array Value) (hw : ∀ d ∈ tables_1, d.before a0 Z = true) (ws : List Jvm.Cond) (o0 : Addr) (sv : Int32) (h0 : Heap) (n0 : Nat) (Z0 : n0 ≤ h0.size) (gn_o0 : n0 ≤ o0) (E_o0 : Exa Z h0 o0 "com/example/exclusion_by_quorum/exclusionbyquorum/Quorum") (F_servers : Fld Z h0 o0 "com/example/exclusion_by_quorum/exclusionbyquorum/Quorum" "servers" "I" (.int sv))  :
    MetFree l (⟨"java/lang/Record", "<init>", "()V"⟩ : MethodName) (head1 (Jvm.Cond.code (⟨"java/lang/Record", "<init>", "()V"⟩ : MethodName) jdk_30_method_1_code 1 none :: ws) ({ frames := 1, cells := 0, slots := 0, locals := 12 } : Room)) (fun a U => a = #[(.ref o0)] ∧ Z.Warmed39 U.vm ∧ U.heap = h0) (fun _ _ _ _ _ => True) (fun _ U o U' => ∃ v L, o = .returned v ∧ QV none (fun h L => Fr n0 L ∧ Keep h0 h [o0] ∧ Exa Z h o0 "com/example/exclusion_by_quorum/exclusionbyquorum/Quorum" ∧ Fld Z h o0 "com/example/exclusion_by_quorum/exclusionbyquorum/Quorum" "servers" "I" (.int sv)) v U'.heap L ∧ FrameEnd U o U' L ({ frames := 1, cells := 0, slots := 0, locals := 12 } : Room).cells ({ frames := 1, cells := 0, slots := 0, locals := 12 } : Room).slots) := by
  refine MetFree.of_bodySF (plainFor_of_name pn_0) hisR ?_
  intro p e s m args below meth c s₁ Bd hml0 hP hK
  obtain ⟨rfl, hZ, hh⟩ := hP
  have hx := Bd.exec
  have hby := Bd.bytes
  have hml : c.maxLocals = 1 := hml0
  have hown : s.vm.findClass "java/lang/Record" = some m.cls := findClass_of_methodNamed Bd.named
  have hnm := (name_of_methodNamed Bd.named Bd.method).1
  have hlk : meth.locks = false := BodyLoose.notSynchronized Bd
  have X0 : Stand p l e ({ frames := 1, cells := 0, slots := 0, locals := 12 } : Room) s m #[(.ref o0)] below meth c s₁ [] 0 0 := Stand.of_body Bd
  have e0 : s₁.heap = h0 := by rw [← hh, Bd.state]; rfl
  have N0 := Fr.nil n0
  refine Got.body (ef_3 m o0) ?_
  have K0 := Keep.refl h0 [o0]
  refine Got.step (T' := s₁) (g' := (mkF m 1 #[.val (.ref o0)] [(.ref o0)])) (fun tq kt => ?_) ?_
  · show Steps p.tables e below (s₁.setTop (mkF m 0 #[.val (.ref o0)] [])) _
    refine XS.aloadN X0.here hx rfl (hb hby d3_0) rfl rfl ?_
    exact kt
  obtain ⟨T2, X2, e2, st2⟩ := initO X0 hx hZ hown (hw _ (List.mem_of_getElem? (i := 17) rfl)) (hw _ (List.mem_of_getElem? (i := 18) rfl)) (hw _ (List.mem_of_getElem? (i := 19) rfl)) e0 (g := (mkF m 1 #[.val (.ref o0)] [(.ref o0)])) rfl (by rw [hml]; rfl) rfl (hb hby d3_1) (by decide) (W := 0) (by show 2 * 0 + _ ≤ _; exact Nat.le_of_eq rfl) (by decide)
  refine Got.step st2 ?_
  show Got p e below s _ _ _ _ T2 (mkF m 4 #[.val (.ref o0)] [])
  exact Got.retV X2 hx Bd.returns hlk (hb hby d3_4) ⟨N0, by rw [e2]; exact K0, by rw [e2]; exact E_o0, by rw [e2]; exact F_servers⟩ (by decide) (by decide)
theorem pd_0 : parseMethodDescriptor "()V" = some ⟨[], none⟩ := by decide +kernel
theorem ef_2 (m : MethodId) (x0 : Addr) (x1 : Int32) : entryFrame m #[(.ref x0), (.int x1)] 2 = mkF m 0 #[.val (.ref x0), .val (.int x1)] [] := by first | (simp [entryFrame, mkF, argsToLocals, Value.category]; done) | rfl
theorem pn_1 : plainName "com/example/exclusion_by_quorum/exclusionbyquorum/Quorum" = true := by first | (simp [plainName, overriddenIn]; done) | decide +kernel
theorem d2_0 : decode prog_3_method_1_code 0 = .ok (.aload_n 0, 1) := by decide +kernel
theorem d2_1 : decode prog_3_method_1_code 1 = .ok (.invokespecial 1, 3) := by decide +kernel
theorem d2_4 : decode prog_3_method_1_code 4 = .ok (.iload_n 1, 1) := by decide +kernel
theorem d2_5 : decode prog_3_method_1_code 5 = .ok (.iconst 1, 1) := by decide +kernel
theorem d2_6 : decode prog_3_method_1_code 6 = .ok (.if_icmp .ge 17, 3) := by decide +kernel
theorem d2_23 : decode prog_3_method_1_code 23 = .ok (.aload_n 0, 1) := by decide +kernel
theorem d2_24 : decode prog_3_method_1_code 24 = .ok (.iload_n 1, 1) := by decide +kernel
theorem d2_25 : decode prog_3_method_1_code 25 = .ok (.putfield 16, 3) := by decide +kernel
theorem d2_28 : decode prog_3_method_1_code 28 = .ok (.return_, 1) := by decide +kernel
set_option maxRecDepth 65536 in
set_option maxHeartbeats 40000000 in
theorem rm2 (l : Launch) (Z : State) (a0 : Array Value) (hw : ∀ d ∈ tables_1, d.before a0 Z = true) (ws : List Jvm.Cond) (o0 : Addr) (p1 : Int32) (h0 : Heap) (n0 : Nat) (Z0 : n0 ≤ h0.size) (gn_o0 : n0 ≤ o0) (E_o0 : Exa Z h0 o0 "com/example/exclusion_by_quorum/exclusionbyquorum/Quorum") (F_servers : Fld Z h0 o0 "com/example/exclusion_by_quorum/exclusionbyquorum/Quorum" "servers" "I" (.int (0 : Int32))) (hp1 : ¬ p1 < 1) :
    MetFree l (⟨"com/example/exclusion_by_quorum/exclusionbyquorum/Quorum", "<init>", "(I)V"⟩ : MethodName) (head1 (Jvm.Cond.code (⟨"com/example/exclusion_by_quorum/exclusionbyquorum/Quorum", "<init>", "(I)V"⟩ : MethodName) prog_3_method_1_code 2 none :: ws) ({ frames := 2, cells := 0, slots := 0, locals := 24 } : Room)) (fun a U => a = #[(.ref o0), (.int p1)] ∧ Z.Warmed39 U.vm ∧ U.heap = h0) (fun _ _ _ _ _ => True) (fun _ U o U' => ∃ v L, o = .returned v ∧ QV none (fun h L => Fr n0 L ∧ Keep h0 h [o0] ∧ Exa Z h o0 "com/example/exclusion_by_quorum/exclusionbyquorum/Quorum" ∧ Fld Z h o0 "com/example/exclusion_by_quorum/exclusionbyquorum/Quorum" "servers" "I" (.int p1)) v U'.heap L ∧ FrameEnd U o U' L ({ frames := 2, cells := 0, slots := 0, locals := 24 } : Room).cells ({ frames := 2, cells := 0, slots := 0, locals := 24 } : Room).slots) := by
  refine MetFree.of_bodySF (plainFor_of_name pn_1) hisR ?_
  intro p e s m args below meth c s₁ Bd hml0 hP hK
  obtain ⟨rfl, hZ, hh⟩ := hP
  have hx := Bd.exec
  have hby := Bd.bytes
  have hml : c.maxLocals = 2 := hml0
  have hown : s.vm.findClass "com/example/exclusion_by_quorum/exclusionbyquorum/Quorum" = some m.cls := findClass_of_methodNamed Bd.named
  have hnm := (name_of_methodNamed Bd.named Bd.method).1
  have hlk : meth.locks = false := BodyLoose.notSynchronized Bd
  have X0 : Stand p l e ({ frames := 2, cells := 0, slots := 0, locals := 24 } : Room) s m #[(.ref o0), (.int p1)] below meth c s₁ [] 0 0 := Stand.of_body Bd
  have e0 : s₁.heap = h0 := by rw [← hh, Bd.state]; rfl
  have N0 := Fr.nil n0
  refine Got.body (ef_2 m o0 p1) ?_
  have K0 := Keep.refl h0 [o0]
  refine Got.step (T' := s₁) (g' := (mkF m 1 #[.val (.ref o0), .val (.int p1)] [(.ref o0)])) (fun tq kt => ?_) ?_
  · show Steps p.tables e below (s₁.setTop (mkF m 0 #[.val (.ref o0), .val (.int p1)] [])) _
    refine XS.aloadN X0.here hx rfl (hb hby d2_0) rfl rfl ?_
    exact kt
  obtain ⟨_, _, ⟨T3, L3, k3, n3⟩, -, X3, ⟨Lc3, hQ3, l3, y3, z3⟩, st3⟩ := X0.specialBack hx (y := (⟨"java/lang/Record", "<init>", "()V"⟩ : MethodName)) rfl hown (mvT hZ (hw _ (List.mem_of_getElem? (i := 12) rfl))) (mvT hZ (hw _ (List.mem_of_getElem? (i := 13) rfl))) (mvT hZ (hw _ (List.mem_of_getElem? (i := 16) rfl))) (by decide) (backOf (W := 0) (rm3 l Z a0 hw [] o0 (0 : Int32) h0 n0 Z0 gn_o0 E_o0 F_servers ) hZ (hw _ (List.mem_of_getElem? (i := 16) rfl)) (hw _ (List.mem_of_getElem? (i := 15) rfl)) (by decide) (by decide)) (g := (mkF m 1 #[.val (.ref o0), .val (.int p1)] [(.ref o0)])) rfl (by rw [hml]; rfl) (Steps.refl _) (a := o0) (argsL := []) (rest := []) (lenOf pd_0 rfl) rfl (by show 2 * 0 + _ ≤ _; exact Nat.le_of_eq rfl) (hb hby d2_1) (fun _ _ => ⟨rfl, e0, (by decide : 0 + 0 ≤ _), (by decide : 0 + 0 ≤ _)⟩)
  dsimp only [Pt.U, Pt.locs, Pt.cells, Pt.slots] at X3 l3 y3 z3 st3 hQ3
  subst l3 y3 z3
  obtain ⟨h3, e3⟩ : ∃ z, T3.heap = z := ⟨_, rfl⟩
  rw [e3] at hQ3
  obtain ⟨rfl, Nq3, K3, E3, G3_servers⟩ := hQ3
  have N3 := Fr.app N0 Nq3
  have Z0_4 : n0 ≤ h3.size := (Nat.le_trans Z0 K3.1)
  have K0_5 : Keep h0 h3 [o0] := (K0.trans K3 (allS (Or.inl (List.mem_of_getElem? (i := 0) rfl)) all0))
  have E_o0_6 : Exa Z h3 o0 "com/example/exclusion_by_quorum/exclusionbyquorum/Quorum" := (E_o0.keep K3)
  refine Got.hop st3 ?_
  show Got p e below s _ _ _ _ T3 (mkF m 4 #[.val (.ref o0), .val (.int p1)] [])
  refine Got.step (T' := T3) (g' := (mkF m 25 #[.val (.ref o0), .val (.int p1)] [(.int p1), (.ref o0)])) (fun tq kt => ?_) ?_
  · show Steps p.tables e below (T3.setTop (mkF m 4 #[.val (.ref o0), .val (.int p1)] [])) _
    refine XS.iloadN X3.here hx rfl (hb hby d2_4) rfl ?_
    show Steps p.tables e below (T3.setTop (mkF m 5 #[.val (.ref o0), .val (.int p1)] [(.int p1)])) _
    refine XS.iconst X3.here hx rfl (hb hby d2_5) ?_
    show Steps p.tables e below (T3.setTop (mkF m 6 #[.val (.ref o0), .val (.int p1)] [(.int (1 : Int32)), (.int p1)])) _
    refine XS.icmpYes X3.here hx rfl (pc0 := 6) (pc' := 23) rfl (hb hby d2_6) rfl (XT.ii_ge_t hp1) (by decide) (by decide) ?_
    show Steps p.tables e below (T3.setTop (mkF m 23 #[.val (.ref o0), .val (.int p1)] [])) _
    refine XS.aloadN X3.here hx rfl (hb hby d2_23) rfl rfl ?_
    show Steps p.tables e below (T3.setTop (mkF m 24 #[.val (.ref o0), .val (.int p1)] [(.ref o0)])) _
    refine XS.iloadN X3.here hx rfl (hb hby d2_24) rfl ?_
    exact kt
  obtain ⟨T7, h7, X7, e7, W7, st7⟩ := putF X3 hx hZ hown (host := "") (Or.inl (hw _ (List.mem_of_getElem? (i := 20) rfl))) Via.refl e3 G3_servers E_o0_6 (Or.inr ⟨(hw _ (List.mem_of_getElem? (i := 21) rfl)), rfl, hnm⟩) (hw _ (List.mem_of_getElem? (i := 7) rfl)) (ty := .int) (by decide) rfl rfl (g := (mkF m 25 #[.val (.ref o0), .val (.int p1)] [(.int p1), (.ref o0)])) rfl rfl (hb hby d2_25)
  have Z0_8 : n0 ≤ h7.size := (Nat.le_trans Z0_4 (Keep.of_wr W7).1)
  have K0_9 : Keep h0 h7 [o0] := (K0_5.wr W7 (Or.inl (List.mem_of_getElem? (i := 0) rfl)))
  have E_o0_10 : Exa Z h7 o0 "com/example/exclusion_by_quorum/exclusionbyquorum/Quorum" := (E_o0_6.wr W7)
  have G3_servers_11 : Fld Z h7 o0 "com/example/exclusion_by_quorum/exclusionbyquorum/Quorum" "servers" "I" (.int p1) := (G3_servers.same W7)
  have N7 := Fr.snoc X7 N3 gn_o0
  refine Got.step st7 ?_
  show Got p e below s _ _ _ _ T7 (mkF m 28 #[.val (.ref o0), .val (.int p1)] [])
  exact Got.retV X7 hx Bd.returns hlk (hb hby d2_28) ⟨N7, by rw [e7]; exact K0_9, by rw [e7]; exact E_o0_10, by rw [e7]; exact G3_servers_11⟩ (by decide) (by decide)
def f6 (sv : Int32)  : Int32 := ((sv / (2 : Int32)) + (1 : Int32))
theorem ef_6 (m : MethodId) (x0 : Addr) : entryFrame m #[(.ref x0)] 1 = mkF m 0 #[.val (.ref x0)] [] := by first | (simp [entryFrame, mkF, argsToLocals, Value.category]; done) | rfl
theorem d6_0 : decode prog_3_method_2_code 0 = .ok (.aload_n 0, 1) := by decide +kernel
theorem d6_1 : decode prog_3_method_2_code 1 = .ok (.getfield 16, 3) := by decide +kernel
theorem d6_4 : decode prog_3_method_2_code 4 = .ok (.iconst 2, 1) := by decide +kernel
theorem d6_5 : decode prog_3_method_2_code 5 = .ok (.idiv, 1) := by decide +kernel
theorem d6_6 : decode prog_3_method_2_code 6 = .ok (.iconst 1, 1) := by decide +kernel
theorem d6_7 : decode prog_3_method_2_code 7 = .ok (.iadd, 1) := by decide +kernel
theorem d6_8 : decode prog_3_method_2_code 8 = .ok (.ireturn, 1) := by decide +kernel
set_option maxRecDepth 65536 in
set_option maxHeartbeats 40000000 in
theorem rm6 (l : Launch) (Z : State) (a0 : Array Value) (hw : ∀ d ∈ tables_1, d.before a0 Z = true) (ws : List Jvm.Cond) (o0 : Addr) (sv : Int32) (h0 : Heap) (n0 : Nat) (Z0 : n0 ≤ h0.size) (E_o0 : Exa Z h0 o0 "com/example/exclusion_by_quorum/exclusionbyquorum/Quorum") (F_servers : Fld Z h0 o0 "com/example/exclusion_by_quorum/exclusionbyquorum/Quorum" "servers" "I" (.int sv))  :
    MetFree l (⟨"com/example/exclusion_by_quorum/exclusionbyquorum/Quorum", "majority", "()I"⟩ : MethodName) (head1 (Jvm.Cond.code (⟨"com/example/exclusion_by_quorum/exclusionbyquorum/Quorum", "majority", "()I"⟩ : MethodName) prog_3_method_2_code 1 (some .int) :: ws) ({ frames := 0, cells := 0, slots := 0, locals := 0 } : Room)) (fun a U => a = #[(.ref o0)] ∧ Z.Warmed39 U.vm ∧ U.heap = h0) (fun _ _ _ _ _ => True) (fun _ U o U' => ∃ v L, o = .returned v ∧ QV (some (.int (f6 sv))) (PureP n0 h0) v U'.heap L ∧ FrameEnd U o U' L ({ frames := 0, cells := 0, slots := 0, locals := 0 } : Room).cells ({ frames := 0, cells := 0, slots := 0, locals := 0 } : Room).slots) := by
  refine MetFree.of_bodySF (plainFor_of_name pn_1) hisR ?_
  intro p e s m args below meth c s₁ Bd hml0 hP hK
  obtain ⟨rfl, hZ, hh⟩ := hP
  have hx := Bd.exec
  have hby := Bd.bytes
  have hml : c.maxLocals = 1 := hml0
  have hown : s.vm.findClass "com/example/exclusion_by_quorum/exclusionbyquorum/Quorum" = some m.cls := findClass_of_methodNamed Bd.named
  have hnm := (name_of_methodNamed Bd.named Bd.method).1
  have hlk : meth.locks = false := BodyLoose.notSynchronized Bd
  have X0 : Stand p l e ({ frames := 0, cells := 0, slots := 0, locals := 0 } : Room) s m #[(.ref o0)] below meth c s₁ [] 0 0 := Stand.of_body Bd
  have e0 : s₁.heap = h0 := by rw [← hh, Bd.state]; rfl
  have N0 := Fr.nil n0
  refine Got.body (ef_6 m o0) ?_
  refine Got.step (T' := s₁) (g' := (mkF m 1 #[.val (.ref o0)] [(.ref o0)])) (fun tq kt => ?_) ?_
  · show Steps p.tables e below (s₁.setTop (mkF m 0 #[.val (.ref o0)] [])) _
    refine XS.aloadN X0.here hx rfl (hb hby d6_0) rfl rfl ?_
    exact kt
  obtain ⟨T12, X12, e12, st12⟩ := getF X0 hx hZ hown (host := "") (Or.inl (hw _ (List.mem_of_getElem? (i := 20) rfl))) Via.refl e0 F_servers (g := (mkF m 1 #[.val (.ref o0)] [(.ref o0)])) rfl rfl (hb hby d6_1)
  refine Got.step st12 ?_
  show Got p e below s _ _ _ _ T12 (mkF m 4 #[.val (.ref o0)] [(.int sv)])
  refine Got.step (T' := T12) (g' := (mkF m 8 #[.val (.ref o0)] [(.int ((sv / (2 : Int32)) + (1 : Int32)))])) (fun tq kt => ?_) ?_
  · show Steps p.tables e below (T12.setTop (mkF m 4 #[.val (.ref o0)] [(.int sv)])) _
    refine XS.iconst X12.here hx rfl (hb hby d6_4) ?_
    show Steps p.tables e below (T12.setTop (mkF m 5 #[.val (.ref o0)] [(.int (2 : Int32)), (.int sv)])) _
    refine XS.idiv X12.here hx rfl (hb hby d6_5) rfl (by decide) ?_
    show Steps p.tables e below (T12.setTop (mkF m 6 #[.val (.ref o0)] [(.int (sv / (2 : Int32)))])) _
    refine XS.iconst X12.here hx rfl (hb hby d6_6) ?_
    show Steps p.tables e below (T12.setTop (mkF m 7 #[.val (.ref o0)] [(.int (1 : Int32)), (.int (sv / (2 : Int32)))])) _
    refine XS.iadd X12.here hx rfl (hb hby d6_7) rfl ?_
    exact kt
  exact Got.retI (y := ((sv / (2 : Int32)) + (1 : Int32))) X12 hx Bd.returns hlk (hb hby d6_8) rfl ⟨N0, e12⟩ (by decide) (by decide)
theorem pd_1 : parseMethodDescriptor "()I" = some ⟨[], some .int⟩ := by decide +kernel
def f5 (p1 : Int32) (q2 : Int64) (sv : Int32)  : Int32 := (if p1 < (f6 sv) then (0 : Int32) else (if (0 : Int64) < q2 then (1 : Int32) else (0 : Int32)))
theorem ef_5 (m : MethodId) (x0 : Addr) (x1 : Int32) (x2 : Int64) : entryFrame m #[(.ref x0), (.int x1), (.long x2)] 4 = mkF m 0 #[.val (.ref x0), .val (.int x1), .val (.long x2), .second] [] := by first | (simp [entryFrame, mkF, argsToLocals, Value.category]; done) | rfl
theorem d5_0 : decode prog_3_method_3_code 0 = .ok (.iload_n 1, 1) := by decide +kernel
theorem d5_1 : decode prog_3_method_3_code 1 = .ok (.ifCond .lt 11, 3) := by decide +kernel
theorem d5_4 : decode prog_3_method_3_code 4 = .ok (.iload_n 1, 1) := by decide +kernel
theorem d5_5 : decode prog_3_method_3_code 5 = .ok (.aload_n 0, 1) := by decide +kernel
theorem d5_6 : decode prog_3_method_3_code 6 = .ok (.getfield 16, 3) := by decide +kernel
theorem d5_9 : decode prog_3_method_3_code 9 = .ok (.if_icmp .le 21, 3) := by decide +kernel
theorem d5_30 : decode prog_3_method_3_code 30 = .ok (.iload_n 1, 1) := by decide +kernel
theorem d5_31 : decode prog_3_method_3_code 31 = .ok (.aload_n 0, 1) := by decide +kernel
theorem d5_32 : decode prog_3_method_3_code 32 = .ok (.invokevirtual 25, 3) := by decide +kernel
theorem d5_35 : decode prog_3_method_3_code 35 = .ok (.if_icmp .lt 13, 3) := by decide +kernel
theorem d5_38 : decode prog_3_method_3_code 38 = .ok (.lload_n 2, 1) := by decide +kernel
theorem d5_39 : decode prog_3_method_3_code 39 = .ok (.lconst 0, 1) := by decide +kernel
theorem d5_40 : decode prog_3_method_3_code 40 = .ok (.lcmp, 1) := by decide +kernel
theorem d5_41 : decode prog_3_method_3_code 41 = .ok (.ifCond .le 7, 3) := by decide +kernel
theorem d5_44 : decode prog_3_method_3_code 44 = .ok (.iconst 1, 1) := by decide +kernel
theorem d5_45 : decode prog_3_method_3_code 45 = .ok (.goto 4, 3) := by decide +kernel
theorem d5_48 : decode prog_3_method_3_code 48 = .ok (.iconst 0, 1) := by decide +kernel
theorem d5_49 : decode prog_3_method_3_code 49 = .ok (.ireturn, 1) := by decide +kernel
set_option maxRecDepth 65536 in
set_option maxHeartbeats 40000000 in
theorem rm5 (l : Launch) (Z : State) (a0 : Array Value) (hw : ∀ d ∈ tables_1, d.before a0 Z = true) (ws : List Jvm.Cond) (o0 : Addr) (p1 : Int32) (q2 : Int64) (sv : Int32) (h0 : Heap) (n0 : Nat) (Z0 : n0 ≤ h0.size) (E_o0 : Exa Z h0 o0 "com/example/exclusion_by_quorum/exclusionbyquorum/Quorum") (F_servers : Fld Z h0 o0 "com/example/exclusion_by_quorum/exclusionbyquorum/Quorum" "servers" "I" (.int sv)) (hp0 : ¬ p1 < 0) (hp1 : ¬ sv < p1) :
    MetFree l (⟨"com/example/exclusion_by_quorum/exclusionbyquorum/Quorum", "grants", "(IJ)Z"⟩ : MethodName) (head1 (Jvm.Cond.code (⟨"com/example/exclusion_by_quorum/exclusionbyquorum/Quorum", "grants", "(IJ)Z"⟩ : MethodName) prog_3_method_3_code 4 (some .boolean) :: ws) ({ frames := 1, cells := 0, slots := 0, locals := 13 } : Room)) (fun a U => a = #[(.ref o0), (.int p1), (.long q2)] ∧ Z.Warmed39 U.vm ∧ U.heap = h0) (fun _ _ _ _ _ => True) (fun _ U o U' => ∃ v L, o = .returned v ∧ QV (some (.int (f5 p1 q2 sv))) (PureP n0 h0) v U'.heap L ∧ FrameEnd U o U' L ({ frames := 1, cells := 0, slots := 0, locals := 13 } : Room).cells ({ frames := 1, cells := 0, slots := 0, locals := 13 } : Room).slots) := by
  refine MetFree.of_bodySF (plainFor_of_name pn_1) hisR ?_
  intro p e s m args below meth c s₁ Bd hml0 hP hK
  obtain ⟨rfl, hZ, hh⟩ := hP
  have hx := Bd.exec
  have hby := Bd.bytes
  have hml : c.maxLocals = 4 := hml0
  have hown : s.vm.findClass "com/example/exclusion_by_quorum/exclusionbyquorum/Quorum" = some m.cls := findClass_of_methodNamed Bd.named
  have hnm := (name_of_methodNamed Bd.named Bd.method).1
  have hlk : meth.locks = false := BodyLoose.notSynchronized Bd
  have X0 : Stand p l e ({ frames := 1, cells := 0, slots := 0, locals := 13 } : Room) s m #[(.ref o0), (.int p1), (.long q2)] below meth c s₁ [] 0 0 := Stand.of_body Bd
  have e0 : s₁.heap = h0 := by rw [← hh, Bd.state]; rfl
  have N0 := Fr.nil n0
  refine Got.body (ef_5 m o0 p1 q2) ?_
  refine Got.step (T' := s₁) (g' := (mkF m 6 #[.val (.ref o0), .val (.int p1), .val (.long q2), .second] [(.ref o0), (.int p1)])) (fun tq kt => ?_) ?_
  · show Steps p.tables e below (s₁.setTop (mkF m 0 #[.val (.ref o0), .val (.int p1), .val (.long q2), .second] [])) _
    refine XS.iloadN X0.here hx rfl (hb hby d5_0) rfl ?_
    show Steps p.tables e below (s₁.setTop (mkF m 1 #[.val (.ref o0), .val (.int p1), .val (.long q2), .second] [(.int p1)])) _
    refine XS.ifNo X0.here hx rfl (hb hby d5_1) rfl (XT.i0_lt_f hp0) ?_
    show Steps p.tables e below (s₁.setTop (mkF m 4 #[.val (.ref o0), .val (.int p1), .val (.long q2), .second] [])) _
    refine XS.iloadN X0.here hx rfl (hb hby d5_4) rfl ?_
    show Steps p.tables e below (s₁.setTop (mkF m 5 #[.val (.ref o0), .val (.int p1), .val (.long q2), .second] [(.int p1)])) _
    refine XS.aloadN X0.here hx rfl (hb hby d5_5) rfl rfl ?_
    exact kt
  obtain ⟨T13, X13, e13, st13⟩ := getF X0 hx hZ hown (host := "") (Or.inl (hw _ (List.mem_of_getElem? (i := 20) rfl))) Via.refl e0 F_servers (g := (mkF m 6 #[.val (.ref o0), .val (.int p1), .val (.long q2), .second] [(.ref o0), (.int p1)])) rfl rfl (hb hby d5_6)
  refine Got.step st13 ?_
  show Got p e below s _ _ _ _ T13 (mkF m 9 #[.val (.ref o0), .val (.int p1), .val (.long q2), .second] [(.int sv), (.int p1)])
  refine Got.step (T' := T13) (g' := (mkF m 32 #[.val (.ref o0), .val (.int p1), .val (.long q2), .second] [(.ref o0), (.int p1)])) (fun tq kt => ?_) ?_
  · show Steps p.tables e below (T13.setTop (mkF m 9 #[.val (.ref o0), .val (.int p1), .val (.long q2), .second] [(.int sv), (.int p1)])) _
    refine XS.icmpYes X13.here hx rfl (pc0 := 9) (pc' := 30) rfl (hb hby d5_9) rfl (XT.ii_le_t hp1) (by decide) (by decide) ?_
    show Steps p.tables e below (T13.setTop (mkF m 30 #[.val (.ref o0), .val (.int p1), .val (.long q2), .second] [])) _
    refine XS.iloadN X13.here hx rfl (hb hby d5_30) rfl ?_
    show Steps p.tables e below (T13.setTop (mkF m 31 #[.val (.ref o0), .val (.int p1), .val (.long q2), .second] [(.int p1)])) _
    refine XS.aloadN X13.here hx rfl (hb hby d5_31) rfl rfl ?_
    exact kt
  obtain ⟨cq14, kq14, qa14, qb14, qc14⟩ := isOf hZ e13 E_o0
  obtain ⟨_, _, ⟨T14, L14, k14, n14⟩, -, X14, ⟨Lc14, hQ14, l14, y14, z14⟩, st14⟩ := X13.virtualBack hx (y := (⟨"com/example/exclusion_by_quorum/exclusionbyquorum/Quorum", "majority", "()I"⟩ : MethodName)) (z := (⟨"com/example/exclusion_by_quorum/exclusionbyquorum/Quorum", "majority", "()I"⟩ : MethodName)) hown (mvT hZ (hw _ (List.mem_of_getElem? (i := 28) rfl))) (mvT hZ (hw _ (List.mem_of_getElem? (i := 29) rfl))) (notFace_of_selects (args := #[]) (mvT hZ (hw _ (List.mem_of_getElem? (i := 31) rfl)))) (mvT hZ (hw _ (List.mem_of_getElem? (i := 31) rfl))) (mvT hZ (hw _ (List.mem_of_getElem? (i := 30) rfl))) (by decide) (backOf (W := 1) (rm6 l Z a0 hw [] o0 sv h0 n0 Z0 E_o0 F_servers ) hZ (hw _ (List.mem_of_getElem? (i := 32) rfl)) (hw _ (List.mem_of_getElem? (i := 8) rfl)) (by decide) (by decide)) qa14 qc14 (g := (mkF m 32 #[.val (.ref o0), .val (.int p1), .val (.long q2), .second] [(.ref o0), (.int p1)])) rfl (by rw [hml]; rfl) (Steps.refl _) (argsL := []) (rest := [(.int p1)]) (lenOf pd_1 rfl) rfl (by show 2 * 0 + _ ≤ _; exact Nat.le_of_eq rfl) (hb hby d5_32) (fun _ _ => ⟨rfl, e13, (by decide : 0 + 0 ≤ _), (by decide : 0 + 0 ≤ _)⟩)
  dsimp only [Pt.U, Pt.locs, Pt.cells, Pt.slots] at X14 l14 y14 z14 st14 hQ14
  subst l14 y14 z14
  obtain ⟨rfl, Nq14, e14⟩ := hQ14
  have N14 := Fr.app N0 Nq14
  refine Got.hop st14 ?_
  show Got p e below s _ _ _ _ T14 (mkF m 35 #[.val (.ref o0), .val (.int p1), .val (.long q2), .second] [(.int (f6 sv)), (.int p1)])
  refine Got.ite (q := (p1 < (f6 sv))) (fun hc15 => ?_) (fun hc15 => ?_)
  · refine Got.step (T' := T14) (g' := (mkF m 49 #[.val (.ref o0), .val (.int p1), .val (.long q2), .second] [(.int (0 : Int32))])) (fun tq kt => ?_) ?_
    · show Steps p.tables e below (T14.setTop (mkF m 35 #[.val (.ref o0), .val (.int p1), .val (.long q2), .second] [(.int (f6 sv)), (.int p1)])) _
      refine XS.icmpYes X14.here hx rfl (pc0 := 35) (pc' := 48) rfl (hb hby d5_35) rfl (XT.ii_lt_t hc15) (by decide) (by decide) ?_
      show Steps p.tables e below (T14.setTop (mkF m 48 #[.val (.ref o0), .val (.int p1), .val (.long q2), .second] [])) _
      refine XS.iconst X14.here hx rfl (hb hby d5_48) ?_
      exact kt
    exact Got.retN (y := (0 : Int32)) (t := .boolean) X14 hx Bd.returns (by simp) hlk (hb hby d5_49) (by decide) ⟨N14, e14⟩ (by decide) (by decide)
  · refine Got.step (T' := T14) (g' := (mkF m 41 #[.val (.ref o0), .val (.int p1), .val (.long q2), .second] [(.int (XT.cmpL q2 (0 : Int64)))])) (fun tq kt => ?_) ?_
    · show Steps p.tables e below (T14.setTop (mkF m 35 #[.val (.ref o0), .val (.int p1), .val (.long q2), .second] [(.int (f6 sv)), (.int p1)])) _
      refine XS.icmpNo X14.here hx rfl (hb hby d5_35) rfl (XT.ii_lt_f hc15) ?_
      show Steps p.tables e below (T14.setTop (mkF m 38 #[.val (.ref o0), .val (.int p1), .val (.long q2), .second] [])) _
      refine XS.lloadN X14.here hx rfl (hb hby d5_38) rfl ?_
      show Steps p.tables e below (T14.setTop (mkF m 39 #[.val (.ref o0), .val (.int p1), .val (.long q2), .second] [(.long q2)])) _
      refine XS.lconst X14.here hx rfl (hb hby d5_39) ?_
      show Steps p.tables e below (T14.setTop (mkF m 40 #[.val (.ref o0), .val (.int p1), .val (.long q2), .second] [(.long (0 : Int64)), (.long q2)])) _
      refine XT.lcmp X14.here hx rfl (hb hby d5_40) rfl ?_
      exact kt
    refine Got.ite (q := ((0 : Int64) < q2)) (fun hc16 => ?_) (fun hc16 => ?_)
    · refine Got.step (T' := T14) (g' := (mkF m 49 #[.val (.ref o0), .val (.int p1), .val (.long q2), .second] [(.int (1 : Int32))])) (fun tq kt => ?_) ?_
      · show Steps p.tables e below (T14.setTop (mkF m 41 #[.val (.ref o0), .val (.int p1), .val (.long q2), .second] [(.int (XT.cmpL q2 (0 : Int64)))])) _
        refine XS.ifNo X14.here hx rfl (hb hby d5_41) rfl (XT.ll_le_f hc16) ?_
        show Steps p.tables e below (T14.setTop (mkF m 44 #[.val (.ref o0), .val (.int p1), .val (.long q2), .second] [])) _
        refine XS.iconst X14.here hx rfl (hb hby d5_44) ?_
        show Steps p.tables e below (T14.setTop (mkF m 45 #[.val (.ref o0), .val (.int p1), .val (.long q2), .second] [(.int (1 : Int32))])) _
        refine XS.goto X14.here hx rfl (pc0 := 45) (pc' := 49) rfl (hb hby d5_45) (by decide) (by decide) ?_
        exact kt
      exact Got.retN (y := (1 : Int32)) (t := .boolean) X14 hx Bd.returns (by simp) hlk (hb hby d5_49) (by decide) ⟨N14, e14⟩ (by decide) (by decide)
    · refine Got.step (T' := T14) (g' := (mkF m 49 #[.val (.ref o0), .val (.int p1), .val (.long q2), .second] [(.int (0 : Int32))])) (fun tq kt => ?_) ?_
      · show Steps p.tables e below (T14.setTop (mkF m 41 #[.val (.ref o0), .val (.int p1), .val (.long q2), .second] [(.int (XT.cmpL q2 (0 : Int64)))])) _
        refine XS.ifYes X14.here hx rfl (pc0 := 41) (pc' := 48) rfl (hb hby d5_41) rfl (XT.ll_le_t hc16) (by decide) (by decide) ?_
        show Steps p.tables e below (T14.setTop (mkF m 48 #[.val (.ref o0), .val (.int p1), .val (.long q2), .second] [])) _
        refine XS.iconst X14.here hx rfl (hb hby d5_48) ?_
        exact kt
      exact Got.retN (y := (0 : Int32)) (t := .boolean) X14 hx Bd.returns (by simp) hlk (hb hby d5_49) (by decide) ⟨N14, e14⟩ (by decide) (by decide)
theorem own_n (p0 : Int32) : 1 ≤ (f1 (1 : Int32) (p0 &&& (2147483647 : Int32))).toInt ∧ (f1 (1 : Int32) (p0 &&& (2147483647 : Int32))).toInt < 2147483648 := by
  have h := c_mask p0 2147483647 31 (by decide) (by decide)
  have z : (1 : Int32).toInt = 1 := rfl
  unfold f1
  split
  · rename_i q; rw [Int32.lt_iff_toInt_lt] at q; omega
  · omega
theorem own_n1 (p0 : Int32) : ¬ (f1 (1 : Int32) (p0 &&& (2147483647 : Int32))) < 1 := by
  have h := own_n p0
  have z : (1 : Int32).toInt = 1 := rfl
  rw [Int32.lt_iff_toInt_lt]; omega
theorem own_n2 (p0 : Int32) : ((f1 (1 : Int32) (p0 &&& (2147483647 : Int32))).toInt64 + (1 : Int64)).toInt = (f1 (1 : Int32) (p0 &&& (2147483647 : Int32))).toInt + 1 := by
  have h := own_n p0
  have z : (1 : Int64).toInt = 1 := rfl
  have e := Int32.toInt_toInt64 (f1 (1 : Int32) (p0 &&& (2147483647 : Int32)))
  rw [XT.add64 (by unfold XT.fits64; omega), e, z]
theorem own_nz (p0 : Int32) : ((f1 (1 : Int32) (p0 &&& (2147483647 : Int32))).toInt64 + (1 : Int64)) ≠ 0 := fun h => by
  have h1 := own_n2 p0
  have h2 := own_n p0
  rw [h] at h1
  have z : (0 : Int64).toInt = 0 := rfl
  omega
theorem own_v (p0 p1 : Int32) : 0 ≤ ((((p1.toInt64) &&& (2147483647 : Int64)) % (((f1 (1 : Int32) (p0 &&& (2147483647 : Int32))).toInt64) + (1 : Int64))).toInt32).toInt ∧ ((((p1.toInt64) &&& (2147483647 : Int64)) % (((f1 (1 : Int32) (p0 &&& (2147483647 : Int32))).toInt64) + (1 : Int64))).toInt32).toInt ≤ (f1 (1 : Int32) (p0 &&& (2147483647 : Int32))).toInt := by
  have h1 := own_n2 p0
  have h2 := own_n p0
  have h3 := c_maskL p1.toInt64 2147483647 31 (by decide) (by decide)
  have h4 : (((p1.toInt64) &&& (2147483647 : Int64)) % (((f1 (1 : Int32) (p0 &&& (2147483647 : Int32))).toInt64) + (1 : Int64))).toInt = (p1.toInt64 &&& 2147483647).toInt % ((f1 (1 : Int32) (p0 &&& (2147483647 : Int32))).toInt + 1) := by
    rw [Int64.toInt_mod, h1, Int.tmod_eq_emod_of_nonneg (by omega)]
  have h5 := Int.emod_nonneg (p1.toInt64 &&& 2147483647).toInt (b := (f1 (1 : Int32) (p0 &&& (2147483647 : Int32))).toInt + 1) (by omega)
  have h6 := Int.emod_lt_of_pos (p1.toInt64 &&& 2147483647).toInt (b := (f1 (1 : Int32) (p0 &&& (2147483647 : Int32))).toInt + 1) (by omega)
  rw [XT.narrowInt (by unfold XT.fits32; omega)]
  omega
theorem own_v0 (p0 p1 : Int32) : ¬ ((((p1.toInt64) &&& (2147483647 : Int64)) % (((f1 (1 : Int32) (p0 &&& (2147483647 : Int32))).toInt64) + (1 : Int64))).toInt32) < 0 := by
  have h := own_v p0 p1
  have z : (0 : Int32).toInt = 0 := rfl
  rw [Int32.lt_iff_toInt_lt]; omega
theorem own_v1 (p0 p1 : Int32) : ¬ (f1 (1 : Int32) (p0 &&& (2147483647 : Int32))) < ((((p1.toInt64) &&& (2147483647 : Int64)) % (((f1 (1 : Int32) (p0 &&& (2147483647 : Int32))).toInt64) + (1 : Int64))).toInt32) := by
  have h := own_v p0 p1
  rw [Int32.lt_iff_toInt_lt]; omega
theorem own_maj {v n : Int32} (h1 : 0 ≤ v.toInt) (h2 : v.toInt ≤ n.toInt) (h3 : 1 ≤ n.toInt) : v < f6 n ↔ ¬ n.toInt64 < (2 : Int64) * v.toInt64 := by
  have z2 : (2 : Int32).toInt = 2 := rfl
  have z1 : (1 : Int32).toInt = 1 := rfl
  have z3 : (2 : Int64).toInt = 2 := rfl
  have e1 := (c_idiv n 2 2 rfl (by decide)).1 (by omega)
  have u := Int32.toInt_lt n
  have e2 : (f6 n).toInt = n.toInt / 2 + 1 := by
    unfold f6
    rw [XT.add32 (by unfold XT.fits32; omega), e1, z1]
  have e3 : ((2 : Int64) * v.toInt64).toInt = 2 * v.toInt := by
    rw [XT.mul64 (by unfold XT.fits64; rw [Int32.toInt_toInt64, z3]; omega), Int32.toInt_toInt64, z3]
  rw [Int32.lt_iff_toInt_lt, Int64.lt_iff_toInt_lt, e2, e3, Int32.toInt_toInt64]
  omega
theorem own_fin (p0 p1 : Int32) (q2 : Int64) {k : Int32} (hk : k = (if ((f1 (1 : Int32) (p0 &&& (2147483647 : Int32))).toInt64) < ((2 : Int64) * (((((p1.toInt64) &&& (2147483647 : Int64)) % (((f1 (1 : Int32) (p0 &&& (2147483647 : Int32))).toInt64) + (1 : Int64))).toInt32).toInt64)) then (if (0 : Int64) < q2 then (1 : Int32) else (0 : Int32)) else (0 : Int32))) :
    (f5 ((((p1.toInt64) &&& (2147483647 : Int64)) % (((f1 (1 : Int32) (p0 &&& (2147483647 : Int32))).toInt64) + (1 : Int64))).toInt32) q2 (f1 (1 : Int32) (p0 &&& (2147483647 : Int32)))) = k := by
  have h := own_v p0 p1
  have h2 := own_n p0
  rw [hk, f5]
  have m := own_maj h.1 h.2 h2.1
  by_cases q : (f1 (1 : Int32) (p0 &&& (2147483647 : Int32))).toInt64 < (2 : Int64) * (((((p1.toInt64) &&& (2147483647 : Int64)) % (((f1 (1 : Int32) (p0 &&& (2147483647 : Int32))).toInt64) + (1 : Int64))).toInt32).toInt64)
  · rw [if_pos q, if_neg (fun x => m.mp x q)]
  · rw [if_neg q, if_pos (m.mpr q)]

theorem pd_2 : parseMethodDescriptor "(II)I" = some ⟨[.int, .int], some .int⟩ := by decide +kernel
theorem pd_3 : parseMethodDescriptor "(I)V" = some ⟨[.int], none⟩ := by decide +kernel
theorem pd_4 : parseMethodDescriptor "(IJ)Z" = some ⟨[.int, .long], some .boolean⟩ := by decide +kernel
theorem ef_0 (m : MethodId) (x0 : Int32) (x1 : Int32) (x2 : Int64) : entryFrame m #[(.int x0), (.int x1), (.long x2)] maxLocals = mkF m 0 #[.val (.int x0), .val (.int x1), .val (.long x2), .second, .unset, .unset, .unset, .unset] [] := by first | (simp [entryFrame, mkF, argsToLocals, Value.category, maxLocals]; done) | rfl
theorem pn_2 : plainName "com/example/exclusion_by_quorum/exclusionbyquorum/QuorumGrantsPinLaw" = true := by first | (simp [plainName, overriddenIn]; done) | decide +kernel
set_option maxRecDepth 65536 in
set_option maxHeartbeats 40000000 in
theorem rm0 (l : Launch) (Z : State) (a0 : Array Value) (hw : ∀ d ∈ tables_1, d.before a0 Z = true) (ws : List Jvm.Cond) (p0 p1 : Int32) (q2 : Int64) (h0 : Heap) (n0 : Nat) (Z0 : n0 ≤ h0.size)  :
    MetFree l x (head1 (Jvm.Cond.code x code maxLocals ret :: ws) room_1) (fun a U => a = #[(.int p0), (.int p1), (.long q2)] ∧ Z.Warmed39 U.vm ∧ U.heap = h0) (fun _ _ _ _ _ => True) (fun _ U o U' => ∃ v L, o = .returned v ∧ QV (some (.int (1 : Int32))) (fun _ L => Fr n0 L) v U'.heap L ∧ FrameEnd U o U' L room_1.cells room_1.slots) := by
  refine MetFree.of_bodySF (plainFor_of_name pn_2) hisR ?_
  intro p e s m args below meth c s₁ Bd hml0 hP hK
  obtain ⟨rfl, hZ, hh⟩ := hP
  have hx := Bd.exec
  have hby := Bd.bytes
  have hml : c.maxLocals = 8 := hml0
  have hown : s.vm.findClass "com/example/exclusion_by_quorum/exclusionbyquorum/QuorumGrantsPinLaw" = some m.cls := findClass_of_methodNamed Bd.named
  have hnm := (name_of_methodNamed Bd.named Bd.method).1
  have hlk : meth.locks = false := BodyLoose.notSynchronized Bd
  have X0 : Stand p l e room_1 s m #[(.int p0), (.int p1), (.long q2)] below meth c s₁ [] 0 0 := Stand.of_body Bd
  have e0 : s₁.heap = h0 := by rw [← hh, Bd.state]; rfl
  have N0 := Fr.nil n0
  refine Got.body (ef_0 m p0 p1 q2) ?_
  refine Got.step (T' := s₁) (g' := (mkF m 5 #[.val (.int p0), .val (.int p1), .val (.long q2), .second, .unset, .unset, .unset, .unset] [(.int (p0 &&& (2147483647 : Int32))), (.int (1 : Int32))])) (fun tq kt => ?_) ?_
  · show Steps p.tables e below (s₁.setTop (mkF m 0 #[.val (.int p0), .val (.int p1), .val (.long q2), .second, .unset, .unset, .unset, .unset] [])) _
    refine XS.iconst X0.here hx rfl (hb hby at_0) ?_
    show Steps p.tables e below (s₁.setTop (mkF m 1 #[.val (.int p0), .val (.int p1), .val (.long q2), .second, .unset, .unset, .unset, .unset] [(.int (1 : Int32))])) _
    refine XS.iloadN X0.here hx rfl (hb hby at_1) rfl ?_
    show Steps p.tables e below (s₁.setTop (mkF m 2 #[.val (.int p0), .val (.int p1), .val (.long q2), .second, .unset, .unset, .unset, .unset] [(.int p0), (.int (1 : Int32))])) _
    refine X0.ldcI hx hown (mvT hZ (hw _ (List.mem_of_getElem? (i := 0) rfl))) rfl (hb hby at_2) ?_
    show Steps p.tables e below (s₁.setTop (mkF m 4 #[.val (.int p0), .val (.int p1), .val (.long q2), .second, .unset, .unset, .unset, .unset] [(.int (2147483647 : Int32)), (.int p0), (.int (1 : Int32))])) _
    refine XS.iand X0.here hx rfl (hb hby at_4) rfl ?_
    exact kt
  obtain ⟨_, _, ⟨T17, L17, k17, n17⟩, -, X17, ⟨Lc17, hQ17, l17, y17, z17⟩, st17⟩ := Jvm.LawKit.callS X0 hx (y := (⟨"java/lang/Math", "max", "(II)I"⟩ : MethodName)) hown (mvT hZ (hw _ (List.mem_of_getElem? (i := 1) rfl))) (mvT hZ (hw _ (List.mem_of_getElem? (i := 2) rfl))) (mvT hZ (hw _ (List.mem_of_getElem? (i := 3) rfl))) (mvT hZ (hw _ (List.mem_of_getElem? (i := 4) rfl))) (by decide) (backOf (W := 0) (rm1 l Z a0 hw [] (1 : Int32) (p0 &&& (2147483647 : Int32)) h0 n0 Z0) hZ (hw _ (List.mem_of_getElem? (i := 4) rfl)) (hw _ (List.mem_of_getElem? (i := 3) rfl)) (by decide) (by decide)) (g := (mkF m 5 #[.val (.int p0), .val (.int p1), .val (.long q2), .second, .unset, .unset, .unset, .unset] [(.int (p0 &&& (2147483647 : Int32))), (.int (1 : Int32))])) rfl (by rw [hml]; rfl) (argsL := [(.int (1 : Int32)), (.int (p0 &&& (2147483647 : Int32)))]) (rest := []) (lenOf pd_2 rfl) rfl (by show 2 * 0 + _ ≤ _; exact Nat.le_of_eq rfl) (hb hby at_5) (fun _ _ => ⟨rfl, e0, (by decide : 0 + 0 ≤ _), (by decide : 0 + 0 ≤ _)⟩)
  dsimp only [Pt.U, Pt.locs, Pt.cells, Pt.slots] at X17 l17 y17 z17 st17 hQ17
  subst l17 y17 z17
  obtain ⟨rfl, Nq17, e17⟩ := hQ17
  have N17 := Fr.app N0 Nq17
  refine Got.step st17 ?_
  show Got p e below s _ _ _ _ T17 (mkF m 8 #[.val (.int p0), .val (.int p1), .val (.long q2), .second, .unset, .unset, .unset, .unset] [(.int (f1 (1 : Int32) (p0 &&& (2147483647 : Int32))))])
  refine Got.step (T' := T17) (g' := (mkF m 25 #[.val (.int p0), .val (.int p1), .val (.long q2), .second, .val (.int (f1 (1 : Int32) (p0 &&& (2147483647 : Int32)))), .val (.int ((((p1.toInt64) &&& (2147483647 : Int64)) % (((f1 (1 : Int32) (p0 &&& (2147483647 : Int32))).toInt64) + (1 : Int64))).toInt32)), .unset, .unset] [])) (fun tq kt => ?_) ?_
  · show Steps p.tables e below (T17.setTop (mkF m 8 #[.val (.int p0), .val (.int p1), .val (.long q2), .second, .unset, .unset, .unset, .unset] [(.int (f1 (1 : Int32) (p0 &&& (2147483647 : Int32))))])) _
    refine XS.istore X17.here hx rfl (hb hby at_8) rfl (l' := #[.val (.int p0), .val (.int p1), .val (.long q2), .second, .val (.int (f1 (1 : Int32) (p0 &&& (2147483647 : Int32)))), .unset, .unset, .unset]) rfl ?_
    show Steps p.tables e below (T17.setTop (mkF m 10 #[.val (.int p0), .val (.int p1), .val (.long q2), .second, .val (.int (f1 (1 : Int32) (p0 &&& (2147483647 : Int32)))), .unset, .unset, .unset] [])) _
    refine XS.iloadN X17.here hx rfl (hb hby at_10) rfl ?_
    show Steps p.tables e below (T17.setTop (mkF m 11 #[.val (.int p0), .val (.int p1), .val (.long q2), .second, .val (.int (f1 (1 : Int32) (p0 &&& (2147483647 : Int32)))), .unset, .unset, .unset] [(.int p1)])) _
    refine XS.i2l X17.here hx rfl (hb hby at_11) rfl ?_
    show Steps p.tables e below (T17.setTop (mkF m 12 #[.val (.int p0), .val (.int p1), .val (.long q2), .second, .val (.int (f1 (1 : Int32) (p0 &&& (2147483647 : Int32)))), .unset, .unset, .unset] [(.long (p1.toInt64))])) _
    refine X17.ldc2J hx hown (mvT hZ (hw _ (List.mem_of_getElem? (i := 5) rfl))) rfl (hb hby at_12) ?_
    show Steps p.tables e below (T17.setTop (mkF m 15 #[.val (.int p0), .val (.int p1), .val (.long q2), .second, .val (.int (f1 (1 : Int32) (p0 &&& (2147483647 : Int32)))), .unset, .unset, .unset] [(.long (2147483647 : Int64)), (.long (p1.toInt64))])) _
    refine XS.land X17.here hx rfl (hb hby at_15) rfl ?_
    show Steps p.tables e below (T17.setTop (mkF m 16 #[.val (.int p0), .val (.int p1), .val (.long q2), .second, .val (.int (f1 (1 : Int32) (p0 &&& (2147483647 : Int32)))), .unset, .unset, .unset] [(.long ((p1.toInt64) &&& (2147483647 : Int64)))])) _
    refine XS.iload X17.here hx rfl (hb hby at_16) rfl ?_
    show Steps p.tables e below (T17.setTop (mkF m 18 #[.val (.int p0), .val (.int p1), .val (.long q2), .second, .val (.int (f1 (1 : Int32) (p0 &&& (2147483647 : Int32)))), .unset, .unset, .unset] [(.int (f1 (1 : Int32) (p0 &&& (2147483647 : Int32)))), (.long ((p1.toInt64) &&& (2147483647 : Int64)))])) _
    refine XS.i2l X17.here hx rfl (hb hby at_18) rfl ?_
    show Steps p.tables e below (T17.setTop (mkF m 19 #[.val (.int p0), .val (.int p1), .val (.long q2), .second, .val (.int (f1 (1 : Int32) (p0 &&& (2147483647 : Int32)))), .unset, .unset, .unset] [(.long ((f1 (1 : Int32) (p0 &&& (2147483647 : Int32))).toInt64)), (.long ((p1.toInt64) &&& (2147483647 : Int64)))])) _
    refine XS.lconst X17.here hx rfl (hb hby at_19) ?_
    show Steps p.tables e below (T17.setTop (mkF m 20 #[.val (.int p0), .val (.int p1), .val (.long q2), .second, .val (.int (f1 (1 : Int32) (p0 &&& (2147483647 : Int32)))), .unset, .unset, .unset] [(.long (1 : Int64)), (.long ((f1 (1 : Int32) (p0 &&& (2147483647 : Int32))).toInt64)), (.long ((p1.toInt64) &&& (2147483647 : Int64)))])) _
    refine XS.ladd X17.here hx rfl (hb hby at_20) rfl ?_
    show Steps p.tables e below (T17.setTop (mkF m 21 #[.val (.int p0), .val (.int p1), .val (.long q2), .second, .val (.int (f1 (1 : Int32) (p0 &&& (2147483647 : Int32)))), .unset, .unset, .unset] [(.long (((f1 (1 : Int32) (p0 &&& (2147483647 : Int32))).toInt64) + (1 : Int64))), (.long ((p1.toInt64) &&& (2147483647 : Int64)))])) _
    refine remJ X17 hx rfl (hb hby at_21) rfl (own_nz p0) ?_
    show Steps p.tables e below (T17.setTop (mkF m 22 #[.val (.int p0), .val (.int p1), .val (.long q2), .second, .val (.int (f1 (1 : Int32) (p0 &&& (2147483647 : Int32)))), .unset, .unset, .unset] [(.long (((p1.toInt64) &&& (2147483647 : Int64)) % (((f1 (1 : Int32) (p0 &&& (2147483647 : Int32))).toInt64) + (1 : Int64))))])) _
    refine XS.l2i X17.here hx rfl (hb hby at_22) rfl ?_
    show Steps p.tables e below (T17.setTop (mkF m 23 #[.val (.int p0), .val (.int p1), .val (.long q2), .second, .val (.int (f1 (1 : Int32) (p0 &&& (2147483647 : Int32)))), .unset, .unset, .unset] [(.int ((((p1.toInt64) &&& (2147483647 : Int64)) % (((f1 (1 : Int32) (p0 &&& (2147483647 : Int32))).toInt64) + (1 : Int64))).toInt32))])) _
    refine XS.istore X17.here hx rfl (hb hby at_23) rfl (l' := #[.val (.int p0), .val (.int p1), .val (.long q2), .second, .val (.int (f1 (1 : Int32) (p0 &&& (2147483647 : Int32)))), .val (.int ((((p1.toInt64) &&& (2147483647 : Int64)) % (((f1 (1 : Int32) (p0 &&& (2147483647 : Int32))).toInt64) + (1 : Int64))).toInt32)), .unset, .unset]) rfl ?_
    exact kt
  obtain ⟨T18, h18, X18, e18, E18, A18, D18, -, st18⟩ := newO X17 hx hZ hown (hw _ (List.mem_of_getElem? (i := 6) rfl)) (hw _ (List.mem_of_getElem? (i := 7) rfl)) (hw _ (List.mem_of_getElem? (i := 8) rfl)) e17 (g := (mkF m 25 #[.val (.int p0), .val (.int p1), .val (.long q2), .second, .val (.int (f1 (1 : Int32) (p0 &&& (2147483647 : Int32)))), .val (.int ((((p1.toInt64) &&& (2147483647 : Int64)) % (((f1 (1 : Int32) (p0 &&& (2147483647 : Int32))).toInt64) + (1 : Int64))).toInt32)), .unset, .unset] [])) rfl (hb hby at_25) (by decide) (by decide)
  obtain ⟨b18, g18⟩ : ∃ z, z = h0.size := ⟨_, rfl⟩
  rw [← g18] at A18 D18 st18
  have gn_b18 : n0 ≤ b18 := by rw [g18]; exact Z0
  have Z0_19 : n0 ≤ h18.size := (Nat.le_trans Z0 E18.1)
  have F18_servers : Fld Z h18 b18 "com/example/exclusion_by_quorum/exclusionbyquorum/Quorum" "servers" "I" (.int (0 : Int32)) := D18 (Or.inr (hw _ (List.mem_of_getElem? (i := 21) rfl))) (ty := .int) (by decide)
  refine Got.step st18 ?_
  show Got p e below s _ _ _ _ T18 (mkF m 28 #[.val (.int p0), .val (.int p1), .val (.long q2), .second, .val (.int (f1 (1 : Int32) (p0 &&& (2147483647 : Int32)))), .val (.int ((((p1.toInt64) &&& (2147483647 : Int64)) % (((f1 (1 : Int32) (p0 &&& (2147483647 : Int32))).toInt64) + (1 : Int64))).toInt32)), .unset, .unset] [(.ref b18)])
  refine Got.step (T' := T18) (g' := (mkF m 31 #[.val (.int p0), .val (.int p1), .val (.long q2), .second, .val (.int (f1 (1 : Int32) (p0 &&& (2147483647 : Int32)))), .val (.int ((((p1.toInt64) &&& (2147483647 : Int64)) % (((f1 (1 : Int32) (p0 &&& (2147483647 : Int32))).toInt64) + (1 : Int64))).toInt32)), .unset, .unset] [(.int (f1 (1 : Int32) (p0 &&& (2147483647 : Int32)))), (.ref b18), (.ref b18)])) (fun tq kt => ?_) ?_
  · show Steps p.tables e below (T18.setTop (mkF m 28 #[.val (.int p0), .val (.int p1), .val (.long q2), .second, .val (.int (f1 (1 : Int32) (p0 &&& (2147483647 : Int32)))), .val (.int ((((p1.toInt64) &&& (2147483647 : Int64)) % (((f1 (1 : Int32) (p0 &&& (2147483647 : Int32))).toInt64) + (1 : Int64))).toInt32)), .unset, .unset] [(.ref b18)])) _
    refine XS.dup X18.here hx rfl (hb hby at_28) rfl rfl ?_
    show Steps p.tables e below (T18.setTop (mkF m 29 #[.val (.int p0), .val (.int p1), .val (.long q2), .second, .val (.int (f1 (1 : Int32) (p0 &&& (2147483647 : Int32)))), .val (.int ((((p1.toInt64) &&& (2147483647 : Int64)) % (((f1 (1 : Int32) (p0 &&& (2147483647 : Int32))).toInt64) + (1 : Int64))).toInt32)), .unset, .unset] [(.ref b18), (.ref b18)])) _
    refine XS.iload X18.here hx rfl (hb hby at_29) rfl ?_
    exact kt
  obtain ⟨_, _, ⟨T20, L20, k20, n20⟩, -, X20, ⟨Lc20, hQ20, l20, y20, z20⟩, st20⟩ := X18.specialBack hx (y := (⟨"com/example/exclusion_by_quorum/exclusionbyquorum/Quorum", "<init>", "(I)V"⟩ : MethodName)) rfl hown (mvT hZ (hw _ (List.mem_of_getElem? (i := 9) rfl))) (mvT hZ (hw _ (List.mem_of_getElem? (i := 10) rfl))) (mvT hZ (hw _ (List.mem_of_getElem? (i := 11) rfl))) (by decide) (backOf (W := 1) (rm2 l Z a0 hw [] b18 (f1 (1 : Int32) (p0 &&& (2147483647 : Int32))) h18 n0 Z0_19 gn_b18 A18 F18_servers (own_n1 p0)) hZ (hw _ (List.mem_of_getElem? (i := 11) rfl)) (hw _ (List.mem_of_getElem? (i := 8) rfl)) (by decide) (by decide)) (g := (mkF m 31 #[.val (.int p0), .val (.int p1), .val (.long q2), .second, .val (.int (f1 (1 : Int32) (p0 &&& (2147483647 : Int32)))), .val (.int ((((p1.toInt64) &&& (2147483647 : Int64)) % (((f1 (1 : Int32) (p0 &&& (2147483647 : Int32))).toInt64) + (1 : Int64))).toInt32)), .unset, .unset] [(.int (f1 (1 : Int32) (p0 &&& (2147483647 : Int32)))), (.ref b18), (.ref b18)])) rfl (by rw [hml]; rfl) (Steps.refl _) (a := b18) (argsL := [(.int (f1 (1 : Int32) (p0 &&& (2147483647 : Int32))))]) (rest := [(.ref b18)]) (lenOf pd_3 rfl) rfl (by show 2 * 0 + _ ≤ _; exact Nat.le_of_eq rfl) (hb hby at_31) (fun _ _ => ⟨rfl, e18, (by decide : 1 + 0 ≤ _), (by decide : 1 + 0 ≤ _)⟩)
  dsimp only [Pt.U, Pt.locs, Pt.cells, Pt.slots] at X20 l20 y20 z20 st20 hQ20
  subst l20 y20 z20
  obtain ⟨h20, e20⟩ : ∃ z, T20.heap = z := ⟨_, rfl⟩
  rw [e20] at hQ20
  obtain ⟨rfl, Nq20, K20, E20, G20_servers⟩ := hQ20
  have N20 := Fr.app N17 Nq20
  have Z0_21 : n0 ≤ h20.size := (Nat.le_trans Z0_19 K20.1)
  have A18_22 : Exa Z h20 b18 "com/example/exclusion_by_quorum/exclusionbyquorum/Quorum" := (A18.keep K20)
  refine Got.hop st20 ?_
  show Got p e below s _ _ _ _ T20 (mkF m 34 #[.val (.int p0), .val (.int p1), .val (.long q2), .second, .val (.int (f1 (1 : Int32) (p0 &&& (2147483647 : Int32)))), .val (.int ((((p1.toInt64) &&& (2147483647 : Int64)) % (((f1 (1 : Int32) (p0 &&& (2147483647 : Int32))).toInt64) + (1 : Int64))).toInt32)), .unset, .unset] [(.ref b18)])
  refine Got.step (T' := T20) (g' := (mkF m 47 #[.val (.int p0), .val (.int p1), .val (.long q2), .second, .val (.int (f1 (1 : Int32) (p0 &&& (2147483647 : Int32)))), .val (.int ((((p1.toInt64) &&& (2147483647 : Int64)) % (((f1 (1 : Int32) (p0 &&& (2147483647 : Int32))).toInt64) + (1 : Int64))).toInt32)), .val (.ref b18), .unset] [(.int (XT.cmpL ((2 : Int64) * (((((p1.toInt64) &&& (2147483647 : Int64)) % (((f1 (1 : Int32) (p0 &&& (2147483647 : Int32))).toInt64) + (1 : Int64))).toInt32).toInt64)) ((f1 (1 : Int32) (p0 &&& (2147483647 : Int32))).toInt64)))])) (fun tq kt => ?_) ?_
  · show Steps p.tables e below (T20.setTop (mkF m 34 #[.val (.int p0), .val (.int p1), .val (.long q2), .second, .val (.int (f1 (1 : Int32) (p0 &&& (2147483647 : Int32)))), .val (.int ((((p1.toInt64) &&& (2147483647 : Int64)) % (((f1 (1 : Int32) (p0 &&& (2147483647 : Int32))).toInt64) + (1 : Int64))).toInt32)), .unset, .unset] [(.ref b18)])) _
    refine XS.astore X20.here hx rfl (hb hby at_34) rfl rfl (l' := #[.val (.int p0), .val (.int p1), .val (.long q2), .second, .val (.int (f1 (1 : Int32) (p0 &&& (2147483647 : Int32)))), .val (.int ((((p1.toInt64) &&& (2147483647 : Int64)) % (((f1 (1 : Int32) (p0 &&& (2147483647 : Int32))).toInt64) + (1 : Int64))).toInt32)), .val (.ref b18), .unset]) rfl ?_
    show Steps p.tables e below (T20.setTop (mkF m 36 #[.val (.int p0), .val (.int p1), .val (.long q2), .second, .val (.int (f1 (1 : Int32) (p0 &&& (2147483647 : Int32)))), .val (.int ((((p1.toInt64) &&& (2147483647 : Int64)) % (((f1 (1 : Int32) (p0 &&& (2147483647 : Int32))).toInt64) + (1 : Int64))).toInt32)), .val (.ref b18), .unset] [])) _
    refine X20.ldc2J hx hown (mvT hZ (hw _ (List.mem_of_getElem? (i := 22) rfl))) rfl (hb hby at_36) ?_
    show Steps p.tables e below (T20.setTop (mkF m 39 #[.val (.int p0), .val (.int p1), .val (.long q2), .second, .val (.int (f1 (1 : Int32) (p0 &&& (2147483647 : Int32)))), .val (.int ((((p1.toInt64) &&& (2147483647 : Int64)) % (((f1 (1 : Int32) (p0 &&& (2147483647 : Int32))).toInt64) + (1 : Int64))).toInt32)), .val (.ref b18), .unset] [(.long (2 : Int64))])) _
    refine XS.iload X20.here hx rfl (hb hby at_39) rfl ?_
    show Steps p.tables e below (T20.setTop (mkF m 41 #[.val (.int p0), .val (.int p1), .val (.long q2), .second, .val (.int (f1 (1 : Int32) (p0 &&& (2147483647 : Int32)))), .val (.int ((((p1.toInt64) &&& (2147483647 : Int64)) % (((f1 (1 : Int32) (p0 &&& (2147483647 : Int32))).toInt64) + (1 : Int64))).toInt32)), .val (.ref b18), .unset] [(.int ((((p1.toInt64) &&& (2147483647 : Int64)) % (((f1 (1 : Int32) (p0 &&& (2147483647 : Int32))).toInt64) + (1 : Int64))).toInt32)), (.long (2 : Int64))])) _
    refine XS.i2l X20.here hx rfl (hb hby at_41) rfl ?_
    show Steps p.tables e below (T20.setTop (mkF m 42 #[.val (.int p0), .val (.int p1), .val (.long q2), .second, .val (.int (f1 (1 : Int32) (p0 &&& (2147483647 : Int32)))), .val (.int ((((p1.toInt64) &&& (2147483647 : Int64)) % (((f1 (1 : Int32) (p0 &&& (2147483647 : Int32))).toInt64) + (1 : Int64))).toInt32)), .val (.ref b18), .unset] [(.long (((((p1.toInt64) &&& (2147483647 : Int64)) % (((f1 (1 : Int32) (p0 &&& (2147483647 : Int32))).toInt64) + (1 : Int64))).toInt32).toInt64)), (.long (2 : Int64))])) _
    refine XS.lmul X20.here hx rfl (hb hby at_42) rfl ?_
    show Steps p.tables e below (T20.setTop (mkF m 43 #[.val (.int p0), .val (.int p1), .val (.long q2), .second, .val (.int (f1 (1 : Int32) (p0 &&& (2147483647 : Int32)))), .val (.int ((((p1.toInt64) &&& (2147483647 : Int64)) % (((f1 (1 : Int32) (p0 &&& (2147483647 : Int32))).toInt64) + (1 : Int64))).toInt32)), .val (.ref b18), .unset] [(.long ((2 : Int64) * (((((p1.toInt64) &&& (2147483647 : Int64)) % (((f1 (1 : Int32) (p0 &&& (2147483647 : Int32))).toInt64) + (1 : Int64))).toInt32).toInt64)))])) _
    refine XS.iload X20.here hx rfl (hb hby at_43) rfl ?_
    show Steps p.tables e below (T20.setTop (mkF m 45 #[.val (.int p0), .val (.int p1), .val (.long q2), .second, .val (.int (f1 (1 : Int32) (p0 &&& (2147483647 : Int32)))), .val (.int ((((p1.toInt64) &&& (2147483647 : Int64)) % (((f1 (1 : Int32) (p0 &&& (2147483647 : Int32))).toInt64) + (1 : Int64))).toInt32)), .val (.ref b18), .unset] [(.int (f1 (1 : Int32) (p0 &&& (2147483647 : Int32)))), (.long ((2 : Int64) * (((((p1.toInt64) &&& (2147483647 : Int64)) % (((f1 (1 : Int32) (p0 &&& (2147483647 : Int32))).toInt64) + (1 : Int64))).toInt32).toInt64)))])) _
    refine XS.i2l X20.here hx rfl (hb hby at_45) rfl ?_
    show Steps p.tables e below (T20.setTop (mkF m 46 #[.val (.int p0), .val (.int p1), .val (.long q2), .second, .val (.int (f1 (1 : Int32) (p0 &&& (2147483647 : Int32)))), .val (.int ((((p1.toInt64) &&& (2147483647 : Int64)) % (((f1 (1 : Int32) (p0 &&& (2147483647 : Int32))).toInt64) + (1 : Int64))).toInt32)), .val (.ref b18), .unset] [(.long ((f1 (1 : Int32) (p0 &&& (2147483647 : Int32))).toInt64)), (.long ((2 : Int64) * (((((p1.toInt64) &&& (2147483647 : Int64)) % (((f1 (1 : Int32) (p0 &&& (2147483647 : Int32))).toInt64) + (1 : Int64))).toInt32).toInt64)))])) _
    refine XT.lcmp X20.here hx rfl (hb hby at_46) rfl ?_
    exact kt
  have J23 : ∀ (k23_0 : Int32), k23_0 = (if ((f1 (1 : Int32) (p0 &&& (2147483647 : Int32))).toInt64) < ((2 : Int64) * (((((p1.toInt64) &&& (2147483647 : Int64)) % (((f1 (1 : Int32) (p0 &&& (2147483647 : Int32))).toInt64) + (1 : Int64))).toInt32).toInt64)) then (if (0 : Int64) < q2 then (1 : Int32) else (0 : Int32)) else (0 : Int32)) → Got p e below s (fun _ L => Fr n0 L) room_1.cells room_1.slots (some (.int (1 : Int32))) T20 (mkF m 61 #[.val (.int p0), .val (.int p1), .val (.long q2), .second, .val (.int (f1 (1 : Int32) (p0 &&& (2147483647 : Int32)))), .val (.int ((((p1.toInt64) &&& (2147483647 : Int64)) % (((f1 (1 : Int32) (p0 &&& (2147483647 : Int32))).toInt64) + (1 : Int64))).toInt32)), .val (.ref b18), .unset] [(.int k23_0)]) := by
    intro k23_0 hk23_0
    refine Got.step (T' := T20) (g' := (mkF m 68 #[.val (.int p0), .val (.int p1), .val (.long q2), .second, .val (.int (f1 (1 : Int32) (p0 &&& (2147483647 : Int32)))), .val (.int ((((p1.toInt64) &&& (2147483647 : Int64)) % (((f1 (1 : Int32) (p0 &&& (2147483647 : Int32))).toInt64) + (1 : Int64))).toInt32)), .val (.ref b18), .val (.int k23_0)] [(.long q2), (.int ((((p1.toInt64) &&& (2147483647 : Int64)) % (((f1 (1 : Int32) (p0 &&& (2147483647 : Int32))).toInt64) + (1 : Int64))).toInt32)), (.ref b18)])) (fun tq kt => ?_) ?_
    · show Steps p.tables e below (T20.setTop (mkF m 61 #[.val (.int p0), .val (.int p1), .val (.long q2), .second, .val (.int (f1 (1 : Int32) (p0 &&& (2147483647 : Int32)))), .val (.int ((((p1.toInt64) &&& (2147483647 : Int64)) % (((f1 (1 : Int32) (p0 &&& (2147483647 : Int32))).toInt64) + (1 : Int64))).toInt32)), .val (.ref b18), .unset] [(.int k23_0)])) _
      refine XS.istore X20.here hx rfl (hb hby at_61) rfl (l' := #[.val (.int p0), .val (.int p1), .val (.long q2), .second, .val (.int (f1 (1 : Int32) (p0 &&& (2147483647 : Int32)))), .val (.int ((((p1.toInt64) &&& (2147483647 : Int64)) % (((f1 (1 : Int32) (p0 &&& (2147483647 : Int32))).toInt64) + (1 : Int64))).toInt32)), .val (.ref b18), .val (.int k23_0)]) rfl ?_
      show Steps p.tables e below (T20.setTop (mkF m 63 #[.val (.int p0), .val (.int p1), .val (.long q2), .second, .val (.int (f1 (1 : Int32) (p0 &&& (2147483647 : Int32)))), .val (.int ((((p1.toInt64) &&& (2147483647 : Int64)) % (((f1 (1 : Int32) (p0 &&& (2147483647 : Int32))).toInt64) + (1 : Int64))).toInt32)), .val (.ref b18), .val (.int k23_0)] [])) _
      refine XS.aload X20.here hx rfl (hb hby at_63) rfl rfl ?_
      show Steps p.tables e below (T20.setTop (mkF m 65 #[.val (.int p0), .val (.int p1), .val (.long q2), .second, .val (.int (f1 (1 : Int32) (p0 &&& (2147483647 : Int32)))), .val (.int ((((p1.toInt64) &&& (2147483647 : Int64)) % (((f1 (1 : Int32) (p0 &&& (2147483647 : Int32))).toInt64) + (1 : Int64))).toInt32)), .val (.ref b18), .val (.int k23_0)] [(.ref b18)])) _
      refine XS.iload X20.here hx rfl (hb hby at_65) rfl ?_
      show Steps p.tables e below (T20.setTop (mkF m 67 #[.val (.int p0), .val (.int p1), .val (.long q2), .second, .val (.int (f1 (1 : Int32) (p0 &&& (2147483647 : Int32)))), .val (.int ((((p1.toInt64) &&& (2147483647 : Int64)) % (((f1 (1 : Int32) (p0 &&& (2147483647 : Int32))).toInt64) + (1 : Int64))).toInt32)), .val (.ref b18), .val (.int k23_0)] [(.int ((((p1.toInt64) &&& (2147483647 : Int64)) % (((f1 (1 : Int32) (p0 &&& (2147483647 : Int32))).toInt64) + (1 : Int64))).toInt32)), (.ref b18)])) _
      refine XS.lloadN X20.here hx rfl (hb hby at_67) rfl ?_
      exact kt
    obtain ⟨cq26, kq26, qa26, qb26, qc26⟩ := isOf hZ e20 A18_22
    obtain ⟨_, _, ⟨T26, L26, k26, n26⟩, -, X26, ⟨Lc26, hQ26, l26, y26, z26⟩, st26⟩ := X20.virtualBack hx (y := (⟨"com/example/exclusion_by_quorum/exclusionbyquorum/Quorum", "grants", "(IJ)Z"⟩ : MethodName)) (z := (⟨"com/example/exclusion_by_quorum/exclusionbyquorum/Quorum", "grants", "(IJ)Z"⟩ : MethodName)) hown (mvT hZ (hw _ (List.mem_of_getElem? (i := 23) rfl))) (mvT hZ (hw _ (List.mem_of_getElem? (i := 24) rfl))) (notFace_of_selects (args := #[]) (mvT hZ (hw _ (List.mem_of_getElem? (i := 26) rfl)))) (mvT hZ (hw _ (List.mem_of_getElem? (i := 26) rfl))) (mvT hZ (hw _ (List.mem_of_getElem? (i := 25) rfl))) (by decide) (backOf (W := 0) (rm5 l Z a0 hw [] b18 ((((p1.toInt64) &&& (2147483647 : Int64)) % (((f1 (1 : Int32) (p0 &&& (2147483647 : Int32))).toInt64) + (1 : Int64))).toInt32) q2 (f1 (1 : Int32) (p0 &&& (2147483647 : Int32))) h20 n0 Z0_21 A18_22 G20_servers (own_v0 p0 p1) (own_v1 p0 p1)) hZ (hw _ (List.mem_of_getElem? (i := 27) rfl)) (hw _ (List.mem_of_getElem? (i := 8) rfl)) (by decide) (by decide)) qa26 qc26 (g := (mkF m 68 #[.val (.int p0), .val (.int p1), .val (.long q2), .second, .val (.int (f1 (1 : Int32) (p0 &&& (2147483647 : Int32)))), .val (.int ((((p1.toInt64) &&& (2147483647 : Int64)) % (((f1 (1 : Int32) (p0 &&& (2147483647 : Int32))).toInt64) + (1 : Int64))).toInt32)), .val (.ref b18), .val (.int k23_0)] [(.long q2), (.int ((((p1.toInt64) &&& (2147483647 : Int64)) % (((f1 (1 : Int32) (p0 &&& (2147483647 : Int32))).toInt64) + (1 : Int64))).toInt32)), (.ref b18)])) rfl (by rw [hml]; rfl) (Steps.refl _) (argsL := [(.int ((((p1.toInt64) &&& (2147483647 : Int64)) % (((f1 (1 : Int32) (p0 &&& (2147483647 : Int32))).toInt64) + (1 : Int64))).toInt32)), (.long q2)]) (rest := []) (lenOf pd_4 rfl) rfl (by show 2 * 0 + _ ≤ _; exact Nat.le_of_eq rfl) (hb hby at_68) (fun _ _ => ⟨rfl, e20, (by decide : 1 + 0 ≤ _), (by decide : 1 + 0 ≤ _)⟩)
    dsimp only [Pt.U, Pt.locs, Pt.cells, Pt.slots] at X26 l26 y26 z26 st26 hQ26
    subst l26 y26 z26
    obtain ⟨rfl, Nq26, e26⟩ := hQ26
    have N26 := Fr.app N20 Nq26
    refine Got.hop st26 ?_
    show Got p e below s _ _ _ _ T26 (mkF m 71 #[.val (.int p0), .val (.int p1), .val (.long q2), .second, .val (.int (f1 (1 : Int32) (p0 &&& (2147483647 : Int32)))), .val (.int ((((p1.toInt64) &&& (2147483647 : Int64)) % (((f1 (1 : Int32) (p0 &&& (2147483647 : Int32))).toInt64) + (1 : Int64))).toInt32)), .val (.ref b18), .val (.int k23_0)] [(.int (f5 ((((p1.toInt64) &&& (2147483647 : Int64)) % (((f1 (1 : Int32) (p0 &&& (2147483647 : Int32))).toInt64) + (1 : Int64))).toInt32) q2 (f1 (1 : Int32) (p0 &&& (2147483647 : Int32)))))])
    refine Got.step (T' := T26) (g' := (mkF m 81 #[.val (.int p0), .val (.int p1), .val (.long q2), .second, .val (.int (f1 (1 : Int32) (p0 &&& (2147483647 : Int32)))), .val (.int ((((p1.toInt64) &&& (2147483647 : Int64)) % (((f1 (1 : Int32) (p0 &&& (2147483647 : Int32))).toInt64) + (1 : Int64))).toInt32)), .val (.ref b18), .val (.int k23_0)] [(.int (1 : Int32))])) (fun tq kt => ?_) ?_
    · show Steps p.tables e below (T26.setTop (mkF m 71 #[.val (.int p0), .val (.int p1), .val (.long q2), .second, .val (.int (f1 (1 : Int32) (p0 &&& (2147483647 : Int32)))), .val (.int ((((p1.toInt64) &&& (2147483647 : Int64)) % (((f1 (1 : Int32) (p0 &&& (2147483647 : Int32))).toInt64) + (1 : Int64))).toInt32)), .val (.ref b18), .val (.int k23_0)] [(.int (f5 ((((p1.toInt64) &&& (2147483647 : Int64)) % (((f1 (1 : Int32) (p0 &&& (2147483647 : Int32))).toInt64) + (1 : Int64))).toInt32) q2 (f1 (1 : Int32) (p0 &&& (2147483647 : Int32)))))])) _
      refine XS.iload X26.here hx rfl (hb hby at_71) rfl ?_
      show Steps p.tables e below (T26.setTop (mkF m 73 #[.val (.int p0), .val (.int p1), .val (.long q2), .second, .val (.int (f1 (1 : Int32) (p0 &&& (2147483647 : Int32)))), .val (.int ((((p1.toInt64) &&& (2147483647 : Int64)) % (((f1 (1 : Int32) (p0 &&& (2147483647 : Int32))).toInt64) + (1 : Int64))).toInt32)), .val (.ref b18), .val (.int k23_0)] [(.int k23_0), (.int (f5 ((((p1.toInt64) &&& (2147483647 : Int64)) % (((f1 (1 : Int32) (p0 &&& (2147483647 : Int32))).toInt64) + (1 : Int64))).toInt32) q2 (f1 (1 : Int32) (p0 &&& (2147483647 : Int32)))))])) _
      refine XS.icmpNo X26.here hx rfl (hb hby at_73) rfl (XT.ii_ne_f (own_fin p0 p1 q2 hk23_0)) ?_
      show Steps p.tables e below (T26.setTop (mkF m 76 #[.val (.int p0), .val (.int p1), .val (.long q2), .second, .val (.int (f1 (1 : Int32) (p0 &&& (2147483647 : Int32)))), .val (.int ((((p1.toInt64) &&& (2147483647 : Int64)) % (((f1 (1 : Int32) (p0 &&& (2147483647 : Int32))).toInt64) + (1 : Int64))).toInt32)), .val (.ref b18), .val (.int k23_0)] [])) _
      refine XS.iconst X26.here hx rfl (hb hby at_76) ?_
      show Steps p.tables e below (T26.setTop (mkF m 77 #[.val (.int p0), .val (.int p1), .val (.long q2), .second, .val (.int (f1 (1 : Int32) (p0 &&& (2147483647 : Int32)))), .val (.int ((((p1.toInt64) &&& (2147483647 : Int64)) % (((f1 (1 : Int32) (p0 &&& (2147483647 : Int32))).toInt64) + (1 : Int64))).toInt32)), .val (.ref b18), .val (.int k23_0)] [(.int (1 : Int32))])) _
      refine XS.goto X26.here hx rfl (pc0 := 77) (pc' := 81) rfl (hb hby at_77) (by decide) (by decide) ?_
      exact kt
    exact Got.retN (y := (1 : Int32)) (t := .boolean) X26 hx Bd.returns (by simp) hlk (hb hby at_81) (by decide) N26 (by decide) (by decide)
  by_cases hc24 : (((f1 (1 : Int32) (p0 &&& (2147483647 : Int32))).toInt64) < ((2 : Int64) * (((((p1.toInt64) &&& (2147483647 : Int64)) % (((f1 (1 : Int32) (p0 &&& (2147483647 : Int32))).toInt64) + (1 : Int64))).toInt32).toInt64)))
  · refine Got.step (T' := T20) (g' := (mkF m 53 #[.val (.int p0), .val (.int p1), .val (.long q2), .second, .val (.int (f1 (1 : Int32) (p0 &&& (2147483647 : Int32)))), .val (.int ((((p1.toInt64) &&& (2147483647 : Int64)) % (((f1 (1 : Int32) (p0 &&& (2147483647 : Int32))).toInt64) + (1 : Int64))).toInt32)), .val (.ref b18), .unset] [(.int (XT.cmpL q2 (0 : Int64)))])) (fun tq kt => ?_) ?_
    · show Steps p.tables e below (T20.setTop (mkF m 47 #[.val (.int p0), .val (.int p1), .val (.long q2), .second, .val (.int (f1 (1 : Int32) (p0 &&& (2147483647 : Int32)))), .val (.int ((((p1.toInt64) &&& (2147483647 : Int64)) % (((f1 (1 : Int32) (p0 &&& (2147483647 : Int32))).toInt64) + (1 : Int64))).toInt32)), .val (.ref b18), .unset] [(.int (XT.cmpL ((2 : Int64) * (((((p1.toInt64) &&& (2147483647 : Int64)) % (((f1 (1 : Int32) (p0 &&& (2147483647 : Int32))).toInt64) + (1 : Int64))).toInt32).toInt64)) ((f1 (1 : Int32) (p0 &&& (2147483647 : Int32))).toInt64)))])) _
      refine XS.ifNo X20.here hx rfl (hb hby at_47) rfl (XT.ll_le_f hc24) ?_
      show Steps p.tables e below (T20.setTop (mkF m 50 #[.val (.int p0), .val (.int p1), .val (.long q2), .second, .val (.int (f1 (1 : Int32) (p0 &&& (2147483647 : Int32)))), .val (.int ((((p1.toInt64) &&& (2147483647 : Int64)) % (((f1 (1 : Int32) (p0 &&& (2147483647 : Int32))).toInt64) + (1 : Int64))).toInt32)), .val (.ref b18), .unset] [])) _
      refine XS.lloadN X20.here hx rfl (hb hby at_50) rfl ?_
      show Steps p.tables e below (T20.setTop (mkF m 51 #[.val (.int p0), .val (.int p1), .val (.long q2), .second, .val (.int (f1 (1 : Int32) (p0 &&& (2147483647 : Int32)))), .val (.int ((((p1.toInt64) &&& (2147483647 : Int64)) % (((f1 (1 : Int32) (p0 &&& (2147483647 : Int32))).toInt64) + (1 : Int64))).toInt32)), .val (.ref b18), .unset] [(.long q2)])) _
      refine XS.lconst X20.here hx rfl (hb hby at_51) ?_
      show Steps p.tables e below (T20.setTop (mkF m 52 #[.val (.int p0), .val (.int p1), .val (.long q2), .second, .val (.int (f1 (1 : Int32) (p0 &&& (2147483647 : Int32)))), .val (.int ((((p1.toInt64) &&& (2147483647 : Int64)) % (((f1 (1 : Int32) (p0 &&& (2147483647 : Int32))).toInt64) + (1 : Int64))).toInt32)), .val (.ref b18), .unset] [(.long (0 : Int64)), (.long q2)])) _
      refine XT.lcmp X20.here hx rfl (hb hby at_52) rfl ?_
      exact kt
    by_cases hc25 : ((0 : Int64) < q2)
    · refine Got.step (T' := T20) (g' := (mkF m 61 #[.val (.int p0), .val (.int p1), .val (.long q2), .second, .val (.int (f1 (1 : Int32) (p0 &&& (2147483647 : Int32)))), .val (.int ((((p1.toInt64) &&& (2147483647 : Int64)) % (((f1 (1 : Int32) (p0 &&& (2147483647 : Int32))).toInt64) + (1 : Int64))).toInt32)), .val (.ref b18), .unset] [(.int (1 : Int32))])) (fun tq kt => ?_) ?_
      · show Steps p.tables e below (T20.setTop (mkF m 53 #[.val (.int p0), .val (.int p1), .val (.long q2), .second, .val (.int (f1 (1 : Int32) (p0 &&& (2147483647 : Int32)))), .val (.int ((((p1.toInt64) &&& (2147483647 : Int64)) % (((f1 (1 : Int32) (p0 &&& (2147483647 : Int32))).toInt64) + (1 : Int64))).toInt32)), .val (.ref b18), .unset] [(.int (XT.cmpL q2 (0 : Int64)))])) _
        refine XS.ifNo X20.here hx rfl (hb hby at_53) rfl (XT.ll_le_f hc25) ?_
        show Steps p.tables e below (T20.setTop (mkF m 56 #[.val (.int p0), .val (.int p1), .val (.long q2), .second, .val (.int (f1 (1 : Int32) (p0 &&& (2147483647 : Int32)))), .val (.int ((((p1.toInt64) &&& (2147483647 : Int64)) % (((f1 (1 : Int32) (p0 &&& (2147483647 : Int32))).toInt64) + (1 : Int64))).toInt32)), .val (.ref b18), .unset] [])) _
        refine XS.iconst X20.here hx rfl (hb hby at_56) ?_
        show Steps p.tables e below (T20.setTop (mkF m 57 #[.val (.int p0), .val (.int p1), .val (.long q2), .second, .val (.int (f1 (1 : Int32) (p0 &&& (2147483647 : Int32)))), .val (.int ((((p1.toInt64) &&& (2147483647 : Int64)) % (((f1 (1 : Int32) (p0 &&& (2147483647 : Int32))).toInt64) + (1 : Int64))).toInt32)), .val (.ref b18), .unset] [(.int (1 : Int32))])) _
        refine XS.goto X20.here hx rfl (pc0 := 57) (pc' := 61) rfl (hb hby at_57) (by decide) (by decide) ?_
        exact kt
      exact J23 (1 : Int32) ((if_pos hc24).trans (if_pos hc25)).symm
    · refine Got.step (T' := T20) (g' := (mkF m 61 #[.val (.int p0), .val (.int p1), .val (.long q2), .second, .val (.int (f1 (1 : Int32) (p0 &&& (2147483647 : Int32)))), .val (.int ((((p1.toInt64) &&& (2147483647 : Int64)) % (((f1 (1 : Int32) (p0 &&& (2147483647 : Int32))).toInt64) + (1 : Int64))).toInt32)), .val (.ref b18), .unset] [(.int (0 : Int32))])) (fun tq kt => ?_) ?_
      · show Steps p.tables e below (T20.setTop (mkF m 53 #[.val (.int p0), .val (.int p1), .val (.long q2), .second, .val (.int (f1 (1 : Int32) (p0 &&& (2147483647 : Int32)))), .val (.int ((((p1.toInt64) &&& (2147483647 : Int64)) % (((f1 (1 : Int32) (p0 &&& (2147483647 : Int32))).toInt64) + (1 : Int64))).toInt32)), .val (.ref b18), .unset] [(.int (XT.cmpL q2 (0 : Int64)))])) _
        refine XS.ifYes X20.here hx rfl (pc0 := 53) (pc' := 60) rfl (hb hby at_53) rfl (XT.ll_le_t hc25) (by decide) (by decide) ?_
        show Steps p.tables e below (T20.setTop (mkF m 60 #[.val (.int p0), .val (.int p1), .val (.long q2), .second, .val (.int (f1 (1 : Int32) (p0 &&& (2147483647 : Int32)))), .val (.int ((((p1.toInt64) &&& (2147483647 : Int64)) % (((f1 (1 : Int32) (p0 &&& (2147483647 : Int32))).toInt64) + (1 : Int64))).toInt32)), .val (.ref b18), .unset] [])) _
        refine XS.iconst X20.here hx rfl (hb hby at_60) ?_
        exact kt
      exact J23 (0 : Int32) ((if_pos hc24).trans (if_neg hc25)).symm
  · refine Got.step (T' := T20) (g' := (mkF m 61 #[.val (.int p0), .val (.int p1), .val (.long q2), .second, .val (.int (f1 (1 : Int32) (p0 &&& (2147483647 : Int32)))), .val (.int ((((p1.toInt64) &&& (2147483647 : Int64)) % (((f1 (1 : Int32) (p0 &&& (2147483647 : Int32))).toInt64) + (1 : Int64))).toInt32)), .val (.ref b18), .unset] [(.int (0 : Int32))])) (fun tq kt => ?_) ?_
    · show Steps p.tables e below (T20.setTop (mkF m 47 #[.val (.int p0), .val (.int p1), .val (.long q2), .second, .val (.int (f1 (1 : Int32) (p0 &&& (2147483647 : Int32)))), .val (.int ((((p1.toInt64) &&& (2147483647 : Int64)) % (((f1 (1 : Int32) (p0 &&& (2147483647 : Int32))).toInt64) + (1 : Int64))).toInt32)), .val (.ref b18), .unset] [(.int (XT.cmpL ((2 : Int64) * (((((p1.toInt64) &&& (2147483647 : Int64)) % (((f1 (1 : Int32) (p0 &&& (2147483647 : Int32))).toInt64) + (1 : Int64))).toInt32).toInt64)) ((f1 (1 : Int32) (p0 &&& (2147483647 : Int32))).toInt64)))])) _
      refine XS.ifYes X20.here hx rfl (pc0 := 47) (pc' := 60) rfl (hb hby at_47) rfl (XT.ll_le_t hc24) (by decide) (by decide) ?_
      show Steps p.tables e below (T20.setTop (mkF m 60 #[.val (.int p0), .val (.int p1), .val (.long q2), .second, .val (.int (f1 (1 : Int32) (p0 &&& (2147483647 : Int32)))), .val (.int ((((p1.toInt64) &&& (2147483647 : Int64)) % (((f1 (1 : Int32) (p0 &&& (2147483647 : Int32))).toInt64) + (1 : Int64))).toInt32)), .val (.ref b18), .unset] [])) _
      refine XS.iconst X20.here hx rfl (hb hby at_60) ?_
      exact kt
    exact J23 (0 : Int32) (if_neg hc24).symm
set_option maxRecDepth 65536 in
set_option maxHeartbeats 40000000 in
theorem comes_1 {Post : Tables → Env → Array Value → State → Outcome → State → Prop} (hpost : ∀ tb e args s v u, (limb_1_1.after args s (.returned v) u = true ∧ limb_1_2.after args s (.returned v) u = true ∧ True) → FrameEnd s (.returned v) u (Jvm.fieldLocs frame_1_writes args s ++ Jvm.arrayLocs frame_1_arrays args s ++ Jvm.staticLocs frame_1_statics s) 16 128 → Post tb e args s (.returned v) u) :
    ArmFor flags0 classFile x code maxLocals ret World_1 tables_1 room_1 Calls_1 rest_1 Pre_1 Post := by
  intro l hfl _ _ p e ha hc hk s m args below hf hA hF happ hP
  obtain ⟨hcalls, hrest, hpre⟩ := hP
  obtain ⟨-, -, -, hnamed, -, -, -, hat⟩ := (Spec.applies_iff hf).mp happ
  obtain ⟨hg, hn⟩ := and_e (Cond.before_iff.mp (show (Jvm.Cond.and given_1 narrow_1).before args s = true from hpre))
  obtain ⟨h1, g0⟩ := and_e hg
  obtain ⟨c0, g1⟩ := and_e g0
  obtain ⟨c1, g2⟩ := and_e g1
  obtain ⟨w0, w1, w2, rfl⟩ : ∃ w0 w1 w2 : Value, args = #[w0, w1, w2] := by
    have hs : args.size = 3 := by simpa [Cond.value, given_1] using h1
    obtain ⟨L⟩ := args
    match L, hs with
    | [w0, w1, w2], _ => exact ⟨w0, w1, w2, rfl⟩
  have hw := fun d (hd : d ∈ tables_1) => atoms_spec (ws := Jvm.Cond.code x code maxLocals ret :: tables_1) hat d (List.mem_cons_of_mem _ hd)
  obtain ⟨i0, e0⟩ := is_v c0
  obtain rfl : w0 = (.int i0) := Option.some.inj e0
  obtain ⟨i1, e1⟩ := is_v c1
  obtain rfl : w1 = (.int i1) := Option.some.inj e1
  obtain ⟨i2, e2⟩ := isL_v g2
  obtain rfl : w2 = (.long i2) := Option.some.inj e2
  obtain ⟨n, o, h1, h2, h3, vq, L, rfl, ⟨hv, N⟩, hq⟩ := rm0 l s _ hw tables_1 i0 i1 i2  s.heap s.heap.size (Nat.le_refl _) p e ha hc hk s m _ below hf ((Spec.applies_iff_loose hf).mp happ).1 ⟨rfl, State.Warmed39.refl s, rfl⟩ trivial
  subst hv
  refine ⟨n, _, h1, h2, h3, hpost _ _ _ _ _ _ ⟨Cond.after_iff.mpr rfl, Cond.after_iff.mpr (eq_i res_at (Term.int_eval (1)) rfl), trivial⟩ ⟨hq.1, hq.2.1, (hq.2.2.sift fun y hy => Or.inr (N y hy)).mono (by decide) (by decide)⟩⟩
theorem main_1_1 : Claimed_1_1 := comes_1 fun _ _ _ _ _ _ h hF => ⟨h.1, hF⟩
theorem main_1_2 : Claimed_1_2 := comes_1 fun _ _ _ _ _ _ h hF => ⟨h.2.1, hF⟩
end Jvm.Pilot.@@N@@
namespace Jvm.Pilot.@@N@@
open Jvm Jvm.ClassFile Sem Op Lib Jvm.Free Jvm.Stand Jvm.Pilot.@@N@@.Jvm.D
/-! MADE BY PROGRAM (witnessworld.py) out of the Statement's table words and the real class files: 11 classes; the members and pool entries that the words name. The judged class is class 1, her method 1. -/
namespace start1
open Jvm.ClassFile
def u (s : String) : CpInfo := .utf8 (stringToUtf16 s)
/-- a pool by its gaps: so many unusable entries, then the entry; so many at the end -/
def gap : Nat → List CpInfo → List CpInfo
  | 0, r => r
  | n + 1, r => .unusable :: gap n r
def poolList (es : List (Nat × CpInfo)) (last : Nat) : List CpInfo := es.foldr (fun e r => gap e.1 (e.2 :: r)) (gap last [])
def pool (es : List (Nat × CpInfo)) (last : Nat) : Array CpInfo := ⟨poolList es last⟩
def fileOf (pool : Array CpInfo) (this : Nat) (attrs : Array Attribute := #[]) (ms : Array MethodInfo := #[]) (fl : Nat := 33) (sup : Nat := 0) (ifs : Array Nat := #[]) (fds : Array FieldInfo := #[]) : ClassFile where
  minorVersion := 0
  majorVersion := 65
  constantPool := pool
  accessFlags := fl
  thisClass := this
  superClass := sup
  interfaces := ifs
  fields := fds
  methods := ms
  attributes := attrs
def plain (name : String) (sup : Option ClassId) : Class where
  name := name
  kind := .ordinary
  loader := none
  accessFlags := 33
  super := sup
  interfaces := #[]
  cf := none
  fields := #[]
  methods := #[]
  instanceTypes := #[]
  staticTypes := #[]
  resolved := #[]
  callSites := []
  init := .initialized
  statics := none
  mirror := none

def pool0 : Array CpInfo := pool [(5, u "<init>"), (0, u "()V"), (1, .class_ 10), (1, u "java/lang/Object")] 113

def k0c0 : Code := { maxStack := 0, maxLocals := 1, code := object_method_1_code, exceptionTable := #[], attributes := #[] }
def k0m0 : Method := { name := "<init>", desc := "()V", sig := { parameters := [], returnType := none }, accessFlags := 1, code := some k0c0 }
/-- java/lang/Object -/
def k0 : Class := { plain "java/lang/Object" none with
  accessFlags := 33
  interfaces := #[]
  cf := some (fileOf pool0 8 #[] #[{ accessFlags := 1, nameIndex := 5, descriptorIndex := 6, attributes := #[] }] 33 0 #[] #[])
  fields := #[]
  methods := #[k0m0]
  instanceTypes := #[]
  staticTypes := #[]
  resolved := Array.replicate 124 none
  statics := none }

def pool1 : Array CpInfo := pool [(2, .class_ 4), (1, u "java/lang/Object"), (0, u "<init>"), (0, u "()V"), (0, .integer 2147483647), (0, .methodref 9 10), (0, .class_ 11), (0, .nameAndType 12 13), (0, u "java/lang/Math"), (0, u "max"), (0, u "(II)I"), (0, .long 2147483647), (1, .class_ 17), (0, u "com/example/exclusion_by_quorum/exclusionbyquorum/Quorum"), (0, .methodref 16 19), (0, .nameAndType 5 20), (0, u "(I)V"), (0, .long 2), (1, .methodref 16 24), (0, .nameAndType 25 26), (0, u "grants"), (0, u "(IJ)Z"), (0, .class_ 28), (0, u "com/example/exclusion_by_quorum/exclusionbyquorum/QuorumGrantsPinLaw"), (2, u "law"), (0, u "(IIJ)Z")] 3

def k1m0 : Method := { name := "<init>", desc := "()V", sig := { parameters := [], returnType := none }, accessFlags := 1, code := none }
def k1c1 : Code := { maxStack := 6, maxLocals := 8, code := code, exceptionTable := #[], attributes := #[] }
def k1m1 : Method := { name := "law", desc := "(IIJ)Z", sig := { parameters := [.int, .int, .long], returnType := some .boolean }, accessFlags := 9, code := some k1c1 }
/-- com/example/exclusion_by_quorum/exclusionbyquorum/QuorumGrantsPinLaw -/
def k1 : Class := { plain "com/example/exclusion_by_quorum/exclusionbyquorum/QuorumGrantsPinLaw" (some 0) with
  accessFlags := 49
  interfaces := #[]
  cf := some (fileOf pool1 27 #[] #[{ accessFlags := 1, nameIndex := 5, descriptorIndex := 6, attributes := #[] }, { accessFlags := 9, nameIndex := 31, descriptorIndex := 32, attributes := #[] }] 49 2 #[] #[])
  fields := #[]
  methods := #[k1m0, k1m1]
  instanceTypes := #[]
  staticTypes := #[]
  resolved := Array.replicate 36 none
  statics := none }

def pool2 : Array CpInfo := pool [(1, .class_ 2), (0, u "java/lang/Math"), (1, .class_ 6), (1, u "java/lang/Object"), (0, u "<init>"), (0, u "()V"), (89, .class_ 100), (1, u "java/lang/Math$RandomNumberGeneratorHolder"), (71, u "negativeZeroFloatBits"), (0, u "J"), (2, u "negativeZeroDoubleBits"), (21, u "max"), (46, u "$assertionsDisabled"), (0, u "Z"), (88, u "(II)I"), (2, u "twoToTheDoubleScaleDown"), (0, u "D"), (4, u "twoToTheDoubleScaleUp"), (9, u "E"), (3, u "PI"), (2, u "TAU"), (2, u "DEGREES_TO_RADIANS"), (0, u "RADIANS_TO_DEGREES")] 94

def k2m0 : Method := { name := "<init>", desc := "()V", sig := { parameters := [], returnType := none }, accessFlags := 2, code := none }
def k2c1 : Code := { maxStack := 2, maxLocals := 2, code := jdk_29_method_65_code, exceptionTable := #[], attributes := #[] }
def k2m1 : Method := { name := "max", desc := "(II)I", sig := { parameters := [.int, .int], returnType := some .int }, accessFlags := 9, code := some k2c1 }
/-- java/lang/Math -/
def k2 : Class := { plain "java/lang/Math" (some 0) with
  accessFlags := 49
  interfaces := #[]
  cf := some (fileOf pool2 1 #[.nestMembers #[98]] #[{ accessFlags := 2, nameIndex := 7, descriptorIndex := 8, attributes := #[] }, { accessFlags := 9, nameIndex := 198, descriptorIndex := 335, attributes := #[] }] 49 4 #[] #[{ accessFlags := 25, nameIndex := 354, descriptorIndex := 339, attributes := #[] }, { accessFlags := 25, nameIndex := 358, descriptorIndex := 339, attributes := #[] }, { accessFlags := 25, nameIndex := 361, descriptorIndex := 339, attributes := #[] }, { accessFlags := 26, nameIndex := 364, descriptorIndex := 339, attributes := #[] }, { accessFlags := 26, nameIndex := 365, descriptorIndex := 339, attributes := #[] }, { accessFlags := 26, nameIndex := 172, descriptorIndex := 173, attributes := #[] }, { accessFlags := 26, nameIndex := 176, descriptorIndex := 173, attributes := #[] }, { accessFlags := 8, nameIndex := 344, descriptorIndex := 339, attributes := #[] }, { accessFlags := 8, nameIndex := 338, descriptorIndex := 339, attributes := #[] }, { accessFlags := 4120, nameIndex := 245, descriptorIndex := 246, attributes := #[] }])
  fields := #[{ name := "E", type := .double, accessFlags := 25, slot := 0, constantValue := 0 }, { name := "PI", type := .double, accessFlags := 25, slot := 1, constantValue := 0 }, { name := "TAU", type := .double, accessFlags := 25, slot := 2, constantValue := 0 }, { name := "DEGREES_TO_RADIANS", type := .double, accessFlags := 26, slot := 3, constantValue := 0 }, { name := "RADIANS_TO_DEGREES", type := .double, accessFlags := 26, slot := 4, constantValue := 0 }, { name := "negativeZeroFloatBits", type := .long, accessFlags := 26, slot := 5, constantValue := 0 }, { name := "negativeZeroDoubleBits", type := .long, accessFlags := 26, slot := 6, constantValue := 0 }, { name := "twoToTheDoubleScaleUp", type := .double, accessFlags := 8, slot := 7, constantValue := 0 }, { name := "twoToTheDoubleScaleDown", type := .double, accessFlags := 8, slot := 8, constantValue := 0 }, { name := "$assertionsDisabled", type := .boolean, accessFlags := 4120, slot := 9, constantValue := 0 }]
  methods := #[k2m0, k2m1]
  instanceTypes := #[]
  staticTypes := #[.double, .double, .double, .double, .double, .long, .long, .double, .double, .boolean]
  resolved := Array.replicate 460 none
  statics := none }

def pool3 : Array CpInfo := pool [(1, .methodref 2 3), (0, .class_ 4), (0, .nameAndType 5 6), (0, u "java/lang/Object"), (0, u "<init>"), (0, u "()V"), (0, .class_ 8), (0, u "java/lang/Record")] 13

def k3c0 : Code := { maxStack := 1, maxLocals := 1, code := jdk_30_method_1_code, exceptionTable := #[], attributes := #[] }
def k3m0 : Method := { name := "<init>", desc := "()V", sig := { parameters := [], returnType := none }, accessFlags := 4, code := some k3c0 }
/-- java/lang/Record -/
def k3 : Class := { plain "java/lang/Record" (some 0) with
  accessFlags := 1057
  interfaces := #[]
  cf := some (fileOf pool3 7 #[] #[{ accessFlags := 4, nameIndex := 5, descriptorIndex := 6, attributes := #[] }] 1057 2 #[] #[])
  fields := #[]
  methods := #[k3m0]
  instanceTypes := #[]
  staticTypes := #[]
  resolved := Array.replicate 22 none
  statics := none }

def pool4 : Array CpInfo := pool [(1, .methodref 2 3), (0, .class_ 4), (0, .nameAndType 5 6), (0, u "java/lang/Record"), (0, u "<init>"), (0, u "()V"), (9, .fieldref 17 18), (0, .class_ 19), (0, .nameAndType 20 21), (0, u "com/example/exclusion_by_quorum/exclusionbyquorum/Quorum"), (0, u "servers"), (0, u "I"), (3, .methodref 17 26), (0, .nameAndType 27 28), (0, u "majority"), (0, u "()I"), (35, u "NANOS_PER_MILLI"), (0, u "J"), (1, u "(I)V"), (4, u "grants"), (0, u "(IJ)Z")] 37

def k4c0 : Code := { maxStack := 3, maxLocals := 2, code := prog_3_method_1_code, exceptionTable := #[], attributes := #[] }
def k4m0 : Method := { name := "<init>", desc := "(I)V", sig := { parameters := [.int], returnType := none }, accessFlags := 0, code := some k4c0 }
def k4c1 : Code := { maxStack := 2, maxLocals := 1, code := prog_3_method_2_code, exceptionTable := #[], attributes := #[] }
def k4m1 : Method := { name := "majority", desc := "()I", sig := { parameters := [], returnType := some .int }, accessFlags := 0, code := some k4c1 }
def k4c2 : Code := { maxStack := 4, maxLocals := 4, code := prog_3_method_3_code, exceptionTable := #[], attributes := #[] }
def k4m2 : Method := { name := "grants", desc := "(IJ)Z", sig := { parameters := [.int, .long], returnType := some .boolean }, accessFlags := 0, code := some k4c2 }
/-- com/example/exclusion_by_quorum/exclusionbyquorum/Quorum -/
def k4 : Class := { plain "com/example/exclusion_by_quorum/exclusionbyquorum/Quorum" (some 3) with
  accessFlags := 48
  interfaces := #[]
  cf := some (fileOf pool4 17 #[] #[{ accessFlags := 0, nameIndex := 5, descriptorIndex := 67, attributes := #[] }, { accessFlags := 0, nameIndex := 27, descriptorIndex := 28, attributes := #[] }, { accessFlags := 0, nameIndex := 72, descriptorIndex := 73, attributes := #[] }] 48 2 #[] #[{ accessFlags := 18, nameIndex := 20, descriptorIndex := 21, attributes := #[] }, { accessFlags := 26, nameIndex := 64, descriptorIndex := 65, attributes := #[] }])
  fields := #[{ name := "servers", type := .int, accessFlags := 18, slot := 0, constantValue := 0 }, { name := "NANOS_PER_MILLI", type := .long, accessFlags := 26, slot := 0, constantValue := 0 }]
  methods := #[k4m0, k4m1, k4m2]
  instanceTypes := #[.int]
  staticTypes := #[.long]
  resolved := Array.replicate 111 none
  statics := none }

def pool5 : Array CpInfo := pool [(1, u "java/lang/Cloneable"), (0, .class_ 1), (0, u "java/lang/Object"), (0, .class_ 3)] 3

/-- java/lang/Cloneable -/
def k5 : Class := { plain "java/lang/Cloneable" (some 0) with
  accessFlags := 1537
  interfaces := #[]
  cf := some (fileOf pool5 2 #[] #[] 1537 4 #[] #[])
  fields := #[]
  methods := #[]
  instanceTypes := #[]
  staticTypes := #[]
  resolved := Array.replicate 8 none
  statics := none }

def pool6 : Array CpInfo := pool [(1, u "java/io/Serializable"), (0, .class_ 1), (0, u "java/lang/Object"), (0, .class_ 3)] 3

/-- java/io/Serializable -/
def k6 : Class := { plain "java/io/Serializable" (some 0) with
  accessFlags := 1537
  interfaces := #[]
  cf := some (fileOf pool6 2 #[] #[] 1537 4 #[] #[])
  fields := #[]
  methods := #[]
  instanceTypes := #[]
  staticTypes := #[]
  resolved := Array.replicate 8 none
  statics := none }

/-- the primitive byte -/
def k7 : Class := { plain "byte" none with kind := .primitive 'B', accessFlags := 0x411 }
/-- [B -/
def k8 : Class := { plain "[B" (some 0) with kind := .array 7 .byte, interfaces := #[5, 6], accessFlags := 1041 }

/-- the primitive int -/
def k9 : Class := { plain "int" none with kind := .primitive 'I', accessFlags := 0x411 }
/-- [I -/
def k10 : Class := { plain "[I" (some 0) with kind := .array 9 .int, interfaces := #[5, 6], accessFlags := 1041 }

def heap : Heap := #[]
def classes : Array Class := #[k0, k1, k2, k3, k4, k5, k6, k7, k8, k9, k10]
def interned : List (Array UInt16 × Addr) := []
def slotsUsed : Nat := 0
def theMethod : MethodId := ⟨1, 1⟩
def args0 : Array Value := #[.int 5, .int 3, .long 9]
def aboutOver (below : List Frame) : State where
  vm := { classes := classes, interned := interned.toArray }
  heap := heap
  slotsUsed := slotsUsed
  threads := #[{ frames := .invoking theMethod args0 :: below }]
def below0 : List Frame := [.native { method := ⟨0, 0⟩, args := #[] }]
def about1 : State := aboutOver below0
def p0 : Program := .bare "" "" ""
def e0 : Env := launch0.env 0 0 0
theorem w_frames : about1.frames = Frame.invoking theMethod args0 :: below0 := rfl
set_option maxRecDepth 65536 in
theorem w_args : argsFit about1.vm theMethod args0 = true := by decide +kernel
set_option maxRecDepth 65536 in
theorem w_heap : heapFits about1 = true := by decide +kernel
set_option maxRecDepth 65536 in
theorem w_runnable : about1.curStatus? = some .runnable := by decide +kernel
set_option maxRecDepth 65536 in
theorem w_alone : about1.alone = true := by decide +kernel
set_option maxRecDepth 65536 in
theorem w_named : about1.methodNamed? x = some theMethod := by decide +kernel
set_option maxRecDepth 65536 in
theorem w_hears : about1.hears theMethod below0 = true := by decide +kernel
set_option maxRecDepth 65536 in
theorem w_ripe : about1.ripe theMethod args0 below0 = true := by decide +kernel
theorem w_running : about1.status = .running := rfl
set_option maxRecDepth 65536 in
theorem w_room : about1.hasRoom e0.platform room_1 = true :=
  launch0.hasRoom_least _ room_1 (by decide +kernel) (by decide +kernel) (by decide +kernel) (by decide +kernel) (by decide +kernel) (by decide +kernel)
theorem allAtoms_all (ts : List Jvm.Cond) (a : Array Jvm.Value) (st : Jvm.State) : (allAtoms ts).before a st = ts.all (fun c => c.before a st) := by
  induction ts with
  | nil => rfl
  | cons c t ih =>
    show (Jvm.Cond.and c (allAtoms t)).before a st = _
    rw [Jvm.Cond.before_and, ih, List.all_cons]
def words1 : List Jvm.Cond := Jvm.Cond.code x code maxLocals ret :: tables_1
/-- a 'code' word, met by the world's own term for the bytes: nothing is compared byte by byte -/
theorem code_word {y : MethodName} {bytes : ByteArray} {mx : Nat} {rt : Option FieldType} {a : Array Value} {s : State} {m : MethodId} {meth : Method} {c : Code} (h1 : s.methodNamed? y = some m) (h2 : s.vm.method? m = some meth) (h3 : meth.code = some c) (h4 : c.code = bytes)
    (h5 : (c.maxLocals == mx && c.exceptionTable.isEmpty && decide (c.maxStack ≤ mostOperands) && decide (meth.sig.returnType = rt) && !meth.locks && decide (parseMethodDescriptor y.desc = some meth.sig)) = true) : (Jvm.Cond.code y bytes mx rt).before a s = true := by
  simp only [Bool.and_eq_true, beq_iff_eq, Bool.not_eq_true', decide_eq_true_eq] at h5
  obtain ⟨⟨⟨⟨⟨g1, g2⟩, g3⟩, g4⟩, g5⟩, g6⟩ := h5
  simp [Cond.before, Cond.holds, Cond.value, h1, h2, h3, h4, g1, g2, g3, g4, g5, g6]
def isCode : Jvm.Cond → Bool
  | .code _ _ _ _ => true
  | _ => false
theorem all_split {L : List Jvm.Cond} {P : Jvm.Cond → Bool} (h1 : L.all (fun c => isCode c || P c) = true) (h2 : ∀ c ∈ L.filter isCode, P c = true) : L.all P = true := by
  refine List.all_eq_true.mpr fun c hc => ?_
  have h := List.all_eq_true.mp h1 c hc
  rcases Bool.eq_false_or_eq_true (isCode c) with hi | hi
  · exact h2 c (List.mem_filter.mpr ⟨hc, hi⟩)
  · simpa [hi] using h
set_option maxRecDepth 65536 in
theorem w_c0 : (Jvm.Cond.code x code maxLocals ret).before args0 about1 = true := code_word (m := ⟨1, 1⟩) (meth := k1m1) (c := k1c1) (by decide +kernel) rfl rfl rfl (by decide +kernel)
set_option maxRecDepth 65536 in
theorem w_c1 : (Jvm.Cond.code ({ cls := "java/lang/Math", name := "max", desc := "(II)I" } : Jvm.MethodName) jdk_29_method_65_code (2 : Nat) (Option.some Jvm.ClassFile.FieldType.int)).before args0 about1 = true := code_word (m := ⟨2, 1⟩) (meth := k2m1) (c := k2c1) (by decide +kernel) rfl rfl rfl (by decide +kernel)
set_option maxRecDepth 65536 in
theorem w_c2 : (Jvm.Cond.code ({ cls := "com/example/exclusion_by_quorum/exclusionbyquorum/Quorum", name := "<init>", desc := "(I)V" } : Jvm.MethodName) prog_3_method_1_code (2 : Nat) (Option.none : Option Jvm.ClassFile.FieldType)).before args0 about1 = true := code_word (m := ⟨4, 0⟩) (meth := k4m0) (c := k4c0) (by decide +kernel) rfl rfl rfl (by decide +kernel)
set_option maxRecDepth 65536 in
theorem w_c3 : (Jvm.Cond.code ({ cls := "java/lang/Record", name := "<init>", desc := "()V" } : Jvm.MethodName) jdk_30_method_1_code (1 : Nat) (Option.none : Option Jvm.ClassFile.FieldType)).before args0 about1 = true := code_word (m := ⟨3, 0⟩) (meth := k3m0) (c := k3c0) (by decide +kernel) rfl rfl rfl (by decide +kernel)
set_option maxRecDepth 65536 in
theorem w_c4 : (Jvm.Cond.code ({ cls := "java/lang/Object", name := "<init>", desc := "()V" } : Jvm.MethodName) object_method_1_code (1 : Nat) (Option.none : Option Jvm.ClassFile.FieldType)).before args0 about1 = true := code_word (m := ⟨0, 0⟩) (meth := k0m0) (c := k0c0) (by decide +kernel) rfl rfl rfl (by decide +kernel)
set_option maxRecDepth 65536 in
theorem w_c5 : (Jvm.Cond.code ({ cls := "com/example/exclusion_by_quorum/exclusionbyquorum/Quorum", name := "grants", desc := "(IJ)Z" } : Jvm.MethodName) prog_3_method_3_code (4 : Nat) (Option.some Jvm.ClassFile.FieldType.boolean)).before args0 about1 = true := code_word (m := ⟨4, 2⟩) (meth := k4m2) (c := k4c2) (by decide +kernel) rfl rfl rfl (by decide +kernel)
set_option maxRecDepth 65536 in
theorem w_c6 : (Jvm.Cond.code ({ cls := "com/example/exclusion_by_quorum/exclusionbyquorum/Quorum", name := "majority", desc := "()I" } : Jvm.MethodName) prog_3_method_2_code (1 : Nat) (Option.some Jvm.ClassFile.FieldType.int)).before args0 about1 = true := code_word (m := ⟨4, 1⟩) (meth := k4m1) (c := k4c1) (by decide +kernel) rfl rfl rfl (by decide +kernel)
def codes1 : List Jvm.Cond := [Jvm.Cond.code x code maxLocals ret, Jvm.Cond.code ({ cls := "java/lang/Math", name := "max", desc := "(II)I" } : Jvm.MethodName) jdk_29_method_65_code (2 : Nat) (Option.some Jvm.ClassFile.FieldType.int), Jvm.Cond.code ({ cls := "com/example/exclusion_by_quorum/exclusionbyquorum/Quorum", name := "<init>", desc := "(I)V" } : Jvm.MethodName) prog_3_method_1_code (2 : Nat) (Option.none : Option Jvm.ClassFile.FieldType), Jvm.Cond.code ({ cls := "java/lang/Record", name := "<init>", desc := "()V" } : Jvm.MethodName) jdk_30_method_1_code (1 : Nat) (Option.none : Option Jvm.ClassFile.FieldType), Jvm.Cond.code ({ cls := "java/lang/Object", name := "<init>", desc := "()V" } : Jvm.MethodName) object_method_1_code (1 : Nat) (Option.none : Option Jvm.ClassFile.FieldType), Jvm.Cond.code ({ cls := "com/example/exclusion_by_quorum/exclusionbyquorum/Quorum", name := "grants", desc := "(IJ)Z" } : Jvm.MethodName) prog_3_method_3_code (4 : Nat) (Option.some Jvm.ClassFile.FieldType.boolean), Jvm.Cond.code ({ cls := "com/example/exclusion_by_quorum/exclusionbyquorum/Quorum", name := "majority", desc := "()I" } : Jvm.MethodName) prog_3_method_2_code (1 : Nat) (Option.some Jvm.ClassFile.FieldType.int)]
set_option maxRecDepth 65536 in
theorem codes_eq : words1.filter isCode = codes1 := rfl
theorem w_codes : ∀ c ∈ words1.filter isCode, c.before args0 about1 = true := by
  rw [codes_eq]
  intro c hc
  simp only [codes1, List.mem_cons, List.not_mem_nil, or_false] at hc
  rcases hc with rfl | rfl | rfl | rfl | rfl | rfl | rfl
  · exact w_c0
  · exact w_c1
  · exact w_c2
  · exact w_c3
  · exact w_c4
  · exact w_c5
  · exact w_c6
set_option maxRecDepth 65536 in
theorem w_t1 : (words1.take 24).all (fun c => isCode c || c.before args0 about1) = true := by decide +kernel
set_option maxRecDepth 65536 in
theorem w_t2 : (words1.drop 24).all (fun c => isCode c || c.before args0 about1) = true := by decide +kernel
theorem w_tables : (allAtoms (Jvm.Cond.code x code maxLocals ret :: tables_1)).before args0 about1 = true := by
  rw [allAtoms_all]
  show words1.all (fun c => c.before args0 about1) = true
  refine all_split ?_ w_codes
  rw [← List.take_append_drop 24 words1, List.all_append, w_t1, w_t2]
  rfl
set_option maxRecDepth 65536 in
theorem w_case : (Jvm.Cond.and given_1 narrow_1).before args0 about1 = true := by decide +kernel
theorem w_applies : (headSpec (Jvm.Cond.code x code maxLocals ret :: tables_1) room_1).applies x e0.platform about1 = true :=
  (Spec.applies_iff w_frames).mpr ⟨w_running, w_runnable, w_alone, w_named, w_hears, w_ripe, w_room, w_tables⟩
theorem atStart : AtStart classFile x code maxLocals ret World_1 tables_1 room_1 Calls_1 rest_1 Pre_1 launch0 p0 e0 about1 theMethod args0 below0 :=
  ⟨lists_1, trivial, launch0.admits_env _ _ _, launch0.least_env, fairChoices_fair.cas, fairChoices_fair.clock, w_frames, w_args, w_heap, w_applies, trivial, trivial, w_case⟩
end start1
theorem witness_1 : WitnessClaimed_1 := ⟨start1.p0, start1.e0, start1.about1, start1.theMethod, start1.args0, start1.below0, start1.atStart⟩
end Jvm.Pilot.@@N@@
