import JvmDerived
import JvmDerived.Pilot.@@N@@Statement
import JvmDerived.Pilot.@@N@@Code
set_option linter.unusedVariables false
set_option linter.unusedSimpArgs false
namespace Jvm.RoadKit
open Sem ClassFile Op Lib Jvm.Stand Jvm.Free Jvm.LawKit
section New
variable {p : Program} {l : Launch} {e : Env} {R : Room} {s : State} {m : MethodId} {args : Array Value} {below : List Frame} {meth : Method} {c : Code} {T T' : State} {locs : List Loc} {cells slots : Nat}
/-- what a body leaves: the value, and what is known of the heap and of the places written -/
def QV (w : Option Value) (P : Heap → List Loc → Prop) (v : Option Value) (h : Heap) (L : List Loc) : Prop := v = w ∧ P h L
/-- a body that writes nothing -/
def PureP (n0 : Nat) (h0 : Heap) (h : Heap) (L : List Loc) : Prop := Fr n0 L ∧ h = h0
/-- from here the body returns w and leaves P -/
def Got (p : Program) (e : Env) (below : List Frame) (s : State) (P : Heap → List Loc → Prop) (ck cs : Nat) (w : Option Value) (T : State) (g : JFrame) : Prop :=
  ∃ s₂ L, Steps p.tables e below (T.setTop g) s₂ ∧ s₂.status = .running ∧ Ended s₂ below (.returned w) ∧ P s₂.heap L ∧ FrameEnd s (.returned w) s₂ L ck cs
variable {P : Heap → List Loc → Prop} {ck cs : Nat} {w : Option Value} {g g' : JFrame}
theorem Got.step (h : ∀ t, Steps p.tables e below (T'.setTop g') t → Steps p.tables e below (T.setTop g) t) (k : Got p e below s P ck cs w T' g') : Got p e below s P ck cs w T g := by
  obtain ⟨s₂, L, h1, r⟩ := k
  exact ⟨s₂, L, h _ h1, r⟩
theorem Got.hop (h : Steps p.tables e below (T.setTop g) (T'.setTop g')) (k : Got p e below s P ck cs w T' g') : Got p e below s P ck cs w T g := Got.step (fun _ q => h.trans q) k
theorem Got.ite {q : Prop} [Decidable q] {x y : Int32} (h1 : q → Got p e below s P ck cs (some (.int x)) T g) (h2 : ¬ q → Got p e below s P ck cs (some (.int y)) T g) : Got p e below s P ck cs (some (.int (if q then x else y))) T g := by
  by_cases h : q
  · rw [if_pos h]; exact h1 h
  · rw [if_neg h]; exact h2 h
theorem Got.iteJ {q : Prop} [Decidable q] {x y : Int64} (h1 : q → Got p e below s P ck cs (some (.long x)) T g) (h2 : ¬ q → Got p e below s P ck cs (some (.long y)) T g) : Got p e below s P ck cs (some (.long (if q then x else y))) T g := by
  by_cases h : q
  · rw [if_pos h]; exact h1 h
  · rw [if_neg h]; exact h2 h
theorem Got.iteR {q : Prop} [Decidable q] {x y : Addr} (h1 : q → Got p e below s P ck cs (some (.ref x)) T g) (h2 : ¬ q → Got p e below s P ck cs (some (.ref y)) T g) : Got p e below s P ck cs (some (.ref (if q then x else y))) T g := by
  by_cases h : q
  · rw [if_pos h]; exact h1 h
  · rw [if_neg h]; exact h2 h
theorem Got.body {n : Nat} {as' : Array Value} (hg : entryFrame m as' n = g) (k : Got p e below s P ck cs w T g) :
    ∃ s₂ o, Steps p.tables e below (T.setTop (entryFrame m as' n)) s₂ ∧ s₂.status = .running ∧ Ended s₂ below o ∧ ∃ v L, o = .returned v ∧ QV w P v s₂.heap L ∧ FrameEnd s o s₂ L ck cs := by
  obtain ⟨s₂, L, h1, h2, h3, h4, h5⟩ := k
  exact ⟨s₂, _, by rw [hg]; exact h1, h2, h3, w, L, rfl, ⟨rfl, h4⟩, h5⟩
theorem Got.retN (X : Stand p l e R s m args below meth c T locs cells slots) (hx : p.tables.exec = Jvm.exec) {t : FieldType} (hret : meth.sig.returnType = some t) (ht : t = .boolean ∨ t = .byte ∨ t = .char ∨ t = .short) (hlk : meth.locks = false) {pc : Nat} {Ls : Array Slot} {z y : Int32} {rest : List Value}
    (hd : decode c.code pc = .ok (.ireturn, 1)) (hy : nar t z = y) (hP : P T.heap locs) (hc : cells ≤ ck) (hs : slots ≤ cs) : Got p e below s P ck cs (some (.int y)) T (mkF m pc Ls (.int z :: rest)) := by
  subst hy
  obtain ⟨fs, hr, hrun, hended, hW, hsame⟩ := X.leave (v := some (.int (nar t z))) (fun h => by rw [hret] at h; cases h) hlk
  exact ⟨_, locs, Jvm.RoadKit.retN X hx hret ht hd hr, hrun, hended, hP, ⟨_, rfl⟩, hW, hsame.mono hc hs⟩
theorem Got.retI (X : Stand p l e R s m args below meth c T locs cells slots) (hx : p.tables.exec = Jvm.exec) (hret : meth.sig.returnType = some .int) (hlk : meth.locks = false) {pc : Nat} {Ls : Array Slot} {z y : Int32} {rest : List Value}
    (hd : decode c.code pc = .ok (.ireturn, 1)) (hy : z = y) (hP : P T.heap locs) (hc : cells ≤ ck) (hs : slots ≤ cs) : Got p e below s P ck cs (some (.int y)) T (mkF m pc Ls (.int z :: rest)) := by
  subst hy
  obtain ⟨fs, hr, hrun, hended, hW, hsame⟩ := X.leave (v := some (.int z)) (fun h => by rw [hret] at h; cases h) hlk
  exact ⟨_, locs, retOut X hx hret rfl (Or.inl ⟨rfl, Or.inl rfl, z, rfl⟩) hd hr, hrun, hended, hP, ⟨_, rfl⟩, hW, hsame.mono hc hs⟩
theorem Got.retJ (X : Stand p l e R s m args below meth c T locs cells slots) (hx : p.tables.exec = Jvm.exec) (hret : meth.sig.returnType = some .long) (hlk : meth.locks = false) {pc : Nat} {Ls : Array Slot} {z y : Int64}
    (hd : decode c.code pc = .ok (.lreturn, 1)) (hy : z = y) (hP : P T.heap locs) (hc : cells ≤ ck) (hs : slots ≤ cs) : Got p e below s P ck cs (some (.long y)) T (mkF m pc Ls [.long z]) := by
  subst hy
  obtain ⟨fs, hr, hrun, hended, hW, hsame⟩ := X.leave (v := some (.long z)) (fun h => by rw [hret] at h; cases h) hlk
  exact ⟨_, locs, X.lreturnOut hx hret hd hr, hrun, hended, hP, ⟨_, rfl⟩, hW, hsame.mono hc hs⟩
theorem Got.retV (X : Stand p l e R s m args below meth c T locs cells slots) (hx : p.tables.exec = Jvm.exec) (hret : meth.sig.returnType = none) (hlk : meth.locks = false) {pc : Nat} {Ls : Array Slot}
    (hd : decode c.code pc = .ok (.return_, 1)) (hP : P T.heap locs) (hc : cells ≤ ck) (hs : slots ≤ cs) : Got p e below s P ck cs none T (mkF m pc Ls []) := by
  obtain ⟨fs, hr, hrun, hended, hW, hsame⟩ := X.leave (v := none) (fun _ => rfl) hlk
  exact ⟨_, locs, X.returnOut hx hret hd hr, hrun, hended, hP, ⟨_, rfl⟩, hW, hsame.mono hc hs⟩
theorem Got.retA (X : Stand p l e R s m args below meth c T locs cells slots) (hx : p.tables.exec = Jvm.exec) {t : FieldType} (hret : meth.sig.returnType = some t) (ht : t.isReference = true) (hlk : meth.locks = false) {pc : Nat} {Ls : Array Slot} {a : Addr} {rest : List Value}
    (hd : decode c.code pc = .ok (.areturn, 1)) (hn : narrow t (.ref a) = .ref a) (hP : P T.heap locs) (hc : cells ≤ ck) (hs : slots ≤ cs) : Got p e below s P ck cs (some (.ref a)) T (mkF m pc Ls (.ref a :: rest)) := by
  obtain ⟨fs, hr, hrun, hended, hW, hsame⟩ := X.leave (v := some (.ref a)) (fun h => by rw [hret] at h; cases h) hlk
  exact ⟨_, locs, retOut X hx hret hn (Or.inr (Or.inr (Or.inr (Or.inr ⟨rfl, ht, rfl⟩)))) hd hr, hrun, hended, hP, ⟨_, rfl⟩, hW, hsame.mono hc hs⟩
theorem remJ {g : JFrame} {target : State} (X : Stand p l e R s m args below meth c T locs cells slots) (hx : p.tables.exec = Jvm.exec) (hg : g.method = m) {x y : Int64} {rest : List Value} (hd : decode c.code g.pc = .ok (.lrem, 1)) (hs : g.stack = .long y :: .long x :: rest) (hy : y ≠ 0)
    (hr : Steps p.tables e below (T.setTop { g with pc := g.pc + 1, stack := .long (x % y) :: rest }) target) : Steps p.tables e below (T.setTop g) target := by
  rw [← lrem_mod x y] at hr
  exact XS.lrem X.here hx hg hd hs hy hr
theorem narB (x : Int32) : nar .byte x.toInt8.toInt32 = x.toInt8.toInt32 := by simp [nar]
end New
end Jvm.RoadKit
namespace Jvm.Pilot.@@N@@
open Jvm Jvm.ClassFile Sem Op Lib Jvm.Free Jvm.Stand Jvm.LawKit Jvm.RoadKit Bundle Jvm.Pilot.@@N@@.Jvm.D
theorem ef_1 (m : MethodId) (x0 : Addr) : entryFrame m #[(.ref x0)] 1 = mkF m 0 #[.val (.ref x0)] [] := by first | (simp [entryFrame, mkF, argsToLocals, Value.category]; done) | rfl
theorem pn_0 : plainName "com/example/glasanje/glasanje/election/MajorityElection$VoteRecord" = true := by first | (simp [plainName, overriddenIn]; done) | decide +kernel
theorem d1_0 : decode prog_16_method_1_code 0 = .ok (.aload_n 0, 1) := by decide +kernel
theorem d1_1 : decode prog_16_method_1_code 1 = .ok (.invokespecial 1, 3) := by decide +kernel
theorem d1_4 : decode prog_16_method_1_code 4 = .ok (.return_, 1) := by decide +kernel
set_option maxRecDepth 65536 in
set_option maxHeartbeats 40000000 in
theorem rm1 (l : Launch) (Z : State) (a0 : Array Value) (hw : ∀ d ∈ tables_1, d.before a0 Z = true) (ws : List Jvm.Cond) (o0 : Addr) (h0 : Heap) (n0 : Nat) (Z0 : n0 ≤ h0.size) (gn_o0 : n0 ≤ o0) (E_o0 : Exa Z h0 o0 "com/example/glasanje/glasanje/election/MajorityElection$VoteRecord") (F_term : Fld Z h0 o0 "com/example/glasanje/glasanje/election/MajorityElection$VoteRecord" "term" "J" (.long (0 : Int64))) (F_forgotten : Fld Z h0 o0 "com/example/glasanje/glasanje/election/MajorityElection$VoteRecord" "forgotten" "Z" (.int (0 : Int32)))  :
    MetFree l (⟨"com/example/glasanje/glasanje/election/MajorityElection$VoteRecord", "<init>", "()V"⟩ : MethodName) (head1 (Jvm.Cond.code (⟨"com/example/glasanje/glasanje/election/MajorityElection$VoteRecord", "<init>", "()V"⟩ : MethodName) prog_16_method_1_code 1 none :: ws) ({ frames := 1, cells := 0, slots := 0, locals := 12 } : Room)) (fun a U => a = #[(.ref o0)] ∧ Z.Warmed39 U.vm ∧ U.heap = h0) (fun _ _ _ _ _ => True) (fun _ U o U' => ∃ v L, o = .returned v ∧ QV none (fun h L => Fr n0 L ∧ Keep h0 h [o0] ∧ Exa Z h o0 "com/example/glasanje/glasanje/election/MajorityElection$VoteRecord" ∧ Fld Z h o0 "com/example/glasanje/glasanje/election/MajorityElection$VoteRecord" "term" "J" (.long (0 : Int64)) ∧ Fld Z h o0 "com/example/glasanje/glasanje/election/MajorityElection$VoteRecord" "forgotten" "Z" (.int (0 : Int32))) v U'.heap L ∧ FrameEnd U o U' L ({ frames := 1, cells := 0, slots := 0, locals := 12 } : Room).cells ({ frames := 1, cells := 0, slots := 0, locals := 12 } : Room).slots) := by
  refine MetFree.of_bodySF (plainFor_of_name pn_0) hisR ?_
  intro p e s m args below meth c s₁ Bd hml0 hP hK
  obtain ⟨rfl, hZ, hh⟩ := hP
  have hx := Bd.exec
  have hby := Bd.bytes
  have hml : c.maxLocals = 1 := hml0
  have hown : s.vm.findClass "com/example/glasanje/glasanje/election/MajorityElection$VoteRecord" = some m.cls := findClass_of_methodNamed Bd.named
  have hnm := (name_of_methodNamed Bd.named Bd.method).1
  have hlk : meth.locks = false := BodyLoose.notSynchronized Bd
  have X0 : Stand p l e ({ frames := 1, cells := 0, slots := 0, locals := 12 } : Room) s m #[(.ref o0)] below meth c s₁ [] 0 0 := Stand.of_body Bd
  have e0 : s₁.heap = h0 := by rw [← hh, Bd.state]; rfl
  have N0 := Fr.nil n0
  refine Got.body (ef_1 m o0) ?_
  have K0 := Keep.refl h0 [o0]
  refine Got.step (T' := s₁) (g' := (mkF m 1 #[.val (.ref o0)] [(.ref o0)])) (fun tq kt => ?_) ?_
  · show Steps p.tables e below (s₁.setTop (mkF m 0 #[.val (.ref o0)] [])) _
    refine XS.aloadN X0.here hx rfl (hb hby d1_0) rfl rfl ?_
    exact kt
  obtain ⟨T1, X1, e1, st1⟩ := initO X0 hx hZ hown (hw _ (List.mem_of_getElem? (i := 6) rfl)) (hw _ (List.mem_of_getElem? (i := 7) rfl)) (hw _ (List.mem_of_getElem? (i := 8) rfl)) e0 (g := (mkF m 1 #[.val (.ref o0)] [(.ref o0)])) rfl (by rw [hml]; rfl) rfl (hb hby d1_1) (by decide) (W := 0) (by show 2 * 0 + _ ≤ _; exact Nat.le_of_eq rfl) (by decide)
  refine Got.step st1 ?_
  show Got p e below s _ _ _ _ T1 (mkF m 4 #[.val (.ref o0)] [])
  exact Got.retV X1 hx Bd.returns hlk (hb hby d1_4) ⟨N0, by rw [e1]; exact K0, by rw [e1]; exact E_o0, by rw [e1]; exact F_term, by rw [e1]; exact F_forgotten⟩ (by decide) (by decide)
def f4 (q0 : Int64) (q1 : Int64)  : Int64 := (if q0 < q1 then q1 else q0)
theorem ef_4 (m : MethodId) (x0 : Int64) (x1 : Int64) : entryFrame m #[(.long x0), (.long x1)] 4 = mkF m 0 #[.val (.long x0), .second, .val (.long x1), .second] [] := by first | (simp [entryFrame, mkF, argsToLocals, Value.category]; done) | rfl
theorem d4_0 : decode jdk_29_method_66_code 0 = .ok (.lload_n 0, 1) := by decide +kernel
theorem d4_1 : decode jdk_29_method_66_code 1 = .ok (.lload_n 2, 1) := by decide +kernel
theorem d4_2 : decode jdk_29_method_66_code 2 = .ok (.lcmp, 1) := by decide +kernel
theorem d4_3 : decode jdk_29_method_66_code 3 = .ok (.ifCond .lt 7, 3) := by decide +kernel
theorem d4_6 : decode jdk_29_method_66_code 6 = .ok (.lload_n 0, 1) := by decide +kernel
theorem d4_7 : decode jdk_29_method_66_code 7 = .ok (.goto 4, 3) := by decide +kernel
theorem d4_10 : decode jdk_29_method_66_code 10 = .ok (.lload_n 2, 1) := by decide +kernel
theorem d4_11 : decode jdk_29_method_66_code 11 = .ok (.lreturn, 1) := by decide +kernel
set_option maxRecDepth 65536 in
set_option maxHeartbeats 40000000 in
theorem rm4 (l : Launch) (Z : State) (a0 : Array Value) (hw : ∀ d ∈ tables_1, d.before a0 Z = true) (ws : List Jvm.Cond) (q0 : Int64) (q1 : Int64) (h0 : Heap) (n0 : Nat) (Z0 : n0 ≤ h0.size)  :
    MetFree l (⟨"java/lang/Math", "max", "(JJ)J"⟩ : MethodName) (head1 (Jvm.Cond.code (⟨"java/lang/Math", "max", "(JJ)J"⟩ : MethodName) jdk_29_method_66_code 4 (some .long) :: ws) ({ frames := 0, cells := 0, slots := 0, locals := 0 } : Room)) (fun a U => a = #[(.long q0), (.long q1)] ∧ Z.Warmed39 U.vm ∧ U.heap = h0) (fun _ _ _ _ _ => True) (fun _ U o U' => ∃ v L, o = .returned v ∧ QV (some (.long (f4 q0 q1))) (PureP n0 h0) v U'.heap L ∧ FrameEnd U o U' L ({ frames := 0, cells := 0, slots := 0, locals := 0 } : Room).cells ({ frames := 0, cells := 0, slots := 0, locals := 0 } : Room).slots) := by
  refine MetFree.of_bodySF (Jvm.Free.JP.mathPlain rfl (by decide +kernel)) hisR ?_
  intro p e s m args below meth c s₁ Bd hml0 hP hK
  obtain ⟨rfl, hZ, hh⟩ := hP
  have hx := Bd.exec
  have hby := Bd.bytes
  have hml : c.maxLocals = 4 := hml0
  have hown : s.vm.findClass "java/lang/Math" = some m.cls := findClass_of_methodNamed Bd.named
  have hnm := (name_of_methodNamed Bd.named Bd.method).1
  have hlk : meth.locks = false := BodyLoose.notSynchronized Bd
  have X0 : Stand p l e ({ frames := 0, cells := 0, slots := 0, locals := 0 } : Room) s m #[(.long q0), (.long q1)] below meth c s₁ [] 0 0 := Stand.of_body Bd
  have e0 : s₁.heap = h0 := by rw [← hh, Bd.state]; rfl
  have N0 := Fr.nil n0
  refine Got.body (ef_4 m q0 q1) ?_
  refine Got.step (T' := s₁) (g' := (mkF m 3 #[.val (.long q0), .second, .val (.long q1), .second] [(.int (XT.cmpL q0 q1))])) (fun tq kt => ?_) ?_
  · show Steps p.tables e below (s₁.setTop (mkF m 0 #[.val (.long q0), .second, .val (.long q1), .second] [])) _
    refine XS.lloadN X0.here hx rfl (hb hby d4_0) rfl ?_
    show Steps p.tables e below (s₁.setTop (mkF m 1 #[.val (.long q0), .second, .val (.long q1), .second] [(.long q0)])) _
    refine XS.lloadN X0.here hx rfl (hb hby d4_1) rfl ?_
    show Steps p.tables e below (s₁.setTop (mkF m 2 #[.val (.long q0), .second, .val (.long q1), .second] [(.long q1), (.long q0)])) _
    refine XT.lcmp X0.here hx rfl (hb hby d4_2) rfl ?_
    exact kt
  refine Got.iteJ (q := (q0 < q1)) (fun hc2 => ?_) (fun hc2 => ?_)
  · refine Got.step (T' := s₁) (g' := (mkF m 11 #[.val (.long q0), .second, .val (.long q1), .second] [(.long q1)])) (fun tq kt => ?_) ?_
    · show Steps p.tables e below (s₁.setTop (mkF m 3 #[.val (.long q0), .second, .val (.long q1), .second] [(.int (XT.cmpL q0 q1))])) _
      refine XS.ifYes X0.here hx rfl (pc0 := 3) (pc' := 10) rfl (hb hby d4_3) rfl (XT.ll_lt_t hc2) (by decide) (by decide) ?_
      show Steps p.tables e below (s₁.setTop (mkF m 10 #[.val (.long q0), .second, .val (.long q1), .second] [])) _
      refine XS.lloadN X0.here hx rfl (hb hby d4_10) rfl ?_
      exact kt
    exact Got.retJ (y := q1) X0 hx Bd.returns hlk (hb hby d4_11) rfl ⟨N0, e0⟩ (by decide) (by decide)
  · refine Got.step (T' := s₁) (g' := (mkF m 11 #[.val (.long q0), .second, .val (.long q1), .second] [(.long q0)])) (fun tq kt => ?_) ?_
    · show Steps p.tables e below (s₁.setTop (mkF m 3 #[.val (.long q0), .second, .val (.long q1), .second] [(.int (XT.cmpL q0 q1))])) _
      refine XS.ifNo X0.here hx rfl (hb hby d4_3) rfl (XT.ll_lt_f hc2) ?_
      show Steps p.tables e below (s₁.setTop (mkF m 6 #[.val (.long q0), .second, .val (.long q1), .second] [])) _
      refine XS.lloadN X0.here hx rfl (hb hby d4_6) rfl ?_
      show Steps p.tables e below (s₁.setTop (mkF m 7 #[.val (.long q0), .second, .val (.long q1), .second] [(.long q0)])) _
      refine XS.goto X0.here hx rfl (pc0 := 7) (pc' := 11) rfl (hb hby d4_7) (by decide) (by decide) ?_
      exact kt
    exact Got.retJ (y := q0) X0 hx Bd.returns hlk (hb hby d4_11) rfl ⟨N0, e0⟩ (by decide) (by decide)
theorem pd_0 : parseMethodDescriptor "(JJ)J" = some ⟨[.long, .long], some .long⟩ := by decide +kernel
theorem ef_3 (m : MethodId) (x0 : Addr) (x1 : Int64) : entryFrame m #[(.ref x0), (.long x1)] 3 = mkF m 0 #[.val (.ref x0), .val (.long x1), .second] [] := by first | (simp [entryFrame, mkF, argsToLocals, Value.category]; done) | rfl
theorem d3_0 : decode prog_16_method_4_code 0 = .ok (.aload_n 0, 1) := by decide +kernel
theorem d3_1 : decode prog_16_method_4_code 1 = .ok (.aload_n 0, 1) := by decide +kernel
theorem d3_2 : decode prog_16_method_4_code 2 = .ok (.getfield 14, 3) := by decide +kernel
theorem d3_5 : decode prog_16_method_4_code 5 = .ok (.lload_n 1, 1) := by decide +kernel
theorem d3_6 : decode prog_16_method_4_code 6 = .ok (.invokestatic 18, 3) := by decide +kernel
theorem d3_9 : decode prog_16_method_4_code 9 = .ok (.putfield 14, 3) := by decide +kernel
theorem d3_12 : decode prog_16_method_4_code 12 = .ok (.return_, 1) := by decide +kernel
set_option maxRecDepth 65536 in
set_option maxHeartbeats 40000000 in
theorem rm3 (l : Launch) (Z : State) (a0 : Array Value) (hw : ∀ d ∈ tables_1, d.before a0 Z = true) (ws : List Jvm.Cond) (o0 : Addr) (q1 : Int64) (t : Int64) (fg : Int32) (h0 : Heap) (n0 : Nat) (Z0 : n0 ≤ h0.size) (gn_o0 : n0 ≤ o0) (E_o0 : Exa Z h0 o0 "com/example/glasanje/glasanje/election/MajorityElection$VoteRecord") (F_term : Fld Z h0 o0 "com/example/glasanje/glasanje/election/MajorityElection$VoteRecord" "term" "J" (.long t)) (F_forgotten : Fld Z h0 o0 "com/example/glasanje/glasanje/election/MajorityElection$VoteRecord" "forgotten" "Z" (.int fg))  :
    MetFree l (⟨"com/example/glasanje/glasanje/election/MajorityElection$VoteRecord", "voted", "(J)V"⟩ : MethodName) (head1 (Jvm.Cond.code (⟨"com/example/glasanje/glasanje/election/MajorityElection$VoteRecord", "voted", "(J)V"⟩ : MethodName) prog_16_method_4_code 3 none :: ws) ({ frames := 1, cells := 0, slots := 0, locals := 16 } : Room)) (fun a U => a = #[(.ref o0), (.long q1)] ∧ Z.Warmed39 U.vm ∧ U.heap = h0) (fun _ _ _ _ _ => True) (fun _ U o U' => ∃ v L, o = .returned v ∧ QV none (fun h L => Fr n0 L ∧ Keep h0 h [o0] ∧ Exa Z h o0 "com/example/glasanje/glasanje/election/MajorityElection$VoteRecord" ∧ Fld Z h o0 "com/example/glasanje/glasanje/election/MajorityElection$VoteRecord" "term" "J" (.long (f4 t q1)) ∧ Fld Z h o0 "com/example/glasanje/glasanje/election/MajorityElection$VoteRecord" "forgotten" "Z" (.int fg)) v U'.heap L ∧ FrameEnd U o U' L ({ frames := 1, cells := 0, slots := 0, locals := 16 } : Room).cells ({ frames := 1, cells := 0, slots := 0, locals := 16 } : Room).slots) := by
  refine MetFree.of_bodySF (plainFor_of_name pn_0) hisR ?_
  intro p e s m args below meth c s₁ Bd hml0 hP hK
  obtain ⟨rfl, hZ, hh⟩ := hP
  have hx := Bd.exec
  have hby := Bd.bytes
  have hml : c.maxLocals = 3 := hml0
  have hown : s.vm.findClass "com/example/glasanje/glasanje/election/MajorityElection$VoteRecord" = some m.cls := findClass_of_methodNamed Bd.named
  have hnm := (name_of_methodNamed Bd.named Bd.method).1
  have hlk : meth.locks = false := BodyLoose.notSynchronized Bd
  have X0 : Stand p l e ({ frames := 1, cells := 0, slots := 0, locals := 16 } : Room) s m #[(.ref o0), (.long q1)] below meth c s₁ [] 0 0 := Stand.of_body Bd
  have e0 : s₁.heap = h0 := by rw [← hh, Bd.state]; rfl
  have N0 := Fr.nil n0
  refine Got.body (ef_3 m o0 q1) ?_
  have K0 := Keep.refl h0 [o0]
  refine Got.step (T' := s₁) (g' := (mkF m 2 #[.val (.ref o0), .val (.long q1), .second] [(.ref o0), (.ref o0)])) (fun tq kt => ?_) ?_
  · show Steps p.tables e below (s₁.setTop (mkF m 0 #[.val (.ref o0), .val (.long q1), .second] [])) _
    refine XS.aloadN X0.here hx rfl (hb hby d3_0) rfl rfl ?_
    show Steps p.tables e below (s₁.setTop (mkF m 1 #[.val (.ref o0), .val (.long q1), .second] [(.ref o0)])) _
    refine XS.aloadN X0.here hx rfl (hb hby d3_1) rfl rfl ?_
    exact kt
  obtain ⟨T3, X3, e3, st3⟩ := getF X0 hx hZ hown (host := "") (Or.inl (hw _ (List.mem_of_getElem? (i := 14) rfl))) Via.refl e0 F_term (g := (mkF m 2 #[.val (.ref o0), .val (.long q1), .second] [(.ref o0), (.ref o0)])) rfl rfl (hb hby d3_2)
  refine Got.step st3 ?_
  show Got p e below s _ _ _ _ T3 (mkF m 5 #[.val (.ref o0), .val (.long q1), .second] [(.long t), (.ref o0)])
  refine Got.step (T' := T3) (g' := (mkF m 6 #[.val (.ref o0), .val (.long q1), .second] [(.long q1), (.long t), (.ref o0)])) (fun tq kt => ?_) ?_
  · show Steps p.tables e below (T3.setTop (mkF m 5 #[.val (.ref o0), .val (.long q1), .second] [(.long t), (.ref o0)])) _
    refine XS.lloadN X3.here hx rfl (hb hby d3_5) rfl ?_
    exact kt
  obtain ⟨_, _, ⟨T4, L4, k4, n4⟩, -, X4, ⟨Lc4, hQ4, l4, y4, z4⟩, st4⟩ := Jvm.LawKit.callS X3 hx (y := (⟨"java/lang/Math", "max", "(JJ)J"⟩ : MethodName)) hown (mvT hZ (hw _ (List.mem_of_getElem? (i := 16) rfl))) (mvT hZ (hw _ (List.mem_of_getElem? (i := 17) rfl))) (mvT hZ (hw _ (List.mem_of_getElem? (i := 18) rfl))) (mvT hZ (hw _ (List.mem_of_getElem? (i := 19) rfl))) (by decide) (backOf (W := 1) (rm4 l Z a0 hw [] t q1 h0 n0 Z0) hZ (hw _ (List.mem_of_getElem? (i := 19) rfl)) (hw _ (List.mem_of_getElem? (i := 18) rfl)) (by decide) (by decide)) (g := (mkF m 6 #[.val (.ref o0), .val (.long q1), .second] [(.long q1), (.long t), (.ref o0)])) rfl (by rw [hml]; rfl) (argsL := [(.long t), (.long q1)]) (rest := [(.ref o0)]) (lenOf pd_0 rfl) rfl (by show 2 * 0 + _ ≤ _; exact Nat.le_of_eq rfl) (hb hby d3_6) (fun _ _ => ⟨rfl, e3, (by decide : 0 + 0 ≤ _), (by decide : 0 + 0 ≤ _)⟩)
  dsimp only [Pt.U, Pt.locs, Pt.cells, Pt.slots] at X4 l4 y4 z4 st4 hQ4
  subst l4 y4 z4
  obtain ⟨rfl, Nq4, e4⟩ := hQ4
  have N4 := Fr.app N0 Nq4
  refine Got.step st4 ?_
  show Got p e below s _ _ _ _ T4 (mkF m 9 #[.val (.ref o0), .val (.long q1), .second] [(.long (f4 t q1)), (.ref o0)])
  obtain ⟨T5, h5, X5, e5, W5, st5⟩ := putF X4 hx hZ hown (host := "") (Or.inl (hw _ (List.mem_of_getElem? (i := 14) rfl))) Via.refl e4 F_term E_o0 (Or.inl (hw _ (List.mem_of_getElem? (i := 15) rfl))) (hw _ (List.mem_of_getElem? (i := 1) rfl)) (ty := .long) (by decide) rfl rfl (g := (mkF m 9 #[.val (.ref o0), .val (.long q1), .second] [(.long (f4 t q1)), (.ref o0)])) rfl rfl (hb hby d3_9)
  have Z0_6 : n0 ≤ h5.size := (Nat.le_trans Z0 (Keep.of_wr W5).1)
  have K0_7 : Keep h0 h5 [o0] := (K0.wr W5 (Or.inl (List.mem_of_getElem? (i := 0) rfl)))
  have E_o0_8 : Exa Z h5 o0 "com/example/glasanje/glasanje/election/MajorityElection$VoteRecord" := (E_o0.wr W5)
  have F_term_9 : Fld Z h5 o0 "com/example/glasanje/glasanje/election/MajorityElection$VoteRecord" "term" "J" (.long (f4 t q1)) := (F_term.same W5)
  have F_forgotten_10 : Fld Z h5 o0 "com/example/glasanje/glasanje/election/MajorityElection$VoteRecord" "forgotten" "Z" (.int fg) := (F_forgotten.other W5 (Or.inr (slot_ne (Or.inl (hw _ (List.mem_of_getElem? (i := 26) rfl))) (Or.inl (hw _ (List.mem_of_getElem? (i := 15) rfl))) (by decide) (t := .boolean) (t' := .long) (by decide) (by decide))))
  have N5 := Fr.snoc X5 N4 gn_o0
  refine Got.step st5 ?_
  show Got p e below s _ _ _ _ T5 (mkF m 12 #[.val (.ref o0), .val (.long q1), .second] [])
  exact Got.retV X5 hx Bd.returns hlk (hb hby d3_12) ⟨N5, by rw [e5]; exact K0_7, by rw [e5]; exact E_o0_8, by rw [e5]; exact F_term_9, by rw [e5]; exact F_forgotten_10⟩ (by decide) (by decide)
def f6 (t : Int64)  : Int64 := t
theorem ef_6 (m : MethodId) (x0 : Addr) : entryFrame m #[(.ref x0)] 1 = mkF m 0 #[.val (.ref x0)] [] := by first | (simp [entryFrame, mkF, argsToLocals, Value.category]; done) | rfl
theorem d6_0 : decode prog_16_method_3_code 0 = .ok (.aload_n 0, 1) := by decide +kernel
theorem d6_1 : decode prog_16_method_3_code 1 = .ok (.getfield 14, 3) := by decide +kernel
theorem d6_4 : decode prog_16_method_3_code 4 = .ok (.lreturn, 1) := by decide +kernel
set_option maxRecDepth 65536 in
set_option maxHeartbeats 40000000 in
theorem rm6 (l : Launch) (Z : State) (a0 : Array Value) (hw : ∀ d ∈ tables_1, d.before a0 Z = true) (ws : List Jvm.Cond) (o0 : Addr) (t : Int64) (h0 : Heap) (n0 : Nat) (Z0 : n0 ≤ h0.size) (E_o0 : Exa Z h0 o0 "com/example/glasanje/glasanje/election/MajorityElection$VoteRecord") (F_term : Fld Z h0 o0 "com/example/glasanje/glasanje/election/MajorityElection$VoteRecord" "term" "J" (.long t))  :
    MetFree l (⟨"com/example/glasanje/glasanje/election/MajorityElection$VoteRecord", "term", "()J"⟩ : MethodName) (head1 (Jvm.Cond.code (⟨"com/example/glasanje/glasanje/election/MajorityElection$VoteRecord", "term", "()J"⟩ : MethodName) prog_16_method_3_code 1 (some .long) :: ws) ({ frames := 0, cells := 0, slots := 0, locals := 0 } : Room)) (fun a U => a = #[(.ref o0)] ∧ Z.Warmed39 U.vm ∧ U.heap = h0) (fun _ _ _ _ _ => True) (fun _ U o U' => ∃ v L, o = .returned v ∧ QV (some (.long (f6 t))) (PureP n0 h0) v U'.heap L ∧ FrameEnd U o U' L ({ frames := 0, cells := 0, slots := 0, locals := 0 } : Room).cells ({ frames := 0, cells := 0, slots := 0, locals := 0 } : Room).slots) := by
  refine MetFree.of_bodySF (plainFor_of_name pn_0) hisR ?_
  intro p e s m args below meth c s₁ Bd hml0 hP hK
  obtain ⟨rfl, hZ, hh⟩ := hP
  have hx := Bd.exec
  have hby := Bd.bytes
  have hml : c.maxLocals = 1 := hml0
  have hown : s.vm.findClass "com/example/glasanje/glasanje/election/MajorityElection$VoteRecord" = some m.cls := findClass_of_methodNamed Bd.named
  have hnm := (name_of_methodNamed Bd.named Bd.method).1
  have hlk : meth.locks = false := BodyLoose.notSynchronized Bd
  have X0 : Stand p l e ({ frames := 0, cells := 0, slots := 0, locals := 0 } : Room) s m #[(.ref o0)] below meth c s₁ [] 0 0 := Stand.of_body Bd
  have e0 : s₁.heap = h0 := by rw [← hh, Bd.state]; rfl
  have N0 := Fr.nil n0
  refine Got.body (ef_6 m o0) ?_
  refine Got.step (T' := s₁) (g' := (mkF m 1 #[.val (.ref o0)] [(.ref o0)])) (fun tq kt => ?_) ?_
  · show Steps p.tables e below (s₁.setTop (mkF m 0 #[.val (.ref o0)] [])) _
    refine XS.aloadN X0.here hx rfl (hb hby d6_0) rfl rfl ?_
    exact kt
  obtain ⟨T11, X11, e11, st11⟩ := getF X0 hx hZ hown (host := "") (Or.inl (hw _ (List.mem_of_getElem? (i := 14) rfl))) Via.refl e0 F_term (g := (mkF m 1 #[.val (.ref o0)] [(.ref o0)])) rfl rfl (hb hby d6_1)
  refine Got.step st11 ?_
  show Got p e below s _ _ _ _ T11 (mkF m 4 #[.val (.ref o0)] [(.long t)])
  exact Got.retJ (y := t) X11 hx Bd.returns hlk (hb hby d6_4) rfl ⟨N0, e11⟩ (by decide) (by decide)
theorem ef_5a (m : MethodId) (x0 : Addr) (x1 : Int64) : entryFrame m #[(.ref x0), (.long x1)] 3 = mkF m 0 #[.val (.ref x0), .val (.long x1), .second] [] := by first | (simp [entryFrame, mkF, argsToLocals, Value.category]; done) | rfl
theorem d5_0 : decode prog_16_method_5_code 0 = .ok (.aload_n 0, 1) := by decide +kernel
theorem d5_1 : decode prog_16_method_5_code 1 = .ok (.getfield 10, 3) := by decide +kernel
theorem d5_4 : decode prog_16_method_5_code 4 = .ok (.ifCond .eq 13, 3) := by decide +kernel
theorem d5_17 : decode prog_16_method_5_code 17 = .ok (.return_, 1) := by decide +kernel
set_option maxRecDepth 65536 in
set_option maxHeartbeats 40000000 in
theorem rm5a (l : Launch) (Z : State) (a0 : Array Value) (hw : ∀ d ∈ tables_1, d.before a0 Z = true) (ws : List Jvm.Cond) (o0 : Addr) (q1 : Int64) (t : Int64) (h0 : Heap) (n0 : Nat) (Z0 : n0 ≤ h0.size) (gn_o0 : n0 ≤ o0) (E_o0 : Exa Z h0 o0 "com/example/glasanje/glasanje/election/MajorityElection$VoteRecord") (F_term : Fld Z h0 o0 "com/example/glasanje/glasanje/election/MajorityElection$VoteRecord" "term" "J" (.long t)) (F_forgotten : Fld Z h0 o0 "com/example/glasanje/glasanje/election/MajorityElection$VoteRecord" "forgotten" "Z" (.int (0 : Int32)))  :
    MetFree l (⟨"com/example/glasanje/glasanje/election/MajorityElection$VoteRecord", "starting", "(J)V"⟩ : MethodName) (head1 (Jvm.Cond.code (⟨"com/example/glasanje/glasanje/election/MajorityElection$VoteRecord", "starting", "(J)V"⟩ : MethodName) prog_16_method_5_code 3 none :: ws) ({ frames := 0, cells := 0, slots := 0, locals := 0 } : Room)) (fun a U => a = #[(.ref o0), (.long q1)] ∧ Z.Warmed39 U.vm ∧ U.heap = h0) (fun _ _ _ _ _ => True) (fun _ U o U' => ∃ v L, o = .returned v ∧ QV none (fun h L => Fr n0 L ∧ Keep h0 h [o0] ∧ Exa Z h o0 "com/example/glasanje/glasanje/election/MajorityElection$VoteRecord" ∧ Fld Z h o0 "com/example/glasanje/glasanje/election/MajorityElection$VoteRecord" "term" "J" (.long t) ∧ Fld Z h o0 "com/example/glasanje/glasanje/election/MajorityElection$VoteRecord" "forgotten" "Z" (.int (0 : Int32))) v U'.heap L ∧ FrameEnd U o U' L ({ frames := 0, cells := 0, slots := 0, locals := 0 } : Room).cells ({ frames := 0, cells := 0, slots := 0, locals := 0 } : Room).slots) := by
  refine MetFree.of_bodySF (plainFor_of_name pn_0) hisR ?_
  intro p e s m args below meth c s₁ Bd hml0 hP hK
  obtain ⟨rfl, hZ, hh⟩ := hP
  have hx := Bd.exec
  have hby := Bd.bytes
  have hml : c.maxLocals = 3 := hml0
  have hown : s.vm.findClass "com/example/glasanje/glasanje/election/MajorityElection$VoteRecord" = some m.cls := findClass_of_methodNamed Bd.named
  have hnm := (name_of_methodNamed Bd.named Bd.method).1
  have hlk : meth.locks = false := BodyLoose.notSynchronized Bd
  have X0 : Stand p l e ({ frames := 0, cells := 0, slots := 0, locals := 0 } : Room) s m #[(.ref o0), (.long q1)] below meth c s₁ [] 0 0 := Stand.of_body Bd
  have e0 : s₁.heap = h0 := by rw [← hh, Bd.state]; rfl
  have N0 := Fr.nil n0
  refine Got.body (ef_5a m o0 q1) ?_
  have K0 := Keep.refl h0 [o0]
  refine Got.step (T' := s₁) (g' := (mkF m 1 #[.val (.ref o0), .val (.long q1), .second] [(.ref o0)])) (fun tq kt => ?_) ?_
  · show Steps p.tables e below (s₁.setTop (mkF m 0 #[.val (.ref o0), .val (.long q1), .second] [])) _
    refine XS.aloadN X0.here hx rfl (hb hby d5_0) rfl rfl ?_
    exact kt
  obtain ⟨T12, X12, e12, st12⟩ := getF X0 hx hZ hown (host := "") (Or.inl (hw _ (List.mem_of_getElem? (i := 25) rfl))) Via.refl e0 F_forgotten (g := (mkF m 1 #[.val (.ref o0), .val (.long q1), .second] [(.ref o0)])) rfl rfl (hb hby d5_1)
  refine Got.step st12 ?_
  show Got p e below s _ _ _ _ T12 (mkF m 4 #[.val (.ref o0), .val (.long q1), .second] [(.int (0 : Int32))])
  refine Got.step (T' := T12) (g' := (mkF m 17 #[.val (.ref o0), .val (.long q1), .second] [])) (fun tq kt => ?_) ?_
  · show Steps p.tables e below (T12.setTop (mkF m 4 #[.val (.ref o0), .val (.long q1), .second] [(.int (0 : Int32))])) _
    refine XS.ifYes X12.here hx rfl (pc0 := 4) (pc' := 17) rfl (hb hby d5_4) rfl (XT.i0_eq_t (by decide)) (by decide) (by decide) ?_
    exact kt
  exact Got.retV X12 hx Bd.returns hlk (hb hby d5_17) ⟨N0, by rw [e12]; exact K0, by rw [e12]; exact E_o0, by rw [e12]; exact F_term, by rw [e12]; exact F_forgotten⟩ (by decide) (by decide)
theorem pd_1 : parseMethodDescriptor "(J)V" = some ⟨[.long], none⟩ := by decide +kernel
theorem ef_5b (m : MethodId) (x0 : Addr) (x1 : Int64) : entryFrame m #[(.ref x0), (.long x1)] 3 = mkF m 0 #[.val (.ref x0), .val (.long x1), .second] [] := by first | (simp [entryFrame, mkF, argsToLocals, Value.category]; done) | rfl
theorem d5_7 : decode prog_16_method_5_code 7 = .ok (.aload_n 0, 1) := by decide +kernel
theorem d5_8 : decode prog_16_method_5_code 8 = .ok (.iconst 0, 1) := by decide +kernel
theorem d5_9 : decode prog_16_method_5_code 9 = .ok (.putfield 10, 3) := by decide +kernel
theorem d5_12 : decode prog_16_method_5_code 12 = .ok (.aload_n 0, 1) := by decide +kernel
theorem d5_13 : decode prog_16_method_5_code 13 = .ok (.lload_n 1, 1) := by decide +kernel
theorem d5_14 : decode prog_16_method_5_code 14 = .ok (.invokevirtual 24, 3) := by decide +kernel
set_option maxRecDepth 65536 in
set_option maxHeartbeats 40000000 in
theorem rm5b (l : Launch) (Z : State) (a0 : Array Value) (hw : ∀ d ∈ tables_1, d.before a0 Z = true) (ws : List Jvm.Cond) (o0 : Addr) (q1 : Int64) (t : Int64) (h0 : Heap) (n0 : Nat) (Z0 : n0 ≤ h0.size) (gn_o0 : n0 ≤ o0) (E_o0 : Exa Z h0 o0 "com/example/glasanje/glasanje/election/MajorityElection$VoteRecord") (F_term : Fld Z h0 o0 "com/example/glasanje/glasanje/election/MajorityElection$VoteRecord" "term" "J" (.long t)) (F_forgotten : Fld Z h0 o0 "com/example/glasanje/glasanje/election/MajorityElection$VoteRecord" "forgotten" "Z" (.int (1 : Int32)))  :
    MetFree l (⟨"com/example/glasanje/glasanje/election/MajorityElection$VoteRecord", "starting", "(J)V"⟩ : MethodName) (head1 (Jvm.Cond.code (⟨"com/example/glasanje/glasanje/election/MajorityElection$VoteRecord", "starting", "(J)V"⟩ : MethodName) prog_16_method_5_code 3 none :: ws) ({ frames := 2, cells := 0, slots := 0, locals := 30 } : Room)) (fun a U => a = #[(.ref o0), (.long q1)] ∧ Z.Warmed39 U.vm ∧ U.heap = h0) (fun _ _ _ _ _ => True) (fun _ U o U' => ∃ v L, o = .returned v ∧ QV none (fun h L => Fr n0 L ∧ Keep h0 h [o0] ∧ Exa Z h o0 "com/example/glasanje/glasanje/election/MajorityElection$VoteRecord" ∧ Fld Z h o0 "com/example/glasanje/glasanje/election/MajorityElection$VoteRecord" "term" "J" (.long (f4 t q1)) ∧ Fld Z h o0 "com/example/glasanje/glasanje/election/MajorityElection$VoteRecord" "forgotten" "Z" (.int (0 : Int32))) v U'.heap L ∧ FrameEnd U o U' L ({ frames := 2, cells := 0, slots := 0, locals := 30 } : Room).cells ({ frames := 2, cells := 0, slots := 0, locals := 30 } : Room).slots) := by
  refine MetFree.of_bodySF (plainFor_of_name pn_0) hisR ?_
  intro p e s m args below meth c s₁ Bd hml0 hP hK
  obtain ⟨rfl, hZ, hh⟩ := hP
  have hx := Bd.exec
  have hby := Bd.bytes
  have hml : c.maxLocals = 3 := hml0
  have hown : s.vm.findClass "com/example/glasanje/glasanje/election/MajorityElection$VoteRecord" = some m.cls := findClass_of_methodNamed Bd.named
  have hnm := (name_of_methodNamed Bd.named Bd.method).1
  have hlk : meth.locks = false := BodyLoose.notSynchronized Bd
  have X0 : Stand p l e ({ frames := 2, cells := 0, slots := 0, locals := 30 } : Room) s m #[(.ref o0), (.long q1)] below meth c s₁ [] 0 0 := Stand.of_body Bd
  have e0 : s₁.heap = h0 := by rw [← hh, Bd.state]; rfl
  have N0 := Fr.nil n0
  refine Got.body (ef_5b m o0 q1) ?_
  have K0 := Keep.refl h0 [o0]
  refine Got.step (T' := s₁) (g' := (mkF m 1 #[.val (.ref o0), .val (.long q1), .second] [(.ref o0)])) (fun tq kt => ?_) ?_
  · show Steps p.tables e below (s₁.setTop (mkF m 0 #[.val (.ref o0), .val (.long q1), .second] [])) _
    refine XS.aloadN X0.here hx rfl (hb hby d5_0) rfl rfl ?_
    exact kt
  obtain ⟨T13, X13, e13, st13⟩ := getF X0 hx hZ hown (host := "") (Or.inl (hw _ (List.mem_of_getElem? (i := 25) rfl))) Via.refl e0 F_forgotten (g := (mkF m 1 #[.val (.ref o0), .val (.long q1), .second] [(.ref o0)])) rfl rfl (hb hby d5_1)
  refine Got.step st13 ?_
  show Got p e below s _ _ _ _ T13 (mkF m 4 #[.val (.ref o0), .val (.long q1), .second] [(.int (1 : Int32))])
  refine Got.step (T' := T13) (g' := (mkF m 9 #[.val (.ref o0), .val (.long q1), .second] [(.int (0 : Int32)), (.ref o0)])) (fun tq kt => ?_) ?_
  · show Steps p.tables e below (T13.setTop (mkF m 4 #[.val (.ref o0), .val (.long q1), .second] [(.int (1 : Int32))])) _
    refine XS.ifNo X13.here hx rfl (hb hby d5_4) rfl (XT.i0_eq_f (by decide)) ?_
    show Steps p.tables e below (T13.setTop (mkF m 7 #[.val (.ref o0), .val (.long q1), .second] [])) _
    refine XS.aloadN X13.here hx rfl (hb hby d5_7) rfl rfl ?_
    show Steps p.tables e below (T13.setTop (mkF m 8 #[.val (.ref o0), .val (.long q1), .second] [(.ref o0)])) _
    refine XS.iconst X13.here hx rfl (hb hby d5_8) ?_
    exact kt
  obtain ⟨T14, h14, X14, e14, W14, st14⟩ := putFN X13 hx hZ hown (hw _ (List.mem_of_getElem? (i := 25) rfl)) Via.refl e13 F_forgotten E_o0 (Or.inl (hw _ (List.mem_of_getElem? (i := 26) rfl))) (hw _ (List.mem_of_getElem? (i := 1) rfl)) (ty := .boolean) (v' := (.int (0 : Int32))) (by decide) rfl (by decide) (g := (mkF m 9 #[.val (.ref o0), .val (.long q1), .second] [(.int (0 : Int32)), (.ref o0)])) rfl rfl (hb hby d5_9)
  have Z0_15 : n0 ≤ h14.size := (Nat.le_trans Z0 (Keep.of_wr W14).1)
  have K0_16 : Keep h0 h14 [o0] := (K0.wr W14 (Or.inl (List.mem_of_getElem? (i := 0) rfl)))
  have E_o0_17 : Exa Z h14 o0 "com/example/glasanje/glasanje/election/MajorityElection$VoteRecord" := (E_o0.wr W14)
  have F_term_18 : Fld Z h14 o0 "com/example/glasanje/glasanje/election/MajorityElection$VoteRecord" "term" "J" (.long t) := (F_term.other W14 (Or.inr (slot_ne (Or.inl (hw _ (List.mem_of_getElem? (i := 15) rfl))) (Or.inl (hw _ (List.mem_of_getElem? (i := 26) rfl))) (by decide) (t := .long) (t' := .boolean) (by decide) (by decide))))
  have F_forgotten_19 : Fld Z h14 o0 "com/example/glasanje/glasanje/election/MajorityElection$VoteRecord" "forgotten" "Z" (.int (0 : Int32)) := (F_forgotten.same W14)
  have N14 := Fr.snoc X14 N0 gn_o0
  refine Got.step st14 ?_
  show Got p e below s _ _ _ _ T14 (mkF m 12 #[.val (.ref o0), .val (.long q1), .second] [])
  refine Got.step (T' := T14) (g' := (mkF m 14 #[.val (.ref o0), .val (.long q1), .second] [(.long q1), (.ref o0)])) (fun tq kt => ?_) ?_
  · show Steps p.tables e below (T14.setTop (mkF m 12 #[.val (.ref o0), .val (.long q1), .second] [])) _
    refine XS.aloadN X14.here hx rfl (hb hby d5_12) rfl rfl ?_
    show Steps p.tables e below (T14.setTop (mkF m 13 #[.val (.ref o0), .val (.long q1), .second] [(.ref o0)])) _
    refine XS.lloadN X14.here hx rfl (hb hby d5_13) rfl ?_
    exact kt
  obtain ⟨cq20, kq20, qa20, qb20, qc20⟩ := isOf hZ e14 E_o0_17
  obtain ⟨_, _, ⟨T20, L20, k20, n20⟩, -, X20, ⟨Lc20, hQ20, l20, y20, z20⟩, st20⟩ := X14.virtualBack hx (y := (⟨"com/example/glasanje/glasanje/election/MajorityElection$VoteRecord", "voted", "(J)V"⟩ : MethodName)) (z := (⟨"com/example/glasanje/glasanje/election/MajorityElection$VoteRecord", "voted", "(J)V"⟩ : MethodName)) hown (mvT hZ (hw _ (List.mem_of_getElem? (i := 37) rfl))) (mvT hZ (hw _ (List.mem_of_getElem? (i := 10) rfl))) (notFace_of_selects (args := #[]) (mvT hZ (hw _ (List.mem_of_getElem? (i := 12) rfl)))) (mvT hZ (hw _ (List.mem_of_getElem? (i := 12) rfl))) (mvT hZ (hw _ (List.mem_of_getElem? (i := 11) rfl))) (by decide) (backOf (W := 0) (rm3 l Z a0 hw [] o0 q1 t (0 : Int32) h14 n0 Z0_15 gn_o0 E_o0_17 F_term_18 F_forgotten_19 ) hZ (hw _ (List.mem_of_getElem? (i := 13) rfl)) (hw _ (List.mem_of_getElem? (i := 2) rfl)) (by decide) (by decide)) qa20 qc20 (g := (mkF m 14 #[.val (.ref o0), .val (.long q1), .second] [(.long q1), (.ref o0)])) rfl (by rw [hml]; rfl) (Steps.refl _) (argsL := [(.long q1)]) (rest := []) (lenOf pd_1 rfl) rfl (by show 2 * 0 + _ ≤ _; exact Nat.le_of_eq rfl) (hb hby d5_14) (fun _ _ => ⟨rfl, e14, (by decide : 0 + 0 ≤ _), (by decide : 0 + 0 ≤ _)⟩)
  dsimp only [Pt.U, Pt.locs, Pt.cells, Pt.slots] at X20 l20 y20 z20 st20 hQ20
  subst l20 y20 z20
  obtain ⟨h20, e20⟩ : ∃ z, T20.heap = z := ⟨_, rfl⟩
  rw [e20] at hQ20
  obtain ⟨rfl, Nq20, K20, E20, G20_term, G20_forgotten⟩ := hQ20
  have N20 := Fr.app N14 Nq20
  have Z0_21 : n0 ≤ h20.size := (Nat.le_trans Z0_15 K20.1)
  have K0_22 : Keep h0 h20 [o0] := (K0_16.trans K20 (allS (Or.inl (List.mem_of_getElem? (i := 0) rfl)) all0))
  have E_o0_23 : Exa Z h20 o0 "com/example/glasanje/glasanje/election/MajorityElection$VoteRecord" := (E_o0_17.keep K20)
  refine Got.hop st20 ?_
  show Got p e below s _ _ _ _ T20 (mkF m 17 #[.val (.ref o0), .val (.long q1), .second] [])
  exact Got.retV X20 hx Bd.returns hlk (hb hby d5_17) ⟨N20, by rw [e20]; exact K0_22, by rw [e20]; exact E_o0_23, by rw [e20]; exact G20_term, by rw [e20]; exact G20_forgotten⟩ (by decide) (by decide)
theorem pd_2 : parseMethodDescriptor "()V" = some ⟨[], none⟩ := by decide +kernel
theorem ef_7 (m : MethodId)  : entryFrame m #[] 1 = mkF m 0 #[.unset] [] := by first | (simp [entryFrame, mkF, argsToLocals, Value.category]; done) | rfl
theorem d7_0 : decode prog_16_method_2_code 0 = .ok (.new 7, 3) := by decide +kernel
theorem d7_3 : decode prog_16_method_2_code 3 = .ok (.dup, 1) := by decide +kernel
theorem d7_4 : decode prog_16_method_2_code 4 = .ok (.invokespecial 9, 3) := by decide +kernel
theorem d7_7 : decode prog_16_method_2_code 7 = .ok (.astore_n 0, 1) := by decide +kernel
theorem d7_8 : decode prog_16_method_2_code 8 = .ok (.aload_n 0, 1) := by decide +kernel
theorem d7_9 : decode prog_16_method_2_code 9 = .ok (.iconst 1, 1) := by decide +kernel
theorem d7_10 : decode prog_16_method_2_code 10 = .ok (.putfield 10, 3) := by decide +kernel
theorem d7_13 : decode prog_16_method_2_code 13 = .ok (.aload_n 0, 1) := by decide +kernel
theorem d7_14 : decode prog_16_method_2_code 14 = .ok (.areturn, 1) := by decide +kernel
set_option maxRecDepth 65536 in
set_option maxHeartbeats 40000000 in
theorem rm7 (l : Launch) (Z : State) (a0 : Array Value) (hw : ∀ d ∈ tables_1, d.before a0 Z = true) (ws : List Jvm.Cond)  (h0 : Heap) (n0 : Nat) (Z0 : n0 ≤ h0.size)  :
    MetFree l (⟨"com/example/glasanje/glasanje/election/MajorityElection$VoteRecord", "forgotten", "()Lcom/example/glasanje/glasanje/election/MajorityElection$VoteRecord;"⟩ : MethodName) (head1 (Jvm.Cond.code (⟨"com/example/glasanje/glasanje/election/MajorityElection$VoteRecord", "forgotten", "()Lcom/example/glasanje/glasanje/election/MajorityElection$VoteRecord;"⟩ : MethodName) prog_16_method_2_code 1 (some (.object "com/example/glasanje/glasanje/election/MajorityElection$VoteRecord")) :: ws) ({ frames := 2, cells := 1, slots := 2, locals := 25 } : Room)) (fun a U => a = #[] ∧ Z.Warmed39 U.vm ∧ U.heap = h0) (fun _ _ _ _ _ => True) (fun _ U o U' => ∃ v L, o = .returned v ∧ QV (some (.ref h0.size)) (fun h L => Fr n0 L ∧ Keep h0 h [] ∧ Exa Z h h0.size "com/example/glasanje/glasanje/election/MajorityElection$VoteRecord" ∧ Fld Z h h0.size "com/example/glasanje/glasanje/election/MajorityElection$VoteRecord" "term" "J" (.long (0 : Int64)) ∧ Fld Z h h0.size "com/example/glasanje/glasanje/election/MajorityElection$VoteRecord" "forgotten" "Z" (.int (1 : Int32))) v U'.heap L ∧ FrameEnd U o U' L ({ frames := 2, cells := 1, slots := 2, locals := 25 } : Room).cells ({ frames := 2, cells := 1, slots := 2, locals := 25 } : Room).slots) := by
  refine MetFree.of_bodySF (plainFor_of_name pn_0) hisR ?_
  intro p e s m args below meth c s₁ Bd hml0 hP hK
  obtain ⟨rfl, hZ, hh⟩ := hP
  have hx := Bd.exec
  have hby := Bd.bytes
  have hml : c.maxLocals = 1 := hml0
  have hown : s.vm.findClass "com/example/glasanje/glasanje/election/MajorityElection$VoteRecord" = some m.cls := findClass_of_methodNamed Bd.named
  have hnm := (name_of_methodNamed Bd.named Bd.method).1
  have hlk : meth.locks = false := BodyLoose.notSynchronized Bd
  have X0 : Stand p l e ({ frames := 2, cells := 1, slots := 2, locals := 25 } : Room) s m #[] below meth c s₁ [] 0 0 := Stand.of_body Bd
  have e0 : s₁.heap = h0 := by rw [← hh, Bd.state]; rfl
  have N0 := Fr.nil n0
  refine Got.body (ef_7 m ) ?_
  have K0 := Keep.refl h0 []
  obtain ⟨T24, h24, X24, e24, E24, A24, D24, -, st24⟩ := newO X0 hx hZ hown (hw _ (List.mem_of_getElem? (i := 35) rfl)) (hw _ (List.mem_of_getElem? (i := 1) rfl)) (hw _ (List.mem_of_getElem? (i := 2) rfl)) e0 (g := (mkF m 0 #[.unset] [])) rfl (hb hby d7_0) (by decide) (by decide)
  obtain ⟨b24, g24⟩ : ∃ z, z = h0.size := ⟨_, rfl⟩
  rw [← g24] at A24 D24 st24
  have gn_b24 : n0 ≤ b24 := by rw [g24]; exact Z0
  have sz_b24 : h0.size ≤ b24 := by rw [g24]; exact K0.1
  have Z0_25 : n0 ≤ h24.size := (Nat.le_trans Z0 E24.1)
  have K0_26 : Keep h0 h24 [] := (K0.ext E24)
  have F24_term : Fld Z h24 b24 "com/example/glasanje/glasanje/election/MajorityElection$VoteRecord" "term" "J" (.long (0 : Int64)) := D24 (Or.inl (hw _ (List.mem_of_getElem? (i := 15) rfl))) (ty := .long) (by decide)
  have F24_forgotten : Fld Z h24 b24 "com/example/glasanje/glasanje/election/MajorityElection$VoteRecord" "forgotten" "Z" (.int (0 : Int32)) := D24 (Or.inl (hw _ (List.mem_of_getElem? (i := 26) rfl))) (ty := .boolean) (by decide)
  refine Got.step st24 ?_
  show Got p e below s _ _ _ _ T24 (mkF m 3 #[.unset] [(.ref b24)])
  refine Got.step (T' := T24) (g' := (mkF m 4 #[.unset] [(.ref b24), (.ref b24)])) (fun tq kt => ?_) ?_
  · show Steps p.tables e below (T24.setTop (mkF m 3 #[.unset] [(.ref b24)])) _
    refine XS.dup X24.here hx rfl (hb hby d7_3) rfl rfl ?_
    exact kt
  obtain ⟨_, _, ⟨T27, L27, k27, n27⟩, -, X27, ⟨Lc27, hQ27, l27, y27, z27⟩, st27⟩ := X24.specialBack hx (y := (⟨"com/example/glasanje/glasanje/election/MajorityElection$VoteRecord", "<init>", "()V"⟩ : MethodName)) rfl hown (mvT hZ (hw _ (List.mem_of_getElem? (i := 36) rfl))) (mvT hZ (hw _ (List.mem_of_getElem? (i := 4) rfl))) (mvT hZ (hw _ (List.mem_of_getElem? (i := 5) rfl))) (by decide) (backOf (W := 1) (rm1 l Z a0 hw [] b24 h24 n0 Z0_25 gn_b24 A24 F24_term F24_forgotten ) hZ (hw _ (List.mem_of_getElem? (i := 5) rfl)) (hw _ (List.mem_of_getElem? (i := 2) rfl)) (by decide) (by decide)) (g := (mkF m 4 #[.unset] [(.ref b24), (.ref b24)])) rfl (by rw [hml]; rfl) (Steps.refl _) (a := b24) (argsL := []) (rest := [(.ref b24)]) (lenOf pd_2 rfl) rfl (by show 2 * 0 + _ ≤ _; exact Nat.le_of_eq rfl) (hb hby d7_4) (fun _ _ => ⟨rfl, e24, (by decide : 1 + 0 ≤ _), (by decide : 2 + 0 ≤ _)⟩)
  dsimp only [Pt.U, Pt.locs, Pt.cells, Pt.slots] at X27 l27 y27 z27 st27 hQ27
  subst l27 y27 z27
  obtain ⟨h27, e27⟩ : ∃ z, T27.heap = z := ⟨_, rfl⟩
  rw [e27] at hQ27
  obtain ⟨rfl, Nq27, K27, E27, G27_term, G27_forgotten⟩ := hQ27
  have N27 := Fr.app N0 Nq27
  have Z0_28 : n0 ≤ h27.size := (Nat.le_trans Z0_25 K27.1)
  have K0_29 : Keep h0 h27 [] := (K0_26.trans K27 (allS (Or.inr sz_b24) all0))
  have A24_30 : Exa Z h27 b24 "com/example/glasanje/glasanje/election/MajorityElection$VoteRecord" := (A24.keep K27)
  refine Got.hop st27 ?_
  show Got p e below s _ _ _ _ T27 (mkF m 7 #[.unset] [(.ref b24)])
  refine Got.step (T' := T27) (g' := (mkF m 10 #[.val (.ref b24)] [(.int (1 : Int32)), (.ref b24)])) (fun tq kt => ?_) ?_
  · show Steps p.tables e below (T27.setTop (mkF m 7 #[.unset] [(.ref b24)])) _
    refine XS.astoreN X27.here hx rfl (hb hby d7_7) rfl rfl (l' := #[.val (.ref b24)]) rfl ?_
    show Steps p.tables e below (T27.setTop (mkF m 8 #[.val (.ref b24)] [])) _
    refine XS.aloadN X27.here hx rfl (hb hby d7_8) rfl rfl ?_
    show Steps p.tables e below (T27.setTop (mkF m 9 #[.val (.ref b24)] [(.ref b24)])) _
    refine XS.iconst X27.here hx rfl (hb hby d7_9) ?_
    exact kt
  obtain ⟨T31, h31, X31, e31, W31, st31⟩ := putFN X27 hx hZ hown (hw _ (List.mem_of_getElem? (i := 25) rfl)) Via.refl e27 G27_forgotten A24_30 (Or.inl (hw _ (List.mem_of_getElem? (i := 26) rfl))) (hw _ (List.mem_of_getElem? (i := 1) rfl)) (ty := .boolean) (v' := (.int (1 : Int32))) (by decide) rfl (by decide) (g := (mkF m 10 #[.val (.ref b24)] [(.int (1 : Int32)), (.ref b24)])) rfl rfl (hb hby d7_10)
  have Z0_32 : n0 ≤ h31.size := (Nat.le_trans Z0_28 (Keep.of_wr W31).1)
  have K0_33 : Keep h0 h31 [] := (K0_29.wr W31 (Or.inr sz_b24))
  have A24_34 : Exa Z h31 b24 "com/example/glasanje/glasanje/election/MajorityElection$VoteRecord" := (A24_30.wr W31)
  have G27_term_35 : Fld Z h31 b24 "com/example/glasanje/glasanje/election/MajorityElection$VoteRecord" "term" "J" (.long (0 : Int64)) := (G27_term.other W31 (Or.inr (slot_ne (Or.inl (hw _ (List.mem_of_getElem? (i := 15) rfl))) (Or.inl (hw _ (List.mem_of_getElem? (i := 26) rfl))) (by decide) (t := .long) (t' := .boolean) (by decide) (by decide))))
  have G27_forgotten_36 : Fld Z h31 b24 "com/example/glasanje/glasanje/election/MajorityElection$VoteRecord" "forgotten" "Z" (.int (1 : Int32)) := (G27_forgotten.same W31)
  have N31 := Fr.snoc X31 N27 gn_b24
  refine Got.step st31 ?_
  show Got p e below s _ _ _ _ T31 (mkF m 13 #[.val (.ref b24)] [])
  refine Got.step (T' := T31) (g' := (mkF m 14 #[.val (.ref b24)] [(.ref b24)])) (fun tq kt => ?_) ?_
  · show Steps p.tables e below (T31.setTop (mkF m 13 #[.val (.ref b24)] [])) _
    refine XS.aloadN X31.here hx rfl (hb hby d7_13) rfl rfl ?_
    exact kt
  rw [← g24]
  exact Got.retA X31 hx Bd.returns rfl hlk (hb hby d7_14) rfl ⟨N31, by rw [e31]; exact K0_33, by rw [e31]; exact A24_34, by rw [e31]; exact G27_term_35, by rw [e31]; exact G27_forgotten_36⟩ (by decide) (by decide)
theorem own_p (q0 q1 q2 : Int64) (p3 : Int32) {k : Int32} {v w : Int64} (hk : k = (if (p3 &&& (2 : Int32)) = 0 then (0 : Int32) else (1 : Int32))) (hv : v = (if k = 0 then (0 : Int64) else (if (0 : Int64) < q0 then q0 else (0 : Int64)))) (hw : w = (if k = 0 then (0 : Int64) else (if (0 : Int64) < q0 then (f4 (0 : Int64) q0) else (f4 (0 : Int64) q0)))) : f6 w = v := by
  rw [hv, hw, f6, f4]
  by_cases h0 : k = 0
  · rw [if_pos h0, if_pos h0]
  · rw [if_neg h0, if_neg h0]
    by_cases h1 : (0 : Int64) < q0
    · rw [if_pos h1, if_pos h1]
    · rw [if_neg h1, if_neg h1]
theorem own_q (q0 q1 q2 : Int64) (p3 : Int32) {k : Int32} {v w x : Int64} (hk : k = (if (p3 &&& (2 : Int32)) = 0 then (0 : Int32) else (1 : Int32))) (hv : v = (if k = 0 then (0 : Int64) else (if (0 : Int64) < q0 then q0 else (0 : Int64)))) (hw : w = (if k = 0 then (0 : Int64) else (if (0 : Int64) < q0 then (f4 (0 : Int64) q0) else (f4 (0 : Int64) q0)))) (hx : x = (if v < q1 then q1 else v)) : f6 (f4 w q1) = x := by
  have e : w = v := own_p q0 q1 q2 p3 hk hv hw
  rw [hx, e, f6, f4]

theorem pd_3 : parseMethodDescriptor "()J" = some ⟨[], some .long⟩ := by decide +kernel
theorem pd_4 : parseMethodDescriptor "()Lcom/example/glasanje/glasanje/election/MajorityElection$VoteRecord;" = some ⟨[], some (.object "com/example/glasanje/glasanje/election/MajorityElection$VoteRecord")⟩ := by decide +kernel
theorem ef_0 (m : MethodId) (x0 : Int64) (x1 : Int64) (x2 : Int64) (x3 : Int32) : entryFrame m #[(.long x0), (.long x1), (.long x2), (.int x3)] maxLocals = mkF m 0 #[.val (.long x0), .second, .val (.long x1), .second, .val (.long x2), .second, .val (.int x3), .unset, .unset, .unset, .unset, .unset, .unset, .unset, .unset, .unset, .unset, .unset] [] := by first | (simp [entryFrame, mkF, argsToLocals, Value.category, maxLocals]; done) | rfl
theorem pn_1 : plainName "com/example/glasanje/glasanje/election/VoteRecordStartingPinLaw" = true := by first | (simp [plainName, overriddenIn]; done) | decide +kernel
set_option maxRecDepth 65536 in
set_option maxHeartbeats 40000000 in
theorem rm0 (l : Launch) (Z : State) (a0 : Array Value) (hw : ∀ d ∈ tables_1, d.before a0 Z = true) (ws : List Jvm.Cond) (q0 q1 q2 : Int64) (p3 : Int32) (h0 : Heap) (n0 : Nat) (Z0 : n0 ≤ h0.size)  :
    MetFree l x (head1 (Jvm.Cond.code x code maxLocals ret :: ws) room_1) (fun a U => a = #[(.long q0), (.long q1), (.long q2), (.int p3)] ∧ Z.Warmed39 U.vm ∧ U.heap = h0) (fun _ _ _ _ _ => True) (fun _ U o U' => ∃ v L, o = .returned v ∧ QV (some (.int (1 : Int32))) (fun _ L => Fr n0 L) v U'.heap L ∧ FrameEnd U o U' L room_1.cells room_1.slots) := by
  refine MetFree.of_bodySF (plainFor_of_name pn_1) hisR ?_
  intro p e s m args below meth c s₁ Bd hml0 hP hK
  obtain ⟨rfl, hZ, hh⟩ := hP
  have hx := Bd.exec
  have hby := Bd.bytes
  have hml : c.maxLocals = 18 := hml0
  have hown : s.vm.findClass "com/example/glasanje/glasanje/election/VoteRecordStartingPinLaw" = some m.cls := findClass_of_methodNamed Bd.named
  have hnm := (name_of_methodNamed Bd.named Bd.method).1
  have hlk : meth.locks = false := BodyLoose.notSynchronized Bd
  have X0 : Stand p l e room_1 s m #[(.long q0), (.long q1), (.long q2), (.int p3)] below meth c s₁ [] 0 0 := Stand.of_body Bd
  have e0 : s₁.heap = h0 := by rw [← hh, Bd.state]; rfl
  have N0 := Fr.nil n0
  refine Got.body (ef_0 m q0 q1 q2 p3) ?_
  refine Got.step (T' := s₁) (g' := (mkF m 4 #[.val (.long q0), .second, .val (.long q1), .second, .val (.long q2), .second, .val (.int p3), .unset, .unset, .unset, .unset, .unset, .unset, .unset, .unset, .unset, .unset, .unset] [(.int (p3 &&& (1 : Int32)))])) (fun tq kt => ?_) ?_
  · show Steps p.tables e below (s₁.setTop (mkF m 0 #[.val (.long q0), .second, .val (.long q1), .second, .val (.long q2), .second, .val (.int p3), .unset, .unset, .unset, .unset, .unset, .unset, .unset, .unset, .unset, .unset, .unset] [])) _
    refine XS.iload X0.here hx rfl (hb hby at_0) rfl ?_
    show Steps p.tables e below (s₁.setTop (mkF m 2 #[.val (.long q0), .second, .val (.long q1), .second, .val (.long q2), .second, .val (.int p3), .unset, .unset, .unset, .unset, .unset, .unset, .unset, .unset, .unset, .unset, .unset] [(.int p3)])) _
    refine XS.iconst X0.here hx rfl (hb hby at_2) ?_
    show Steps p.tables e below (s₁.setTop (mkF m 3 #[.val (.long q0), .second, .val (.long q1), .second, .val (.long q2), .second, .val (.int p3), .unset, .unset, .unset, .unset, .unset, .unset, .unset, .unset, .unset, .unset, .unset] [(.int (1 : Int32)), (.int p3)])) _
    refine XS.iand X0.here hx rfl (hb hby at_3) rfl ?_
    exact kt
  by_cases hc37 : ((p3 &&& (1 : Int32)) = 0)
  · refine Got.step (T' := s₁) (g' := (mkF m 18 #[.val (.long q0), .second, .val (.long q1), .second, .val (.long q2), .second, .val (.int p3), .val (.int (0 : Int32)), .unset, .unset, .unset, .unset, .unset, .unset, .unset, .unset, .unset, .unset] [(.int (p3 &&& (2 : Int32)))])) (fun tq kt => ?_) ?_
    · show Steps p.tables e below (s₁.setTop (mkF m 4 #[.val (.long q0), .second, .val (.long q1), .second, .val (.long q2), .second, .val (.int p3), .unset, .unset, .unset, .unset, .unset, .unset, .unset, .unset, .unset, .unset, .unset] [(.int (p3 &&& (1 : Int32)))])) _
      refine XS.ifYes X0.here hx rfl (pc0 := 4) (pc' := 11) rfl (hb hby at_4) rfl (XT.i0_eq_t hc37) (by decide) (by decide) ?_
      show Steps p.tables e below (s₁.setTop (mkF m 11 #[.val (.long q0), .second, .val (.long q1), .second, .val (.long q2), .second, .val (.int p3), .unset, .unset, .unset, .unset, .unset, .unset, .unset, .unset, .unset, .unset, .unset] [])) _
      refine XS.iconst X0.here hx rfl (hb hby at_11) ?_
      show Steps p.tables e below (s₁.setTop (mkF m 12 #[.val (.long q0), .second, .val (.long q1), .second, .val (.long q2), .second, .val (.int p3), .unset, .unset, .unset, .unset, .unset, .unset, .unset, .unset, .unset, .unset, .unset] [(.int (0 : Int32))])) _
      refine XS.istore X0.here hx rfl (hb hby at_12) rfl (l' := #[.val (.long q0), .second, .val (.long q1), .second, .val (.long q2), .second, .val (.int p3), .val (.int (0 : Int32)), .unset, .unset, .unset, .unset, .unset, .unset, .unset, .unset, .unset, .unset]) rfl ?_
      show Steps p.tables e below (s₁.setTop (mkF m 14 #[.val (.long q0), .second, .val (.long q1), .second, .val (.long q2), .second, .val (.int p3), .val (.int (0 : Int32)), .unset, .unset, .unset, .unset, .unset, .unset, .unset, .unset, .unset, .unset] [])) _
      refine XS.iload X0.here hx rfl (hb hby at_14) rfl ?_
      show Steps p.tables e below (s₁.setTop (mkF m 16 #[.val (.long q0), .second, .val (.long q1), .second, .val (.long q2), .second, .val (.int p3), .val (.int (0 : Int32)), .unset, .unset, .unset, .unset, .unset, .unset, .unset, .unset, .unset, .unset] [(.int p3)])) _
      refine XS.iconst X0.here hx rfl (hb hby at_16) ?_
      show Steps p.tables e below (s₁.setTop (mkF m 17 #[.val (.long q0), .second, .val (.long q1), .second, .val (.long q2), .second, .val (.int p3), .val (.int (0 : Int32)), .unset, .unset, .unset, .unset, .unset, .unset, .unset, .unset, .unset, .unset] [(.int (2 : Int32)), (.int p3)])) _
      refine XS.iand X0.here hx rfl (hb hby at_17) rfl ?_
      exact kt
    have J38 : ∀ (k38_0 : Int32), k38_0 = (if (p3 &&& (2 : Int32)) = 0 then (0 : Int32) else (1 : Int32)) → Got p e below s (fun _ L => Fr n0 L) room_1.cells room_1.slots (some (.int (1 : Int32))) s₁ (mkF m 26 #[.val (.long q0), .second, .val (.long q1), .second, .val (.long q2), .second, .val (.int p3), .val (.int (0 : Int32)), .unset, .unset, .unset, .unset, .unset, .unset, .unset, .unset, .unset, .unset] [(.int k38_0)]) := by
      intro k38_0 hk38_0
      refine Got.step (T' := s₁) (g' := (mkF m 39 #[.val (.long q0), .second, .val (.long q1), .second, .val (.long q2), .second, .val (.int p3), .val (.int (0 : Int32)), .val (.int k38_0), .unset, .unset, .unset, .unset, .unset, .unset, .unset, .unset, .unset] [])) (fun tq kt => ?_) ?_
      · show Steps p.tables e below (s₁.setTop (mkF m 26 #[.val (.long q0), .second, .val (.long q1), .second, .val (.long q2), .second, .val (.int p3), .val (.int (0 : Int32)), .unset, .unset, .unset, .unset, .unset, .unset, .unset, .unset, .unset, .unset] [(.int k38_0)])) _
        refine XS.istore X0.here hx rfl (hb hby at_26) rfl (l' := #[.val (.long q0), .second, .val (.long q1), .second, .val (.long q2), .second, .val (.int p3), .val (.int (0 : Int32)), .val (.int k38_0), .unset, .unset, .unset, .unset, .unset, .unset, .unset, .unset, .unset]) rfl ?_
        show Steps p.tables e below (s₁.setTop (mkF m 28 #[.val (.long q0), .second, .val (.long q1), .second, .val (.long q2), .second, .val (.int p3), .val (.int (0 : Int32)), .val (.int k38_0), .unset, .unset, .unset, .unset, .unset, .unset, .unset, .unset, .unset] [])) _
        refine XS.iload X0.here hx rfl (hb hby at_28) rfl ?_
        show Steps p.tables e below (s₁.setTop (mkF m 30 #[.val (.long q0), .second, .val (.long q1), .second, .val (.long q2), .second, .val (.int p3), .val (.int (0 : Int32)), .val (.int k38_0), .unset, .unset, .unset, .unset, .unset, .unset, .unset, .unset, .unset] [(.int (0 : Int32))])) _
        refine XS.ifYes X0.here hx rfl (pc0 := 30) (pc' := 39) rfl (hb hby at_30) rfl (XT.i0_eq_t (by decide)) (by decide) (by decide) ?_
        exact kt
      obtain ⟨T40, h40, X40, e40, E40, A40, D40, -, st40⟩ := newO X0 hx hZ hown (hw _ (List.mem_of_getElem? (i := 0) rfl)) (hw _ (List.mem_of_getElem? (i := 1) rfl)) (hw _ (List.mem_of_getElem? (i := 2) rfl)) e0 (g := (mkF m 39 #[.val (.long q0), .second, .val (.long q1), .second, .val (.long q2), .second, .val (.int p3), .val (.int (0 : Int32)), .val (.int k38_0), .unset, .unset, .unset, .unset, .unset, .unset, .unset, .unset, .unset] [])) rfl (hb hby at_39) (by decide) (by decide)
      obtain ⟨b40, g40⟩ : ∃ z, z = h0.size := ⟨_, rfl⟩
      rw [← g40] at A40 D40 st40
      have gn_b40 : n0 ≤ b40 := by rw [g40]; exact Z0
      have Z0_41 : n0 ≤ h40.size := (Nat.le_trans Z0 E40.1)
      have F40_term : Fld Z h40 b40 "com/example/glasanje/glasanje/election/MajorityElection$VoteRecord" "term" "J" (.long (0 : Int64)) := D40 (Or.inl (hw _ (List.mem_of_getElem? (i := 15) rfl))) (ty := .long) (by decide)
      have F40_forgotten : Fld Z h40 b40 "com/example/glasanje/glasanje/election/MajorityElection$VoteRecord" "forgotten" "Z" (.int (0 : Int32)) := D40 (Or.inl (hw _ (List.mem_of_getElem? (i := 26) rfl))) (ty := .boolean) (by decide)
      refine Got.step st40 ?_
      show Got p e below s _ _ _ _ T40 (mkF m 42 #[.val (.long q0), .second, .val (.long q1), .second, .val (.long q2), .second, .val (.int p3), .val (.int (0 : Int32)), .val (.int k38_0), .unset, .unset, .unset, .unset, .unset, .unset, .unset, .unset, .unset] [(.ref b40)])
      refine Got.step (T' := T40) (g' := (mkF m 43 #[.val (.long q0), .second, .val (.long q1), .second, .val (.long q2), .second, .val (.int p3), .val (.int (0 : Int32)), .val (.int k38_0), .unset, .unset, .unset, .unset, .unset, .unset, .unset, .unset, .unset] [(.ref b40), (.ref b40)])) (fun tq kt => ?_) ?_
      · show Steps p.tables e below (T40.setTop (mkF m 42 #[.val (.long q0), .second, .val (.long q1), .second, .val (.long q2), .second, .val (.int p3), .val (.int (0 : Int32)), .val (.int k38_0), .unset, .unset, .unset, .unset, .unset, .unset, .unset, .unset, .unset] [(.ref b40)])) _
        refine XS.dup X40.here hx rfl (hb hby at_42) rfl rfl ?_
        exact kt
      obtain ⟨_, _, ⟨T42, L42, k42, n42⟩, -, X42, ⟨Lc42, hQ42, l42, y42, z42⟩, st42⟩ := X40.specialBack hx (y := (⟨"com/example/glasanje/glasanje/election/MajorityElection$VoteRecord", "<init>", "()V"⟩ : MethodName)) rfl hown (mvT hZ (hw _ (List.mem_of_getElem? (i := 3) rfl))) (mvT hZ (hw _ (List.mem_of_getElem? (i := 4) rfl))) (mvT hZ (hw _ (List.mem_of_getElem? (i := 5) rfl))) (by decide) (backOf (W := 1) (rm1 l Z a0 hw [] b40 h40 n0 Z0_41 gn_b40 A40 F40_term F40_forgotten ) hZ (hw _ (List.mem_of_getElem? (i := 5) rfl)) (hw _ (List.mem_of_getElem? (i := 2) rfl)) (by decide) (by decide)) (g := (mkF m 43 #[.val (.long q0), .second, .val (.long q1), .second, .val (.long q2), .second, .val (.int p3), .val (.int (0 : Int32)), .val (.int k38_0), .unset, .unset, .unset, .unset, .unset, .unset, .unset, .unset, .unset] [(.ref b40), (.ref b40)])) rfl (by rw [hml]; rfl) (Steps.refl _) (a := b40) (argsL := []) (rest := [(.ref b40)]) (lenOf pd_2 rfl) rfl (by show 2 * 0 + _ ≤ _; exact Nat.le_of_eq rfl) (hb hby at_43) (fun _ _ => ⟨rfl, e40, (by decide : 1 + 0 ≤ _), (by decide : 2 + 0 ≤ _)⟩)
      dsimp only [Pt.U, Pt.locs, Pt.cells, Pt.slots] at X42 l42 y42 z42 st42 hQ42
      subst l42 y42 z42
      obtain ⟨h42, e42⟩ : ∃ z, T42.heap = z := ⟨_, rfl⟩
      rw [e42] at hQ42
      obtain ⟨rfl, Nq42, K42, E42, G42_term, G42_forgotten⟩ := hQ42
      have N42 := Fr.app N0 Nq42
      have Z0_43 : n0 ≤ h42.size := (Nat.le_trans Z0_41 K42.1)
      have A40_44 : Exa Z h42 b40 "com/example/glasanje/glasanje/election/MajorityElection$VoteRecord" := (A40.keep K42)
      refine Got.hop st42 ?_
      show Got p e below s _ _ _ _ T42 (mkF m 46 #[.val (.long q0), .second, .val (.long q1), .second, .val (.long q2), .second, .val (.int p3), .val (.int (0 : Int32)), .val (.int k38_0), .unset, .unset, .unset, .unset, .unset, .unset, .unset, .unset, .unset] [(.ref b40)])
      refine Got.step (T' := T42) (g' := (mkF m 53 #[.val (.long q0), .second, .val (.long q1), .second, .val (.long q2), .second, .val (.int p3), .val (.int (0 : Int32)), .val (.int k38_0), .val (.ref b40), .val (.long (0 : Int64)), .second, .unset, .unset, .unset, .unset, .unset, .unset] [(.int k38_0)])) (fun tq kt => ?_) ?_
      · show Steps p.tables e below (T42.setTop (mkF m 46 #[.val (.long q0), .second, .val (.long q1), .second, .val (.long q2), .second, .val (.int p3), .val (.int (0 : Int32)), .val (.int k38_0), .unset, .unset, .unset, .unset, .unset, .unset, .unset, .unset, .unset] [(.ref b40)])) _
        refine XS.astore X42.here hx rfl (hb hby at_46) rfl rfl (l' := #[.val (.long q0), .second, .val (.long q1), .second, .val (.long q2), .second, .val (.int p3), .val (.int (0 : Int32)), .val (.int k38_0), .val (.ref b40), .unset, .unset, .unset, .unset, .unset, .unset, .unset, .unset]) rfl ?_
        show Steps p.tables e below (T42.setTop (mkF m 48 #[.val (.long q0), .second, .val (.long q1), .second, .val (.long q2), .second, .val (.int p3), .val (.int (0 : Int32)), .val (.int k38_0), .val (.ref b40), .unset, .unset, .unset, .unset, .unset, .unset, .unset, .unset] [])) _
        refine XS.lconst X42.here hx rfl (hb hby at_48) ?_
        show Steps p.tables e below (T42.setTop (mkF m 49 #[.val (.long q0), .second, .val (.long q1), .second, .val (.long q2), .second, .val (.int p3), .val (.int (0 : Int32)), .val (.int k38_0), .val (.ref b40), .unset, .unset, .unset, .unset, .unset, .unset, .unset, .unset] [(.long (0 : Int64))])) _
        refine XS.lstore X42.here hx rfl (hb hby at_49) rfl (l' := #[.val (.long q0), .second, .val (.long q1), .second, .val (.long q2), .second, .val (.int p3), .val (.int (0 : Int32)), .val (.int k38_0), .val (.ref b40), .val (.long (0 : Int64)), .second, .unset, .unset, .unset, .unset, .unset, .unset]) rfl ?_
        show Steps p.tables e below (T42.setTop (mkF m 51 #[.val (.long q0), .second, .val (.long q1), .second, .val (.long q2), .second, .val (.int p3), .val (.int (0 : Int32)), .val (.int k38_0), .val (.ref b40), .val (.long (0 : Int64)), .second, .unset, .unset, .unset, .unset, .unset, .unset] [])) _
        refine XS.iload X42.here hx rfl (hb hby at_51) rfl ?_
        exact kt
      have J45 : ∀ (T45 : State) (h45 : Heap) (L45 : List Loc), Stand p l e room_1 s m #[(.long q0), (.long q1), (.long q2), (.int p3)] below meth c T45 L45 1 2 → T45.heap = h45 → Fr n0 L45 → ∀ (v45_10 : Int64), v45_10 = (if k38_0 = 0 then (0 : Int64) else (if (0 : Int64) < q0 then q0 else (0 : Int64))) → ∀ (w45_b40_term : Int64), w45_b40_term = (if k38_0 = 0 then (0 : Int64) else (if (0 : Int64) < q0 then (f4 (0 : Int64) q0) else (f4 (0 : Int64) q0))) → n0 ≤ h45.size → Exa Z h45 b40 "com/example/glasanje/glasanje/election/MajorityElection$VoteRecord" → Fld Z h45 b40 "com/example/glasanje/glasanje/election/MajorityElection$VoteRecord" "term" "J" (.long w45_b40_term) → Fld Z h45 b40 "com/example/glasanje/glasanje/election/MajorityElection$VoteRecord" "forgotten" "Z" (.int (0 : Int32)) → Got p e below s (fun _ L => Fr n0 L) room_1.cells room_1.slots (some (.int (1 : Int32))) T45 (mkF m 71 #[.val (.long q0), .second, .val (.long q1), .second, .val (.long q2), .second, .val (.int p3), .val (.int (0 : Int32)), .val (.int k38_0), .val (.ref b40), .val (.long v45_10), .second, .unset, .unset, .unset, .unset, .unset, .unset] []) := by
        intro T45 h45 L45 X45 e45 N45 v45_10 hv45_10 w45_b40_term hw45_b40_term Z0_51 A40_52 G42_term_53 G42_forgotten_54
        refine Got.step (T' := T45) (g' := (mkF m 74 #[.val (.long q0), .second, .val (.long q1), .second, .val (.long q2), .second, .val (.int p3), .val (.int (0 : Int32)), .val (.int k38_0), .val (.ref b40), .val (.long v45_10), .second, .unset, .unset, .unset, .unset, .unset, .unset] [(.long q1), (.ref b40)])) (fun tq kt => ?_) ?_
        · show Steps p.tables e below (T45.setTop (mkF m 71 #[.val (.long q0), .second, .val (.long q1), .second, .val (.long q2), .second, .val (.int p3), .val (.int (0 : Int32)), .val (.int k38_0), .val (.ref b40), .val (.long v45_10), .second, .unset, .unset, .unset, .unset, .unset, .unset] [])) _
          refine XS.aload X45.here hx rfl (hb hby at_71) rfl rfl ?_
          show Steps p.tables e below (T45.setTop (mkF m 73 #[.val (.long q0), .second, .val (.long q1), .second, .val (.long q2), .second, .val (.int p3), .val (.int (0 : Int32)), .val (.int k38_0), .val (.ref b40), .val (.long v45_10), .second, .unset, .unset, .unset, .unset, .unset, .unset] [(.ref b40)])) _
          refine XS.lloadN X45.here hx rfl (hb hby at_73) rfl ?_
          exact kt
        obtain ⟨cq55, kq55, qa55, qb55, qc55⟩ := isOf hZ e45 A40_52
        obtain ⟨_, _, ⟨T55, L55, k55, n55⟩, -, X55, ⟨Lc55, hQ55, l55, y55, z55⟩, st55⟩ := X45.virtualBack hx (y := (⟨"com/example/glasanje/glasanje/election/MajorityElection$VoteRecord", "starting", "(J)V"⟩ : MethodName)) (z := (⟨"com/example/glasanje/glasanje/election/MajorityElection$VoteRecord", "starting", "(J)V"⟩ : MethodName)) hown (mvT hZ (hw _ (List.mem_of_getElem? (i := 20) rfl))) (mvT hZ (hw _ (List.mem_of_getElem? (i := 21) rfl))) (notFace_of_selects (args := #[]) (mvT hZ (hw _ (List.mem_of_getElem? (i := 23) rfl)))) (mvT hZ (hw _ (List.mem_of_getElem? (i := 23) rfl))) (mvT hZ (hw _ (List.mem_of_getElem? (i := 22) rfl))) (by decide) (backOf (W := 0) (rm5a l Z a0 hw [] b40 q1 w45_b40_term h45 n0 Z0_51 gn_b40 A40_52 G42_term_53 G42_forgotten_54 ) hZ (hw _ (List.mem_of_getElem? (i := 24) rfl)) (hw _ (List.mem_of_getElem? (i := 2) rfl)) (by decide) (by decide)) qa55 qc55 (g := (mkF m 74 #[.val (.long q0), .second, .val (.long q1), .second, .val (.long q2), .second, .val (.int p3), .val (.int (0 : Int32)), .val (.int k38_0), .val (.ref b40), .val (.long v45_10), .second, .unset, .unset, .unset, .unset, .unset, .unset] [(.long q1), (.ref b40)])) rfl (by rw [hml]; rfl) (Steps.refl _) (argsL := [(.long q1)]) (rest := []) (lenOf pd_1 rfl) rfl (by show 2 * 0 + _ ≤ _; exact Nat.le_of_eq rfl) (hb hby at_74) (fun _ _ => ⟨rfl, e45, (by decide : 1 + 0 ≤ _), (by decide : 2 + 0 ≤ _)⟩)
        dsimp only [Pt.U, Pt.locs, Pt.cells, Pt.slots] at X55 l55 y55 z55 st55 hQ55
        subst l55 y55 z55
        obtain ⟨h55, e55⟩ : ∃ z, T55.heap = z := ⟨_, rfl⟩
        rw [e55] at hQ55
        obtain ⟨rfl, Nq55, K55, E55, G55_term, G55_forgotten⟩ := hQ55
        have N55 := Fr.app N45 Nq55
        have Z0_56 : n0 ≤ h55.size := (Nat.le_trans Z0_51 K55.1)
        have A40_57 : Exa Z h55 b40 "com/example/glasanje/glasanje/election/MajorityElection$VoteRecord" := (A40_52.keep K55)
        refine Got.hop st55 ?_
        show Got p e below s _ _ _ _ T55 (mkF m 77 #[.val (.long q0), .second, .val (.long q1), .second, .val (.long q2), .second, .val (.int p3), .val (.int (0 : Int32)), .val (.int k38_0), .val (.ref b40), .val (.long v45_10), .second, .unset, .unset, .unset, .unset, .unset, .unset] [])
        refine Got.step (T' := T55) (g' := (mkF m 79 #[.val (.long q0), .second, .val (.long q1), .second, .val (.long q2), .second, .val (.int p3), .val (.int (0 : Int32)), .val (.int k38_0), .val (.ref b40), .val (.long v45_10), .second, .unset, .unset, .unset, .unset, .unset, .unset] [(.ref b40)])) (fun tq kt => ?_) ?_
        · show Steps p.tables e below (T55.setTop (mkF m 77 #[.val (.long q0), .second, .val (.long q1), .second, .val (.long q2), .second, .val (.int p3), .val (.int (0 : Int32)), .val (.int k38_0), .val (.ref b40), .val (.long v45_10), .second, .unset, .unset, .unset, .unset, .unset, .unset] [])) _
          refine XS.aload X55.here hx rfl (hb hby at_77) rfl rfl ?_
          exact kt
        obtain ⟨cq58, kq58, qa58, qb58, qc58⟩ := isOf hZ e55 A40_57
        obtain ⟨_, _, ⟨T58, L58, k58, n58⟩, -, X58, ⟨Lc58, hQ58, l58, y58, z58⟩, st58⟩ := X55.virtualBack hx (y := (⟨"com/example/glasanje/glasanje/election/MajorityElection$VoteRecord", "term", "()J"⟩ : MethodName)) (z := (⟨"com/example/glasanje/glasanje/election/MajorityElection$VoteRecord", "term", "()J"⟩ : MethodName)) hown (mvT hZ (hw _ (List.mem_of_getElem? (i := 27) rfl))) (mvT hZ (hw _ (List.mem_of_getElem? (i := 28) rfl))) (notFace_of_selects (args := #[]) (mvT hZ (hw _ (List.mem_of_getElem? (i := 30) rfl)))) (mvT hZ (hw _ (List.mem_of_getElem? (i := 30) rfl))) (mvT hZ (hw _ (List.mem_of_getElem? (i := 29) rfl))) (by decide) (backOf (W := 0) (rm6 l Z a0 hw [] b40 w45_b40_term h55 n0 Z0_56 A40_57 G55_term ) hZ (hw _ (List.mem_of_getElem? (i := 31) rfl)) (hw _ (List.mem_of_getElem? (i := 2) rfl)) (by decide) (by decide)) qa58 qc58 (g := (mkF m 79 #[.val (.long q0), .second, .val (.long q1), .second, .val (.long q2), .second, .val (.int p3), .val (.int (0 : Int32)), .val (.int k38_0), .val (.ref b40), .val (.long v45_10), .second, .unset, .unset, .unset, .unset, .unset, .unset] [(.ref b40)])) rfl (by rw [hml]; rfl) (Steps.refl _) (argsL := []) (rest := []) (lenOf pd_3 rfl) rfl (by show 2 * 0 + _ ≤ _; exact Nat.le_of_eq rfl) (hb hby at_79) (fun _ _ => ⟨rfl, e55, (by decide : 1 + 0 ≤ _), (by decide : 2 + 0 ≤ _)⟩)
        dsimp only [Pt.U, Pt.locs, Pt.cells, Pt.slots] at X58 l58 y58 z58 st58 hQ58
        subst l58 y58 z58
        obtain ⟨rfl, Nq58, e58⟩ := hQ58
        have N58 := Fr.app N55 Nq58
        refine Got.hop st58 ?_
        show Got p e below s _ _ _ _ T58 (mkF m 82 #[.val (.long q0), .second, .val (.long q1), .second, .val (.long q2), .second, .val (.int p3), .val (.int (0 : Int32)), .val (.int k38_0), .val (.ref b40), .val (.long v45_10), .second, .unset, .unset, .unset, .unset, .unset, .unset] [(.long (f6 w45_b40_term))])
        refine Got.step (T' := T58) (g' := (mkF m 107 #[.val (.long q0), .second, .val (.long q1), .second, .val (.long q2), .second, .val (.int p3), .val (.int (0 : Int32)), .val (.int k38_0), .val (.ref b40), .val (.long v45_10), .second, .val (.long (f6 w45_b40_term)), .second, .val (.long v45_10), .second, .unset, .unset] [(.long q2), (.ref b40)])) (fun tq kt => ?_) ?_
        · show Steps p.tables e below (T58.setTop (mkF m 82 #[.val (.long q0), .second, .val (.long q1), .second, .val (.long q2), .second, .val (.int p3), .val (.int (0 : Int32)), .val (.int k38_0), .val (.ref b40), .val (.long v45_10), .second, .unset, .unset, .unset, .unset, .unset, .unset] [(.long (f6 w45_b40_term))])) _
          refine XS.lstore X58.here hx rfl (hb hby at_82) rfl (l' := #[.val (.long q0), .second, .val (.long q1), .second, .val (.long q2), .second, .val (.int p3), .val (.int (0 : Int32)), .val (.int k38_0), .val (.ref b40), .val (.long v45_10), .second, .val (.long (f6 w45_b40_term)), .second, .unset, .unset, .unset, .unset]) rfl ?_
          show Steps p.tables e below (T58.setTop (mkF m 84 #[.val (.long q0), .second, .val (.long q1), .second, .val (.long q2), .second, .val (.int p3), .val (.int (0 : Int32)), .val (.int k38_0), .val (.ref b40), .val (.long v45_10), .second, .val (.long (f6 w45_b40_term)), .second, .unset, .unset, .unset, .unset] [])) _
          refine XS.lload X58.here hx rfl (hb hby at_84) rfl ?_
          show Steps p.tables e below (T58.setTop (mkF m 86 #[.val (.long q0), .second, .val (.long q1), .second, .val (.long q2), .second, .val (.int p3), .val (.int (0 : Int32)), .val (.int k38_0), .val (.ref b40), .val (.long v45_10), .second, .val (.long (f6 w45_b40_term)), .second, .unset, .unset, .unset, .unset] [(.long v45_10)])) _
          refine XS.lstore X58.here hx rfl (hb hby at_86) rfl (l' := #[.val (.long q0), .second, .val (.long q1), .second, .val (.long q2), .second, .val (.int p3), .val (.int (0 : Int32)), .val (.int k38_0), .val (.ref b40), .val (.long v45_10), .second, .val (.long (f6 w45_b40_term)), .second, .val (.long v45_10), .second, .unset, .unset]) rfl ?_
          show Steps p.tables e below (T58.setTop (mkF m 88 #[.val (.long q0), .second, .val (.long q1), .second, .val (.long q2), .second, .val (.int p3), .val (.int (0 : Int32)), .val (.int k38_0), .val (.ref b40), .val (.long v45_10), .second, .val (.long (f6 w45_b40_term)), .second, .val (.long v45_10), .second, .unset, .unset] [])) _
          refine XS.iload X58.here hx rfl (hb hby at_88) rfl ?_
          show Steps p.tables e below (T58.setTop (mkF m 90 #[.val (.long q0), .second, .val (.long q1), .second, .val (.long q2), .second, .val (.int p3), .val (.int (0 : Int32)), .val (.int k38_0), .val (.ref b40), .val (.long v45_10), .second, .val (.long (f6 w45_b40_term)), .second, .val (.long v45_10), .second, .unset, .unset] [(.int (0 : Int32))])) _
          refine XS.ifYes X58.here hx rfl (pc0 := 90) (pc' := 103) rfl (hb hby at_90) rfl (XT.i0_eq_t (by decide)) (by decide) (by decide) ?_
          show Steps p.tables e below (T58.setTop (mkF m 103 #[.val (.long q0), .second, .val (.long q1), .second, .val (.long q2), .second, .val (.int p3), .val (.int (0 : Int32)), .val (.int k38_0), .val (.ref b40), .val (.long v45_10), .second, .val (.long (f6 w45_b40_term)), .second, .val (.long v45_10), .second, .unset, .unset] [])) _
          refine XS.aload X58.here hx rfl (hb hby at_103) rfl rfl ?_
          show Steps p.tables e below (T58.setTop (mkF m 105 #[.val (.long q0), .second, .val (.long q1), .second, .val (.long q2), .second, .val (.int p3), .val (.int (0 : Int32)), .val (.int k38_0), .val (.ref b40), .val (.long v45_10), .second, .val (.long (f6 w45_b40_term)), .second, .val (.long v45_10), .second, .unset, .unset] [(.ref b40)])) _
          refine XS.lload X58.here hx rfl (hb hby at_105) rfl ?_
          exact kt
        obtain ⟨cq59, kq59, qa59, qb59, qc59⟩ := isOf hZ e58 A40_57
        obtain ⟨_, _, ⟨T59, L59, k59, n59⟩, -, X59, ⟨Lc59, hQ59, l59, y59, z59⟩, st59⟩ := X58.virtualBack hx (y := (⟨"com/example/glasanje/glasanje/election/MajorityElection$VoteRecord", "starting", "(J)V"⟩ : MethodName)) (z := (⟨"com/example/glasanje/glasanje/election/MajorityElection$VoteRecord", "starting", "(J)V"⟩ : MethodName)) hown (mvT hZ (hw _ (List.mem_of_getElem? (i := 20) rfl))) (mvT hZ (hw _ (List.mem_of_getElem? (i := 21) rfl))) (notFace_of_selects (args := #[]) (mvT hZ (hw _ (List.mem_of_getElem? (i := 23) rfl)))) (mvT hZ (hw _ (List.mem_of_getElem? (i := 23) rfl))) (mvT hZ (hw _ (List.mem_of_getElem? (i := 22) rfl))) (by decide) (backOf (W := 0) (rm5a l Z a0 hw [] b40 q2 w45_b40_term h55 n0 Z0_56 gn_b40 A40_57 G55_term G55_forgotten ) hZ (hw _ (List.mem_of_getElem? (i := 24) rfl)) (hw _ (List.mem_of_getElem? (i := 2) rfl)) (by decide) (by decide)) qa59 qc59 (g := (mkF m 107 #[.val (.long q0), .second, .val (.long q1), .second, .val (.long q2), .second, .val (.int p3), .val (.int (0 : Int32)), .val (.int k38_0), .val (.ref b40), .val (.long v45_10), .second, .val (.long (f6 w45_b40_term)), .second, .val (.long v45_10), .second, .unset, .unset] [(.long q2), (.ref b40)])) rfl (by rw [hml]; rfl) (Steps.refl _) (argsL := [(.long q2)]) (rest := []) (lenOf pd_1 rfl) rfl (by show 2 * 0 + _ ≤ _; exact Nat.le_of_eq rfl) (hb hby at_107) (fun _ _ => ⟨rfl, e58, (by decide : 1 + 0 ≤ _), (by decide : 2 + 0 ≤ _)⟩)
        dsimp only [Pt.U, Pt.locs, Pt.cells, Pt.slots] at X59 l59 y59 z59 st59 hQ59
        subst l59 y59 z59
        obtain ⟨h59, e59⟩ : ∃ z, T59.heap = z := ⟨_, rfl⟩
        rw [e59] at hQ59
        obtain ⟨rfl, Nq59, K59, E59, G59_term, G59_forgotten⟩ := hQ59
        have N59 := Fr.app N58 Nq59
        have Z0_60 : n0 ≤ h59.size := (Nat.le_trans Z0_56 K59.1)
        have A40_61 : Exa Z h59 b40 "com/example/glasanje/glasanje/election/MajorityElection$VoteRecord" := (A40_57.keep K59)
        refine Got.hop st59 ?_
        show Got p e below s _ _ _ _ T59 (mkF m 110 #[.val (.long q0), .second, .val (.long q1), .second, .val (.long q2), .second, .val (.int p3), .val (.int (0 : Int32)), .val (.int k38_0), .val (.ref b40), .val (.long v45_10), .second, .val (.long (f6 w45_b40_term)), .second, .val (.long v45_10), .second, .unset, .unset] [])
        refine Got.step (T' := T59) (g' := (mkF m 112 #[.val (.long q0), .second, .val (.long q1), .second, .val (.long q2), .second, .val (.int p3), .val (.int (0 : Int32)), .val (.int k38_0), .val (.ref b40), .val (.long v45_10), .second, .val (.long (f6 w45_b40_term)), .second, .val (.long v45_10), .second, .unset, .unset] [(.ref b40)])) (fun tq kt => ?_) ?_
        · show Steps p.tables e below (T59.setTop (mkF m 110 #[.val (.long q0), .second, .val (.long q1), .second, .val (.long q2), .second, .val (.int p3), .val (.int (0 : Int32)), .val (.int k38_0), .val (.ref b40), .val (.long v45_10), .second, .val (.long (f6 w45_b40_term)), .second, .val (.long v45_10), .second, .unset, .unset] [])) _
          refine XS.aload X59.here hx rfl (hb hby at_110) rfl rfl ?_
          exact kt
        obtain ⟨cq62, kq62, qa62, qb62, qc62⟩ := isOf hZ e59 A40_61
        obtain ⟨_, _, ⟨T62, L62, k62, n62⟩, -, X62, ⟨Lc62, hQ62, l62, y62, z62⟩, st62⟩ := X59.virtualBack hx (y := (⟨"com/example/glasanje/glasanje/election/MajorityElection$VoteRecord", "term", "()J"⟩ : MethodName)) (z := (⟨"com/example/glasanje/glasanje/election/MajorityElection$VoteRecord", "term", "()J"⟩ : MethodName)) hown (mvT hZ (hw _ (List.mem_of_getElem? (i := 27) rfl))) (mvT hZ (hw _ (List.mem_of_getElem? (i := 28) rfl))) (notFace_of_selects (args := #[]) (mvT hZ (hw _ (List.mem_of_getElem? (i := 30) rfl)))) (mvT hZ (hw _ (List.mem_of_getElem? (i := 30) rfl))) (mvT hZ (hw _ (List.mem_of_getElem? (i := 29) rfl))) (by decide) (backOf (W := 0) (rm6 l Z a0 hw [] b40 w45_b40_term h59 n0 Z0_60 A40_61 G59_term ) hZ (hw _ (List.mem_of_getElem? (i := 31) rfl)) (hw _ (List.mem_of_getElem? (i := 2) rfl)) (by decide) (by decide)) qa62 qc62 (g := (mkF m 112 #[.val (.long q0), .second, .val (.long q1), .second, .val (.long q2), .second, .val (.int p3), .val (.int (0 : Int32)), .val (.int k38_0), .val (.ref b40), .val (.long v45_10), .second, .val (.long (f6 w45_b40_term)), .second, .val (.long v45_10), .second, .unset, .unset] [(.ref b40)])) rfl (by rw [hml]; rfl) (Steps.refl _) (argsL := []) (rest := []) (lenOf pd_3 rfl) rfl (by show 2 * 0 + _ ≤ _; exact Nat.le_of_eq rfl) (hb hby at_112) (fun _ _ => ⟨rfl, e59, (by decide : 1 + 0 ≤ _), (by decide : 2 + 0 ≤ _)⟩)
        dsimp only [Pt.U, Pt.locs, Pt.cells, Pt.slots] at X62 l62 y62 z62 st62 hQ62
        subst l62 y62 z62
        obtain ⟨rfl, Nq62, e62⟩ := hQ62
        have N62 := Fr.app N59 Nq62
        refine Got.hop st62 ?_
        show Got p e below s _ _ _ _ T62 (mkF m 115 #[.val (.long q0), .second, .val (.long q1), .second, .val (.long q2), .second, .val (.int p3), .val (.int (0 : Int32)), .val (.int k38_0), .val (.ref b40), .val (.long v45_10), .second, .val (.long (f6 w45_b40_term)), .second, .val (.long v45_10), .second, .unset, .unset] [(.long (f6 w45_b40_term))])
        refine Got.step (T' := T62) (g' := (mkF m 138 #[.val (.long q0), .second, .val (.long q1), .second, .val (.long q2), .second, .val (.int p3), .val (.int (0 : Int32)), .val (.int k38_0), .val (.ref b40), .val (.long v45_10), .second, .val (.long (f6 w45_b40_term)), .second, .val (.long v45_10), .second, .val (.long (f6 w45_b40_term)), .second] [(.int (1 : Int32))])) (fun tq kt => ?_) ?_
        · show Steps p.tables e below (T62.setTop (mkF m 115 #[.val (.long q0), .second, .val (.long q1), .second, .val (.long q2), .second, .val (.int p3), .val (.int (0 : Int32)), .val (.int k38_0), .val (.ref b40), .val (.long v45_10), .second, .val (.long (f6 w45_b40_term)), .second, .val (.long v45_10), .second, .unset, .unset] [(.long (f6 w45_b40_term))])) _
          refine XS.lstore X62.here hx rfl (hb hby at_115) rfl (l' := #[.val (.long q0), .second, .val (.long q1), .second, .val (.long q2), .second, .val (.int p3), .val (.int (0 : Int32)), .val (.int k38_0), .val (.ref b40), .val (.long v45_10), .second, .val (.long (f6 w45_b40_term)), .second, .val (.long v45_10), .second, .val (.long (f6 w45_b40_term)), .second]) rfl ?_
          show Steps p.tables e below (T62.setTop (mkF m 117 #[.val (.long q0), .second, .val (.long q1), .second, .val (.long q2), .second, .val (.int p3), .val (.int (0 : Int32)), .val (.int k38_0), .val (.ref b40), .val (.long v45_10), .second, .val (.long (f6 w45_b40_term)), .second, .val (.long v45_10), .second, .val (.long (f6 w45_b40_term)), .second] [])) _
          refine XS.lload X62.here hx rfl (hb hby at_117) rfl ?_
          show Steps p.tables e below (T62.setTop (mkF m 119 #[.val (.long q0), .second, .val (.long q1), .second, .val (.long q2), .second, .val (.int p3), .val (.int (0 : Int32)), .val (.int k38_0), .val (.ref b40), .val (.long v45_10), .second, .val (.long (f6 w45_b40_term)), .second, .val (.long v45_10), .second, .val (.long (f6 w45_b40_term)), .second] [(.long (f6 w45_b40_term))])) _
          refine XS.lload X62.here hx rfl (hb hby at_119) rfl ?_
          show Steps p.tables e below (T62.setTop (mkF m 121 #[.val (.long q0), .second, .val (.long q1), .second, .val (.long q2), .second, .val (.int p3), .val (.int (0 : Int32)), .val (.int k38_0), .val (.ref b40), .val (.long v45_10), .second, .val (.long (f6 w45_b40_term)), .second, .val (.long v45_10), .second, .val (.long (f6 w45_b40_term)), .second] [(.long v45_10), (.long (f6 w45_b40_term))])) _
          refine XT.lcmp X62.here hx rfl (hb hby at_121) rfl ?_
          show Steps p.tables e below (T62.setTop (mkF m 122 #[.val (.long q0), .second, .val (.long q1), .second, .val (.long q2), .second, .val (.int p3), .val (.int (0 : Int32)), .val (.int k38_0), .val (.ref b40), .val (.long v45_10), .second, .val (.long (f6 w45_b40_term)), .second, .val (.long v45_10), .second, .val (.long (f6 w45_b40_term)), .second] [(.int (XT.cmpL (f6 w45_b40_term) v45_10))])) _
          refine XS.ifNo X62.here hx rfl (hb hby at_122) rfl (XT.ll_ne_f (own_p q0 q1 q2 p3 hk38_0 hv45_10 hw45_b40_term)) ?_
          show Steps p.tables e below (T62.setTop (mkF m 125 #[.val (.long q0), .second, .val (.long q1), .second, .val (.long q2), .second, .val (.int p3), .val (.int (0 : Int32)), .val (.int k38_0), .val (.ref b40), .val (.long v45_10), .second, .val (.long (f6 w45_b40_term)), .second, .val (.long v45_10), .second, .val (.long (f6 w45_b40_term)), .second] [])) _
          refine XS.lload X62.here hx rfl (hb hby at_125) rfl ?_
          show Steps p.tables e below (T62.setTop (mkF m 127 #[.val (.long q0), .second, .val (.long q1), .second, .val (.long q2), .second, .val (.int p3), .val (.int (0 : Int32)), .val (.int k38_0), .val (.ref b40), .val (.long v45_10), .second, .val (.long (f6 w45_b40_term)), .second, .val (.long v45_10), .second, .val (.long (f6 w45_b40_term)), .second] [(.long (f6 w45_b40_term))])) _
          refine XS.lload X62.here hx rfl (hb hby at_127) rfl ?_
          show Steps p.tables e below (T62.setTop (mkF m 129 #[.val (.long q0), .second, .val (.long q1), .second, .val (.long q2), .second, .val (.int p3), .val (.int (0 : Int32)), .val (.int k38_0), .val (.ref b40), .val (.long v45_10), .second, .val (.long (f6 w45_b40_term)), .second, .val (.long v45_10), .second, .val (.long (f6 w45_b40_term)), .second] [(.long v45_10), (.long (f6 w45_b40_term))])) _
          refine XT.lcmp X62.here hx rfl (hb hby at_129) rfl ?_
          show Steps p.tables e below (T62.setTop (mkF m 130 #[.val (.long q0), .second, .val (.long q1), .second, .val (.long q2), .second, .val (.int p3), .val (.int (0 : Int32)), .val (.int k38_0), .val (.ref b40), .val (.long v45_10), .second, .val (.long (f6 w45_b40_term)), .second, .val (.long v45_10), .second, .val (.long (f6 w45_b40_term)), .second] [(.int (XT.cmpL (f6 w45_b40_term) v45_10))])) _
          refine XS.ifNo X62.here hx rfl (hb hby at_130) rfl (XT.ll_ne_f (own_p q0 q1 q2 p3 hk38_0 hv45_10 hw45_b40_term)) ?_
          show Steps p.tables e below (T62.setTop (mkF m 133 #[.val (.long q0), .second, .val (.long q1), .second, .val (.long q2), .second, .val (.int p3), .val (.int (0 : Int32)), .val (.int k38_0), .val (.ref b40), .val (.long v45_10), .second, .val (.long (f6 w45_b40_term)), .second, .val (.long v45_10), .second, .val (.long (f6 w45_b40_term)), .second] [])) _
          refine XS.iconst X62.here hx rfl (hb hby at_133) ?_
          show Steps p.tables e below (T62.setTop (mkF m 134 #[.val (.long q0), .second, .val (.long q1), .second, .val (.long q2), .second, .val (.int p3), .val (.int (0 : Int32)), .val (.int k38_0), .val (.ref b40), .val (.long v45_10), .second, .val (.long (f6 w45_b40_term)), .second, .val (.long v45_10), .second, .val (.long (f6 w45_b40_term)), .second] [(.int (1 : Int32))])) _
          refine XS.goto X62.here hx rfl (pc0 := 134) (pc' := 138) rfl (hb hby at_134) (by decide) (by decide) ?_
          exact kt
        exact Got.retN (y := (1 : Int32)) (t := .boolean) X62 hx Bd.returns (by simp) hlk (hb hby at_138) (by decide) N62 (by decide) (by decide)
      by_cases hc46 : (k38_0 = 0)
      · refine Got.step (T' := T42) (g' := (mkF m 71 #[.val (.long q0), .second, .val (.long q1), .second, .val (.long q2), .second, .val (.int p3), .val (.int (0 : Int32)), .val (.int k38_0), .val (.ref b40), .val (.long (0 : Int64)), .second, .unset, .unset, .unset, .unset, .unset, .unset] [])) (fun tq kt => ?_) ?_
        · show Steps p.tables e below (T42.setTop (mkF m 53 #[.val (.long q0), .second, .val (.long q1), .second, .val (.long q2), .second, .val (.int p3), .val (.int (0 : Int32)), .val (.int k38_0), .val (.ref b40), .val (.long (0 : Int64)), .second, .unset, .unset, .unset, .unset, .unset, .unset] [(.int k38_0)])) _
          refine XS.ifYes X42.here hx rfl (pc0 := 53) (pc' := 71) rfl (hb hby at_53) rfl (XT.i0_eq_t hc46) (by decide) (by decide) ?_
          exact kt
        exact J45 _ _ _ X42 e42 N42 (0 : Int64) (if_pos hc46).symm (0 : Int64) (if_pos hc46).symm Z0_43 A40_44 G42_term G42_forgotten
      · refine Got.step (T' := T42) (g' := (mkF m 59 #[.val (.long q0), .second, .val (.long q1), .second, .val (.long q2), .second, .val (.int p3), .val (.int (0 : Int32)), .val (.int k38_0), .val (.ref b40), .val (.long (0 : Int64)), .second, .unset, .unset, .unset, .unset, .unset, .unset] [(.long q0), (.ref b40)])) (fun tq kt => ?_) ?_
        · show Steps p.tables e below (T42.setTop (mkF m 53 #[.val (.long q0), .second, .val (.long q1), .second, .val (.long q2), .second, .val (.int p3), .val (.int (0 : Int32)), .val (.int k38_0), .val (.ref b40), .val (.long (0 : Int64)), .second, .unset, .unset, .unset, .unset, .unset, .unset] [(.int k38_0)])) _
          refine XS.ifNo X42.here hx rfl (hb hby at_53) rfl (XT.i0_eq_f hc46) ?_
          show Steps p.tables e below (T42.setTop (mkF m 56 #[.val (.long q0), .second, .val (.long q1), .second, .val (.long q2), .second, .val (.int p3), .val (.int (0 : Int32)), .val (.int k38_0), .val (.ref b40), .val (.long (0 : Int64)), .second, .unset, .unset, .unset, .unset, .unset, .unset] [])) _
          refine XS.aload X42.here hx rfl (hb hby at_56) rfl rfl ?_
          show Steps p.tables e below (T42.setTop (mkF m 58 #[.val (.long q0), .second, .val (.long q1), .second, .val (.long q2), .second, .val (.int p3), .val (.int (0 : Int32)), .val (.int k38_0), .val (.ref b40), .val (.long (0 : Int64)), .second, .unset, .unset, .unset, .unset, .unset, .unset] [(.ref b40)])) _
          refine XS.lloadN X42.here hx rfl (hb hby at_58) rfl ?_
          exact kt
        obtain ⟨cq47, kq47, qa47, qb47, qc47⟩ := isOf hZ e42 A40_44
        obtain ⟨_, _, ⟨T47, L47, k47, n47⟩, -, X47, ⟨Lc47, hQ47, l47, y47, z47⟩, st47⟩ := X42.virtualBack hx (y := (⟨"com/example/glasanje/glasanje/election/MajorityElection$VoteRecord", "voted", "(J)V"⟩ : MethodName)) (z := (⟨"com/example/glasanje/glasanje/election/MajorityElection$VoteRecord", "voted", "(J)V"⟩ : MethodName)) hown (mvT hZ (hw _ (List.mem_of_getElem? (i := 9) rfl))) (mvT hZ (hw _ (List.mem_of_getElem? (i := 10) rfl))) (notFace_of_selects (args := #[]) (mvT hZ (hw _ (List.mem_of_getElem? (i := 12) rfl)))) (mvT hZ (hw _ (List.mem_of_getElem? (i := 12) rfl))) (mvT hZ (hw _ (List.mem_of_getElem? (i := 11) rfl))) (by decide) (backOf (W := 0) (rm3 l Z a0 hw [] b40 q0 (0 : Int64) (0 : Int32) h42 n0 Z0_43 gn_b40 A40_44 G42_term G42_forgotten ) hZ (hw _ (List.mem_of_getElem? (i := 13) rfl)) (hw _ (List.mem_of_getElem? (i := 2) rfl)) (by decide) (by decide)) qa47 qc47 (g := (mkF m 59 #[.val (.long q0), .second, .val (.long q1), .second, .val (.long q2), .second, .val (.int p3), .val (.int (0 : Int32)), .val (.int k38_0), .val (.ref b40), .val (.long (0 : Int64)), .second, .unset, .unset, .unset, .unset, .unset, .unset] [(.long q0), (.ref b40)])) rfl (by rw [hml]; rfl) (Steps.refl _) (argsL := [(.long q0)]) (rest := []) (lenOf pd_1 rfl) rfl (by show 2 * 0 + _ ≤ _; exact Nat.le_of_eq rfl) (hb hby at_59) (fun _ _ => ⟨rfl, e42, (by decide : 1 + 0 ≤ _), (by decide : 2 + 0 ≤ _)⟩)
        dsimp only [Pt.U, Pt.locs, Pt.cells, Pt.slots] at X47 l47 y47 z47 st47 hQ47
        subst l47 y47 z47
        obtain ⟨h47, e47⟩ : ∃ z, T47.heap = z := ⟨_, rfl⟩
        rw [e47] at hQ47
        obtain ⟨rfl, Nq47, K47, E47, G47_term, G47_forgotten⟩ := hQ47
        have N47 := Fr.app N42 Nq47
        have Z0_48 : n0 ≤ h47.size := (Nat.le_trans Z0_43 K47.1)
        have A40_49 : Exa Z h47 b40 "com/example/glasanje/glasanje/election/MajorityElection$VoteRecord" := (A40_44.keep K47)
        refine Got.hop st47 ?_
        show Got p e below s _ _ _ _ T47 (mkF m 62 #[.val (.long q0), .second, .val (.long q1), .second, .val (.long q2), .second, .val (.int p3), .val (.int (0 : Int32)), .val (.int k38_0), .val (.ref b40), .val (.long (0 : Int64)), .second, .unset, .unset, .unset, .unset, .unset, .unset] [])
        refine Got.step (T' := T47) (g' := (mkF m 65 #[.val (.long q0), .second, .val (.long q1), .second, .val (.long q2), .second, .val (.int p3), .val (.int (0 : Int32)), .val (.int k38_0), .val (.ref b40), .val (.long (0 : Int64)), .second, .unset, .unset, .unset, .unset, .unset, .unset] [(.int (XT.cmpL q0 (0 : Int64)))])) (fun tq kt => ?_) ?_
        · show Steps p.tables e below (T47.setTop (mkF m 62 #[.val (.long q0), .second, .val (.long q1), .second, .val (.long q2), .second, .val (.int p3), .val (.int (0 : Int32)), .val (.int k38_0), .val (.ref b40), .val (.long (0 : Int64)), .second, .unset, .unset, .unset, .unset, .unset, .unset] [])) _
          refine XS.lloadN X47.here hx rfl (hb hby at_62) rfl ?_
          show Steps p.tables e below (T47.setTop (mkF m 63 #[.val (.long q0), .second, .val (.long q1), .second, .val (.long q2), .second, .val (.int p3), .val (.int (0 : Int32)), .val (.int k38_0), .val (.ref b40), .val (.long (0 : Int64)), .second, .unset, .unset, .unset, .unset, .unset, .unset] [(.long q0)])) _
          refine XS.lconst X47.here hx rfl (hb hby at_63) ?_
          show Steps p.tables e below (T47.setTop (mkF m 64 #[.val (.long q0), .second, .val (.long q1), .second, .val (.long q2), .second, .val (.int p3), .val (.int (0 : Int32)), .val (.int k38_0), .val (.ref b40), .val (.long (0 : Int64)), .second, .unset, .unset, .unset, .unset, .unset, .unset] [(.long (0 : Int64)), (.long q0)])) _
          refine XT.lcmp X47.here hx rfl (hb hby at_64) rfl ?_
          exact kt
        by_cases hc50 : ((0 : Int64) < q0)
        · refine Got.step (T' := T47) (g' := (mkF m 71 #[.val (.long q0), .second, .val (.long q1), .second, .val (.long q2), .second, .val (.int p3), .val (.int (0 : Int32)), .val (.int k38_0), .val (.ref b40), .val (.long q0), .second, .unset, .unset, .unset, .unset, .unset, .unset] [])) (fun tq kt => ?_) ?_
          · show Steps p.tables e below (T47.setTop (mkF m 65 #[.val (.long q0), .second, .val (.long q1), .second, .val (.long q2), .second, .val (.int p3), .val (.int (0 : Int32)), .val (.int k38_0), .val (.ref b40), .val (.long (0 : Int64)), .second, .unset, .unset, .unset, .unset, .unset, .unset] [(.int (XT.cmpL q0 (0 : Int64)))])) _
            refine XS.ifNo X47.here hx rfl (hb hby at_65) rfl (XT.ll_le_f hc50) ?_
            show Steps p.tables e below (T47.setTop (mkF m 68 #[.val (.long q0), .second, .val (.long q1), .second, .val (.long q2), .second, .val (.int p3), .val (.int (0 : Int32)), .val (.int k38_0), .val (.ref b40), .val (.long (0 : Int64)), .second, .unset, .unset, .unset, .unset, .unset, .unset] [])) _
            refine XS.lloadN X47.here hx rfl (hb hby at_68) rfl ?_
            show Steps p.tables e below (T47.setTop (mkF m 69 #[.val (.long q0), .second, .val (.long q1), .second, .val (.long q2), .second, .val (.int p3), .val (.int (0 : Int32)), .val (.int k38_0), .val (.ref b40), .val (.long (0 : Int64)), .second, .unset, .unset, .unset, .unset, .unset, .unset] [(.long q0)])) _
            refine XS.lstore X47.here hx rfl (hb hby at_69) rfl (l' := #[.val (.long q0), .second, .val (.long q1), .second, .val (.long q2), .second, .val (.int p3), .val (.int (0 : Int32)), .val (.int k38_0), .val (.ref b40), .val (.long q0), .second, .unset, .unset, .unset, .unset, .unset, .unset]) rfl ?_
            exact kt
          exact J45 _ _ _ X47 e47 N47 q0 ((if_neg hc46).trans (if_pos hc50)).symm (f4 (0 : Int64) q0) ((if_neg hc46).trans (if_pos hc50)).symm Z0_48 A40_49 G47_term G47_forgotten
        · refine Got.step (T' := T47) (g' := (mkF m 71 #[.val (.long q0), .second, .val (.long q1), .second, .val (.long q2), .second, .val (.int p3), .val (.int (0 : Int32)), .val (.int k38_0), .val (.ref b40), .val (.long (0 : Int64)), .second, .unset, .unset, .unset, .unset, .unset, .unset] [])) (fun tq kt => ?_) ?_
          · show Steps p.tables e below (T47.setTop (mkF m 65 #[.val (.long q0), .second, .val (.long q1), .second, .val (.long q2), .second, .val (.int p3), .val (.int (0 : Int32)), .val (.int k38_0), .val (.ref b40), .val (.long (0 : Int64)), .second, .unset, .unset, .unset, .unset, .unset, .unset] [(.int (XT.cmpL q0 (0 : Int64)))])) _
            refine XS.ifYes X47.here hx rfl (pc0 := 65) (pc' := 71) rfl (hb hby at_65) rfl (XT.ll_le_t hc50) (by decide) (by decide) ?_
            exact kt
          exact J45 _ _ _ X47 e47 N47 (0 : Int64) ((if_neg hc46).trans (if_neg hc50)).symm (f4 (0 : Int64) q0) ((if_neg hc46).trans (if_neg hc50)).symm Z0_48 A40_49 G47_term G47_forgotten
    by_cases hc39 : ((p3 &&& (2 : Int32)) = 0)
    · refine Got.step (T' := s₁) (g' := (mkF m 26 #[.val (.long q0), .second, .val (.long q1), .second, .val (.long q2), .second, .val (.int p3), .val (.int (0 : Int32)), .unset, .unset, .unset, .unset, .unset, .unset, .unset, .unset, .unset, .unset] [(.int (0 : Int32))])) (fun tq kt => ?_) ?_
      · show Steps p.tables e below (s₁.setTop (mkF m 18 #[.val (.long q0), .second, .val (.long q1), .second, .val (.long q2), .second, .val (.int p3), .val (.int (0 : Int32)), .unset, .unset, .unset, .unset, .unset, .unset, .unset, .unset, .unset, .unset] [(.int (p3 &&& (2 : Int32)))])) _
        refine XS.ifYes X0.here hx rfl (pc0 := 18) (pc' := 25) rfl (hb hby at_18) rfl (XT.i0_eq_t hc39) (by decide) (by decide) ?_
        show Steps p.tables e below (s₁.setTop (mkF m 25 #[.val (.long q0), .second, .val (.long q1), .second, .val (.long q2), .second, .val (.int p3), .val (.int (0 : Int32)), .unset, .unset, .unset, .unset, .unset, .unset, .unset, .unset, .unset, .unset] [])) _
        refine XS.iconst X0.here hx rfl (hb hby at_25) ?_
        exact kt
      exact J38 (0 : Int32) (if_pos hc39).symm
    · refine Got.step (T' := s₁) (g' := (mkF m 26 #[.val (.long q0), .second, .val (.long q1), .second, .val (.long q2), .second, .val (.int p3), .val (.int (0 : Int32)), .unset, .unset, .unset, .unset, .unset, .unset, .unset, .unset, .unset, .unset] [(.int (1 : Int32))])) (fun tq kt => ?_) ?_
      · show Steps p.tables e below (s₁.setTop (mkF m 18 #[.val (.long q0), .second, .val (.long q1), .second, .val (.long q2), .second, .val (.int p3), .val (.int (0 : Int32)), .unset, .unset, .unset, .unset, .unset, .unset, .unset, .unset, .unset, .unset] [(.int (p3 &&& (2 : Int32)))])) _
        refine XS.ifNo X0.here hx rfl (hb hby at_18) rfl (XT.i0_eq_f hc39) ?_
        show Steps p.tables e below (s₁.setTop (mkF m 21 #[.val (.long q0), .second, .val (.long q1), .second, .val (.long q2), .second, .val (.int p3), .val (.int (0 : Int32)), .unset, .unset, .unset, .unset, .unset, .unset, .unset, .unset, .unset, .unset] [])) _
        refine XS.iconst X0.here hx rfl (hb hby at_21) ?_
        show Steps p.tables e below (s₁.setTop (mkF m 22 #[.val (.long q0), .second, .val (.long q1), .second, .val (.long q2), .second, .val (.int p3), .val (.int (0 : Int32)), .unset, .unset, .unset, .unset, .unset, .unset, .unset, .unset, .unset, .unset] [(.int (1 : Int32))])) _
        refine XS.goto X0.here hx rfl (pc0 := 22) (pc' := 26) rfl (hb hby at_22) (by decide) (by decide) ?_
        exact kt
      exact J38 (1 : Int32) (if_neg hc39).symm
  · refine Got.step (T' := s₁) (g' := (mkF m 18 #[.val (.long q0), .second, .val (.long q1), .second, .val (.long q2), .second, .val (.int p3), .val (.int (1 : Int32)), .unset, .unset, .unset, .unset, .unset, .unset, .unset, .unset, .unset, .unset] [(.int (p3 &&& (2 : Int32)))])) (fun tq kt => ?_) ?_
    · show Steps p.tables e below (s₁.setTop (mkF m 4 #[.val (.long q0), .second, .val (.long q1), .second, .val (.long q2), .second, .val (.int p3), .unset, .unset, .unset, .unset, .unset, .unset, .unset, .unset, .unset, .unset, .unset] [(.int (p3 &&& (1 : Int32)))])) _
      refine XS.ifNo X0.here hx rfl (hb hby at_4) rfl (XT.i0_eq_f hc37) ?_
      show Steps p.tables e below (s₁.setTop (mkF m 7 #[.val (.long q0), .second, .val (.long q1), .second, .val (.long q2), .second, .val (.int p3), .unset, .unset, .unset, .unset, .unset, .unset, .unset, .unset, .unset, .unset, .unset] [])) _
      refine XS.iconst X0.here hx rfl (hb hby at_7) ?_
      show Steps p.tables e below (s₁.setTop (mkF m 8 #[.val (.long q0), .second, .val (.long q1), .second, .val (.long q2), .second, .val (.int p3), .unset, .unset, .unset, .unset, .unset, .unset, .unset, .unset, .unset, .unset, .unset] [(.int (1 : Int32))])) _
      refine XS.goto X0.here hx rfl (pc0 := 8) (pc' := 12) rfl (hb hby at_8) (by decide) (by decide) ?_
      show Steps p.tables e below (s₁.setTop (mkF m 12 #[.val (.long q0), .second, .val (.long q1), .second, .val (.long q2), .second, .val (.int p3), .unset, .unset, .unset, .unset, .unset, .unset, .unset, .unset, .unset, .unset, .unset] [(.int (1 : Int32))])) _
      refine XS.istore X0.here hx rfl (hb hby at_12) rfl (l' := #[.val (.long q0), .second, .val (.long q1), .second, .val (.long q2), .second, .val (.int p3), .val (.int (1 : Int32)), .unset, .unset, .unset, .unset, .unset, .unset, .unset, .unset, .unset, .unset]) rfl ?_
      show Steps p.tables e below (s₁.setTop (mkF m 14 #[.val (.long q0), .second, .val (.long q1), .second, .val (.long q2), .second, .val (.int p3), .val (.int (1 : Int32)), .unset, .unset, .unset, .unset, .unset, .unset, .unset, .unset, .unset, .unset] [])) _
      refine XS.iload X0.here hx rfl (hb hby at_14) rfl ?_
      show Steps p.tables e below (s₁.setTop (mkF m 16 #[.val (.long q0), .second, .val (.long q1), .second, .val (.long q2), .second, .val (.int p3), .val (.int (1 : Int32)), .unset, .unset, .unset, .unset, .unset, .unset, .unset, .unset, .unset, .unset] [(.int p3)])) _
      refine XS.iconst X0.here hx rfl (hb hby at_16) ?_
      show Steps p.tables e below (s₁.setTop (mkF m 17 #[.val (.long q0), .second, .val (.long q1), .second, .val (.long q2), .second, .val (.int p3), .val (.int (1 : Int32)), .unset, .unset, .unset, .unset, .unset, .unset, .unset, .unset, .unset, .unset] [(.int (2 : Int32)), (.int p3)])) _
      refine XS.iand X0.here hx rfl (hb hby at_17) rfl ?_
      exact kt
    have J63 : ∀ (k63_0 : Int32), k63_0 = (if (p3 &&& (2 : Int32)) = 0 then (0 : Int32) else (1 : Int32)) → Got p e below s (fun _ L => Fr n0 L) room_1.cells room_1.slots (some (.int (1 : Int32))) s₁ (mkF m 26 #[.val (.long q0), .second, .val (.long q1), .second, .val (.long q2), .second, .val (.int p3), .val (.int (1 : Int32)), .unset, .unset, .unset, .unset, .unset, .unset, .unset, .unset, .unset, .unset] [(.int k63_0)]) := by
      intro k63_0 hk63_0
      refine Got.step (T' := s₁) (g' := (mkF m 33 #[.val (.long q0), .second, .val (.long q1), .second, .val (.long q2), .second, .val (.int p3), .val (.int (1 : Int32)), .val (.int k63_0), .unset, .unset, .unset, .unset, .unset, .unset, .unset, .unset, .unset] [])) (fun tq kt => ?_) ?_
      · show Steps p.tables e below (s₁.setTop (mkF m 26 #[.val (.long q0), .second, .val (.long q1), .second, .val (.long q2), .second, .val (.int p3), .val (.int (1 : Int32)), .unset, .unset, .unset, .unset, .unset, .unset, .unset, .unset, .unset, .unset] [(.int k63_0)])) _
        refine XS.istore X0.here hx rfl (hb hby at_26) rfl (l' := #[.val (.long q0), .second, .val (.long q1), .second, .val (.long q2), .second, .val (.int p3), .val (.int (1 : Int32)), .val (.int k63_0), .unset, .unset, .unset, .unset, .unset, .unset, .unset, .unset, .unset]) rfl ?_
        show Steps p.tables e below (s₁.setTop (mkF m 28 #[.val (.long q0), .second, .val (.long q1), .second, .val (.long q2), .second, .val (.int p3), .val (.int (1 : Int32)), .val (.int k63_0), .unset, .unset, .unset, .unset, .unset, .unset, .unset, .unset, .unset] [])) _
        refine XS.iload X0.here hx rfl (hb hby at_28) rfl ?_
        show Steps p.tables e below (s₁.setTop (mkF m 30 #[.val (.long q0), .second, .val (.long q1), .second, .val (.long q2), .second, .val (.int p3), .val (.int (1 : Int32)), .val (.int k63_0), .unset, .unset, .unset, .unset, .unset, .unset, .unset, .unset, .unset] [(.int (1 : Int32))])) _
        refine XS.ifNo X0.here hx rfl (hb hby at_30) rfl (XT.i0_eq_f (by decide)) ?_
        exact kt
      obtain ⟨_, _, ⟨T65, L65, k65, n65⟩, -, X65, ⟨Lc65, hQ65, l65, y65, z65⟩, st65⟩ := Jvm.LawKit.callS X0 hx (y := (⟨"com/example/glasanje/glasanje/election/MajorityElection$VoteRecord", "forgotten", "()Lcom/example/glasanje/glasanje/election/MajorityElection$VoteRecord;"⟩ : MethodName)) hown (mvT hZ (hw _ (List.mem_of_getElem? (i := 32) rfl))) (mvT hZ (hw _ (List.mem_of_getElem? (i := 33) rfl))) (mvT hZ (hw _ (List.mem_of_getElem? (i := 2) rfl))) (mvT hZ (hw _ (List.mem_of_getElem? (i := 34) rfl))) (by decide) (backOf (W := 0) (rm7 l Z a0 hw []  h0 n0 Z0 ) hZ (hw _ (List.mem_of_getElem? (i := 34) rfl)) (hw _ (List.mem_of_getElem? (i := 2) rfl)) (by decide) (by decide)) (g := (mkF m 33 #[.val (.long q0), .second, .val (.long q1), .second, .val (.long q2), .second, .val (.int p3), .val (.int (1 : Int32)), .val (.int k63_0), .unset, .unset, .unset, .unset, .unset, .unset, .unset, .unset, .unset] [])) rfl (by rw [hml]; rfl) (argsL := []) (rest := []) (lenOf pd_4 rfl) rfl (by show 2 * 0 + _ ≤ _; exact Nat.le_of_eq rfl) (hb hby at_33) (fun _ _ => ⟨rfl, e0, (by decide : 0 + 1 ≤ _), (by decide : 0 + 2 ≤ _)⟩)
      dsimp only [Pt.U, Pt.locs, Pt.cells, Pt.slots] at X65 l65 y65 z65 st65 hQ65
      subst l65 y65 z65
      obtain ⟨b65, g65⟩ : ∃ z, z = h0.size := ⟨_, rfl⟩
      rw [← g65] at hQ65
      obtain ⟨h65, e65⟩ : ∃ z, T65.heap = z := ⟨_, rfl⟩
      rw [e65] at hQ65
      obtain ⟨rfl, Nq65, K65, B65_0, B65_1, B65_2⟩ := hQ65
      have N65 := Fr.app N0 Nq65
      have gn_b65 : n0 ≤ b65 := by rw [g65]; exact Z0
      have Z0_66 : n0 ≤ h65.size := (Nat.le_trans Z0 K65.1)
      refine Got.step st65 ?_
      show Got p e below s _ _ _ _ T65 (mkF m 36 #[.val (.long q0), .second, .val (.long q1), .second, .val (.long q2), .second, .val (.int p3), .val (.int (1 : Int32)), .val (.int k63_0), .unset, .unset, .unset, .unset, .unset, .unset, .unset, .unset, .unset] [(.ref b65)])
      refine Got.step (T' := T65) (g' := (mkF m 53 #[.val (.long q0), .second, .val (.long q1), .second, .val (.long q2), .second, .val (.int p3), .val (.int (1 : Int32)), .val (.int k63_0), .val (.ref b65), .val (.long (0 : Int64)), .second, .unset, .unset, .unset, .unset, .unset, .unset] [(.int k63_0)])) (fun tq kt => ?_) ?_
      · show Steps p.tables e below (T65.setTop (mkF m 36 #[.val (.long q0), .second, .val (.long q1), .second, .val (.long q2), .second, .val (.int p3), .val (.int (1 : Int32)), .val (.int k63_0), .unset, .unset, .unset, .unset, .unset, .unset, .unset, .unset, .unset] [(.ref b65)])) _
        refine XS.goto X65.here hx rfl (pc0 := 36) (pc' := 46) rfl (hb hby at_36) (by decide) (by decide) ?_
        show Steps p.tables e below (T65.setTop (mkF m 46 #[.val (.long q0), .second, .val (.long q1), .second, .val (.long q2), .second, .val (.int p3), .val (.int (1 : Int32)), .val (.int k63_0), .unset, .unset, .unset, .unset, .unset, .unset, .unset, .unset, .unset] [(.ref b65)])) _
        refine XS.astore X65.here hx rfl (hb hby at_46) rfl rfl (l' := #[.val (.long q0), .second, .val (.long q1), .second, .val (.long q2), .second, .val (.int p3), .val (.int (1 : Int32)), .val (.int k63_0), .val (.ref b65), .unset, .unset, .unset, .unset, .unset, .unset, .unset, .unset]) rfl ?_
        show Steps p.tables e below (T65.setTop (mkF m 48 #[.val (.long q0), .second, .val (.long q1), .second, .val (.long q2), .second, .val (.int p3), .val (.int (1 : Int32)), .val (.int k63_0), .val (.ref b65), .unset, .unset, .unset, .unset, .unset, .unset, .unset, .unset] [])) _
        refine XS.lconst X65.here hx rfl (hb hby at_48) ?_
        show Steps p.tables e below (T65.setTop (mkF m 49 #[.val (.long q0), .second, .val (.long q1), .second, .val (.long q2), .second, .val (.int p3), .val (.int (1 : Int32)), .val (.int k63_0), .val (.ref b65), .unset, .unset, .unset, .unset, .unset, .unset, .unset, .unset] [(.long (0 : Int64))])) _
        refine XS.lstore X65.here hx rfl (hb hby at_49) rfl (l' := #[.val (.long q0), .second, .val (.long q1), .second, .val (.long q2), .second, .val (.int p3), .val (.int (1 : Int32)), .val (.int k63_0), .val (.ref b65), .val (.long (0 : Int64)), .second, .unset, .unset, .unset, .unset, .unset, .unset]) rfl ?_
        show Steps p.tables e below (T65.setTop (mkF m 51 #[.val (.long q0), .second, .val (.long q1), .second, .val (.long q2), .second, .val (.int p3), .val (.int (1 : Int32)), .val (.int k63_0), .val (.ref b65), .val (.long (0 : Int64)), .second, .unset, .unset, .unset, .unset, .unset, .unset] [])) _
        refine XS.iload X65.here hx rfl (hb hby at_51) rfl ?_
        exact kt
      have J67 : ∀ (T67 : State) (h67 : Heap) (L67 : List Loc), Stand p l e room_1 s m #[(.long q0), (.long q1), (.long q2), (.int p3)] below meth c T67 L67 1 2 → T67.heap = h67 → Fr n0 L67 → ∀ (v67_10 : Int64), v67_10 = (if k63_0 = 0 then (0 : Int64) else (if (0 : Int64) < q0 then q0 else (0 : Int64))) → ∀ (w67_b65_term : Int64), w67_b65_term = (if k63_0 = 0 then (0 : Int64) else (if (0 : Int64) < q0 then (f4 (0 : Int64) q0) else (f4 (0 : Int64) q0))) → n0 ≤ h67.size → Exa Z h67 b65 "com/example/glasanje/glasanje/election/MajorityElection$VoteRecord" → Fld Z h67 b65 "com/example/glasanje/glasanje/election/MajorityElection$VoteRecord" "term" "J" (.long w67_b65_term) → Fld Z h67 b65 "com/example/glasanje/glasanje/election/MajorityElection$VoteRecord" "forgotten" "Z" (.int (1 : Int32)) → Got p e below s (fun _ L => Fr n0 L) room_1.cells room_1.slots (some (.int (1 : Int32))) T67 (mkF m 71 #[.val (.long q0), .second, .val (.long q1), .second, .val (.long q2), .second, .val (.int p3), .val (.int (1 : Int32)), .val (.int k63_0), .val (.ref b65), .val (.long v67_10), .second, .unset, .unset, .unset, .unset, .unset, .unset] []) := by
        intro T67 h67 L67 X67 e67 N67 v67_10 hv67_10 w67_b65_term hw67_b65_term Z0_73 B65_74 B65_75 B65_76
        refine Got.step (T' := T67) (g' := (mkF m 74 #[.val (.long q0), .second, .val (.long q1), .second, .val (.long q2), .second, .val (.int p3), .val (.int (1 : Int32)), .val (.int k63_0), .val (.ref b65), .val (.long v67_10), .second, .unset, .unset, .unset, .unset, .unset, .unset] [(.long q1), (.ref b65)])) (fun tq kt => ?_) ?_
        · show Steps p.tables e below (T67.setTop (mkF m 71 #[.val (.long q0), .second, .val (.long q1), .second, .val (.long q2), .second, .val (.int p3), .val (.int (1 : Int32)), .val (.int k63_0), .val (.ref b65), .val (.long v67_10), .second, .unset, .unset, .unset, .unset, .unset, .unset] [])) _
          refine XS.aload X67.here hx rfl (hb hby at_71) rfl rfl ?_
          show Steps p.tables e below (T67.setTop (mkF m 73 #[.val (.long q0), .second, .val (.long q1), .second, .val (.long q2), .second, .val (.int p3), .val (.int (1 : Int32)), .val (.int k63_0), .val (.ref b65), .val (.long v67_10), .second, .unset, .unset, .unset, .unset, .unset, .unset] [(.ref b65)])) _
          refine XS.lloadN X67.here hx rfl (hb hby at_73) rfl ?_
          exact kt
        obtain ⟨cq77, kq77, qa77, qb77, qc77⟩ := isOf hZ e67 B65_74
        obtain ⟨_, _, ⟨T77, L77, k77, n77⟩, -, X77, ⟨Lc77, hQ77, l77, y77, z77⟩, st77⟩ := X67.virtualBack hx (y := (⟨"com/example/glasanje/glasanje/election/MajorityElection$VoteRecord", "starting", "(J)V"⟩ : MethodName)) (z := (⟨"com/example/glasanje/glasanje/election/MajorityElection$VoteRecord", "starting", "(J)V"⟩ : MethodName)) hown (mvT hZ (hw _ (List.mem_of_getElem? (i := 20) rfl))) (mvT hZ (hw _ (List.mem_of_getElem? (i := 21) rfl))) (notFace_of_selects (args := #[]) (mvT hZ (hw _ (List.mem_of_getElem? (i := 23) rfl)))) (mvT hZ (hw _ (List.mem_of_getElem? (i := 23) rfl))) (mvT hZ (hw _ (List.mem_of_getElem? (i := 22) rfl))) (by decide) (backOf (W := 0) (rm5b l Z a0 hw [] b65 q1 w67_b65_term h67 n0 Z0_73 gn_b65 B65_74 B65_75 B65_76 ) hZ (hw _ (List.mem_of_getElem? (i := 24) rfl)) (hw _ (List.mem_of_getElem? (i := 2) rfl)) (by decide) (by decide)) qa77 qc77 (g := (mkF m 74 #[.val (.long q0), .second, .val (.long q1), .second, .val (.long q2), .second, .val (.int p3), .val (.int (1 : Int32)), .val (.int k63_0), .val (.ref b65), .val (.long v67_10), .second, .unset, .unset, .unset, .unset, .unset, .unset] [(.long q1), (.ref b65)])) rfl (by rw [hml]; rfl) (Steps.refl _) (argsL := [(.long q1)]) (rest := []) (lenOf pd_1 rfl) rfl (by show 2 * 0 + _ ≤ _; exact Nat.le_of_eq rfl) (hb hby at_74) (fun _ _ => ⟨rfl, e67, (by decide : 1 + 0 ≤ _), (by decide : 2 + 0 ≤ _)⟩)
        dsimp only [Pt.U, Pt.locs, Pt.cells, Pt.slots] at X77 l77 y77 z77 st77 hQ77
        subst l77 y77 z77
        obtain ⟨h77, e77⟩ : ∃ z, T77.heap = z := ⟨_, rfl⟩
        rw [e77] at hQ77
        obtain ⟨rfl, Nq77, K77, E77, G77_term, G77_forgotten⟩ := hQ77
        have N77 := Fr.app N67 Nq77
        have Z0_78 : n0 ≤ h77.size := (Nat.le_trans Z0_73 K77.1)
        have B65_79 : Exa Z h77 b65 "com/example/glasanje/glasanje/election/MajorityElection$VoteRecord" := (B65_74.keep K77)
        refine Got.hop st77 ?_
        show Got p e below s _ _ _ _ T77 (mkF m 77 #[.val (.long q0), .second, .val (.long q1), .second, .val (.long q2), .second, .val (.int p3), .val (.int (1 : Int32)), .val (.int k63_0), .val (.ref b65), .val (.long v67_10), .second, .unset, .unset, .unset, .unset, .unset, .unset] [])
        refine Got.step (T' := T77) (g' := (mkF m 79 #[.val (.long q0), .second, .val (.long q1), .second, .val (.long q2), .second, .val (.int p3), .val (.int (1 : Int32)), .val (.int k63_0), .val (.ref b65), .val (.long v67_10), .second, .unset, .unset, .unset, .unset, .unset, .unset] [(.ref b65)])) (fun tq kt => ?_) ?_
        · show Steps p.tables e below (T77.setTop (mkF m 77 #[.val (.long q0), .second, .val (.long q1), .second, .val (.long q2), .second, .val (.int p3), .val (.int (1 : Int32)), .val (.int k63_0), .val (.ref b65), .val (.long v67_10), .second, .unset, .unset, .unset, .unset, .unset, .unset] [])) _
          refine XS.aload X77.here hx rfl (hb hby at_77) rfl rfl ?_
          exact kt
        obtain ⟨cq80, kq80, qa80, qb80, qc80⟩ := isOf hZ e77 B65_79
        obtain ⟨_, _, ⟨T80, L80, k80, n80⟩, -, X80, ⟨Lc80, hQ80, l80, y80, z80⟩, st80⟩ := X77.virtualBack hx (y := (⟨"com/example/glasanje/glasanje/election/MajorityElection$VoteRecord", "term", "()J"⟩ : MethodName)) (z := (⟨"com/example/glasanje/glasanje/election/MajorityElection$VoteRecord", "term", "()J"⟩ : MethodName)) hown (mvT hZ (hw _ (List.mem_of_getElem? (i := 27) rfl))) (mvT hZ (hw _ (List.mem_of_getElem? (i := 28) rfl))) (notFace_of_selects (args := #[]) (mvT hZ (hw _ (List.mem_of_getElem? (i := 30) rfl)))) (mvT hZ (hw _ (List.mem_of_getElem? (i := 30) rfl))) (mvT hZ (hw _ (List.mem_of_getElem? (i := 29) rfl))) (by decide) (backOf (W := 0) (rm6 l Z a0 hw [] b65 (f4 w67_b65_term q1) h77 n0 Z0_78 B65_79 G77_term ) hZ (hw _ (List.mem_of_getElem? (i := 31) rfl)) (hw _ (List.mem_of_getElem? (i := 2) rfl)) (by decide) (by decide)) qa80 qc80 (g := (mkF m 79 #[.val (.long q0), .second, .val (.long q1), .second, .val (.long q2), .second, .val (.int p3), .val (.int (1 : Int32)), .val (.int k63_0), .val (.ref b65), .val (.long v67_10), .second, .unset, .unset, .unset, .unset, .unset, .unset] [(.ref b65)])) rfl (by rw [hml]; rfl) (Steps.refl _) (argsL := []) (rest := []) (lenOf pd_3 rfl) rfl (by show 2 * 0 + _ ≤ _; exact Nat.le_of_eq rfl) (hb hby at_79) (fun _ _ => ⟨rfl, e77, (by decide : 1 + 0 ≤ _), (by decide : 2 + 0 ≤ _)⟩)
        dsimp only [Pt.U, Pt.locs, Pt.cells, Pt.slots] at X80 l80 y80 z80 st80 hQ80
        subst l80 y80 z80
        obtain ⟨rfl, Nq80, e80⟩ := hQ80
        have N80 := Fr.app N77 Nq80
        refine Got.hop st80 ?_
        show Got p e below s _ _ _ _ T80 (mkF m 82 #[.val (.long q0), .second, .val (.long q1), .second, .val (.long q2), .second, .val (.int p3), .val (.int (1 : Int32)), .val (.int k63_0), .val (.ref b65), .val (.long v67_10), .second, .unset, .unset, .unset, .unset, .unset, .unset] [(.long (f6 (f4 w67_b65_term q1)))])
        refine Got.step (T' := T80) (g' := (mkF m 97 #[.val (.long q0), .second, .val (.long q1), .second, .val (.long q2), .second, .val (.int p3), .val (.int (1 : Int32)), .val (.int k63_0), .val (.ref b65), .val (.long v67_10), .second, .val (.long (f6 (f4 w67_b65_term q1))), .second, .val (.long v67_10), .second, .unset, .unset] [(.int (XT.cmpL q1 v67_10))])) (fun tq kt => ?_) ?_
        · show Steps p.tables e below (T80.setTop (mkF m 82 #[.val (.long q0), .second, .val (.long q1), .second, .val (.long q2), .second, .val (.int p3), .val (.int (1 : Int32)), .val (.int k63_0), .val (.ref b65), .val (.long v67_10), .second, .unset, .unset, .unset, .unset, .unset, .unset] [(.long (f6 (f4 w67_b65_term q1)))])) _
          refine XS.lstore X80.here hx rfl (hb hby at_82) rfl (l' := #[.val (.long q0), .second, .val (.long q1), .second, .val (.long q2), .second, .val (.int p3), .val (.int (1 : Int32)), .val (.int k63_0), .val (.ref b65), .val (.long v67_10), .second, .val (.long (f6 (f4 w67_b65_term q1))), .second, .unset, .unset, .unset, .unset]) rfl ?_
          show Steps p.tables e below (T80.setTop (mkF m 84 #[.val (.long q0), .second, .val (.long q1), .second, .val (.long q2), .second, .val (.int p3), .val (.int (1 : Int32)), .val (.int k63_0), .val (.ref b65), .val (.long v67_10), .second, .val (.long (f6 (f4 w67_b65_term q1))), .second, .unset, .unset, .unset, .unset] [])) _
          refine XS.lload X80.here hx rfl (hb hby at_84) rfl ?_
          show Steps p.tables e below (T80.setTop (mkF m 86 #[.val (.long q0), .second, .val (.long q1), .second, .val (.long q2), .second, .val (.int p3), .val (.int (1 : Int32)), .val (.int k63_0), .val (.ref b65), .val (.long v67_10), .second, .val (.long (f6 (f4 w67_b65_term q1))), .second, .unset, .unset, .unset, .unset] [(.long v67_10)])) _
          refine XS.lstore X80.here hx rfl (hb hby at_86) rfl (l' := #[.val (.long q0), .second, .val (.long q1), .second, .val (.long q2), .second, .val (.int p3), .val (.int (1 : Int32)), .val (.int k63_0), .val (.ref b65), .val (.long v67_10), .second, .val (.long (f6 (f4 w67_b65_term q1))), .second, .val (.long v67_10), .second, .unset, .unset]) rfl ?_
          show Steps p.tables e below (T80.setTop (mkF m 88 #[.val (.long q0), .second, .val (.long q1), .second, .val (.long q2), .second, .val (.int p3), .val (.int (1 : Int32)), .val (.int k63_0), .val (.ref b65), .val (.long v67_10), .second, .val (.long (f6 (f4 w67_b65_term q1))), .second, .val (.long v67_10), .second, .unset, .unset] [])) _
          refine XS.iload X80.here hx rfl (hb hby at_88) rfl ?_
          show Steps p.tables e below (T80.setTop (mkF m 90 #[.val (.long q0), .second, .val (.long q1), .second, .val (.long q2), .second, .val (.int p3), .val (.int (1 : Int32)), .val (.int k63_0), .val (.ref b65), .val (.long v67_10), .second, .val (.long (f6 (f4 w67_b65_term q1))), .second, .val (.long v67_10), .second, .unset, .unset] [(.int (1 : Int32))])) _
          refine XS.ifNo X80.here hx rfl (hb hby at_90) rfl (XT.i0_eq_f (by decide)) ?_
          show Steps p.tables e below (T80.setTop (mkF m 93 #[.val (.long q0), .second, .val (.long q1), .second, .val (.long q2), .second, .val (.int p3), .val (.int (1 : Int32)), .val (.int k63_0), .val (.ref b65), .val (.long v67_10), .second, .val (.long (f6 (f4 w67_b65_term q1))), .second, .val (.long v67_10), .second, .unset, .unset] [])) _
          refine XS.lloadN X80.here hx rfl (hb hby at_93) rfl ?_
          show Steps p.tables e below (T80.setTop (mkF m 94 #[.val (.long q0), .second, .val (.long q1), .second, .val (.long q2), .second, .val (.int p3), .val (.int (1 : Int32)), .val (.int k63_0), .val (.ref b65), .val (.long v67_10), .second, .val (.long (f6 (f4 w67_b65_term q1))), .second, .val (.long v67_10), .second, .unset, .unset] [(.long q1)])) _
          refine XS.lload X80.here hx rfl (hb hby at_94) rfl ?_
          show Steps p.tables e below (T80.setTop (mkF m 96 #[.val (.long q0), .second, .val (.long q1), .second, .val (.long q2), .second, .val (.int p3), .val (.int (1 : Int32)), .val (.int k63_0), .val (.ref b65), .val (.long v67_10), .second, .val (.long (f6 (f4 w67_b65_term q1))), .second, .val (.long v67_10), .second, .unset, .unset] [(.long v67_10), (.long q1)])) _
          refine XT.lcmp X80.here hx rfl (hb hby at_96) rfl ?_
          exact kt
        have J81 : ∀ (v81_14 : Int64), v81_14 = (if v67_10 < q1 then q1 else v67_10) → Got p e below s (fun _ L => Fr n0 L) room_1.cells room_1.slots (some (.int (1 : Int32))) T80 (mkF m 103 #[.val (.long q0), .second, .val (.long q1), .second, .val (.long q2), .second, .val (.int p3), .val (.int (1 : Int32)), .val (.int k63_0), .val (.ref b65), .val (.long v67_10), .second, .val (.long (f6 (f4 w67_b65_term q1))), .second, .val (.long v81_14), .second, .unset, .unset] []) := by
          intro v81_14 hv81_14
          refine Got.step (T' := T80) (g' := (mkF m 107 #[.val (.long q0), .second, .val (.long q1), .second, .val (.long q2), .second, .val (.int p3), .val (.int (1 : Int32)), .val (.int k63_0), .val (.ref b65), .val (.long v67_10), .second, .val (.long (f6 (f4 w67_b65_term q1))), .second, .val (.long v81_14), .second, .unset, .unset] [(.long q2), (.ref b65)])) (fun tq kt => ?_) ?_
          · show Steps p.tables e below (T80.setTop (mkF m 103 #[.val (.long q0), .second, .val (.long q1), .second, .val (.long q2), .second, .val (.int p3), .val (.int (1 : Int32)), .val (.int k63_0), .val (.ref b65), .val (.long v67_10), .second, .val (.long (f6 (f4 w67_b65_term q1))), .second, .val (.long v81_14), .second, .unset, .unset] [])) _
            refine XS.aload X80.here hx rfl (hb hby at_103) rfl rfl ?_
            show Steps p.tables e below (T80.setTop (mkF m 105 #[.val (.long q0), .second, .val (.long q1), .second, .val (.long q2), .second, .val (.int p3), .val (.int (1 : Int32)), .val (.int k63_0), .val (.ref b65), .val (.long v67_10), .second, .val (.long (f6 (f4 w67_b65_term q1))), .second, .val (.long v81_14), .second, .unset, .unset] [(.ref b65)])) _
            refine XS.lload X80.here hx rfl (hb hby at_105) rfl ?_
            exact kt
          obtain ⟨cq83, kq83, qa83, qb83, qc83⟩ := isOf hZ e80 B65_79
          obtain ⟨_, _, ⟨T83, L83, k83, n83⟩, -, X83, ⟨Lc83, hQ83, l83, y83, z83⟩, st83⟩ := X80.virtualBack hx (y := (⟨"com/example/glasanje/glasanje/election/MajorityElection$VoteRecord", "starting", "(J)V"⟩ : MethodName)) (z := (⟨"com/example/glasanje/glasanje/election/MajorityElection$VoteRecord", "starting", "(J)V"⟩ : MethodName)) hown (mvT hZ (hw _ (List.mem_of_getElem? (i := 20) rfl))) (mvT hZ (hw _ (List.mem_of_getElem? (i := 21) rfl))) (notFace_of_selects (args := #[]) (mvT hZ (hw _ (List.mem_of_getElem? (i := 23) rfl)))) (mvT hZ (hw _ (List.mem_of_getElem? (i := 23) rfl))) (mvT hZ (hw _ (List.mem_of_getElem? (i := 22) rfl))) (by decide) (backOf (W := 0) (rm5a l Z a0 hw [] b65 q2 (f4 w67_b65_term q1) h77 n0 Z0_78 gn_b65 B65_79 G77_term G77_forgotten ) hZ (hw _ (List.mem_of_getElem? (i := 24) rfl)) (hw _ (List.mem_of_getElem? (i := 2) rfl)) (by decide) (by decide)) qa83 qc83 (g := (mkF m 107 #[.val (.long q0), .second, .val (.long q1), .second, .val (.long q2), .second, .val (.int p3), .val (.int (1 : Int32)), .val (.int k63_0), .val (.ref b65), .val (.long v67_10), .second, .val (.long (f6 (f4 w67_b65_term q1))), .second, .val (.long v81_14), .second, .unset, .unset] [(.long q2), (.ref b65)])) rfl (by rw [hml]; rfl) (Steps.refl _) (argsL := [(.long q2)]) (rest := []) (lenOf pd_1 rfl) rfl (by show 2 * 0 + _ ≤ _; exact Nat.le_of_eq rfl) (hb hby at_107) (fun _ _ => ⟨rfl, e80, (by decide : 1 + 0 ≤ _), (by decide : 2 + 0 ≤ _)⟩)
          dsimp only [Pt.U, Pt.locs, Pt.cells, Pt.slots] at X83 l83 y83 z83 st83 hQ83
          subst l83 y83 z83
          obtain ⟨h83, e83⟩ : ∃ z, T83.heap = z := ⟨_, rfl⟩
          rw [e83] at hQ83
          obtain ⟨rfl, Nq83, K83, E83, G83_term, G83_forgotten⟩ := hQ83
          have N83 := Fr.app N80 Nq83
          have Z0_84 : n0 ≤ h83.size := (Nat.le_trans Z0_78 K83.1)
          have B65_85 : Exa Z h83 b65 "com/example/glasanje/glasanje/election/MajorityElection$VoteRecord" := (B65_79.keep K83)
          refine Got.hop st83 ?_
          show Got p e below s _ _ _ _ T83 (mkF m 110 #[.val (.long q0), .second, .val (.long q1), .second, .val (.long q2), .second, .val (.int p3), .val (.int (1 : Int32)), .val (.int k63_0), .val (.ref b65), .val (.long v67_10), .second, .val (.long (f6 (f4 w67_b65_term q1))), .second, .val (.long v81_14), .second, .unset, .unset] [])
          refine Got.step (T' := T83) (g' := (mkF m 112 #[.val (.long q0), .second, .val (.long q1), .second, .val (.long q2), .second, .val (.int p3), .val (.int (1 : Int32)), .val (.int k63_0), .val (.ref b65), .val (.long v67_10), .second, .val (.long (f6 (f4 w67_b65_term q1))), .second, .val (.long v81_14), .second, .unset, .unset] [(.ref b65)])) (fun tq kt => ?_) ?_
          · show Steps p.tables e below (T83.setTop (mkF m 110 #[.val (.long q0), .second, .val (.long q1), .second, .val (.long q2), .second, .val (.int p3), .val (.int (1 : Int32)), .val (.int k63_0), .val (.ref b65), .val (.long v67_10), .second, .val (.long (f6 (f4 w67_b65_term q1))), .second, .val (.long v81_14), .second, .unset, .unset] [])) _
            refine XS.aload X83.here hx rfl (hb hby at_110) rfl rfl ?_
            exact kt
          obtain ⟨cq86, kq86, qa86, qb86, qc86⟩ := isOf hZ e83 B65_85
          obtain ⟨_, _, ⟨T86, L86, k86, n86⟩, -, X86, ⟨Lc86, hQ86, l86, y86, z86⟩, st86⟩ := X83.virtualBack hx (y := (⟨"com/example/glasanje/glasanje/election/MajorityElection$VoteRecord", "term", "()J"⟩ : MethodName)) (z := (⟨"com/example/glasanje/glasanje/election/MajorityElection$VoteRecord", "term", "()J"⟩ : MethodName)) hown (mvT hZ (hw _ (List.mem_of_getElem? (i := 27) rfl))) (mvT hZ (hw _ (List.mem_of_getElem? (i := 28) rfl))) (notFace_of_selects (args := #[]) (mvT hZ (hw _ (List.mem_of_getElem? (i := 30) rfl)))) (mvT hZ (hw _ (List.mem_of_getElem? (i := 30) rfl))) (mvT hZ (hw _ (List.mem_of_getElem? (i := 29) rfl))) (by decide) (backOf (W := 0) (rm6 l Z a0 hw [] b65 (f4 w67_b65_term q1) h83 n0 Z0_84 B65_85 G83_term ) hZ (hw _ (List.mem_of_getElem? (i := 31) rfl)) (hw _ (List.mem_of_getElem? (i := 2) rfl)) (by decide) (by decide)) qa86 qc86 (g := (mkF m 112 #[.val (.long q0), .second, .val (.long q1), .second, .val (.long q2), .second, .val (.int p3), .val (.int (1 : Int32)), .val (.int k63_0), .val (.ref b65), .val (.long v67_10), .second, .val (.long (f6 (f4 w67_b65_term q1))), .second, .val (.long v81_14), .second, .unset, .unset] [(.ref b65)])) rfl (by rw [hml]; rfl) (Steps.refl _) (argsL := []) (rest := []) (lenOf pd_3 rfl) rfl (by show 2 * 0 + _ ≤ _; exact Nat.le_of_eq rfl) (hb hby at_112) (fun _ _ => ⟨rfl, e83, (by decide : 1 + 0 ≤ _), (by decide : 2 + 0 ≤ _)⟩)
          dsimp only [Pt.U, Pt.locs, Pt.cells, Pt.slots] at X86 l86 y86 z86 st86 hQ86
          subst l86 y86 z86
          obtain ⟨rfl, Nq86, e86⟩ := hQ86
          have N86 := Fr.app N83 Nq86
          refine Got.hop st86 ?_
          show Got p e below s _ _ _ _ T86 (mkF m 115 #[.val (.long q0), .second, .val (.long q1), .second, .val (.long q2), .second, .val (.int p3), .val (.int (1 : Int32)), .val (.int k63_0), .val (.ref b65), .val (.long v67_10), .second, .val (.long (f6 (f4 w67_b65_term q1))), .second, .val (.long v81_14), .second, .unset, .unset] [(.long (f6 (f4 w67_b65_term q1)))])
          refine Got.step (T' := T86) (g' := (mkF m 138 #[.val (.long q0), .second, .val (.long q1), .second, .val (.long q2), .second, .val (.int p3), .val (.int (1 : Int32)), .val (.int k63_0), .val (.ref b65), .val (.long v67_10), .second, .val (.long (f6 (f4 w67_b65_term q1))), .second, .val (.long v81_14), .second, .val (.long (f6 (f4 w67_b65_term q1))), .second] [(.int (1 : Int32))])) (fun tq kt => ?_) ?_
          · show Steps p.tables e below (T86.setTop (mkF m 115 #[.val (.long q0), .second, .val (.long q1), .second, .val (.long q2), .second, .val (.int p3), .val (.int (1 : Int32)), .val (.int k63_0), .val (.ref b65), .val (.long v67_10), .second, .val (.long (f6 (f4 w67_b65_term q1))), .second, .val (.long v81_14), .second, .unset, .unset] [(.long (f6 (f4 w67_b65_term q1)))])) _
            refine XS.lstore X86.here hx rfl (hb hby at_115) rfl (l' := #[.val (.long q0), .second, .val (.long q1), .second, .val (.long q2), .second, .val (.int p3), .val (.int (1 : Int32)), .val (.int k63_0), .val (.ref b65), .val (.long v67_10), .second, .val (.long (f6 (f4 w67_b65_term q1))), .second, .val (.long v81_14), .second, .val (.long (f6 (f4 w67_b65_term q1))), .second]) rfl ?_
            show Steps p.tables e below (T86.setTop (mkF m 117 #[.val (.long q0), .second, .val (.long q1), .second, .val (.long q2), .second, .val (.int p3), .val (.int (1 : Int32)), .val (.int k63_0), .val (.ref b65), .val (.long v67_10), .second, .val (.long (f6 (f4 w67_b65_term q1))), .second, .val (.long v81_14), .second, .val (.long (f6 (f4 w67_b65_term q1))), .second] [])) _
            refine XS.lload X86.here hx rfl (hb hby at_117) rfl ?_
            show Steps p.tables e below (T86.setTop (mkF m 119 #[.val (.long q0), .second, .val (.long q1), .second, .val (.long q2), .second, .val (.int p3), .val (.int (1 : Int32)), .val (.int k63_0), .val (.ref b65), .val (.long v67_10), .second, .val (.long (f6 (f4 w67_b65_term q1))), .second, .val (.long v81_14), .second, .val (.long (f6 (f4 w67_b65_term q1))), .second] [(.long (f6 (f4 w67_b65_term q1)))])) _
            refine XS.lload X86.here hx rfl (hb hby at_119) rfl ?_
            show Steps p.tables e below (T86.setTop (mkF m 121 #[.val (.long q0), .second, .val (.long q1), .second, .val (.long q2), .second, .val (.int p3), .val (.int (1 : Int32)), .val (.int k63_0), .val (.ref b65), .val (.long v67_10), .second, .val (.long (f6 (f4 w67_b65_term q1))), .second, .val (.long v81_14), .second, .val (.long (f6 (f4 w67_b65_term q1))), .second] [(.long v81_14), (.long (f6 (f4 w67_b65_term q1)))])) _
            refine XT.lcmp X86.here hx rfl (hb hby at_121) rfl ?_
            show Steps p.tables e below (T86.setTop (mkF m 122 #[.val (.long q0), .second, .val (.long q1), .second, .val (.long q2), .second, .val (.int p3), .val (.int (1 : Int32)), .val (.int k63_0), .val (.ref b65), .val (.long v67_10), .second, .val (.long (f6 (f4 w67_b65_term q1))), .second, .val (.long v81_14), .second, .val (.long (f6 (f4 w67_b65_term q1))), .second] [(.int (XT.cmpL (f6 (f4 w67_b65_term q1)) v81_14))])) _
            refine XS.ifNo X86.here hx rfl (hb hby at_122) rfl (XT.ll_ne_f (own_q q0 q1 q2 p3 hk63_0 hv67_10 hw67_b65_term hv81_14)) ?_
            show Steps p.tables e below (T86.setTop (mkF m 125 #[.val (.long q0), .second, .val (.long q1), .second, .val (.long q2), .second, .val (.int p3), .val (.int (1 : Int32)), .val (.int k63_0), .val (.ref b65), .val (.long v67_10), .second, .val (.long (f6 (f4 w67_b65_term q1))), .second, .val (.long v81_14), .second, .val (.long (f6 (f4 w67_b65_term q1))), .second] [])) _
            refine XS.lload X86.here hx rfl (hb hby at_125) rfl ?_
            show Steps p.tables e below (T86.setTop (mkF m 127 #[.val (.long q0), .second, .val (.long q1), .second, .val (.long q2), .second, .val (.int p3), .val (.int (1 : Int32)), .val (.int k63_0), .val (.ref b65), .val (.long v67_10), .second, .val (.long (f6 (f4 w67_b65_term q1))), .second, .val (.long v81_14), .second, .val (.long (f6 (f4 w67_b65_term q1))), .second] [(.long (f6 (f4 w67_b65_term q1)))])) _
            refine XS.lload X86.here hx rfl (hb hby at_127) rfl ?_
            show Steps p.tables e below (T86.setTop (mkF m 129 #[.val (.long q0), .second, .val (.long q1), .second, .val (.long q2), .second, .val (.int p3), .val (.int (1 : Int32)), .val (.int k63_0), .val (.ref b65), .val (.long v67_10), .second, .val (.long (f6 (f4 w67_b65_term q1))), .second, .val (.long v81_14), .second, .val (.long (f6 (f4 w67_b65_term q1))), .second] [(.long v81_14), (.long (f6 (f4 w67_b65_term q1)))])) _
            refine XT.lcmp X86.here hx rfl (hb hby at_129) rfl ?_
            show Steps p.tables e below (T86.setTop (mkF m 130 #[.val (.long q0), .second, .val (.long q1), .second, .val (.long q2), .second, .val (.int p3), .val (.int (1 : Int32)), .val (.int k63_0), .val (.ref b65), .val (.long v67_10), .second, .val (.long (f6 (f4 w67_b65_term q1))), .second, .val (.long v81_14), .second, .val (.long (f6 (f4 w67_b65_term q1))), .second] [(.int (XT.cmpL (f6 (f4 w67_b65_term q1)) v81_14))])) _
            refine XS.ifNo X86.here hx rfl (hb hby at_130) rfl (XT.ll_ne_f (own_q q0 q1 q2 p3 hk63_0 hv67_10 hw67_b65_term hv81_14)) ?_
            show Steps p.tables e below (T86.setTop (mkF m 133 #[.val (.long q0), .second, .val (.long q1), .second, .val (.long q2), .second, .val (.int p3), .val (.int (1 : Int32)), .val (.int k63_0), .val (.ref b65), .val (.long v67_10), .second, .val (.long (f6 (f4 w67_b65_term q1))), .second, .val (.long v81_14), .second, .val (.long (f6 (f4 w67_b65_term q1))), .second] [])) _
            refine XS.iconst X86.here hx rfl (hb hby at_133) ?_
            show Steps p.tables e below (T86.setTop (mkF m 134 #[.val (.long q0), .second, .val (.long q1), .second, .val (.long q2), .second, .val (.int p3), .val (.int (1 : Int32)), .val (.int k63_0), .val (.ref b65), .val (.long v67_10), .second, .val (.long (f6 (f4 w67_b65_term q1))), .second, .val (.long v81_14), .second, .val (.long (f6 (f4 w67_b65_term q1))), .second] [(.int (1 : Int32))])) _
            refine XS.goto X86.here hx rfl (pc0 := 134) (pc' := 138) rfl (hb hby at_134) (by decide) (by decide) ?_
            exact kt
          exact Got.retN (y := (1 : Int32)) (t := .boolean) X86 hx Bd.returns (by simp) hlk (hb hby at_138) (by decide) N86 (by decide) (by decide)
        by_cases hc82 : (v67_10 < q1)
        · refine Got.step (T' := T80) (g' := (mkF m 103 #[.val (.long q0), .second, .val (.long q1), .second, .val (.long q2), .second, .val (.int p3), .val (.int (1 : Int32)), .val (.int k63_0), .val (.ref b65), .val (.long v67_10), .second, .val (.long (f6 (f4 w67_b65_term q1))), .second, .val (.long q1), .second, .unset, .unset] [])) (fun tq kt => ?_) ?_
          · show Steps p.tables e below (T80.setTop (mkF m 97 #[.val (.long q0), .second, .val (.long q1), .second, .val (.long q2), .second, .val (.int p3), .val (.int (1 : Int32)), .val (.int k63_0), .val (.ref b65), .val (.long v67_10), .second, .val (.long (f6 (f4 w67_b65_term q1))), .second, .val (.long v67_10), .second, .unset, .unset] [(.int (XT.cmpL q1 v67_10))])) _
            refine XS.ifNo X80.here hx rfl (hb hby at_97) rfl (XT.ll_le_f hc82) ?_
            show Steps p.tables e below (T80.setTop (mkF m 100 #[.val (.long q0), .second, .val (.long q1), .second, .val (.long q2), .second, .val (.int p3), .val (.int (1 : Int32)), .val (.int k63_0), .val (.ref b65), .val (.long v67_10), .second, .val (.long (f6 (f4 w67_b65_term q1))), .second, .val (.long v67_10), .second, .unset, .unset] [])) _
            refine XS.lloadN X80.here hx rfl (hb hby at_100) rfl ?_
            show Steps p.tables e below (T80.setTop (mkF m 101 #[.val (.long q0), .second, .val (.long q1), .second, .val (.long q2), .second, .val (.int p3), .val (.int (1 : Int32)), .val (.int k63_0), .val (.ref b65), .val (.long v67_10), .second, .val (.long (f6 (f4 w67_b65_term q1))), .second, .val (.long v67_10), .second, .unset, .unset] [(.long q1)])) _
            refine XS.lstore X80.here hx rfl (hb hby at_101) rfl (l' := #[.val (.long q0), .second, .val (.long q1), .second, .val (.long q2), .second, .val (.int p3), .val (.int (1 : Int32)), .val (.int k63_0), .val (.ref b65), .val (.long v67_10), .second, .val (.long (f6 (f4 w67_b65_term q1))), .second, .val (.long q1), .second, .unset, .unset]) rfl ?_
            exact kt
          exact J81 q1 (if_pos hc82).symm
        · refine Got.step (T' := T80) (g' := (mkF m 103 #[.val (.long q0), .second, .val (.long q1), .second, .val (.long q2), .second, .val (.int p3), .val (.int (1 : Int32)), .val (.int k63_0), .val (.ref b65), .val (.long v67_10), .second, .val (.long (f6 (f4 w67_b65_term q1))), .second, .val (.long v67_10), .second, .unset, .unset] [])) (fun tq kt => ?_) ?_
          · show Steps p.tables e below (T80.setTop (mkF m 97 #[.val (.long q0), .second, .val (.long q1), .second, .val (.long q2), .second, .val (.int p3), .val (.int (1 : Int32)), .val (.int k63_0), .val (.ref b65), .val (.long v67_10), .second, .val (.long (f6 (f4 w67_b65_term q1))), .second, .val (.long v67_10), .second, .unset, .unset] [(.int (XT.cmpL q1 v67_10))])) _
            refine XS.ifYes X80.here hx rfl (pc0 := 97) (pc' := 103) rfl (hb hby at_97) rfl (XT.ll_le_t hc82) (by decide) (by decide) ?_
            exact kt
          exact J81 v67_10 (if_neg hc82).symm
      by_cases hc68 : (k63_0 = 0)
      · refine Got.step (T' := T65) (g' := (mkF m 71 #[.val (.long q0), .second, .val (.long q1), .second, .val (.long q2), .second, .val (.int p3), .val (.int (1 : Int32)), .val (.int k63_0), .val (.ref b65), .val (.long (0 : Int64)), .second, .unset, .unset, .unset, .unset, .unset, .unset] [])) (fun tq kt => ?_) ?_
        · show Steps p.tables e below (T65.setTop (mkF m 53 #[.val (.long q0), .second, .val (.long q1), .second, .val (.long q2), .second, .val (.int p3), .val (.int (1 : Int32)), .val (.int k63_0), .val (.ref b65), .val (.long (0 : Int64)), .second, .unset, .unset, .unset, .unset, .unset, .unset] [(.int k63_0)])) _
          refine XS.ifYes X65.here hx rfl (pc0 := 53) (pc' := 71) rfl (hb hby at_53) rfl (XT.i0_eq_t hc68) (by decide) (by decide) ?_
          exact kt
        exact J67 _ _ _ X65 e65 N65 (0 : Int64) (if_pos hc68).symm (0 : Int64) (if_pos hc68).symm Z0_66 B65_0 B65_1 B65_2
      · refine Got.step (T' := T65) (g' := (mkF m 59 #[.val (.long q0), .second, .val (.long q1), .second, .val (.long q2), .second, .val (.int p3), .val (.int (1 : Int32)), .val (.int k63_0), .val (.ref b65), .val (.long (0 : Int64)), .second, .unset, .unset, .unset, .unset, .unset, .unset] [(.long q0), (.ref b65)])) (fun tq kt => ?_) ?_
        · show Steps p.tables e below (T65.setTop (mkF m 53 #[.val (.long q0), .second, .val (.long q1), .second, .val (.long q2), .second, .val (.int p3), .val (.int (1 : Int32)), .val (.int k63_0), .val (.ref b65), .val (.long (0 : Int64)), .second, .unset, .unset, .unset, .unset, .unset, .unset] [(.int k63_0)])) _
          refine XS.ifNo X65.here hx rfl (hb hby at_53) rfl (XT.i0_eq_f hc68) ?_
          show Steps p.tables e below (T65.setTop (mkF m 56 #[.val (.long q0), .second, .val (.long q1), .second, .val (.long q2), .second, .val (.int p3), .val (.int (1 : Int32)), .val (.int k63_0), .val (.ref b65), .val (.long (0 : Int64)), .second, .unset, .unset, .unset, .unset, .unset, .unset] [])) _
          refine XS.aload X65.here hx rfl (hb hby at_56) rfl rfl ?_
          show Steps p.tables e below (T65.setTop (mkF m 58 #[.val (.long q0), .second, .val (.long q1), .second, .val (.long q2), .second, .val (.int p3), .val (.int (1 : Int32)), .val (.int k63_0), .val (.ref b65), .val (.long (0 : Int64)), .second, .unset, .unset, .unset, .unset, .unset, .unset] [(.ref b65)])) _
          refine XS.lloadN X65.here hx rfl (hb hby at_58) rfl ?_
          exact kt
        obtain ⟨cq69, kq69, qa69, qb69, qc69⟩ := isOf hZ e65 B65_0
        obtain ⟨_, _, ⟨T69, L69, k69, n69⟩, -, X69, ⟨Lc69, hQ69, l69, y69, z69⟩, st69⟩ := X65.virtualBack hx (y := (⟨"com/example/glasanje/glasanje/election/MajorityElection$VoteRecord", "voted", "(J)V"⟩ : MethodName)) (z := (⟨"com/example/glasanje/glasanje/election/MajorityElection$VoteRecord", "voted", "(J)V"⟩ : MethodName)) hown (mvT hZ (hw _ (List.mem_of_getElem? (i := 9) rfl))) (mvT hZ (hw _ (List.mem_of_getElem? (i := 10) rfl))) (notFace_of_selects (args := #[]) (mvT hZ (hw _ (List.mem_of_getElem? (i := 12) rfl)))) (mvT hZ (hw _ (List.mem_of_getElem? (i := 12) rfl))) (mvT hZ (hw _ (List.mem_of_getElem? (i := 11) rfl))) (by decide) (backOf (W := 0) (rm3 l Z a0 hw [] b65 q0 (0 : Int64) (1 : Int32) h65 n0 Z0_66 gn_b65 B65_0 B65_1 B65_2 ) hZ (hw _ (List.mem_of_getElem? (i := 13) rfl)) (hw _ (List.mem_of_getElem? (i := 2) rfl)) (by decide) (by decide)) qa69 qc69 (g := (mkF m 59 #[.val (.long q0), .second, .val (.long q1), .second, .val (.long q2), .second, .val (.int p3), .val (.int (1 : Int32)), .val (.int k63_0), .val (.ref b65), .val (.long (0 : Int64)), .second, .unset, .unset, .unset, .unset, .unset, .unset] [(.long q0), (.ref b65)])) rfl (by rw [hml]; rfl) (Steps.refl _) (argsL := [(.long q0)]) (rest := []) (lenOf pd_1 rfl) rfl (by show 2 * 0 + _ ≤ _; exact Nat.le_of_eq rfl) (hb hby at_59) (fun _ _ => ⟨rfl, e65, (by decide : 1 + 0 ≤ _), (by decide : 2 + 0 ≤ _)⟩)
        dsimp only [Pt.U, Pt.locs, Pt.cells, Pt.slots] at X69 l69 y69 z69 st69 hQ69
        subst l69 y69 z69
        obtain ⟨h69, e69⟩ : ∃ z, T69.heap = z := ⟨_, rfl⟩
        rw [e69] at hQ69
        obtain ⟨rfl, Nq69, K69, E69, G69_term, G69_forgotten⟩ := hQ69
        have N69 := Fr.app N65 Nq69
        have Z0_70 : n0 ≤ h69.size := (Nat.le_trans Z0_66 K69.1)
        have B65_71 : Exa Z h69 b65 "com/example/glasanje/glasanje/election/MajorityElection$VoteRecord" := (B65_0.keep K69)
        refine Got.hop st69 ?_
        show Got p e below s _ _ _ _ T69 (mkF m 62 #[.val (.long q0), .second, .val (.long q1), .second, .val (.long q2), .second, .val (.int p3), .val (.int (1 : Int32)), .val (.int k63_0), .val (.ref b65), .val (.long (0 : Int64)), .second, .unset, .unset, .unset, .unset, .unset, .unset] [])
        refine Got.step (T' := T69) (g' := (mkF m 65 #[.val (.long q0), .second, .val (.long q1), .second, .val (.long q2), .second, .val (.int p3), .val (.int (1 : Int32)), .val (.int k63_0), .val (.ref b65), .val (.long (0 : Int64)), .second, .unset, .unset, .unset, .unset, .unset, .unset] [(.int (XT.cmpL q0 (0 : Int64)))])) (fun tq kt => ?_) ?_
        · show Steps p.tables e below (T69.setTop (mkF m 62 #[.val (.long q0), .second, .val (.long q1), .second, .val (.long q2), .second, .val (.int p3), .val (.int (1 : Int32)), .val (.int k63_0), .val (.ref b65), .val (.long (0 : Int64)), .second, .unset, .unset, .unset, .unset, .unset, .unset] [])) _
          refine XS.lloadN X69.here hx rfl (hb hby at_62) rfl ?_
          show Steps p.tables e below (T69.setTop (mkF m 63 #[.val (.long q0), .second, .val (.long q1), .second, .val (.long q2), .second, .val (.int p3), .val (.int (1 : Int32)), .val (.int k63_0), .val (.ref b65), .val (.long (0 : Int64)), .second, .unset, .unset, .unset, .unset, .unset, .unset] [(.long q0)])) _
          refine XS.lconst X69.here hx rfl (hb hby at_63) ?_
          show Steps p.tables e below (T69.setTop (mkF m 64 #[.val (.long q0), .second, .val (.long q1), .second, .val (.long q2), .second, .val (.int p3), .val (.int (1 : Int32)), .val (.int k63_0), .val (.ref b65), .val (.long (0 : Int64)), .second, .unset, .unset, .unset, .unset, .unset, .unset] [(.long (0 : Int64)), (.long q0)])) _
          refine XT.lcmp X69.here hx rfl (hb hby at_64) rfl ?_
          exact kt
        by_cases hc72 : ((0 : Int64) < q0)
        · refine Got.step (T' := T69) (g' := (mkF m 71 #[.val (.long q0), .second, .val (.long q1), .second, .val (.long q2), .second, .val (.int p3), .val (.int (1 : Int32)), .val (.int k63_0), .val (.ref b65), .val (.long q0), .second, .unset, .unset, .unset, .unset, .unset, .unset] [])) (fun tq kt => ?_) ?_
          · show Steps p.tables e below (T69.setTop (mkF m 65 #[.val (.long q0), .second, .val (.long q1), .second, .val (.long q2), .second, .val (.int p3), .val (.int (1 : Int32)), .val (.int k63_0), .val (.ref b65), .val (.long (0 : Int64)), .second, .unset, .unset, .unset, .unset, .unset, .unset] [(.int (XT.cmpL q0 (0 : Int64)))])) _
            refine XS.ifNo X69.here hx rfl (hb hby at_65) rfl (XT.ll_le_f hc72) ?_
            show Steps p.tables e below (T69.setTop (mkF m 68 #[.val (.long q0), .second, .val (.long q1), .second, .val (.long q2), .second, .val (.int p3), .val (.int (1 : Int32)), .val (.int k63_0), .val (.ref b65), .val (.long (0 : Int64)), .second, .unset, .unset, .unset, .unset, .unset, .unset] [])) _
            refine XS.lloadN X69.here hx rfl (hb hby at_68) rfl ?_
            show Steps p.tables e below (T69.setTop (mkF m 69 #[.val (.long q0), .second, .val (.long q1), .second, .val (.long q2), .second, .val (.int p3), .val (.int (1 : Int32)), .val (.int k63_0), .val (.ref b65), .val (.long (0 : Int64)), .second, .unset, .unset, .unset, .unset, .unset, .unset] [(.long q0)])) _
            refine XS.lstore X69.here hx rfl (hb hby at_69) rfl (l' := #[.val (.long q0), .second, .val (.long q1), .second, .val (.long q2), .second, .val (.int p3), .val (.int (1 : Int32)), .val (.int k63_0), .val (.ref b65), .val (.long q0), .second, .unset, .unset, .unset, .unset, .unset, .unset]) rfl ?_
            exact kt
          exact J67 _ _ _ X69 e69 N69 q0 ((if_neg hc68).trans (if_pos hc72)).symm (f4 (0 : Int64) q0) ((if_neg hc68).trans (if_pos hc72)).symm Z0_70 B65_71 G69_term G69_forgotten
        · refine Got.step (T' := T69) (g' := (mkF m 71 #[.val (.long q0), .second, .val (.long q1), .second, .val (.long q2), .second, .val (.int p3), .val (.int (1 : Int32)), .val (.int k63_0), .val (.ref b65), .val (.long (0 : Int64)), .second, .unset, .unset, .unset, .unset, .unset, .unset] [])) (fun tq kt => ?_) ?_
          · show Steps p.tables e below (T69.setTop (mkF m 65 #[.val (.long q0), .second, .val (.long q1), .second, .val (.long q2), .second, .val (.int p3), .val (.int (1 : Int32)), .val (.int k63_0), .val (.ref b65), .val (.long (0 : Int64)), .second, .unset, .unset, .unset, .unset, .unset, .unset] [(.int (XT.cmpL q0 (0 : Int64)))])) _
            refine XS.ifYes X69.here hx rfl (pc0 := 65) (pc' := 71) rfl (hb hby at_65) rfl (XT.ll_le_t hc72) (by decide) (by decide) ?_
            exact kt
          exact J67 _ _ _ X69 e69 N69 (0 : Int64) ((if_neg hc68).trans (if_neg hc72)).symm (f4 (0 : Int64) q0) ((if_neg hc68).trans (if_neg hc72)).symm Z0_70 B65_71 G69_term G69_forgotten
    by_cases hc64 : ((p3 &&& (2 : Int32)) = 0)
    · refine Got.step (T' := s₁) (g' := (mkF m 26 #[.val (.long q0), .second, .val (.long q1), .second, .val (.long q2), .second, .val (.int p3), .val (.int (1 : Int32)), .unset, .unset, .unset, .unset, .unset, .unset, .unset, .unset, .unset, .unset] [(.int (0 : Int32))])) (fun tq kt => ?_) ?_
      · show Steps p.tables e below (s₁.setTop (mkF m 18 #[.val (.long q0), .second, .val (.long q1), .second, .val (.long q2), .second, .val (.int p3), .val (.int (1 : Int32)), .unset, .unset, .unset, .unset, .unset, .unset, .unset, .unset, .unset, .unset] [(.int (p3 &&& (2 : Int32)))])) _
        refine XS.ifYes X0.here hx rfl (pc0 := 18) (pc' := 25) rfl (hb hby at_18) rfl (XT.i0_eq_t hc64) (by decide) (by decide) ?_
        show Steps p.tables e below (s₁.setTop (mkF m 25 #[.val (.long q0), .second, .val (.long q1), .second, .val (.long q2), .second, .val (.int p3), .val (.int (1 : Int32)), .unset, .unset, .unset, .unset, .unset, .unset, .unset, .unset, .unset, .unset] [])) _
        refine XS.iconst X0.here hx rfl (hb hby at_25) ?_
        exact kt
      exact J63 (0 : Int32) (if_pos hc64).symm
    · refine Got.step (T' := s₁) (g' := (mkF m 26 #[.val (.long q0), .second, .val (.long q1), .second, .val (.long q2), .second, .val (.int p3), .val (.int (1 : Int32)), .unset, .unset, .unset, .unset, .unset, .unset, .unset, .unset, .unset, .unset] [(.int (1 : Int32))])) (fun tq kt => ?_) ?_
      · show Steps p.tables e below (s₁.setTop (mkF m 18 #[.val (.long q0), .second, .val (.long q1), .second, .val (.long q2), .second, .val (.int p3), .val (.int (1 : Int32)), .unset, .unset, .unset, .unset, .unset, .unset, .unset, .unset, .unset, .unset] [(.int (p3 &&& (2 : Int32)))])) _
        refine XS.ifNo X0.here hx rfl (hb hby at_18) rfl (XT.i0_eq_f hc64) ?_
        show Steps p.tables e below (s₁.setTop (mkF m 21 #[.val (.long q0), .second, .val (.long q1), .second, .val (.long q2), .second, .val (.int p3), .val (.int (1 : Int32)), .unset, .unset, .unset, .unset, .unset, .unset, .unset, .unset, .unset, .unset] [])) _
        refine XS.iconst X0.here hx rfl (hb hby at_21) ?_
        show Steps p.tables e below (s₁.setTop (mkF m 22 #[.val (.long q0), .second, .val (.long q1), .second, .val (.long q2), .second, .val (.int p3), .val (.int (1 : Int32)), .unset, .unset, .unset, .unset, .unset, .unset, .unset, .unset, .unset, .unset] [(.int (1 : Int32))])) _
        refine XS.goto X0.here hx rfl (pc0 := 22) (pc' := 26) rfl (hb hby at_22) (by decide) (by decide) ?_
        exact kt
      exact J63 (1 : Int32) (if_neg hc64).symm
set_option maxRecDepth 65536 in
set_option maxHeartbeats 40000000 in
theorem comes_1 {Post : Tables → Env → Array Value → State → Outcome → State → Prop} (hpost : ∀ tb e args s v u, (limb_1_1.after args s (.returned v) u = true ∧ limb_1_2.after args s (.returned v) u = true ∧ True) → FrameEnd s (.returned v) u (Jvm.fieldLocs frame_1_writes args s ++ Jvm.arrayLocs frame_1_arrays args s ++ Jvm.staticLocs frame_1_statics s) 16 128 → Post tb e args s (.returned v) u) :
    ArmFor flags0 classFile x code maxLocals ret World_1 tables_1 room_1 Calls_1 rest_1 Pre_1 Post := by
  intro l hfl _ _ p e ha hc hk s m args below hf hA hF happ hP
  obtain ⟨hcalls, hrest, hpre⟩ := hP
  obtain ⟨-, -, -, hnamed, -, -, -, hat⟩ := (Spec.applies_iff hf).mp happ
  obtain ⟨hg, hn⟩ := and_e (Cond.before_iff.mp (show (Jvm.Cond.and given_1 narrow_1).before args s = true from hpre))
  obtain ⟨h1, g0⟩ := and_e hg
  obtain ⟨c0, g1⟩ := and_e g0
  obtain ⟨c1, g2⟩ := and_e g1
  obtain ⟨c2, g3⟩ := and_e g2
  obtain ⟨w0, w1, w2, w3, rfl⟩ : ∃ w0 w1 w2 w3 : Value, args = #[w0, w1, w2, w3] := by
    have hs : args.size = 4 := by simpa [Cond.value, given_1] using h1
    obtain ⟨L⟩ := args
    match L, hs with
    | [w0, w1, w2, w3], _ => exact ⟨w0, w1, w2, w3, rfl⟩
  have hw := fun d (hd : d ∈ tables_1) => atoms_spec (ws := Jvm.Cond.code x code maxLocals ret :: tables_1) hat d (List.mem_cons_of_mem _ hd)
  obtain ⟨i0, e0⟩ := isL_v c0
  obtain rfl : w0 = (.long i0) := Option.some.inj e0
  obtain ⟨i1, e1⟩ := isL_v c1
  obtain rfl : w1 = (.long i1) := Option.some.inj e1
  obtain ⟨i2, e2⟩ := isL_v c2
  obtain rfl : w2 = (.long i2) := Option.some.inj e2
  obtain ⟨i3, e3⟩ := is_v g3
  obtain rfl : w3 = (.int i3) := Option.some.inj e3
  obtain ⟨n, o, h1, h2, h3, vq, L, rfl, ⟨hv, N⟩, hq⟩ := rm0 l s _ hw tables_1 i0 i1 i2 i3  s.heap s.heap.size (Nat.le_refl _) p e ha hc hk s m _ below hf ((Spec.applies_iff_loose hf).mp happ).1 ⟨rfl, State.Warmed39.refl s, rfl⟩ trivial
  subst hv
  refine ⟨n, _, h1, h2, h3, hpost _ _ _ _ _ _ ⟨Cond.after_iff.mpr rfl, Cond.after_iff.mpr (eq_i res_at (Term.int_eval (1)) rfl), trivial⟩ ⟨hq.1, hq.2.1, (hq.2.2.sift fun y hy => Or.inr (N y hy)).mono (by decide) (by decide)⟩⟩
theorem main_1_1 : Claimed_1_1 := comes_1 fun _ _ _ _ _ _ h hF => ⟨h.1, hF⟩
theorem main_1_2 : Claimed_1_2 := comes_1 fun _ _ _ _ _ _ h hF => ⟨h.2.1, hF⟩
end Jvm.Pilot.@@N@@
namespace Jvm.Pilot.@@N@@
open Jvm Jvm.ClassFile Sem Op Lib Jvm.Free Jvm.Stand Jvm.Pilot.@@N@@.Jvm.D
/-! MADE BY PROGRAM (witnessworld.py) out of the Statement's table words and the real class files: 10 classes; the members and pool entries that the words name. The judged class is class 1, her method 1. -/
namespace start1
open Jvm.ClassFile
def u (s : String) : CpInfo := .utf8 (stringToUtf16 s)
/-- a pool by its gaps: so many unusable entries, then the entry; so many at the end -/
def gap : Nat → List CpInfo → List CpInfo
  | 0, r => r
  | n + 1, r => .unusable :: gap n r
def poolList (es : List (Nat × CpInfo)) (last : Nat) : List CpInfo := es.foldr (fun e r => gap e.1 (e.2 :: r)) (gap last [])
def pool (es : List (Nat × CpInfo)) (last : Nat) : Array CpInfo := ⟨poolList es last⟩
def fileOf (pool : Array CpInfo) (this : Nat) (attrs : Array Attribute := #[]) (ms : Array MethodInfo := #[]) (fl : Nat := 33) (sup : Nat := 0) (ifs : Array Nat := #[]) (fds : Array FieldInfo := #[]) : ClassFile where
  minorVersion := 0
  majorVersion := 65
  constantPool := pool
  accessFlags := fl
  thisClass := this
  superClass := sup
  interfaces := ifs
  fields := fds
  methods := ms
  attributes := attrs
def plain (name : String) (sup : Option ClassId) : Class where
  name := name
  kind := .ordinary
  loader := none
  accessFlags := 33
  super := sup
  interfaces := #[]
  cf := none
  fields := #[]
  methods := #[]
  instanceTypes := #[]
  staticTypes := #[]
  resolved := #[]
  callSites := []
  init := .initialized
  statics := none
  mirror := none

def pool0 : Array CpInfo := pool [(5, u "<init>"), (0, u "()V"), (1, .class_ 10), (1, u "java/lang/Object")] 113

def k0c0 : Code := { maxStack := 0, maxLocals := 1, code := object_method_1_code, exceptionTable := #[], attributes := #[] }
def k0m0 : Method := { name := "<init>", desc := "()V", sig := { parameters := [], returnType := none }, accessFlags := 1, code := some k0c0 }
/-- java/lang/Object -/
def k0 : Class := { plain "java/lang/Object" none with
  accessFlags := 33
  interfaces := #[]
  cf := some (fileOf pool0 8 #[] #[{ accessFlags := 1, nameIndex := 5, descriptorIndex := 6, attributes := #[] }] 33 0 #[] #[])
  fields := #[]
  methods := #[k0m0]
  instanceTypes := #[]
  staticTypes := #[]
  resolved := Array.replicate 124 none
  statics := none }

def pool1 : Array CpInfo := pool [(2, .class_ 4), (0, .nameAndType 5 6), (0, u "java/lang/Object"), (0, u "<init>"), (0, u "()V"), (0, .methodref 8 9), (0, .class_ 10), (0, .nameAndType 11 12), (0, u "com/example/glasanje/glasanje/election/MajorityElection$VoteRecord"), (0, u "forgotten"), (0, u "()Lcom/example/glasanje/glasanje/election/MajorityElection$VoteRecord;"), (0, .methodref 8 3), (0, .methodref 8 15), (0, .nameAndType 16 17), (0, u "voted"), (0, u "(J)V"), (0, .methodref 8 19), (0, .nameAndType 20 17), (0, u "starting"), (0, .methodref 8 22), (0, .nameAndType 23 24), (0, u "term"), (0, u "()J"), (0, .class_ 26), (0, u "com/example/glasanje/glasanje/election/VoteRecordStartingPinLaw"), (2, u "law"), (0, u "(JJJI)Z")] 7

def k1m0 : Method := { name := "<init>", desc := "()V", sig := { parameters := [], returnType := none }, accessFlags := 1, code := none }
def k1c1 : Code := { maxStack := 4, maxLocals := 18, code := code, exceptionTable := #[], attributes := #[] }
def k1m1 : Method := { name := "law", desc := "(JJJI)Z", sig := { parameters := [.long, .long, .long, .int], returnType := some .boolean }, accessFlags := 9, code := some k1c1 }
/-- com/example/glasanje/glasanje/election/VoteRecordStartingPinLaw -/
def k1 : Class := { plain "com/example/glasanje/glasanje/election/VoteRecordStartingPinLaw" (some 0) with
  accessFlags := 49
  interfaces := #[]
  cf := some (fileOf pool1 25 #[] #[{ accessFlags := 1, nameIndex := 5, descriptorIndex := 6, attributes := #[] }, { accessFlags := 9, nameIndex := 29, descriptorIndex := 30, attributes := #[] }] 49 2 #[] #[])
  fields := #[]
  methods := #[k1m0, k1m1]
  instanceTypes := #[]
  staticTypes := #[]
  resolved := Array.replicate 38 none
  statics := none }

def pool2 : Array CpInfo := pool [(1, .methodref 2 3), (0, .class_ 4), (0, .nameAndType 5 6), (0, u "java/lang/Object"), (0, u "<init>"), (0, u "()V"), (0, .class_ 8), (0, u "com/example/glasanje/glasanje/election/MajorityElection$VoteRecord"), (0, .methodref 7 3), (0, .fieldref 7 11), (0, .nameAndType 12 13), (0, u "forgotten"), (0, u "Z"), (0, .fieldref 7 15), (0, .nameAndType 16 17), (0, u "term"), (0, u "J"), (0, .methodref 19 20), (0, .class_ 21), (0, .nameAndType 22 23), (0, u "java/lang/Math"), (0, u "max"), (0, u "(JJ)J"), (0, .methodref 7 25), (0, .nameAndType 26 27), (0, u "voted"), (0, u "(J)V"), (2, u "()Lcom/example/glasanje/glasanje/election/MajorityElection$VoteRecord;"), (0, u "()J"), (0, u "starting"), (4, .class_ 38), (0, u "com/example/glasanje/glasanje/election/MajorityElection")] 2

def k2c0 : Code := { maxStack := 1, maxLocals := 1, code := prog_16_method_1_code, exceptionTable := #[], attributes := #[] }
def k2m0 : Method := { name := "<init>", desc := "()V", sig := { parameters := [], returnType := none }, accessFlags := 1, code := some k2c0 }
def k2c1 : Code := { maxStack := 2, maxLocals := 1, code := prog_16_method_2_code, exceptionTable := #[], attributes := #[] }
def k2m1 : Method := { name := "forgotten", desc := "()Lcom/example/glasanje/glasanje/election/MajorityElection$VoteRecord;", sig := { parameters := [], returnType := some (.object "com/example/glasanje/glasanje/election/MajorityElection$VoteRecord") }, accessFlags := 9, code := some k2c1 }
def k2c2 : Code := { maxStack := 2, maxLocals := 1, code := prog_16_method_3_code, exceptionTable := #[], attributes := #[] }
def k2m2 : Method := { name := "term", desc := "()J", sig := { parameters := [], returnType := some .long }, accessFlags := 0, code := some k2c2 }
def k2c3 : Code := { maxStack := 5, maxLocals := 3, code := prog_16_method_4_code, exceptionTable := #[], attributes := #[] }
def k2m3 : Method := { name := "voted", desc := "(J)V", sig := { parameters := [.long], returnType := none }, accessFlags := 0, code := some k2c3 }
def k2c4 : Code := { maxStack := 3, maxLocals := 3, code := prog_16_method_5_code, exceptionTable := #[], attributes := #[] }
def k2m4 : Method := { name := "starting", desc := "(J)V", sig := { parameters := [.long], returnType := none }, accessFlags := 0, code := some k2c4 }
/-- com/example/glasanje/glasanje/election/MajorityElection$VoteRecord -/
def k2 : Class := { plain "com/example/glasanje/glasanje/election/MajorityElection$VoteRecord" (some 0) with
  accessFlags := 49
  interfaces := #[]
  cf := some (fileOf pool2 7 #[.nestHost 37] #[{ accessFlags := 1, nameIndex := 5, descriptorIndex := 6, attributes := #[] }, { accessFlags := 9, nameIndex := 12, descriptorIndex := 30, attributes := #[] }, { accessFlags := 0, nameIndex := 16, descriptorIndex := 31, attributes := #[] }, { accessFlags := 0, nameIndex := 26, descriptorIndex := 27, attributes := #[] }, { accessFlags := 0, nameIndex := 32, descriptorIndex := 27, attributes := #[] }] 49 2 #[] #[{ accessFlags := 2, nameIndex := 16, descriptorIndex := 17, attributes := #[] }, { accessFlags := 2, nameIndex := 12, descriptorIndex := 13, attributes := #[] }])
  fields := #[{ name := "term", type := .long, accessFlags := 2, slot := 0, constantValue := 0 }, { name := "forgotten", type := .boolean, accessFlags := 2, slot := 1, constantValue := 0 }]
  methods := #[k2m0, k2m1, k2m2, k2m3, k2m4]
  instanceTypes := #[.long, .boolean]
  staticTypes := #[]
  resolved := Array.replicate 41 none
  statics := none }

def pool3 : Array CpInfo := pool [(1, .class_ 2), (0, u "java/lang/Math"), (1, .class_ 6), (1, u "java/lang/Object"), (0, u "<init>"), (0, u "()V"), (89, .class_ 100), (1, u "java/lang/Math$RandomNumberGeneratorHolder"), (20, u "(JJ)J"), (50, u "negativeZeroFloatBits"), (0, u "J"), (2, u "negativeZeroDoubleBits"), (21, u "max"), (46, u "$assertionsDisabled"), (0, u "Z"), (91, u "twoToTheDoubleScaleDown"), (0, u "D"), (4, u "twoToTheDoubleScaleUp"), (9, u "E"), (3, u "PI"), (2, u "TAU"), (2, u "DEGREES_TO_RADIANS"), (0, u "RADIANS_TO_DEGREES")] 94

def k3m0 : Method := { name := "<init>", desc := "()V", sig := { parameters := [], returnType := none }, accessFlags := 2, code := none }
def k3c1 : Code := { maxStack := 4, maxLocals := 4, code := jdk_29_method_66_code, exceptionTable := #[], attributes := #[] }
def k3m1 : Method := { name := "max", desc := "(JJ)J", sig := { parameters := [.long, .long], returnType := some .long }, accessFlags := 9, code := some k3c1 }
/-- java/lang/Math -/
def k3 : Class := { plain "java/lang/Math" (some 0) with
  accessFlags := 49
  interfaces := #[]
  cf := some (fileOf pool3 1 #[.nestMembers #[98]] #[{ accessFlags := 2, nameIndex := 7, descriptorIndex := 8, attributes := #[] }, { accessFlags := 9, nameIndex := 198, descriptorIndex := 121, attributes := #[] }] 49 4 #[] #[{ accessFlags := 25, nameIndex := 354, descriptorIndex := 339, attributes := #[] }, { accessFlags := 25, nameIndex := 358, descriptorIndex := 339, attributes := #[] }, { accessFlags := 25, nameIndex := 361, descriptorIndex := 339, attributes := #[] }, { accessFlags := 26, nameIndex := 364, descriptorIndex := 339, attributes := #[] }, { accessFlags := 26, nameIndex := 365, descriptorIndex := 339, attributes := #[] }, { accessFlags := 26, nameIndex := 172, descriptorIndex := 173, attributes := #[] }, { accessFlags := 26, nameIndex := 176, descriptorIndex := 173, attributes := #[] }, { accessFlags := 8, nameIndex := 344, descriptorIndex := 339, attributes := #[] }, { accessFlags := 8, nameIndex := 338, descriptorIndex := 339, attributes := #[] }, { accessFlags := 4120, nameIndex := 245, descriptorIndex := 246, attributes := #[] }])
  fields := #[{ name := "E", type := .double, accessFlags := 25, slot := 0, constantValue := 0 }, { name := "PI", type := .double, accessFlags := 25, slot := 1, constantValue := 0 }, { name := "TAU", type := .double, accessFlags := 25, slot := 2, constantValue := 0 }, { name := "DEGREES_TO_RADIANS", type := .double, accessFlags := 26, slot := 3, constantValue := 0 }, { name := "RADIANS_TO_DEGREES", type := .double, accessFlags := 26, slot := 4, constantValue := 0 }, { name := "negativeZeroFloatBits", type := .long, accessFlags := 26, slot := 5, constantValue := 0 }, { name := "negativeZeroDoubleBits", type := .long, accessFlags := 26, slot := 6, constantValue := 0 }, { name := "twoToTheDoubleScaleUp", type := .double, accessFlags := 8, slot := 7, constantValue := 0 }, { name := "twoToTheDoubleScaleDown", type := .double, accessFlags := 8, slot := 8, constantValue := 0 }, { name := "$assertionsDisabled", type := .boolean, accessFlags := 4120, slot := 9, constantValue := 0 }]
  methods := #[k3m0, k3m1]
  instanceTypes := #[]
  staticTypes := #[.double, .double, .double, .double, .double, .long, .long, .double, .double, .boolean]
  resolved := Array.replicate 460 none
  statics := none }

def pool4 : Array CpInfo := pool [(1, u "java/lang/Cloneable"), (0, .class_ 1), (0, u "java/lang/Object"), (0, .class_ 3)] 3

/-- java/lang/Cloneable -/
def k4 : Class := { plain "java/lang/Cloneable" (some 0) with
  accessFlags := 1537
  interfaces := #[]
  cf := some (fileOf pool4 2 #[] #[] 1537 4 #[] #[])
  fields := #[]
  methods := #[]
  instanceTypes := #[]
  staticTypes := #[]
  resolved := Array.replicate 8 none
  statics := none }

def pool5 : Array CpInfo := pool [(1, u "java/io/Serializable"), (0, .class_ 1), (0, u "java/lang/Object"), (0, .class_ 3)] 3

/-- java/io/Serializable -/
def k5 : Class := { plain "java/io/Serializable" (some 0) with
  accessFlags := 1537
  interfaces := #[]
  cf := some (fileOf pool5 2 #[] #[] 1537 4 #[] #[])
  fields := #[]
  methods := #[]
  instanceTypes := #[]
  staticTypes := #[]
  resolved := Array.replicate 8 none
  statics := none }

/-- the primitive byte -/
def k6 : Class := { plain "byte" none with kind := .primitive 'B', accessFlags := 0x411 }
/-- [B -/
def k7 : Class := { plain "[B" (some 0) with kind := .array 6 .byte, interfaces := #[4, 5], accessFlags := 1041 }

/-- the primitive int -/
def k8 : Class := { plain "int" none with kind := .primitive 'I', accessFlags := 0x411 }
/-- [I -/
def k9 : Class := { plain "[I" (some 0) with kind := .array 8 .int, interfaces := #[4, 5], accessFlags := 1041 }

def heap : Heap := #[]
def classes : Array Class := #[k0, k1, k2, k3, k4, k5, k6, k7, k8, k9]
def interned : List (Array UInt16 × Addr) := []
def slotsUsed : Nat := 0
def theMethod : MethodId := ⟨1, 1⟩
def args0 : Array Value := #[.long 5, .long 3, .long 9, .int 3]
def aboutOver (below : List Frame) : State where
  vm := { classes := classes, interned := interned.toArray }
  heap := heap
  slotsUsed := slotsUsed
  threads := #[{ frames := .invoking theMethod args0 :: below }]
def below0 : List Frame := [.native { method := ⟨0, 0⟩, args := #[] }]
def about1 : State := aboutOver below0
def p0 : Program := .bare "" "" ""
def e0 : Env := launch0.env 0 0 0
theorem w_frames : about1.frames = Frame.invoking theMethod args0 :: below0 := rfl
set_option maxRecDepth 65536 in
theorem w_args : argsFit about1.vm theMethod args0 = true := by decide +kernel
set_option maxRecDepth 65536 in
theorem w_heap : heapFits about1 = true := by decide +kernel
set_option maxRecDepth 65536 in
theorem w_runnable : about1.curStatus? = some .runnable := by decide +kernel
set_option maxRecDepth 65536 in
theorem w_alone : about1.alone = true := by decide +kernel
set_option maxRecDepth 65536 in
theorem w_named : about1.methodNamed? x = some theMethod := by decide +kernel
set_option maxRecDepth 65536 in
theorem w_hears : about1.hears theMethod below0 = true := by decide +kernel
set_option maxRecDepth 65536 in
theorem w_ripe : about1.ripe theMethod args0 below0 = true := by decide +kernel
theorem w_running : about1.status = .running := rfl
set_option maxRecDepth 65536 in
theorem w_room : about1.hasRoom e0.platform room_1 = true :=
  launch0.hasRoom_least _ room_1 (by decide +kernel) (by decide +kernel) (by decide +kernel) (by decide +kernel) (by decide +kernel) (by decide +kernel)
theorem allAtoms_all (ts : List Jvm.Cond) (a : Array Jvm.Value) (st : Jvm.State) : (allAtoms ts).before a st = ts.all (fun c => c.before a st) := by
  induction ts with
  | nil => rfl
  | cons c t ih =>
    show (Jvm.Cond.and c (allAtoms t)).before a st = _
    rw [Jvm.Cond.before_and, ih, List.all_cons]
def words1 : List Jvm.Cond := Jvm.Cond.code x code maxLocals ret :: tables_1
/-- a 'code' word, met by the world's own term for the bytes: nothing is compared byte by byte -/
theorem code_word {y : MethodName} {bytes : ByteArray} {mx : Nat} {rt : Option FieldType} {a : Array Value} {s : State} {m : MethodId} {meth : Method} {c : Code} (h1 : s.methodNamed? y = some m) (h2 : s.vm.method? m = some meth) (h3 : meth.code = some c) (h4 : c.code = bytes)
    (h5 : (c.maxLocals == mx && c.exceptionTable.isEmpty && decide (c.maxStack ≤ mostOperands) && decide (meth.sig.returnType = rt) && !meth.locks && decide (parseMethodDescriptor y.desc = some meth.sig)) = true) : (Jvm.Cond.code y bytes mx rt).before a s = true := by
  simp only [Bool.and_eq_true, beq_iff_eq, Bool.not_eq_true', decide_eq_true_eq] at h5
  obtain ⟨⟨⟨⟨⟨g1, g2⟩, g3⟩, g4⟩, g5⟩, g6⟩ := h5
  simp [Cond.before, Cond.holds, Cond.value, h1, h2, h3, h4, g1, g2, g3, g4, g5, g6]
def isCode : Jvm.Cond → Bool
  | .code _ _ _ _ => true
  | _ => false
theorem all_split {L : List Jvm.Cond} {P : Jvm.Cond → Bool} (h1 : L.all (fun c => isCode c || P c) = true) (h2 : ∀ c ∈ L.filter isCode, P c = true) : L.all P = true := by
  refine List.all_eq_true.mpr fun c hc => ?_
  have h := List.all_eq_true.mp h1 c hc
  rcases Bool.eq_false_or_eq_true (isCode c) with hi | hi
  · exact h2 c (List.mem_filter.mpr ⟨hc, hi⟩)
  · simpa [hi] using h
set_option maxRecDepth 65536 in
theorem w_c0 : (Jvm.Cond.code x code maxLocals ret).before args0 about1 = true := code_word (m := ⟨1, 1⟩) (meth := k1m1) (c := k1c1) (by decide +kernel) rfl rfl rfl (by decide +kernel)
set_option maxRecDepth 65536 in
theorem w_c1 : (Jvm.Cond.code ({ cls := "com/example/glasanje/glasanje/election/MajorityElection$VoteRecord", name := "<init>", desc := "()V" } : Jvm.MethodName) prog_16_method_1_code (1 : Nat) (Option.none : Option Jvm.ClassFile.FieldType)).before args0 about1 = true := code_word (m := ⟨2, 0⟩) (meth := k2m0) (c := k2c0) (by decide +kernel) rfl rfl rfl (by decide +kernel)
set_option maxRecDepth 65536 in
theorem w_c2 : (Jvm.Cond.code ({ cls := "java/lang/Object", name := "<init>", desc := "()V" } : Jvm.MethodName) object_method_1_code (1 : Nat) (Option.none : Option Jvm.ClassFile.FieldType)).before args0 about1 = true := code_word (m := ⟨0, 0⟩) (meth := k0m0) (c := k0c0) (by decide +kernel) rfl rfl rfl (by decide +kernel)
set_option maxRecDepth 65536 in
theorem w_c3 : (Jvm.Cond.code ({ cls := "com/example/glasanje/glasanje/election/MajorityElection$VoteRecord", name := "voted", desc := "(J)V" } : Jvm.MethodName) prog_16_method_4_code (3 : Nat) (Option.none : Option Jvm.ClassFile.FieldType)).before args0 about1 = true := code_word (m := ⟨2, 3⟩) (meth := k2m3) (c := k2c3) (by decide +kernel) rfl rfl rfl (by decide +kernel)
set_option maxRecDepth 65536 in
theorem w_c4 : (Jvm.Cond.code ({ cls := "java/lang/Math", name := "max", desc := "(JJ)J" } : Jvm.MethodName) jdk_29_method_66_code (4 : Nat) (Option.some Jvm.ClassFile.FieldType.long)).before args0 about1 = true := code_word (m := ⟨3, 1⟩) (meth := k3m1) (c := k3c1) (by decide +kernel) rfl rfl rfl (by decide +kernel)
set_option maxRecDepth 65536 in
theorem w_c5 : (Jvm.Cond.code ({ cls := "com/example/glasanje/glasanje/election/MajorityElection$VoteRecord", name := "starting", desc := "(J)V" } : Jvm.MethodName) prog_16_method_5_code (3 : Nat) (Option.none : Option Jvm.ClassFile.FieldType)).before args0 about1 = true := code_word (m := ⟨2, 4⟩) (meth := k2m4) (c := k2c4) (by decide +kernel) rfl rfl rfl (by decide +kernel)
set_option maxRecDepth 65536 in
theorem w_c6 : (Jvm.Cond.code ({ cls := "com/example/glasanje/glasanje/election/MajorityElection$VoteRecord", name := "term", desc := "()J" } : Jvm.MethodName) prog_16_method_3_code (1 : Nat) (Option.some Jvm.ClassFile.FieldType.long)).before args0 about1 = true := code_word (m := ⟨2, 2⟩) (meth := k2m2) (c := k2c2) (by decide +kernel) rfl rfl rfl (by decide +kernel)
set_option maxRecDepth 65536 in
theorem w_c7 : (Jvm.Cond.code ({ cls := "com/example/glasanje/glasanje/election/MajorityElection$VoteRecord", name := "forgotten", desc := "()Lcom/example/glasanje/glasanje/election/MajorityElection$VoteRecord;" } : Jvm.MethodName) prog_16_method_2_code (1 : Nat) (Option.some (Jvm.ClassFile.FieldType.object "com/example/glasanje/glasanje/election/MajorityElection$VoteRecord"))).before args0 about1 = true := code_word (m := ⟨2, 1⟩) (meth := k2m1) (c := k2c1) (by decide +kernel) rfl rfl rfl (by decide +kernel)
def codes1 : List Jvm.Cond := [Jvm.Cond.code x code maxLocals ret, Jvm.Cond.code ({ cls := "com/example/glasanje/glasanje/election/MajorityElection$VoteRecord", name := "<init>", desc := "()V" } : Jvm.MethodName) prog_16_method_1_code (1 : Nat) (Option.none : Option Jvm.ClassFile.FieldType), Jvm.Cond.code ({ cls := "java/lang/Object", name := "<init>", desc := "()V" } : Jvm.MethodName) object_method_1_code (1 : Nat) (Option.none : Option Jvm.ClassFile.FieldType), Jvm.Cond.code ({ cls := "com/example/glasanje/glasanje/election/MajorityElection$VoteRecord", name := "voted", desc := "(J)V" } : Jvm.MethodName) prog_16_method_4_code (3 : Nat) (Option.none : Option Jvm.ClassFile.FieldType), Jvm.Cond.code ({ cls := "java/lang/Math", name := "max", desc := "(JJ)J" } : Jvm.MethodName) jdk_29_method_66_code (4 : Nat) (Option.some Jvm.ClassFile.FieldType.long), Jvm.Cond.code ({ cls := "com/example/glasanje/glasanje/election/MajorityElection$VoteRecord", name := "starting", desc := "(J)V" } : Jvm.MethodName) prog_16_method_5_code (3 : Nat) (Option.none : Option Jvm.ClassFile.FieldType), Jvm.Cond.code ({ cls := "com/example/glasanje/glasanje/election/MajorityElection$VoteRecord", name := "term", desc := "()J" } : Jvm.MethodName) prog_16_method_3_code (1 : Nat) (Option.some Jvm.ClassFile.FieldType.long), Jvm.Cond.code ({ cls := "com/example/glasanje/glasanje/election/MajorityElection$VoteRecord", name := "forgotten", desc := "()Lcom/example/glasanje/glasanje/election/MajorityElection$VoteRecord;" } : Jvm.MethodName) prog_16_method_2_code (1 : Nat) (Option.some (Jvm.ClassFile.FieldType.object "com/example/glasanje/glasanje/election/MajorityElection$VoteRecord"))]
set_option maxRecDepth 65536 in
theorem codes_eq : words1.filter isCode = codes1 := rfl
theorem w_codes : ∀ c ∈ words1.filter isCode, c.before args0 about1 = true := by
  rw [codes_eq]
  intro c hc
  simp only [codes1, List.mem_cons, List.not_mem_nil, or_false] at hc
  rcases hc with rfl | rfl | rfl | rfl | rfl | rfl | rfl | rfl
  · exact w_c0
  · exact w_c1
  · exact w_c2
  · exact w_c3
  · exact w_c4
  · exact w_c5
  · exact w_c6
  · exact w_c7
set_option maxRecDepth 65536 in
theorem w_t1 : (words1.take 24).all (fun c => isCode c || c.before args0 about1) = true := by decide +kernel
set_option maxRecDepth 65536 in
theorem w_t2 : (words1.drop 24).all (fun c => isCode c || c.before args0 about1) = true := by decide +kernel
theorem w_tables : (allAtoms (Jvm.Cond.code x code maxLocals ret :: tables_1)).before args0 about1 = true := by
  rw [allAtoms_all]
  show words1.all (fun c => c.before args0 about1) = true
  refine all_split ?_ w_codes
  rw [← List.take_append_drop 24 words1, List.all_append, w_t1, w_t2]
  rfl
set_option maxRecDepth 65536 in
theorem w_case : (Jvm.Cond.and given_1 narrow_1).before args0 about1 = true := by decide +kernel
theorem w_applies : (headSpec (Jvm.Cond.code x code maxLocals ret :: tables_1) room_1).applies x e0.platform about1 = true :=
  (Spec.applies_iff w_frames).mpr ⟨w_running, w_runnable, w_alone, w_named, w_hears, w_ripe, w_room, w_tables⟩
theorem atStart : AtStart classFile x code maxLocals ret World_1 tables_1 room_1 Calls_1 rest_1 Pre_1 launch0 p0 e0 about1 theMethod args0 below0 :=
  ⟨lists_1, trivial, launch0.admits_env _ _ _, launch0.least_env, fairChoices_fair.cas, fairChoices_fair.clock, w_frames, w_args, w_heap, w_applies, trivial, trivial, w_case⟩
end start1
theorem witness_1 : WitnessClaimed_1 := ⟨start1.p0, start1.e0, start1.about1, start1.theMethod, start1.args0, start1.below0, start1.atStart⟩
end Jvm.Pilot.@@N@@
