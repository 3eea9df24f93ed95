import JvmDerived
import JvmDerived.Pilot.@@N@@Statement
import JvmDerived.Pilot.@@N@@Code
set_option linter.unusedVariables false
set_option linter.unusedSimpArgs false
namespace Jvm.RoadKit
open Sem ClassFile Op Lib Jvm.Stand Jvm.Free Jvm.LawKit
section New
variable {p : Program} {l : Launch} {e : Env} {R : Room} {s : State} {m : MethodId} {args : Array Value} {below : List Frame} {meth : Method} {c : Code} {T T' : State} {locs : List Loc} {cells slots : Nat}
/-- what a body leaves: the value, and what is known of the heap and of the places written -/
def QV (w : Option Value) (P : Heap → List Loc → Prop) (v : Option Value) (h : Heap) (L : List Loc) : Prop := v = w ∧ P h L
/-- a body that writes nothing -/
def PureP (n0 : Nat) (h0 : Heap) (h : Heap) (L : List Loc) : Prop := Fr n0 L ∧ h = h0
/-- from here the body returns w and leaves P -/
def Got (p : Program) (e : Env) (below : List Frame) (s : State) (P : Heap → List Loc → Prop) (ck cs : Nat) (w : Option Value) (T : State) (g : JFrame) : Prop :=
  ∃ s₂ L, Steps p.tables e below (T.setTop g) s₂ ∧ s₂.status = .running ∧ Ended s₂ below (.returned w) ∧ P s₂.heap L ∧ FrameEnd s (.returned w) s₂ L ck cs
variable {P : Heap → List Loc → Prop} {ck cs : Nat} {w : Option Value} {g g' : JFrame}
theorem Got.step (h : ∀ t, Steps p.tables e below (T'.setTop g') t → Steps p.tables e below (T.setTop g) t) (k : Got p e below s P ck cs w T' g') : Got p e below s P ck cs w T g := by
  obtain ⟨s₂, L, h1, r⟩ := k
  exact ⟨s₂, L, h _ h1, r⟩
theorem Got.hop (h : Steps p.tables e below (T.setTop g) (T'.setTop g')) (k : Got p e below s P ck cs w T' g') : Got p e below s P ck cs w T g := Got.step (fun _ q => h.trans q) k
theorem Got.ite {q : Prop} [Decidable q] {x y : Int32} (h1 : q → Got p e below s P ck cs (some (.int x)) T g) (h2 : ¬ q → Got p e below s P ck cs (some (.int y)) T g) : Got p e below s P ck cs (some (.int (if q then x else y))) T g := by
  by_cases h : q
  · rw [if_pos h]; exact h1 h
  · rw [if_neg h]; exact h2 h
theorem Got.iteJ {q : Prop} [Decidable q] {x y : Int64} (h1 : q → Got p e below s P ck cs (some (.long x)) T g) (h2 : ¬ q → Got p e below s P ck cs (some (.long y)) T g) : Got p e below s P ck cs (some (.long (if q then x else y))) T g := by
  by_cases h : q
  · rw [if_pos h]; exact h1 h
  · rw [if_neg h]; exact h2 h
theorem Got.iteR {q : Prop} [Decidable q] {x y : Addr} (h1 : q → Got p e below s P ck cs (some (.ref x)) T g) (h2 : ¬ q → Got p e below s P ck cs (some (.ref y)) T g) : Got p e below s P ck cs (some (.ref (if q then x else y))) T g := by
  by_cases h : q
  · rw [if_pos h]; exact h1 h
  · rw [if_neg h]; exact h2 h
theorem Got.body {n : Nat} {as' : Array Value} (hg : entryFrame m as' n = g) (k : Got p e below s P ck cs w T g) :
    ∃ s₂ o, Steps p.tables e below (T.setTop (entryFrame m as' n)) s₂ ∧ s₂.status = .running ∧ Ended s₂ below o ∧ ∃ v L, o = .returned v ∧ QV w P v s₂.heap L ∧ FrameEnd s o s₂ L ck cs := by
  obtain ⟨s₂, L, h1, h2, h3, h4, h5⟩ := k
  exact ⟨s₂, _, by rw [hg]; exact h1, h2, h3, w, L, rfl, ⟨rfl, h4⟩, h5⟩
theorem Got.retN (X : Stand p l e R s m args below meth c T locs cells slots) (hx : p.tables.exec = Jvm.exec) {t : FieldType} (hret : meth.sig.returnType = some t) (ht : t = .boolean ∨ t = .byte ∨ t = .char ∨ t = .short) (hlk : meth.locks = false) {pc : Nat} {Ls : Array Slot} {z y : Int32} {rest : List Value}
    (hd : decode c.code pc = .ok (.ireturn, 1)) (hy : nar t z = y) (hP : P T.heap locs) (hc : cells ≤ ck) (hs : slots ≤ cs) : Got p e below s P ck cs (some (.int y)) T (mkF m pc Ls (.int z :: rest)) := by
  subst hy
  obtain ⟨fs, hr, hrun, hended, hW, hsame⟩ := X.leave (v := some (.int (nar t z))) (fun h => by rw [hret] at h; cases h) hlk
  exact ⟨_, locs, Jvm.RoadKit.retN X hx hret ht hd hr, hrun, hended, hP, ⟨_, rfl⟩, hW, hsame.mono hc hs⟩
theorem Got.retI (X : Stand p l e R s m args below meth c T locs cells slots) (hx : p.tables.exec = Jvm.exec) (hret : meth.sig.returnType = some .int) (hlk : meth.locks = false) {pc : Nat} {Ls : Array Slot} {z y : Int32} {rest : List Value}
    (hd : decode c.code pc = .ok (.ireturn, 1)) (hy : z = y) (hP : P T.heap locs) (hc : cells ≤ ck) (hs : slots ≤ cs) : Got p e below s P ck cs (some (.int y)) T (mkF m pc Ls (.int z :: rest)) := by
  subst hy
  obtain ⟨fs, hr, hrun, hended, hW, hsame⟩ := X.leave (v := some (.int z)) (fun h => by rw [hret] at h; cases h) hlk
  exact ⟨_, locs, retOut X hx hret rfl (Or.inl ⟨rfl, Or.inl rfl, z, rfl⟩) hd hr, hrun, hended, hP, ⟨_, rfl⟩, hW, hsame.mono hc hs⟩
theorem Got.retJ (X : Stand p l e R s m args below meth c T locs cells slots) (hx : p.tables.exec = Jvm.exec) (hret : meth.sig.returnType = some .long) (hlk : meth.locks = false) {pc : Nat} {Ls : Array Slot} {z y : Int64}
    (hd : decode c.code pc = .ok (.lreturn, 1)) (hy : z = y) (hP : P T.heap locs) (hc : cells ≤ ck) (hs : slots ≤ cs) : Got p e below s P ck cs (some (.long y)) T (mkF m pc Ls [.long z]) := by
  subst hy
  obtain ⟨fs, hr, hrun, hended, hW, hsame⟩ := X.leave (v := some (.long z)) (fun h => by rw [hret] at h; cases h) hlk
  exact ⟨_, locs, X.lreturnOut hx hret hd hr, hrun, hended, hP, ⟨_, rfl⟩, hW, hsame.mono hc hs⟩
theorem Got.retV (X : Stand p l e R s m args below meth c T locs cells slots) (hx : p.tables.exec = Jvm.exec) (hret : meth.sig.returnType = none) (hlk : meth.locks = false) {pc : Nat} {Ls : Array Slot}
    (hd : decode c.code pc = .ok (.return_, 1)) (hP : P T.heap locs) (hc : cells ≤ ck) (hs : slots ≤ cs) : Got p e below s P ck cs none T (mkF m pc Ls []) := by
  obtain ⟨fs, hr, hrun, hended, hW, hsame⟩ := X.leave (v := none) (fun _ => rfl) hlk
  exact ⟨_, locs, X.returnOut hx hret hd hr, hrun, hended, hP, ⟨_, rfl⟩, hW, hsame.mono hc hs⟩
theorem Got.retA (X : Stand p l e R s m args below meth c T locs cells slots) (hx : p.tables.exec = Jvm.exec) {t : FieldType} (hret : meth.sig.returnType = some t) (ht : t.isReference = true) (hlk : meth.locks = false) {pc : Nat} {Ls : Array Slot} {a : Addr} {rest : List Value}
    (hd : decode c.code pc = .ok (.areturn, 1)) (hn : narrow t (.ref a) = .ref a) (hP : P T.heap locs) (hc : cells ≤ ck) (hs : slots ≤ cs) : Got p e below s P ck cs (some (.ref a)) T (mkF m pc Ls (.ref a :: rest)) := by
  obtain ⟨fs, hr, hrun, hended, hW, hsame⟩ := X.leave (v := some (.ref a)) (fun h => by rw [hret] at h; cases h) hlk
  exact ⟨_, locs, retOut X hx hret hn (Or.inr (Or.inr (Or.inr (Or.inr ⟨rfl, ht, rfl⟩)))) hd hr, hrun, hended, hP, ⟨_, rfl⟩, hW, hsame.mono hc hs⟩
theorem remJ {g : JFrame} {target : State} (X : Stand p l e R s m args below meth c T locs cells slots) (hx : p.tables.exec = Jvm.exec) (hg : g.method = m) {x y : Int64} {rest : List Value} (hd : decode c.code g.pc = .ok (.lrem, 1)) (hs : g.stack = .long y :: .long x :: rest) (hy : y ≠ 0)
    (hr : Steps p.tables e below (T.setTop { g with pc := g.pc + 1, stack := .long (x % y) :: rest }) target) : Steps p.tables e below (T.setTop g) target := by
  rw [← lrem_mod x y] at hr
  exact XS.lrem X.here hx hg hd hs hy hr
theorem narB (x : Int32) : nar .byte x.toInt8.toInt32 = x.toInt8.toInt32 := by simp [nar]
end New
end Jvm.RoadKit
namespace Jvm.Pilot.@@N@@
open Jvm Jvm.ClassFile Sem Op Lib Jvm.Free Jvm.Stand Jvm.LawKit Jvm.RoadKit Bundle Jvm.Pilot.@@N@@.Jvm.D
theorem ef_4 (m : MethodId) (x0 : Addr) : entryFrame m #[(.ref x0)] 1 = mkF m 0 #[.val (.ref x0)] [] := by first | (simp [entryFrame, mkF, argsToLocals, Value.category]; done) | rfl
theorem pn_0 : plainName "java/util/AbstractMap" = true := by first | (simp [plainName, overriddenIn]; done) | decide +kernel
theorem d4_0 : decode jdk_71_method_1_code 0 = .ok (.aload_n 0, 1) := by decide +kernel
theorem d4_1 : decode jdk_71_method_1_code 1 = .ok (.invokespecial 1, 3) := by decide +kernel
theorem d4_4 : decode jdk_71_method_1_code 4 = .ok (.return_, 1) := by decide +kernel
set_option maxRecDepth 65536 in
set_option maxHeartbeats 40000000 in
theorem rm4 (l : Launch) (Z : State) (a0 : Array Value) (hw : ∀ d ∈ tables_1, d.before a0 Z = true) (ws : List Jvm.Cond) (o0 : Addr) (h0 : Heap) (n0 : Nat) (Z0 : n0 ≤ h0.size) (gn_o0 : n0 ≤ o0) (E_o0 : Exa Z h0 o0 "java/util/IdentityHashMap") (F_table : Fld Z h0 o0 "java/util/IdentityHashMap" "table" "[Ljava/lang/Object;" .null)  :
    MetFree l (⟨"java/util/AbstractMap", "<init>", "()V"⟩ : MethodName) (head1 (Jvm.Cond.code (⟨"java/util/AbstractMap", "<init>", "()V"⟩ : MethodName) jdk_71_method_1_code 1 none :: ws) ({ frames := 1, cells := 0, slots := 0, locals := 12 } : Room)) (fun a U => a = #[(.ref o0)] ∧ Z.Warmed39 U.vm ∧ U.heap = h0) (fun _ _ _ _ _ => True) (fun _ U o U' => ∃ v L, o = .returned v ∧ QV none (fun h L => Fr n0 L ∧ Keep h0 h [o0] ∧ Exa Z h o0 "java/util/IdentityHashMap" ∧ Fld Z h o0 "java/util/IdentityHashMap" "table" "[Ljava/lang/Object;" .null) v U'.heap L ∧ FrameEnd U o U' L ({ frames := 1, cells := 0, slots := 0, locals := 12 } : Room).cells ({ frames := 1, cells := 0, slots := 0, locals := 12 } : Room).slots) := by
  refine MetFree.of_bodySF (plainFor_of_name pn_0) hisR ?_
  intro p e s m args below meth c s₁ Bd hml0 hP hK
  obtain ⟨rfl, hZ, hh⟩ := hP
  have hx := Bd.exec
  have hby := Bd.bytes
  have hml : c.maxLocals = 1 := hml0
  have hown : s.vm.findClass "java/util/AbstractMap" = some m.cls := findClass_of_methodNamed Bd.named
  have hnm := (name_of_methodNamed Bd.named Bd.method).1
  have hlk : meth.locks = false := BodyLoose.notSynchronized Bd
  have X0 : Stand p l e ({ frames := 1, cells := 0, slots := 0, locals := 12 } : Room) s m #[(.ref o0)] below meth c s₁ [] 0 0 := Stand.of_body Bd
  have e0 : s₁.heap = h0 := by rw [← hh, Bd.state]; rfl
  have N0 := Fr.nil n0
  refine Got.body (ef_4 m o0) ?_
  have K0 := Keep.refl h0 [o0]
  refine Got.step (T' := s₁) (g' := (mkF m 1 #[.val (.ref o0)] [(.ref o0)])) (fun tq kt => ?_) ?_
  · show Steps p.tables e below (s₁.setTop (mkF m 0 #[.val (.ref o0)] [])) _
    refine XS.aloadN X0.here hx rfl (hb hby d4_0) rfl rfl ?_
    exact kt
  obtain ⟨T1, X1, e1, st1⟩ := initO X0 hx hZ hown (hw _ (List.mem_of_getElem? (i := 22) rfl)) (hw _ (List.mem_of_getElem? (i := 8) rfl)) (hw _ (List.mem_of_getElem? (i := 9) rfl)) e0 (g := (mkF m 1 #[.val (.ref o0)] [(.ref o0)])) rfl (by rw [hml]; rfl) rfl (hb hby d4_1) (by decide) (W := 0) (by show 2 * 0 + _ ≤ _; exact Nat.le_of_eq rfl) (by decide)
  refine Got.step st1 ?_
  show Got p e below s _ _ _ _ T1 (mkF m 4 #[.val (.ref o0)] [])
  exact Got.retV X1 hx Bd.returns hlk (hb hby d4_4) ⟨N0, by rw [e1]; exact K0, by rw [e1]; exact E_o0, by rw [e1]; exact F_table⟩ (by decide) (by decide)
theorem ef_5 (m : MethodId) (x0 : Addr) (x1 : Int32) : entryFrame m #[(.ref x0), (.int x1)] 2 = mkF m 0 #[.val (.ref x0), .val (.int x1)] [] := by first | (simp [entryFrame, mkF, argsToLocals, Value.category]; done) | rfl
theorem pn_1 : plainName "java/util/IdentityHashMap" = true := by first | (simp [plainName, overriddenIn]; done) | decide +kernel
theorem d5_0 : decode jdk_2581_method_6_code 0 = .ok (.aload_n 0, 1) := by decide +kernel
theorem d5_1 : decode jdk_2581_method_6_code 1 = .ok (.iconst 2, 1) := by decide +kernel
theorem d5_2 : decode jdk_2581_method_6_code 2 = .ok (.iload_n 1, 1) := by decide +kernel
theorem d5_3 : decode jdk_2581_method_6_code 3 = .ok (.imul, 1) := by decide +kernel
theorem d5_4 : decode jdk_2581_method_6_code 4 = .ok (.anewarray 49, 3) := by decide +kernel
theorem d5_7 : decode jdk_2581_method_6_code 7 = .ok (.putfield 51, 3) := by decide +kernel
theorem d5_10 : decode jdk_2581_method_6_code 10 = .ok (.return_, 1) := by decide +kernel
set_option maxRecDepth 65536 in
set_option maxHeartbeats 40000000 in
theorem rm5 (l : Launch) (Z : State) (a0 : Array Value) (hw : ∀ d ∈ tables_1, d.before a0 Z = true) (ws : List Jvm.Cond) (o0 : Addr) (p1 : Int32) (h0 : Heap) (n0 : Nat) (Z0 : n0 ≤ h0.size) (gn_o0 : n0 ≤ o0) (E_o0 : Exa Z h0 o0 "java/util/IdentityHashMap") (F_table : Fld Z h0 o0 "java/util/IdentityHashMap" "table" "[Ljava/lang/Object;" .null) (hn : ¬ (2 : Int32) * p1 < 0) (hm : ((2 : Int32) * p1).toNatClampNeg ≤ 64) :
    MetFree l (⟨"java/util/IdentityHashMap", "init", "(I)V"⟩ : MethodName) (head1 (Jvm.Cond.code (⟨"java/util/IdentityHashMap", "init", "(I)V"⟩ : MethodName) jdk_2581_method_6_code 2 none :: ws) ({ frames := 0, cells := 1, slots := 64, locals := 0 } : Room)) (fun a U => a = #[(.ref o0), (.int p1)] ∧ Z.Warmed39 U.vm ∧ U.heap = h0) (fun _ _ _ _ _ => True) (fun _ U o U' => ∃ v L, o = .returned v ∧ QV none (fun h L => Fr n0 L ∧ Keep h0 h [o0] ∧ Exa Z h o0 "java/util/IdentityHashMap") v U'.heap L ∧ FrameEnd U o U' L ({ frames := 0, cells := 1, slots := 64, locals := 0 } : Room).cells ({ frames := 0, cells := 1, slots := 64, locals := 0 } : Room).slots) := by
  refine MetFree.of_bodySF (plainFor_of_name pn_1) hisR ?_
  intro p e s m args below meth c s₁ Bd hml0 hP hK
  obtain ⟨rfl, hZ, hh⟩ := hP
  have hx := Bd.exec
  have hby := Bd.bytes
  have hml : c.maxLocals = 2 := hml0
  have hown : s.vm.findClass "java/util/IdentityHashMap" = some m.cls := findClass_of_methodNamed Bd.named
  have hnm := (name_of_methodNamed Bd.named Bd.method).1
  have hlk : meth.locks = false := BodyLoose.notSynchronized Bd
  have X0 : Stand p l e ({ frames := 0, cells := 1, slots := 64, locals := 0 } : Room) s m #[(.ref o0), (.int p1)] below meth c s₁ [] 0 0 := Stand.of_body Bd
  have e0 : s₁.heap = h0 := by rw [← hh, Bd.state]; rfl
  have N0 := Fr.nil n0
  refine Got.body (ef_5 m o0 p1) ?_
  have K0 := Keep.refl h0 [o0]
  refine Got.step (T' := s₁) (g' := (mkF m 4 #[.val (.ref o0), .val (.int p1)] [(.int ((2 : Int32) * p1)), (.ref o0)])) (fun tq kt => ?_) ?_
  · show Steps p.tables e below (s₁.setTop (mkF m 0 #[.val (.ref o0), .val (.int p1)] [])) _
    refine XS.aloadN X0.here hx rfl (hb hby d5_0) rfl rfl ?_
    show Steps p.tables e below (s₁.setTop (mkF m 1 #[.val (.ref o0), .val (.int p1)] [(.ref o0)])) _
    refine XS.iconst X0.here hx rfl (hb hby d5_1) ?_
    show Steps p.tables e below (s₁.setTop (mkF m 2 #[.val (.ref o0), .val (.int p1)] [(.int (2 : Int32)), (.ref o0)])) _
    refine XS.iloadN X0.here hx rfl (hb hby d5_2) rfl ?_
    show Steps p.tables e below (s₁.setTop (mkF m 3 #[.val (.ref o0), .val (.int p1)] [(.int p1), (.int (2 : Int32)), (.ref o0)])) _
    refine XS.imul X0.here hx rfl (hb hby d5_3) rfl ?_
    exact kt
  obtain ⟨T2, h2, k2, X2, e2, E2, A2, O2, st2⟩ := newR X0 hx hZ hown (hw _ (List.mem_of_getElem? (i := 28) rfl)) (hw _ (List.mem_of_getElem? (i := 29) rfl)) e0 (g := (mkF m 4 #[.val (.ref o0), .val (.int p1)] [(.int ((2 : Int32) * p1)), (.ref o0)])) rfl (hb hby d5_4) rfl hn (cap := 64) hm (by decide) (by decide) (by decide)
  obtain ⟨b2, g2⟩ : ∃ z, z = h0.size := ⟨_, rfl⟩
  rw [← g2] at A2 st2
  have ne_o0_b2 : o0 ≠ b2 := by rw [g2]; exact Nat.ne_of_lt E_o0.lt
  have gn_b2 : n0 ≤ b2 := by rw [g2]; exact Z0
  have sz_b2 : h0.size ≤ b2 := by rw [g2]; exact K0.1
  have Z0_3 : n0 ≤ h2.size := (Nat.le_trans Z0 E2.1)
  have K0_4 : Keep h0 h2 [o0] := (K0.ext E2)
  have E_o0_5 : Exa Z h2 o0 "java/util/IdentityHashMap" := (E_o0.ext E2)
  have F_table_6 : Fld Z h2 o0 "java/util/IdentityHashMap" "table" "[Ljava/lang/Object;" .null := (F_table.ext E2)
  refine Got.step st2 ?_
  show Got p e below s _ _ _ _ T2 (mkF m 7 #[.val (.ref o0), .val (.int p1)] [(.ref b2), (.ref o0)])
  obtain ⟨T7, h7, X7, e7, W7, st7⟩ := putF X2 hx hZ hown (host := "") (Or.inl (hw _ (List.mem_of_getElem? (i := 30) rfl))) Via.refl e2 F_table_6 E_o0_5 (Or.inl (hw _ (List.mem_of_getElem? (i := 31) rfl))) (hw _ (List.mem_of_getElem? (i := 11) rfl)) (ty := (.array (.object "java/lang/Object"))) (by decide) rfl rfl (g := (mkF m 7 #[.val (.ref o0), .val (.int p1)] [(.ref b2), (.ref o0)])) rfl rfl (hb hby d5_7)
  have Z0_8 : n0 ≤ h7.size := (Nat.le_trans Z0_3 (Keep.of_wr W7).1)
  have K0_9 : Keep h0 h7 [o0] := (K0_4.wr W7 (Or.inl (List.mem_of_getElem? (i := 0) rfl)))
  have E_o0_10 : Exa Z h7 o0 "java/util/IdentityHashMap" := (E_o0_5.wr W7)
  have F_table_11 : Fld Z h7 o0 "java/util/IdentityHashMap" "table" "[Ljava/lang/Object;" (.ref b2) := (F_table_6.same W7)
  have N7 := Fr.snoc X7 N0 gn_o0
  refine Got.step st7 ?_
  show Got p e below s _ _ _ _ T7 (mkF m 10 #[.val (.ref o0), .val (.int p1)] [])
  exact Got.retV X7 hx Bd.returns hlk (hb hby d5_10) ⟨N7, by rw [e7]; exact K0_9, by rw [e7]; exact E_o0_10⟩ (by decide) (by decide)
theorem pd_0 : parseMethodDescriptor "()V" = some ⟨[], none⟩ := by decide +kernel
theorem pd_1 : parseMethodDescriptor "(I)V" = some ⟨[.int], none⟩ := by decide +kernel
theorem ef_3 (m : MethodId) (x0 : Addr) : entryFrame m #[(.ref x0)] 1 = mkF m 0 #[.val (.ref x0)] [] := by first | (simp [entryFrame, mkF, argsToLocals, Value.category]; done) | rfl
theorem d3_0 : decode jdk_2581_method_3_code 0 = .ok (.aload_n 0, 1) := by decide +kernel
theorem d3_1 : decode jdk_2581_method_3_code 1 = .ok (.invokespecial 7, 3) := by decide +kernel
theorem d3_4 : decode jdk_2581_method_3_code 4 = .ok (.aload_n 0, 1) := by decide +kernel
theorem d3_5 : decode jdk_2581_method_3_code 5 = .ok (.bipush 32, 2) := by decide +kernel
theorem d3_7 : decode jdk_2581_method_3_code 7 = .ok (.invokevirtual 13, 3) := by decide +kernel
theorem d3_10 : decode jdk_2581_method_3_code 10 = .ok (.return_, 1) := by decide +kernel
set_option maxRecDepth 65536 in
set_option maxHeartbeats 40000000 in
theorem rm3 (l : Launch) (Z : State) (a0 : Array Value) (hw : ∀ d ∈ tables_1, d.before a0 Z = true) (ws : List Jvm.Cond) (o0 : Addr) (h0 : Heap) (n0 : Nat) (Z0 : n0 ≤ h0.size) (gn_o0 : n0 ≤ o0) (E_o0 : Exa Z h0 o0 "java/util/IdentityHashMap") (F_table : Fld Z h0 o0 "java/util/IdentityHashMap" "table" "[Ljava/lang/Object;" .null)  :
    MetFree l (⟨"java/util/IdentityHashMap", "<init>", "()V"⟩ : MethodName) (head1 (Jvm.Cond.code (⟨"java/util/IdentityHashMap", "<init>", "()V"⟩ : MethodName) jdk_2581_method_3_code 1 none :: ws) ({ frames := 2, cells := 1, slots := 64, locals := 24 } : Room)) (fun a U => a = #[(.ref o0)] ∧ Z.Warmed39 U.vm ∧ U.heap = h0) (fun _ _ _ _ _ => True) (fun _ U o U' => ∃ v L, o = .returned v ∧ QV none (fun h L => Fr n0 L ∧ Keep h0 h [o0] ∧ Exa Z h o0 "java/util/IdentityHashMap") v U'.heap L ∧ FrameEnd U o U' L ({ frames := 2, cells := 1, slots := 64, locals := 24 } : Room).cells ({ frames := 2, cells := 1, slots := 64, locals := 24 } : Room).slots) := by
  refine MetFree.of_bodySF (plainFor_of_name pn_1) hisR ?_
  intro p e s m args below meth c s₁ Bd hml0 hP hK
  obtain ⟨rfl, hZ, hh⟩ := hP
  have hx := Bd.exec
  have hby := Bd.bytes
  have hml : c.maxLocals = 1 := hml0
  have hown : s.vm.findClass "java/util/IdentityHashMap" = some m.cls := findClass_of_methodNamed Bd.named
  have hnm := (name_of_methodNamed Bd.named Bd.method).1
  have hlk : meth.locks = false := BodyLoose.notSynchronized Bd
  have X0 : Stand p l e ({ frames := 2, cells := 1, slots := 64, locals := 24 } : Room) s m #[(.ref o0)] below meth c s₁ [] 0 0 := Stand.of_body Bd
  have e0 : s₁.heap = h0 := by rw [← hh, Bd.state]; rfl
  have N0 := Fr.nil n0
  refine Got.body (ef_3 m o0) ?_
  have K0 := Keep.refl h0 [o0]
  refine Got.step (T' := s₁) (g' := (mkF m 1 #[.val (.ref o0)] [(.ref o0)])) (fun tq kt => ?_) ?_
  · show Steps p.tables e below (s₁.setTop (mkF m 0 #[.val (.ref o0)] [])) _
    refine XS.aloadN X0.here hx rfl (hb hby d3_0) rfl rfl ?_
    exact kt
  obtain ⟨_, _, ⟨T12, L12, k12, n12⟩, -, X12, ⟨Lc12, hQ12, l12, y12, z12⟩, st12⟩ := X0.specialBack hx (y := (⟨"java/util/AbstractMap", "<init>", "()V"⟩ : MethodName)) rfl hown (mvT hZ (hw _ (List.mem_of_getElem? (i := 16) rfl))) (mvT hZ (hw _ (List.mem_of_getElem? (i := 17) rfl))) (mvT hZ (hw _ (List.mem_of_getElem? (i := 21) rfl))) (by decide) (backOf (W := 0) (rm4 l Z a0 hw [] o0 h0 n0 Z0 gn_o0 E_o0 F_table ) hZ (hw _ (List.mem_of_getElem? (i := 21) rfl)) (hw _ (List.mem_of_getElem? (i := 20) rfl)) (by decide) (by decide)) (g := (mkF m 1 #[.val (.ref o0)] [(.ref o0)])) rfl (by rw [hml]; rfl) (Steps.refl _) (a := o0) (argsL := []) (rest := []) (lenOf pd_0 rfl) rfl (by show 2 * 0 + _ ≤ _; exact Nat.le_of_eq rfl) (hb hby d3_1) (fun _ _ => ⟨rfl, e0, (by decide : 0 + 0 ≤ _), (by decide : 0 + 0 ≤ _)⟩)
  dsimp only [Pt.U, Pt.locs, Pt.cells, Pt.slots] at X12 l12 y12 z12 st12 hQ12
  subst l12 y12 z12
  obtain ⟨h12, e12⟩ : ∃ z, T12.heap = z := ⟨_, rfl⟩
  rw [e12] at hQ12
  obtain ⟨rfl, Nq12, K12, E12, G12_table⟩ := hQ12
  have N12 := Fr.app N0 Nq12
  have Z0_13 : n0 ≤ h12.size := (Nat.le_trans Z0 K12.1)
  have K0_14 : Keep h0 h12 [o0] := (K0.trans K12 (allS (Or.inl (List.mem_of_getElem? (i := 0) rfl)) all0))
  have E_o0_15 : Exa Z h12 o0 "java/util/IdentityHashMap" := (E_o0.keep K12)
  refine Got.hop st12 ?_
  show Got p e below s _ _ _ _ T12 (mkF m 4 #[.val (.ref o0)] [])
  refine Got.step (T' := T12) (g' := (mkF m 7 #[.val (.ref o0)] [(.int (32 : Int32)), (.ref o0)])) (fun tq kt => ?_) ?_
  · show Steps p.tables e below (T12.setTop (mkF m 4 #[.val (.ref o0)] [])) _
    refine XS.aloadN X12.here hx rfl (hb hby d3_4) rfl rfl ?_
    show Steps p.tables e below (T12.setTop (mkF m 5 #[.val (.ref o0)] [(.ref o0)])) _
    refine XS.bipush X12.here hx rfl (hb hby d3_5) ?_
    exact kt
  obtain ⟨cq16, qa16, qb16⟩ := E_o0_15.cell
  obtain ⟨_, _, ⟨T16, L16, k16, n16⟩, -, X16, ⟨Lc16, hQ16, l16, y16, z16⟩, st16⟩ := X12.privateBack hx (y := (⟨"java/util/IdentityHashMap", "init", "(I)V"⟩ : MethodName)) hown (mvT hZ (hw _ (List.mem_of_getElem? (i := 23) rfl))) (mvT hZ (hw _ (List.mem_of_getElem? (i := 24) rfl))) (mvT hZ (hw _ (List.mem_of_getElem? (i := 26) rfl))) (Cond.privateMethod_at (mvP hZ (hw _ (List.mem_of_getElem? (i := 25) rfl)) (args := #[]))) (mvT hZ (hw _ (List.mem_of_getElem? (i := 27) rfl))) (by decide) (backOf (W := 0) (rm5 l Z a0 hw [] o0 (32 : Int32) h12 n0 Z0_13 gn_o0 E_o0_15 G12_table (by decide) (by decide)) hZ (hw _ (List.mem_of_getElem? (i := 27) rfl)) (hw _ (List.mem_of_getElem? (i := 12) rfl)) (by decide) (by decide)) (g := (mkF m 7 #[.val (.ref o0)] [(.int (32 : Int32)), (.ref o0)])) rfl (by rw [hml]; rfl) (Steps.refl _) (a := o0) (by rw [e12]; exact qa16) qb16 (argsL := [(.int (32 : Int32))]) (rest := []) (lenOf pd_1 rfl) rfl (by show 2 * 0 + _ ≤ _; exact Nat.le_of_eq rfl) (hb hby d3_7) (fun _ _ => ⟨rfl, e12, (by decide : 0 + 1 ≤ _), (by decide : 0 + 64 ≤ _)⟩)
  dsimp only [Pt.U, Pt.locs, Pt.cells, Pt.slots] at X16 l16 y16 z16 st16 hQ16
  subst l16 y16 z16
  obtain ⟨h16, e16⟩ : ∃ z, T16.heap = z := ⟨_, rfl⟩
  rw [e16] at hQ16
  obtain ⟨rfl, Nq16, K16, E16⟩ := hQ16
  have N16 := Fr.app N12 Nq16
  have Z0_17 : n0 ≤ h16.size := (Nat.le_trans Z0_13 K16.1)
  have K0_18 : Keep h0 h16 [o0] := (K0_14.trans K16 (allS (Or.inl (List.mem_of_getElem? (i := 0) rfl)) all0))
  have E_o0_19 : Exa Z h16 o0 "java/util/IdentityHashMap" := (E_o0_15.keep K16)
  refine Got.hop st16 ?_
  show Got p e below s _ _ _ _ T16 (mkF m 10 #[.val (.ref o0)] [])
  exact Got.retV X16 hx Bd.returns hlk (hb hby d3_10) ⟨N16, by rw [e16]; exact K0_18, by rw [e16]; exact E_o0_19⟩ (by decide) (by decide)
theorem ef_1 (m : MethodId) (x0 : Addr) (x1 : Int64) (x2 : Int64) (x3 : Int32) : entryFrame m #[(.ref x0), (.long x1), (.long x2), (.int x3)] 6 = mkF m 0 #[.val (.ref x0), .val (.long x1), .second, .val (.long x2), .second, .val (.int x3)] [] := by first | (simp [entryFrame, mkF, argsToLocals, Value.category]; done) | rfl
theorem pn_2 : plainName "com/example/hardy_broker/hardybroker/broker/HeapShare" = true := by first | (simp [plainName, overriddenIn]; done) | decide +kernel
theorem d1_0 : decode prog_7_method_1_code 0 = .ok (.aload_n 0, 1) := by decide +kernel
theorem d1_1 : decode prog_7_method_1_code 1 = .ok (.invokespecial 1, 3) := by decide +kernel
theorem d1_4 : decode prog_7_method_1_code 4 = .ok (.aload_n 0, 1) := by decide +kernel
theorem d1_5 : decode prog_7_method_1_code 5 = .ok (.new 7, 3) := by decide +kernel
theorem d1_8 : decode prog_7_method_1_code 8 = .ok (.dup, 1) := by decide +kernel
theorem d1_9 : decode prog_7_method_1_code 9 = .ok (.invokespecial 9, 3) := by decide +kernel
theorem d1_12 : decode prog_7_method_1_code 12 = .ok (.putfield 10, 3) := by decide +kernel
theorem d1_15 : decode prog_7_method_1_code 15 = .ok (.aload_n 0, 1) := by decide +kernel
theorem d1_16 : decode prog_7_method_1_code 16 = .ok (.lload_n 1, 1) := by decide +kernel
theorem d1_17 : decode prog_7_method_1_code 17 = .ok (.putfield 16, 3) := by decide +kernel
theorem d1_20 : decode prog_7_method_1_code 20 = .ok (.aload_n 0, 1) := by decide +kernel
theorem d1_21 : decode prog_7_method_1_code 21 = .ok (.lload_n 3, 1) := by decide +kernel
theorem d1_22 : decode prog_7_method_1_code 22 = .ok (.putfield 20, 3) := by decide +kernel
theorem d1_25 : decode prog_7_method_1_code 25 = .ok (.aload_n 0, 1) := by decide +kernel
theorem d1_26 : decode prog_7_method_1_code 26 = .ok (.iload 5, 2) := by decide +kernel
theorem d1_28 : decode prog_7_method_1_code 28 = .ok (.putfield 23, 3) := by decide +kernel
theorem d1_31 : decode prog_7_method_1_code 31 = .ok (.return_, 1) := by decide +kernel
set_option maxRecDepth 65536 in
set_option maxHeartbeats 40000000 in
theorem rm1 (l : Launch) (Z : State) (a0 : Array Value) (hw : ∀ d ∈ tables_1, d.before a0 Z = true) (ws : List Jvm.Cond) (o0 : Addr) (q1 : Int64) (q2 : Int64) (p3 : Int32) (h0 : Heap) (n0 : Nat) (Z0 : n0 ≤ h0.size) (gn_o0 : n0 ≤ o0) (E_o0 : Exa Z h0 o0 "com/example/hardy_broker/hardybroker/broker/HeapShare") (F_holdersByArray : Fld Z h0 o0 "com/example/hardy_broker/hardybroker/broker/HeapShare" "holdersByArray" "Ljava/util/Map;" .null) (F_size : Fld Z h0 o0 "com/example/hardy_broker/hardybroker/broker/HeapShare" "size" "J" (.long (0 : Int64))) (F_allowance : Fld Z h0 o0 "com/example/hardy_broker/hardybroker/broker/HeapShare" "allowance" "J" (.long (0 : Int64))) (F_overhead : Fld Z h0 o0 "com/example/hardy_broker/hardybroker/broker/HeapShare" "overhead" "I" (.int (0 : Int32)))  :
    MetFree l (⟨"com/example/hardy_broker/hardybroker/broker/HeapShare", "<init>", "(JJI)V"⟩ : MethodName) (head1 (Jvm.Cond.code (⟨"com/example/hardy_broker/hardybroker/broker/HeapShare", "<init>", "(JJI)V"⟩ : MethodName) prog_7_method_1_code 6 none :: ws) ({ frames := 3, cells := 2, slots := 70, locals := 38 } : Room)) (fun a U => a = #[(.ref o0), (.long q1), (.long q2), (.int p3)] ∧ Z.Warmed39 U.vm ∧ U.heap = h0) (fun _ _ _ _ _ => True) (fun _ U o U' => ∃ v L, o = .returned v ∧ QV none (fun h L => Fr n0 L ∧ Keep h0 h [o0] ∧ Exa Z h o0 "com/example/hardy_broker/hardybroker/broker/HeapShare" ∧ Fld Z h o0 "com/example/hardy_broker/hardybroker/broker/HeapShare" "size" "J" (.long q1)) v U'.heap L ∧ FrameEnd U o U' L ({ frames := 3, cells := 2, slots := 70, locals := 38 } : Room).cells ({ frames := 3, cells := 2, slots := 70, locals := 38 } : Room).slots) := by
  refine MetFree.of_bodySF (plainFor_of_name pn_2) hisR ?_
  intro p e s m args below meth c s₁ Bd hml0 hP hK
  obtain ⟨rfl, hZ, hh⟩ := hP
  have hx := Bd.exec
  have hby := Bd.bytes
  have hml : c.maxLocals = 6 := hml0
  have hown : s.vm.findClass "com/example/hardy_broker/hardybroker/broker/HeapShare" = some m.cls := findClass_of_methodNamed Bd.named
  have hnm := (name_of_methodNamed Bd.named Bd.method).1
  have hlk : meth.locks = false := BodyLoose.notSynchronized Bd
  have X0 : Stand p l e ({ frames := 3, cells := 2, slots := 70, locals := 38 } : Room) s m #[(.ref o0), (.long q1), (.long q2), (.int p3)] below meth c s₁ [] 0 0 := Stand.of_body Bd
  have e0 : s₁.heap = h0 := by rw [← hh, Bd.state]; rfl
  have N0 := Fr.nil n0
  refine Got.body (ef_1 m o0 q1 q2 p3) ?_
  have K0 := Keep.refl h0 [o0]
  refine Got.step (T' := s₁) (g' := (mkF m 1 #[.val (.ref o0), .val (.long q1), .second, .val (.long q2), .second, .val (.int p3)] [(.ref o0)])) (fun tq kt => ?_) ?_
  · show Steps p.tables e below (s₁.setTop (mkF m 0 #[.val (.ref o0), .val (.long q1), .second, .val (.long q2), .second, .val (.int p3)] [])) _
    refine XS.aloadN X0.here hx rfl (hb hby d1_0) rfl rfl ?_
    exact kt
  obtain ⟨T20, X20, e20, st20⟩ := initO X0 hx hZ hown (hw _ (List.mem_of_getElem? (i := 7) rfl)) (hw _ (List.mem_of_getElem? (i := 8) rfl)) (hw _ (List.mem_of_getElem? (i := 9) rfl)) e0 (g := (mkF m 1 #[.val (.ref o0), .val (.long q1), .second, .val (.long q2), .second, .val (.int p3)] [(.ref o0)])) rfl (by rw [hml]; rfl) rfl (hb hby d1_1) (by decide) (W := 0) (by show 2 * 0 + _ ≤ _; exact Nat.le_of_eq rfl) (by decide)
  refine Got.step st20 ?_
  show Got p e below s _ _ _ _ T20 (mkF m 4 #[.val (.ref o0), .val (.long q1), .second, .val (.long q2), .second, .val (.int p3)] [])
  refine Got.step (T' := T20) (g' := (mkF m 5 #[.val (.ref o0), .val (.long q1), .second, .val (.long q2), .second, .val (.int p3)] [(.ref o0)])) (fun tq kt => ?_) ?_
  · show Steps p.tables e below (T20.setTop (mkF m 4 #[.val (.ref o0), .val (.long q1), .second, .val (.long q2), .second, .val (.int p3)] [])) _
    refine XS.aloadN X20.here hx rfl (hb hby d1_4) rfl rfl ?_
    exact kt
  obtain ⟨T21, h21, X21, e21, E21, A21, D21, -, st21⟩ := newO X20 hx hZ hown (hw _ (List.mem_of_getElem? (i := 10) rfl)) (hw _ (List.mem_of_getElem? (i := 11) rfl)) (hw _ (List.mem_of_getElem? (i := 12) rfl)) e20 (g := (mkF m 5 #[.val (.ref o0), .val (.long q1), .second, .val (.long q2), .second, .val (.int p3)] [(.ref o0)])) rfl (hb hby d1_5) (by decide) (by decide)
  obtain ⟨b21, g21⟩ : ∃ z, z = h0.size := ⟨_, rfl⟩
  rw [← g21] at A21 D21 st21
  have ne_o0_b21 : o0 ≠ b21 := by rw [g21]; exact Nat.ne_of_lt E_o0.lt
  have gn_b21 : n0 ≤ b21 := by rw [g21]; exact Z0
  have sz_b21 : h0.size ≤ b21 := by rw [g21]; exact K0.1
  have Z0_22 : n0 ≤ h21.size := (Nat.le_trans Z0 E21.1)
  have K0_23 : Keep h0 h21 [o0] := (K0.ext E21)
  have E_o0_24 : Exa Z h21 o0 "com/example/hardy_broker/hardybroker/broker/HeapShare" := (E_o0.ext E21)
  have F_holdersByArray_25 : Fld Z h21 o0 "com/example/hardy_broker/hardybroker/broker/HeapShare" "holdersByArray" "Ljava/util/Map;" .null := (F_holdersByArray.ext E21)
  have F_size_26 : Fld Z h21 o0 "com/example/hardy_broker/hardybroker/broker/HeapShare" "size" "J" (.long (0 : Int64)) := (F_size.ext E21)
  have F_allowance_27 : Fld Z h21 o0 "com/example/hardy_broker/hardybroker/broker/HeapShare" "allowance" "J" (.long (0 : Int64)) := (F_allowance.ext E21)
  have F_overhead_28 : Fld Z h21 o0 "com/example/hardy_broker/hardybroker/broker/HeapShare" "overhead" "I" (.int (0 : Int32)) := (F_overhead.ext E21)
  have F21_table : Fld Z h21 b21 "java/util/IdentityHashMap" "table" "[Ljava/lang/Object;" .null := D21 (Or.inl (hw _ (List.mem_of_getElem? (i := 31) rfl))) (ty := (.array (.object "java/lang/Object"))) (by decide)
  refine Got.step st21 ?_
  show Got p e below s _ _ _ _ T21 (mkF m 8 #[.val (.ref o0), .val (.long q1), .second, .val (.long q2), .second, .val (.int p3)] [(.ref b21), (.ref o0)])
  refine Got.step (T' := T21) (g' := (mkF m 9 #[.val (.ref o0), .val (.long q1), .second, .val (.long q2), .second, .val (.int p3)] [(.ref b21), (.ref b21), (.ref o0)])) (fun tq kt => ?_) ?_
  · show Steps p.tables e below (T21.setTop (mkF m 8 #[.val (.ref o0), .val (.long q1), .second, .val (.long q2), .second, .val (.int p3)] [(.ref b21), (.ref o0)])) _
    refine XS.dup X21.here hx rfl (hb hby d1_8) rfl rfl ?_
    exact kt
  obtain ⟨_, _, ⟨T29, L29, k29, n29⟩, -, X29, ⟨Lc29, hQ29, l29, y29, z29⟩, st29⟩ := X21.specialBack hx (y := (⟨"java/util/IdentityHashMap", "<init>", "()V"⟩ : MethodName)) rfl hown (mvT hZ (hw _ (List.mem_of_getElem? (i := 13) rfl))) (mvT hZ (hw _ (List.mem_of_getElem? (i := 14) rfl))) (mvT hZ (hw _ (List.mem_of_getElem? (i := 15) rfl))) (by decide) (backOf (W := 2) (rm3 l Z a0 hw [] b21 h21 n0 Z0_22 gn_b21 A21 F21_table ) hZ (hw _ (List.mem_of_getElem? (i := 15) rfl)) (hw _ (List.mem_of_getElem? (i := 12) rfl)) (by decide) (by decide)) (g := (mkF m 9 #[.val (.ref o0), .val (.long q1), .second, .val (.long q2), .second, .val (.int p3)] [(.ref b21), (.ref b21), (.ref o0)])) rfl (by rw [hml]; rfl) (Steps.refl _) (a := b21) (argsL := []) (rest := [(.ref b21), (.ref o0)]) (lenOf pd_0 rfl) rfl (by show 2 * 0 + _ ≤ _; exact Nat.le_of_eq rfl) (hb hby d1_9) (fun _ _ => ⟨rfl, e21, (by decide : 1 + 1 ≤ _), (by decide : 6 + 64 ≤ _)⟩)
  dsimp only [Pt.U, Pt.locs, Pt.cells, Pt.slots] at X29 l29 y29 z29 st29 hQ29
  subst l29 y29 z29
  obtain ⟨h29, e29⟩ : ∃ z, T29.heap = z := ⟨_, rfl⟩
  rw [e29] at hQ29
  obtain ⟨rfl, Nq29, K29, E29⟩ := hQ29
  have N29 := Fr.app N0 Nq29
  have Z0_30 : n0 ≤ h29.size := (Nat.le_trans Z0_22 K29.1)
  have K0_31 : Keep h0 h29 [o0] := (K0_23.trans K29 (allS (Or.inr sz_b21) all0))
  have E_o0_32 : Exa Z h29 o0 "com/example/hardy_broker/hardybroker/broker/HeapShare" := (E_o0_24.keep K29)
  have F_holdersByArray_33 : Fld Z h29 o0 "com/example/hardy_broker/hardybroker/broker/HeapShare" "holdersByArray" "Ljava/util/Map;" .null := (F_holdersByArray_25.keep K29 (ninS ne_o0_b21 nin0))
  have F_size_34 : Fld Z h29 o0 "com/example/hardy_broker/hardybroker/broker/HeapShare" "size" "J" (.long (0 : Int64)) := (F_size_26.keep K29 (ninS ne_o0_b21 nin0))
  have F_allowance_35 : Fld Z h29 o0 "com/example/hardy_broker/hardybroker/broker/HeapShare" "allowance" "J" (.long (0 : Int64)) := (F_allowance_27.keep K29 (ninS ne_o0_b21 nin0))
  have F_overhead_36 : Fld Z h29 o0 "com/example/hardy_broker/hardybroker/broker/HeapShare" "overhead" "I" (.int (0 : Int32)) := (F_overhead_28.keep K29 (ninS ne_o0_b21 nin0))
  have A21_37 : Exa Z h29 b21 "java/util/IdentityHashMap" := (A21.keep K29)
  refine Got.hop st29 ?_
  show Got p e below s _ _ _ _ T29 (mkF m 12 #[.val (.ref o0), .val (.long q1), .second, .val (.long q2), .second, .val (.int p3)] [(.ref b21), (.ref o0)])
  obtain ⟨T38, h38, X38, e38, W38, st38⟩ := putF X29 hx hZ hown (host := "") (Or.inl (hw _ (List.mem_of_getElem? (i := 32) rfl))) Via.refl e29 F_holdersByArray_33 E_o0_32 (Or.inr ⟨(hw _ (List.mem_of_getElem? (i := 33) rfl)), rfl, hnm⟩) (hw _ (List.mem_of_getElem? (i := 2) rfl)) (ty := (.object "java/util/Map")) (by decide) rfl rfl (g := (mkF m 12 #[.val (.ref o0), .val (.long q1), .second, .val (.long q2), .second, .val (.int p3)] [(.ref b21), (.ref o0)])) rfl rfl (hb hby d1_12)
  have Z0_39 : n0 ≤ h38.size := (Nat.le_trans Z0_30 (Keep.of_wr W38).1)
  have K0_40 : Keep h0 h38 [o0] := (K0_31.wr W38 (Or.inl (List.mem_of_getElem? (i := 0) rfl)))
  have E_o0_41 : Exa Z h38 o0 "com/example/hardy_broker/hardybroker/broker/HeapShare" := (E_o0_32.wr W38)
  have F_holdersByArray_42 : Fld Z h38 o0 "com/example/hardy_broker/hardybroker/broker/HeapShare" "holdersByArray" "Ljava/util/Map;" (.ref b21) := (F_holdersByArray_33.same W38)
  have F_size_43 : Fld Z h38 o0 "com/example/hardy_broker/hardybroker/broker/HeapShare" "size" "J" (.long (0 : Int64)) := (F_size_34.other W38 (Or.inr (slot_ne (Or.inr (hw _ (List.mem_of_getElem? (i := 35) rfl))) (Or.inr (hw _ (List.mem_of_getElem? (i := 33) rfl))) (by decide) (t := .long) (t' := (.object "java/util/Map")) (by decide) (by decide))))
  have F_allowance_44 : Fld Z h38 o0 "com/example/hardy_broker/hardybroker/broker/HeapShare" "allowance" "J" (.long (0 : Int64)) := (F_allowance_35.other W38 (Or.inr (slot_ne (Or.inr (hw _ (List.mem_of_getElem? (i := 37) rfl))) (Or.inr (hw _ (List.mem_of_getElem? (i := 33) rfl))) (by decide) (t := .long) (t' := (.object "java/util/Map")) (by decide) (by decide))))
  have F_overhead_45 : Fld Z h38 o0 "com/example/hardy_broker/hardybroker/broker/HeapShare" "overhead" "I" (.int (0 : Int32)) := (F_overhead_36.other W38 (Or.inr (slot_ne (Or.inr (hw _ (List.mem_of_getElem? (i := 39) rfl))) (Or.inr (hw _ (List.mem_of_getElem? (i := 33) rfl))) (by decide) (t := .int) (t' := (.object "java/util/Map")) (by decide) (by decide))))
  have A21_46 : Exa Z h38 b21 "java/util/IdentityHashMap" := (A21_37.wr W38)
  have N38 := Fr.snoc X38 N29 gn_o0
  refine Got.step st38 ?_
  show Got p e below s _ _ _ _ T38 (mkF m 15 #[.val (.ref o0), .val (.long q1), .second, .val (.long q2), .second, .val (.int p3)] [])
  refine Got.step (T' := T38) (g' := (mkF m 17 #[.val (.ref o0), .val (.long q1), .second, .val (.long q2), .second, .val (.int p3)] [(.long q1), (.ref o0)])) (fun tq kt => ?_) ?_
  · show Steps p.tables e below (T38.setTop (mkF m 15 #[.val (.ref o0), .val (.long q1), .second, .val (.long q2), .second, .val (.int p3)] [])) _
    refine XS.aloadN X38.here hx rfl (hb hby d1_15) rfl rfl ?_
    show Steps p.tables e below (T38.setTop (mkF m 16 #[.val (.ref o0), .val (.long q1), .second, .val (.long q2), .second, .val (.int p3)] [(.ref o0)])) _
    refine XS.lloadN X38.here hx rfl (hb hby d1_16) rfl ?_
    exact kt
  obtain ⟨T47, h47, X47, e47, W47, st47⟩ := putF X38 hx hZ hown (host := "") (Or.inl (hw _ (List.mem_of_getElem? (i := 34) rfl))) Via.refl e38 F_size_43 E_o0_41 (Or.inr ⟨(hw _ (List.mem_of_getElem? (i := 35) rfl)), rfl, hnm⟩) (hw _ (List.mem_of_getElem? (i := 2) rfl)) (ty := .long) (by decide) rfl rfl (g := (mkF m 17 #[.val (.ref o0), .val (.long q1), .second, .val (.long q2), .second, .val (.int p3)] [(.long q1), (.ref o0)])) rfl rfl (hb hby d1_17)
  have Z0_48 : n0 ≤ h47.size := (Nat.le_trans Z0_39 (Keep.of_wr W47).1)
  have K0_49 : Keep h0 h47 [o0] := (K0_40.wr W47 (Or.inl (List.mem_of_getElem? (i := 0) rfl)))
  have E_o0_50 : Exa Z h47 o0 "com/example/hardy_broker/hardybroker/broker/HeapShare" := (E_o0_41.wr W47)
  have F_holdersByArray_51 : Fld Z h47 o0 "com/example/hardy_broker/hardybroker/broker/HeapShare" "holdersByArray" "Ljava/util/Map;" (.ref b21) := (F_holdersByArray_42.other W47 (Or.inr (slot_ne (Or.inr (hw _ (List.mem_of_getElem? (i := 33) rfl))) (Or.inr (hw _ (List.mem_of_getElem? (i := 35) rfl))) (by decide) (t := (.object "java/util/Map")) (t' := .long) (by decide) (by decide))))
  have F_size_52 : Fld Z h47 o0 "com/example/hardy_broker/hardybroker/broker/HeapShare" "size" "J" (.long q1) := (F_size_43.same W47)
  have F_allowance_53 : Fld Z h47 o0 "com/example/hardy_broker/hardybroker/broker/HeapShare" "allowance" "J" (.long (0 : Int64)) := (F_allowance_44.other W47 (Or.inr (slot_ne (Or.inr (hw _ (List.mem_of_getElem? (i := 37) rfl))) (Or.inr (hw _ (List.mem_of_getElem? (i := 35) rfl))) (by decide) (t := .long) (t' := .long) (by decide) (by decide))))
  have F_overhead_54 : Fld Z h47 o0 "com/example/hardy_broker/hardybroker/broker/HeapShare" "overhead" "I" (.int (0 : Int32)) := (F_overhead_45.other W47 (Or.inr (slot_ne (Or.inr (hw _ (List.mem_of_getElem? (i := 39) rfl))) (Or.inr (hw _ (List.mem_of_getElem? (i := 35) rfl))) (by decide) (t := .int) (t' := .long) (by decide) (by decide))))
  have A21_55 : Exa Z h47 b21 "java/util/IdentityHashMap" := (A21_46.wr W47)
  have N47 := Fr.snoc X47 N38 gn_o0
  refine Got.step st47 ?_
  show Got p e below s _ _ _ _ T47 (mkF m 20 #[.val (.ref o0), .val (.long q1), .second, .val (.long q2), .second, .val (.int p3)] [])
  refine Got.step (T' := T47) (g' := (mkF m 22 #[.val (.ref o0), .val (.long q1), .second, .val (.long q2), .second, .val (.int p3)] [(.long q2), (.ref o0)])) (fun tq kt => ?_) ?_
  · show Steps p.tables e below (T47.setTop (mkF m 20 #[.val (.ref o0), .val (.long q1), .second, .val (.long q2), .second, .val (.int p3)] [])) _
    refine XS.aloadN X47.here hx rfl (hb hby d1_20) rfl rfl ?_
    show Steps p.tables e below (T47.setTop (mkF m 21 #[.val (.ref o0), .val (.long q1), .second, .val (.long q2), .second, .val (.int p3)] [(.ref o0)])) _
    refine XS.lloadN X47.here hx rfl (hb hby d1_21) rfl ?_
    exact kt
  obtain ⟨T56, h56, X56, e56, W56, st56⟩ := putF X47 hx hZ hown (host := "") (Or.inl (hw _ (List.mem_of_getElem? (i := 36) rfl))) Via.refl e47 F_allowance_53 E_o0_50 (Or.inr ⟨(hw _ (List.mem_of_getElem? (i := 37) rfl)), rfl, hnm⟩) (hw _ (List.mem_of_getElem? (i := 2) rfl)) (ty := .long) (by decide) rfl rfl (g := (mkF m 22 #[.val (.ref o0), .val (.long q1), .second, .val (.long q2), .second, .val (.int p3)] [(.long q2), (.ref o0)])) rfl rfl (hb hby d1_22)
  have Z0_57 : n0 ≤ h56.size := (Nat.le_trans Z0_48 (Keep.of_wr W56).1)
  have K0_58 : Keep h0 h56 [o0] := (K0_49.wr W56 (Or.inl (List.mem_of_getElem? (i := 0) rfl)))
  have E_o0_59 : Exa Z h56 o0 "com/example/hardy_broker/hardybroker/broker/HeapShare" := (E_o0_50.wr W56)
  have F_holdersByArray_60 : Fld Z h56 o0 "com/example/hardy_broker/hardybroker/broker/HeapShare" "holdersByArray" "Ljava/util/Map;" (.ref b21) := (F_holdersByArray_51.other W56 (Or.inr (slot_ne (Or.inr (hw _ (List.mem_of_getElem? (i := 33) rfl))) (Or.inr (hw _ (List.mem_of_getElem? (i := 37) rfl))) (by decide) (t := (.object "java/util/Map")) (t' := .long) (by decide) (by decide))))
  have F_size_61 : Fld Z h56 o0 "com/example/hardy_broker/hardybroker/broker/HeapShare" "size" "J" (.long q1) := (F_size_52.other W56 (Or.inr (slot_ne (Or.inr (hw _ (List.mem_of_getElem? (i := 35) rfl))) (Or.inr (hw _ (List.mem_of_getElem? (i := 37) rfl))) (by decide) (t := .long) (t' := .long) (by decide) (by decide))))
  have F_allowance_62 : Fld Z h56 o0 "com/example/hardy_broker/hardybroker/broker/HeapShare" "allowance" "J" (.long q2) := (F_allowance_53.same W56)
  have F_overhead_63 : Fld Z h56 o0 "com/example/hardy_broker/hardybroker/broker/HeapShare" "overhead" "I" (.int (0 : Int32)) := (F_overhead_54.other W56 (Or.inr (slot_ne (Or.inr (hw _ (List.mem_of_getElem? (i := 39) rfl))) (Or.inr (hw _ (List.mem_of_getElem? (i := 37) rfl))) (by decide) (t := .int) (t' := .long) (by decide) (by decide))))
  have A21_64 : Exa Z h56 b21 "java/util/IdentityHashMap" := (A21_55.wr W56)
  have N56 := Fr.snoc X56 N47 gn_o0
  refine Got.step st56 ?_
  show Got p e below s _ _ _ _ T56 (mkF m 25 #[.val (.ref o0), .val (.long q1), .second, .val (.long q2), .second, .val (.int p3)] [])
  refine Got.step (T' := T56) (g' := (mkF m 28 #[.val (.ref o0), .val (.long q1), .second, .val (.long q2), .second, .val (.int p3)] [(.int p3), (.ref o0)])) (fun tq kt => ?_) ?_
  · show Steps p.tables e below (T56.setTop (mkF m 25 #[.val (.ref o0), .val (.long q1), .second, .val (.long q2), .second, .val (.int p3)] [])) _
    refine XS.aloadN X56.here hx rfl (hb hby d1_25) rfl rfl ?_
    show Steps p.tables e below (T56.setTop (mkF m 26 #[.val (.ref o0), .val (.long q1), .second, .val (.long q2), .second, .val (.int p3)] [(.ref o0)])) _
    refine XS.iload X56.here hx rfl (hb hby d1_26) rfl ?_
    exact kt
  obtain ⟨T65, h65, X65, e65, W65, st65⟩ := putF X56 hx hZ hown (host := "") (Or.inl (hw _ (List.mem_of_getElem? (i := 38) rfl))) Via.refl e56 F_overhead_63 E_o0_59 (Or.inr ⟨(hw _ (List.mem_of_getElem? (i := 39) rfl)), rfl, hnm⟩) (hw _ (List.mem_of_getElem? (i := 2) rfl)) (ty := .int) (by decide) rfl rfl (g := (mkF m 28 #[.val (.ref o0), .val (.long q1), .second, .val (.long q2), .second, .val (.int p3)] [(.int p3), (.ref o0)])) rfl rfl (hb hby d1_28)
  have Z0_66 : n0 ≤ h65.size := (Nat.le_trans Z0_57 (Keep.of_wr W65).1)
  have K0_67 : Keep h0 h65 [o0] := (K0_58.wr W65 (Or.inl (List.mem_of_getElem? (i := 0) rfl)))
  have E_o0_68 : Exa Z h65 o0 "com/example/hardy_broker/hardybroker/broker/HeapShare" := (E_o0_59.wr W65)
  have F_holdersByArray_69 : Fld Z h65 o0 "com/example/hardy_broker/hardybroker/broker/HeapShare" "holdersByArray" "Ljava/util/Map;" (.ref b21) := (F_holdersByArray_60.other W65 (Or.inr (slot_ne (Or.inr (hw _ (List.mem_of_getElem? (i := 33) rfl))) (Or.inr (hw _ (List.mem_of_getElem? (i := 39) rfl))) (by decide) (t := (.object "java/util/Map")) (t' := .int) (by decide) (by decide))))
  have F_size_70 : Fld Z h65 o0 "com/example/hardy_broker/hardybroker/broker/HeapShare" "size" "J" (.long q1) := (F_size_61.other W65 (Or.inr (slot_ne (Or.inr (hw _ (List.mem_of_getElem? (i := 35) rfl))) (Or.inr (hw _ (List.mem_of_getElem? (i := 39) rfl))) (by decide) (t := .long) (t' := .int) (by decide) (by decide))))
  have F_allowance_71 : Fld Z h65 o0 "com/example/hardy_broker/hardybroker/broker/HeapShare" "allowance" "J" (.long q2) := (F_allowance_62.other W65 (Or.inr (slot_ne (Or.inr (hw _ (List.mem_of_getElem? (i := 37) rfl))) (Or.inr (hw _ (List.mem_of_getElem? (i := 39) rfl))) (by decide) (t := .long) (t' := .int) (by decide) (by decide))))
  have F_overhead_72 : Fld Z h65 o0 "com/example/hardy_broker/hardybroker/broker/HeapShare" "overhead" "I" (.int p3) := (F_overhead_63.same W65)
  have A21_73 : Exa Z h65 b21 "java/util/IdentityHashMap" := (A21_64.wr W65)
  have N65 := Fr.snoc X65 N56 gn_o0
  refine Got.step st65 ?_
  show Got p e below s _ _ _ _ T65 (mkF m 31 #[.val (.ref o0), .val (.long q1), .second, .val (.long q2), .second, .val (.int p3)] [])
  exact Got.retV X65 hx Bd.returns hlk (hb hby d1_31) ⟨N65, by rw [e65]; exact K0_67, by rw [e65]; exact E_o0_68, by rw [e65]; exact F_size_70⟩ (by decide) (by decide)
def f6 (q1 : Int64) (sz : Int64)  : Int32 := (if (sz / (128 : Int64)) < q1 then (0 : Int32) else (1 : Int32))
theorem ef_6 (m : MethodId) (x0 : Addr) (x1 : Int64) : entryFrame m #[(.ref x0), (.long x1)] 3 = mkF m 0 #[.val (.ref x0), .val (.long x1), .second] [] := by first | (simp [entryFrame, mkF, argsToLocals, Value.category]; done) | rfl
theorem d6_0 : decode prog_7_method_6_code 0 = .ok (.lload_n 1, 1) := by decide +kernel
theorem d6_1 : decode prog_7_method_6_code 1 = .ok (.aload_n 0, 1) := by decide +kernel
theorem d6_2 : decode prog_7_method_6_code 2 = .ok (.getfield 16, 3) := by decide +kernel
theorem d6_5 : decode prog_7_method_6_code 5 = .ok (.ldc2_w 44, 3) := by decide +kernel
theorem d6_8 : decode prog_7_method_6_code 8 = .ok (.ldiv, 1) := by decide +kernel
theorem d6_9 : decode prog_7_method_6_code 9 = .ok (.lcmp, 1) := by decide +kernel
theorem d6_10 : decode prog_7_method_6_code 10 = .ok (.ifCond .gt 7, 3) := by decide +kernel
theorem d6_13 : decode prog_7_method_6_code 13 = .ok (.iconst 1, 1) := by decide +kernel
theorem d6_14 : decode prog_7_method_6_code 14 = .ok (.goto 4, 3) := by decide +kernel
theorem d6_17 : decode prog_7_method_6_code 17 = .ok (.iconst 0, 1) := by decide +kernel
theorem d6_18 : decode prog_7_method_6_code 18 = .ok (.ireturn, 1) := by decide +kernel
set_option maxRecDepth 65536 in
set_option maxHeartbeats 40000000 in
theorem rm6 (l : Launch) (Z : State) (a0 : Array Value) (hw : ∀ d ∈ tables_1, d.before a0 Z = true) (ws : List Jvm.Cond) (o0 : Addr) (q1 : Int64) (sz : Int64) (h0 : Heap) (n0 : Nat) (Z0 : n0 ≤ h0.size) (E_o0 : Exa Z h0 o0 "com/example/hardy_broker/hardybroker/broker/HeapShare") (F_size : Fld Z h0 o0 "com/example/hardy_broker/hardybroker/broker/HeapShare" "size" "J" (.long sz))  :
    MetFree l (⟨"com/example/hardy_broker/hardybroker/broker/HeapShare", "drawsOnAll", "(J)Z"⟩ : MethodName) (head1 (Jvm.Cond.code (⟨"com/example/hardy_broker/hardybroker/broker/HeapShare", "drawsOnAll", "(J)Z"⟩ : MethodName) prog_7_method_6_code 3 (some .boolean) :: ws) ({ frames := 0, cells := 0, slots := 0, locals := 0 } : Room)) (fun a U => a = #[(.ref o0), (.long q1)] ∧ Z.Warmed39 U.vm ∧ U.heap = h0) (fun _ _ _ _ _ => True) (fun _ U o U' => ∃ v L, o = .returned v ∧ QV (some (.int (f6 q1 sz))) (PureP n0 h0) v U'.heap L ∧ FrameEnd U o U' L ({ frames := 0, cells := 0, slots := 0, locals := 0 } : Room).cells ({ frames := 0, cells := 0, slots := 0, locals := 0 } : Room).slots) := by
  refine MetFree.of_bodySF (plainFor_of_name pn_2) hisR ?_
  intro p e s m args below meth c s₁ Bd hml0 hP hK
  obtain ⟨rfl, hZ, hh⟩ := hP
  have hx := Bd.exec
  have hby := Bd.bytes
  have hml : c.maxLocals = 3 := hml0
  have hown : s.vm.findClass "com/example/hardy_broker/hardybroker/broker/HeapShare" = some m.cls := findClass_of_methodNamed Bd.named
  have hnm := (name_of_methodNamed Bd.named Bd.method).1
  have hlk : meth.locks = false := BodyLoose.notSynchronized Bd
  have X0 : Stand p l e ({ frames := 0, cells := 0, slots := 0, locals := 0 } : Room) s m #[(.ref o0), (.long q1)] below meth c s₁ [] 0 0 := Stand.of_body Bd
  have e0 : s₁.heap = h0 := by rw [← hh, Bd.state]; rfl
  have N0 := Fr.nil n0
  refine Got.body (ef_6 m o0 q1) ?_
  refine Got.step (T' := s₁) (g' := (mkF m 2 #[.val (.ref o0), .val (.long q1), .second] [(.ref o0), (.long q1)])) (fun tq kt => ?_) ?_
  · show Steps p.tables e below (s₁.setTop (mkF m 0 #[.val (.ref o0), .val (.long q1), .second] [])) _
    refine XS.lloadN X0.here hx rfl (hb hby d6_0) rfl ?_
    show Steps p.tables e below (s₁.setTop (mkF m 1 #[.val (.ref o0), .val (.long q1), .second] [(.long q1)])) _
    refine XS.aloadN X0.here hx rfl (hb hby d6_1) rfl rfl ?_
    exact kt
  obtain ⟨T74, X74, e74, st74⟩ := getF X0 hx hZ hown (host := "") (Or.inl (hw _ (List.mem_of_getElem? (i := 34) rfl))) Via.refl e0 F_size (g := (mkF m 2 #[.val (.ref o0), .val (.long q1), .second] [(.ref o0), (.long q1)])) rfl rfl (hb hby d6_2)
  refine Got.step st74 ?_
  show Got p e below s _ _ _ _ T74 (mkF m 5 #[.val (.ref o0), .val (.long q1), .second] [(.long sz), (.long q1)])
  refine Got.step (T' := T74) (g' := (mkF m 10 #[.val (.ref o0), .val (.long q1), .second] [(.int (XT.cmpL q1 (sz / (128 : Int64))))])) (fun tq kt => ?_) ?_
  · show Steps p.tables e below (T74.setTop (mkF m 5 #[.val (.ref o0), .val (.long q1), .second] [(.long sz), (.long q1)])) _
    refine X74.ldc2J hx hown (mvT hZ (hw _ (List.mem_of_getElem? (i := 45) rfl))) rfl (hb hby d6_5) ?_
    show Steps p.tables e below (T74.setTop (mkF m 8 #[.val (.ref o0), .val (.long q1), .second] [(.long (128 : Int64)), (.long sz), (.long q1)])) _
    refine XS.ldiv X74.here hx rfl (hb hby d6_8) rfl (by decide) ?_
    show Steps p.tables e below (T74.setTop (mkF m 9 #[.val (.ref o0), .val (.long q1), .second] [(.long (sz / (128 : Int64))), (.long q1)])) _
    refine XT.lcmp X74.here hx rfl (hb hby d6_9) rfl ?_
    exact kt
  refine Got.ite (q := ((sz / (128 : Int64)) < q1)) (fun hc75 => ?_) (fun hc75 => ?_)
  · refine Got.step (T' := T74) (g' := (mkF m 18 #[.val (.ref o0), .val (.long q1), .second] [(.int (0 : Int32))])) (fun tq kt => ?_) ?_
    · show Steps p.tables e below (T74.setTop (mkF m 10 #[.val (.ref o0), .val (.long q1), .second] [(.int (XT.cmpL q1 (sz / (128 : Int64))))])) _
      refine XS.ifYes X74.here hx rfl (pc0 := 10) (pc' := 17) rfl (hb hby d6_10) rfl (XT.ll_gt_t hc75) (by decide) (by decide) ?_
      show Steps p.tables e below (T74.setTop (mkF m 17 #[.val (.ref o0), .val (.long q1), .second] [])) _
      refine XS.iconst X74.here hx rfl (hb hby d6_17) ?_
      exact kt
    exact Got.retN (y := (0 : Int32)) (t := .boolean) X74 hx Bd.returns (by simp) hlk (hb hby d6_18) (by decide) ⟨N0, e74⟩ (by decide) (by decide)
  · refine Got.step (T' := T74) (g' := (mkF m 18 #[.val (.ref o0), .val (.long q1), .second] [(.int (1 : Int32))])) (fun tq kt => ?_) ?_
    · show Steps p.tables e below (T74.setTop (mkF m 10 #[.val (.ref o0), .val (.long q1), .second] [(.int (XT.cmpL q1 (sz / (128 : Int64))))])) _
      refine XS.ifNo X74.here hx rfl (hb hby d6_10) rfl (XT.ll_gt_f hc75) ?_
      show Steps p.tables e below (T74.setTop (mkF m 13 #[.val (.ref o0), .val (.long q1), .second] [])) _
      refine XS.iconst X74.here hx rfl (hb hby d6_13) ?_
      show Steps p.tables e below (T74.setTop (mkF m 14 #[.val (.ref o0), .val (.long q1), .second] [(.int (1 : Int32))])) _
      refine XS.goto X74.here hx rfl (pc0 := 14) (pc' := 18) rfl (hb hby d6_14) (by decide) (by decide) ?_
      exact kt
    exact Got.retN (y := (1 : Int32)) (t := .boolean) X74 hx Bd.returns (by simp) hlk (hb hby d6_18) (by decide) ⟨N0, e74⟩ (by decide) (by decide)
def f7 (q0 : Int64) (q1 : Int64)  : Int32 := (if (0 : Int64) < q1 then (if q1 < (72057594037927936 : Int64) then (if q0 < (q1 <<< ((7 : Int32) &&& 0x3f).toInt64) then (0 : Int32) else (1 : Int32)) else (0 : Int32)) else (1 : Int32))
theorem ef_7 (m : MethodId) (x0 : Int64) (x1 : Int64) : entryFrame m #[(.long x0), (.long x1)] 4 = mkF m 0 #[.val (.long x0), .second, .val (.long x1), .second] [] := by first | (simp [entryFrame, mkF, argsToLocals, Value.category]; done) | rfl
theorem pn_3 : plainName "com/example/hardy_broker/hardybroker/broker/HeapShareDrawsOnAllPinLaw" = true := by first | (simp [plainName, overriddenIn]; done) | decide +kernel
theorem d7_0 : decode method_2_code 0 = .ok (.lload_n 2, 1) := by decide +kernel
theorem d7_1 : decode method_2_code 1 = .ok (.lconst 0, 1) := by decide +kernel
theorem d7_2 : decode method_2_code 2 = .ok (.lcmp, 1) := by decide +kernel
theorem d7_3 : decode method_2_code 3 = .ok (.ifCond .gt 5, 3) := by decide +kernel
theorem d7_6 : decode method_2_code 6 = .ok (.iconst 1, 1) := by decide +kernel
theorem d7_7 : decode method_2_code 7 = .ok (.ireturn, 1) := by decide +kernel
theorem d7_8 : decode method_2_code 8 = .ok (.lload_n 2, 1) := by decide +kernel
theorem d7_9 : decode method_2_code 9 = .ok (.ldc2_w 7, 3) := by decide +kernel
theorem d7_12 : decode method_2_code 12 = .ok (.lcmp, 1) := by decide +kernel
theorem d7_13 : decode method_2_code 13 = .ok (.ifCond .lt 5, 3) := by decide +kernel
theorem d7_16 : decode method_2_code 16 = .ok (.iconst 0, 1) := by decide +kernel
theorem d7_17 : decode method_2_code 17 = .ok (.ireturn, 1) := by decide +kernel
theorem d7_18 : decode method_2_code 18 = .ok (.lload_n 2, 1) := by decide +kernel
theorem d7_19 : decode method_2_code 19 = .ok (.bipush 7, 2) := by decide +kernel
theorem d7_21 : decode method_2_code 21 = .ok (.lshl, 1) := by decide +kernel
theorem d7_22 : decode method_2_code 22 = .ok (.lload_n 0, 1) := by decide +kernel
theorem d7_23 : decode method_2_code 23 = .ok (.lcmp, 1) := by decide +kernel
theorem d7_24 : decode method_2_code 24 = .ok (.ifCond .gt 7, 3) := by decide +kernel
theorem d7_27 : decode method_2_code 27 = .ok (.iconst 1, 1) := by decide +kernel
theorem d7_28 : decode method_2_code 28 = .ok (.goto 4, 3) := by decide +kernel
theorem d7_31 : decode method_2_code 31 = .ok (.iconst 0, 1) := by decide +kernel
theorem d7_32 : decode method_2_code 32 = .ok (.ireturn, 1) := by decide +kernel
set_option maxRecDepth 65536 in
set_option maxHeartbeats 40000000 in
theorem rm7 (l : Launch) (Z : State) (a0 : Array Value) (hw : ∀ d ∈ tables_1, d.before a0 Z = true) (ws : List Jvm.Cond) (q0 : Int64) (q1 : Int64) (h0 : Heap) (n0 : Nat) (Z0 : n0 ≤ h0.size)  :
    MetFree l (⟨"com/example/hardy_broker/hardybroker/broker/HeapShareDrawsOnAllPinLaw", "reference", "(JJ)Z"⟩ : MethodName) (head1 (Jvm.Cond.code (⟨"com/example/hardy_broker/hardybroker/broker/HeapShareDrawsOnAllPinLaw", "reference", "(JJ)Z"⟩ : MethodName) method_2_code 4 (some .boolean) :: ws) ({ frames := 0, cells := 0, slots := 0, locals := 0 } : Room)) (fun a U => a = #[(.long q0), (.long q1)] ∧ Z.Warmed39 U.vm ∧ U.heap = h0) (fun _ _ _ _ _ => True) (fun _ U o U' => ∃ v L, o = .returned v ∧ QV (some (.int (f7 q0 q1))) (PureP n0 h0) v U'.heap L ∧ FrameEnd U o U' L ({ frames := 0, cells := 0, slots := 0, locals := 0 } : Room).cells ({ frames := 0, cells := 0, slots := 0, locals := 0 } : Room).slots) := by
  refine MetFree.of_bodySF (plainFor_of_name pn_3) hisR ?_
  intro p e s m args below meth c s₁ Bd hml0 hP hK
  obtain ⟨rfl, hZ, hh⟩ := hP
  have hx := Bd.exec
  have hby := Bd.bytes
  have hml : c.maxLocals = 4 := hml0
  have hown : s.vm.findClass "com/example/hardy_broker/hardybroker/broker/HeapShareDrawsOnAllPinLaw" = some m.cls := findClass_of_methodNamed Bd.named
  have hnm := (name_of_methodNamed Bd.named Bd.method).1
  have hlk : meth.locks = false := BodyLoose.notSynchronized Bd
  have X0 : Stand p l e ({ frames := 0, cells := 0, slots := 0, locals := 0 } : Room) s m #[(.long q0), (.long q1)] below meth c s₁ [] 0 0 := Stand.of_body Bd
  have e0 : s₁.heap = h0 := by rw [← hh, Bd.state]; rfl
  have N0 := Fr.nil n0
  refine Got.body (ef_7 m q0 q1) ?_
  refine Got.step (T' := s₁) (g' := (mkF m 3 #[.val (.long q0), .second, .val (.long q1), .second] [(.int (XT.cmpL q1 (0 : Int64)))])) (fun tq kt => ?_) ?_
  · show Steps p.tables e below (s₁.setTop (mkF m 0 #[.val (.long q0), .second, .val (.long q1), .second] [])) _
    refine XS.lloadN X0.here hx rfl (hb hby d7_0) rfl ?_
    show Steps p.tables e below (s₁.setTop (mkF m 1 #[.val (.long q0), .second, .val (.long q1), .second] [(.long q1)])) _
    refine XS.lconst X0.here hx rfl (hb hby d7_1) ?_
    show Steps p.tables e below (s₁.setTop (mkF m 2 #[.val (.long q0), .second, .val (.long q1), .second] [(.long (0 : Int64)), (.long q1)])) _
    refine XT.lcmp X0.here hx rfl (hb hby d7_2) rfl ?_
    exact kt
  refine Got.ite (q := ((0 : Int64) < q1)) (fun hc76 => ?_) (fun hc76 => ?_)
  · refine Got.step (T' := s₁) (g' := (mkF m 13 #[.val (.long q0), .second, .val (.long q1), .second] [(.int (XT.cmpL q1 (72057594037927936 : Int64)))])) (fun tq kt => ?_) ?_
    · show Steps p.tables e below (s₁.setTop (mkF m 3 #[.val (.long q0), .second, .val (.long q1), .second] [(.int (XT.cmpL q1 (0 : Int64)))])) _
      refine XS.ifYes X0.here hx rfl (pc0 := 3) (pc' := 8) rfl (hb hby d7_3) rfl (XT.ll_gt_t hc76) (by decide) (by decide) ?_
      show Steps p.tables e below (s₁.setTop (mkF m 8 #[.val (.long q0), .second, .val (.long q1), .second] [])) _
      refine XS.lloadN X0.here hx rfl (hb hby d7_8) rfl ?_
      show Steps p.tables e below (s₁.setTop (mkF m 9 #[.val (.long q0), .second, .val (.long q1), .second] [(.long q1)])) _
      refine X0.ldc2J hx hown (mvT hZ (hw _ (List.mem_of_getElem? (i := 50) rfl))) rfl (hb hby d7_9) ?_
      show Steps p.tables e below (s₁.setTop (mkF m 12 #[.val (.long q0), .second, .val (.long q1), .second] [(.long (72057594037927936 : Int64)), (.long q1)])) _
      refine XT.lcmp X0.here hx rfl (hb hby d7_12) rfl ?_
      exact kt
    refine Got.ite (q := (q1 < (72057594037927936 : Int64))) (fun hc77 => ?_) (fun hc77 => ?_)
    · refine Got.step (T' := s₁) (g' := (mkF m 24 #[.val (.long q0), .second, .val (.long q1), .second] [(.int (XT.cmpL (q1 <<< ((7 : Int32) &&& 0x3f).toInt64) q0))])) (fun tq kt => ?_) ?_
      · show Steps p.tables e below (s₁.setTop (mkF m 13 #[.val (.long q0), .second, .val (.long q1), .second] [(.int (XT.cmpL q1 (72057594037927936 : Int64)))])) _
        refine XS.ifYes X0.here hx rfl (pc0 := 13) (pc' := 18) rfl (hb hby d7_13) rfl (XT.ll_lt_t hc77) (by decide) (by decide) ?_
        show Steps p.tables e below (s₁.setTop (mkF m 18 #[.val (.long q0), .second, .val (.long q1), .second] [])) _
        refine XS.lloadN X0.here hx rfl (hb hby d7_18) rfl ?_
        show Steps p.tables e below (s₁.setTop (mkF m 19 #[.val (.long q0), .second, .val (.long q1), .second] [(.long q1)])) _
        refine XS.bipush X0.here hx rfl (hb hby d7_19) ?_
        show Steps p.tables e below (s₁.setTop (mkF m 21 #[.val (.long q0), .second, .val (.long q1), .second] [(.int (7 : Int32)), (.long q1)])) _
        refine XS.lshl X0.here hx rfl (hb hby d7_21) rfl ?_
        show Steps p.tables e below (s₁.setTop (mkF m 22 #[.val (.long q0), .second, .val (.long q1), .second] [(.long (q1 <<< ((7 : Int32) &&& 0x3f).toInt64))])) _
        refine XS.lloadN X0.here hx rfl (hb hby d7_22) rfl ?_
        show Steps p.tables e below (s₁.setTop (mkF m 23 #[.val (.long q0), .second, .val (.long q1), .second] [(.long q0), (.long (q1 <<< ((7 : Int32) &&& 0x3f).toInt64))])) _
        refine XT.lcmp X0.here hx rfl (hb hby d7_23) rfl ?_
        exact kt
      refine Got.ite (q := (q0 < (q1 <<< ((7 : Int32) &&& 0x3f).toInt64))) (fun hc78 => ?_) (fun hc78 => ?_)
      · refine Got.step (T' := s₁) (g' := (mkF m 32 #[.val (.long q0), .second, .val (.long q1), .second] [(.int (0 : Int32))])) (fun tq kt => ?_) ?_
        · show Steps p.tables e below (s₁.setTop (mkF m 24 #[.val (.long q0), .second, .val (.long q1), .second] [(.int (XT.cmpL (q1 <<< ((7 : Int32) &&& 0x3f).toInt64) q0))])) _
          refine XS.ifYes X0.here hx rfl (pc0 := 24) (pc' := 31) rfl (hb hby d7_24) rfl (XT.ll_gt_t hc78) (by decide) (by decide) ?_
          show Steps p.tables e below (s₁.setTop (mkF m 31 #[.val (.long q0), .second, .val (.long q1), .second] [])) _
          refine XS.iconst X0.here hx rfl (hb hby d7_31) ?_
          exact kt
        exact Got.retN (y := (0 : Int32)) (t := .boolean) X0 hx Bd.returns (by simp) hlk (hb hby d7_32) (by decide) ⟨N0, e0⟩ (by decide) (by decide)
      · refine Got.step (T' := s₁) (g' := (mkF m 32 #[.val (.long q0), .second, .val (.long q1), .second] [(.int (1 : Int32))])) (fun tq kt => ?_) ?_
        · show Steps p.tables e below (s₁.setTop (mkF m 24 #[.val (.long q0), .second, .val (.long q1), .second] [(.int (XT.cmpL (q1 <<< ((7 : Int32) &&& 0x3f).toInt64) q0))])) _
          refine XS.ifNo X0.here hx rfl (hb hby d7_24) rfl (XT.ll_gt_f hc78) ?_
          show Steps p.tables e below (s₁.setTop (mkF m 27 #[.val (.long q0), .second, .val (.long q1), .second] [])) _
          refine XS.iconst X0.here hx rfl (hb hby d7_27) ?_
          show Steps p.tables e below (s₁.setTop (mkF m 28 #[.val (.long q0), .second, .val (.long q1), .second] [(.int (1 : Int32))])) _
          refine XS.goto X0.here hx rfl (pc0 := 28) (pc' := 32) rfl (hb hby d7_28) (by decide) (by decide) ?_
          exact kt
        exact Got.retN (y := (1 : Int32)) (t := .boolean) X0 hx Bd.returns (by simp) hlk (hb hby d7_32) (by decide) ⟨N0, e0⟩ (by decide) (by decide)
    · refine Got.step (T' := s₁) (g' := (mkF m 17 #[.val (.long q0), .second, .val (.long q1), .second] [(.int (0 : Int32))])) (fun tq kt => ?_) ?_
      · show Steps p.tables e below (s₁.setTop (mkF m 13 #[.val (.long q0), .second, .val (.long q1), .second] [(.int (XT.cmpL q1 (72057594037927936 : Int64)))])) _
        refine XS.ifNo X0.here hx rfl (hb hby d7_13) rfl (XT.ll_lt_f hc77) ?_
        show Steps p.tables e below (s₁.setTop (mkF m 16 #[.val (.long q0), .second, .val (.long q1), .second] [])) _
        refine XS.iconst X0.here hx rfl (hb hby d7_16) ?_
        exact kt
      exact Got.retN (y := (0 : Int32)) (t := .boolean) X0 hx Bd.returns (by simp) hlk (hb hby d7_17) (by decide) ⟨N0, e0⟩ (by decide) (by decide)
  · refine Got.step (T' := s₁) (g' := (mkF m 7 #[.val (.long q0), .second, .val (.long q1), .second] [(.int (1 : Int32))])) (fun tq kt => ?_) ?_
    · show Steps p.tables e below (s₁.setTop (mkF m 3 #[.val (.long q0), .second, .val (.long q1), .second] [(.int (XT.cmpL q1 (0 : Int64)))])) _
      refine XS.ifNo X0.here hx rfl (hb hby d7_3) rfl (XT.ll_gt_f hc76) ?_
      show Steps p.tables e below (s₁.setTop (mkF m 6 #[.val (.long q0), .second, .val (.long q1), .second] [])) _
      refine XS.iconst X0.here hx rfl (hb hby d7_6) ?_
      exact kt
    exact Got.retN (y := (1 : Int32)) (t := .boolean) X0 hx Bd.returns (by simp) hlk (hb hby d7_7) (by decide) ⟨N0, e0⟩ (by decide) (by decide)
theorem own_fin (q0 h : Int64) : (f6 h (q0 &&& (9223372036854775807 : Int64))) = (f7 (q0 &&& (9223372036854775807 : Int64)) h) := by
  have e := c_maskL q0 9223372036854775807 63 (by decide) (by decide)
  generalize (q0 &&& (9223372036854775807 : Int64)) = s at e ⊢
  have z0 : (0 : Int64).toInt = 0 := rfl
  have z1 : (72057594037927936 : Int64).toInt = 72057594037927936 := rfl
  have d := (c_ldiv s 128 128 rfl (by decide)).1 (by omega)
  have sh := c_lshl h 7 7 (by decide)
  have r1 := Int64.le_toInt (h <<< ((7 : Int32) &&& 0x3f).toInt64)
  have r2 := Int64.toInt_lt (h <<< ((7 : Int32) &&& 0x3f).toInt64)
  have b := Int64.toInt_lt s
  have A : s / 128 < h ↔ s.toInt / 128 < h.toInt := by rw [Int64.lt_iff_toInt_lt, d]
  have B : s < (h <<< ((7 : Int32) &&& 0x3f).toInt64) ↔ s.toInt < (h <<< ((7 : Int32) &&& 0x3f).toInt64).toInt := Int64.lt_iff_toInt_lt
  unfold f6 f7
  by_cases h0 : (0 : Int64) < h
  · rw [if_pos h0]
    rw [Int64.lt_iff_toInt_lt, z0] at h0
    by_cases h1 : h < (72057594037927936 : Int64)
    · rw [if_pos h1]
      rw [Int64.lt_iff_toInt_lt, z1] at h1
      by_cases h2 : s < (h <<< ((7 : Int32) &&& 0x3f).toInt64)
      · rw [if_pos h2, if_pos (A.mpr (by have := B.mp h2; omega))]
      · rw [if_neg h2, if_neg (fun x => h2 (B.mpr (by have := A.mp x; omega)))]
    · rw [if_neg h1]
      rw [Int64.lt_iff_toInt_lt, z1] at h1
      rw [if_pos (A.mpr (by omega))]
  · rw [if_neg h0]
    rw [Int64.lt_iff_toInt_lt, z0] at h0
    rw [if_neg (fun x => by have := A.mp x; omega)]

theorem pd_2 : parseMethodDescriptor "(JJI)V" = some ⟨[.long, .long, .int], none⟩ := by decide +kernel
theorem pd_3 : parseMethodDescriptor "(J)Z" = some ⟨[.long], some .boolean⟩ := by decide +kernel
theorem pd_4 : parseMethodDescriptor "(JJ)Z" = some ⟨[.long, .long], some .boolean⟩ := by decide +kernel
theorem ef_0 (m : MethodId) (x0 : Int64) (x1 : Int64) (x2 : Int64) (x3 : Int32) (x4 : Int32) : entryFrame m #[(.long x0), (.long x1), (.long x2), (.int x3), (.int x4)] maxLocals = mkF m 0 #[.val (.long x0), .second, .val (.long x1), .second, .val (.long x2), .second, .val (.int x3), .val (.int x4), .unset, .unset, .unset, .unset, .unset, .unset] [] := by first | (simp [entryFrame, mkF, argsToLocals, Value.category, maxLocals]; done) | rfl
set_option maxRecDepth 65536 in
set_option maxHeartbeats 40000000 in
theorem rm0 (l : Launch) (Z : State) (a0 : Array Value) (hw : ∀ d ∈ tables_1, d.before a0 Z = true) (ws : List Jvm.Cond) (q0 q1 q2 : Int64) (p3 p4 : Int32) (h0 : Heap) (n0 : Nat) (Z0 : n0 ≤ h0.size)  :
    MetFree l x (head1 (Jvm.Cond.code x code maxLocals ret :: ws) room_1) (fun a U => a = #[(.long q0), (.long q1), (.long q2), (.int p3), (.int p4)] ∧ Z.Warmed39 U.vm ∧ U.heap = h0) (fun _ _ _ _ _ => True) (fun _ U o U' => ∃ v L, o = .returned v ∧ QV (some (.int (1 : Int32))) (fun _ L => Fr n0 L) v U'.heap L ∧ FrameEnd U o U' L room_1.cells room_1.slots) := by
  refine MetFree.of_bodySF (plainFor_of_name pn_3) hisR ?_
  intro p e s m args below meth c s₁ Bd hml0 hP hK
  obtain ⟨rfl, hZ, hh⟩ := hP
  have hx := Bd.exec
  have hby := Bd.bytes
  have hml : c.maxLocals = 14 := hml0
  have hown : s.vm.findClass "com/example/hardy_broker/hardybroker/broker/HeapShareDrawsOnAllPinLaw" = some m.cls := findClass_of_methodNamed Bd.named
  have hnm := (name_of_methodNamed Bd.named Bd.method).1
  have hlk : meth.locks = false := BodyLoose.notSynchronized Bd
  have X0 : Stand p l e room_1 s m #[(.long q0), (.long q1), (.long q2), (.int p3), (.int p4)] below meth c s₁ [] 0 0 := Stand.of_body Bd
  have e0 : s₁.heap = h0 := by rw [← hh, Bd.state]; rfl
  have N0 := Fr.nil n0
  refine Got.body (ef_0 m q0 q1 q2 p3 p4) ?_
  refine Got.step (T' := s₁) (g' := (mkF m 11 #[.val (.long q0), .second, .val (.long q1), .second, .val (.long q2), .second, .val (.int p3), .val (.int p4), .val (.long (q0 &&& (9223372036854775807 : Int64))), .second, .unset, .unset, .unset, .unset] [(.int (p4 &&& (1 : Int32)))])) (fun tq kt => ?_) ?_
  · show Steps p.tables e below (s₁.setTop (mkF m 0 #[.val (.long q0), .second, .val (.long q1), .second, .val (.long q2), .second, .val (.int p3), .val (.int p4), .unset, .unset, .unset, .unset, .unset, .unset] [])) _
    refine XS.lloadN X0.here hx rfl (hb hby at_0) rfl ?_
    show Steps p.tables e below (s₁.setTop (mkF m 1 #[.val (.long q0), .second, .val (.long q1), .second, .val (.long q2), .second, .val (.int p3), .val (.int p4), .unset, .unset, .unset, .unset, .unset, .unset] [(.long q0)])) _
    refine X0.ldc2J hx hown (mvT hZ (hw _ (List.mem_of_getElem? (i := 0) rfl))) rfl (hb hby at_1) ?_
    show Steps p.tables e below (s₁.setTop (mkF m 4 #[.val (.long q0), .second, .val (.long q1), .second, .val (.long q2), .second, .val (.int p3), .val (.int p4), .unset, .unset, .unset, .unset, .unset, .unset] [(.long (9223372036854775807 : Int64)), (.long q0)])) _
    refine XS.land X0.here hx rfl (hb hby at_4) rfl ?_
    show Steps p.tables e below (s₁.setTop (mkF m 5 #[.val (.long q0), .second, .val (.long q1), .second, .val (.long q2), .second, .val (.int p3), .val (.int p4), .unset, .unset, .unset, .unset, .unset, .unset] [(.long (q0 &&& (9223372036854775807 : Int64)))])) _
    refine XS.lstore X0.here hx rfl (hb hby at_5) rfl (l' := #[.val (.long q0), .second, .val (.long q1), .second, .val (.long q2), .second, .val (.int p3), .val (.int p4), .val (.long (q0 &&& (9223372036854775807 : Int64))), .second, .unset, .unset, .unset, .unset]) rfl ?_
    show Steps p.tables e below (s₁.setTop (mkF m 7 #[.val (.long q0), .second, .val (.long q1), .second, .val (.long q2), .second, .val (.int p3), .val (.int p4), .val (.long (q0 &&& (9223372036854775807 : Int64))), .second, .unset, .unset, .unset, .unset] [])) _
    refine XS.iload X0.here hx rfl (hb hby at_7) rfl ?_
    show Steps p.tables e below (s₁.setTop (mkF m 9 #[.val (.long q0), .second, .val (.long q1), .second, .val (.long q2), .second, .val (.int p3), .val (.int p4), .val (.long (q0 &&& (9223372036854775807 : Int64))), .second, .unset, .unset, .unset, .unset] [(.int p4)])) _
    refine XS.iconst X0.here hx rfl (hb hby at_9) ?_
    show Steps p.tables e below (s₁.setTop (mkF m 10 #[.val (.long q0), .second, .val (.long q1), .second, .val (.long q2), .second, .val (.int p3), .val (.int p4), .val (.long (q0 &&& (9223372036854775807 : Int64))), .second, .unset, .unset, .unset, .unset] [(.int (1 : Int32)), (.int p4)])) _
    refine XS.iand X0.here hx rfl (hb hby at_10) rfl ?_
    exact kt
  have J79 : ∀ (v79_10 : Int64), v79_10 = (if (p4 &&& (1 : Int32)) = 0 then ((((q0 &&& (9223372036854775807 : Int64)) >>> ((7 : Int32) &&& 0x3f).toInt64) + (((p4 >>> ((1 : Int32) &&& 31)) &&& (7 : Int32)).toInt64)) - (4 : Int64)) else q1) → Got p e below s (fun _ L => Fr n0 L) room_1.cells room_1.slots (some (.int (1 : Int32))) s₁ (mkF m 40 #[.val (.long q0), .second, .val (.long q1), .second, .val (.long q2), .second, .val (.int p3), .val (.int p4), .val (.long (q0 &&& (9223372036854775807 : Int64))), .second, .val (.long v79_10), .second, .unset, .unset] []) := by
    intro v79_10 hv79_10
    obtain ⟨T81, h81, X81, e81, E81, A81, D81, -, st81⟩ := newO X0 hx hZ hown (hw _ (List.mem_of_getElem? (i := 1) rfl)) (hw _ (List.mem_of_getElem? (i := 2) rfl)) (hw _ (List.mem_of_getElem? (i := 3) rfl)) e0 (g := (mkF m 40 #[.val (.long q0), .second, .val (.long q1), .second, .val (.long q2), .second, .val (.int p3), .val (.int p4), .val (.long (q0 &&& (9223372036854775807 : Int64))), .second, .val (.long v79_10), .second, .unset, .unset] [])) rfl (hb hby at_40) (by decide) (by decide)
    obtain ⟨b81, g81⟩ : ∃ z, z = h0.size := ⟨_, rfl⟩
    rw [← g81] at A81 D81 st81
    have gn_b81 : n0 ≤ b81 := by rw [g81]; exact Z0
    have Z0_82 : n0 ≤ h81.size := (Nat.le_trans Z0 E81.1)
    have F81_holdersByArray : Fld Z h81 b81 "com/example/hardy_broker/hardybroker/broker/HeapShare" "holdersByArray" "Ljava/util/Map;" .null := D81 (Or.inr (hw _ (List.mem_of_getElem? (i := 33) rfl))) (ty := (.object "java/util/Map")) (by decide)
    have F81_size : Fld Z h81 b81 "com/example/hardy_broker/hardybroker/broker/HeapShare" "size" "J" (.long (0 : Int64)) := D81 (Or.inr (hw _ (List.mem_of_getElem? (i := 35) rfl))) (ty := .long) (by decide)
    have F81_allowance : Fld Z h81 b81 "com/example/hardy_broker/hardybroker/broker/HeapShare" "allowance" "J" (.long (0 : Int64)) := D81 (Or.inr (hw _ (List.mem_of_getElem? (i := 37) rfl))) (ty := .long) (by decide)
    have F81_overhead : Fld Z h81 b81 "com/example/hardy_broker/hardybroker/broker/HeapShare" "overhead" "I" (.int (0 : Int32)) := D81 (Or.inr (hw _ (List.mem_of_getElem? (i := 39) rfl))) (ty := .int) (by decide)
    refine Got.step st81 ?_
    show Got p e below s _ _ _ _ T81 (mkF m 43 #[.val (.long q0), .second, .val (.long q1), .second, .val (.long q2), .second, .val (.int p3), .val (.int p4), .val (.long (q0 &&& (9223372036854775807 : Int64))), .second, .val (.long v79_10), .second, .unset, .unset] [(.ref b81)])
    refine Got.step (T' := T81) (g' := (mkF m 50 #[.val (.long q0), .second, .val (.long q1), .second, .val (.long q2), .second, .val (.int p3), .val (.int p4), .val (.long (q0 &&& (9223372036854775807 : Int64))), .second, .val (.long v79_10), .second, .unset, .unset] [(.int p3), (.long q2), (.long (q0 &&& (9223372036854775807 : Int64))), (.ref b81), (.ref b81)])) (fun tq kt => ?_) ?_
    · show Steps p.tables e below (T81.setTop (mkF m 43 #[.val (.long q0), .second, .val (.long q1), .second, .val (.long q2), .second, .val (.int p3), .val (.int p4), .val (.long (q0 &&& (9223372036854775807 : Int64))), .second, .val (.long v79_10), .second, .unset, .unset] [(.ref b81)])) _
      refine XS.dup X81.here hx rfl (hb hby at_43) rfl rfl ?_
      show Steps p.tables e below (T81.setTop (mkF m 44 #[.val (.long q0), .second, .val (.long q1), .second, .val (.long q2), .second, .val (.int p3), .val (.int p4), .val (.long (q0 &&& (9223372036854775807 : Int64))), .second, .val (.long v79_10), .second, .unset, .unset] [(.ref b81), (.ref b81)])) _
      refine XS.lload X81.here hx rfl (hb hby at_44) rfl ?_
      show Steps p.tables e below (T81.setTop (mkF m 46 #[.val (.long q0), .second, .val (.long q1), .second, .val (.long q2), .second, .val (.int p3), .val (.int p4), .val (.long (q0 &&& (9223372036854775807 : Int64))), .second, .val (.long v79_10), .second, .unset, .unset] [(.long (q0 &&& (9223372036854775807 : Int64))), (.ref b81), (.ref b81)])) _
      refine XS.lload X81.here hx rfl (hb hby at_46) rfl ?_
      show Steps p.tables e below (T81.setTop (mkF m 48 #[.val (.long q0), .second, .val (.long q1), .second, .val (.long q2), .second, .val (.int p3), .val (.int p4), .val (.long (q0 &&& (9223372036854775807 : Int64))), .second, .val (.long v79_10), .second, .unset, .unset] [(.long q2), (.long (q0 &&& (9223372036854775807 : Int64))), (.ref b81), (.ref b81)])) _
      refine XS.iload X81.here hx rfl (hb hby at_48) rfl ?_
      exact kt
    obtain ⟨_, _, ⟨T83, L83, k83, n83⟩, -, X83, ⟨Lc83, hQ83, l83, y83, z83⟩, st83⟩ := X81.specialBack hx (y := (⟨"com/example/hardy_broker/hardybroker/broker/HeapShare", "<init>", "(JJI)V"⟩ : MethodName)) rfl hown (mvT hZ (hw _ (List.mem_of_getElem? (i := 4) rfl))) (mvT hZ (hw _ (List.mem_of_getElem? (i := 5) rfl))) (mvT hZ (hw _ (List.mem_of_getElem? (i := 6) rfl))) (by decide) (backOf (W := 1) (rm1 l Z a0 hw [] b81 (q0 &&& (9223372036854775807 : Int64)) q2 p3 h81 n0 Z0_82 gn_b81 A81 F81_holdersByArray F81_size F81_allowance F81_overhead ) hZ (hw _ (List.mem_of_getElem? (i := 6) rfl)) (hw _ (List.mem_of_getElem? (i := 3) rfl)) (by decide) (by decide)) (g := (mkF m 50 #[.val (.long q0), .second, .val (.long q1), .second, .val (.long q2), .second, .val (.int p3), .val (.int p4), .val (.long (q0 &&& (9223372036854775807 : Int64))), .second, .val (.long v79_10), .second, .unset, .unset] [(.int p3), (.long q2), (.long (q0 &&& (9223372036854775807 : Int64))), (.ref b81), (.ref b81)])) rfl (by rw [hml]; rfl) (Steps.refl _) (a := b81) (argsL := [(.long (q0 &&& (9223372036854775807 : Int64))), (.long q2), (.int p3)]) (rest := [(.ref b81)]) (lenOf pd_2 rfl) rfl (by show 2 * 0 + _ ≤ _; exact Nat.le_of_eq rfl) (hb hby at_50) (fun _ _ => ⟨rfl, e81, (by decide : 1 + 2 ≤ _), (by decide : 5 + 70 ≤ _)⟩)
    dsimp only [Pt.U, Pt.locs, Pt.cells, Pt.slots] at X83 l83 y83 z83 st83 hQ83
    subst l83 y83 z83
    obtain ⟨h83, e83⟩ : ∃ z, T83.heap = z := ⟨_, rfl⟩
    rw [e83] at hQ83
    obtain ⟨rfl, Nq83, K83, E83, G83_size⟩ := hQ83
    have N83 := Fr.app N0 Nq83
    have Z0_84 : n0 ≤ h83.size := (Nat.le_trans Z0_82 K83.1)
    have A81_85 : Exa Z h83 b81 "com/example/hardy_broker/hardybroker/broker/HeapShare" := (A81.keep K83)
    refine Got.hop st83 ?_
    show Got p e below s _ _ _ _ T83 (mkF m 53 #[.val (.long q0), .second, .val (.long q1), .second, .val (.long q2), .second, .val (.int p3), .val (.int p4), .val (.long (q0 &&& (9223372036854775807 : Int64))), .second, .val (.long v79_10), .second, .unset, .unset] [(.ref b81)])
    refine Got.step (T' := T83) (g' := (mkF m 59 #[.val (.long q0), .second, .val (.long q1), .second, .val (.long q2), .second, .val (.int p3), .val (.int p4), .val (.long (q0 &&& (9223372036854775807 : Int64))), .second, .val (.long v79_10), .second, .val (.ref b81), .unset] [(.long v79_10), (.ref b81)])) (fun tq kt => ?_) ?_
    · show Steps p.tables e below (T83.setTop (mkF m 53 #[.val (.long q0), .second, .val (.long q1), .second, .val (.long q2), .second, .val (.int p3), .val (.int p4), .val (.long (q0 &&& (9223372036854775807 : Int64))), .second, .val (.long v79_10), .second, .unset, .unset] [(.ref b81)])) _
      refine XS.astore X83.here hx rfl (hb hby at_53) rfl rfl (l' := #[.val (.long q0), .second, .val (.long q1), .second, .val (.long q2), .second, .val (.int p3), .val (.int p4), .val (.long (q0 &&& (9223372036854775807 : Int64))), .second, .val (.long v79_10), .second, .val (.ref b81), .unset]) rfl ?_
      show Steps p.tables e below (T83.setTop (mkF m 55 #[.val (.long q0), .second, .val (.long q1), .second, .val (.long q2), .second, .val (.int p3), .val (.int p4), .val (.long (q0 &&& (9223372036854775807 : Int64))), .second, .val (.long v79_10), .second, .val (.ref b81), .unset] [])) _
      refine XS.aload X83.here hx rfl (hb hby at_55) rfl rfl ?_
      show Steps p.tables e below (T83.setTop (mkF m 57 #[.val (.long q0), .second, .val (.long q1), .second, .val (.long q2), .second, .val (.int p3), .val (.int p4), .val (.long (q0 &&& (9223372036854775807 : Int64))), .second, .val (.long v79_10), .second, .val (.ref b81), .unset] [(.ref b81)])) _
      refine XS.lload X83.here hx rfl (hb hby at_57) rfl ?_
      exact kt
    obtain ⟨cq86, kq86, qa86, qb86, qc86⟩ := isOf hZ e83 A81_85
    obtain ⟨_, _, ⟨T86, L86, k86, n86⟩, -, X86, ⟨Lc86, hQ86, l86, y86, z86⟩, st86⟩ := X83.virtualBack hx (y := (⟨"com/example/hardy_broker/hardybroker/broker/HeapShare", "drawsOnAll", "(J)Z"⟩ : MethodName)) (z := (⟨"com/example/hardy_broker/hardybroker/broker/HeapShare", "drawsOnAll", "(J)Z"⟩ : MethodName)) hown (mvT hZ (hw _ (List.mem_of_getElem? (i := 40) rfl))) (mvT hZ (hw _ (List.mem_of_getElem? (i := 41) rfl))) (notFace_of_selects (args := #[]) (mvT hZ (hw _ (List.mem_of_getElem? (i := 43) rfl)))) (mvT hZ (hw _ (List.mem_of_getElem? (i := 43) rfl))) (mvT hZ (hw _ (List.mem_of_getElem? (i := 42) rfl))) (by decide) (backOf (W := 0) (rm6 l Z a0 hw [] b81 v79_10 (q0 &&& (9223372036854775807 : Int64)) h83 n0 Z0_84 A81_85 G83_size ) hZ (hw _ (List.mem_of_getElem? (i := 44) rfl)) (hw _ (List.mem_of_getElem? (i := 3) rfl)) (by decide) (by decide)) qa86 qc86 (g := (mkF m 59 #[.val (.long q0), .second, .val (.long q1), .second, .val (.long q2), .second, .val (.int p3), .val (.int p4), .val (.long (q0 &&& (9223372036854775807 : Int64))), .second, .val (.long v79_10), .second, .val (.ref b81), .unset] [(.long v79_10), (.ref b81)])) rfl (by rw [hml]; rfl) (Steps.refl _) (argsL := [(.long v79_10)]) (rest := []) (lenOf pd_3 rfl) rfl (by show 2 * 0 + _ ≤ _; exact Nat.le_of_eq rfl) (hb hby at_59) (fun _ _ => ⟨rfl, e83, (by decide : 3 + 0 ≤ _), (by decide : 75 + 0 ≤ _)⟩)
    dsimp only [Pt.U, Pt.locs, Pt.cells, Pt.slots] at X86 l86 y86 z86 st86 hQ86
    subst l86 y86 z86
    obtain ⟨rfl, Nq86, e86⟩ := hQ86
    have N86 := Fr.app N83 Nq86
    refine Got.hop st86 ?_
    show Got p e below s _ _ _ _ T86 (mkF m 62 #[.val (.long q0), .second, .val (.long q1), .second, .val (.long q2), .second, .val (.int p3), .val (.int p4), .val (.long (q0 &&& (9223372036854775807 : Int64))), .second, .val (.long v79_10), .second, .val (.ref b81), .unset] [(.int (f6 v79_10 (q0 &&& (9223372036854775807 : Int64))))])
    refine Got.step (T' := T86) (g' := (mkF m 70 #[.val (.long q0), .second, .val (.long q1), .second, .val (.long q2), .second, .val (.int p3), .val (.int p4), .val (.long (q0 &&& (9223372036854775807 : Int64))), .second, .val (.long v79_10), .second, .val (.ref b81), .val (.int (f6 v79_10 (q0 &&& (9223372036854775807 : Int64))))] [(.long v79_10), (.long (q0 &&& (9223372036854775807 : Int64))), (.int (f6 v79_10 (q0 &&& (9223372036854775807 : Int64))))])) (fun tq kt => ?_) ?_
    · show Steps p.tables e below (T86.setTop (mkF m 62 #[.val (.long q0), .second, .val (.long q1), .second, .val (.long q2), .second, .val (.int p3), .val (.int p4), .val (.long (q0 &&& (9223372036854775807 : Int64))), .second, .val (.long v79_10), .second, .val (.ref b81), .unset] [(.int (f6 v79_10 (q0 &&& (9223372036854775807 : Int64))))])) _
      refine XS.istore X86.here hx rfl (hb hby at_62) rfl (l' := #[.val (.long q0), .second, .val (.long q1), .second, .val (.long q2), .second, .val (.int p3), .val (.int p4), .val (.long (q0 &&& (9223372036854775807 : Int64))), .second, .val (.long v79_10), .second, .val (.ref b81), .val (.int (f6 v79_10 (q0 &&& (9223372036854775807 : Int64))))]) rfl ?_
      show Steps p.tables e below (T86.setTop (mkF m 64 #[.val (.long q0), .second, .val (.long q1), .second, .val (.long q2), .second, .val (.int p3), .val (.int p4), .val (.long (q0 &&& (9223372036854775807 : Int64))), .second, .val (.long v79_10), .second, .val (.ref b81), .val (.int (f6 v79_10 (q0 &&& (9223372036854775807 : Int64))))] [])) _
      refine XS.iload X86.here hx rfl (hb hby at_64) rfl ?_
      show Steps p.tables e below (T86.setTop (mkF m 66 #[.val (.long q0), .second, .val (.long q1), .second, .val (.long q2), .second, .val (.int p3), .val (.int p4), .val (.long (q0 &&& (9223372036854775807 : Int64))), .second, .val (.long v79_10), .second, .val (.ref b81), .val (.int (f6 v79_10 (q0 &&& (9223372036854775807 : Int64))))] [(.int (f6 v79_10 (q0 &&& (9223372036854775807 : Int64))))])) _
      refine XS.lload X86.here hx rfl (hb hby at_66) rfl ?_
      show Steps p.tables e below (T86.setTop (mkF m 68 #[.val (.long q0), .second, .val (.long q1), .second, .val (.long q2), .second, .val (.int p3), .val (.int p4), .val (.long (q0 &&& (9223372036854775807 : Int64))), .second, .val (.long v79_10), .second, .val (.ref b81), .val (.int (f6 v79_10 (q0 &&& (9223372036854775807 : Int64))))] [(.long (q0 &&& (9223372036854775807 : Int64))), (.int (f6 v79_10 (q0 &&& (9223372036854775807 : Int64))))])) _
      refine XS.lload X86.here hx rfl (hb hby at_68) rfl ?_
      exact kt
    obtain ⟨_, _, ⟨T87, L87, k87, n87⟩, -, X87, ⟨Lc87, hQ87, l87, y87, z87⟩, st87⟩ := Jvm.LawKit.callS X86 hx (y := (⟨"com/example/hardy_broker/hardybroker/broker/HeapShareDrawsOnAllPinLaw", "reference", "(JJ)Z"⟩ : MethodName)) hown (mvT hZ (hw _ (List.mem_of_getElem? (i := 46) rfl))) (mvT hZ (hw _ (List.mem_of_getElem? (i := 47) rfl))) (mvT hZ (hw _ (List.mem_of_getElem? (i := 48) rfl))) (mvT hZ (hw _ (List.mem_of_getElem? (i := 49) rfl))) (by decide) (backOf (W := 1) (rm7 l Z a0 hw [] (q0 &&& (9223372036854775807 : Int64)) v79_10 h83 n0 Z0_84) hZ (hw _ (List.mem_of_getElem? (i := 49) rfl)) (hw _ (List.mem_of_getElem? (i := 48) rfl)) (by decide) (by decide)) (g := (mkF m 70 #[.val (.long q0), .second, .val (.long q1), .second, .val (.long q2), .second, .val (.int p3), .val (.int p4), .val (.long (q0 &&& (9223372036854775807 : Int64))), .second, .val (.long v79_10), .second, .val (.ref b81), .val (.int (f6 v79_10 (q0 &&& (9223372036854775807 : Int64))))] [(.long v79_10), (.long (q0 &&& (9223372036854775807 : Int64))), (.int (f6 v79_10 (q0 &&& (9223372036854775807 : Int64))))])) rfl (by rw [hml]; rfl) (argsL := [(.long (q0 &&& (9223372036854775807 : Int64))), (.long v79_10)]) (rest := [(.int (f6 v79_10 (q0 &&& (9223372036854775807 : Int64))))]) (lenOf pd_4 rfl) rfl (by show 2 * 0 + _ ≤ _; exact Nat.le_of_eq rfl) (hb hby at_70) (fun _ _ => ⟨rfl, e86, (by decide : 3 + 0 ≤ _), (by decide : 75 + 0 ≤ _)⟩)
    dsimp only [Pt.U, Pt.locs, Pt.cells, Pt.slots] at X87 l87 y87 z87 st87 hQ87
    subst l87 y87 z87
    obtain ⟨rfl, Nq87, e87⟩ := hQ87
    have N87 := Fr.app N86 Nq87
    refine Got.step st87 ?_
    show Got p e below s _ _ _ _ T87 (mkF m 73 #[.val (.long q0), .second, .val (.long q1), .second, .val (.long q2), .second, .val (.int p3), .val (.int p4), .val (.long (q0 &&& (9223372036854775807 : Int64))), .second, .val (.long v79_10), .second, .val (.ref b81), .val (.int (f6 v79_10 (q0 &&& (9223372036854775807 : Int64))))] [(.int (f7 (q0 &&& (9223372036854775807 : Int64)) v79_10)), (.int (f6 v79_10 (q0 &&& (9223372036854775807 : Int64))))])
    refine Got.step (T' := T87) (g' := (mkF m 81 #[.val (.long q0), .second, .val (.long q1), .second, .val (.long q2), .second, .val (.int p3), .val (.int p4), .val (.long (q0 &&& (9223372036854775807 : Int64))), .second, .val (.long v79_10), .second, .val (.ref b81), .val (.int (f6 v79_10 (q0 &&& (9223372036854775807 : Int64))))] [(.int (1 : Int32))])) (fun tq kt => ?_) ?_
    · show Steps p.tables e below (T87.setTop (mkF m 73 #[.val (.long q0), .second, .val (.long q1), .second, .val (.long q2), .second, .val (.int p3), .val (.int p4), .val (.long (q0 &&& (9223372036854775807 : Int64))), .second, .val (.long v79_10), .second, .val (.ref b81), .val (.int (f6 v79_10 (q0 &&& (9223372036854775807 : Int64))))] [(.int (f7 (q0 &&& (9223372036854775807 : Int64)) v79_10)), (.int (f6 v79_10 (q0 &&& (9223372036854775807 : Int64))))])) _
      refine XS.icmpNo X87.here hx rfl (hb hby at_73) rfl (XT.ii_ne_f (own_fin q0 _)) ?_
      show Steps p.tables e below (T87.setTop (mkF m 76 #[.val (.long q0), .second, .val (.long q1), .second, .val (.long q2), .second, .val (.int p3), .val (.int p4), .val (.long (q0 &&& (9223372036854775807 : Int64))), .second, .val (.long v79_10), .second, .val (.ref b81), .val (.int (f6 v79_10 (q0 &&& (9223372036854775807 : Int64))))] [])) _
      refine XS.iconst X87.here hx rfl (hb hby at_76) ?_
      show Steps p.tables e below (T87.setTop (mkF m 77 #[.val (.long q0), .second, .val (.long q1), .second, .val (.long q2), .second, .val (.int p3), .val (.int p4), .val (.long (q0 &&& (9223372036854775807 : Int64))), .second, .val (.long v79_10), .second, .val (.ref b81), .val (.int (f6 v79_10 (q0 &&& (9223372036854775807 : Int64))))] [(.int (1 : Int32))])) _
      refine XS.goto X87.here hx rfl (pc0 := 77) (pc' := 81) rfl (hb hby at_77) (by decide) (by decide) ?_
      exact kt
    exact Got.retN (y := (1 : Int32)) (t := .boolean) X87 hx Bd.returns (by simp) hlk (hb hby at_81) (by decide) N87 (by decide) (by decide)
  by_cases hc80 : ((p4 &&& (1 : Int32)) = 0)
  · refine Got.step (T' := s₁) (g' := (mkF m 40 #[.val (.long q0), .second, .val (.long q1), .second, .val (.long q2), .second, .val (.int p3), .val (.int p4), .val (.long (q0 &&& (9223372036854775807 : Int64))), .second, .val (.long ((((q0 &&& (9223372036854775807 : Int64)) >>> ((7 : Int32) &&& 0x3f).toInt64) + (((p4 >>> ((1 : Int32) &&& 31)) &&& (7 : Int32)).toInt64)) - (4 : Int64))), .second, .unset, .unset] [])) (fun tq kt => ?_) ?_
    · show Steps p.tables e below (s₁.setTop (mkF m 11 #[.val (.long q0), .second, .val (.long q1), .second, .val (.long q2), .second, .val (.int p3), .val (.int p4), .val (.long (q0 &&& (9223372036854775807 : Int64))), .second, .unset, .unset, .unset, .unset] [(.int (p4 &&& (1 : Int32)))])) _
      refine XS.ifYes X0.here hx rfl (pc0 := 11) (pc' := 20) rfl (hb hby at_11) rfl (XT.i0_eq_t hc80) (by decide) (by decide) ?_
      show Steps p.tables e below (s₁.setTop (mkF m 20 #[.val (.long q0), .second, .val (.long q1), .second, .val (.long q2), .second, .val (.int p3), .val (.int p4), .val (.long (q0 &&& (9223372036854775807 : Int64))), .second, .unset, .unset, .unset, .unset] [])) _
      refine XS.lload X0.here hx rfl (hb hby at_20) rfl ?_
      show Steps p.tables e below (s₁.setTop (mkF m 22 #[.val (.long q0), .second, .val (.long q1), .second, .val (.long q2), .second, .val (.int p3), .val (.int p4), .val (.long (q0 &&& (9223372036854775807 : Int64))), .second, .unset, .unset, .unset, .unset] [(.long (q0 &&& (9223372036854775807 : Int64)))])) _
      refine XS.bipush X0.here hx rfl (hb hby at_22) ?_
      show Steps p.tables e below (s₁.setTop (mkF m 24 #[.val (.long q0), .second, .val (.long q1), .second, .val (.long q2), .second, .val (.int p3), .val (.int p4), .val (.long (q0 &&& (9223372036854775807 : Int64))), .second, .unset, .unset, .unset, .unset] [(.int (7 : Int32)), (.long (q0 &&& (9223372036854775807 : Int64)))])) _
      refine XS.lshr X0.here hx rfl (hb hby at_24) rfl ?_
      show Steps p.tables e below (s₁.setTop (mkF m 25 #[.val (.long q0), .second, .val (.long q1), .second, .val (.long q2), .second, .val (.int p3), .val (.int p4), .val (.long (q0 &&& (9223372036854775807 : Int64))), .second, .unset, .unset, .unset, .unset] [(.long ((q0 &&& (9223372036854775807 : Int64)) >>> ((7 : Int32) &&& 0x3f).toInt64))])) _
      refine XS.iload X0.here hx rfl (hb hby at_25) rfl ?_
      show Steps p.tables e below (s₁.setTop (mkF m 27 #[.val (.long q0), .second, .val (.long q1), .second, .val (.long q2), .second, .val (.int p3), .val (.int p4), .val (.long (q0 &&& (9223372036854775807 : Int64))), .second, .unset, .unset, .unset, .unset] [(.int p4), (.long ((q0 &&& (9223372036854775807 : Int64)) >>> ((7 : Int32) &&& 0x3f).toInt64))])) _
      refine XS.iconst X0.here hx rfl (hb hby at_27) ?_
      show Steps p.tables e below (s₁.setTop (mkF m 28 #[.val (.long q0), .second, .val (.long q1), .second, .val (.long q2), .second, .val (.int p3), .val (.int p4), .val (.long (q0 &&& (9223372036854775807 : Int64))), .second, .unset, .unset, .unset, .unset] [(.int (1 : Int32)), (.int p4), (.long ((q0 &&& (9223372036854775807 : Int64)) >>> ((7 : Int32) &&& 0x3f).toInt64))])) _
      refine XS.ishr X0.here hx rfl (hb hby at_28) rfl ?_
      show Steps p.tables e below (s₁.setTop (mkF m 29 #[.val (.long q0), .second, .val (.long q1), .second, .val (.long q2), .second, .val (.int p3), .val (.int p4), .val (.long (q0 &&& (9223372036854775807 : Int64))), .second, .unset, .unset, .unset, .unset] [(.int (p4 >>> ((1 : Int32) &&& 31))), (.long ((q0 &&& (9223372036854775807 : Int64)) >>> ((7 : Int32) &&& 0x3f).toInt64))])) _
      refine XS.bipush X0.here hx rfl (hb hby at_29) ?_
      show Steps p.tables e below (s₁.setTop (mkF m 31 #[.val (.long q0), .second, .val (.long q1), .second, .val (.long q2), .second, .val (.int p3), .val (.int p4), .val (.long (q0 &&& (9223372036854775807 : Int64))), .second, .unset, .unset, .unset, .unset] [(.int (7 : Int32)), (.int (p4 >>> ((1 : Int32) &&& 31))), (.long ((q0 &&& (9223372036854775807 : Int64)) >>> ((7 : Int32) &&& 0x3f).toInt64))])) _
      refine XS.iand X0.here hx rfl (hb hby at_31) rfl ?_
      show Steps p.tables e below (s₁.setTop (mkF m 32 #[.val (.long q0), .second, .val (.long q1), .second, .val (.long q2), .second, .val (.int p3), .val (.int p4), .val (.long (q0 &&& (9223372036854775807 : Int64))), .second, .unset, .unset, .unset, .unset] [(.int ((p4 >>> ((1 : Int32) &&& 31)) &&& (7 : Int32))), (.long ((q0 &&& (9223372036854775807 : Int64)) >>> ((7 : Int32) &&& 0x3f).toInt64))])) _
      refine XS.i2l X0.here hx rfl (hb hby at_32) rfl ?_
      show Steps p.tables e below (s₁.setTop (mkF m 33 #[.val (.long q0), .second, .val (.long q1), .second, .val (.long q2), .second, .val (.int p3), .val (.int p4), .val (.long (q0 &&& (9223372036854775807 : Int64))), .second, .unset, .unset, .unset, .unset] [(.long (((p4 >>> ((1 : Int32) &&& 31)) &&& (7 : Int32)).toInt64)), (.long ((q0 &&& (9223372036854775807 : Int64)) >>> ((7 : Int32) &&& 0x3f).toInt64))])) _
      refine XS.ladd X0.here hx rfl (hb hby at_33) rfl ?_
      show Steps p.tables e below (s₁.setTop (mkF m 34 #[.val (.long q0), .second, .val (.long q1), .second, .val (.long q2), .second, .val (.int p3), .val (.int p4), .val (.long (q0 &&& (9223372036854775807 : Int64))), .second, .unset, .unset, .unset, .unset] [(.long (((q0 &&& (9223372036854775807 : Int64)) >>> ((7 : Int32) &&& 0x3f).toInt64) + (((p4 >>> ((1 : Int32) &&& 31)) &&& (7 : Int32)).toInt64)))])) _
      refine X0.ldc2J hx hown (mvT hZ (hw _ (List.mem_of_getElem? (i := 51) rfl))) rfl (hb hby at_34) ?_
      show Steps p.tables e below (s₁.setTop (mkF m 37 #[.val (.long q0), .second, .val (.long q1), .second, .val (.long q2), .second, .val (.int p3), .val (.int p4), .val (.long (q0 &&& (9223372036854775807 : Int64))), .second, .unset, .unset, .unset, .unset] [(.long (4 : Int64)), (.long (((q0 &&& (9223372036854775807 : Int64)) >>> ((7 : Int32) &&& 0x3f).toInt64) + (((p4 >>> ((1 : Int32) &&& 31)) &&& (7 : Int32)).toInt64)))])) _
      refine XS.lsub X0.here hx rfl (hb hby at_37) rfl ?_
      show Steps p.tables e below (s₁.setTop (mkF m 38 #[.val (.long q0), .second, .val (.long q1), .second, .val (.long q2), .second, .val (.int p3), .val (.int p4), .val (.long (q0 &&& (9223372036854775807 : Int64))), .second, .unset, .unset, .unset, .unset] [(.long ((((q0 &&& (9223372036854775807 : Int64)) >>> ((7 : Int32) &&& 0x3f).toInt64) + (((p4 >>> ((1 : Int32) &&& 31)) &&& (7 : Int32)).toInt64)) - (4 : Int64)))])) _
      refine XS.lstore X0.here hx rfl (hb hby at_38) rfl (l' := #[.val (.long q0), .second, .val (.long q1), .second, .val (.long q2), .second, .val (.int p3), .val (.int p4), .val (.long (q0 &&& (9223372036854775807 : Int64))), .second, .val (.long ((((q0 &&& (9223372036854775807 : Int64)) >>> ((7 : Int32) &&& 0x3f).toInt64) + (((p4 >>> ((1 : Int32) &&& 31)) &&& (7 : Int32)).toInt64)) - (4 : Int64))), .second, .unset, .unset]) rfl ?_
      exact kt
    exact J79 ((((q0 &&& (9223372036854775807 : Int64)) >>> ((7 : Int32) &&& 0x3f).toInt64) + (((p4 >>> ((1 : Int32) &&& 31)) &&& (7 : Int32)).toInt64)) - (4 : Int64)) (if_pos hc80).symm
  · refine Got.step (T' := s₁) (g' := (mkF m 40 #[.val (.long q0), .second, .val (.long q1), .second, .val (.long q2), .second, .val (.int p3), .val (.int p4), .val (.long (q0 &&& (9223372036854775807 : Int64))), .second, .val (.long q1), .second, .unset, .unset] [])) (fun tq kt => ?_) ?_
    · show Steps p.tables e below (s₁.setTop (mkF m 11 #[.val (.long q0), .second, .val (.long q1), .second, .val (.long q2), .second, .val (.int p3), .val (.int p4), .val (.long (q0 &&& (9223372036854775807 : Int64))), .second, .unset, .unset, .unset, .unset] [(.int (p4 &&& (1 : Int32)))])) _
      refine XS.ifNo X0.here hx rfl (hb hby at_11) rfl (XT.i0_eq_f hc80) ?_
      show Steps p.tables e below (s₁.setTop (mkF m 14 #[.val (.long q0), .second, .val (.long q1), .second, .val (.long q2), .second, .val (.int p3), .val (.int p4), .val (.long (q0 &&& (9223372036854775807 : Int64))), .second, .unset, .unset, .unset, .unset] [])) _
      refine XS.lloadN X0.here hx rfl (hb hby at_14) rfl ?_
      show Steps p.tables e below (s₁.setTop (mkF m 15 #[.val (.long q0), .second, .val (.long q1), .second, .val (.long q2), .second, .val (.int p3), .val (.int p4), .val (.long (q0 &&& (9223372036854775807 : Int64))), .second, .unset, .unset, .unset, .unset] [(.long q1)])) _
      refine XS.lstore X0.here hx rfl (hb hby at_15) rfl (l' := #[.val (.long q0), .second, .val (.long q1), .second, .val (.long q2), .second, .val (.int p3), .val (.int p4), .val (.long (q0 &&& (9223372036854775807 : Int64))), .second, .val (.long q1), .second, .unset, .unset]) rfl ?_
      show Steps p.tables e below (s₁.setTop (mkF m 17 #[.val (.long q0), .second, .val (.long q1), .second, .val (.long q2), .second, .val (.int p3), .val (.int p4), .val (.long (q0 &&& (9223372036854775807 : Int64))), .second, .val (.long q1), .second, .unset, .unset] [])) _
      refine XS.goto X0.here hx rfl (pc0 := 17) (pc' := 40) rfl (hb hby at_17) (by decide) (by decide) ?_
      exact kt
    exact J79 q1 (if_neg hc80).symm
set_option maxRecDepth 65536 in
set_option maxHeartbeats 40000000 in
theorem comes_1 {Post : Tables → Env → Array Value → State → Outcome → State → Prop} (hpost : ∀ tb e args s v u, (limb_1_1.after args s (.returned v) u = true ∧ limb_1_2.after args s (.returned v) u = true ∧ True) → FrameEnd s (.returned v) u (Jvm.fieldLocs frame_1_writes args s ++ Jvm.arrayLocs frame_1_arrays args s ++ Jvm.staticLocs frame_1_statics s) 16 256 → Post tb e args s (.returned v) u) :
    ArmFor flags0 classFile x code maxLocals ret World_1 tables_1 room_1 Calls_1 rest_1 Pre_1 Post := by
  intro l hfl _ _ p e ha hc hk s m args below hf hA hF happ hP
  obtain ⟨hcalls, hrest, hpre⟩ := hP
  obtain ⟨-, -, -, hnamed, -, -, -, hat⟩ := (Spec.applies_iff hf).mp happ
  obtain ⟨hg, hn⟩ := and_e (Cond.before_iff.mp (show (Jvm.Cond.and given_1 narrow_1).before args s = true from hpre))
  obtain ⟨h1, g0⟩ := and_e hg
  obtain ⟨c0, g1⟩ := and_e g0
  obtain ⟨c1, g2⟩ := and_e g1
  obtain ⟨c2, g3⟩ := and_e g2
  obtain ⟨c3, g4⟩ := and_e g3
  obtain ⟨w0, w1, w2, w3, w4, rfl⟩ : ∃ w0 w1 w2 w3 w4 : Value, args = #[w0, w1, w2, w3, w4] := by
    have hs : args.size = 5 := by simpa [Cond.value, given_1] using h1
    obtain ⟨L⟩ := args
    match L, hs with
    | [w0, w1, w2, w3, w4], _ => exact ⟨w0, w1, w2, w3, w4, rfl⟩
  have hw := fun d (hd : d ∈ tables_1) => atoms_spec (ws := Jvm.Cond.code x code maxLocals ret :: tables_1) hat d (List.mem_cons_of_mem _ hd)
  obtain ⟨i0, e0⟩ := isL_v c0
  obtain rfl : w0 = (.long i0) := Option.some.inj e0
  obtain ⟨i1, e1⟩ := isL_v c1
  obtain rfl : w1 = (.long i1) := Option.some.inj e1
  obtain ⟨i2, e2⟩ := isL_v c2
  obtain rfl : w2 = (.long i2) := Option.some.inj e2
  obtain ⟨i3, e3⟩ := is_v c3
  obtain rfl : w3 = (.int i3) := Option.some.inj e3
  obtain ⟨i4, e4⟩ := is_v g4
  obtain rfl : w4 = (.int i4) := Option.some.inj e4
  obtain ⟨n, o, h1, h2, h3, vq, L, rfl, ⟨hv, N⟩, hq⟩ := rm0 l s _ hw tables_1 i0 i1 i2 i3 i4  s.heap s.heap.size (Nat.le_refl _) p e ha hc hk s m _ below hf ((Spec.applies_iff_loose hf).mp happ).1 ⟨rfl, State.Warmed39.refl s, rfl⟩ trivial
  subst hv
  refine ⟨n, _, h1, h2, h3, hpost _ _ _ _ _ _ ⟨Cond.after_iff.mpr rfl, Cond.after_iff.mpr (eq_i res_at (Term.int_eval (1)) rfl), trivial⟩ ⟨hq.1, hq.2.1, (hq.2.2.sift fun y hy => Or.inr (N y hy)).mono (by decide) (by decide)⟩⟩
theorem main_1_1 : Claimed_1_1 := comes_1 fun _ _ _ _ _ _ h hF => ⟨h.1, hF⟩
theorem main_1_2 : Claimed_1_2 := comes_1 fun _ _ _ _ _ _ h hF => ⟨h.2.1, hF⟩
end Jvm.Pilot.@@N@@
namespace Jvm.Pilot.@@N@@
open Jvm Jvm.ClassFile Sem Op Lib Jvm.Free Jvm.Stand Jvm.Pilot.@@N@@.Jvm.D
/-! MADE BY PROGRAM (witnessworld.py) out of the Statement's table words and the real class files: 13 classes; the members and pool entries that the words name. The judged class is class 1, her method 2. -/
namespace start1
open Jvm.ClassFile
def u (s : String) : CpInfo := .utf8 (stringToUtf16 s)
/-- a pool by its gaps: so many unusable entries, then the entry; so many at the end -/
def gap : Nat → List CpInfo → List CpInfo
  | 0, r => r
  | n + 1, r => .unusable :: gap n r
def poolList (es : List (Nat × CpInfo)) (last : Nat) : List CpInfo := es.foldr (fun e r => gap e.1 (e.2 :: r)) (gap last [])
def pool (es : List (Nat × CpInfo)) (last : Nat) : Array CpInfo := ⟨poolList es last⟩
def fileOf (pool : Array CpInfo) (this : Nat) (attrs : Array Attribute := #[]) (ms : Array MethodInfo := #[]) (fl : Nat := 33) (sup : Nat := 0) (ifs : Array Nat := #[]) (fds : Array FieldInfo := #[]) : ClassFile where
  minorVersion := 0
  majorVersion := 65
  constantPool := pool
  accessFlags := fl
  thisClass := this
  superClass := sup
  interfaces := ifs
  fields := fds
  methods := ms
  attributes := attrs
def plain (name : String) (sup : Option ClassId) : Class where
  name := name
  kind := .ordinary
  loader := none
  accessFlags := 33
  super := sup
  interfaces := #[]
  cf := none
  fields := #[]
  methods := #[]
  instanceTypes := #[]
  staticTypes := #[]
  resolved := #[]
  callSites := []
  init := .initialized
  statics := none
  mirror := none

def pool0 : Array CpInfo := pool [(5, u "<init>"), (0, u "()V"), (1, .class_ 10), (1, u "java/lang/Object")] 113

def k0c0 : Code := { maxStack := 0, maxLocals := 1, code := object_method_1_code, exceptionTable := #[], attributes := #[] }
def k0m0 : Method := { name := "<init>", desc := "()V", sig := { parameters := [], returnType := none }, accessFlags := 1, code := some k0c0 }
/-- java/lang/Object -/
def k0 : Class := { plain "java/lang/Object" none with
  accessFlags := 33
  interfaces := #[]
  cf := some (fileOf pool0 8 #[] #[{ accessFlags := 1, nameIndex := 5, descriptorIndex := 6, attributes := #[] }] 33 0 #[] #[])
  fields := #[]
  methods := #[k0m0]
  instanceTypes := #[]
  staticTypes := #[]
  resolved := Array.replicate 124 none
  statics := none }

def pool1 : Array CpInfo := pool [(2, .class_ 4), (1, u "java/lang/Object"), (0, u "<init>"), (0, u "()V"), (0, .long 72057594037927936), (3, .long 9223372036854775807), (1, .long 4), (1, .class_ 16), (0, u "com/example/hardy_broker/hardybroker/broker/HeapShare"), (0, .methodref 15 18), (0, .nameAndType 5 19), (0, u "(JJI)V"), (0, .methodref 15 21), (0, .nameAndType 22 23), (0, u "drawsOnAll"), (0, u "(J)Z"), (0, .methodref 25 26), (0, .class_ 27), (0, .nameAndType 28 29), (0, u "com/example/hardy_broker/hardybroker/broker/HeapShareDrawsOnAllPinLaw"), (0, u "reference"), (0, u "(JJ)Z"), (3, u "law"), (0, u "(JJJII)Z")] 2

def k1m0 : Method := { name := "<init>", desc := "()V", sig := { parameters := [], returnType := none }, accessFlags := 2, code := none }
def k1c1 : Code := { maxStack := 4, maxLocals := 4, code := method_2_code, exceptionTable := #[], attributes := #[] }
def k1m1 : Method := { name := "reference", desc := "(JJ)Z", sig := { parameters := [.long, .long], returnType := some .boolean }, accessFlags := 10, code := some k1c1 }
def k1c2 : Code := { maxStack := 7, maxLocals := 14, code := code, exceptionTable := #[], attributes := #[] }
def k1m2 : Method := { name := "law", desc := "(JJJII)Z", sig := { parameters := [.long, .long, .long, .int, .int], returnType := some .boolean }, accessFlags := 9, code := some k1c2 }
/-- com/example/hardy_broker/hardybroker/broker/HeapShareDrawsOnAllPinLaw -/
def k1 : Class := { plain "com/example/hardy_broker/hardybroker/broker/HeapShareDrawsOnAllPinLaw" (some 0) with
  accessFlags := 49
  interfaces := #[]
  cf := some (fileOf pool1 25 #[] #[{ accessFlags := 2, nameIndex := 5, descriptorIndex := 6, attributes := #[] }, { accessFlags := 10, nameIndex := 28, descriptorIndex := 29, attributes := #[] }, { accessFlags := 9, nameIndex := 33, descriptorIndex := 34, attributes := #[] }] 49 2 #[] #[])
  fields := #[]
  methods := #[k1m0, k1m1, k1m2]
  instanceTypes := #[]
  staticTypes := #[]
  resolved := Array.replicate 37 none
  statics := none }

def pool2 : Array CpInfo := pool [(1, .methodref 2 3), (0, .class_ 4), (0, .nameAndType 5 6), (0, u "java/lang/Object"), (0, u "<init>"), (0, u "()V"), (0, .class_ 8), (0, u "java/util/IdentityHashMap"), (0, .methodref 7 3), (0, .fieldref 11 12), (0, .class_ 13), (0, .nameAndType 14 15), (0, u "com/example/hardy_broker/hardybroker/broker/HeapShare"), (0, u "holdersByArray"), (0, u "Ljava/util/Map;"), (0, .fieldref 11 17), (0, .nameAndType 18 19), (0, u "size"), (0, u "J"), (0, .fieldref 11 21), (0, .nameAndType 22 19), (0, u "allowance"), (0, .fieldref 11 24), (0, .nameAndType 25 26), (0, u "overhead"), (0, u "I"), (12, u "held"), (4, .long 128), (3, u "drawsOnAll"), (0, u "(J)Z"), (22, u "SMALL_HOLDING_PARTS"), (3, u "(JJI)V")] 17

def k2c0 : Code := { maxStack := 3, maxLocals := 6, code := prog_7_method_1_code, exceptionTable := #[], attributes := #[] }
def k2m0 : Method := { name := "<init>", desc := "(JJI)V", sig := { parameters := [.long, .long, .int], returnType := none }, accessFlags := 1, code := some k2c0 }
def k2c1 : Code := { maxStack := 6, maxLocals := 3, code := prog_7_method_6_code, exceptionTable := #[], attributes := #[] }
def k2m1 : Method := { name := "drawsOnAll", desc := "(J)Z", sig := { parameters := [.long], returnType := some .boolean }, accessFlags := 1, code := some k2c1 }
/-- com/example/hardy_broker/hardybroker/broker/HeapShare -/
def k2 : Class := { plain "com/example/hardy_broker/hardybroker/broker/HeapShare" (some 0) with
  accessFlags := 49
  interfaces := #[]
  cf := some (fileOf pool2 11 #[] #[{ accessFlags := 1, nameIndex := 5, descriptorIndex := 76, attributes := #[] }, { accessFlags := 1, nameIndex := 48, descriptorIndex := 49, attributes := #[] }] 49 2 #[] #[{ accessFlags := 26, nameIndex := 72, descriptorIndex := 19, attributes := #[] }, { accessFlags := 18, nameIndex := 18, descriptorIndex := 19, attributes := #[] }, { accessFlags := 18, nameIndex := 22, descriptorIndex := 19, attributes := #[] }, { accessFlags := 18, nameIndex := 25, descriptorIndex := 26, attributes := #[] }, { accessFlags := 18, nameIndex := 14, descriptorIndex := 15, attributes := #[] }, { accessFlags := 2, nameIndex := 39, descriptorIndex := 19, attributes := #[] }])
  fields := #[{ name := "SMALL_HOLDING_PARTS", type := .long, accessFlags := 26, slot := 0, constantValue := 0 }, { name := "size", type := .long, accessFlags := 18, slot := 0, constantValue := 0 }, { name := "allowance", type := .long, accessFlags := 18, slot := 1, constantValue := 0 }, { name := "overhead", type := .int, accessFlags := 18, slot := 2, constantValue := 0 }, { name := "holdersByArray", type := (.object "java/util/Map"), accessFlags := 18, slot := 3, constantValue := 0 }, { name := "held", type := .long, accessFlags := 2, slot := 4, constantValue := 0 }]
  methods := #[k2m0, k2m1]
  instanceTypes := #[.long, .long, .int, (.object "java/util/Map"), .long]
  staticTypes := #[.long]
  resolved := Array.replicate 94 none
  statics := none }

def pool3 : Array CpInfo := pool [(2, .class_ 4), (1, u "java/util/Map"), (31, .class_ 37), (0, u "java/util/Map$Entry"), (55, .class_ 94), (0, u "java/lang/Object")] 168

/-- java/util/Map -/
def k3 : Class := { plain "java/util/Map" (some 0) with
  accessFlags := 1537
  interfaces := #[]
  cf := some (fileOf pool3 2 #[.nestMembers #[36]] #[] 1537 93 #[] #[])
  fields := #[]
  methods := #[]
  instanceTypes := #[]
  staticTypes := #[]
  resolved := Array.replicate 263 none
  statics := none }

def pool4 : Array CpInfo := pool [(1, .methodref 2 3), (0, .class_ 4), (0, .nameAndType 5 6), (0, u "java/lang/Object"), (0, u "<init>"), (0, u "()V"), (1, .class_ 10), (1, u "java/util/AbstractMap"), (42, .class_ 54), (0, u "java/util/Map"), (9, u "keySet"), (0, u "Ljava/util/Set;"), (0, .class_ 67), (0, u "java/util/AbstractMap$1"), (5, u "values"), (0, u "Ljava/util/Collection;"), (0, .class_ 76), (0, u "java/util/AbstractMap$2"), (104, .class_ 182), (0, u "java/util/AbstractMap$ViewCollection"), (0, .class_ 184), (0, u "java/util/AbstractMap$SimpleImmutableEntry"), (0, .class_ 186), (0, u "java/util/AbstractMap$SimpleEntry"), (0, .class_ 188), (0, u "java/util/AbstractMap$2$1"), (0, .class_ 190), (0, u "java/util/AbstractMap$1$1")] 5

def k4c0 : Code := { maxStack := 1, maxLocals := 1, code := jdk_71_method_1_code, exceptionTable := #[], attributes := #[] }
def k4m0 : Method := { name := "<init>", desc := "()V", sig := { parameters := [], returnType := none }, accessFlags := 4, code := some k4c0 }
/-- java/util/AbstractMap -/
def k4 : Class := { plain "java/util/AbstractMap" (some 0) with
  accessFlags := 1057
  interfaces := #[3]
  cf := some (fileOf pool4 8 #[.nestMembers #[181, 183, 185, 75, 187, 66, 189]] #[{ accessFlags := 4, nameIndex := 5, descriptorIndex := 6, attributes := #[] }] 1057 2 #[53] #[{ accessFlags := 128, nameIndex := 64, descriptorIndex := 65, attributes := #[] }, { accessFlags := 128, nameIndex := 73, descriptorIndex := 74, attributes := #[] }])
  fields := #[{ name := "keySet", type := (.object "java/util/Set"), accessFlags := 128, slot := 0, constantValue := 0 }, { name := "values", type := (.object "java/util/Collection"), accessFlags := 128, slot := 1, constantValue := 0 }]
  methods := #[k4m0]
  instanceTypes := #[(.object "java/util/Set"), (.object "java/util/Collection")]
  staticTypes := #[]
  resolved := Array.replicate 196 none
  statics := none }

def pool5 : Array CpInfo := pool [(1, .class_ 2), (0, u "java/io/Serializable"), (0, .class_ 4), (0, u "java/lang/Object")] 2

/-- java/io/Serializable -/
def k5 : Class := { plain "java/io/Serializable" (some 0) with
  accessFlags := 1537
  interfaces := #[]
  cf := some (fileOf pool5 1 #[] #[] 1537 3 #[] #[])
  fields := #[]
  methods := #[]
  instanceTypes := #[]
  staticTypes := #[]
  resolved := Array.replicate 7 none
  statics := none }

def pool6 : Array CpInfo := pool [(1, .class_ 2), (0, u "java/lang/Cloneable"), (0, .class_ 4), (0, u "java/lang/Object")] 2

/-- java/lang/Cloneable -/
def k6 : Class := { plain "java/lang/Cloneable" (some 0) with
  accessFlags := 1537
  interfaces := #[]
  cf := some (fileOf pool6 1 #[] #[] 1537 3 #[] #[])
  fields := #[]
  methods := #[]
  instanceTypes := #[]
  staticTypes := #[]
  resolved := Array.replicate 7 none
  statics := none }

def pool7 : Array CpInfo := pool [(2, .class_ 4), (1, u "java/util/IdentityHashMap"), (0, u "NULL_KEY"), (0, u "Ljava/lang/Object;"), (0, .methodref 8 9), (0, .class_ 10), (0, .nameAndType 11 12), (0, u "java/util/AbstractMap"), (0, u "<init>"), (0, u "()V"), (0, .methodref 2 14), (0, .nameAndType 15 16), (0, u "init"), (0, u "(I)V"), (32, .class_ 50), (0, u "java/lang/Object"), (0, .fieldref 2 52), (0, .nameAndType 53 54), (0, u "table"), (0, u "[Ljava/lang/Object;"), (1, .class_ 58), (1, u "java/util/Map"), (0, u "size"), (11, u "I"), (24, u "modCount"), (9, u "entrySet"), (50, u "Ljava/util/Set;"), (12, .class_ 171), (0, u "java/util/IdentityHashMap$KeySet"), (7, .class_ 180), (0, u "java/util/IdentityHashMap$Values"), (1, .class_ 183), (0, u "java/util/IdentityHashMap$EntrySet"), (69, .class_ 254), (0, u "java/io/Serializable"), (0, .class_ 256), (0, u "java/lang/Cloneable"), (0, u "DEFAULT_CAPACITY"), (2, u "MINIMUM_CAPACITY"), (1, u "MAXIMUM_CAPACITY"), (2, u "serialVersionUID"), (0, u "J"), (102, .class_ 370), (0, u "java/util/IdentityHashMap$EntrySpliterator"), (0, .class_ 372), (0, u "java/util/IdentityHashMap$ValueSpliterator"), (0, .class_ 374), (0, u "java/util/IdentityHashMap$KeySpliterator"), (0, .class_ 376), (0, u "java/util/IdentityHashMap$IdentityHashMapSpliterator"), (0, .class_ 378), (0, u "java/util/IdentityHashMap$EntryIterator"), (0, .class_ 380), (0, u "java/util/IdentityHashMap$EntryIterator$Entry"), (0, .class_ 382), (0, u "java/util/IdentityHashMap$ValueIterator"), (0, .class_ 384), (0, u "java/util/IdentityHashMap$KeyIterator"), (0, .class_ 386), (0, u "java/util/IdentityHashMap$IdentityHashMapIterator")] 16

def k7c0 : Code := { maxStack := 2, maxLocals := 1, code := jdk_2581_method_3_code, exceptionTable := #[], attributes := #[] }
def k7m0 : Method := { name := "<init>", desc := "()V", sig := { parameters := [], returnType := none }, accessFlags := 1, code := some k7c0 }
def k7c1 : Code := { maxStack := 3, maxLocals := 2, code := jdk_2581_method_6_code, exceptionTable := #[], attributes := #[] }
def k7m1 : Method := { name := "init", desc := "(I)V", sig := { parameters := [.int], returnType := none }, accessFlags := 2, code := some k7c1 }
/-- java/util/IdentityHashMap -/
def k7 : Class := { plain "java/util/IdentityHashMap" (some 4) with
  accessFlags := 33
  interfaces := #[3, 5, 6]
  cf := some (fileOf pool7 2 #[.nestMembers #[369, 371, 373, 375, 182, 179, 170, 377, 379, 381, 383, 385]] #[{ accessFlags := 1, nameIndex := 11, descriptorIndex := 12, attributes := #[] }, { accessFlags := 2, nameIndex := 15, descriptorIndex := 16, attributes := #[] }] 33 8 #[56, 253, 255] #[{ accessFlags := 26, nameIndex := 257, descriptorIndex := 71, attributes := #[] }, { accessFlags := 26, nameIndex := 260, descriptorIndex := 71, attributes := #[] }, { accessFlags := 26, nameIndex := 262, descriptorIndex := 71, attributes := #[] }, { accessFlags := 128, nameIndex := 53, descriptorIndex := 54, attributes := #[] }, { accessFlags := 0, nameIndex := 59, descriptorIndex := 71, attributes := #[] }, { accessFlags := 128, nameIndex := 96, descriptorIndex := 71, attributes := #[] }, { accessFlags := 24, nameIndex := 5, descriptorIndex := 6, attributes := #[] }, { accessFlags := 130, nameIndex := 106, descriptorIndex := 157, attributes := #[] }, { accessFlags := 26, nameIndex := 265, descriptorIndex := 266, attributes := #[] }])
  fields := #[{ name := "DEFAULT_CAPACITY", type := .int, accessFlags := 26, slot := 0, constantValue := 0 }, { name := "MINIMUM_CAPACITY", type := .int, accessFlags := 26, slot := 1, constantValue := 0 }, { name := "MAXIMUM_CAPACITY", type := .int, accessFlags := 26, slot := 2, constantValue := 0 }, { name := "table", type := (.array (.object "java/lang/Object")), accessFlags := 128, slot := 2, constantValue := 0 }, { name := "size", type := .int, accessFlags := 0, slot := 3, constantValue := 0 }, { name := "modCount", type := .int, accessFlags := 128, slot := 4, constantValue := 0 }, { name := "NULL_KEY", type := (.object "java/lang/Object"), accessFlags := 24, slot := 3, constantValue := 0 }, { name := "entrySet", type := (.object "java/util/Set"), accessFlags := 130, slot := 5, constantValue := 0 }, { name := "serialVersionUID", type := .long, accessFlags := 26, slot := 4, constantValue := 0 }]
  methods := #[k7m0, k7m1]
  instanceTypes := #[(.object "java/util/Set"), (.object "java/util/Collection"), (.array (.object "java/lang/Object")), .int, .int, (.object "java/util/Set")]
  staticTypes := #[.int, .int, .int, (.object "java/lang/Object"), .long]
  resolved := Array.replicate 403 none
  statics := none }

/-- the primitive byte -/
def k8 : Class := { plain "byte" none with kind := .primitive 'B', accessFlags := 0x411 }
/-- [B -/
def k9 : Class := { plain "[B" (some 0) with kind := .array 8 .byte, interfaces := #[6, 5], accessFlags := 1041 }

/-- the primitive int -/
def k10 : Class := { plain "int" none with kind := .primitive 'I', accessFlags := 0x411 }
/-- [I -/
def k11 : Class := { plain "[I" (some 0) with kind := .array 10 .int, interfaces := #[6, 5], accessFlags := 1041 }

/-- [Ljava/lang/Object; -/
def k12 : Class := { plain "[Ljava/lang/Object;" (some 0) with kind := .array 0 (.object "java/lang/Object"), interfaces := #[6, 5], accessFlags := 1041 }

def heap : Heap := #[]
def classes : Array Class := #[k0, k1, k2, k3, k4, k5, k6, k7, k8, k9, k10, k11, k12]
def interned : List (Array UInt16 × Addr) := []
def slotsUsed : Nat := 0
def theMethod : MethodId := ⟨1, 2⟩
def args0 : Array Value := #[.long 5, .long 3, .long 9, .int 2, .int 1]
def aboutOver (below : List Frame) : State where
  vm := { classes := classes, interned := interned.toArray }
  heap := heap
  slotsUsed := slotsUsed
  threads := #[{ frames := .invoking theMethod args0 :: below }]
def below0 : List Frame := [.native { method := ⟨0, 0⟩, args := #[] }]
def about1 : State := aboutOver below0
def p0 : Program := .bare "" "" ""
def e0 : Env := launch0.env 0 0 0
theorem w_frames : about1.frames = Frame.invoking theMethod args0 :: below0 := rfl
set_option maxRecDepth 65536 in
theorem w_args : argsFit about1.vm theMethod args0 = true := by decide +kernel
set_option maxRecDepth 65536 in
theorem w_heap : heapFits about1 = true := by decide +kernel
set_option maxRecDepth 65536 in
theorem w_runnable : about1.curStatus? = some .runnable := by decide +kernel
set_option maxRecDepth 65536 in
theorem w_alone : about1.alone = true := by decide +kernel
set_option maxRecDepth 65536 in
theorem w_named : about1.methodNamed? x = some theMethod := by decide +kernel
set_option maxRecDepth 65536 in
theorem w_hears : about1.hears theMethod below0 = true := by decide +kernel
set_option maxRecDepth 65536 in
theorem w_ripe : about1.ripe theMethod args0 below0 = true := by decide +kernel
theorem w_running : about1.status = .running := rfl
set_option maxRecDepth 65536 in
theorem w_room : about1.hasRoom e0.platform room_1 = true :=
  launch0.hasRoom_least _ room_1 (by decide +kernel) (by decide +kernel) (by decide +kernel) (by decide +kernel) (by decide +kernel) (by decide +kernel)
theorem allAtoms_all (ts : List Jvm.Cond) (a : Array Jvm.Value) (st : Jvm.State) : (allAtoms ts).before a st = ts.all (fun c => c.before a st) := by
  induction ts with
  | nil => rfl
  | cons c t ih =>
    show (Jvm.Cond.and c (allAtoms t)).before a st = _
    rw [Jvm.Cond.before_and, ih, List.all_cons]
def words1 : List Jvm.Cond := Jvm.Cond.code x code maxLocals ret :: tables_1
/-- a 'code' word, met by the world's own term for the bytes: nothing is compared byte by byte -/
theorem code_word {y : MethodName} {bytes : ByteArray} {mx : Nat} {rt : Option FieldType} {a : Array Value} {s : State} {m : MethodId} {meth : Method} {c : Code} (h1 : s.methodNamed? y = some m) (h2 : s.vm.method? m = some meth) (h3 : meth.code = some c) (h4 : c.code = bytes)
    (h5 : (c.maxLocals == mx && c.exceptionTable.isEmpty && decide (c.maxStack ≤ mostOperands) && decide (meth.sig.returnType = rt) && !meth.locks && decide (parseMethodDescriptor y.desc = some meth.sig)) = true) : (Jvm.Cond.code y bytes mx rt).before a s = true := by
  simp only [Bool.and_eq_true, beq_iff_eq, Bool.not_eq_true', decide_eq_true_eq] at h5
  obtain ⟨⟨⟨⟨⟨g1, g2⟩, g3⟩, g4⟩, g5⟩, g6⟩ := h5
  simp [Cond.before, Cond.holds, Cond.value, h1, h2, h3, h4, g1, g2, g3, g4, g5, g6]
def isCode : Jvm.Cond → Bool
  | .code _ _ _ _ => true
  | _ => false
theorem all_split {L : List Jvm.Cond} {P : Jvm.Cond → Bool} (h1 : L.all (fun c => isCode c || P c) = true) (h2 : ∀ c ∈ L.filter isCode, P c = true) : L.all P = true := by
  refine List.all_eq_true.mpr fun c hc => ?_
  have h := List.all_eq_true.mp h1 c hc
  rcases Bool.eq_false_or_eq_true (isCode c) with hi | hi
  · exact h2 c (List.mem_filter.mpr ⟨hc, hi⟩)
  · simpa [hi] using h
set_option maxRecDepth 65536 in
theorem w_c0 : (Jvm.Cond.code x code maxLocals ret).before args0 about1 = true := code_word (m := ⟨1, 2⟩) (meth := k1m2) (c := k1c2) (by decide +kernel) rfl rfl rfl (by decide +kernel)
set_option maxRecDepth 65536 in
theorem w_c1 : (Jvm.Cond.code ({ cls := "com/example/hardy_broker/hardybroker/broker/HeapShare", name := "<init>", desc := "(JJI)V" } : Jvm.MethodName) prog_7_method_1_code (6 : Nat) (Option.none : Option Jvm.ClassFile.FieldType)).before args0 about1 = true := code_word (m := ⟨2, 0⟩) (meth := k2m0) (c := k2c0) (by decide +kernel) rfl rfl rfl (by decide +kernel)
set_option maxRecDepth 65536 in
theorem w_c2 : (Jvm.Cond.code ({ cls := "java/lang/Object", name := "<init>", desc := "()V" } : Jvm.MethodName) object_method_1_code (1 : Nat) (Option.none : Option Jvm.ClassFile.FieldType)).before args0 about1 = true := code_word (m := ⟨0, 0⟩) (meth := k0m0) (c := k0c0) (by decide +kernel) rfl rfl rfl (by decide +kernel)
set_option maxRecDepth 65536 in
theorem w_c3 : (Jvm.Cond.code ({ cls := "java/util/IdentityHashMap", name := "<init>", desc := "()V" } : Jvm.MethodName) jdk_2581_method_3_code (1 : Nat) (Option.none : Option Jvm.ClassFile.FieldType)).before args0 about1 = true := code_word (m := ⟨7, 0⟩) (meth := k7m0) (c := k7c0) (by decide +kernel) rfl rfl rfl (by decide +kernel)
set_option maxRecDepth 65536 in
theorem w_c4 : (Jvm.Cond.code ({ cls := "java/util/AbstractMap", name := "<init>", desc := "()V" } : Jvm.MethodName) jdk_71_method_1_code (1 : Nat) (Option.none : Option Jvm.ClassFile.FieldType)).before args0 about1 = true := code_word (m := ⟨4, 0⟩) (meth := k4m0) (c := k4c0) (by decide +kernel) rfl rfl rfl (by decide +kernel)
set_option maxRecDepth 65536 in
theorem w_c5 : (Jvm.Cond.code ({ cls := "java/util/IdentityHashMap", name := "init", desc := "(I)V" } : Jvm.MethodName) jdk_2581_method_6_code (2 : Nat) (Option.none : Option Jvm.ClassFile.FieldType)).before args0 about1 = true := code_word (m := ⟨7, 1⟩) (meth := k7m1) (c := k7c1) (by decide +kernel) rfl rfl rfl (by decide +kernel)
set_option maxRecDepth 65536 in
theorem w_c6 : (Jvm.Cond.code ({ cls := "com/example/hardy_broker/hardybroker/broker/HeapShare", name := "drawsOnAll", desc := "(J)Z" } : Jvm.MethodName) prog_7_method_6_code (3 : Nat) (Option.some Jvm.ClassFile.FieldType.boolean)).before args0 about1 = true := code_word (m := ⟨2, 1⟩) (meth := k2m1) (c := k2c1) (by decide +kernel) rfl rfl rfl (by decide +kernel)
set_option maxRecDepth 65536 in
theorem w_c7 : (Jvm.Cond.code ({ cls := "com/example/hardy_broker/hardybroker/broker/HeapShareDrawsOnAllPinLaw", name := "reference", desc := "(JJ)Z" } : Jvm.MethodName) method_2_code (4 : Nat) (Option.some Jvm.ClassFile.FieldType.boolean)).before args0 about1 = true := code_word (m := ⟨1, 1⟩) (meth := k1m1) (c := k1c1) (by decide +kernel) rfl rfl rfl (by decide +kernel)
def codes1 : List Jvm.Cond := [Jvm.Cond.code x code maxLocals ret, Jvm.Cond.code ({ cls := "com/example/hardy_broker/hardybroker/broker/HeapShare", name := "<init>", desc := "(JJI)V" } : Jvm.MethodName) prog_7_method_1_code (6 : Nat) (Option.none : Option Jvm.ClassFile.FieldType), Jvm.Cond.code ({ cls := "java/lang/Object", name := "<init>", desc := "()V" } : Jvm.MethodName) object_method_1_code (1 : Nat) (Option.none : Option Jvm.ClassFile.FieldType), Jvm.Cond.code ({ cls := "java/util/IdentityHashMap", name := "<init>", desc := "()V" } : Jvm.MethodName) jdk_2581_method_3_code (1 : Nat) (Option.none : Option Jvm.ClassFile.FieldType), Jvm.Cond.code ({ cls := "java/util/AbstractMap", name := "<init>", desc := "()V" } : Jvm.MethodName) jdk_71_method_1_code (1 : Nat) (Option.none : Option Jvm.ClassFile.FieldType), Jvm.Cond.code ({ cls := "java/util/IdentityHashMap", name := "init", desc := "(I)V" } : Jvm.MethodName) jdk_2581_method_6_code (2 : Nat) (Option.none : Option Jvm.ClassFile.FieldType), Jvm.Cond.code ({ cls := "com/example/hardy_broker/hardybroker/broker/HeapShare", name := "drawsOnAll", desc := "(J)Z" } : Jvm.MethodName) prog_7_method_6_code (3 : Nat) (Option.some Jvm.ClassFile.FieldType.boolean), Jvm.Cond.code ({ cls := "com/example/hardy_broker/hardybroker/broker/HeapShareDrawsOnAllPinLaw", name := "reference", desc := "(JJ)Z" } : Jvm.MethodName) method_2_code (4 : Nat) (Option.some Jvm.ClassFile.FieldType.boolean)]
set_option maxRecDepth 65536 in
theorem codes_eq : words1.filter isCode = codes1 := rfl
theorem w_codes : ∀ c ∈ words1.filter isCode, c.before args0 about1 = true := by
  rw [codes_eq]
  intro c hc
  simp only [codes1, List.mem_cons, List.not_mem_nil, or_false] at hc
  rcases hc with rfl | rfl | rfl | rfl | rfl | rfl | rfl | rfl
  · exact w_c0
  · exact w_c1
  · exact w_c2
  · exact w_c3
  · exact w_c4
  · exact w_c5
  · exact w_c6
  · exact w_c7
set_option maxRecDepth 65536 in
theorem w_t1 : (words1.take 24).all (fun c => isCode c || c.before args0 about1) = true := by decide +kernel
set_option maxRecDepth 65536 in
theorem w_t2 : ((words1.drop 24).take 24).all (fun c => isCode c || c.before args0 about1) = true := by decide +kernel
set_option maxRecDepth 65536 in
theorem w_t3 : ((words1.drop 24).drop 24).all (fun c => isCode c || c.before args0 about1) = true := by decide +kernel
theorem w_tables : (allAtoms (Jvm.Cond.code x code maxLocals ret :: tables_1)).before args0 about1 = true := by
  rw [allAtoms_all]
  show words1.all (fun c => c.before args0 about1) = true
  refine all_split ?_ w_codes
  rw [← List.take_append_drop 24 words1, List.all_append, w_t1, ← List.take_append_drop 24 (words1.drop 24), List.all_append, w_t2, w_t3]
  rfl
set_option maxRecDepth 65536 in
theorem w_case : (Jvm.Cond.and given_1 narrow_1).before args0 about1 = true := by decide +kernel
theorem w_applies : (headSpec (Jvm.Cond.code x code maxLocals ret :: tables_1) room_1).applies x e0.platform about1 = true :=
  (Spec.applies_iff w_frames).mpr ⟨w_running, w_runnable, w_alone, w_named, w_hears, w_ripe, w_room, w_tables⟩
theorem atStart : AtStart classFile x code maxLocals ret World_1 tables_1 room_1 Calls_1 rest_1 Pre_1 launch0 p0 e0 about1 theMethod args0 below0 :=
  ⟨lists_1, trivial, launch0.admits_env _ _ _, launch0.least_env, fairChoices_fair.cas, fairChoices_fair.clock, w_frames, w_args, w_heap, w_applies, trivial, trivial, w_case⟩
end start1
theorem witness_1 : WitnessClaimed_1 := ⟨start1.p0, start1.e0, start1.about1, start1.theMethod, start1.args0, start1.below0, start1.atStart⟩
end Jvm.Pilot.@@N@@
