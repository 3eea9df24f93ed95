import JvmDerived
import JvmDerived.Pilot.@@N@@Statement
import JvmDerived.Pilot.@@N@@Code
set_option linter.unusedVariables false
set_option linter.unusedSimpArgs false
namespace Jvm.RoadKit
open Sem ClassFile Op Lib Jvm.Stand Jvm.Free Jvm.LawKit
section New
variable {p : Program} {l : Launch} {e : Env} {R : Room} {s : State} {m : MethodId} {args : Array Value} {below : List Frame} {meth : Method} {c : Code} {T T' : State} {locs : List Loc} {cells slots : Nat}
/-- what a body leaves: the value, and what is known of the heap and of the places written -/
def QV (w : Option Value) (P : Heap → List Loc → Prop) (v : Option Value) (h : Heap) (L : List Loc) : Prop := v = w ∧ P h L
/-- a body that writes nothing -/
def PureP (n0 : Nat) (h0 : Heap) (h : Heap) (L : List Loc) : Prop := Fr n0 L ∧ h = h0
/-- from here the body returns w and leaves P -/
def Got (p : Program) (e : Env) (below : List Frame) (s : State) (P : Heap → List Loc → Prop) (ck cs : Nat) (w : Option Value) (T : State) (g : JFrame) : Prop :=
  ∃ s₂ L, Steps p.tables e below (T.setTop g) s₂ ∧ s₂.status = .running ∧ Ended s₂ below (.returned w) ∧ P s₂.heap L ∧ FrameEnd s (.returned w) s₂ L ck cs
variable {P : Heap → List Loc → Prop} {ck cs : Nat} {w : Option Value} {g g' : JFrame}
theorem Got.step (h : ∀ t, Steps p.tables e below (T'.setTop g') t → Steps p.tables e below (T.setTop g) t) (k : Got p e below s P ck cs w T' g') : Got p e below s P ck cs w T g := by
  obtain ⟨s₂, L, h1, r⟩ := k
  exact ⟨s₂, L, h _ h1, r⟩
theorem Got.hop (h : Steps p.tables e below (T.setTop g) (T'.setTop g')) (k : Got p e below s P ck cs w T' g') : Got p e below s P ck cs w T g := Got.step (fun _ q => h.trans q) k
theorem Got.ite {q : Prop} [Decidable q] {x y : Int32} (h1 : q → Got p e below s P ck cs (some (.int x)) T g) (h2 : ¬ q → Got p e below s P ck cs (some (.int y)) T g) : Got p e below s P ck cs (some (.int (if q then x else y))) T g := by
  by_cases h : q
  · rw [if_pos h]; exact h1 h
  · rw [if_neg h]; exact h2 h
theorem Got.iteJ {q : Prop} [Decidable q] {x y : Int64} (h1 : q → Got p e below s P ck cs (some (.long x)) T g) (h2 : ¬ q → Got p e below s P ck cs (some (.long y)) T g) : Got p e below s P ck cs (some (.long (if q then x else y))) T g := by
  by_cases h : q
  · rw [if_pos h]; exact h1 h
  · rw [if_neg h]; exact h2 h
theorem Got.iteR {q : Prop} [Decidable q] {x y : Addr} (h1 : q → Got p e below s P ck cs (some (.ref x)) T g) (h2 : ¬ q → Got p e below s P ck cs (some (.ref y)) T g) : Got p e below s P ck cs (some (.ref (if q then x else y))) T g := by
  by_cases h : q
  · rw [if_pos h]; exact h1 h
  · rw [if_neg h]; exact h2 h
theorem Got.body {n : Nat} {as' : Array Value} (hg : entryFrame m as' n = g) (k : Got p e below s P ck cs w T g) :
    ∃ s₂ o, Steps p.tables e below (T.setTop (entryFrame m as' n)) s₂ ∧ s₂.status = .running ∧ Ended s₂ below o ∧ ∃ v L, o = .returned v ∧ QV w P v s₂.heap L ∧ FrameEnd s o s₂ L ck cs := by
  obtain ⟨s₂, L, h1, h2, h3, h4, h5⟩ := k
  exact ⟨s₂, _, by rw [hg]; exact h1, h2, h3, w, L, rfl, ⟨rfl, h4⟩, h5⟩
theorem Got.retN (X : Stand p l e R s m args below meth c T locs cells slots) (hx : p.tables.exec = Jvm.exec) {t : FieldType} (hret : meth.sig.returnType = some t) (ht : t = .boolean ∨ t = .byte ∨ t = .char ∨ t = .short) (hlk : meth.locks = false) {pc : Nat} {Ls : Array Slot} {z y : Int32} {rest : List Value}
    (hd : decode c.code pc = .ok (.ireturn, 1)) (hy : nar t z = y) (hP : P T.heap locs) (hc : cells ≤ ck) (hs : slots ≤ cs) : Got p e below s P ck cs (some (.int y)) T (mkF m pc Ls (.int z :: rest)) := by
  subst hy
  obtain ⟨fs, hr, hrun, hended, hW, hsame⟩ := X.leave (v := some (.int (nar t z))) (fun h => by rw [hret] at h; cases h) hlk
  exact ⟨_, locs, Jvm.RoadKit.retN X hx hret ht hd hr, hrun, hended, hP, ⟨_, rfl⟩, hW, hsame.mono hc hs⟩
theorem Got.retI (X : Stand p l e R s m args below meth c T locs cells slots) (hx : p.tables.exec = Jvm.exec) (hret : meth.sig.returnType = some .int) (hlk : meth.locks = false) {pc : Nat} {Ls : Array Slot} {z y : Int32} {rest : List Value}
    (hd : decode c.code pc = .ok (.ireturn, 1)) (hy : z = y) (hP : P T.heap locs) (hc : cells ≤ ck) (hs : slots ≤ cs) : Got p e below s P ck cs (some (.int y)) T (mkF m pc Ls (.int z :: rest)) := by
  subst hy
  obtain ⟨fs, hr, hrun, hended, hW, hsame⟩ := X.leave (v := some (.int z)) (fun h => by rw [hret] at h; cases h) hlk
  exact ⟨_, locs, retOut X hx hret rfl (Or.inl ⟨rfl, Or.inl rfl, z, rfl⟩) hd hr, hrun, hended, hP, ⟨_, rfl⟩, hW, hsame.mono hc hs⟩
theorem Got.retJ (X : Stand p l e R s m args below meth c T locs cells slots) (hx : p.tables.exec = Jvm.exec) (hret : meth.sig.returnType = some .long) (hlk : meth.locks = false) {pc : Nat} {Ls : Array Slot} {z y : Int64}
    (hd : decode c.code pc = .ok (.lreturn, 1)) (hy : z = y) (hP : P T.heap locs) (hc : cells ≤ ck) (hs : slots ≤ cs) : Got p e below s P ck cs (some (.long y)) T (mkF m pc Ls [.long z]) := by
  subst hy
  obtain ⟨fs, hr, hrun, hended, hW, hsame⟩ := X.leave (v := some (.long z)) (fun h => by rw [hret] at h; cases h) hlk
  exact ⟨_, locs, X.lreturnOut hx hret hd hr, hrun, hended, hP, ⟨_, rfl⟩, hW, hsame.mono hc hs⟩
theorem Got.retV (X : Stand p l e R s m args below meth c T locs cells slots) (hx : p.tables.exec = Jvm.exec) (hret : meth.sig.returnType = none) (hlk : meth.locks = false) {pc : Nat} {Ls : Array Slot}
    (hd : decode c.code pc = .ok (.return_, 1)) (hP : P T.heap locs) (hc : cells ≤ ck) (hs : slots ≤ cs) : Got p e below s P ck cs none T (mkF m pc Ls []) := by
  obtain ⟨fs, hr, hrun, hended, hW, hsame⟩ := X.leave (v := none) (fun _ => rfl) hlk
  exact ⟨_, locs, X.returnOut hx hret hd hr, hrun, hended, hP, ⟨_, rfl⟩, hW, hsame.mono hc hs⟩
theorem Got.retA (X : Stand p l e R s m args below meth c T locs cells slots) (hx : p.tables.exec = Jvm.exec) {t : FieldType} (hret : meth.sig.returnType = some t) (ht : t.isReference = true) (hlk : meth.locks = false) {pc : Nat} {Ls : Array Slot} {a : Addr} {rest : List Value}
    (hd : decode c.code pc = .ok (.areturn, 1)) (hn : narrow t (.ref a) = .ref a) (hP : P T.heap locs) (hc : cells ≤ ck) (hs : slots ≤ cs) : Got p e below s P ck cs (some (.ref a)) T (mkF m pc Ls (.ref a :: rest)) := by
  obtain ⟨fs, hr, hrun, hended, hW, hsame⟩ := X.leave (v := some (.ref a)) (fun h => by rw [hret] at h; cases h) hlk
  exact ⟨_, locs, retOut X hx hret hn (Or.inr (Or.inr (Or.inr (Or.inr ⟨rfl, ht, rfl⟩)))) hd hr, hrun, hended, hP, ⟨_, rfl⟩, hW, hsame.mono hc hs⟩
theorem remJ {g : JFrame} {target : State} (X : Stand p l e R s m args below meth c T locs cells slots) (hx : p.tables.exec = Jvm.exec) (hg : g.method = m) {x y : Int64} {rest : List Value} (hd : decode c.code g.pc = .ok (.lrem, 1)) (hs : g.stack = .long y :: .long x :: rest) (hy : y ≠ 0)
    (hr : Steps p.tables e below (T.setTop { g with pc := g.pc + 1, stack := .long (x % y) :: rest }) target) : Steps p.tables e below (T.setTop g) target := by
  rw [← lrem_mod x y] at hr
  exact XS.lrem X.here hx hg hd hs hy hr
theorem narB (x : Int32) : nar .byte x.toInt8.toInt32 = x.toInt8.toInt32 := by simp [nar]
end New
end Jvm.RoadKit
namespace Jvm.Pilot.@@N@@
open Jvm Jvm.ClassFile Sem Op Lib Jvm.Free Jvm.Stand Jvm.LawKit Jvm.RoadKit Bundle Jvm.Pilot.@@N@@.Jvm.D
theorem ef_1 (m : MethodId) (x0 : Addr) : entryFrame m #[(.ref x0)] 1 = mkF m 0 #[.val (.ref x0)] [] := by first | (simp [entryFrame, mkF, argsToLocals, Value.category]; done) | rfl
theorem pn_0 : plainName "lavka/report/Summary" = true := by first | (simp [plainName, overriddenIn]; done) | decide +kernel
theorem d1_0 : decode prog_12_method_1_code 0 = .ok (.aload_n 0, 1) := by decide +kernel
theorem d1_1 : decode prog_12_method_1_code 1 = .ok (.invokespecial 1, 3) := by decide +kernel
theorem d1_4 : decode prog_12_method_1_code 4 = .ok (.return_, 1) := by decide +kernel
set_option maxRecDepth 65536 in
set_option maxHeartbeats 40000000 in
theorem rm1 (l : Launch) (Z : State) (a0 : Array Value) (hw : ∀ d ∈ tables_1, d.before a0 Z = true) (ws : List Jvm.Cond) (o0 : Addr) (h0 : Heap) (n0 : Nat) (Z0 : n0 ≤ h0.size) (gn_o0 : n0 ≤ o0) (E_o0 : Exa Z h0 o0 "lavka/report/Summary") (F_recordsUnreadable : Fld Z h0 o0 "lavka/report/Summary" "recordsUnreadable" "J" (.long (0 : Int64))) (F_recordsOfWrongType : Fld Z h0 o0 "lavka/report/Summary" "recordsOfWrongType" "J" (.long (0 : Int64))) (F_recordsWritten : Fld Z h0 o0 "lavka/report/Summary" "recordsWritten" "J" (.long (0 : Int64))) (F_fieldsConverted : Fld Z h0 o0 "lavka/report/Summary" "fieldsConverted" "J" (.long (0 : Int64))) (F_fieldsNotConverted : Fld Z h0 o0 "lavka/report/Summary" "fieldsNotConverted" "J" (.long (0 : Int64)))  :
    MetFree l (⟨"lavka/report/Summary", "<init>", "()V"⟩ : MethodName) (head1 (Jvm.Cond.code (⟨"lavka/report/Summary", "<init>", "()V"⟩ : MethodName) prog_12_method_1_code 1 none :: ws) ({ frames := 1, cells := 0, slots := 0, locals := 12 } : Room)) (fun a U => a = #[(.ref o0)] ∧ Z.Warmed39 U.vm ∧ U.heap = h0) (fun _ _ _ _ _ => True) (fun _ U o U' => ∃ v L, o = .returned v ∧ QV none (fun h L => Fr n0 L ∧ Keep h0 h [o0] ∧ Exa Z h o0 "lavka/report/Summary" ∧ Fld Z h o0 "lavka/report/Summary" "recordsUnreadable" "J" (.long (0 : Int64)) ∧ Fld Z h o0 "lavka/report/Summary" "recordsOfWrongType" "J" (.long (0 : Int64)) ∧ Fld Z h o0 "lavka/report/Summary" "recordsWritten" "J" (.long (0 : Int64)) ∧ Fld Z h o0 "lavka/report/Summary" "fieldsConverted" "J" (.long (0 : Int64)) ∧ Fld Z h o0 "lavka/report/Summary" "fieldsNotConverted" "J" (.long (0 : Int64))) v U'.heap L ∧ FrameEnd U o U' L ({ frames := 1, cells := 0, slots := 0, locals := 12 } : Room).cells ({ frames := 1, cells := 0, slots := 0, locals := 12 } : Room).slots) := by
  refine MetFree.of_bodySF (plainFor_of_name pn_0) hisR ?_
  intro p e s m args below meth c s₁ Bd hml0 hP hK
  obtain ⟨rfl, hZ, hh⟩ := hP
  have hx := Bd.exec
  have hby := Bd.bytes
  have hml : c.maxLocals = 1 := hml0
  have hown : s.vm.findClass "lavka/report/Summary" = some m.cls := findClass_of_methodNamed Bd.named
  have hnm := (name_of_methodNamed Bd.named Bd.method).1
  have hlk : meth.locks = false := BodyLoose.notSynchronized Bd
  have X0 : Stand p l e ({ frames := 1, cells := 0, slots := 0, locals := 12 } : Room) s m #[(.ref o0)] below meth c s₁ [] 0 0 := Stand.of_body Bd
  have e0 : s₁.heap = h0 := by rw [← hh, Bd.state]; rfl
  have N0 := Fr.nil n0
  refine Got.body (ef_1 m o0) ?_
  have K0 := Keep.refl h0 [o0]
  refine Got.step (T' := s₁) (g' := (mkF m 1 #[.val (.ref o0)] [(.ref o0)])) (fun tq kt => ?_) ?_
  · show Steps p.tables e below (s₁.setTop (mkF m 0 #[.val (.ref o0)] [])) _
    refine XS.aloadN X0.here hx rfl (hb hby d1_0) rfl rfl ?_
    exact kt
  obtain ⟨T1, X1, e1, st1⟩ := initO X0 hx hZ hown (hw _ (List.mem_of_getElem? (i := 6) rfl)) (hw _ (List.mem_of_getElem? (i := 7) rfl)) (hw _ (List.mem_of_getElem? (i := 8) rfl)) e0 (g := (mkF m 1 #[.val (.ref o0)] [(.ref o0)])) rfl (by rw [hml]; rfl) rfl (hb hby d1_1) (by decide) (W := 0) (by show 2 * 0 + _ ≤ _; exact Nat.le_of_eq rfl) (by decide)
  refine Got.step st1 ?_
  show Got p e below s _ _ _ _ T1 (mkF m 4 #[.val (.ref o0)] [])
  exact Got.retV X1 hx Bd.returns hlk (hb hby d1_4) ⟨N0, by rw [e1]; exact K0, by rw [e1]; exact E_o0, by rw [e1]; exact F_recordsUnreadable, by rw [e1]; exact F_recordsOfWrongType, by rw [e1]; exact F_recordsWritten, by rw [e1]; exact F_fieldsConverted, by rw [e1]; exact F_fieldsNotConverted⟩ (by decide) (by decide)
def f3 (vu : Int64) (vt : Int64)  : Int32 := (if vu = (0 : Int64) then (if vt = (0 : Int64) then (1 : Int32) else (0 : Int32)) else (0 : Int32))
theorem ef_3 (m : MethodId) (x0 : Addr) : entryFrame m #[(.ref x0)] 1 = mkF m 0 #[.val (.ref x0)] [] := by first | (simp [entryFrame, mkF, argsToLocals, Value.category]; done) | rfl
theorem d3_0 : decode prog_12_method_5_code 0 = .ok (.aload_n 0, 1) := by decide +kernel
theorem d3_1 : decode prog_12_method_5_code 1 = .ok (.getfield 19, 3) := by decide +kernel
theorem d3_4 : decode prog_12_method_5_code 4 = .ok (.lconst 0, 1) := by decide +kernel
theorem d3_5 : decode prog_12_method_5_code 5 = .ok (.lcmp, 1) := by decide +kernel
theorem d3_6 : decode prog_12_method_5_code 6 = .ok (.ifCond .ne 16, 3) := by decide +kernel
theorem d3_9 : decode prog_12_method_5_code 9 = .ok (.aload_n 0, 1) := by decide +kernel
theorem d3_10 : decode prog_12_method_5_code 10 = .ok (.getfield 22, 3) := by decide +kernel
theorem d3_13 : decode prog_12_method_5_code 13 = .ok (.lconst 0, 1) := by decide +kernel
theorem d3_14 : decode prog_12_method_5_code 14 = .ok (.lcmp, 1) := by decide +kernel
theorem d3_15 : decode prog_12_method_5_code 15 = .ok (.ifCond .ne 7, 3) := by decide +kernel
theorem d3_18 : decode prog_12_method_5_code 18 = .ok (.iconst 1, 1) := by decide +kernel
theorem d3_19 : decode prog_12_method_5_code 19 = .ok (.goto 4, 3) := by decide +kernel
theorem d3_22 : decode prog_12_method_5_code 22 = .ok (.iconst 0, 1) := by decide +kernel
theorem d3_23 : decode prog_12_method_5_code 23 = .ok (.ireturn, 1) := by decide +kernel
set_option maxRecDepth 65536 in
set_option maxHeartbeats 40000000 in
theorem rm3 (l : Launch) (Z : State) (a0 : Array Value) (hw : ∀ d ∈ tables_1, d.before a0 Z = true) (ws : List Jvm.Cond) (o0 : Addr) (vu : Int64) (vt : Int64) (h0 : Heap) (n0 : Nat) (Z0 : n0 ≤ h0.size) (E_o0 : Exa Z h0 o0 "lavka/report/Summary") (F_recordsUnreadable : Fld Z h0 o0 "lavka/report/Summary" "recordsUnreadable" "J" (.long vu)) (F_recordsOfWrongType : Fld Z h0 o0 "lavka/report/Summary" "recordsOfWrongType" "J" (.long vt))  :
    MetFree l (⟨"lavka/report/Summary", "allWritten", "()Z"⟩ : MethodName) (head1 (Jvm.Cond.code (⟨"lavka/report/Summary", "allWritten", "()Z"⟩ : MethodName) prog_12_method_5_code 1 (some .boolean) :: ws) ({ frames := 0, cells := 0, slots := 0, locals := 0 } : Room)) (fun a U => a = #[(.ref o0)] ∧ Z.Warmed39 U.vm ∧ U.heap = h0) (fun _ _ _ _ _ => True) (fun _ U o U' => ∃ v L, o = .returned v ∧ QV (some (.int (f3 vu vt))) (PureP n0 h0) v U'.heap L ∧ FrameEnd U o U' L ({ frames := 0, cells := 0, slots := 0, locals := 0 } : Room).cells ({ frames := 0, cells := 0, slots := 0, locals := 0 } : Room).slots) := by
  refine MetFree.of_bodySF (plainFor_of_name pn_0) hisR ?_
  intro p e s m args below meth c s₁ Bd hml0 hP hK
  obtain ⟨rfl, hZ, hh⟩ := hP
  have hx := Bd.exec
  have hby := Bd.bytes
  have hml : c.maxLocals = 1 := hml0
  have hown : s.vm.findClass "lavka/report/Summary" = some m.cls := findClass_of_methodNamed Bd.named
  have hnm := (name_of_methodNamed Bd.named Bd.method).1
  have hlk : meth.locks = false := BodyLoose.notSynchronized Bd
  have X0 : Stand p l e ({ frames := 0, cells := 0, slots := 0, locals := 0 } : Room) s m #[(.ref o0)] below meth c s₁ [] 0 0 := Stand.of_body Bd
  have e0 : s₁.heap = h0 := by rw [← hh, Bd.state]; rfl
  have N0 := Fr.nil n0
  refine Got.body (ef_3 m o0) ?_
  refine Got.step (T' := s₁) (g' := (mkF m 1 #[.val (.ref o0)] [(.ref o0)])) (fun tq kt => ?_) ?_
  · show Steps p.tables e below (s₁.setTop (mkF m 0 #[.val (.ref o0)] [])) _
    refine XS.aloadN X0.here hx rfl (hb hby d3_0) rfl rfl ?_
    exact kt
  obtain ⟨T2, X2, e2, st2⟩ := getF X0 hx hZ hown (host := "") (Or.inl (hw _ (List.mem_of_getElem? (i := 14) rfl))) Via.refl e0 F_recordsUnreadable (g := (mkF m 1 #[.val (.ref o0)] [(.ref o0)])) rfl rfl (hb hby d3_1)
  refine Got.step st2 ?_
  show Got p e below s _ _ _ _ T2 (mkF m 4 #[.val (.ref o0)] [(.long vu)])
  refine Got.step (T' := T2) (g' := (mkF m 6 #[.val (.ref o0)] [(.int (XT.cmpL vu (0 : Int64)))])) (fun tq kt => ?_) ?_
  · show Steps p.tables e below (T2.setTop (mkF m 4 #[.val (.ref o0)] [(.long vu)])) _
    refine XS.lconst X2.here hx rfl (hb hby d3_4) ?_
    show Steps p.tables e below (T2.setTop (mkF m 5 #[.val (.ref o0)] [(.long (0 : Int64)), (.long vu)])) _
    refine XT.lcmp X2.here hx rfl (hb hby d3_5) rfl ?_
    exact kt
  refine Got.ite (q := (vu = (0 : Int64))) (fun hc3 => ?_) (fun hc3 => ?_)
  · refine Got.step (T' := T2) (g' := (mkF m 10 #[.val (.ref o0)] [(.ref o0)])) (fun tq kt => ?_) ?_
    · show Steps p.tables e below (T2.setTop (mkF m 6 #[.val (.ref o0)] [(.int (XT.cmpL vu (0 : Int64)))])) _
      refine XS.ifNo X2.here hx rfl (hb hby d3_6) rfl (XT.ll_ne_f hc3) ?_
      show Steps p.tables e below (T2.setTop (mkF m 9 #[.val (.ref o0)] [])) _
      refine XS.aloadN X2.here hx rfl (hb hby d3_9) rfl rfl ?_
      exact kt
    obtain ⟨T4, X4, e4, st4⟩ := getF X2 hx hZ hown (host := "") (Or.inl (hw _ (List.mem_of_getElem? (i := 16) rfl))) Via.refl e2 F_recordsOfWrongType (g := (mkF m 10 #[.val (.ref o0)] [(.ref o0)])) rfl rfl (hb hby d3_10)
    refine Got.step st4 ?_
    show Got p e below s _ _ _ _ T4 (mkF m 13 #[.val (.ref o0)] [(.long vt)])
    refine Got.step (T' := T4) (g' := (mkF m 15 #[.val (.ref o0)] [(.int (XT.cmpL vt (0 : Int64)))])) (fun tq kt => ?_) ?_
    · show Steps p.tables e below (T4.setTop (mkF m 13 #[.val (.ref o0)] [(.long vt)])) _
      refine XS.lconst X4.here hx rfl (hb hby d3_13) ?_
      show Steps p.tables e below (T4.setTop (mkF m 14 #[.val (.ref o0)] [(.long (0 : Int64)), (.long vt)])) _
      refine XT.lcmp X4.here hx rfl (hb hby d3_14) rfl ?_
      exact kt
    refine Got.ite (q := (vt = (0 : Int64))) (fun hc5 => ?_) (fun hc5 => ?_)
    · refine Got.step (T' := T4) (g' := (mkF m 23 #[.val (.ref o0)] [(.int (1 : Int32))])) (fun tq kt => ?_) ?_
      · show Steps p.tables e below (T4.setTop (mkF m 15 #[.val (.ref o0)] [(.int (XT.cmpL vt (0 : Int64)))])) _
        refine XS.ifNo X4.here hx rfl (hb hby d3_15) rfl (XT.ll_ne_f hc5) ?_
        show Steps p.tables e below (T4.setTop (mkF m 18 #[.val (.ref o0)] [])) _
        refine XS.iconst X4.here hx rfl (hb hby d3_18) ?_
        show Steps p.tables e below (T4.setTop (mkF m 19 #[.val (.ref o0)] [(.int (1 : Int32))])) _
        refine XS.goto X4.here hx rfl (pc0 := 19) (pc' := 23) rfl (hb hby d3_19) (by decide) (by decide) ?_
        exact kt
      exact Got.retN (y := (1 : Int32)) (t := .boolean) X4 hx Bd.returns (by simp) hlk (hb hby d3_23) (by decide) ⟨N0, e4⟩ (by decide) (by decide)
    · refine Got.step (T' := T4) (g' := (mkF m 23 #[.val (.ref o0)] [(.int (0 : Int32))])) (fun tq kt => ?_) ?_
      · show Steps p.tables e below (T4.setTop (mkF m 15 #[.val (.ref o0)] [(.int (XT.cmpL vt (0 : Int64)))])) _
        refine XS.ifYes X4.here hx rfl (pc0 := 15) (pc' := 22) rfl (hb hby d3_15) rfl (XT.ll_ne_t hc5) (by decide) (by decide) ?_
        show Steps p.tables e below (T4.setTop (mkF m 22 #[.val (.ref o0)] [])) _
        refine XS.iconst X4.here hx rfl (hb hby d3_22) ?_
        exact kt
      exact Got.retN (y := (0 : Int32)) (t := .boolean) X4 hx Bd.returns (by simp) hlk (hb hby d3_23) (by decide) ⟨N0, e4⟩ (by decide) (by decide)
  · refine Got.step (T' := T2) (g' := (mkF m 23 #[.val (.ref o0)] [(.int (0 : Int32))])) (fun tq kt => ?_) ?_
    · show Steps p.tables e below (T2.setTop (mkF m 6 #[.val (.ref o0)] [(.int (XT.cmpL vu (0 : Int64)))])) _
      refine XS.ifYes X2.here hx rfl (pc0 := 6) (pc' := 22) rfl (hb hby d3_6) rfl (XT.ll_ne_t hc3) (by decide) (by decide) ?_
      show Steps p.tables e below (T2.setTop (mkF m 22 #[.val (.ref o0)] [])) _
      refine XS.iconst X2.here hx rfl (hb hby d3_22) ?_
      exact kt
    exact Got.retN (y := (0 : Int32)) (t := .boolean) X2 hx Bd.returns (by simp) hlk (hb hby d3_23) (by decide) ⟨N0, e2⟩ (by decide) (by decide)
theorem ef_4 (m : MethodId) (x0 : Addr) : entryFrame m #[(.ref x0)] 1 = mkF m 0 #[.val (.ref x0)] [] := by first | (simp [entryFrame, mkF, argsToLocals, Value.category]; done) | rfl
theorem d4_0 : decode prog_12_method_3_code 0 = .ok (.aload_n 0, 1) := by decide +kernel
theorem d4_1 : decode prog_12_method_3_code 1 = .ok (.dup, 1) := by decide +kernel
theorem d4_2 : decode prog_12_method_3_code 2 = .ok (.getfield 19, 3) := by decide +kernel
theorem d4_5 : decode prog_12_method_3_code 5 = .ok (.lconst 1, 1) := by decide +kernel
theorem d4_6 : decode prog_12_method_3_code 6 = .ok (.ladd, 1) := by decide +kernel
theorem d4_7 : decode prog_12_method_3_code 7 = .ok (.putfield 19, 3) := by decide +kernel
theorem d4_10 : decode prog_12_method_3_code 10 = .ok (.return_, 1) := by decide +kernel
set_option maxRecDepth 65536 in
set_option maxHeartbeats 40000000 in
theorem rm4 (l : Launch) (Z : State) (a0 : Array Value) (hw : ∀ d ∈ tables_1, d.before a0 Z = true) (ws : List Jvm.Cond) (o0 : Addr) (vu : Int64) (vt : Int64) (vw : Int64) (vc : Int64) (vn : Int64) (h0 : Heap) (n0 : Nat) (Z0 : n0 ≤ h0.size) (gn_o0 : n0 ≤ o0) (E_o0 : Exa Z h0 o0 "lavka/report/Summary") (F_recordsUnreadable : Fld Z h0 o0 "lavka/report/Summary" "recordsUnreadable" "J" (.long vu)) (F_recordsOfWrongType : Fld Z h0 o0 "lavka/report/Summary" "recordsOfWrongType" "J" (.long vt)) (F_recordsWritten : Fld Z h0 o0 "lavka/report/Summary" "recordsWritten" "J" (.long vw)) (F_fieldsConverted : Fld Z h0 o0 "lavka/report/Summary" "fieldsConverted" "J" (.long vc)) (F_fieldsNotConverted : Fld Z h0 o0 "lavka/report/Summary" "fieldsNotConverted" "J" (.long vn))  :
    MetFree l (⟨"lavka/report/Summary", "unreadable", "()V"⟩ : MethodName) (head1 (Jvm.Cond.code (⟨"lavka/report/Summary", "unreadable", "()V"⟩ : MethodName) prog_12_method_3_code 1 none :: ws) ({ frames := 0, cells := 0, slots := 0, locals := 0 } : Room)) (fun a U => a = #[(.ref o0)] ∧ Z.Warmed39 U.vm ∧ U.heap = h0) (fun _ _ _ _ _ => True) (fun _ U o U' => ∃ v L, o = .returned v ∧ QV none (fun h L => Fr n0 L ∧ Keep h0 h [o0] ∧ Exa Z h o0 "lavka/report/Summary" ∧ Fld Z h o0 "lavka/report/Summary" "recordsUnreadable" "J" (.long (vu + (1 : Int64))) ∧ Fld Z h o0 "lavka/report/Summary" "recordsOfWrongType" "J" (.long vt) ∧ Fld Z h o0 "lavka/report/Summary" "recordsWritten" "J" (.long vw) ∧ Fld Z h o0 "lavka/report/Summary" "fieldsConverted" "J" (.long vc) ∧ Fld Z h o0 "lavka/report/Summary" "fieldsNotConverted" "J" (.long vn)) v U'.heap L ∧ FrameEnd U o U' L ({ frames := 0, cells := 0, slots := 0, locals := 0 } : Room).cells ({ frames := 0, cells := 0, slots := 0, locals := 0 } : Room).slots) := by
  refine MetFree.of_bodySF (plainFor_of_name pn_0) hisR ?_
  intro p e s m args below meth c s₁ Bd hml0 hP hK
  obtain ⟨rfl, hZ, hh⟩ := hP
  have hx := Bd.exec
  have hby := Bd.bytes
  have hml : c.maxLocals = 1 := hml0
  have hown : s.vm.findClass "lavka/report/Summary" = some m.cls := findClass_of_methodNamed Bd.named
  have hnm := (name_of_methodNamed Bd.named Bd.method).1
  have hlk : meth.locks = false := BodyLoose.notSynchronized Bd
  have X0 : Stand p l e ({ frames := 0, cells := 0, slots := 0, locals := 0 } : Room) s m #[(.ref o0)] below meth c s₁ [] 0 0 := Stand.of_body Bd
  have e0 : s₁.heap = h0 := by rw [← hh, Bd.state]; rfl
  have N0 := Fr.nil n0
  refine Got.body (ef_4 m o0) ?_
  have K0 := Keep.refl h0 [o0]
  refine Got.step (T' := s₁) (g' := (mkF m 2 #[.val (.ref o0)] [(.ref o0), (.ref o0)])) (fun tq kt => ?_) ?_
  · show Steps p.tables e below (s₁.setTop (mkF m 0 #[.val (.ref o0)] [])) _
    refine XS.aloadN X0.here hx rfl (hb hby d4_0) rfl rfl ?_
    show Steps p.tables e below (s₁.setTop (mkF m 1 #[.val (.ref o0)] [(.ref o0)])) _
    refine XS.dup X0.here hx rfl (hb hby d4_1) rfl rfl ?_
    exact kt
  obtain ⟨T6, X6, e6, st6⟩ := getF X0 hx hZ hown (host := "") (Or.inl (hw _ (List.mem_of_getElem? (i := 14) rfl))) Via.refl e0 F_recordsUnreadable (g := (mkF m 2 #[.val (.ref o0)] [(.ref o0), (.ref o0)])) rfl rfl (hb hby d4_2)
  refine Got.step st6 ?_
  show Got p e below s _ _ _ _ T6 (mkF m 5 #[.val (.ref o0)] [(.long vu), (.ref o0)])
  refine Got.step (T' := T6) (g' := (mkF m 7 #[.val (.ref o0)] [(.long (vu + (1 : Int64))), (.ref o0)])) (fun tq kt => ?_) ?_
  · show Steps p.tables e below (T6.setTop (mkF m 5 #[.val (.ref o0)] [(.long vu), (.ref o0)])) _
    refine XS.lconst X6.here hx rfl (hb hby d4_5) ?_
    show Steps p.tables e below (T6.setTop (mkF m 6 #[.val (.ref o0)] [(.long (1 : Int64)), (.long vu), (.ref o0)])) _
    refine XS.ladd X6.here hx rfl (hb hby d4_6) rfl ?_
    exact kt
  obtain ⟨T7, h7, X7, e7, W7, st7⟩ := putF X6 hx hZ hown (host := "") (Or.inl (hw _ (List.mem_of_getElem? (i := 14) rfl))) Via.refl e6 F_recordsUnreadable E_o0 (Or.inl (hw _ (List.mem_of_getElem? (i := 15) rfl))) (hw _ (List.mem_of_getElem? (i := 1) rfl)) (ty := .long) (by decide) rfl rfl (g := (mkF m 7 #[.val (.ref o0)] [(.long (vu + (1 : Int64))), (.ref o0)])) rfl rfl (hb hby d4_7)
  have Z0_8 : n0 ≤ h7.size := (Nat.le_trans Z0 (Keep.of_wr W7).1)
  have K0_9 : Keep h0 h7 [o0] := (K0.wr W7 (Or.inl (List.mem_of_getElem? (i := 0) rfl)))
  have E_o0_10 : Exa Z h7 o0 "lavka/report/Summary" := (E_o0.wr W7)
  have F_recordsUnreadable_11 : Fld Z h7 o0 "lavka/report/Summary" "recordsUnreadable" "J" (.long (vu + (1 : Int64))) := (F_recordsUnreadable.same W7)
  have F_recordsOfWrongType_12 : Fld Z h7 o0 "lavka/report/Summary" "recordsOfWrongType" "J" (.long vt) := (F_recordsOfWrongType.other W7 (Or.inr (slot_ne (Or.inl (hw _ (List.mem_of_getElem? (i := 17) rfl))) (Or.inl (hw _ (List.mem_of_getElem? (i := 15) rfl))) (by decide) (t := .long) (t' := .long) (by decide) (by decide))))
  have F_recordsWritten_13 : Fld Z h7 o0 "lavka/report/Summary" "recordsWritten" "J" (.long vw) := (F_recordsWritten.other W7 (Or.inr (slot_ne (Or.inl (hw _ (List.mem_of_getElem? (i := 29) rfl))) (Or.inl (hw _ (List.mem_of_getElem? (i := 15) rfl))) (by decide) (t := .long) (t' := .long) (by decide) (by decide))))
  have F_fieldsConverted_14 : Fld Z h7 o0 "lavka/report/Summary" "fieldsConverted" "J" (.long vc) := (F_fieldsConverted.other W7 (Or.inr (slot_ne (Or.inl (hw _ (List.mem_of_getElem? (i := 31) rfl))) (Or.inl (hw _ (List.mem_of_getElem? (i := 15) rfl))) (by decide) (t := .long) (t' := .long) (by decide) (by decide))))
  have F_fieldsNotConverted_15 : Fld Z h7 o0 "lavka/report/Summary" "fieldsNotConverted" "J" (.long vn) := (F_fieldsNotConverted.other W7 (Or.inr (slot_ne (Or.inl (hw _ (List.mem_of_getElem? (i := 33) rfl))) (Or.inl (hw _ (List.mem_of_getElem? (i := 15) rfl))) (by decide) (t := .long) (t' := .long) (by decide) (by decide))))
  have N7 := Fr.snoc X7 N0 gn_o0
  refine Got.step st7 ?_
  show Got p e below s _ _ _ _ T7 (mkF m 10 #[.val (.ref o0)] [])
  exact Got.retV X7 hx Bd.returns hlk (hb hby d4_10) ⟨N7, by rw [e7]; exact K0_9, by rw [e7]; exact E_o0_10, by rw [e7]; exact F_recordsUnreadable_11, by rw [e7]; exact F_recordsOfWrongType_12, by rw [e7]; exact F_recordsWritten_13, by rw [e7]; exact F_fieldsConverted_14, by rw [e7]; exact F_fieldsNotConverted_15⟩ (by decide) (by decide)
theorem ef_5 (m : MethodId) (x0 : Addr) (x1 : Int64) (x2 : Int64) : entryFrame m #[(.ref x0), (.long x1), (.long x2)] 5 = mkF m 0 #[.val (.ref x0), .val (.long x1), .second, .val (.long x2), .second] [] := by first | (simp [entryFrame, mkF, argsToLocals, Value.category]; done) | rfl
theorem d5_0 : decode prog_12_method_2_code 0 = .ok (.aload_n 0, 1) := by decide +kernel
theorem d5_1 : decode prog_12_method_2_code 1 = .ok (.dup, 1) := by decide +kernel
theorem d5_2 : decode prog_12_method_2_code 2 = .ok (.getfield 7, 3) := by decide +kernel
theorem d5_5 : decode prog_12_method_2_code 5 = .ok (.lconst 1, 1) := by decide +kernel
theorem d5_6 : decode prog_12_method_2_code 6 = .ok (.ladd, 1) := by decide +kernel
theorem d5_7 : decode prog_12_method_2_code 7 = .ok (.putfield 7, 3) := by decide +kernel
theorem d5_10 : decode prog_12_method_2_code 10 = .ok (.aload_n 0, 1) := by decide +kernel
theorem d5_11 : decode prog_12_method_2_code 11 = .ok (.dup, 1) := by decide +kernel
theorem d5_12 : decode prog_12_method_2_code 12 = .ok (.getfield 13, 3) := by decide +kernel
theorem d5_15 : decode prog_12_method_2_code 15 = .ok (.lload_n 1, 1) := by decide +kernel
theorem d5_16 : decode prog_12_method_2_code 16 = .ok (.ladd, 1) := by decide +kernel
theorem d5_17 : decode prog_12_method_2_code 17 = .ok (.putfield 13, 3) := by decide +kernel
theorem d5_20 : decode prog_12_method_2_code 20 = .ok (.aload_n 0, 1) := by decide +kernel
theorem d5_21 : decode prog_12_method_2_code 21 = .ok (.dup, 1) := by decide +kernel
theorem d5_22 : decode prog_12_method_2_code 22 = .ok (.getfield 16, 3) := by decide +kernel
theorem d5_25 : decode prog_12_method_2_code 25 = .ok (.lload_n 3, 1) := by decide +kernel
theorem d5_26 : decode prog_12_method_2_code 26 = .ok (.ladd, 1) := by decide +kernel
theorem d5_27 : decode prog_12_method_2_code 27 = .ok (.putfield 16, 3) := by decide +kernel
theorem d5_30 : decode prog_12_method_2_code 30 = .ok (.return_, 1) := by decide +kernel
set_option maxRecDepth 65536 in
set_option maxHeartbeats 40000000 in
theorem rm5 (l : Launch) (Z : State) (a0 : Array Value) (hw : ∀ d ∈ tables_1, d.before a0 Z = true) (ws : List Jvm.Cond) (o0 : Addr) (q1 : Int64) (q2 : Int64) (vu : Int64) (vt : Int64) (vw : Int64) (vc : Int64) (vn : Int64) (h0 : Heap) (n0 : Nat) (Z0 : n0 ≤ h0.size) (gn_o0 : n0 ≤ o0) (E_o0 : Exa Z h0 o0 "lavka/report/Summary") (F_recordsUnreadable : Fld Z h0 o0 "lavka/report/Summary" "recordsUnreadable" "J" (.long vu)) (F_recordsOfWrongType : Fld Z h0 o0 "lavka/report/Summary" "recordsOfWrongType" "J" (.long vt)) (F_recordsWritten : Fld Z h0 o0 "lavka/report/Summary" "recordsWritten" "J" (.long vw)) (F_fieldsConverted : Fld Z h0 o0 "lavka/report/Summary" "fieldsConverted" "J" (.long vc)) (F_fieldsNotConverted : Fld Z h0 o0 "lavka/report/Summary" "fieldsNotConverted" "J" (.long vn))  :
    MetFree l (⟨"lavka/report/Summary", "written", "(JJ)V"⟩ : MethodName) (head1 (Jvm.Cond.code (⟨"lavka/report/Summary", "written", "(JJ)V"⟩ : MethodName) prog_12_method_2_code 5 none :: ws) ({ frames := 0, cells := 0, slots := 0, locals := 0 } : Room)) (fun a U => a = #[(.ref o0), (.long q1), (.long q2)] ∧ Z.Warmed39 U.vm ∧ U.heap = h0) (fun _ _ _ _ _ => True) (fun _ U o U' => ∃ v L, o = .returned v ∧ QV none (fun h L => Fr n0 L ∧ Keep h0 h [o0] ∧ Exa Z h o0 "lavka/report/Summary" ∧ Fld Z h o0 "lavka/report/Summary" "recordsUnreadable" "J" (.long vu) ∧ Fld Z h o0 "lavka/report/Summary" "recordsOfWrongType" "J" (.long vt) ∧ Fld Z h o0 "lavka/report/Summary" "recordsWritten" "J" (.long (vw + (1 : Int64))) ∧ Fld Z h o0 "lavka/report/Summary" "fieldsConverted" "J" (.long (vc + q1)) ∧ Fld Z h o0 "lavka/report/Summary" "fieldsNotConverted" "J" (.long (vn + q2))) v U'.heap L ∧ FrameEnd U o U' L ({ frames := 0, cells := 0, slots := 0, locals := 0 } : Room).cells ({ frames := 0, cells := 0, slots := 0, locals := 0 } : Room).slots) := by
  refine MetFree.of_bodySF (plainFor_of_name pn_0) hisR ?_
  intro p e s m args below meth c s₁ Bd hml0 hP hK
  obtain ⟨rfl, hZ, hh⟩ := hP
  have hx := Bd.exec
  have hby := Bd.bytes
  have hml : c.maxLocals = 5 := hml0
  have hown : s.vm.findClass "lavka/report/Summary" = some m.cls := findClass_of_methodNamed Bd.named
  have hnm := (name_of_methodNamed Bd.named Bd.method).1
  have hlk : meth.locks = false := BodyLoose.notSynchronized Bd
  have X0 : Stand p l e ({ frames := 0, cells := 0, slots := 0, locals := 0 } : Room) s m #[(.ref o0), (.long q1), (.long q2)] below meth c s₁ [] 0 0 := Stand.of_body Bd
  have e0 : s₁.heap = h0 := by rw [← hh, Bd.state]; rfl
  have N0 := Fr.nil n0
  refine Got.body (ef_5 m o0 q1 q2) ?_
  have K0 := Keep.refl h0 [o0]
  refine Got.step (T' := s₁) (g' := (mkF m 2 #[.val (.ref o0), .val (.long q1), .second, .val (.long q2), .second] [(.ref o0), (.ref o0)])) (fun tq kt => ?_) ?_
  · show Steps p.tables e below (s₁.setTop (mkF m 0 #[.val (.ref o0), .val (.long q1), .second, .val (.long q2), .second] [])) _
    refine XS.aloadN X0.here hx rfl (hb hby d5_0) rfl rfl ?_
    show Steps p.tables e below (s₁.setTop (mkF m 1 #[.val (.ref o0), .val (.long q1), .second, .val (.long q2), .second] [(.ref o0)])) _
    refine XS.dup X0.here hx rfl (hb hby d5_1) rfl rfl ?_
    exact kt
  obtain ⟨T16, X16, e16, st16⟩ := getF X0 hx hZ hown (host := "") (Or.inl (hw _ (List.mem_of_getElem? (i := 28) rfl))) Via.refl e0 F_recordsWritten (g := (mkF m 2 #[.val (.ref o0), .val (.long q1), .second, .val (.long q2), .second] [(.ref o0), (.ref o0)])) rfl rfl (hb hby d5_2)
  refine Got.step st16 ?_
  show Got p e below s _ _ _ _ T16 (mkF m 5 #[.val (.ref o0), .val (.long q1), .second, .val (.long q2), .second] [(.long vw), (.ref o0)])
  refine Got.step (T' := T16) (g' := (mkF m 7 #[.val (.ref o0), .val (.long q1), .second, .val (.long q2), .second] [(.long (vw + (1 : Int64))), (.ref o0)])) (fun tq kt => ?_) ?_
  · show Steps p.tables e below (T16.setTop (mkF m 5 #[.val (.ref o0), .val (.long q1), .second, .val (.long q2), .second] [(.long vw), (.ref o0)])) _
    refine XS.lconst X16.here hx rfl (hb hby d5_5) ?_
    show Steps p.tables e below (T16.setTop (mkF m 6 #[.val (.ref o0), .val (.long q1), .second, .val (.long q2), .second] [(.long (1 : Int64)), (.long vw), (.ref o0)])) _
    refine XS.ladd X16.here hx rfl (hb hby d5_6) rfl ?_
    exact kt
  obtain ⟨T17, h17, X17, e17, W17, st17⟩ := putF X16 hx hZ hown (host := "") (Or.inl (hw _ (List.mem_of_getElem? (i := 28) rfl))) Via.refl e16 F_recordsWritten E_o0 (Or.inl (hw _ (List.mem_of_getElem? (i := 29) rfl))) (hw _ (List.mem_of_getElem? (i := 1) rfl)) (ty := .long) (by decide) rfl rfl (g := (mkF m 7 #[.val (.ref o0), .val (.long q1), .second, .val (.long q2), .second] [(.long (vw + (1 : Int64))), (.ref o0)])) rfl rfl (hb hby d5_7)
  have Z0_18 : n0 ≤ h17.size := (Nat.le_trans Z0 (Keep.of_wr W17).1)
  have K0_19 : Keep h0 h17 [o0] := (K0.wr W17 (Or.inl (List.mem_of_getElem? (i := 0) rfl)))
  have E_o0_20 : Exa Z h17 o0 "lavka/report/Summary" := (E_o0.wr W17)
  have F_recordsUnreadable_21 : Fld Z h17 o0 "lavka/report/Summary" "recordsUnreadable" "J" (.long vu) := (F_recordsUnreadable.other W17 (Or.inr (slot_ne (Or.inl (hw _ (List.mem_of_getElem? (i := 15) rfl))) (Or.inl (hw _ (List.mem_of_getElem? (i := 29) rfl))) (by decide) (t := .long) (t' := .long) (by decide) (by decide))))
  have F_recordsOfWrongType_22 : Fld Z h17 o0 "lavka/report/Summary" "recordsOfWrongType" "J" (.long vt) := (F_recordsOfWrongType.other W17 (Or.inr (slot_ne (Or.inl (hw _ (List.mem_of_getElem? (i := 17) rfl))) (Or.inl (hw _ (List.mem_of_getElem? (i := 29) rfl))) (by decide) (t := .long) (t' := .long) (by decide) (by decide))))
  have F_recordsWritten_23 : Fld Z h17 o0 "lavka/report/Summary" "recordsWritten" "J" (.long (vw + (1 : Int64))) := (F_recordsWritten.same W17)
  have F_fieldsConverted_24 : Fld Z h17 o0 "lavka/report/Summary" "fieldsConverted" "J" (.long vc) := (F_fieldsConverted.other W17 (Or.inr (slot_ne (Or.inl (hw _ (List.mem_of_getElem? (i := 31) rfl))) (Or.inl (hw _ (List.mem_of_getElem? (i := 29) rfl))) (by decide) (t := .long) (t' := .long) (by decide) (by decide))))
  have F_fieldsNotConverted_25 : Fld Z h17 o0 "lavka/report/Summary" "fieldsNotConverted" "J" (.long vn) := (F_fieldsNotConverted.other W17 (Or.inr (slot_ne (Or.inl (hw _ (List.mem_of_getElem? (i := 33) rfl))) (Or.inl (hw _ (List.mem_of_getElem? (i := 29) rfl))) (by decide) (t := .long) (t' := .long) (by decide) (by decide))))
  have N17 := Fr.snoc X17 N0 gn_o0
  refine Got.step st17 ?_
  show Got p e below s _ _ _ _ T17 (mkF m 10 #[.val (.ref o0), .val (.long q1), .second, .val (.long q2), .second] [])
  refine Got.step (T' := T17) (g' := (mkF m 12 #[.val (.ref o0), .val (.long q1), .second, .val (.long q2), .second] [(.ref o0), (.ref o0)])) (fun tq kt => ?_) ?_
  · show Steps p.tables e below (T17.setTop (mkF m 10 #[.val (.ref o0), .val (.long q1), .second, .val (.long q2), .second] [])) _
    refine XS.aloadN X17.here hx rfl (hb hby d5_10) rfl rfl ?_
    show Steps p.tables e below (T17.setTop (mkF m 11 #[.val (.ref o0), .val (.long q1), .second, .val (.long q2), .second] [(.ref o0)])) _
    refine XS.dup X17.here hx rfl (hb hby d5_11) rfl rfl ?_
    exact kt
  obtain ⟨T26, X26, e26, st26⟩ := getF X17 hx hZ hown (host := "") (Or.inl (hw _ (List.mem_of_getElem? (i := 30) rfl))) Via.refl e17 F_fieldsConverted_24 (g := (mkF m 12 #[.val (.ref o0), .val (.long q1), .second, .val (.long q2), .second] [(.ref o0), (.ref o0)])) rfl rfl (hb hby d5_12)
  refine Got.step st26 ?_
  show Got p e below s _ _ _ _ T26 (mkF m 15 #[.val (.ref o0), .val (.long q1), .second, .val (.long q2), .second] [(.long vc), (.ref o0)])
  refine Got.step (T' := T26) (g' := (mkF m 17 #[.val (.ref o0), .val (.long q1), .second, .val (.long q2), .second] [(.long (vc + q1)), (.ref o0)])) (fun tq kt => ?_) ?_
  · show Steps p.tables e below (T26.setTop (mkF m 15 #[.val (.ref o0), .val (.long q1), .second, .val (.long q2), .second] [(.long vc), (.ref o0)])) _
    refine XS.lloadN X26.here hx rfl (hb hby d5_15) rfl ?_
    show Steps p.tables e below (T26.setTop (mkF m 16 #[.val (.ref o0), .val (.long q1), .second, .val (.long q2), .second] [(.long q1), (.long vc), (.ref o0)])) _
    refine XS.ladd X26.here hx rfl (hb hby d5_16) rfl ?_
    exact kt
  obtain ⟨T27, h27, X27, e27, W27, st27⟩ := putF X26 hx hZ hown (host := "") (Or.inl (hw _ (List.mem_of_getElem? (i := 30) rfl))) Via.refl e26 F_fieldsConverted_24 E_o0_20 (Or.inl (hw _ (List.mem_of_getElem? (i := 31) rfl))) (hw _ (List.mem_of_getElem? (i := 1) rfl)) (ty := .long) (by decide) rfl rfl (g := (mkF m 17 #[.val (.ref o0), .val (.long q1), .second, .val (.long q2), .second] [(.long (vc + q1)), (.ref o0)])) rfl rfl (hb hby d5_17)
  have Z0_28 : n0 ≤ h27.size := (Nat.le_trans Z0_18 (Keep.of_wr W27).1)
  have K0_29 : Keep h0 h27 [o0] := (K0_19.wr W27 (Or.inl (List.mem_of_getElem? (i := 0) rfl)))
  have E_o0_30 : Exa Z h27 o0 "lavka/report/Summary" := (E_o0_20.wr W27)
  have F_recordsUnreadable_31 : Fld Z h27 o0 "lavka/report/Summary" "recordsUnreadable" "J" (.long vu) := (F_recordsUnreadable_21.other W27 (Or.inr (slot_ne (Or.inl (hw _ (List.mem_of_getElem? (i := 15) rfl))) (Or.inl (hw _ (List.mem_of_getElem? (i := 31) rfl))) (by decide) (t := .long) (t' := .long) (by decide) (by decide))))
  have F_recordsOfWrongType_32 : Fld Z h27 o0 "lavka/report/Summary" "recordsOfWrongType" "J" (.long vt) := (F_recordsOfWrongType_22.other W27 (Or.inr (slot_ne (Or.inl (hw _ (List.mem_of_getElem? (i := 17) rfl))) (Or.inl (hw _ (List.mem_of_getElem? (i := 31) rfl))) (by decide) (t := .long) (t' := .long) (by decide) (by decide))))
  have F_recordsWritten_33 : Fld Z h27 o0 "lavka/report/Summary" "recordsWritten" "J" (.long (vw + (1 : Int64))) := (F_recordsWritten_23.other W27 (Or.inr (slot_ne (Or.inl (hw _ (List.mem_of_getElem? (i := 29) rfl))) (Or.inl (hw _ (List.mem_of_getElem? (i := 31) rfl))) (by decide) (t := .long) (t' := .long) (by decide) (by decide))))
  have F_fieldsConverted_34 : Fld Z h27 o0 "lavka/report/Summary" "fieldsConverted" "J" (.long (vc + q1)) := (F_fieldsConverted_24.same W27)
  have F_fieldsNotConverted_35 : Fld Z h27 o0 "lavka/report/Summary" "fieldsNotConverted" "J" (.long vn) := (F_fieldsNotConverted_25.other W27 (Or.inr (slot_ne (Or.inl (hw _ (List.mem_of_getElem? (i := 33) rfl))) (Or.inl (hw _ (List.mem_of_getElem? (i := 31) rfl))) (by decide) (t := .long) (t' := .long) (by decide) (by decide))))
  have N27 := Fr.snoc X27 N17 gn_o0
  refine Got.step st27 ?_
  show Got p e below s _ _ _ _ T27 (mkF m 20 #[.val (.ref o0), .val (.long q1), .second, .val (.long q2), .second] [])
  refine Got.step (T' := T27) (g' := (mkF m 22 #[.val (.ref o0), .val (.long q1), .second, .val (.long q2), .second] [(.ref o0), (.ref o0)])) (fun tq kt => ?_) ?_
  · show Steps p.tables e below (T27.setTop (mkF m 20 #[.val (.ref o0), .val (.long q1), .second, .val (.long q2), .second] [])) _
    refine XS.aloadN X27.here hx rfl (hb hby d5_20) rfl rfl ?_
    show Steps p.tables e below (T27.setTop (mkF m 21 #[.val (.ref o0), .val (.long q1), .second, .val (.long q2), .second] [(.ref o0)])) _
    refine XS.dup X27.here hx rfl (hb hby d5_21) rfl rfl ?_
    exact kt
  obtain ⟨T36, X36, e36, st36⟩ := getF X27 hx hZ hown (host := "") (Or.inl (hw _ (List.mem_of_getElem? (i := 32) rfl))) Via.refl e27 F_fieldsNotConverted_35 (g := (mkF m 22 #[.val (.ref o0), .val (.long q1), .second, .val (.long q2), .second] [(.ref o0), (.ref o0)])) rfl rfl (hb hby d5_22)
  refine Got.step st36 ?_
  show Got p e below s _ _ _ _ T36 (mkF m 25 #[.val (.ref o0), .val (.long q1), .second, .val (.long q2), .second] [(.long vn), (.ref o0)])
  refine Got.step (T' := T36) (g' := (mkF m 27 #[.val (.ref o0), .val (.long q1), .second, .val (.long q2), .second] [(.long (vn + q2)), (.ref o0)])) (fun tq kt => ?_) ?_
  · show Steps p.tables e below (T36.setTop (mkF m 25 #[.val (.ref o0), .val (.long q1), .second, .val (.long q2), .second] [(.long vn), (.ref o0)])) _
    refine XS.lloadN X36.here hx rfl (hb hby d5_25) rfl ?_
    show Steps p.tables e below (T36.setTop (mkF m 26 #[.val (.ref o0), .val (.long q1), .second, .val (.long q2), .second] [(.long q2), (.long vn), (.ref o0)])) _
    refine XS.ladd X36.here hx rfl (hb hby d5_26) rfl ?_
    exact kt
  obtain ⟨T37, h37, X37, e37, W37, st37⟩ := putF X36 hx hZ hown (host := "") (Or.inl (hw _ (List.mem_of_getElem? (i := 32) rfl))) Via.refl e36 F_fieldsNotConverted_35 E_o0_30 (Or.inl (hw _ (List.mem_of_getElem? (i := 33) rfl))) (hw _ (List.mem_of_getElem? (i := 1) rfl)) (ty := .long) (by decide) rfl rfl (g := (mkF m 27 #[.val (.ref o0), .val (.long q1), .second, .val (.long q2), .second] [(.long (vn + q2)), (.ref o0)])) rfl rfl (hb hby d5_27)
  have Z0_38 : n0 ≤ h37.size := (Nat.le_trans Z0_28 (Keep.of_wr W37).1)
  have K0_39 : Keep h0 h37 [o0] := (K0_29.wr W37 (Or.inl (List.mem_of_getElem? (i := 0) rfl)))
  have E_o0_40 : Exa Z h37 o0 "lavka/report/Summary" := (E_o0_30.wr W37)
  have F_recordsUnreadable_41 : Fld Z h37 o0 "lavka/report/Summary" "recordsUnreadable" "J" (.long vu) := (F_recordsUnreadable_31.other W37 (Or.inr (slot_ne (Or.inl (hw _ (List.mem_of_getElem? (i := 15) rfl))) (Or.inl (hw _ (List.mem_of_getElem? (i := 33) rfl))) (by decide) (t := .long) (t' := .long) (by decide) (by decide))))
  have F_recordsOfWrongType_42 : Fld Z h37 o0 "lavka/report/Summary" "recordsOfWrongType" "J" (.long vt) := (F_recordsOfWrongType_32.other W37 (Or.inr (slot_ne (Or.inl (hw _ (List.mem_of_getElem? (i := 17) rfl))) (Or.inl (hw _ (List.mem_of_getElem? (i := 33) rfl))) (by decide) (t := .long) (t' := .long) (by decide) (by decide))))
  have F_recordsWritten_43 : Fld Z h37 o0 "lavka/report/Summary" "recordsWritten" "J" (.long (vw + (1 : Int64))) := (F_recordsWritten_33.other W37 (Or.inr (slot_ne (Or.inl (hw _ (List.mem_of_getElem? (i := 29) rfl))) (Or.inl (hw _ (List.mem_of_getElem? (i := 33) rfl))) (by decide) (t := .long) (t' := .long) (by decide) (by decide))))
  have F_fieldsConverted_44 : Fld Z h37 o0 "lavka/report/Summary" "fieldsConverted" "J" (.long (vc + q1)) := (F_fieldsConverted_34.other W37 (Or.inr (slot_ne (Or.inl (hw _ (List.mem_of_getElem? (i := 31) rfl))) (Or.inl (hw _ (List.mem_of_getElem? (i := 33) rfl))) (by decide) (t := .long) (t' := .long) (by decide) (by decide))))
  have F_fieldsNotConverted_45 : Fld Z h37 o0 "lavka/report/Summary" "fieldsNotConverted" "J" (.long (vn + q2)) := (F_fieldsNotConverted_35.same W37)
  have N37 := Fr.snoc X37 N27 gn_o0
  refine Got.step st37 ?_
  show Got p e below s _ _ _ _ T37 (mkF m 30 #[.val (.ref o0), .val (.long q1), .second, .val (.long q2), .second] [])
  exact Got.retV X37 hx Bd.returns hlk (hb hby d5_30) ⟨N37, by rw [e37]; exact K0_39, by rw [e37]; exact E_o0_40, by rw [e37]; exact F_recordsUnreadable_41, by rw [e37]; exact F_recordsOfWrongType_42, by rw [e37]; exact F_recordsWritten_43, by rw [e37]; exact F_fieldsConverted_44, by rw [e37]; exact F_fieldsNotConverted_45⟩ (by decide) (by decide)
theorem ef_6 (m : MethodId) (x0 : Addr) : entryFrame m #[(.ref x0)] 1 = mkF m 0 #[.val (.ref x0)] [] := by first | (simp [entryFrame, mkF, argsToLocals, Value.category]; done) | rfl
theorem d6_0 : decode prog_12_method_4_code 0 = .ok (.aload_n 0, 1) := by decide +kernel
theorem d6_1 : decode prog_12_method_4_code 1 = .ok (.dup, 1) := by decide +kernel
theorem d6_2 : decode prog_12_method_4_code 2 = .ok (.getfield 22, 3) := by decide +kernel
theorem d6_5 : decode prog_12_method_4_code 5 = .ok (.lconst 1, 1) := by decide +kernel
theorem d6_6 : decode prog_12_method_4_code 6 = .ok (.ladd, 1) := by decide +kernel
theorem d6_7 : decode prog_12_method_4_code 7 = .ok (.putfield 22, 3) := by decide +kernel
theorem d6_10 : decode prog_12_method_4_code 10 = .ok (.return_, 1) := by decide +kernel
set_option maxRecDepth 65536 in
set_option maxHeartbeats 40000000 in
theorem rm6 (l : Launch) (Z : State) (a0 : Array Value) (hw : ∀ d ∈ tables_1, d.before a0 Z = true) (ws : List Jvm.Cond) (o0 : Addr) (vu : Int64) (vt : Int64) (vw : Int64) (vc : Int64) (vn : Int64) (h0 : Heap) (n0 : Nat) (Z0 : n0 ≤ h0.size) (gn_o0 : n0 ≤ o0) (E_o0 : Exa Z h0 o0 "lavka/report/Summary") (F_recordsUnreadable : Fld Z h0 o0 "lavka/report/Summary" "recordsUnreadable" "J" (.long vu)) (F_recordsOfWrongType : Fld Z h0 o0 "lavka/report/Summary" "recordsOfWrongType" "J" (.long vt)) (F_recordsWritten : Fld Z h0 o0 "lavka/report/Summary" "recordsWritten" "J" (.long vw)) (F_fieldsConverted : Fld Z h0 o0 "lavka/report/Summary" "fieldsConverted" "J" (.long vc)) (F_fieldsNotConverted : Fld Z h0 o0 "lavka/report/Summary" "fieldsNotConverted" "J" (.long vn))  :
    MetFree l (⟨"lavka/report/Summary", "wrongType", "()V"⟩ : MethodName) (head1 (Jvm.Cond.code (⟨"lavka/report/Summary", "wrongType", "()V"⟩ : MethodName) prog_12_method_4_code 1 none :: ws) ({ frames := 0, cells := 0, slots := 0, locals := 0 } : Room)) (fun a U => a = #[(.ref o0)] ∧ Z.Warmed39 U.vm ∧ U.heap = h0) (fun _ _ _ _ _ => True) (fun _ U o U' => ∃ v L, o = .returned v ∧ QV none (fun h L => Fr n0 L ∧ Keep h0 h [o0] ∧ Exa Z h o0 "lavka/report/Summary" ∧ Fld Z h o0 "lavka/report/Summary" "recordsUnreadable" "J" (.long vu) ∧ Fld Z h o0 "lavka/report/Summary" "recordsOfWrongType" "J" (.long (vt + (1 : Int64))) ∧ Fld Z h o0 "lavka/report/Summary" "recordsWritten" "J" (.long vw) ∧ Fld Z h o0 "lavka/report/Summary" "fieldsConverted" "J" (.long vc) ∧ Fld Z h o0 "lavka/report/Summary" "fieldsNotConverted" "J" (.long vn)) v U'.heap L ∧ FrameEnd U o U' L ({ frames := 0, cells := 0, slots := 0, locals := 0 } : Room).cells ({ frames := 0, cells := 0, slots := 0, locals := 0 } : Room).slots) := by
  refine MetFree.of_bodySF (plainFor_of_name pn_0) hisR ?_
  intro p e s m args below meth c s₁ Bd hml0 hP hK
  obtain ⟨rfl, hZ, hh⟩ := hP
  have hx := Bd.exec
  have hby := Bd.bytes
  have hml : c.maxLocals = 1 := hml0
  have hown : s.vm.findClass "lavka/report/Summary" = some m.cls := findClass_of_methodNamed Bd.named
  have hnm := (name_of_methodNamed Bd.named Bd.method).1
  have hlk : meth.locks = false := BodyLoose.notSynchronized Bd
  have X0 : Stand p l e ({ frames := 0, cells := 0, slots := 0, locals := 0 } : Room) s m #[(.ref o0)] below meth c s₁ [] 0 0 := Stand.of_body Bd
  have e0 : s₁.heap = h0 := by rw [← hh, Bd.state]; rfl
  have N0 := Fr.nil n0
  refine Got.body (ef_6 m o0) ?_
  have K0 := Keep.refl h0 [o0]
  refine Got.step (T' := s₁) (g' := (mkF m 2 #[.val (.ref o0)] [(.ref o0), (.ref o0)])) (fun tq kt => ?_) ?_
  · show Steps p.tables e below (s₁.setTop (mkF m 0 #[.val (.ref o0)] [])) _
    refine XS.aloadN X0.here hx rfl (hb hby d6_0) rfl rfl ?_
    show Steps p.tables e below (s₁.setTop (mkF m 1 #[.val (.ref o0)] [(.ref o0)])) _
    refine XS.dup X0.here hx rfl (hb hby d6_1) rfl rfl ?_
    exact kt
  obtain ⟨T46, X46, e46, st46⟩ := getF X0 hx hZ hown (host := "") (Or.inl (hw _ (List.mem_of_getElem? (i := 16) rfl))) Via.refl e0 F_recordsOfWrongType (g := (mkF m 2 #[.val (.ref o0)] [(.ref o0), (.ref o0)])) rfl rfl (hb hby d6_2)
  refine Got.step st46 ?_
  show Got p e below s _ _ _ _ T46 (mkF m 5 #[.val (.ref o0)] [(.long vt), (.ref o0)])
  refine Got.step (T' := T46) (g' := (mkF m 7 #[.val (.ref o0)] [(.long (vt + (1 : Int64))), (.ref o0)])) (fun tq kt => ?_) ?_
  · show Steps p.tables e below (T46.setTop (mkF m 5 #[.val (.ref o0)] [(.long vt), (.ref o0)])) _
    refine XS.lconst X46.here hx rfl (hb hby d6_5) ?_
    show Steps p.tables e below (T46.setTop (mkF m 6 #[.val (.ref o0)] [(.long (1 : Int64)), (.long vt), (.ref o0)])) _
    refine XS.ladd X46.here hx rfl (hb hby d6_6) rfl ?_
    exact kt
  obtain ⟨T47, h47, X47, e47, W47, st47⟩ := putF X46 hx hZ hown (host := "") (Or.inl (hw _ (List.mem_of_getElem? (i := 16) rfl))) Via.refl e46 F_recordsOfWrongType E_o0 (Or.inl (hw _ (List.mem_of_getElem? (i := 17) rfl))) (hw _ (List.mem_of_getElem? (i := 1) rfl)) (ty := .long) (by decide) rfl rfl (g := (mkF m 7 #[.val (.ref o0)] [(.long (vt + (1 : Int64))), (.ref o0)])) rfl rfl (hb hby d6_7)
  have Z0_48 : n0 ≤ h47.size := (Nat.le_trans Z0 (Keep.of_wr W47).1)
  have K0_49 : Keep h0 h47 [o0] := (K0.wr W47 (Or.inl (List.mem_of_getElem? (i := 0) rfl)))
  have E_o0_50 : Exa Z h47 o0 "lavka/report/Summary" := (E_o0.wr W47)
  have F_recordsUnreadable_51 : Fld Z h47 o0 "lavka/report/Summary" "recordsUnreadable" "J" (.long vu) := (F_recordsUnreadable.other W47 (Or.inr (slot_ne (Or.inl (hw _ (List.mem_of_getElem? (i := 15) rfl))) (Or.inl (hw _ (List.mem_of_getElem? (i := 17) rfl))) (by decide) (t := .long) (t' := .long) (by decide) (by decide))))
  have F_recordsOfWrongType_52 : Fld Z h47 o0 "lavka/report/Summary" "recordsOfWrongType" "J" (.long (vt + (1 : Int64))) := (F_recordsOfWrongType.same W47)
  have F_recordsWritten_53 : Fld Z h47 o0 "lavka/report/Summary" "recordsWritten" "J" (.long vw) := (F_recordsWritten.other W47 (Or.inr (slot_ne (Or.inl (hw _ (List.mem_of_getElem? (i := 29) rfl))) (Or.inl (hw _ (List.mem_of_getElem? (i := 17) rfl))) (by decide) (t := .long) (t' := .long) (by decide) (by decide))))
  have F_fieldsConverted_54 : Fld Z h47 o0 "lavka/report/Summary" "fieldsConverted" "J" (.long vc) := (F_fieldsConverted.other W47 (Or.inr (slot_ne (Or.inl (hw _ (List.mem_of_getElem? (i := 31) rfl))) (Or.inl (hw _ (List.mem_of_getElem? (i := 17) rfl))) (by decide) (t := .long) (t' := .long) (by decide) (by decide))))
  have F_fieldsNotConverted_55 : Fld Z h47 o0 "lavka/report/Summary" "fieldsNotConverted" "J" (.long vn) := (F_fieldsNotConverted.other W47 (Or.inr (slot_ne (Or.inl (hw _ (List.mem_of_getElem? (i := 33) rfl))) (Or.inl (hw _ (List.mem_of_getElem? (i := 17) rfl))) (by decide) (t := .long) (t' := .long) (by decide) (by decide))))
  have N47 := Fr.snoc X47 N0 gn_o0
  refine Got.step st47 ?_
  show Got p e below s _ _ _ _ T47 (mkF m 10 #[.val (.ref o0)] [])
  exact Got.retV X47 hx Bd.returns hlk (hb hby d6_10) ⟨N47, by rw [e47]; exact K0_49, by rw [e47]; exact E_o0_50, by rw [e47]; exact F_recordsUnreadable_51, by rw [e47]; exact F_recordsOfWrongType_52, by rw [e47]; exact F_recordsWritten_53, by rw [e47]; exact F_fieldsConverted_54, by rw [e47]; exact F_fieldsNotConverted_55⟩ (by decide) (by decide)
theorem own_nn (x : Int32) : ¬ (x &&& (3 : Int32)) < 0 := by
  have h := c_and x 3 (by decide)
  rw [Int32.lt_iff_toInt_lt]
  have z : (0 : Int32).toInt = 0 := rfl
  omega
theorem own_lt1 {u : Int32} (hu : ¬ u < 0) : u < 1 ↔ u = 0 := by
  rw [Int32.lt_iff_toInt_lt] at hu
  rw [Int32.lt_iff_toInt_lt, ← Int32.toInt_inj]
  have z : (0 : Int32).toInt = 0 := rfl
  have z1 : (1 : Int32).toInt = 1 := rfl
  omega
theorem own_lt2 {u : Int32} (hu : ¬ u < 2) : ¬ u < 1 := by
  rw [Int32.lt_iff_toInt_lt] at *
  have z : (2 : Int32).toInt = 2 := rfl
  have z1 : (1 : Int32).toInt = 1 := rfl
  omega
theorem own_cnt {u : Int32} {a b : Int64} (hu : ¬ u < 0) (ha : a = (if u < (1 : Int32) then (0 : Int64) else ((0 : Int64) + (1 : Int64)))) (hb : b = (if u < (2 : Int32) then a else (a + (1 : Int64)))) : b = 0 ↔ u = 0 := by
  by_cases h1 : u < 1
  · have h2 : u < 2 := Decidable.by_contra fun h => own_lt2 h h1
    rw [hb, if_pos h2, ha, if_pos h1]
    exact ⟨fun _ => (own_lt1 hu).mp h1, fun _ => rfl⟩
  · have h3 : ¬ u = 0 := fun h => h1 ((own_lt1 hu).mpr h)
    rw [if_neg h1] at ha
    by_cases h2 : u < 2
    · rw [hb, if_pos h2, ha]; exact ⟨fun h => absurd h (by decide), fun h => absurd h h3⟩
    · rw [hb, if_neg h2, ha]; exact ⟨fun h => absurd h (by decide), fun h => absurd h h3⟩
theorem own_fin {u t k : Int32} {a b c d : Int64} (hu : ¬ u < 0) (ht : ¬ t < 0) (ha : a = (if u < (1 : Int32) then (0 : Int64) else ((0 : Int64) + (1 : Int64)))) (hb : b = (if u < (2 : Int32) then a else (a + (1 : Int64))))
    (hc : c = (if t < (1 : Int32) then (0 : Int64) else ((0 : Int64) + (1 : Int64)))) (hd : d = (if t < (2 : Int32) then c else (c + (1 : Int64)))) (hk : k = (if u = 0 then (if t = 0 then (1 : Int32) else (0 : Int32)) else (0 : Int32))) : f3 b d = k := by
  rw [f3, hk]
  by_cases h1 : u = 0
  · rw [if_pos ((own_cnt hu ha hb).mpr h1), if_pos h1]
    by_cases h2 : t = 0
    · rw [if_pos ((own_cnt ht hc hd).mpr h2), if_pos h2]
    · rw [if_neg (fun h => h2 ((own_cnt ht hc hd).mp h)), if_neg h2]
  · rw [if_neg (fun h => h1 ((own_cnt hu ha hb).mp h)), if_neg h1]

theorem pd_0 : parseMethodDescriptor "()V" = some ⟨[], none⟩ := by decide +kernel
theorem pd_1 : parseMethodDescriptor "()Z" = some ⟨[], some .boolean⟩ := by decide +kernel
theorem pd_2 : parseMethodDescriptor "(JJ)V" = some ⟨[.long, .long], none⟩ := by decide +kernel
theorem ef_0 (m : MethodId) (x0 : Int32) (x1 : Int64) (x2 : Int64) : entryFrame m #[(.int x0), (.long x1), (.long x2)] maxLocals = mkF m 0 #[.val (.int x0), .val (.long x1), .second, .val (.long x2), .second, .unset, .unset, .unset, .unset, .unset, .unset] [] := by first | (simp [entryFrame, mkF, argsToLocals, Value.category, maxLocals]; done) | rfl
theorem pn_1 : plainName "lavka/report/SummaryAllWrittenPinLaw" = true := by first | (simp [plainName, overriddenIn]; done) | decide +kernel
set_option maxRecDepth 65536 in
set_option maxHeartbeats 40000000 in
theorem rm0 (l : Launch) (Z : State) (a0 : Array Value) (hw : ∀ d ∈ tables_1, d.before a0 Z = true) (ws : List Jvm.Cond) (p0 : Int32) (q1 q2 : Int64) (h0 : Heap) (n0 : Nat) (Z0 : n0 ≤ h0.size)  :
    MetFree l x (head1 (Jvm.Cond.code x code maxLocals ret :: ws) room_1) (fun a U => a = #[(.int p0), (.long q1), (.long q2)] ∧ Z.Warmed39 U.vm ∧ U.heap = h0) (fun _ _ _ _ _ => True) (fun _ U o U' => ∃ v L, o = .returned v ∧ QV (some (.int (1 : Int32))) (fun _ L => Fr n0 L) v U'.heap L ∧ FrameEnd U o U' L room_1.cells room_1.slots) := by
  refine MetFree.of_bodySF (plainFor_of_name pn_1) hisR ?_
  intro p e s m args below meth c s₁ Bd hml0 hP hK
  obtain ⟨rfl, hZ, hh⟩ := hP
  have hx := Bd.exec
  have hby := Bd.bytes
  have hml : c.maxLocals = 11 := hml0
  have hown : s.vm.findClass "lavka/report/SummaryAllWrittenPinLaw" = some m.cls := findClass_of_methodNamed Bd.named
  have hnm := (name_of_methodNamed Bd.named Bd.method).1
  have hlk : meth.locks = false := BodyLoose.notSynchronized Bd
  have X0 : Stand p l e room_1 s m #[(.int p0), (.long q1), (.long q2)] below meth c s₁ [] 0 0 := Stand.of_body Bd
  have e0 : s₁.heap = h0 := by rw [← hh, Bd.state]; rfl
  have N0 := Fr.nil n0
  refine Got.body (ef_0 m p0 q1 q2) ?_
  refine Got.step (T' := s₁) (g' := (mkF m 19 #[.val (.int p0), .val (.long q1), .second, .val (.long q2), .second, .val (.int (p0 &&& (3 : Int32))), .val (.int (((p0.toUInt32 >>> ((2 : Int32) &&& 31).toUInt32).toInt32) &&& (3 : Int32))), .val (.int (((p0.toUInt32 >>> ((4 : Int32) &&& 31).toUInt32).toInt32) &&& (3 : Int32))), .unset, .unset, .unset] [])) (fun tq kt => ?_) ?_
  · show Steps p.tables e below (s₁.setTop (mkF m 0 #[.val (.int p0), .val (.long q1), .second, .val (.long q2), .second, .unset, .unset, .unset, .unset, .unset, .unset] [])) _
    refine XS.iloadN X0.here hx rfl (hb hby at_0) rfl ?_
    show Steps p.tables e below (s₁.setTop (mkF m 1 #[.val (.int p0), .val (.long q1), .second, .val (.long q2), .second, .unset, .unset, .unset, .unset, .unset, .unset] [(.int p0)])) _
    refine XS.iconst X0.here hx rfl (hb hby at_1) ?_
    show Steps p.tables e below (s₁.setTop (mkF m 2 #[.val (.int p0), .val (.long q1), .second, .val (.long q2), .second, .unset, .unset, .unset, .unset, .unset, .unset] [(.int (3 : Int32)), (.int p0)])) _
    refine XS.iand X0.here hx rfl (hb hby at_2) rfl ?_
    show Steps p.tables e below (s₁.setTop (mkF m 3 #[.val (.int p0), .val (.long q1), .second, .val (.long q2), .second, .unset, .unset, .unset, .unset, .unset, .unset] [(.int (p0 &&& (3 : Int32)))])) _
    refine XS.istore X0.here hx rfl (hb hby at_3) rfl (l' := #[.val (.int p0), .val (.long q1), .second, .val (.long q2), .second, .val (.int (p0 &&& (3 : Int32))), .unset, .unset, .unset, .unset, .unset]) rfl ?_
    show Steps p.tables e below (s₁.setTop (mkF m 5 #[.val (.int p0), .val (.long q1), .second, .val (.long q2), .second, .val (.int (p0 &&& (3 : Int32))), .unset, .unset, .unset, .unset, .unset] [])) _
    refine XS.iloadN X0.here hx rfl (hb hby at_5) rfl ?_
    show Steps p.tables e below (s₁.setTop (mkF m 6 #[.val (.int p0), .val (.long q1), .second, .val (.long q2), .second, .val (.int (p0 &&& (3 : Int32))), .unset, .unset, .unset, .unset, .unset] [(.int p0)])) _
    refine XS.iconst X0.here hx rfl (hb hby at_6) ?_
    show Steps p.tables e below (s₁.setTop (mkF m 7 #[.val (.int p0), .val (.long q1), .second, .val (.long q2), .second, .val (.int (p0 &&& (3 : Int32))), .unset, .unset, .unset, .unset, .unset] [(.int (2 : Int32)), (.int p0)])) _
    refine XS.iushr X0.here hx rfl (hb hby at_7) rfl ?_
    show Steps p.tables e below (s₁.setTop (mkF m 8 #[.val (.int p0), .val (.long q1), .second, .val (.long q2), .second, .val (.int (p0 &&& (3 : Int32))), .unset, .unset, .unset, .unset, .unset] [(.int ((p0.toUInt32 >>> ((2 : Int32) &&& 31).toUInt32).toInt32))])) _
    refine XS.iconst X0.here hx rfl (hb hby at_8) ?_
    show Steps p.tables e below (s₁.setTop (mkF m 9 #[.val (.int p0), .val (.long q1), .second, .val (.long q2), .second, .val (.int (p0 &&& (3 : Int32))), .unset, .unset, .unset, .unset, .unset] [(.int (3 : Int32)), (.int ((p0.toUInt32 >>> ((2 : Int32) &&& 31).toUInt32).toInt32))])) _
    refine XS.iand X0.here hx rfl (hb hby at_9) rfl ?_
    show Steps p.tables e below (s₁.setTop (mkF m 10 #[.val (.int p0), .val (.long q1), .second, .val (.long q2), .second, .val (.int (p0 &&& (3 : Int32))), .unset, .unset, .unset, .unset, .unset] [(.int (((p0.toUInt32 >>> ((2 : Int32) &&& 31).toUInt32).toInt32) &&& (3 : Int32)))])) _
    refine XS.istore X0.here hx rfl (hb hby at_10) rfl (l' := #[.val (.int p0), .val (.long q1), .second, .val (.long q2), .second, .val (.int (p0 &&& (3 : Int32))), .val (.int (((p0.toUInt32 >>> ((2 : Int32) &&& 31).toUInt32).toInt32) &&& (3 : Int32))), .unset, .unset, .unset, .unset]) rfl ?_
    show Steps p.tables e below (s₁.setTop (mkF m 12 #[.val (.int p0), .val (.long q1), .second, .val (.long q2), .second, .val (.int (p0 &&& (3 : Int32))), .val (.int (((p0.toUInt32 >>> ((2 : Int32) &&& 31).toUInt32).toInt32) &&& (3 : Int32))), .unset, .unset, .unset, .unset] [])) _
    refine XS.iloadN X0.here hx rfl (hb hby at_12) rfl ?_
    show Steps p.tables e below (s₁.setTop (mkF m 13 #[.val (.int p0), .val (.long q1), .second, .val (.long q2), .second, .val (.int (p0 &&& (3 : Int32))), .val (.int (((p0.toUInt32 >>> ((2 : Int32) &&& 31).toUInt32).toInt32) &&& (3 : Int32))), .unset, .unset, .unset, .unset] [(.int p0)])) _
    refine XS.iconst X0.here hx rfl (hb hby at_13) ?_
    show Steps p.tables e below (s₁.setTop (mkF m 14 #[.val (.int p0), .val (.long q1), .second, .val (.long q2), .second, .val (.int (p0 &&& (3 : Int32))), .val (.int (((p0.toUInt32 >>> ((2 : Int32) &&& 31).toUInt32).toInt32) &&& (3 : Int32))), .unset, .unset, .unset, .unset] [(.int (4 : Int32)), (.int p0)])) _
    refine XS.iushr X0.here hx rfl (hb hby at_14) rfl ?_
    show Steps p.tables e below (s₁.setTop (mkF m 15 #[.val (.int p0), .val (.long q1), .second, .val (.long q2), .second, .val (.int (p0 &&& (3 : Int32))), .val (.int (((p0.toUInt32 >>> ((2 : Int32) &&& 31).toUInt32).toInt32) &&& (3 : Int32))), .unset, .unset, .unset, .unset] [(.int ((p0.toUInt32 >>> ((4 : Int32) &&& 31).toUInt32).toInt32))])) _
    refine XS.iconst X0.here hx rfl (hb hby at_15) ?_
    show Steps p.tables e below (s₁.setTop (mkF m 16 #[.val (.int p0), .val (.long q1), .second, .val (.long q2), .second, .val (.int (p0 &&& (3 : Int32))), .val (.int (((p0.toUInt32 >>> ((2 : Int32) &&& 31).toUInt32).toInt32) &&& (3 : Int32))), .unset, .unset, .unset, .unset] [(.int (3 : Int32)), (.int ((p0.toUInt32 >>> ((4 : Int32) &&& 31).toUInt32).toInt32))])) _
    refine XS.iand X0.here hx rfl (hb hby at_16) rfl ?_
    show Steps p.tables e below (s₁.setTop (mkF m 17 #[.val (.int p0), .val (.long q1), .second, .val (.long q2), .second, .val (.int (p0 &&& (3 : Int32))), .val (.int (((p0.toUInt32 >>> ((2 : Int32) &&& 31).toUInt32).toInt32) &&& (3 : Int32))), .unset, .unset, .unset, .unset] [(.int (((p0.toUInt32 >>> ((4 : Int32) &&& 31).toUInt32).toInt32) &&& (3 : Int32)))])) _
    refine XS.istore X0.here hx rfl (hb hby at_17) rfl (l' := #[.val (.int p0), .val (.long q1), .second, .val (.long q2), .second, .val (.int (p0 &&& (3 : Int32))), .val (.int (((p0.toUInt32 >>> ((2 : Int32) &&& 31).toUInt32).toInt32) &&& (3 : Int32))), .val (.int (((p0.toUInt32 >>> ((4 : Int32) &&& 31).toUInt32).toInt32) &&& (3 : Int32))), .unset, .unset, .unset]) rfl ?_
    exact kt
  obtain ⟨T56, h56, X56, e56, E56, A56, D56, -, st56⟩ := newO X0 hx hZ hown (hw _ (List.mem_of_getElem? (i := 0) rfl)) (hw _ (List.mem_of_getElem? (i := 1) rfl)) (hw _ (List.mem_of_getElem? (i := 2) rfl)) e0 (g := (mkF m 19 #[.val (.int p0), .val (.long q1), .second, .val (.long q2), .second, .val (.int (p0 &&& (3 : Int32))), .val (.int (((p0.toUInt32 >>> ((2 : Int32) &&& 31).toUInt32).toInt32) &&& (3 : Int32))), .val (.int (((p0.toUInt32 >>> ((4 : Int32) &&& 31).toUInt32).toInt32) &&& (3 : Int32))), .unset, .unset, .unset] [])) rfl (hb hby at_19) (by decide) (by decide)
  obtain ⟨b56, g56⟩ : ∃ z, z = h0.size := ⟨_, rfl⟩
  rw [← g56] at A56 D56 st56
  have gn_b56 : n0 ≤ b56 := by rw [g56]; exact Z0
  have Z0_57 : n0 ≤ h56.size := (Nat.le_trans Z0 E56.1)
  have F56_recordsUnreadable : Fld Z h56 b56 "lavka/report/Summary" "recordsUnreadable" "J" (.long (0 : Int64)) := D56 (Or.inl (hw _ (List.mem_of_getElem? (i := 15) rfl))) (ty := .long) (by decide)
  have F56_recordsOfWrongType : Fld Z h56 b56 "lavka/report/Summary" "recordsOfWrongType" "J" (.long (0 : Int64)) := D56 (Or.inl (hw _ (List.mem_of_getElem? (i := 17) rfl))) (ty := .long) (by decide)
  have F56_recordsWritten : Fld Z h56 b56 "lavka/report/Summary" "recordsWritten" "J" (.long (0 : Int64)) := D56 (Or.inl (hw _ (List.mem_of_getElem? (i := 29) rfl))) (ty := .long) (by decide)
  have F56_fieldsConverted : Fld Z h56 b56 "lavka/report/Summary" "fieldsConverted" "J" (.long (0 : Int64)) := D56 (Or.inl (hw _ (List.mem_of_getElem? (i := 31) rfl))) (ty := .long) (by decide)
  have F56_fieldsNotConverted : Fld Z h56 b56 "lavka/report/Summary" "fieldsNotConverted" "J" (.long (0 : Int64)) := D56 (Or.inl (hw _ (List.mem_of_getElem? (i := 33) rfl))) (ty := .long) (by decide)
  refine Got.step st56 ?_
  show Got p e below s _ _ _ _ T56 (mkF m 22 #[.val (.int p0), .val (.long q1), .second, .val (.long q2), .second, .val (.int (p0 &&& (3 : Int32))), .val (.int (((p0.toUInt32 >>> ((2 : Int32) &&& 31).toUInt32).toInt32) &&& (3 : Int32))), .val (.int (((p0.toUInt32 >>> ((4 : Int32) &&& 31).toUInt32).toInt32) &&& (3 : Int32))), .unset, .unset, .unset] [(.ref b56)])
  refine Got.step (T' := T56) (g' := (mkF m 23 #[.val (.int p0), .val (.long q1), .second, .val (.long q2), .second, .val (.int (p0 &&& (3 : Int32))), .val (.int (((p0.toUInt32 >>> ((2 : Int32) &&& 31).toUInt32).toInt32) &&& (3 : Int32))), .val (.int (((p0.toUInt32 >>> ((4 : Int32) &&& 31).toUInt32).toInt32) &&& (3 : Int32))), .unset, .unset, .unset] [(.ref b56), (.ref b56)])) (fun tq kt => ?_) ?_
  · show Steps p.tables e below (T56.setTop (mkF m 22 #[.val (.int p0), .val (.long q1), .second, .val (.long q2), .second, .val (.int (p0 &&& (3 : Int32))), .val (.int (((p0.toUInt32 >>> ((2 : Int32) &&& 31).toUInt32).toInt32) &&& (3 : Int32))), .val (.int (((p0.toUInt32 >>> ((4 : Int32) &&& 31).toUInt32).toInt32) &&& (3 : Int32))), .unset, .unset, .unset] [(.ref b56)])) _
    refine XS.dup X56.here hx rfl (hb hby at_22) rfl rfl ?_
    exact kt
  obtain ⟨_, _, ⟨T58, L58, k58, n58⟩, -, X58, ⟨Lc58, hQ58, l58, y58, z58⟩, st58⟩ := X56.specialBack hx (y := (⟨"lavka/report/Summary", "<init>", "()V"⟩ : MethodName)) rfl hown (mvT hZ (hw _ (List.mem_of_getElem? (i := 3) rfl))) (mvT hZ (hw _ (List.mem_of_getElem? (i := 4) rfl))) (mvT hZ (hw _ (List.mem_of_getElem? (i := 5) rfl))) (by decide) (backOf (W := 1) (rm1 l Z a0 hw [] b56 h56 n0 Z0_57 gn_b56 A56 F56_recordsUnreadable F56_recordsOfWrongType F56_recordsWritten F56_fieldsConverted F56_fieldsNotConverted ) hZ (hw _ (List.mem_of_getElem? (i := 5) rfl)) (hw _ (List.mem_of_getElem? (i := 2) rfl)) (by decide) (by decide)) (g := (mkF m 23 #[.val (.int p0), .val (.long q1), .second, .val (.long q2), .second, .val (.int (p0 &&& (3 : Int32))), .val (.int (((p0.toUInt32 >>> ((2 : Int32) &&& 31).toUInt32).toInt32) &&& (3 : Int32))), .val (.int (((p0.toUInt32 >>> ((4 : Int32) &&& 31).toUInt32).toInt32) &&& (3 : Int32))), .unset, .unset, .unset] [(.ref b56), (.ref b56)])) rfl (by rw [hml]; rfl) (Steps.refl _) (a := b56) (argsL := []) (rest := [(.ref b56)]) (lenOf pd_0 rfl) rfl (by show 2 * 0 + _ ≤ _; exact Nat.le_of_eq rfl) (hb hby at_23) (fun _ _ => ⟨rfl, e56, (by decide : 1 + 0 ≤ _), (by decide : 5 + 0 ≤ _)⟩)
  dsimp only [Pt.U, Pt.locs, Pt.cells, Pt.slots] at X58 l58 y58 z58 st58 hQ58
  subst l58 y58 z58
  obtain ⟨h58, e58⟩ : ∃ z, T58.heap = z := ⟨_, rfl⟩
  rw [e58] at hQ58
  obtain ⟨rfl, Nq58, K58, E58, G58_recordsUnreadable, G58_recordsOfWrongType, G58_recordsWritten, G58_fieldsConverted, G58_fieldsNotConverted⟩ := hQ58
  have N58 := Fr.app N0 Nq58
  have Z0_59 : n0 ≤ h58.size := (Nat.le_trans Z0_57 K58.1)
  have A56_60 : Exa Z h58 b56 "lavka/report/Summary" := (A56.keep K58)
  refine Got.hop st58 ?_
  show Got p e below s _ _ _ _ T58 (mkF m 26 #[.val (.int p0), .val (.long q1), .second, .val (.long q2), .second, .val (.int (p0 &&& (3 : Int32))), .val (.int (((p0.toUInt32 >>> ((2 : Int32) &&& 31).toUInt32).toInt32) &&& (3 : Int32))), .val (.int (((p0.toUInt32 >>> ((4 : Int32) &&& 31).toUInt32).toInt32) &&& (3 : Int32))), .unset, .unset, .unset] [(.ref b56)])
  refine Got.step (T' := T58) (g' := (mkF m 30 #[.val (.int p0), .val (.long q1), .second, .val (.long q2), .second, .val (.int (p0 &&& (3 : Int32))), .val (.int (((p0.toUInt32 >>> ((2 : Int32) &&& 31).toUInt32).toInt32) &&& (3 : Int32))), .val (.int (((p0.toUInt32 >>> ((4 : Int32) &&& 31).toUInt32).toInt32) &&& (3 : Int32))), .val (.ref b56), .unset, .unset] [(.ref b56)])) (fun tq kt => ?_) ?_
  · show Steps p.tables e below (T58.setTop (mkF m 26 #[.val (.int p0), .val (.long q1), .second, .val (.long q2), .second, .val (.int (p0 &&& (3 : Int32))), .val (.int (((p0.toUInt32 >>> ((2 : Int32) &&& 31).toUInt32).toInt32) &&& (3 : Int32))), .val (.int (((p0.toUInt32 >>> ((4 : Int32) &&& 31).toUInt32).toInt32) &&& (3 : Int32))), .unset, .unset, .unset] [(.ref b56)])) _
    refine XS.astore X58.here hx rfl (hb hby at_26) rfl rfl (l' := #[.val (.int p0), .val (.long q1), .second, .val (.long q2), .second, .val (.int (p0 &&& (3 : Int32))), .val (.int (((p0.toUInt32 >>> ((2 : Int32) &&& 31).toUInt32).toInt32) &&& (3 : Int32))), .val (.int (((p0.toUInt32 >>> ((4 : Int32) &&& 31).toUInt32).toInt32) &&& (3 : Int32))), .val (.ref b56), .unset, .unset]) rfl ?_
    show Steps p.tables e below (T58.setTop (mkF m 28 #[.val (.int p0), .val (.long q1), .second, .val (.long q2), .second, .val (.int (p0 &&& (3 : Int32))), .val (.int (((p0.toUInt32 >>> ((2 : Int32) &&& 31).toUInt32).toInt32) &&& (3 : Int32))), .val (.int (((p0.toUInt32 >>> ((4 : Int32) &&& 31).toUInt32).toInt32) &&& (3 : Int32))), .val (.ref b56), .unset, .unset] [])) _
    refine XS.aload X58.here hx rfl (hb hby at_28) rfl rfl ?_
    exact kt
  obtain ⟨cq61, kq61, qa61, qb61, qc61⟩ := isOf hZ e58 A56_60
  obtain ⟨_, _, ⟨T61, L61, k61, n61⟩, -, X61, ⟨Lc61, hQ61, l61, y61, z61⟩, st61⟩ := X58.virtualBack hx (y := (⟨"lavka/report/Summary", "allWritten", "()Z"⟩ : MethodName)) (z := (⟨"lavka/report/Summary", "allWritten", "()Z"⟩ : MethodName)) hown (mvT hZ (hw _ (List.mem_of_getElem? (i := 9) rfl))) (mvT hZ (hw _ (List.mem_of_getElem? (i := 10) rfl))) (notFace_of_selects (args := #[]) (mvT hZ (hw _ (List.mem_of_getElem? (i := 12) rfl)))) (mvT hZ (hw _ (List.mem_of_getElem? (i := 12) rfl))) (mvT hZ (hw _ (List.mem_of_getElem? (i := 11) rfl))) (by decide) (backOf (W := 0) (rm3 l Z a0 hw [] b56 (0 : Int64) (0 : Int64) h58 n0 Z0_59 A56_60 G58_recordsUnreadable G58_recordsOfWrongType ) hZ (hw _ (List.mem_of_getElem? (i := 13) rfl)) (hw _ (List.mem_of_getElem? (i := 2) rfl)) (by decide) (by decide)) qa61 qc61 (g := (mkF m 30 #[.val (.int p0), .val (.long q1), .second, .val (.long q2), .second, .val (.int (p0 &&& (3 : Int32))), .val (.int (((p0.toUInt32 >>> ((2 : Int32) &&& 31).toUInt32).toInt32) &&& (3 : Int32))), .val (.int (((p0.toUInt32 >>> ((4 : Int32) &&& 31).toUInt32).toInt32) &&& (3 : Int32))), .val (.ref b56), .unset, .unset] [(.ref b56)])) rfl (by rw [hml]; rfl) (Steps.refl _) (argsL := []) (rest := []) (lenOf pd_1 rfl) rfl (by show 2 * 0 + _ ≤ _; exact Nat.le_of_eq rfl) (hb hby at_30) (fun _ _ => ⟨rfl, e58, (by decide : 1 + 0 ≤ _), (by decide : 5 + 0 ≤ _)⟩)
  dsimp only [Pt.U, Pt.locs, Pt.cells, Pt.slots] at X61 l61 y61 z61 st61 hQ61
  subst l61 y61 z61
  obtain ⟨rfl, Nq61, e61⟩ := hQ61
  have N61 := Fr.app N58 Nq61
  refine Got.hop st61 ?_
  show Got p e below s _ _ _ _ T61 (mkF m 33 #[.val (.int p0), .val (.long q1), .second, .val (.long q2), .second, .val (.int (p0 &&& (3 : Int32))), .val (.int (((p0.toUInt32 >>> ((2 : Int32) &&& 31).toUInt32).toInt32) &&& (3 : Int32))), .val (.int (((p0.toUInt32 >>> ((4 : Int32) &&& 31).toUInt32).toInt32) &&& (3 : Int32))), .val (.ref b56), .unset, .unset] [(.int (f3 (0 : Int64) (0 : Int64)))])
  refine Got.step (T' := T61) (g' := (mkF m 38 #[.val (.int p0), .val (.long q1), .second, .val (.long q2), .second, .val (.int (p0 &&& (3 : Int32))), .val (.int (((p0.toUInt32 >>> ((2 : Int32) &&& 31).toUInt32).toInt32) &&& (3 : Int32))), .val (.int (((p0.toUInt32 >>> ((4 : Int32) &&& 31).toUInt32).toInt32) &&& (3 : Int32))), .val (.ref b56), .val (.int (f3 (0 : Int64) (0 : Int64))), .unset] [(.int (1 : Int32)), (.int (p0 &&& (3 : Int32)))])) (fun tq kt => ?_) ?_
  · show Steps p.tables e below (T61.setTop (mkF m 33 #[.val (.int p0), .val (.long q1), .second, .val (.long q2), .second, .val (.int (p0 &&& (3 : Int32))), .val (.int (((p0.toUInt32 >>> ((2 : Int32) &&& 31).toUInt32).toInt32) &&& (3 : Int32))), .val (.int (((p0.toUInt32 >>> ((4 : Int32) &&& 31).toUInt32).toInt32) &&& (3 : Int32))), .val (.ref b56), .unset, .unset] [(.int (f3 (0 : Int64) (0 : Int64)))])) _
    refine XS.istore X61.here hx rfl (hb hby at_33) rfl (l' := #[.val (.int p0), .val (.long q1), .second, .val (.long q2), .second, .val (.int (p0 &&& (3 : Int32))), .val (.int (((p0.toUInt32 >>> ((2 : Int32) &&& 31).toUInt32).toInt32) &&& (3 : Int32))), .val (.int (((p0.toUInt32 >>> ((4 : Int32) &&& 31).toUInt32).toInt32) &&& (3 : Int32))), .val (.ref b56), .val (.int (f3 (0 : Int64) (0 : Int64))), .unset]) rfl ?_
    show Steps p.tables e below (T61.setTop (mkF m 35 #[.val (.int p0), .val (.long q1), .second, .val (.long q2), .second, .val (.int (p0 &&& (3 : Int32))), .val (.int (((p0.toUInt32 >>> ((2 : Int32) &&& 31).toUInt32).toInt32) &&& (3 : Int32))), .val (.int (((p0.toUInt32 >>> ((4 : Int32) &&& 31).toUInt32).toInt32) &&& (3 : Int32))), .val (.ref b56), .val (.int (f3 (0 : Int64) (0 : Int64))), .unset] [])) _
    refine XS.iload X61.here hx rfl (hb hby at_35) rfl ?_
    show Steps p.tables e below (T61.setTop (mkF m 37 #[.val (.int p0), .val (.long q1), .second, .val (.long q2), .second, .val (.int (p0 &&& (3 : Int32))), .val (.int (((p0.toUInt32 >>> ((2 : Int32) &&& 31).toUInt32).toInt32) &&& (3 : Int32))), .val (.int (((p0.toUInt32 >>> ((4 : Int32) &&& 31).toUInt32).toInt32) &&& (3 : Int32))), .val (.ref b56), .val (.int (f3 (0 : Int64) (0 : Int64))), .unset] [(.int (p0 &&& (3 : Int32)))])) _
    refine XS.iconst X61.here hx rfl (hb hby at_37) ?_
    exact kt
  have J62 : ∀ (T62 : State) (h62 : Heap) (L62 : List Loc), Stand p l e room_1 s m #[(.int p0), (.long q1), (.long q2)] below meth c T62 L62 1 5 → T62.heap = h62 → Fr n0 L62 → ∀ (w62_b56_recordsWritten : Int64), w62_b56_recordsWritten = (if (p0 &&& (3 : Int32)) < (1 : Int32) then (0 : Int64) else ((0 : Int64) + (1 : Int64))) → ∀ (w62_b56_fieldsConverted : Int64), w62_b56_fieldsConverted = (if (p0 &&& (3 : Int32)) < (1 : Int32) then (0 : Int64) else ((0 : Int64) + q1)) → ∀ (w62_b56_fieldsNotConverted : Int64), w62_b56_fieldsNotConverted = (if (p0 &&& (3 : Int32)) < (1 : Int32) then (0 : Int64) else ((0 : Int64) + q2)) → n0 ≤ h62.size → Exa Z h62 b56 "lavka/report/Summary" → Fld Z h62 b56 "lavka/report/Summary" "recordsUnreadable" "J" (.long (0 : Int64)) → Fld Z h62 b56 "lavka/report/Summary" "recordsOfWrongType" "J" (.long (0 : Int64)) → Fld Z h62 b56 "lavka/report/Summary" "recordsWritten" "J" (.long w62_b56_recordsWritten) → Fld Z h62 b56 "lavka/report/Summary" "fieldsConverted" "J" (.long w62_b56_fieldsConverted) → Fld Z h62 b56 "lavka/report/Summary" "fieldsNotConverted" "J" (.long w62_b56_fieldsNotConverted) → Got p e below s (fun _ L => Fr n0 L) room_1.cells room_1.slots (some (.int (1 : Int32))) T62 (mkF m 48 #[.val (.int p0), .val (.long q1), .second, .val (.long q2), .second, .val (.int (p0 &&& (3 : Int32))), .val (.int (((p0.toUInt32 >>> ((2 : Int32) &&& 31).toUInt32).toInt32) &&& (3 : Int32))), .val (.int (((p0.toUInt32 >>> ((4 : Int32) &&& 31).toUInt32).toInt32) &&& (3 : Int32))), .val (.ref b56), .val (.int (f3 (0 : Int64) (0 : Int64))), .unset] []) := by
    intro T62 h62 L62 X62 e62 N62 w62_b56_recordsWritten hw62_b56_recordsWritten w62_b56_fieldsConverted hw62_b56_fieldsConverted w62_b56_fieldsNotConverted hw62_b56_fieldsNotConverted Z0_67 A56_68 G58_recordsUnreadable_69 G58_recordsOfWrongType_70 G58_recordsWritten_71 G58_fieldsConverted_72 G58_fieldsNotConverted_73
    refine Got.step (T' := T62) (g' := (mkF m 51 #[.val (.int p0), .val (.long q1), .second, .val (.long q2), .second, .val (.int (p0 &&& (3 : Int32))), .val (.int (((p0.toUInt32 >>> ((2 : Int32) &&& 31).toUInt32).toInt32) &&& (3 : Int32))), .val (.int (((p0.toUInt32 >>> ((4 : Int32) &&& 31).toUInt32).toInt32) &&& (3 : Int32))), .val (.ref b56), .val (.int (f3 (0 : Int64) (0 : Int64))), .unset] [(.int (2 : Int32)), (.int (p0 &&& (3 : Int32)))])) (fun tq kt => ?_) ?_
    · show Steps p.tables e below (T62.setTop (mkF m 48 #[.val (.int p0), .val (.long q1), .second, .val (.long q2), .second, .val (.int (p0 &&& (3 : Int32))), .val (.int (((p0.toUInt32 >>> ((2 : Int32) &&& 31).toUInt32).toInt32) &&& (3 : Int32))), .val (.int (((p0.toUInt32 >>> ((4 : Int32) &&& 31).toUInt32).toInt32) &&& (3 : Int32))), .val (.ref b56), .val (.int (f3 (0 : Int64) (0 : Int64))), .unset] [])) _
      refine XS.iload X62.here hx rfl (hb hby at_48) rfl ?_
      show Steps p.tables e below (T62.setTop (mkF m 50 #[.val (.int p0), .val (.long q1), .second, .val (.long q2), .second, .val (.int (p0 &&& (3 : Int32))), .val (.int (((p0.toUInt32 >>> ((2 : Int32) &&& 31).toUInt32).toInt32) &&& (3 : Int32))), .val (.int (((p0.toUInt32 >>> ((4 : Int32) &&& 31).toUInt32).toInt32) &&& (3 : Int32))), .val (.ref b56), .val (.int (f3 (0 : Int64) (0 : Int64))), .unset] [(.int (p0 &&& (3 : Int32)))])) _
      refine XS.iconst X62.here hx rfl (hb hby at_50) ?_
      exact kt
    have J74 : ∀ (T74 : State) (h74 : Heap) (L74 : List Loc), Stand p l e room_1 s m #[(.int p0), (.long q1), (.long q2)] below meth c T74 L74 1 5 → T74.heap = h74 → Fr n0 L74 → ∀ (w74_b56_recordsWritten : Int64), w74_b56_recordsWritten = (if (p0 &&& (3 : Int32)) < (2 : Int32) then w62_b56_recordsWritten else (w62_b56_recordsWritten + (1 : Int64))) → ∀ (w74_b56_fieldsConverted : Int64), w74_b56_fieldsConverted = (if (p0 &&& (3 : Int32)) < (2 : Int32) then w62_b56_fieldsConverted else (w62_b56_fieldsConverted + q2)) → ∀ (w74_b56_fieldsNotConverted : Int64), w74_b56_fieldsNotConverted = (if (p0 &&& (3 : Int32)) < (2 : Int32) then w62_b56_fieldsNotConverted else (w62_b56_fieldsNotConverted + q1)) → n0 ≤ h74.size → Exa Z h74 b56 "lavka/report/Summary" → Fld Z h74 b56 "lavka/report/Summary" "recordsUnreadable" "J" (.long (0 : Int64)) → Fld Z h74 b56 "lavka/report/Summary" "recordsOfWrongType" "J" (.long (0 : Int64)) → Fld Z h74 b56 "lavka/report/Summary" "recordsWritten" "J" (.long w74_b56_recordsWritten) → Fld Z h74 b56 "lavka/report/Summary" "fieldsConverted" "J" (.long w74_b56_fieldsConverted) → Fld Z h74 b56 "lavka/report/Summary" "fieldsNotConverted" "J" (.long w74_b56_fieldsNotConverted) → Got p e below s (fun _ L => Fr n0 L) room_1.cells room_1.slots (some (.int (1 : Int32))) T74 (mkF m 61 #[.val (.int p0), .val (.long q1), .second, .val (.long q2), .second, .val (.int (p0 &&& (3 : Int32))), .val (.int (((p0.toUInt32 >>> ((2 : Int32) &&& 31).toUInt32).toInt32) &&& (3 : Int32))), .val (.int (((p0.toUInt32 >>> ((4 : Int32) &&& 31).toUInt32).toInt32) &&& (3 : Int32))), .val (.ref b56), .val (.int (f3 (0 : Int64) (0 : Int64))), .unset] []) := by
      intro T74 h74 L74 X74 e74 N74 w74_b56_recordsWritten hw74_b56_recordsWritten w74_b56_fieldsConverted hw74_b56_fieldsConverted w74_b56_fieldsNotConverted hw74_b56_fieldsNotConverted Z0_79 A56_80 G58_recordsUnreadable_81 G58_recordsOfWrongType_82 G58_recordsWritten_83 G58_fieldsConverted_84 G58_fieldsNotConverted_85
      refine Got.step (T' := T74) (g' := (mkF m 64 #[.val (.int p0), .val (.long q1), .second, .val (.long q2), .second, .val (.int (p0 &&& (3 : Int32))), .val (.int (((p0.toUInt32 >>> ((2 : Int32) &&& 31).toUInt32).toInt32) &&& (3 : Int32))), .val (.int (((p0.toUInt32 >>> ((4 : Int32) &&& 31).toUInt32).toInt32) &&& (3 : Int32))), .val (.ref b56), .val (.int (f3 (0 : Int64) (0 : Int64))), .unset] [(.int (1 : Int32)), (.int (((p0.toUInt32 >>> ((2 : Int32) &&& 31).toUInt32).toInt32) &&& (3 : Int32)))])) (fun tq kt => ?_) ?_
      · show Steps p.tables e below (T74.setTop (mkF m 61 #[.val (.int p0), .val (.long q1), .second, .val (.long q2), .second, .val (.int (p0 &&& (3 : Int32))), .val (.int (((p0.toUInt32 >>> ((2 : Int32) &&& 31).toUInt32).toInt32) &&& (3 : Int32))), .val (.int (((p0.toUInt32 >>> ((4 : Int32) &&& 31).toUInt32).toInt32) &&& (3 : Int32))), .val (.ref b56), .val (.int (f3 (0 : Int64) (0 : Int64))), .unset] [])) _
        refine XS.iload X74.here hx rfl (hb hby at_61) rfl ?_
        show Steps p.tables e below (T74.setTop (mkF m 63 #[.val (.int p0), .val (.long q1), .second, .val (.long q2), .second, .val (.int (p0 &&& (3 : Int32))), .val (.int (((p0.toUInt32 >>> ((2 : Int32) &&& 31).toUInt32).toInt32) &&& (3 : Int32))), .val (.int (((p0.toUInt32 >>> ((4 : Int32) &&& 31).toUInt32).toInt32) &&& (3 : Int32))), .val (.ref b56), .val (.int (f3 (0 : Int64) (0 : Int64))), .unset] [(.int (((p0.toUInt32 >>> ((2 : Int32) &&& 31).toUInt32).toInt32) &&& (3 : Int32)))])) _
        refine XS.iconst X74.here hx rfl (hb hby at_63) ?_
        exact kt
      have J86 : ∀ (T86 : State) (h86 : Heap) (L86 : List Loc), Stand p l e room_1 s m #[(.int p0), (.long q1), (.long q2)] below meth c T86 L86 1 5 → T86.heap = h86 → Fr n0 L86 → ∀ (w86_b56_recordsUnreadable : Int64), w86_b56_recordsUnreadable = (if (((p0.toUInt32 >>> ((2 : Int32) &&& 31).toUInt32).toInt32) &&& (3 : Int32)) < (1 : Int32) then (0 : Int64) else ((0 : Int64) + (1 : Int64))) → n0 ≤ h86.size → Exa Z h86 b56 "lavka/report/Summary" → Fld Z h86 b56 "lavka/report/Summary" "recordsUnreadable" "J" (.long w86_b56_recordsUnreadable) → Fld Z h86 b56 "lavka/report/Summary" "recordsOfWrongType" "J" (.long (0 : Int64)) → Fld Z h86 b56 "lavka/report/Summary" "recordsWritten" "J" (.long w74_b56_recordsWritten) → Fld Z h86 b56 "lavka/report/Summary" "fieldsConverted" "J" (.long w74_b56_fieldsConverted) → Fld Z h86 b56 "lavka/report/Summary" "fieldsNotConverted" "J" (.long w74_b56_fieldsNotConverted) → Got p e below s (fun _ L => Fr n0 L) room_1.cells room_1.slots (some (.int (1 : Int32))) T86 (mkF m 72 #[.val (.int p0), .val (.long q1), .second, .val (.long q2), .second, .val (.int (p0 &&& (3 : Int32))), .val (.int (((p0.toUInt32 >>> ((2 : Int32) &&& 31).toUInt32).toInt32) &&& (3 : Int32))), .val (.int (((p0.toUInt32 >>> ((4 : Int32) &&& 31).toUInt32).toInt32) &&& (3 : Int32))), .val (.ref b56), .val (.int (f3 (0 : Int64) (0 : Int64))), .unset] []) := by
        intro T86 h86 L86 X86 e86 N86 w86_b56_recordsUnreadable hw86_b56_recordsUnreadable Z0_91 A56_92 G58_recordsUnreadable_93 G58_recordsOfWrongType_94 G58_recordsWritten_95 G58_fieldsConverted_96 G58_fieldsNotConverted_97
        refine Got.step (T' := T86) (g' := (mkF m 75 #[.val (.int p0), .val (.long q1), .second, .val (.long q2), .second, .val (.int (p0 &&& (3 : Int32))), .val (.int (((p0.toUInt32 >>> ((2 : Int32) &&& 31).toUInt32).toInt32) &&& (3 : Int32))), .val (.int (((p0.toUInt32 >>> ((4 : Int32) &&& 31).toUInt32).toInt32) &&& (3 : Int32))), .val (.ref b56), .val (.int (f3 (0 : Int64) (0 : Int64))), .unset] [(.int (2 : Int32)), (.int (((p0.toUInt32 >>> ((2 : Int32) &&& 31).toUInt32).toInt32) &&& (3 : Int32)))])) (fun tq kt => ?_) ?_
        · show Steps p.tables e below (T86.setTop (mkF m 72 #[.val (.int p0), .val (.long q1), .second, .val (.long q2), .second, .val (.int (p0 &&& (3 : Int32))), .val (.int (((p0.toUInt32 >>> ((2 : Int32) &&& 31).toUInt32).toInt32) &&& (3 : Int32))), .val (.int (((p0.toUInt32 >>> ((4 : Int32) &&& 31).toUInt32).toInt32) &&& (3 : Int32))), .val (.ref b56), .val (.int (f3 (0 : Int64) (0 : Int64))), .unset] [])) _
          refine XS.iload X86.here hx rfl (hb hby at_72) rfl ?_
          show Steps p.tables e below (T86.setTop (mkF m 74 #[.val (.int p0), .val (.long q1), .second, .val (.long q2), .second, .val (.int (p0 &&& (3 : Int32))), .val (.int (((p0.toUInt32 >>> ((2 : Int32) &&& 31).toUInt32).toInt32) &&& (3 : Int32))), .val (.int (((p0.toUInt32 >>> ((4 : Int32) &&& 31).toUInt32).toInt32) &&& (3 : Int32))), .val (.ref b56), .val (.int (f3 (0 : Int64) (0 : Int64))), .unset] [(.int (((p0.toUInt32 >>> ((2 : Int32) &&& 31).toUInt32).toInt32) &&& (3 : Int32)))])) _
          refine XS.iconst X86.here hx rfl (hb hby at_74) ?_
          exact kt
        have J98 : ∀ (T98 : State) (h98 : Heap) (L98 : List Loc), Stand p l e room_1 s m #[(.int p0), (.long q1), (.long q2)] below meth c T98 L98 1 5 → T98.heap = h98 → Fr n0 L98 → ∀ (w98_b56_recordsUnreadable : Int64), w98_b56_recordsUnreadable = (if (((p0.toUInt32 >>> ((2 : Int32) &&& 31).toUInt32).toInt32) &&& (3 : Int32)) < (2 : Int32) then w86_b56_recordsUnreadable else (w86_b56_recordsUnreadable + (1 : Int64))) → n0 ≤ h98.size → Exa Z h98 b56 "lavka/report/Summary" → Fld Z h98 b56 "lavka/report/Summary" "recordsUnreadable" "J" (.long w98_b56_recordsUnreadable) → Fld Z h98 b56 "lavka/report/Summary" "recordsOfWrongType" "J" (.long (0 : Int64)) → Fld Z h98 b56 "lavka/report/Summary" "recordsWritten" "J" (.long w74_b56_recordsWritten) → Fld Z h98 b56 "lavka/report/Summary" "fieldsConverted" "J" (.long w74_b56_fieldsConverted) → Fld Z h98 b56 "lavka/report/Summary" "fieldsNotConverted" "J" (.long w74_b56_fieldsNotConverted) → Got p e below s (fun _ L => Fr n0 L) room_1.cells room_1.slots (some (.int (1 : Int32))) T98 (mkF m 83 #[.val (.int p0), .val (.long q1), .second, .val (.long q2), .second, .val (.int (p0 &&& (3 : Int32))), .val (.int (((p0.toUInt32 >>> ((2 : Int32) &&& 31).toUInt32).toInt32) &&& (3 : Int32))), .val (.int (((p0.toUInt32 >>> ((4 : Int32) &&& 31).toUInt32).toInt32) &&& (3 : Int32))), .val (.ref b56), .val (.int (f3 (0 : Int64) (0 : Int64))), .unset] []) := by
          intro T98 h98 L98 X98 e98 N98 w98_b56_recordsUnreadable hw98_b56_recordsUnreadable Z0_103 A56_104 G58_recordsUnreadable_105 G58_recordsOfWrongType_106 G58_recordsWritten_107 G58_fieldsConverted_108 G58_fieldsNotConverted_109
          refine Got.step (T' := T98) (g' := (mkF m 86 #[.val (.int p0), .val (.long q1), .second, .val (.long q2), .second, .val (.int (p0 &&& (3 : Int32))), .val (.int (((p0.toUInt32 >>> ((2 : Int32) &&& 31).toUInt32).toInt32) &&& (3 : Int32))), .val (.int (((p0.toUInt32 >>> ((4 : Int32) &&& 31).toUInt32).toInt32) &&& (3 : Int32))), .val (.ref b56), .val (.int (f3 (0 : Int64) (0 : Int64))), .unset] [(.int (1 : Int32)), (.int (((p0.toUInt32 >>> ((4 : Int32) &&& 31).toUInt32).toInt32) &&& (3 : Int32)))])) (fun tq kt => ?_) ?_
          · show Steps p.tables e below (T98.setTop (mkF m 83 #[.val (.int p0), .val (.long q1), .second, .val (.long q2), .second, .val (.int (p0 &&& (3 : Int32))), .val (.int (((p0.toUInt32 >>> ((2 : Int32) &&& 31).toUInt32).toInt32) &&& (3 : Int32))), .val (.int (((p0.toUInt32 >>> ((4 : Int32) &&& 31).toUInt32).toInt32) &&& (3 : Int32))), .val (.ref b56), .val (.int (f3 (0 : Int64) (0 : Int64))), .unset] [])) _
            refine XS.iload X98.here hx rfl (hb hby at_83) rfl ?_
            show Steps p.tables e below (T98.setTop (mkF m 85 #[.val (.int p0), .val (.long q1), .second, .val (.long q2), .second, .val (.int (p0 &&& (3 : Int32))), .val (.int (((p0.toUInt32 >>> ((2 : Int32) &&& 31).toUInt32).toInt32) &&& (3 : Int32))), .val (.int (((p0.toUInt32 >>> ((4 : Int32) &&& 31).toUInt32).toInt32) &&& (3 : Int32))), .val (.ref b56), .val (.int (f3 (0 : Int64) (0 : Int64))), .unset] [(.int (((p0.toUInt32 >>> ((4 : Int32) &&& 31).toUInt32).toInt32) &&& (3 : Int32)))])) _
            refine XS.iconst X98.here hx rfl (hb hby at_85) ?_
            exact kt
          have J110 : ∀ (T110 : State) (h110 : Heap) (L110 : List Loc), Stand p l e room_1 s m #[(.int p0), (.long q1), (.long q2)] below meth c T110 L110 1 5 → T110.heap = h110 → Fr n0 L110 → ∀ (w110_b56_recordsOfWrongType : Int64), w110_b56_recordsOfWrongType = (if (((p0.toUInt32 >>> ((4 : Int32) &&& 31).toUInt32).toInt32) &&& (3 : Int32)) < (1 : Int32) then (0 : Int64) else ((0 : Int64) + (1 : Int64))) → n0 ≤ h110.size → Exa Z h110 b56 "lavka/report/Summary" → Fld Z h110 b56 "lavka/report/Summary" "recordsUnreadable" "J" (.long w98_b56_recordsUnreadable) → Fld Z h110 b56 "lavka/report/Summary" "recordsOfWrongType" "J" (.long w110_b56_recordsOfWrongType) → Fld Z h110 b56 "lavka/report/Summary" "recordsWritten" "J" (.long w74_b56_recordsWritten) → Fld Z h110 b56 "lavka/report/Summary" "fieldsConverted" "J" (.long w74_b56_fieldsConverted) → Fld Z h110 b56 "lavka/report/Summary" "fieldsNotConverted" "J" (.long w74_b56_fieldsNotConverted) → Got p e below s (fun _ L => Fr n0 L) room_1.cells room_1.slots (some (.int (1 : Int32))) T110 (mkF m 94 #[.val (.int p0), .val (.long q1), .second, .val (.long q2), .second, .val (.int (p0 &&& (3 : Int32))), .val (.int (((p0.toUInt32 >>> ((2 : Int32) &&& 31).toUInt32).toInt32) &&& (3 : Int32))), .val (.int (((p0.toUInt32 >>> ((4 : Int32) &&& 31).toUInt32).toInt32) &&& (3 : Int32))), .val (.ref b56), .val (.int (f3 (0 : Int64) (0 : Int64))), .unset] []) := by
            intro T110 h110 L110 X110 e110 N110 w110_b56_recordsOfWrongType hw110_b56_recordsOfWrongType Z0_115 A56_116 G58_recordsUnreadable_117 G58_recordsOfWrongType_118 G58_recordsWritten_119 G58_fieldsConverted_120 G58_fieldsNotConverted_121
            refine Got.step (T' := T110) (g' := (mkF m 97 #[.val (.int p0), .val (.long q1), .second, .val (.long q2), .second, .val (.int (p0 &&& (3 : Int32))), .val (.int (((p0.toUInt32 >>> ((2 : Int32) &&& 31).toUInt32).toInt32) &&& (3 : Int32))), .val (.int (((p0.toUInt32 >>> ((4 : Int32) &&& 31).toUInt32).toInt32) &&& (3 : Int32))), .val (.ref b56), .val (.int (f3 (0 : Int64) (0 : Int64))), .unset] [(.int (2 : Int32)), (.int (((p0.toUInt32 >>> ((4 : Int32) &&& 31).toUInt32).toInt32) &&& (3 : Int32)))])) (fun tq kt => ?_) ?_
            · show Steps p.tables e below (T110.setTop (mkF m 94 #[.val (.int p0), .val (.long q1), .second, .val (.long q2), .second, .val (.int (p0 &&& (3 : Int32))), .val (.int (((p0.toUInt32 >>> ((2 : Int32) &&& 31).toUInt32).toInt32) &&& (3 : Int32))), .val (.int (((p0.toUInt32 >>> ((4 : Int32) &&& 31).toUInt32).toInt32) &&& (3 : Int32))), .val (.ref b56), .val (.int (f3 (0 : Int64) (0 : Int64))), .unset] [])) _
              refine XS.iload X110.here hx rfl (hb hby at_94) rfl ?_
              show Steps p.tables e below (T110.setTop (mkF m 96 #[.val (.int p0), .val (.long q1), .second, .val (.long q2), .second, .val (.int (p0 &&& (3 : Int32))), .val (.int (((p0.toUInt32 >>> ((2 : Int32) &&& 31).toUInt32).toInt32) &&& (3 : Int32))), .val (.int (((p0.toUInt32 >>> ((4 : Int32) &&& 31).toUInt32).toInt32) &&& (3 : Int32))), .val (.ref b56), .val (.int (f3 (0 : Int64) (0 : Int64))), .unset] [(.int (((p0.toUInt32 >>> ((4 : Int32) &&& 31).toUInt32).toInt32) &&& (3 : Int32)))])) _
              refine XS.iconst X110.here hx rfl (hb hby at_96) ?_
              exact kt
            have J122 : ∀ (T122 : State) (h122 : Heap) (L122 : List Loc), Stand p l e room_1 s m #[(.int p0), (.long q1), (.long q2)] below meth c T122 L122 1 5 → T122.heap = h122 → Fr n0 L122 → ∀ (w122_b56_recordsOfWrongType : Int64), w122_b56_recordsOfWrongType = (if (((p0.toUInt32 >>> ((4 : Int32) &&& 31).toUInt32).toInt32) &&& (3 : Int32)) < (2 : Int32) then w110_b56_recordsOfWrongType else (w110_b56_recordsOfWrongType + (1 : Int64))) → n0 ≤ h122.size → Exa Z h122 b56 "lavka/report/Summary" → Fld Z h122 b56 "lavka/report/Summary" "recordsUnreadable" "J" (.long w98_b56_recordsUnreadable) → Fld Z h122 b56 "lavka/report/Summary" "recordsOfWrongType" "J" (.long w122_b56_recordsOfWrongType) → Fld Z h122 b56 "lavka/report/Summary" "recordsWritten" "J" (.long w74_b56_recordsWritten) → Fld Z h122 b56 "lavka/report/Summary" "fieldsConverted" "J" (.long w74_b56_fieldsConverted) → Fld Z h122 b56 "lavka/report/Summary" "fieldsNotConverted" "J" (.long w74_b56_fieldsNotConverted) → Got p e below s (fun _ L => Fr n0 L) room_1.cells room_1.slots (some (.int (1 : Int32))) T122 (mkF m 105 #[.val (.int p0), .val (.long q1), .second, .val (.long q2), .second, .val (.int (p0 &&& (3 : Int32))), .val (.int (((p0.toUInt32 >>> ((2 : Int32) &&& 31).toUInt32).toInt32) &&& (3 : Int32))), .val (.int (((p0.toUInt32 >>> ((4 : Int32) &&& 31).toUInt32).toInt32) &&& (3 : Int32))), .val (.ref b56), .val (.int (f3 (0 : Int64) (0 : Int64))), .unset] []) := by
              intro T122 h122 L122 X122 e122 N122 w122_b56_recordsOfWrongType hw122_b56_recordsOfWrongType Z0_127 A56_128 G58_recordsUnreadable_129 G58_recordsOfWrongType_130 G58_recordsWritten_131 G58_fieldsConverted_132 G58_fieldsNotConverted_133
              refine Got.step (T' := T122) (g' := (mkF m 107 #[.val (.int p0), .val (.long q1), .second, .val (.long q2), .second, .val (.int (p0 &&& (3 : Int32))), .val (.int (((p0.toUInt32 >>> ((2 : Int32) &&& 31).toUInt32).toInt32) &&& (3 : Int32))), .val (.int (((p0.toUInt32 >>> ((4 : Int32) &&& 31).toUInt32).toInt32) &&& (3 : Int32))), .val (.ref b56), .val (.int (f3 (0 : Int64) (0 : Int64))), .unset] [(.int (((p0.toUInt32 >>> ((2 : Int32) &&& 31).toUInt32).toInt32) &&& (3 : Int32)))])) (fun tq kt => ?_) ?_
              · show Steps p.tables e below (T122.setTop (mkF m 105 #[.val (.int p0), .val (.long q1), .second, .val (.long q2), .second, .val (.int (p0 &&& (3 : Int32))), .val (.int (((p0.toUInt32 >>> ((2 : Int32) &&& 31).toUInt32).toInt32) &&& (3 : Int32))), .val (.int (((p0.toUInt32 >>> ((4 : Int32) &&& 31).toUInt32).toInt32) &&& (3 : Int32))), .val (.ref b56), .val (.int (f3 (0 : Int64) (0 : Int64))), .unset] [])) _
                refine XS.iload X122.here hx rfl (hb hby at_105) rfl ?_
                exact kt
              have J134 : ∀ (k134_0 : Int32), k134_0 = (if (((p0.toUInt32 >>> ((2 : Int32) &&& 31).toUInt32).toInt32) &&& (3 : Int32)) = 0 then (if (((p0.toUInt32 >>> ((4 : Int32) &&& 31).toUInt32).toInt32) &&& (3 : Int32)) = 0 then (1 : Int32) else (0 : Int32)) else (0 : Int32)) → Got p e below s (fun _ L => Fr n0 L) room_1.cells room_1.slots (some (.int (1 : Int32))) T122 (mkF m 120 #[.val (.int p0), .val (.long q1), .second, .val (.long q2), .second, .val (.int (p0 &&& (3 : Int32))), .val (.int (((p0.toUInt32 >>> ((2 : Int32) &&& 31).toUInt32).toInt32) &&& (3 : Int32))), .val (.int (((p0.toUInt32 >>> ((4 : Int32) &&& 31).toUInt32).toInt32) &&& (3 : Int32))), .val (.ref b56), .val (.int (f3 (0 : Int64) (0 : Int64))), .unset] [(.int k134_0)]) := by
                intro k134_0 hk134_0
                refine Got.step (T' := T122) (g' := (mkF m 129 #[.val (.int p0), .val (.long q1), .second, .val (.long q2), .second, .val (.int (p0 &&& (3 : Int32))), .val (.int (((p0.toUInt32 >>> ((2 : Int32) &&& 31).toUInt32).toInt32) &&& (3 : Int32))), .val (.int (((p0.toUInt32 >>> ((4 : Int32) &&& 31).toUInt32).toInt32) &&& (3 : Int32))), .val (.ref b56), .val (.int (f3 (0 : Int64) (0 : Int64))), .val (.int k134_0)] [(.ref b56)])) (fun tq kt => ?_) ?_
                · show Steps p.tables e below (T122.setTop (mkF m 120 #[.val (.int p0), .val (.long q1), .second, .val (.long q2), .second, .val (.int (p0 &&& (3 : Int32))), .val (.int (((p0.toUInt32 >>> ((2 : Int32) &&& 31).toUInt32).toInt32) &&& (3 : Int32))), .val (.int (((p0.toUInt32 >>> ((4 : Int32) &&& 31).toUInt32).toInt32) &&& (3 : Int32))), .val (.ref b56), .val (.int (f3 (0 : Int64) (0 : Int64))), .unset] [(.int k134_0)])) _
                  refine XS.istore X122.here hx rfl (hb hby at_120) rfl (l' := #[.val (.int p0), .val (.long q1), .second, .val (.long q2), .second, .val (.int (p0 &&& (3 : Int32))), .val (.int (((p0.toUInt32 >>> ((2 : Int32) &&& 31).toUInt32).toInt32) &&& (3 : Int32))), .val (.int (((p0.toUInt32 >>> ((4 : Int32) &&& 31).toUInt32).toInt32) &&& (3 : Int32))), .val (.ref b56), .val (.int (f3 (0 : Int64) (0 : Int64))), .val (.int k134_0)]) rfl ?_
                  show Steps p.tables e below (T122.setTop (mkF m 122 #[.val (.int p0), .val (.long q1), .second, .val (.long q2), .second, .val (.int (p0 &&& (3 : Int32))), .val (.int (((p0.toUInt32 >>> ((2 : Int32) &&& 31).toUInt32).toInt32) &&& (3 : Int32))), .val (.int (((p0.toUInt32 >>> ((4 : Int32) &&& 31).toUInt32).toInt32) &&& (3 : Int32))), .val (.ref b56), .val (.int (f3 (0 : Int64) (0 : Int64))), .val (.int k134_0)] [])) _
                  refine XS.iload X122.here hx rfl (hb hby at_122) rfl ?_
                  show Steps p.tables e below (T122.setTop (mkF m 124 #[.val (.int p0), .val (.long q1), .second, .val (.long q2), .second, .val (.int (p0 &&& (3 : Int32))), .val (.int (((p0.toUInt32 >>> ((2 : Int32) &&& 31).toUInt32).toInt32) &&& (3 : Int32))), .val (.int (((p0.toUInt32 >>> ((4 : Int32) &&& 31).toUInt32).toInt32) &&& (3 : Int32))), .val (.ref b56), .val (.int (f3 (0 : Int64) (0 : Int64))), .val (.int k134_0)] [(.int (f3 (0 : Int64) (0 : Int64)))])) _
                  refine XS.ifNo X122.here hx rfl (hb hby at_124) rfl (XT.i0_eq_f (by decide)) ?_
                  show Steps p.tables e below (T122.setTop (mkF m 127 #[.val (.int p0), .val (.long q1), .second, .val (.long q2), .second, .val (.int (p0 &&& (3 : Int32))), .val (.int (((p0.toUInt32 >>> ((2 : Int32) &&& 31).toUInt32).toInt32) &&& (3 : Int32))), .val (.int (((p0.toUInt32 >>> ((4 : Int32) &&& 31).toUInt32).toInt32) &&& (3 : Int32))), .val (.ref b56), .val (.int (f3 (0 : Int64) (0 : Int64))), .val (.int k134_0)] [])) _
                  refine XS.aload X122.here hx rfl (hb hby at_127) rfl rfl ?_
                  exact kt
                obtain ⟨cq137, kq137, qa137, qb137, qc137⟩ := isOf hZ e122 A56_128
                obtain ⟨_, _, ⟨T137, L137, k137, n137⟩, -, X137, ⟨Lc137, hQ137, l137, y137, z137⟩, st137⟩ := X122.virtualBack hx (y := (⟨"lavka/report/Summary", "allWritten", "()Z"⟩ : MethodName)) (z := (⟨"lavka/report/Summary", "allWritten", "()Z"⟩ : MethodName)) hown (mvT hZ (hw _ (List.mem_of_getElem? (i := 9) rfl))) (mvT hZ (hw _ (List.mem_of_getElem? (i := 10) rfl))) (notFace_of_selects (args := #[]) (mvT hZ (hw _ (List.mem_of_getElem? (i := 12) rfl)))) (mvT hZ (hw _ (List.mem_of_getElem? (i := 12) rfl))) (mvT hZ (hw _ (List.mem_of_getElem? (i := 11) rfl))) (by decide) (backOf (W := 0) (rm3 l Z a0 hw [] b56 w98_b56_recordsUnreadable w122_b56_recordsOfWrongType h122 n0 Z0_127 A56_128 G58_recordsUnreadable_129 G58_recordsOfWrongType_130 ) hZ (hw _ (List.mem_of_getElem? (i := 13) rfl)) (hw _ (List.mem_of_getElem? (i := 2) rfl)) (by decide) (by decide)) qa137 qc137 (g := (mkF m 129 #[.val (.int p0), .val (.long q1), .second, .val (.long q2), .second, .val (.int (p0 &&& (3 : Int32))), .val (.int (((p0.toUInt32 >>> ((2 : Int32) &&& 31).toUInt32).toInt32) &&& (3 : Int32))), .val (.int (((p0.toUInt32 >>> ((4 : Int32) &&& 31).toUInt32).toInt32) &&& (3 : Int32))), .val (.ref b56), .val (.int (f3 (0 : Int64) (0 : Int64))), .val (.int k134_0)] [(.ref b56)])) rfl (by rw [hml]; rfl) (Steps.refl _) (argsL := []) (rest := []) (lenOf pd_1 rfl) rfl (by show 2 * 0 + _ ≤ _; exact Nat.le_of_eq rfl) (hb hby at_129) (fun _ _ => ⟨rfl, e122, (by decide : 1 + 0 ≤ _), (by decide : 5 + 0 ≤ _)⟩)
                dsimp only [Pt.U, Pt.locs, Pt.cells, Pt.slots] at X137 l137 y137 z137 st137 hQ137
                subst l137 y137 z137
                obtain ⟨rfl, Nq137, e137⟩ := hQ137
                have N137 := Fr.app N122 Nq137
                refine Got.hop st137 ?_
                show Got p e below s _ _ _ _ T137 (mkF m 132 #[.val (.int p0), .val (.long q1), .second, .val (.long q2), .second, .val (.int (p0 &&& (3 : Int32))), .val (.int (((p0.toUInt32 >>> ((2 : Int32) &&& 31).toUInt32).toInt32) &&& (3 : Int32))), .val (.int (((p0.toUInt32 >>> ((4 : Int32) &&& 31).toUInt32).toInt32) &&& (3 : Int32))), .val (.ref b56), .val (.int (f3 (0 : Int64) (0 : Int64))), .val (.int k134_0)] [(.int (f3 w98_b56_recordsUnreadable w122_b56_recordsOfWrongType))])
                refine Got.step (T' := T137) (g' := (mkF m 142 #[.val (.int p0), .val (.long q1), .second, .val (.long q2), .second, .val (.int (p0 &&& (3 : Int32))), .val (.int (((p0.toUInt32 >>> ((2 : Int32) &&& 31).toUInt32).toInt32) &&& (3 : Int32))), .val (.int (((p0.toUInt32 >>> ((4 : Int32) &&& 31).toUInt32).toInt32) &&& (3 : Int32))), .val (.ref b56), .val (.int (f3 (0 : Int64) (0 : Int64))), .val (.int k134_0)] [(.int (1 : Int32))])) (fun tq kt => ?_) ?_
                · show Steps p.tables e below (T137.setTop (mkF m 132 #[.val (.int p0), .val (.long q1), .second, .val (.long q2), .second, .val (.int (p0 &&& (3 : Int32))), .val (.int (((p0.toUInt32 >>> ((2 : Int32) &&& 31).toUInt32).toInt32) &&& (3 : Int32))), .val (.int (((p0.toUInt32 >>> ((4 : Int32) &&& 31).toUInt32).toInt32) &&& (3 : Int32))), .val (.ref b56), .val (.int (f3 (0 : Int64) (0 : Int64))), .val (.int k134_0)] [(.int (f3 w98_b56_recordsUnreadable w122_b56_recordsOfWrongType))])) _
                  refine XS.iload X137.here hx rfl (hb hby at_132) rfl ?_
                  show Steps p.tables e below (T137.setTop (mkF m 134 #[.val (.int p0), .val (.long q1), .second, .val (.long q2), .second, .val (.int (p0 &&& (3 : Int32))), .val (.int (((p0.toUInt32 >>> ((2 : Int32) &&& 31).toUInt32).toInt32) &&& (3 : Int32))), .val (.int (((p0.toUInt32 >>> ((4 : Int32) &&& 31).toUInt32).toInt32) &&& (3 : Int32))), .val (.ref b56), .val (.int (f3 (0 : Int64) (0 : Int64))), .val (.int k134_0)] [(.int k134_0), (.int (f3 w98_b56_recordsUnreadable w122_b56_recordsOfWrongType))])) _
                  refine XS.icmpNo X137.here hx rfl (hb hby at_134) rfl (XT.ii_ne_f (own_fin (own_nn _) (own_nn _) hw86_b56_recordsUnreadable hw98_b56_recordsUnreadable hw110_b56_recordsOfWrongType hw122_b56_recordsOfWrongType hk134_0)) ?_
                  show Steps p.tables e below (T137.setTop (mkF m 137 #[.val (.int p0), .val (.long q1), .second, .val (.long q2), .second, .val (.int (p0 &&& (3 : Int32))), .val (.int (((p0.toUInt32 >>> ((2 : Int32) &&& 31).toUInt32).toInt32) &&& (3 : Int32))), .val (.int (((p0.toUInt32 >>> ((4 : Int32) &&& 31).toUInt32).toInt32) &&& (3 : Int32))), .val (.ref b56), .val (.int (f3 (0 : Int64) (0 : Int64))), .val (.int k134_0)] [])) _
                  refine XS.iconst X137.here hx rfl (hb hby at_137) ?_
                  show Steps p.tables e below (T137.setTop (mkF m 138 #[.val (.int p0), .val (.long q1), .second, .val (.long q2), .second, .val (.int (p0 &&& (3 : Int32))), .val (.int (((p0.toUInt32 >>> ((2 : Int32) &&& 31).toUInt32).toInt32) &&& (3 : Int32))), .val (.int (((p0.toUInt32 >>> ((4 : Int32) &&& 31).toUInt32).toInt32) &&& (3 : Int32))), .val (.ref b56), .val (.int (f3 (0 : Int64) (0 : Int64))), .val (.int k134_0)] [(.int (1 : Int32))])) _
                  refine XS.goto X137.here hx rfl (pc0 := 138) (pc' := 142) rfl (hb hby at_138) (by decide) (by decide) ?_
                  exact kt
                exact Got.retN (y := (1 : Int32)) (t := .boolean) X137 hx Bd.returns (by simp) hlk (hb hby at_142) (by decide) N137 (by decide) (by decide)
              by_cases hc135 : ((((p0.toUInt32 >>> ((2 : Int32) &&& 31).toUInt32).toInt32) &&& (3 : Int32)) = 0)
              · refine Got.step (T' := T122) (g' := (mkF m 112 #[.val (.int p0), .val (.long q1), .second, .val (.long q2), .second, .val (.int (p0 &&& (3 : Int32))), .val (.int (((p0.toUInt32 >>> ((2 : Int32) &&& 31).toUInt32).toInt32) &&& (3 : Int32))), .val (.int (((p0.toUInt32 >>> ((4 : Int32) &&& 31).toUInt32).toInt32) &&& (3 : Int32))), .val (.ref b56), .val (.int (f3 (0 : Int64) (0 : Int64))), .unset] [(.int (((p0.toUInt32 >>> ((4 : Int32) &&& 31).toUInt32).toInt32) &&& (3 : Int32)))])) (fun tq kt => ?_) ?_
                · show Steps p.tables e below (T122.setTop (mkF m 107 #[.val (.int p0), .val (.long q1), .second, .val (.long q2), .second, .val (.int (p0 &&& (3 : Int32))), .val (.int (((p0.toUInt32 >>> ((2 : Int32) &&& 31).toUInt32).toInt32) &&& (3 : Int32))), .val (.int (((p0.toUInt32 >>> ((4 : Int32) &&& 31).toUInt32).toInt32) &&& (3 : Int32))), .val (.ref b56), .val (.int (f3 (0 : Int64) (0 : Int64))), .unset] [(.int (((p0.toUInt32 >>> ((2 : Int32) &&& 31).toUInt32).toInt32) &&& (3 : Int32)))])) _
                  refine XS.ifNo X122.here hx rfl (hb hby at_107) rfl (XT.i0_ne_f hc135) ?_
                  show Steps p.tables e below (T122.setTop (mkF m 110 #[.val (.int p0), .val (.long q1), .second, .val (.long q2), .second, .val (.int (p0 &&& (3 : Int32))), .val (.int (((p0.toUInt32 >>> ((2 : Int32) &&& 31).toUInt32).toInt32) &&& (3 : Int32))), .val (.int (((p0.toUInt32 >>> ((4 : Int32) &&& 31).toUInt32).toInt32) &&& (3 : Int32))), .val (.ref b56), .val (.int (f3 (0 : Int64) (0 : Int64))), .unset] [])) _
                  refine XS.iload X122.here hx rfl (hb hby at_110) rfl ?_
                  exact kt
                by_cases hc136 : ((((p0.toUInt32 >>> ((4 : Int32) &&& 31).toUInt32).toInt32) &&& (3 : Int32)) = 0)
                · refine Got.step (T' := T122) (g' := (mkF m 120 #[.val (.int p0), .val (.long q1), .second, .val (.long q2), .second, .val (.int (p0 &&& (3 : Int32))), .val (.int (((p0.toUInt32 >>> ((2 : Int32) &&& 31).toUInt32).toInt32) &&& (3 : Int32))), .val (.int (((p0.toUInt32 >>> ((4 : Int32) &&& 31).toUInt32).toInt32) &&& (3 : Int32))), .val (.ref b56), .val (.int (f3 (0 : Int64) (0 : Int64))), .unset] [(.int (1 : Int32))])) (fun tq kt => ?_) ?_
                  · show Steps p.tables e below (T122.setTop (mkF m 112 #[.val (.int p0), .val (.long q1), .second, .val (.long q2), .second, .val (.int (p0 &&& (3 : Int32))), .val (.int (((p0.toUInt32 >>> ((2 : Int32) &&& 31).toUInt32).toInt32) &&& (3 : Int32))), .val (.int (((p0.toUInt32 >>> ((4 : Int32) &&& 31).toUInt32).toInt32) &&& (3 : Int32))), .val (.ref b56), .val (.int (f3 (0 : Int64) (0 : Int64))), .unset] [(.int (((p0.toUInt32 >>> ((4 : Int32) &&& 31).toUInt32).toInt32) &&& (3 : Int32)))])) _
                    refine XS.ifNo X122.here hx rfl (hb hby at_112) rfl (XT.i0_ne_f hc136) ?_
                    show Steps p.tables e below (T122.setTop (mkF m 115 #[.val (.int p0), .val (.long q1), .second, .val (.long q2), .second, .val (.int (p0 &&& (3 : Int32))), .val (.int (((p0.toUInt32 >>> ((2 : Int32) &&& 31).toUInt32).toInt32) &&& (3 : Int32))), .val (.int (((p0.toUInt32 >>> ((4 : Int32) &&& 31).toUInt32).toInt32) &&& (3 : Int32))), .val (.ref b56), .val (.int (f3 (0 : Int64) (0 : Int64))), .unset] [])) _
                    refine XS.iconst X122.here hx rfl (hb hby at_115) ?_
                    show Steps p.tables e below (T122.setTop (mkF m 116 #[.val (.int p0), .val (.long q1), .second, .val (.long q2), .second, .val (.int (p0 &&& (3 : Int32))), .val (.int (((p0.toUInt32 >>> ((2 : Int32) &&& 31).toUInt32).toInt32) &&& (3 : Int32))), .val (.int (((p0.toUInt32 >>> ((4 : Int32) &&& 31).toUInt32).toInt32) &&& (3 : Int32))), .val (.ref b56), .val (.int (f3 (0 : Int64) (0 : Int64))), .unset] [(.int (1 : Int32))])) _
                    refine XS.goto X122.here hx rfl (pc0 := 116) (pc' := 120) rfl (hb hby at_116) (by decide) (by decide) ?_
                    exact kt
                  exact J134 (1 : Int32) ((if_pos hc135).trans (if_pos hc136)).symm
                · refine Got.step (T' := T122) (g' := (mkF m 120 #[.val (.int p0), .val (.long q1), .second, .val (.long q2), .second, .val (.int (p0 &&& (3 : Int32))), .val (.int (((p0.toUInt32 >>> ((2 : Int32) &&& 31).toUInt32).toInt32) &&& (3 : Int32))), .val (.int (((p0.toUInt32 >>> ((4 : Int32) &&& 31).toUInt32).toInt32) &&& (3 : Int32))), .val (.ref b56), .val (.int (f3 (0 : Int64) (0 : Int64))), .unset] [(.int (0 : Int32))])) (fun tq kt => ?_) ?_
                  · show Steps p.tables e below (T122.setTop (mkF m 112 #[.val (.int p0), .val (.long q1), .second, .val (.long q2), .second, .val (.int (p0 &&& (3 : Int32))), .val (.int (((p0.toUInt32 >>> ((2 : Int32) &&& 31).toUInt32).toInt32) &&& (3 : Int32))), .val (.int (((p0.toUInt32 >>> ((4 : Int32) &&& 31).toUInt32).toInt32) &&& (3 : Int32))), .val (.ref b56), .val (.int (f3 (0 : Int64) (0 : Int64))), .unset] [(.int (((p0.toUInt32 >>> ((4 : Int32) &&& 31).toUInt32).toInt32) &&& (3 : Int32)))])) _
                    refine XS.ifYes X122.here hx rfl (pc0 := 112) (pc' := 119) rfl (hb hby at_112) rfl (XT.i0_ne_t hc136) (by decide) (by decide) ?_
                    show Steps p.tables e below (T122.setTop (mkF m 119 #[.val (.int p0), .val (.long q1), .second, .val (.long q2), .second, .val (.int (p0 &&& (3 : Int32))), .val (.int (((p0.toUInt32 >>> ((2 : Int32) &&& 31).toUInt32).toInt32) &&& (3 : Int32))), .val (.int (((p0.toUInt32 >>> ((4 : Int32) &&& 31).toUInt32).toInt32) &&& (3 : Int32))), .val (.ref b56), .val (.int (f3 (0 : Int64) (0 : Int64))), .unset] [])) _
                    refine XS.iconst X122.here hx rfl (hb hby at_119) ?_
                    exact kt
                  exact J134 (0 : Int32) ((if_pos hc135).trans (if_neg hc136)).symm
              · refine Got.step (T' := T122) (g' := (mkF m 120 #[.val (.int p0), .val (.long q1), .second, .val (.long q2), .second, .val (.int (p0 &&& (3 : Int32))), .val (.int (((p0.toUInt32 >>> ((2 : Int32) &&& 31).toUInt32).toInt32) &&& (3 : Int32))), .val (.int (((p0.toUInt32 >>> ((4 : Int32) &&& 31).toUInt32).toInt32) &&& (3 : Int32))), .val (.ref b56), .val (.int (f3 (0 : Int64) (0 : Int64))), .unset] [(.int (0 : Int32))])) (fun tq kt => ?_) ?_
                · show Steps p.tables e below (T122.setTop (mkF m 107 #[.val (.int p0), .val (.long q1), .second, .val (.long q2), .second, .val (.int (p0 &&& (3 : Int32))), .val (.int (((p0.toUInt32 >>> ((2 : Int32) &&& 31).toUInt32).toInt32) &&& (3 : Int32))), .val (.int (((p0.toUInt32 >>> ((4 : Int32) &&& 31).toUInt32).toInt32) &&& (3 : Int32))), .val (.ref b56), .val (.int (f3 (0 : Int64) (0 : Int64))), .unset] [(.int (((p0.toUInt32 >>> ((2 : Int32) &&& 31).toUInt32).toInt32) &&& (3 : Int32)))])) _
                  refine XS.ifYes X122.here hx rfl (pc0 := 107) (pc' := 119) rfl (hb hby at_107) rfl (XT.i0_ne_t hc135) (by decide) (by decide) ?_
                  show Steps p.tables e below (T122.setTop (mkF m 119 #[.val (.int p0), .val (.long q1), .second, .val (.long q2), .second, .val (.int (p0 &&& (3 : Int32))), .val (.int (((p0.toUInt32 >>> ((2 : Int32) &&& 31).toUInt32).toInt32) &&& (3 : Int32))), .val (.int (((p0.toUInt32 >>> ((4 : Int32) &&& 31).toUInt32).toInt32) &&& (3 : Int32))), .val (.ref b56), .val (.int (f3 (0 : Int64) (0 : Int64))), .unset] [])) _
                  refine XS.iconst X122.here hx rfl (hb hby at_119) ?_
                  exact kt
                exact J134 (0 : Int32) (if_neg hc135).symm
            by_cases hc123 : ((((p0.toUInt32 >>> ((4 : Int32) &&& 31).toUInt32).toInt32) &&& (3 : Int32)) < (2 : Int32))
            · refine Got.step (T' := T110) (g' := (mkF m 105 #[.val (.int p0), .val (.long q1), .second, .val (.long q2), .second, .val (.int (p0 &&& (3 : Int32))), .val (.int (((p0.toUInt32 >>> ((2 : Int32) &&& 31).toUInt32).toInt32) &&& (3 : Int32))), .val (.int (((p0.toUInt32 >>> ((4 : Int32) &&& 31).toUInt32).toInt32) &&& (3 : Int32))), .val (.ref b56), .val (.int (f3 (0 : Int64) (0 : Int64))), .unset] [])) (fun tq kt => ?_) ?_
              · show Steps p.tables e below (T110.setTop (mkF m 97 #[.val (.int p0), .val (.long q1), .second, .val (.long q2), .second, .val (.int (p0 &&& (3 : Int32))), .val (.int (((p0.toUInt32 >>> ((2 : Int32) &&& 31).toUInt32).toInt32) &&& (3 : Int32))), .val (.int (((p0.toUInt32 >>> ((4 : Int32) &&& 31).toUInt32).toInt32) &&& (3 : Int32))), .val (.ref b56), .val (.int (f3 (0 : Int64) (0 : Int64))), .unset] [(.int (2 : Int32)), (.int (((p0.toUInt32 >>> ((4 : Int32) &&& 31).toUInt32).toInt32) &&& (3 : Int32)))])) _
                refine XS.icmpYes X110.here hx rfl (pc0 := 97) (pc' := 105) rfl (hb hby at_97) rfl (XT.ii_lt_t hc123) (by decide) (by decide) ?_
                exact kt
              exact J122 _ _ _ X110 e110 N110 w110_b56_recordsOfWrongType (if_pos hc123).symm Z0_115 A56_116 G58_recordsUnreadable_117 G58_recordsOfWrongType_118 G58_recordsWritten_119 G58_fieldsConverted_120 G58_fieldsNotConverted_121
            · refine Got.step (T' := T110) (g' := (mkF m 102 #[.val (.int p0), .val (.long q1), .second, .val (.long q2), .second, .val (.int (p0 &&& (3 : Int32))), .val (.int (((p0.toUInt32 >>> ((2 : Int32) &&& 31).toUInt32).toInt32) &&& (3 : Int32))), .val (.int (((p0.toUInt32 >>> ((4 : Int32) &&& 31).toUInt32).toInt32) &&& (3 : Int32))), .val (.ref b56), .val (.int (f3 (0 : Int64) (0 : Int64))), .unset] [(.ref b56)])) (fun tq kt => ?_) ?_
              · show Steps p.tables e below (T110.setTop (mkF m 97 #[.val (.int p0), .val (.long q1), .second, .val (.long q2), .second, .val (.int (p0 &&& (3 : Int32))), .val (.int (((p0.toUInt32 >>> ((2 : Int32) &&& 31).toUInt32).toInt32) &&& (3 : Int32))), .val (.int (((p0.toUInt32 >>> ((4 : Int32) &&& 31).toUInt32).toInt32) &&& (3 : Int32))), .val (.ref b56), .val (.int (f3 (0 : Int64) (0 : Int64))), .unset] [(.int (2 : Int32)), (.int (((p0.toUInt32 >>> ((4 : Int32) &&& 31).toUInt32).toInt32) &&& (3 : Int32)))])) _
                refine XS.icmpNo X110.here hx rfl (hb hby at_97) rfl (XT.ii_lt_f hc123) ?_
                show Steps p.tables e below (T110.setTop (mkF m 100 #[.val (.int p0), .val (.long q1), .second, .val (.long q2), .second, .val (.int (p0 &&& (3 : Int32))), .val (.int (((p0.toUInt32 >>> ((2 : Int32) &&& 31).toUInt32).toInt32) &&& (3 : Int32))), .val (.int (((p0.toUInt32 >>> ((4 : Int32) &&& 31).toUInt32).toInt32) &&& (3 : Int32))), .val (.ref b56), .val (.int (f3 (0 : Int64) (0 : Int64))), .unset] [])) _
                refine XS.aload X110.here hx rfl (hb hby at_100) rfl rfl ?_
                exact kt
              obtain ⟨cq124, kq124, qa124, qb124, qc124⟩ := isOf hZ e110 A56_116
              obtain ⟨_, _, ⟨T124, L124, k124, n124⟩, -, X124, ⟨Lc124, hQ124, l124, y124, z124⟩, st124⟩ := X110.virtualBack hx (y := (⟨"lavka/report/Summary", "wrongType", "()V"⟩ : MethodName)) (z := (⟨"lavka/report/Summary", "wrongType", "()V"⟩ : MethodName)) hown (mvT hZ (hw _ (List.mem_of_getElem? (i := 34) rfl))) (mvT hZ (hw _ (List.mem_of_getElem? (i := 35) rfl))) (notFace_of_selects (args := #[]) (mvT hZ (hw _ (List.mem_of_getElem? (i := 37) rfl)))) (mvT hZ (hw _ (List.mem_of_getElem? (i := 37) rfl))) (mvT hZ (hw _ (List.mem_of_getElem? (i := 36) rfl))) (by decide) (backOf (W := 0) (rm6 l Z a0 hw [] b56 w98_b56_recordsUnreadable w110_b56_recordsOfWrongType w74_b56_recordsWritten w74_b56_fieldsConverted w74_b56_fieldsNotConverted h110 n0 Z0_115 gn_b56 A56_116 G58_recordsUnreadable_117 G58_recordsOfWrongType_118 G58_recordsWritten_119 G58_fieldsConverted_120 G58_fieldsNotConverted_121 ) hZ (hw _ (List.mem_of_getElem? (i := 38) rfl)) (hw _ (List.mem_of_getElem? (i := 2) rfl)) (by decide) (by decide)) qa124 qc124 (g := (mkF m 102 #[.val (.int p0), .val (.long q1), .second, .val (.long q2), .second, .val (.int (p0 &&& (3 : Int32))), .val (.int (((p0.toUInt32 >>> ((2 : Int32) &&& 31).toUInt32).toInt32) &&& (3 : Int32))), .val (.int (((p0.toUInt32 >>> ((4 : Int32) &&& 31).toUInt32).toInt32) &&& (3 : Int32))), .val (.ref b56), .val (.int (f3 (0 : Int64) (0 : Int64))), .unset] [(.ref b56)])) rfl (by rw [hml]; rfl) (Steps.refl _) (argsL := []) (rest := []) (lenOf pd_0 rfl) rfl (by show 2 * 0 + _ ≤ _; exact Nat.le_of_eq rfl) (hb hby at_102) (fun _ _ => ⟨rfl, e110, (by decide : 1 + 0 ≤ _), (by decide : 5 + 0 ≤ _)⟩)
              dsimp only [Pt.U, Pt.locs, Pt.cells, Pt.slots] at X124 l124 y124 z124 st124 hQ124
              subst l124 y124 z124
              obtain ⟨h124, e124⟩ : ∃ z, T124.heap = z := ⟨_, rfl⟩
              rw [e124] at hQ124
              obtain ⟨rfl, Nq124, K124, E124, G124_recordsUnreadable, G124_recordsOfWrongType, G124_recordsWritten, G124_fieldsConverted, G124_fieldsNotConverted⟩ := hQ124
              have N124 := Fr.app N110 Nq124
              have Z0_125 : n0 ≤ h124.size := (Nat.le_trans Z0_115 K124.1)
              have A56_126 : Exa Z h124 b56 "lavka/report/Summary" := (A56_116.keep K124)
              refine Got.hop st124 ?_
              show Got p e below s _ _ _ _ T124 (mkF m 105 #[.val (.int p0), .val (.long q1), .second, .val (.long q2), .second, .val (.int (p0 &&& (3 : Int32))), .val (.int (((p0.toUInt32 >>> ((2 : Int32) &&& 31).toUInt32).toInt32) &&& (3 : Int32))), .val (.int (((p0.toUInt32 >>> ((4 : Int32) &&& 31).toUInt32).toInt32) &&& (3 : Int32))), .val (.ref b56), .val (.int (f3 (0 : Int64) (0 : Int64))), .unset] [])
              exact J122 _ _ _ X124 e124 N124 (w110_b56_recordsOfWrongType + (1 : Int64)) (if_neg hc123).symm Z0_125 A56_126 G124_recordsUnreadable G124_recordsOfWrongType G124_recordsWritten G124_fieldsConverted G124_fieldsNotConverted
          by_cases hc111 : ((((p0.toUInt32 >>> ((4 : Int32) &&& 31).toUInt32).toInt32) &&& (3 : Int32)) < (1 : Int32))
          · refine Got.step (T' := T98) (g' := (mkF m 94 #[.val (.int p0), .val (.long q1), .second, .val (.long q2), .second, .val (.int (p0 &&& (3 : Int32))), .val (.int (((p0.toUInt32 >>> ((2 : Int32) &&& 31).toUInt32).toInt32) &&& (3 : Int32))), .val (.int (((p0.toUInt32 >>> ((4 : Int32) &&& 31).toUInt32).toInt32) &&& (3 : Int32))), .val (.ref b56), .val (.int (f3 (0 : Int64) (0 : Int64))), .unset] [])) (fun tq kt => ?_) ?_
            · show Steps p.tables e below (T98.setTop (mkF m 86 #[.val (.int p0), .val (.long q1), .second, .val (.long q2), .second, .val (.int (p0 &&& (3 : Int32))), .val (.int (((p0.toUInt32 >>> ((2 : Int32) &&& 31).toUInt32).toInt32) &&& (3 : Int32))), .val (.int (((p0.toUInt32 >>> ((4 : Int32) &&& 31).toUInt32).toInt32) &&& (3 : Int32))), .val (.ref b56), .val (.int (f3 (0 : Int64) (0 : Int64))), .unset] [(.int (1 : Int32)), (.int (((p0.toUInt32 >>> ((4 : Int32) &&& 31).toUInt32).toInt32) &&& (3 : Int32)))])) _
              refine XS.icmpYes X98.here hx rfl (pc0 := 86) (pc' := 94) rfl (hb hby at_86) rfl (XT.ii_lt_t hc111) (by decide) (by decide) ?_
              exact kt
            exact J110 _ _ _ X98 e98 N98 (0 : Int64) (if_pos hc111).symm Z0_103 A56_104 G58_recordsUnreadable_105 G58_recordsOfWrongType_106 G58_recordsWritten_107 G58_fieldsConverted_108 G58_fieldsNotConverted_109
          · refine Got.step (T' := T98) (g' := (mkF m 91 #[.val (.int p0), .val (.long q1), .second, .val (.long q2), .second, .val (.int (p0 &&& (3 : Int32))), .val (.int (((p0.toUInt32 >>> ((2 : Int32) &&& 31).toUInt32).toInt32) &&& (3 : Int32))), .val (.int (((p0.toUInt32 >>> ((4 : Int32) &&& 31).toUInt32).toInt32) &&& (3 : Int32))), .val (.ref b56), .val (.int (f3 (0 : Int64) (0 : Int64))), .unset] [(.ref b56)])) (fun tq kt => ?_) ?_
            · show Steps p.tables e below (T98.setTop (mkF m 86 #[.val (.int p0), .val (.long q1), .second, .val (.long q2), .second, .val (.int (p0 &&& (3 : Int32))), .val (.int (((p0.toUInt32 >>> ((2 : Int32) &&& 31).toUInt32).toInt32) &&& (3 : Int32))), .val (.int (((p0.toUInt32 >>> ((4 : Int32) &&& 31).toUInt32).toInt32) &&& (3 : Int32))), .val (.ref b56), .val (.int (f3 (0 : Int64) (0 : Int64))), .unset] [(.int (1 : Int32)), (.int (((p0.toUInt32 >>> ((4 : Int32) &&& 31).toUInt32).toInt32) &&& (3 : Int32)))])) _
              refine XS.icmpNo X98.here hx rfl (hb hby at_86) rfl (XT.ii_lt_f hc111) ?_
              show Steps p.tables e below (T98.setTop (mkF m 89 #[.val (.int p0), .val (.long q1), .second, .val (.long q2), .second, .val (.int (p0 &&& (3 : Int32))), .val (.int (((p0.toUInt32 >>> ((2 : Int32) &&& 31).toUInt32).toInt32) &&& (3 : Int32))), .val (.int (((p0.toUInt32 >>> ((4 : Int32) &&& 31).toUInt32).toInt32) &&& (3 : Int32))), .val (.ref b56), .val (.int (f3 (0 : Int64) (0 : Int64))), .unset] [])) _
              refine XS.aload X98.here hx rfl (hb hby at_89) rfl rfl ?_
              exact kt
            obtain ⟨cq112, kq112, qa112, qb112, qc112⟩ := isOf hZ e98 A56_104
            obtain ⟨_, _, ⟨T112, L112, k112, n112⟩, -, X112, ⟨Lc112, hQ112, l112, y112, z112⟩, st112⟩ := X98.virtualBack hx (y := (⟨"lavka/report/Summary", "wrongType", "()V"⟩ : MethodName)) (z := (⟨"lavka/report/Summary", "wrongType", "()V"⟩ : MethodName)) hown (mvT hZ (hw _ (List.mem_of_getElem? (i := 34) rfl))) (mvT hZ (hw _ (List.mem_of_getElem? (i := 35) rfl))) (notFace_of_selects (args := #[]) (mvT hZ (hw _ (List.mem_of_getElem? (i := 37) rfl)))) (mvT hZ (hw _ (List.mem_of_getElem? (i := 37) rfl))) (mvT hZ (hw _ (List.mem_of_getElem? (i := 36) rfl))) (by decide) (backOf (W := 0) (rm6 l Z a0 hw [] b56 w98_b56_recordsUnreadable (0 : Int64) w74_b56_recordsWritten w74_b56_fieldsConverted w74_b56_fieldsNotConverted h98 n0 Z0_103 gn_b56 A56_104 G58_recordsUnreadable_105 G58_recordsOfWrongType_106 G58_recordsWritten_107 G58_fieldsConverted_108 G58_fieldsNotConverted_109 ) hZ (hw _ (List.mem_of_getElem? (i := 38) rfl)) (hw _ (List.mem_of_getElem? (i := 2) rfl)) (by decide) (by decide)) qa112 qc112 (g := (mkF m 91 #[.val (.int p0), .val (.long q1), .second, .val (.long q2), .second, .val (.int (p0 &&& (3 : Int32))), .val (.int (((p0.toUInt32 >>> ((2 : Int32) &&& 31).toUInt32).toInt32) &&& (3 : Int32))), .val (.int (((p0.toUInt32 >>> ((4 : Int32) &&& 31).toUInt32).toInt32) &&& (3 : Int32))), .val (.ref b56), .val (.int (f3 (0 : Int64) (0 : Int64))), .unset] [(.ref b56)])) rfl (by rw [hml]; rfl) (Steps.refl _) (argsL := []) (rest := []) (lenOf pd_0 rfl) rfl (by show 2 * 0 + _ ≤ _; exact Nat.le_of_eq rfl) (hb hby at_91) (fun _ _ => ⟨rfl, e98, (by decide : 1 + 0 ≤ _), (by decide : 5 + 0 ≤ _)⟩)
            dsimp only [Pt.U, Pt.locs, Pt.cells, Pt.slots] at X112 l112 y112 z112 st112 hQ112
            subst l112 y112 z112
            obtain ⟨h112, e112⟩ : ∃ z, T112.heap = z := ⟨_, rfl⟩
            rw [e112] at hQ112
            obtain ⟨rfl, Nq112, K112, E112, G112_recordsUnreadable, G112_recordsOfWrongType, G112_recordsWritten, G112_fieldsConverted, G112_fieldsNotConverted⟩ := hQ112
            have N112 := Fr.app N98 Nq112
            have Z0_113 : n0 ≤ h112.size := (Nat.le_trans Z0_103 K112.1)
            have A56_114 : Exa Z h112 b56 "lavka/report/Summary" := (A56_104.keep K112)
            refine Got.hop st112 ?_
            show Got p e below s _ _ _ _ T112 (mkF m 94 #[.val (.int p0), .val (.long q1), .second, .val (.long q2), .second, .val (.int (p0 &&& (3 : Int32))), .val (.int (((p0.toUInt32 >>> ((2 : Int32) &&& 31).toUInt32).toInt32) &&& (3 : Int32))), .val (.int (((p0.toUInt32 >>> ((4 : Int32) &&& 31).toUInt32).toInt32) &&& (3 : Int32))), .val (.ref b56), .val (.int (f3 (0 : Int64) (0 : Int64))), .unset] [])
            exact J110 _ _ _ X112 e112 N112 ((0 : Int64) + (1 : Int64)) (if_neg hc111).symm Z0_113 A56_114 G112_recordsUnreadable G112_recordsOfWrongType G112_recordsWritten G112_fieldsConverted G112_fieldsNotConverted
        by_cases hc99 : ((((p0.toUInt32 >>> ((2 : Int32) &&& 31).toUInt32).toInt32) &&& (3 : Int32)) < (2 : Int32))
        · refine Got.step (T' := T86) (g' := (mkF m 83 #[.val (.int p0), .val (.long q1), .second, .val (.long q2), .second, .val (.int (p0 &&& (3 : Int32))), .val (.int (((p0.toUInt32 >>> ((2 : Int32) &&& 31).toUInt32).toInt32) &&& (3 : Int32))), .val (.int (((p0.toUInt32 >>> ((4 : Int32) &&& 31).toUInt32).toInt32) &&& (3 : Int32))), .val (.ref b56), .val (.int (f3 (0 : Int64) (0 : Int64))), .unset] [])) (fun tq kt => ?_) ?_
          · show Steps p.tables e below (T86.setTop (mkF m 75 #[.val (.int p0), .val (.long q1), .second, .val (.long q2), .second, .val (.int (p0 &&& (3 : Int32))), .val (.int (((p0.toUInt32 >>> ((2 : Int32) &&& 31).toUInt32).toInt32) &&& (3 : Int32))), .val (.int (((p0.toUInt32 >>> ((4 : Int32) &&& 31).toUInt32).toInt32) &&& (3 : Int32))), .val (.ref b56), .val (.int (f3 (0 : Int64) (0 : Int64))), .unset] [(.int (2 : Int32)), (.int (((p0.toUInt32 >>> ((2 : Int32) &&& 31).toUInt32).toInt32) &&& (3 : Int32)))])) _
            refine XS.icmpYes X86.here hx rfl (pc0 := 75) (pc' := 83) rfl (hb hby at_75) rfl (XT.ii_lt_t hc99) (by decide) (by decide) ?_
            exact kt
          exact J98 _ _ _ X86 e86 N86 w86_b56_recordsUnreadable (if_pos hc99).symm Z0_91 A56_92 G58_recordsUnreadable_93 G58_recordsOfWrongType_94 G58_recordsWritten_95 G58_fieldsConverted_96 G58_fieldsNotConverted_97
        · refine Got.step (T' := T86) (g' := (mkF m 80 #[.val (.int p0), .val (.long q1), .second, .val (.long q2), .second, .val (.int (p0 &&& (3 : Int32))), .val (.int (((p0.toUInt32 >>> ((2 : Int32) &&& 31).toUInt32).toInt32) &&& (3 : Int32))), .val (.int (((p0.toUInt32 >>> ((4 : Int32) &&& 31).toUInt32).toInt32) &&& (3 : Int32))), .val (.ref b56), .val (.int (f3 (0 : Int64) (0 : Int64))), .unset] [(.ref b56)])) (fun tq kt => ?_) ?_
          · show Steps p.tables e below (T86.setTop (mkF m 75 #[.val (.int p0), .val (.long q1), .second, .val (.long q2), .second, .val (.int (p0 &&& (3 : Int32))), .val (.int (((p0.toUInt32 >>> ((2 : Int32) &&& 31).toUInt32).toInt32) &&& (3 : Int32))), .val (.int (((p0.toUInt32 >>> ((4 : Int32) &&& 31).toUInt32).toInt32) &&& (3 : Int32))), .val (.ref b56), .val (.int (f3 (0 : Int64) (0 : Int64))), .unset] [(.int (2 : Int32)), (.int (((p0.toUInt32 >>> ((2 : Int32) &&& 31).toUInt32).toInt32) &&& (3 : Int32)))])) _
            refine XS.icmpNo X86.here hx rfl (hb hby at_75) rfl (XT.ii_lt_f hc99) ?_
            show Steps p.tables e below (T86.setTop (mkF m 78 #[.val (.int p0), .val (.long q1), .second, .val (.long q2), .second, .val (.int (p0 &&& (3 : Int32))), .val (.int (((p0.toUInt32 >>> ((2 : Int32) &&& 31).toUInt32).toInt32) &&& (3 : Int32))), .val (.int (((p0.toUInt32 >>> ((4 : Int32) &&& 31).toUInt32).toInt32) &&& (3 : Int32))), .val (.ref b56), .val (.int (f3 (0 : Int64) (0 : Int64))), .unset] [])) _
            refine XS.aload X86.here hx rfl (hb hby at_78) rfl rfl ?_
            exact kt
          obtain ⟨cq100, kq100, qa100, qb100, qc100⟩ := isOf hZ e86 A56_92
          obtain ⟨_, _, ⟨T100, L100, k100, n100⟩, -, X100, ⟨Lc100, hQ100, l100, y100, z100⟩, st100⟩ := X86.virtualBack hx (y := (⟨"lavka/report/Summary", "unreadable", "()V"⟩ : MethodName)) (z := (⟨"lavka/report/Summary", "unreadable", "()V"⟩ : MethodName)) hown (mvT hZ (hw _ (List.mem_of_getElem? (i := 18) rfl))) (mvT hZ (hw _ (List.mem_of_getElem? (i := 19) rfl))) (notFace_of_selects (args := #[]) (mvT hZ (hw _ (List.mem_of_getElem? (i := 21) rfl)))) (mvT hZ (hw _ (List.mem_of_getElem? (i := 21) rfl))) (mvT hZ (hw _ (List.mem_of_getElem? (i := 20) rfl))) (by decide) (backOf (W := 0) (rm4 l Z a0 hw [] b56 w86_b56_recordsUnreadable (0 : Int64) w74_b56_recordsWritten w74_b56_fieldsConverted w74_b56_fieldsNotConverted h86 n0 Z0_91 gn_b56 A56_92 G58_recordsUnreadable_93 G58_recordsOfWrongType_94 G58_recordsWritten_95 G58_fieldsConverted_96 G58_fieldsNotConverted_97 ) hZ (hw _ (List.mem_of_getElem? (i := 22) rfl)) (hw _ (List.mem_of_getElem? (i := 2) rfl)) (by decide) (by decide)) qa100 qc100 (g := (mkF m 80 #[.val (.int p0), .val (.long q1), .second, .val (.long q2), .second, .val (.int (p0 &&& (3 : Int32))), .val (.int (((p0.toUInt32 >>> ((2 : Int32) &&& 31).toUInt32).toInt32) &&& (3 : Int32))), .val (.int (((p0.toUInt32 >>> ((4 : Int32) &&& 31).toUInt32).toInt32) &&& (3 : Int32))), .val (.ref b56), .val (.int (f3 (0 : Int64) (0 : Int64))), .unset] [(.ref b56)])) rfl (by rw [hml]; rfl) (Steps.refl _) (argsL := []) (rest := []) (lenOf pd_0 rfl) rfl (by show 2 * 0 + _ ≤ _; exact Nat.le_of_eq rfl) (hb hby at_80) (fun _ _ => ⟨rfl, e86, (by decide : 1 + 0 ≤ _), (by decide : 5 + 0 ≤ _)⟩)
          dsimp only [Pt.U, Pt.locs, Pt.cells, Pt.slots] at X100 l100 y100 z100 st100 hQ100
          subst l100 y100 z100
          obtain ⟨h100, e100⟩ : ∃ z, T100.heap = z := ⟨_, rfl⟩
          rw [e100] at hQ100
          obtain ⟨rfl, Nq100, K100, E100, G100_recordsUnreadable, G100_recordsOfWrongType, G100_recordsWritten, G100_fieldsConverted, G100_fieldsNotConverted⟩ := hQ100
          have N100 := Fr.app N86 Nq100
          have Z0_101 : n0 ≤ h100.size := (Nat.le_trans Z0_91 K100.1)
          have A56_102 : Exa Z h100 b56 "lavka/report/Summary" := (A56_92.keep K100)
          refine Got.hop st100 ?_
          show Got p e below s _ _ _ _ T100 (mkF m 83 #[.val (.int p0), .val (.long q1), .second, .val (.long q2), .second, .val (.int (p0 &&& (3 : Int32))), .val (.int (((p0.toUInt32 >>> ((2 : Int32) &&& 31).toUInt32).toInt32) &&& (3 : Int32))), .val (.int (((p0.toUInt32 >>> ((4 : Int32) &&& 31).toUInt32).toInt32) &&& (3 : Int32))), .val (.ref b56), .val (.int (f3 (0 : Int64) (0 : Int64))), .unset] [])
          exact J98 _ _ _ X100 e100 N100 (w86_b56_recordsUnreadable + (1 : Int64)) (if_neg hc99).symm Z0_101 A56_102 G100_recordsUnreadable G100_recordsOfWrongType G100_recordsWritten G100_fieldsConverted G100_fieldsNotConverted
      by_cases hc87 : ((((p0.toUInt32 >>> ((2 : Int32) &&& 31).toUInt32).toInt32) &&& (3 : Int32)) < (1 : Int32))
      · refine Got.step (T' := T74) (g' := (mkF m 72 #[.val (.int p0), .val (.long q1), .second, .val (.long q2), .second, .val (.int (p0 &&& (3 : Int32))), .val (.int (((p0.toUInt32 >>> ((2 : Int32) &&& 31).toUInt32).toInt32) &&& (3 : Int32))), .val (.int (((p0.toUInt32 >>> ((4 : Int32) &&& 31).toUInt32).toInt32) &&& (3 : Int32))), .val (.ref b56), .val (.int (f3 (0 : Int64) (0 : Int64))), .unset] [])) (fun tq kt => ?_) ?_
        · show Steps p.tables e below (T74.setTop (mkF m 64 #[.val (.int p0), .val (.long q1), .second, .val (.long q2), .second, .val (.int (p0 &&& (3 : Int32))), .val (.int (((p0.toUInt32 >>> ((2 : Int32) &&& 31).toUInt32).toInt32) &&& (3 : Int32))), .val (.int (((p0.toUInt32 >>> ((4 : Int32) &&& 31).toUInt32).toInt32) &&& (3 : Int32))), .val (.ref b56), .val (.int (f3 (0 : Int64) (0 : Int64))), .unset] [(.int (1 : Int32)), (.int (((p0.toUInt32 >>> ((2 : Int32) &&& 31).toUInt32).toInt32) &&& (3 : Int32)))])) _
          refine XS.icmpYes X74.here hx rfl (pc0 := 64) (pc' := 72) rfl (hb hby at_64) rfl (XT.ii_lt_t hc87) (by decide) (by decide) ?_
          exact kt
        exact J86 _ _ _ X74 e74 N74 (0 : Int64) (if_pos hc87).symm Z0_79 A56_80 G58_recordsUnreadable_81 G58_recordsOfWrongType_82 G58_recordsWritten_83 G58_fieldsConverted_84 G58_fieldsNotConverted_85
      · refine Got.step (T' := T74) (g' := (mkF m 69 #[.val (.int p0), .val (.long q1), .second, .val (.long q2), .second, .val (.int (p0 &&& (3 : Int32))), .val (.int (((p0.toUInt32 >>> ((2 : Int32) &&& 31).toUInt32).toInt32) &&& (3 : Int32))), .val (.int (((p0.toUInt32 >>> ((4 : Int32) &&& 31).toUInt32).toInt32) &&& (3 : Int32))), .val (.ref b56), .val (.int (f3 (0 : Int64) (0 : Int64))), .unset] [(.ref b56)])) (fun tq kt => ?_) ?_
        · show Steps p.tables e below (T74.setTop (mkF m 64 #[.val (.int p0), .val (.long q1), .second, .val (.long q2), .second, .val (.int (p0 &&& (3 : Int32))), .val (.int (((p0.toUInt32 >>> ((2 : Int32) &&& 31).toUInt32).toInt32) &&& (3 : Int32))), .val (.int (((p0.toUInt32 >>> ((4 : Int32) &&& 31).toUInt32).toInt32) &&& (3 : Int32))), .val (.ref b56), .val (.int (f3 (0 : Int64) (0 : Int64))), .unset] [(.int (1 : Int32)), (.int (((p0.toUInt32 >>> ((2 : Int32) &&& 31).toUInt32).toInt32) &&& (3 : Int32)))])) _
          refine XS.icmpNo X74.here hx rfl (hb hby at_64) rfl (XT.ii_lt_f hc87) ?_
          show Steps p.tables e below (T74.setTop (mkF m 67 #[.val (.int p0), .val (.long q1), .second, .val (.long q2), .second, .val (.int (p0 &&& (3 : Int32))), .val (.int (((p0.toUInt32 >>> ((2 : Int32) &&& 31).toUInt32).toInt32) &&& (3 : Int32))), .val (.int (((p0.toUInt32 >>> ((4 : Int32) &&& 31).toUInt32).toInt32) &&& (3 : Int32))), .val (.ref b56), .val (.int (f3 (0 : Int64) (0 : Int64))), .unset] [])) _
          refine XS.aload X74.here hx rfl (hb hby at_67) rfl rfl ?_
          exact kt
        obtain ⟨cq88, kq88, qa88, qb88, qc88⟩ := isOf hZ e74 A56_80
        obtain ⟨_, _, ⟨T88, L88, k88, n88⟩, -, X88, ⟨Lc88, hQ88, l88, y88, z88⟩, st88⟩ := X74.virtualBack hx (y := (⟨"lavka/report/Summary", "unreadable", "()V"⟩ : MethodName)) (z := (⟨"lavka/report/Summary", "unreadable", "()V"⟩ : MethodName)) hown (mvT hZ (hw _ (List.mem_of_getElem? (i := 18) rfl))) (mvT hZ (hw _ (List.mem_of_getElem? (i := 19) rfl))) (notFace_of_selects (args := #[]) (mvT hZ (hw _ (List.mem_of_getElem? (i := 21) rfl)))) (mvT hZ (hw _ (List.mem_of_getElem? (i := 21) rfl))) (mvT hZ (hw _ (List.mem_of_getElem? (i := 20) rfl))) (by decide) (backOf (W := 0) (rm4 l Z a0 hw [] b56 (0 : Int64) (0 : Int64) w74_b56_recordsWritten w74_b56_fieldsConverted w74_b56_fieldsNotConverted h74 n0 Z0_79 gn_b56 A56_80 G58_recordsUnreadable_81 G58_recordsOfWrongType_82 G58_recordsWritten_83 G58_fieldsConverted_84 G58_fieldsNotConverted_85 ) hZ (hw _ (List.mem_of_getElem? (i := 22) rfl)) (hw _ (List.mem_of_getElem? (i := 2) rfl)) (by decide) (by decide)) qa88 qc88 (g := (mkF m 69 #[.val (.int p0), .val (.long q1), .second, .val (.long q2), .second, .val (.int (p0 &&& (3 : Int32))), .val (.int (((p0.toUInt32 >>> ((2 : Int32) &&& 31).toUInt32).toInt32) &&& (3 : Int32))), .val (.int (((p0.toUInt32 >>> ((4 : Int32) &&& 31).toUInt32).toInt32) &&& (3 : Int32))), .val (.ref b56), .val (.int (f3 (0 : Int64) (0 : Int64))), .unset] [(.ref b56)])) rfl (by rw [hml]; rfl) (Steps.refl _) (argsL := []) (rest := []) (lenOf pd_0 rfl) rfl (by show 2 * 0 + _ ≤ _; exact Nat.le_of_eq rfl) (hb hby at_69) (fun _ _ => ⟨rfl, e74, (by decide : 1 + 0 ≤ _), (by decide : 5 + 0 ≤ _)⟩)
        dsimp only [Pt.U, Pt.locs, Pt.cells, Pt.slots] at X88 l88 y88 z88 st88 hQ88
        subst l88 y88 z88
        obtain ⟨h88, e88⟩ : ∃ z, T88.heap = z := ⟨_, rfl⟩
        rw [e88] at hQ88
        obtain ⟨rfl, Nq88, K88, E88, G88_recordsUnreadable, G88_recordsOfWrongType, G88_recordsWritten, G88_fieldsConverted, G88_fieldsNotConverted⟩ := hQ88
        have N88 := Fr.app N74 Nq88
        have Z0_89 : n0 ≤ h88.size := (Nat.le_trans Z0_79 K88.1)
        have A56_90 : Exa Z h88 b56 "lavka/report/Summary" := (A56_80.keep K88)
        refine Got.hop st88 ?_
        show Got p e below s _ _ _ _ T88 (mkF m 72 #[.val (.int p0), .val (.long q1), .second, .val (.long q2), .second, .val (.int (p0 &&& (3 : Int32))), .val (.int (((p0.toUInt32 >>> ((2 : Int32) &&& 31).toUInt32).toInt32) &&& (3 : Int32))), .val (.int (((p0.toUInt32 >>> ((4 : Int32) &&& 31).toUInt32).toInt32) &&& (3 : Int32))), .val (.ref b56), .val (.int (f3 (0 : Int64) (0 : Int64))), .unset] [])
        exact J86 _ _ _ X88 e88 N88 ((0 : Int64) + (1 : Int64)) (if_neg hc87).symm Z0_89 A56_90 G88_recordsUnreadable G88_recordsOfWrongType G88_recordsWritten G88_fieldsConverted G88_fieldsNotConverted
    by_cases hc75 : ((p0 &&& (3 : Int32)) < (2 : Int32))
    · refine Got.step (T' := T62) (g' := (mkF m 61 #[.val (.int p0), .val (.long q1), .second, .val (.long q2), .second, .val (.int (p0 &&& (3 : Int32))), .val (.int (((p0.toUInt32 >>> ((2 : Int32) &&& 31).toUInt32).toInt32) &&& (3 : Int32))), .val (.int (((p0.toUInt32 >>> ((4 : Int32) &&& 31).toUInt32).toInt32) &&& (3 : Int32))), .val (.ref b56), .val (.int (f3 (0 : Int64) (0 : Int64))), .unset] [])) (fun tq kt => ?_) ?_
      · show Steps p.tables e below (T62.setTop (mkF m 51 #[.val (.int p0), .val (.long q1), .second, .val (.long q2), .second, .val (.int (p0 &&& (3 : Int32))), .val (.int (((p0.toUInt32 >>> ((2 : Int32) &&& 31).toUInt32).toInt32) &&& (3 : Int32))), .val (.int (((p0.toUInt32 >>> ((4 : Int32) &&& 31).toUInt32).toInt32) &&& (3 : Int32))), .val (.ref b56), .val (.int (f3 (0 : Int64) (0 : Int64))), .unset] [(.int (2 : Int32)), (.int (p0 &&& (3 : Int32)))])) _
        refine XS.icmpYes X62.here hx rfl (pc0 := 51) (pc' := 61) rfl (hb hby at_51) rfl (XT.ii_lt_t hc75) (by decide) (by decide) ?_
        exact kt
      exact J74 _ _ _ X62 e62 N62 w62_b56_recordsWritten (if_pos hc75).symm w62_b56_fieldsConverted (if_pos hc75).symm w62_b56_fieldsNotConverted (if_pos hc75).symm Z0_67 A56_68 G58_recordsUnreadable_69 G58_recordsOfWrongType_70 G58_recordsWritten_71 G58_fieldsConverted_72 G58_fieldsNotConverted_73
    · refine Got.step (T' := T62) (g' := (mkF m 58 #[.val (.int p0), .val (.long q1), .second, .val (.long q2), .second, .val (.int (p0 &&& (3 : Int32))), .val (.int (((p0.toUInt32 >>> ((2 : Int32) &&& 31).toUInt32).toInt32) &&& (3 : Int32))), .val (.int (((p0.toUInt32 >>> ((4 : Int32) &&& 31).toUInt32).toInt32) &&& (3 : Int32))), .val (.ref b56), .val (.int (f3 (0 : Int64) (0 : Int64))), .unset] [(.long q1), (.long q2), (.ref b56)])) (fun tq kt => ?_) ?_
      · show Steps p.tables e below (T62.setTop (mkF m 51 #[.val (.int p0), .val (.long q1), .second, .val (.long q2), .second, .val (.int (p0 &&& (3 : Int32))), .val (.int (((p0.toUInt32 >>> ((2 : Int32) &&& 31).toUInt32).toInt32) &&& (3 : Int32))), .val (.int (((p0.toUInt32 >>> ((4 : Int32) &&& 31).toUInt32).toInt32) &&& (3 : Int32))), .val (.ref b56), .val (.int (f3 (0 : Int64) (0 : Int64))), .unset] [(.int (2 : Int32)), (.int (p0 &&& (3 : Int32)))])) _
        refine XS.icmpNo X62.here hx rfl (hb hby at_51) rfl (XT.ii_lt_f hc75) ?_
        show Steps p.tables e below (T62.setTop (mkF m 54 #[.val (.int p0), .val (.long q1), .second, .val (.long q2), .second, .val (.int (p0 &&& (3 : Int32))), .val (.int (((p0.toUInt32 >>> ((2 : Int32) &&& 31).toUInt32).toInt32) &&& (3 : Int32))), .val (.int (((p0.toUInt32 >>> ((4 : Int32) &&& 31).toUInt32).toInt32) &&& (3 : Int32))), .val (.ref b56), .val (.int (f3 (0 : Int64) (0 : Int64))), .unset] [])) _
        refine XS.aload X62.here hx rfl (hb hby at_54) rfl rfl ?_
        show Steps p.tables e below (T62.setTop (mkF m 56 #[.val (.int p0), .val (.long q1), .second, .val (.long q2), .second, .val (.int (p0 &&& (3 : Int32))), .val (.int (((p0.toUInt32 >>> ((2 : Int32) &&& 31).toUInt32).toInt32) &&& (3 : Int32))), .val (.int (((p0.toUInt32 >>> ((4 : Int32) &&& 31).toUInt32).toInt32) &&& (3 : Int32))), .val (.ref b56), .val (.int (f3 (0 : Int64) (0 : Int64))), .unset] [(.ref b56)])) _
        refine XS.lloadN X62.here hx rfl (hb hby at_56) rfl ?_
        show Steps p.tables e below (T62.setTop (mkF m 57 #[.val (.int p0), .val (.long q1), .second, .val (.long q2), .second, .val (.int (p0 &&& (3 : Int32))), .val (.int (((p0.toUInt32 >>> ((2 : Int32) &&& 31).toUInt32).toInt32) &&& (3 : Int32))), .val (.int (((p0.toUInt32 >>> ((4 : Int32) &&& 31).toUInt32).toInt32) &&& (3 : Int32))), .val (.ref b56), .val (.int (f3 (0 : Int64) (0 : Int64))), .unset] [(.long q2), (.ref b56)])) _
        refine XS.lloadN X62.here hx rfl (hb hby at_57) rfl ?_
        exact kt
      obtain ⟨cq76, kq76, qa76, qb76, qc76⟩ := isOf hZ e62 A56_68
      obtain ⟨_, _, ⟨T76, L76, k76, n76⟩, -, X76, ⟨Lc76, hQ76, l76, y76, z76⟩, st76⟩ := X62.virtualBack hx (y := (⟨"lavka/report/Summary", "written", "(JJ)V"⟩ : MethodName)) (z := (⟨"lavka/report/Summary", "written", "(JJ)V"⟩ : MethodName)) hown (mvT hZ (hw _ (List.mem_of_getElem? (i := 23) rfl))) (mvT hZ (hw _ (List.mem_of_getElem? (i := 24) rfl))) (notFace_of_selects (args := #[]) (mvT hZ (hw _ (List.mem_of_getElem? (i := 26) rfl)))) (mvT hZ (hw _ (List.mem_of_getElem? (i := 26) rfl))) (mvT hZ (hw _ (List.mem_of_getElem? (i := 25) rfl))) (by decide) (backOf (W := 0) (rm5 l Z a0 hw [] b56 q2 q1 (0 : Int64) (0 : Int64) w62_b56_recordsWritten w62_b56_fieldsConverted w62_b56_fieldsNotConverted h62 n0 Z0_67 gn_b56 A56_68 G58_recordsUnreadable_69 G58_recordsOfWrongType_70 G58_recordsWritten_71 G58_fieldsConverted_72 G58_fieldsNotConverted_73 ) hZ (hw _ (List.mem_of_getElem? (i := 27) rfl)) (hw _ (List.mem_of_getElem? (i := 2) rfl)) (by decide) (by decide)) qa76 qc76 (g := (mkF m 58 #[.val (.int p0), .val (.long q1), .second, .val (.long q2), .second, .val (.int (p0 &&& (3 : Int32))), .val (.int (((p0.toUInt32 >>> ((2 : Int32) &&& 31).toUInt32).toInt32) &&& (3 : Int32))), .val (.int (((p0.toUInt32 >>> ((4 : Int32) &&& 31).toUInt32).toInt32) &&& (3 : Int32))), .val (.ref b56), .val (.int (f3 (0 : Int64) (0 : Int64))), .unset] [(.long q1), (.long q2), (.ref b56)])) rfl (by rw [hml]; rfl) (Steps.refl _) (argsL := [(.long q2), (.long q1)]) (rest := []) (lenOf pd_2 rfl) rfl (by show 2 * 0 + _ ≤ _; exact Nat.le_of_eq rfl) (hb hby at_58) (fun _ _ => ⟨rfl, e62, (by decide : 1 + 0 ≤ _), (by decide : 5 + 0 ≤ _)⟩)
      dsimp only [Pt.U, Pt.locs, Pt.cells, Pt.slots] at X76 l76 y76 z76 st76 hQ76
      subst l76 y76 z76
      obtain ⟨h76, e76⟩ : ∃ z, T76.heap = z := ⟨_, rfl⟩
      rw [e76] at hQ76
      obtain ⟨rfl, Nq76, K76, E76, G76_recordsUnreadable, G76_recordsOfWrongType, G76_recordsWritten, G76_fieldsConverted, G76_fieldsNotConverted⟩ := hQ76
      have N76 := Fr.app N62 Nq76
      have Z0_77 : n0 ≤ h76.size := (Nat.le_trans Z0_67 K76.1)
      have A56_78 : Exa Z h76 b56 "lavka/report/Summary" := (A56_68.keep K76)
      refine Got.hop st76 ?_
      show Got p e below s _ _ _ _ T76 (mkF m 61 #[.val (.int p0), .val (.long q1), .second, .val (.long q2), .second, .val (.int (p0 &&& (3 : Int32))), .val (.int (((p0.toUInt32 >>> ((2 : Int32) &&& 31).toUInt32).toInt32) &&& (3 : Int32))), .val (.int (((p0.toUInt32 >>> ((4 : Int32) &&& 31).toUInt32).toInt32) &&& (3 : Int32))), .val (.ref b56), .val (.int (f3 (0 : Int64) (0 : Int64))), .unset] [])
      exact J74 _ _ _ X76 e76 N76 (w62_b56_recordsWritten + (1 : Int64)) (if_neg hc75).symm (w62_b56_fieldsConverted + q2) (if_neg hc75).symm (w62_b56_fieldsNotConverted + q1) (if_neg hc75).symm Z0_77 A56_78 G76_recordsUnreadable G76_recordsOfWrongType G76_recordsWritten G76_fieldsConverted G76_fieldsNotConverted
  by_cases hc63 : ((p0 &&& (3 : Int32)) < (1 : Int32))
  · refine Got.step (T' := T61) (g' := (mkF m 48 #[.val (.int p0), .val (.long q1), .second, .val (.long q2), .second, .val (.int (p0 &&& (3 : Int32))), .val (.int (((p0.toUInt32 >>> ((2 : Int32) &&& 31).toUInt32).toInt32) &&& (3 : Int32))), .val (.int (((p0.toUInt32 >>> ((4 : Int32) &&& 31).toUInt32).toInt32) &&& (3 : Int32))), .val (.ref b56), .val (.int (f3 (0 : Int64) (0 : Int64))), .unset] [])) (fun tq kt => ?_) ?_
    · show Steps p.tables e below (T61.setTop (mkF m 38 #[.val (.int p0), .val (.long q1), .second, .val (.long q2), .second, .val (.int (p0 &&& (3 : Int32))), .val (.int (((p0.toUInt32 >>> ((2 : Int32) &&& 31).toUInt32).toInt32) &&& (3 : Int32))), .val (.int (((p0.toUInt32 >>> ((4 : Int32) &&& 31).toUInt32).toInt32) &&& (3 : Int32))), .val (.ref b56), .val (.int (f3 (0 : Int64) (0 : Int64))), .unset] [(.int (1 : Int32)), (.int (p0 &&& (3 : Int32)))])) _
      refine XS.icmpYes X61.here hx rfl (pc0 := 38) (pc' := 48) rfl (hb hby at_38) rfl (XT.ii_lt_t hc63) (by decide) (by decide) ?_
      exact kt
    exact J62 _ _ _ X61 e61 N61 (0 : Int64) (if_pos hc63).symm (0 : Int64) (if_pos hc63).symm (0 : Int64) (if_pos hc63).symm Z0_59 A56_60 G58_recordsUnreadable G58_recordsOfWrongType G58_recordsWritten G58_fieldsConverted G58_fieldsNotConverted
  · refine Got.step (T' := T61) (g' := (mkF m 45 #[.val (.int p0), .val (.long q1), .second, .val (.long q2), .second, .val (.int (p0 &&& (3 : Int32))), .val (.int (((p0.toUInt32 >>> ((2 : Int32) &&& 31).toUInt32).toInt32) &&& (3 : Int32))), .val (.int (((p0.toUInt32 >>> ((4 : Int32) &&& 31).toUInt32).toInt32) &&& (3 : Int32))), .val (.ref b56), .val (.int (f3 (0 : Int64) (0 : Int64))), .unset] [(.long q2), (.long q1), (.ref b56)])) (fun tq kt => ?_) ?_
    · show Steps p.tables e below (T61.setTop (mkF m 38 #[.val (.int p0), .val (.long q1), .second, .val (.long q2), .second, .val (.int (p0 &&& (3 : Int32))), .val (.int (((p0.toUInt32 >>> ((2 : Int32) &&& 31).toUInt32).toInt32) &&& (3 : Int32))), .val (.int (((p0.toUInt32 >>> ((4 : Int32) &&& 31).toUInt32).toInt32) &&& (3 : Int32))), .val (.ref b56), .val (.int (f3 (0 : Int64) (0 : Int64))), .unset] [(.int (1 : Int32)), (.int (p0 &&& (3 : Int32)))])) _
      refine XS.icmpNo X61.here hx rfl (hb hby at_38) rfl (XT.ii_lt_f hc63) ?_
      show Steps p.tables e below (T61.setTop (mkF m 41 #[.val (.int p0), .val (.long q1), .second, .val (.long q2), .second, .val (.int (p0 &&& (3 : Int32))), .val (.int (((p0.toUInt32 >>> ((2 : Int32) &&& 31).toUInt32).toInt32) &&& (3 : Int32))), .val (.int (((p0.toUInt32 >>> ((4 : Int32) &&& 31).toUInt32).toInt32) &&& (3 : Int32))), .val (.ref b56), .val (.int (f3 (0 : Int64) (0 : Int64))), .unset] [])) _
      refine XS.aload X61.here hx rfl (hb hby at_41) rfl rfl ?_
      show Steps p.tables e below (T61.setTop (mkF m 43 #[.val (.int p0), .val (.long q1), .second, .val (.long q2), .second, .val (.int (p0 &&& (3 : Int32))), .val (.int (((p0.toUInt32 >>> ((2 : Int32) &&& 31).toUInt32).toInt32) &&& (3 : Int32))), .val (.int (((p0.toUInt32 >>> ((4 : Int32) &&& 31).toUInt32).toInt32) &&& (3 : Int32))), .val (.ref b56), .val (.int (f3 (0 : Int64) (0 : Int64))), .unset] [(.ref b56)])) _
      refine XS.lloadN X61.here hx rfl (hb hby at_43) rfl ?_
      show Steps p.tables e below (T61.setTop (mkF m 44 #[.val (.int p0), .val (.long q1), .second, .val (.long q2), .second, .val (.int (p0 &&& (3 : Int32))), .val (.int (((p0.toUInt32 >>> ((2 : Int32) &&& 31).toUInt32).toInt32) &&& (3 : Int32))), .val (.int (((p0.toUInt32 >>> ((4 : Int32) &&& 31).toUInt32).toInt32) &&& (3 : Int32))), .val (.ref b56), .val (.int (f3 (0 : Int64) (0 : Int64))), .unset] [(.long q1), (.ref b56)])) _
      refine XS.lloadN X61.here hx rfl (hb hby at_44) rfl ?_
      exact kt
    obtain ⟨cq64, kq64, qa64, qb64, qc64⟩ := isOf hZ e61 A56_60
    obtain ⟨_, _, ⟨T64, L64, k64, n64⟩, -, X64, ⟨Lc64, hQ64, l64, y64, z64⟩, st64⟩ := X61.virtualBack hx (y := (⟨"lavka/report/Summary", "written", "(JJ)V"⟩ : MethodName)) (z := (⟨"lavka/report/Summary", "written", "(JJ)V"⟩ : MethodName)) hown (mvT hZ (hw _ (List.mem_of_getElem? (i := 23) rfl))) (mvT hZ (hw _ (List.mem_of_getElem? (i := 24) rfl))) (notFace_of_selects (args := #[]) (mvT hZ (hw _ (List.mem_of_getElem? (i := 26) rfl)))) (mvT hZ (hw _ (List.mem_of_getElem? (i := 26) rfl))) (mvT hZ (hw _ (List.mem_of_getElem? (i := 25) rfl))) (by decide) (backOf (W := 0) (rm5 l Z a0 hw [] b56 q1 q2 (0 : Int64) (0 : Int64) (0 : Int64) (0 : Int64) (0 : Int64) h58 n0 Z0_59 gn_b56 A56_60 G58_recordsUnreadable G58_recordsOfWrongType G58_recordsWritten G58_fieldsConverted G58_fieldsNotConverted ) hZ (hw _ (List.mem_of_getElem? (i := 27) rfl)) (hw _ (List.mem_of_getElem? (i := 2) rfl)) (by decide) (by decide)) qa64 qc64 (g := (mkF m 45 #[.val (.int p0), .val (.long q1), .second, .val (.long q2), .second, .val (.int (p0 &&& (3 : Int32))), .val (.int (((p0.toUInt32 >>> ((2 : Int32) &&& 31).toUInt32).toInt32) &&& (3 : Int32))), .val (.int (((p0.toUInt32 >>> ((4 : Int32) &&& 31).toUInt32).toInt32) &&& (3 : Int32))), .val (.ref b56), .val (.int (f3 (0 : Int64) (0 : Int64))), .unset] [(.long q2), (.long q1), (.ref b56)])) rfl (by rw [hml]; rfl) (Steps.refl _) (argsL := [(.long q1), (.long q2)]) (rest := []) (lenOf pd_2 rfl) rfl (by show 2 * 0 + _ ≤ _; exact Nat.le_of_eq rfl) (hb hby at_45) (fun _ _ => ⟨rfl, e61, (by decide : 1 + 0 ≤ _), (by decide : 5 + 0 ≤ _)⟩)
    dsimp only [Pt.U, Pt.locs, Pt.cells, Pt.slots] at X64 l64 y64 z64 st64 hQ64
    subst l64 y64 z64
    obtain ⟨h64, e64⟩ : ∃ z, T64.heap = z := ⟨_, rfl⟩
    rw [e64] at hQ64
    obtain ⟨rfl, Nq64, K64, E64, G64_recordsUnreadable, G64_recordsOfWrongType, G64_recordsWritten, G64_fieldsConverted, G64_fieldsNotConverted⟩ := hQ64
    have N64 := Fr.app N61 Nq64
    have Z0_65 : n0 ≤ h64.size := (Nat.le_trans Z0_59 K64.1)
    have A56_66 : Exa Z h64 b56 "lavka/report/Summary" := (A56_60.keep K64)
    refine Got.hop st64 ?_
    show Got p e below s _ _ _ _ T64 (mkF m 48 #[.val (.int p0), .val (.long q1), .second, .val (.long q2), .second, .val (.int (p0 &&& (3 : Int32))), .val (.int (((p0.toUInt32 >>> ((2 : Int32) &&& 31).toUInt32).toInt32) &&& (3 : Int32))), .val (.int (((p0.toUInt32 >>> ((4 : Int32) &&& 31).toUInt32).toInt32) &&& (3 : Int32))), .val (.ref b56), .val (.int (f3 (0 : Int64) (0 : Int64))), .unset] [])
    exact J62 _ _ _ X64 e64 N64 ((0 : Int64) + (1 : Int64)) (if_neg hc63).symm ((0 : Int64) + q1) (if_neg hc63).symm ((0 : Int64) + q2) (if_neg hc63).symm Z0_65 A56_66 G64_recordsUnreadable G64_recordsOfWrongType G64_recordsWritten G64_fieldsConverted G64_fieldsNotConverted
set_option maxRecDepth 65536 in
set_option maxHeartbeats 40000000 in
theorem comes_1 {Post : Tables → Env → Array Value → State → Outcome → State → Prop} (hpost : ∀ tb e args s v u, (limb_1_1.after args s (.returned v) u = true ∧ limb_1_2.after args s (.returned v) u = true ∧ True) → FrameEnd s (.returned v) u (Jvm.fieldLocs frame_1_writes args s ++ Jvm.arrayLocs frame_1_arrays args s ++ Jvm.staticLocs frame_1_statics s) 16 128 → Post tb e args s (.returned v) u) :
    ArmFor flags0 classFile x code maxLocals ret World_1 tables_1 room_1 Calls_1 rest_1 Pre_1 Post := by
  intro l hfl _ _ p e ha hc hk s m args below hf hA hF happ hP
  obtain ⟨hcalls, hrest, hpre⟩ := hP
  obtain ⟨-, -, -, hnamed, -, -, -, hat⟩ := (Spec.applies_iff hf).mp happ
  obtain ⟨hg, hn⟩ := and_e (Cond.before_iff.mp (show (Jvm.Cond.and given_1 narrow_1).before args s = true from hpre))
  obtain ⟨h1, g0⟩ := and_e hg
  obtain ⟨c0, g1⟩ := and_e g0
  obtain ⟨c1, g2⟩ := and_e g1
  obtain ⟨w0, w1, w2, rfl⟩ : ∃ w0 w1 w2 : Value, args = #[w0, w1, w2] := by
    have hs : args.size = 3 := by simpa [Cond.value, given_1] using h1
    obtain ⟨L⟩ := args
    match L, hs with
    | [w0, w1, w2], _ => exact ⟨w0, w1, w2, rfl⟩
  have hw := fun d (hd : d ∈ tables_1) => atoms_spec (ws := Jvm.Cond.code x code maxLocals ret :: tables_1) hat d (List.mem_cons_of_mem _ hd)
  obtain ⟨i0, e0⟩ := is_v c0
  obtain rfl : w0 = (.int i0) := Option.some.inj e0
  obtain ⟨i1, e1⟩ := isL_v c1
  obtain rfl : w1 = (.long i1) := Option.some.inj e1
  obtain ⟨i2, e2⟩ := isL_v g2
  obtain rfl : w2 = (.long i2) := Option.some.inj e2
  obtain ⟨n, o, h1, h2, h3, vq, L, rfl, ⟨hv, N⟩, hq⟩ := rm0 l s _ hw tables_1 i0 i1 i2  s.heap s.heap.size (Nat.le_refl _) p e ha hc hk s m _ below hf ((Spec.applies_iff_loose hf).mp happ).1 ⟨rfl, State.Warmed39.refl s, rfl⟩ trivial
  subst hv
  refine ⟨n, _, h1, h2, h3, hpost _ _ _ _ _ _ ⟨Cond.after_iff.mpr rfl, Cond.after_iff.mpr (eq_i res_at (Term.int_eval (1)) rfl), trivial⟩ ⟨hq.1, hq.2.1, (hq.2.2.sift fun y hy => Or.inr (N y hy)).mono (by decide) (by decide)⟩⟩
theorem main_1_1 : Claimed_1_1 := comes_1 fun _ _ _ _ _ _ h hF => ⟨h.1, hF⟩
theorem main_1_2 : Claimed_1_2 := comes_1 fun _ _ _ _ _ _ h hF => ⟨h.2.1, hF⟩
end Jvm.Pilot.@@N@@
namespace Jvm.Pilot.@@N@@
open Jvm Jvm.ClassFile Sem Op Lib Jvm.Free Jvm.Stand Jvm.Pilot.@@N@@.Jvm.D
/-! MADE BY PROGRAM (witnessworld.py) out of the Statement's table words and the real class files: 9 classes; the members and pool entries that the words name. The judged class is class 1, her method 1. -/
namespace start1
open Jvm.ClassFile
def u (s : String) : CpInfo := .utf8 (stringToUtf16 s)
/-- a pool by its gaps: so many unusable entries, then the entry; so many at the end -/
def gap : Nat → List CpInfo → List CpInfo
  | 0, r => r
  | n + 1, r => .unusable :: gap n r
def poolList (es : List (Nat × CpInfo)) (last : Nat) : List CpInfo := es.foldr (fun e r => gap e.1 (e.2 :: r)) (gap last [])
def pool (es : List (Nat × CpInfo)) (last : Nat) : Array CpInfo := ⟨poolList es last⟩
def fileOf (pool : Array CpInfo) (this : Nat) (attrs : Array Attribute := #[]) (ms : Array MethodInfo := #[]) (fl : Nat := 33) (sup : Nat := 0) (ifs : Array Nat := #[]) (fds : Array FieldInfo := #[]) : ClassFile where
  minorVersion := 0
  majorVersion := 65
  constantPool := pool
  accessFlags := fl
  thisClass := this
  superClass := sup
  interfaces := ifs
  fields := fds
  methods := ms
  attributes := attrs
def plain (name : String) (sup : Option ClassId) : Class where
  name := name
  kind := .ordinary
  loader := none
  accessFlags := 33
  super := sup
  interfaces := #[]
  cf := none
  fields := #[]
  methods := #[]
  instanceTypes := #[]
  staticTypes := #[]
  resolved := #[]
  callSites := []
  init := .initialized
  statics := none
  mirror := none

def pool0 : Array CpInfo := pool [(5, u "<init>"), (0, u "()V"), (1, .class_ 10), (1, u "java/lang/Object")] 113

def k0c0 : Code := { maxStack := 0, maxLocals := 1, code := object_method_1_code, exceptionTable := #[], attributes := #[] }
def k0m0 : Method := { name := "<init>", desc := "()V", sig := { parameters := [], returnType := none }, accessFlags := 1, code := some k0c0 }
/-- java/lang/Object -/
def k0 : Class := { plain "java/lang/Object" none with
  accessFlags := 33
  interfaces := #[]
  cf := some (fileOf pool0 8 #[] #[{ accessFlags := 1, nameIndex := 5, descriptorIndex := 6, attributes := #[] }] 33 0 #[] #[])
  fields := #[]
  methods := #[k0m0]
  instanceTypes := #[]
  staticTypes := #[]
  resolved := Array.replicate 124 none
  statics := none }

def pool1 : Array CpInfo := pool [(2, .class_ 4), (0, .nameAndType 5 6), (0, u "java/lang/Object"), (0, u "<init>"), (0, u "()V"), (0, .class_ 8), (0, u "lavka/report/Summary"), (0, .methodref 7 3), (0, .methodref 7 11), (0, .nameAndType 12 13), (0, u "allWritten"), (0, u "()Z"), (0, .methodref 7 15), (0, .nameAndType 16 17), (0, u "written"), (0, u "(JJ)V"), (0, .methodref 7 19), (0, .nameAndType 20 6), (0, u "unreadable"), (0, .methodref 7 22), (0, .nameAndType 23 6), (0, u "wrongType"), (0, .class_ 25), (0, u "lavka/report/SummaryAllWrittenPinLaw"), (2, u "law"), (0, u "(IJJ)Z")] 3

def k1m0 : Method := { name := "<init>", desc := "()V", sig := { parameters := [], returnType := none }, accessFlags := 1, code := none }
def k1c1 : Code := { maxStack := 5, maxLocals := 11, code := code, exceptionTable := #[], attributes := #[] }
def k1m1 : Method := { name := "law", desc := "(IJJ)Z", sig := { parameters := [.int, .long, .long], returnType := some .boolean }, accessFlags := 9, code := some k1c1 }
/-- lavka/report/SummaryAllWrittenPinLaw -/
def k1 : Class := { plain "lavka/report/SummaryAllWrittenPinLaw" (some 0) with
  accessFlags := 49
  interfaces := #[]
  cf := some (fileOf pool1 24 #[] #[{ accessFlags := 1, nameIndex := 5, descriptorIndex := 6, attributes := #[] }, { accessFlags := 9, nameIndex := 28, descriptorIndex := 29, attributes := #[] }] 49 2 #[] #[])
  fields := #[]
  methods := #[k1m0, k1m1]
  instanceTypes := #[]
  staticTypes := #[]
  resolved := Array.replicate 33 none
  statics := none }

def pool2 : Array CpInfo := pool [(1, .methodref 2 3), (0, .class_ 4), (0, .nameAndType 5 6), (0, u "java/lang/Object"), (0, u "<init>"), (0, u "()V"), (0, .fieldref 8 9), (0, .class_ 10), (0, .nameAndType 11 12), (0, u "lavka/report/Summary"), (0, u "recordsWritten"), (0, u "J"), (0, .fieldref 8 14), (0, .nameAndType 15 12), (0, u "fieldsConverted"), (0, .fieldref 8 17), (0, .nameAndType 18 12), (0, u "fieldsNotConverted"), (0, .fieldref 8 20), (0, .nameAndType 21 12), (0, u "recordsUnreadable"), (0, .fieldref 8 23), (0, .nameAndType 24 12), (0, u "recordsOfWrongType"), (22, u "written"), (0, u "(JJ)V"), (0, u "unreadable"), (0, u "wrongType"), (0, u "allWritten"), (0, u "()Z")] 5

def k2c0 : Code := { maxStack := 1, maxLocals := 1, code := prog_12_method_1_code, exceptionTable := #[], attributes := #[] }
def k2m0 : Method := { name := "<init>", desc := "()V", sig := { parameters := [], returnType := none }, accessFlags := 1, code := some k2c0 }
def k2c1 : Code := { maxStack := 5, maxLocals := 5, code := prog_12_method_2_code, exceptionTable := #[], attributes := #[] }
def k2m1 : Method := { name := "written", desc := "(JJ)V", sig := { parameters := [.long, .long], returnType := none }, accessFlags := 1, code := some k2c1 }
def k2c2 : Code := { maxStack := 5, maxLocals := 1, code := prog_12_method_3_code, exceptionTable := #[], attributes := #[] }
def k2m2 : Method := { name := "unreadable", desc := "()V", sig := { parameters := [], returnType := none }, accessFlags := 1, code := some k2c2 }
def k2c3 : Code := { maxStack := 5, maxLocals := 1, code := prog_12_method_4_code, exceptionTable := #[], attributes := #[] }
def k2m3 : Method := { name := "wrongType", desc := "()V", sig := { parameters := [], returnType := none }, accessFlags := 1, code := some k2c3 }
def k2c4 : Code := { maxStack := 4, maxLocals := 1, code := prog_12_method_5_code, exceptionTable := #[], attributes := #[] }
def k2m4 : Method := { name := "allWritten", desc := "()Z", sig := { parameters := [], returnType := some .boolean }, accessFlags := 1, code := some k2c4 }
/-- lavka/report/Summary -/
def k2 : Class := { plain "lavka/report/Summary" (some 0) with
  accessFlags := 49
  interfaces := #[]
  cf := some (fileOf pool2 8 #[] #[{ accessFlags := 1, nameIndex := 5, descriptorIndex := 6, attributes := #[] }, { accessFlags := 1, nameIndex := 47, descriptorIndex := 48, attributes := #[] }, { accessFlags := 1, nameIndex := 49, descriptorIndex := 6, attributes := #[] }, { accessFlags := 1, nameIndex := 50, descriptorIndex := 6, attributes := #[] }, { accessFlags := 1, nameIndex := 51, descriptorIndex := 52, attributes := #[] }] 49 2 #[] #[{ accessFlags := 2, nameIndex := 11, descriptorIndex := 12, attributes := #[] }, { accessFlags := 2, nameIndex := 21, descriptorIndex := 12, attributes := #[] }, { accessFlags := 2, nameIndex := 24, descriptorIndex := 12, attributes := #[] }, { accessFlags := 2, nameIndex := 15, descriptorIndex := 12, attributes := #[] }, { accessFlags := 2, nameIndex := 18, descriptorIndex := 12, attributes := #[] }])
  fields := #[{ name := "recordsWritten", type := .long, accessFlags := 2, slot := 0, constantValue := 0 }, { name := "recordsUnreadable", type := .long, accessFlags := 2, slot := 1, constantValue := 0 }, { name := "recordsOfWrongType", type := .long, accessFlags := 2, slot := 2, constantValue := 0 }, { name := "fieldsConverted", type := .long, accessFlags := 2, slot := 3, constantValue := 0 }, { name := "fieldsNotConverted", type := .long, accessFlags := 2, slot := 4, constantValue := 0 }]
  methods := #[k2m0, k2m1, k2m2, k2m3, k2m4]
  instanceTypes := #[.long, .long, .long, .long, .long]
  staticTypes := #[]
  resolved := Array.replicate 58 none
  statics := none }

def pool3 : Array CpInfo := pool [(1, u "java/lang/Cloneable"), (0, .class_ 1), (0, u "java/lang/Object"), (0, .class_ 3)] 3

/-- java/lang/Cloneable -/
def k3 : Class := { plain "java/lang/Cloneable" (some 0) with
  accessFlags := 1537
  interfaces := #[]
  cf := some (fileOf pool3 2 #[] #[] 1537 4 #[] #[])
  fields := #[]
  methods := #[]
  instanceTypes := #[]
  staticTypes := #[]
  resolved := Array.replicate 8 none
  statics := none }

def pool4 : Array CpInfo := pool [(1, u "java/io/Serializable"), (0, .class_ 1), (0, u "java/lang/Object"), (0, .class_ 3)] 3

/-- java/io/Serializable -/
def k4 : Class := { plain "java/io/Serializable" (some 0) with
  accessFlags := 1537
  interfaces := #[]
  cf := some (fileOf pool4 2 #[] #[] 1537 4 #[] #[])
  fields := #[]
  methods := #[]
  instanceTypes := #[]
  staticTypes := #[]
  resolved := Array.replicate 8 none
  statics := none }

/-- the primitive byte -/
def k5 : Class := { plain "byte" none with kind := .primitive 'B', accessFlags := 0x411 }
/-- [B -/
def k6 : Class := { plain "[B" (some 0) with kind := .array 5 .byte, interfaces := #[3, 4], accessFlags := 1041 }

/-- the primitive int -/
def k7 : Class := { plain "int" none with kind := .primitive 'I', accessFlags := 0x411 }
/-- [I -/
def k8 : Class := { plain "[I" (some 0) with kind := .array 7 .int, interfaces := #[3, 4], accessFlags := 1041 }

def heap : Heap := #[]
def classes : Array Class := #[k0, k1, k2, k3, k4, k5, k6, k7, k8]
def interned : List (Array UInt16 × Addr) := []
def slotsUsed : Nat := 0
def theMethod : MethodId := ⟨1, 1⟩
def args0 : Array Value := #[.int 22, .long 3, .long 9]
def aboutOver (below : List Frame) : State where
  vm := { classes := classes, interned := interned.toArray }
  heap := heap
  slotsUsed := slotsUsed
  threads := #[{ frames := .invoking theMethod args0 :: below }]
def below0 : List Frame := [.native { method := ⟨0, 0⟩, args := #[] }]
def about1 : State := aboutOver below0
def p0 : Program := .bare "" "" ""
def e0 : Env := launch0.env 0 0 0
theorem w_frames : about1.frames = Frame.invoking theMethod args0 :: below0 := rfl
set_option maxRecDepth 65536 in
theorem w_args : argsFit about1.vm theMethod args0 = true := by decide +kernel
set_option maxRecDepth 65536 in
theorem w_heap : heapFits about1 = true := by decide +kernel
set_option maxRecDepth 65536 in
theorem w_runnable : about1.curStatus? = some .runnable := by decide +kernel
set_option maxRecDepth 65536 in
theorem w_alone : about1.alone = true := by decide +kernel
set_option maxRecDepth 65536 in
theorem w_named : about1.methodNamed? x = some theMethod := by decide +kernel
set_option maxRecDepth 65536 in
theorem w_hears : about1.hears theMethod below0 = true := by decide +kernel
set_option maxRecDepth 65536 in
theorem w_ripe : about1.ripe theMethod args0 below0 = true := by decide +kernel
theorem w_running : about1.status = .running := rfl
set_option maxRecDepth 65536 in
theorem w_room : about1.hasRoom e0.platform room_1 = true :=
  launch0.hasRoom_least _ room_1 (by decide +kernel) (by decide +kernel) (by decide +kernel) (by decide +kernel) (by decide +kernel) (by decide +kernel)
theorem allAtoms_all (ts : List Jvm.Cond) (a : Array Jvm.Value) (st : Jvm.State) : (allAtoms ts).before a st = ts.all (fun c => c.before a st) := by
  induction ts with
  | nil => rfl
  | cons c t ih =>
    show (Jvm.Cond.and c (allAtoms t)).before a st = _
    rw [Jvm.Cond.before_and, ih, List.all_cons]
def words1 : List Jvm.Cond := Jvm.Cond.code x code maxLocals ret :: tables_1
/-- a 'code' word, met by the world's own term for the bytes: nothing is compared byte by byte -/
theorem code_word {y : MethodName} {bytes : ByteArray} {mx : Nat} {rt : Option FieldType} {a : Array Value} {s : State} {m : MethodId} {meth : Method} {c : Code} (h1 : s.methodNamed? y = some m) (h2 : s.vm.method? m = some meth) (h3 : meth.code = some c) (h4 : c.code = bytes)
    (h5 : (c.maxLocals == mx && c.exceptionTable.isEmpty && decide (c.maxStack ≤ mostOperands) && decide (meth.sig.returnType = rt) && !meth.locks && decide (parseMethodDescriptor y.desc = some meth.sig)) = true) : (Jvm.Cond.code y bytes mx rt).before a s = true := by
  simp only [Bool.and_eq_true, beq_iff_eq, Bool.not_eq_true', decide_eq_true_eq] at h5
  obtain ⟨⟨⟨⟨⟨g1, g2⟩, g3⟩, g4⟩, g5⟩, g6⟩ := h5
  simp [Cond.before, Cond.holds, Cond.value, h1, h2, h3, h4, g1, g2, g3, g4, g5, g6]
def isCode : Jvm.Cond → Bool
  | .code _ _ _ _ => true
  | _ => false
theorem all_split {L : List Jvm.Cond} {P : Jvm.Cond → Bool} (h1 : L.all (fun c => isCode c || P c) = true) (h2 : ∀ c ∈ L.filter isCode, P c = true) : L.all P = true := by
  refine List.all_eq_true.mpr fun c hc => ?_
  have h := List.all_eq_true.mp h1 c hc
  rcases Bool.eq_false_or_eq_true (isCode c) with hi | hi
  · exact h2 c (List.mem_filter.mpr ⟨hc, hi⟩)
  · simpa [hi] using h
set_option maxRecDepth 65536 in
theorem w_c0 : (Jvm.Cond.code x code maxLocals ret).before args0 about1 = true := code_word (m := ⟨1, 1⟩) (meth := k1m1) (c := k1c1) (by decide +kernel) rfl rfl rfl (by decide +kernel)
set_option maxRecDepth 65536 in
theorem w_c1 : (Jvm.Cond.code ({ cls := "lavka/report/Summary", name := "<init>", desc := "()V" } : Jvm.MethodName) prog_12_method_1_code (1 : Nat) (Option.none : Option Jvm.ClassFile.FieldType)).before args0 about1 = true := code_word (m := ⟨2, 0⟩) (meth := k2m0) (c := k2c0) (by decide +kernel) rfl rfl rfl (by decide +kernel)
set_option maxRecDepth 65536 in
theorem w_c2 : (Jvm.Cond.code ({ cls := "java/lang/Object", name := "<init>", desc := "()V" } : Jvm.MethodName) object_method_1_code (1 : Nat) (Option.none : Option Jvm.ClassFile.FieldType)).before args0 about1 = true := code_word (m := ⟨0, 0⟩) (meth := k0m0) (c := k0c0) (by decide +kernel) rfl rfl rfl (by decide +kernel)
set_option maxRecDepth 65536 in
theorem w_c3 : (Jvm.Cond.code ({ cls := "lavka/report/Summary", name := "allWritten", desc := "()Z" } : Jvm.MethodName) prog_12_method_5_code (1 : Nat) (Option.some Jvm.ClassFile.FieldType.boolean)).before args0 about1 = true := code_word (m := ⟨2, 4⟩) (meth := k2m4) (c := k2c4) (by decide +kernel) rfl rfl rfl (by decide +kernel)
set_option maxRecDepth 65536 in
theorem w_c4 : (Jvm.Cond.code ({ cls := "lavka/report/Summary", name := "unreadable", desc := "()V" } : Jvm.MethodName) prog_12_method_3_code (1 : Nat) (Option.none : Option Jvm.ClassFile.FieldType)).before args0 about1 = true := code_word (m := ⟨2, 2⟩) (meth := k2m2) (c := k2c2) (by decide +kernel) rfl rfl rfl (by decide +kernel)
set_option maxRecDepth 65536 in
theorem w_c5 : (Jvm.Cond.code ({ cls := "lavka/report/Summary", name := "written", desc := "(JJ)V" } : Jvm.MethodName) prog_12_method_2_code (5 : Nat) (Option.none : Option Jvm.ClassFile.FieldType)).before args0 about1 = true := code_word (m := ⟨2, 1⟩) (meth := k2m1) (c := k2c1) (by decide +kernel) rfl rfl rfl (by decide +kernel)
set_option maxRecDepth 65536 in
theorem w_c6 : (Jvm.Cond.code ({ cls := "lavka/report/Summary", name := "wrongType", desc := "()V" } : Jvm.MethodName) prog_12_method_4_code (1 : Nat) (Option.none : Option Jvm.ClassFile.FieldType)).before args0 about1 = true := code_word (m := ⟨2, 3⟩) (meth := k2m3) (c := k2c3) (by decide +kernel) rfl rfl rfl (by decide +kernel)
def codes1 : List Jvm.Cond := [Jvm.Cond.code x code maxLocals ret, Jvm.Cond.code ({ cls := "lavka/report/Summary", name := "<init>", desc := "()V" } : Jvm.MethodName) prog_12_method_1_code (1 : Nat) (Option.none : Option Jvm.ClassFile.FieldType), Jvm.Cond.code ({ cls := "java/lang/Object", name := "<init>", desc := "()V" } : Jvm.MethodName) object_method_1_code (1 : Nat) (Option.none : Option Jvm.ClassFile.FieldType), Jvm.Cond.code ({ cls := "lavka/report/Summary", name := "allWritten", desc := "()Z" } : Jvm.MethodName) prog_12_method_5_code (1 : Nat) (Option.some Jvm.ClassFile.FieldType.boolean), Jvm.Cond.code ({ cls := "lavka/report/Summary", name := "unreadable", desc := "()V" } : Jvm.MethodName) prog_12_method_3_code (1 : Nat) (Option.none : Option Jvm.ClassFile.FieldType), Jvm.Cond.code ({ cls := "lavka/report/Summary", name := "written", desc := "(JJ)V" } : Jvm.MethodName) prog_12_method_2_code (5 : Nat) (Option.none : Option Jvm.ClassFile.FieldType), Jvm.Cond.code ({ cls := "lavka/report/Summary", name := "wrongType", desc := "()V" } : Jvm.MethodName) prog_12_method_4_code (1 : Nat) (Option.none : Option Jvm.ClassFile.FieldType)]
set_option maxRecDepth 65536 in
theorem codes_eq : words1.filter isCode = codes1 := rfl
theorem w_codes : ∀ c ∈ words1.filter isCode, c.before args0 about1 = true := by
  rw [codes_eq]
  intro c hc
  simp only [codes1, List.mem_cons, List.not_mem_nil, or_false] at hc
  rcases hc with rfl | rfl | rfl | rfl | rfl | rfl | rfl
  · exact w_c0
  · exact w_c1
  · exact w_c2
  · exact w_c3
  · exact w_c4
  · exact w_c5
  · exact w_c6
set_option maxRecDepth 65536 in
theorem w_t1 : (words1.take 24).all (fun c => isCode c || c.before args0 about1) = true := by decide +kernel
set_option maxRecDepth 65536 in
theorem w_t2 : (words1.drop 24).all (fun c => isCode c || c.before args0 about1) = true := by decide +kernel
theorem w_tables : (allAtoms (Jvm.Cond.code x code maxLocals ret :: tables_1)).before args0 about1 = true := by
  rw [allAtoms_all]
  show words1.all (fun c => c.before args0 about1) = true
  refine all_split ?_ w_codes
  rw [← List.take_append_drop 24 words1, List.all_append, w_t1, w_t2]
  rfl
set_option maxRecDepth 65536 in
theorem w_case : (Jvm.Cond.and given_1 narrow_1).before args0 about1 = true := by decide +kernel
theorem w_applies : (headSpec (Jvm.Cond.code x code maxLocals ret :: tables_1) room_1).applies x e0.platform about1 = true :=
  (Spec.applies_iff w_frames).mpr ⟨w_running, w_runnable, w_alone, w_named, w_hears, w_ripe, w_room, w_tables⟩
theorem atStart : AtStart classFile x code maxLocals ret World_1 tables_1 room_1 Calls_1 rest_1 Pre_1 launch0 p0 e0 about1 theMethod args0 below0 :=
  ⟨lists_1, trivial, launch0.admits_env _ _ _, launch0.least_env, fairChoices_fair.cas, fairChoices_fair.clock, w_frames, w_args, w_heap, w_applies, trivial, trivial, w_case⟩
end start1
theorem witness_1 : WitnessClaimed_1 := ⟨start1.p0, start1.e0, start1.about1, start1.theMethod, start1.args0, start1.below0, start1.atStart⟩
end Jvm.Pilot.@@N@@
