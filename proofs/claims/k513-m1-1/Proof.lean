import JvmDerived
import JvmDerived.Pilot.@@N@@Statement
import JvmDerived.Pilot.@@N@@Code
set_option linter.unusedVariables false
set_option linter.unusedSimpArgs false
namespace Jvm.RoadKit
open Sem ClassFile Op Lib Jvm.Stand Jvm.Free Jvm.LawKit
section New
variable {p : Program} {l : Launch} {e : Env} {R : Room} {s : State} {m : MethodId} {args : Array Value} {below : List Frame} {meth : Method} {c : Code} {T T' : State} {locs : List Loc} {cells slots : Nat}
/-- what a body leaves: the value, and what is known of the heap and of the places written -/
def QV (w : Option Value) (P : Heap → List Loc → Prop) (v : Option Value) (h : Heap) (L : List Loc) : Prop := v = w ∧ P h L
/-- a body that writes nothing -/
def PureP (n0 : Nat) (h0 : Heap) (h : Heap) (L : List Loc) : Prop := Fr n0 L ∧ h = h0
/-- from here the body returns w and leaves P -/
def Got (p : Program) (e : Env) (below : List Frame) (s : State) (P : Heap → List Loc → Prop) (ck cs : Nat) (w : Option Value) (T : State) (g : JFrame) : Prop :=
  ∃ s₂ L, Steps p.tables e below (T.setTop g) s₂ ∧ s₂.status = .running ∧ Ended s₂ below (.returned w) ∧ P s₂.heap L ∧ FrameEnd s (.returned w) s₂ L ck cs
variable {P : Heap → List Loc → Prop} {ck cs : Nat} {w : Option Value} {g g' : JFrame}
theorem Got.step (h : ∀ t, Steps p.tables e below (T'.setTop g') t → Steps p.tables e below (T.setTop g) t) (k : Got p e below s P ck cs w T' g') : Got p e below s P ck cs w T g := by
  obtain ⟨s₂, L, h1, r⟩ := k
  exact ⟨s₂, L, h _ h1, r⟩
theorem Got.hop (h : Steps p.tables e below (T.setTop g) (T'.setTop g')) (k : Got p e below s P ck cs w T' g') : Got p e below s P ck cs w T g := Got.step (fun _ q => h.trans q) k
theorem Got.ite {q : Prop} [Decidable q] {x y : Int32} (h1 : q → Got p e below s P ck cs (some (.int x)) T g) (h2 : ¬ q → Got p e below s P ck cs (some (.int y)) T g) : Got p e below s P ck cs (some (.int (if q then x else y))) T g := by
  by_cases h : q
  · rw [if_pos h]; exact h1 h
  · rw [if_neg h]; exact h2 h
theorem Got.iteJ {q : Prop} [Decidable q] {x y : Int64} (h1 : q → Got p e below s P ck cs (some (.long x)) T g) (h2 : ¬ q → Got p e below s P ck cs (some (.long y)) T g) : Got p e below s P ck cs (some (.long (if q then x else y))) T g := by
  by_cases h : q
  · rw [if_pos h]; exact h1 h
  · rw [if_neg h]; exact h2 h
theorem Got.iteR {q : Prop} [Decidable q] {x y : Addr} (h1 : q → Got p e below s P ck cs (some (.ref x)) T g) (h2 : ¬ q → Got p e below s P ck cs (some (.ref y)) T g) : Got p e below s P ck cs (some (.ref (if q then x else y))) T g := by
  by_cases h : q
  · rw [if_pos h]; exact h1 h
  · rw [if_neg h]; exact h2 h
theorem Got.body {n : Nat} {as' : Array Value} (hg : entryFrame m as' n = g) (k : Got p e below s P ck cs w T g) :
    ∃ s₂ o, Steps p.tables e below (T.setTop (entryFrame m as' n)) s₂ ∧ s₂.status = .running ∧ Ended s₂ below o ∧ ∃ v L, o = .returned v ∧ QV w P v s₂.heap L ∧ FrameEnd s o s₂ L ck cs := by
  obtain ⟨s₂, L, h1, h2, h3, h4, h5⟩ := k
  exact ⟨s₂, _, by rw [hg]; exact h1, h2, h3, w, L, rfl, ⟨rfl, h4⟩, h5⟩
theorem Got.retN (X : Stand p l e R s m args below meth c T locs cells slots) (hx : p.tables.exec = Jvm.exec) {t : FieldType} (hret : meth.sig.returnType = some t) (ht : t = .boolean ∨ t = .byte ∨ t = .char ∨ t = .short) (hlk : meth.locks = false) {pc : Nat} {Ls : Array Slot} {z y : Int32} {rest : List Value}
    (hd : decode c.code pc = .ok (.ireturn, 1)) (hy : nar t z = y) (hP : P T.heap locs) (hc : cells ≤ ck) (hs : slots ≤ cs) : Got p e below s P ck cs (some (.int y)) T (mkF m pc Ls (.int z :: rest)) := by
  subst hy
  obtain ⟨fs, hr, hrun, hended, hW, hsame⟩ := X.leave (v := some (.int (nar t z))) (fun h => by rw [hret] at h; cases h) hlk
  exact ⟨_, locs, Jvm.RoadKit.retN X hx hret ht hd hr, hrun, hended, hP, ⟨_, rfl⟩, hW, hsame.mono hc hs⟩
theorem Got.retI (X : Stand p l e R s m args below meth c T locs cells slots) (hx : p.tables.exec = Jvm.exec) (hret : meth.sig.returnType = some .int) (hlk : meth.locks = false) {pc : Nat} {Ls : Array Slot} {z y : Int32} {rest : List Value}
    (hd : decode c.code pc = .ok (.ireturn, 1)) (hy : z = y) (hP : P T.heap locs) (hc : cells ≤ ck) (hs : slots ≤ cs) : Got p e below s P ck cs (some (.int y)) T (mkF m pc Ls (.int z :: rest)) := by
  subst hy
  obtain ⟨fs, hr, hrun, hended, hW, hsame⟩ := X.leave (v := some (.int z)) (fun h => by rw [hret] at h; cases h) hlk
  exact ⟨_, locs, retOut X hx hret rfl (Or.inl ⟨rfl, Or.inl rfl, z, rfl⟩) hd hr, hrun, hended, hP, ⟨_, rfl⟩, hW, hsame.mono hc hs⟩
theorem Got.retJ (X : Stand p l e R s m args below meth c T locs cells slots) (hx : p.tables.exec = Jvm.exec) (hret : meth.sig.returnType = some .long) (hlk : meth.locks = false) {pc : Nat} {Ls : Array Slot} {z y : Int64}
    (hd : decode c.code pc = .ok (.lreturn, 1)) (hy : z = y) (hP : P T.heap locs) (hc : cells ≤ ck) (hs : slots ≤ cs) : Got p e below s P ck cs (some (.long y)) T (mkF m pc Ls [.long z]) := by
  subst hy
  obtain ⟨fs, hr, hrun, hended, hW, hsame⟩ := X.leave (v := some (.long z)) (fun h => by rw [hret] at h; cases h) hlk
  exact ⟨_, locs, X.lreturnOut hx hret hd hr, hrun, hended, hP, ⟨_, rfl⟩, hW, hsame.mono hc hs⟩
theorem Got.retV (X : Stand p l e R s m args below meth c T locs cells slots) (hx : p.tables.exec = Jvm.exec) (hret : meth.sig.returnType = none) (hlk : meth.locks = false) {pc : Nat} {Ls : Array Slot}
    (hd : decode c.code pc = .ok (.return_, 1)) (hP : P T.heap locs) (hc : cells ≤ ck) (hs : slots ≤ cs) : Got p e below s P ck cs none T (mkF m pc Ls []) := by
  obtain ⟨fs, hr, hrun, hended, hW, hsame⟩ := X.leave (v := none) (fun _ => rfl) hlk
  exact ⟨_, locs, X.returnOut hx hret hd hr, hrun, hended, hP, ⟨_, rfl⟩, hW, hsame.mono hc hs⟩
theorem Got.retA (X : Stand p l e R s m args below meth c T locs cells slots) (hx : p.tables.exec = Jvm.exec) {t : FieldType} (hret : meth.sig.returnType = some t) (ht : t.isReference = true) (hlk : meth.locks = false) {pc : Nat} {Ls : Array Slot} {a : Addr} {rest : List Value}
    (hd : decode c.code pc = .ok (.areturn, 1)) (hn : narrow t (.ref a) = .ref a) (hP : P T.heap locs) (hc : cells ≤ ck) (hs : slots ≤ cs) : Got p e below s P ck cs (some (.ref a)) T (mkF m pc Ls (.ref a :: rest)) := by
  obtain ⟨fs, hr, hrun, hended, hW, hsame⟩ := X.leave (v := some (.ref a)) (fun h => by rw [hret] at h; cases h) hlk
  exact ⟨_, locs, retOut X hx hret hn (Or.inr (Or.inr (Or.inr (Or.inr ⟨rfl, ht, rfl⟩)))) hd hr, hrun, hended, hP, ⟨_, rfl⟩, hW, hsame.mono hc hs⟩
theorem remJ {g : JFrame} {target : State} (X : Stand p l e R s m args below meth c T locs cells slots) (hx : p.tables.exec = Jvm.exec) (hg : g.method = m) {x y : Int64} {rest : List Value} (hd : decode c.code g.pc = .ok (.lrem, 1)) (hs : g.stack = .long y :: .long x :: rest) (hy : y ≠ 0)
    (hr : Steps p.tables e below (T.setTop { g with pc := g.pc + 1, stack := .long (x % y) :: rest }) target) : Steps p.tables e below (T.setTop g) target := by
  rw [← lrem_mod x y] at hr
  exact XS.lrem X.here hx hg hd hs hy hr
theorem narB (x : Int32) : nar .byte x.toInt8.toInt32 = x.toInt8.toInt32 := by simp [nar]
end New
end Jvm.RoadKit
namespace Jvm.Pilot.@@N@@
open Jvm Jvm.ClassFile Sem Op Lib Jvm.Free Jvm.Stand Jvm.LawKit Jvm.RoadKit Bundle Jvm.Pilot.@@N@@.Jvm.D
def f1 (q0 : Int64)  : Int64 := (if (0 : Int64) < (q0 % (1000000 : Int64)) then ((q0 / (1000000 : Int64)) + (1 : Int64)) else (q0 / (1000000 : Int64)))
theorem ef_1 (m : MethodId) (x0 : Int64) : entryFrame m #[(.long x0)] 4 = mkF m 0 #[.val (.long x0), .second, .unset, .unset] [] := by first | (simp [entryFrame, mkF, argsToLocals, Value.category]; done) | rfl
theorem pn_0 : plainName "com/example/exclusion_by_quorum/exclusionbyquorum/Quorum" = true := by first | (simp [plainName, overriddenIn]; done) | decide +kernel
theorem d1_0 : decode prog_3_method_6_code 0 = .ok (.lload_n 0, 1) := by decide +kernel
theorem d1_1 : decode prog_3_method_6_code 1 = .ok (.ldc2_w 49, 3) := by decide +kernel
theorem d1_4 : decode prog_3_method_6_code 4 = .ok (.ldiv, 1) := by decide +kernel
theorem d1_5 : decode prog_3_method_6_code 5 = .ok (.lstore_n 2, 1) := by decide +kernel
theorem d1_6 : decode prog_3_method_6_code 6 = .ok (.lload_n 0, 1) := by decide +kernel
theorem d1_7 : decode prog_3_method_6_code 7 = .ok (.ldc2_w 49, 3) := by decide +kernel
theorem d1_10 : decode prog_3_method_6_code 10 = .ok (.lrem, 1) := by decide +kernel
theorem d1_11 : decode prog_3_method_6_code 11 = .ok (.lconst 0, 1) := by decide +kernel
theorem d1_12 : decode prog_3_method_6_code 12 = .ok (.lcmp, 1) := by decide +kernel
theorem d1_13 : decode prog_3_method_6_code 13 = .ok (.ifCond .le 7, 3) := by decide +kernel
theorem d1_16 : decode prog_3_method_6_code 16 = .ok (.lload_n 2, 1) := by decide +kernel
theorem d1_17 : decode prog_3_method_6_code 17 = .ok (.lconst 1, 1) := by decide +kernel
theorem d1_18 : decode prog_3_method_6_code 18 = .ok (.ladd, 1) := by decide +kernel
theorem d1_19 : decode prog_3_method_6_code 19 = .ok (.lstore_n 2, 1) := by decide +kernel
theorem d1_20 : decode prog_3_method_6_code 20 = .ok (.lload_n 2, 1) := by decide +kernel
theorem d1_21 : decode prog_3_method_6_code 21 = .ok (.lreturn, 1) := by decide +kernel
set_option maxRecDepth 65536 in
set_option maxHeartbeats 40000000 in
theorem rm1 (l : Launch) (Z : State) (a0 : Array Value) (hw : ∀ d ∈ tables_1, d.before a0 Z = true) (ws : List Jvm.Cond) (q0 : Int64) (h0 : Heap) (n0 : Nat) (Z0 : n0 ≤ h0.size)  :
    MetFree l (⟨"com/example/exclusion_by_quorum/exclusionbyquorum/Quorum", "ceilMillis", "(J)J"⟩ : MethodName) (head1 (Jvm.Cond.code (⟨"com/example/exclusion_by_quorum/exclusionbyquorum/Quorum", "ceilMillis", "(J)J"⟩ : MethodName) prog_3_method_6_code 4 (some .long) :: ws) ({ frames := 0, cells := 0, slots := 0, locals := 0 } : Room)) (fun a U => a = #[(.long q0)] ∧ Z.Warmed39 U.vm ∧ U.heap = h0) (fun _ _ _ _ _ => True) (fun _ U o U' => ∃ v L, o = .returned v ∧ QV (some (.long (f1 q0))) (PureP n0 h0) v U'.heap L ∧ FrameEnd U o U' L ({ frames := 0, cells := 0, slots := 0, locals := 0 } : Room).cells ({ frames := 0, cells := 0, slots := 0, locals := 0 } : Room).slots) := by
  refine MetFree.of_bodySF (plainFor_of_name pn_0) hisR ?_
  intro p e s m args below meth c s₁ Bd hml0 hP hK
  obtain ⟨rfl, hZ, hh⟩ := hP
  have hx := Bd.exec
  have hby := Bd.bytes
  have hml : c.maxLocals = 4 := hml0
  have hown : s.vm.findClass "com/example/exclusion_by_quorum/exclusionbyquorum/Quorum" = some m.cls := findClass_of_methodNamed Bd.named
  have hnm := (name_of_methodNamed Bd.named Bd.method).1
  have hlk : meth.locks = false := BodyLoose.notSynchronized Bd
  have X0 : Stand p l e ({ frames := 0, cells := 0, slots := 0, locals := 0 } : Room) s m #[(.long q0)] below meth c s₁ [] 0 0 := Stand.of_body Bd
  have e0 : s₁.heap = h0 := by rw [← hh, Bd.state]; rfl
  have N0 := Fr.nil n0
  refine Got.body (ef_1 m q0) ?_
  refine Got.step (T' := s₁) (g' := (mkF m 13 #[.val (.long q0), .second, .val (.long (q0 / (1000000 : Int64))), .second] [(.int (XT.cmpL (q0 % (1000000 : Int64)) (0 : Int64)))])) (fun tq kt => ?_) ?_
  · show Steps p.tables e below (s₁.setTop (mkF m 0 #[.val (.long q0), .second, .unset, .unset] [])) _
    refine XS.lloadN X0.here hx rfl (hb hby d1_0) rfl ?_
    show Steps p.tables e below (s₁.setTop (mkF m 1 #[.val (.long q0), .second, .unset, .unset] [(.long q0)])) _
    refine X0.ldc2J hx hown (mvT hZ (hw _ (List.mem_of_getElem? (i := 5) rfl))) rfl (hb hby d1_1) ?_
    show Steps p.tables e below (s₁.setTop (mkF m 4 #[.val (.long q0), .second, .unset, .unset] [(.long (1000000 : Int64)), (.long q0)])) _
    refine XS.ldiv X0.here hx rfl (hb hby d1_4) rfl (by decide) ?_
    show Steps p.tables e below (s₁.setTop (mkF m 5 #[.val (.long q0), .second, .unset, .unset] [(.long (q0 / (1000000 : Int64)))])) _
    refine XS.lstoreN X0.here hx rfl (hb hby d1_5) rfl (l' := #[.val (.long q0), .second, .val (.long (q0 / (1000000 : Int64))), .second]) rfl ?_
    show Steps p.tables e below (s₁.setTop (mkF m 6 #[.val (.long q0), .second, .val (.long (q0 / (1000000 : Int64))), .second] [])) _
    refine XS.lloadN X0.here hx rfl (hb hby d1_6) rfl ?_
    show Steps p.tables e below (s₁.setTop (mkF m 7 #[.val (.long q0), .second, .val (.long (q0 / (1000000 : Int64))), .second] [(.long q0)])) _
    refine X0.ldc2J hx hown (mvT hZ (hw _ (List.mem_of_getElem? (i := 5) rfl))) rfl (hb hby d1_7) ?_
    show Steps p.tables e below (s₁.setTop (mkF m 10 #[.val (.long q0), .second, .val (.long (q0 / (1000000 : Int64))), .second] [(.long (1000000 : Int64)), (.long q0)])) _
    refine remJ X0 hx rfl (hb hby d1_10) rfl (by decide) ?_
    show Steps p.tables e below (s₁.setTop (mkF m 11 #[.val (.long q0), .second, .val (.long (q0 / (1000000 : Int64))), .second] [(.long (q0 % (1000000 : Int64)))])) _
    refine XS.lconst X0.here hx rfl (hb hby d1_11) ?_
    show Steps p.tables e below (s₁.setTop (mkF m 12 #[.val (.long q0), .second, .val (.long (q0 / (1000000 : Int64))), .second] [(.long (0 : Int64)), (.long (q0 % (1000000 : Int64)))])) _
    refine XT.lcmp X0.here hx rfl (hb hby d1_12) rfl ?_
    exact kt
  refine Got.iteJ (q := ((0 : Int64) < (q0 % (1000000 : Int64)))) (fun hc1 => ?_) (fun hc1 => ?_)
  · refine Got.step (T' := s₁) (g' := (mkF m 21 #[.val (.long q0), .second, .val (.long ((q0 / (1000000 : Int64)) + (1 : Int64))), .second] [(.long ((q0 / (1000000 : Int64)) + (1 : Int64)))])) (fun tq kt => ?_) ?_
    · show Steps p.tables e below (s₁.setTop (mkF m 13 #[.val (.long q0), .second, .val (.long (q0 / (1000000 : Int64))), .second] [(.int (XT.cmpL (q0 % (1000000 : Int64)) (0 : Int64)))])) _
      refine XS.ifNo X0.here hx rfl (hb hby d1_13) rfl (XT.ll_le_f hc1) ?_
      show Steps p.tables e below (s₁.setTop (mkF m 16 #[.val (.long q0), .second, .val (.long (q0 / (1000000 : Int64))), .second] [])) _
      refine XS.lloadN X0.here hx rfl (hb hby d1_16) rfl ?_
      show Steps p.tables e below (s₁.setTop (mkF m 17 #[.val (.long q0), .second, .val (.long (q0 / (1000000 : Int64))), .second] [(.long (q0 / (1000000 : Int64)))])) _
      refine XS.lconst X0.here hx rfl (hb hby d1_17) ?_
      show Steps p.tables e below (s₁.setTop (mkF m 18 #[.val (.long q0), .second, .val (.long (q0 / (1000000 : Int64))), .second] [(.long (1 : Int64)), (.long (q0 / (1000000 : Int64)))])) _
      refine XS.ladd X0.here hx rfl (hb hby d1_18) rfl ?_
      show Steps p.tables e below (s₁.setTop (mkF m 19 #[.val (.long q0), .second, .val (.long (q0 / (1000000 : Int64))), .second] [(.long ((q0 / (1000000 : Int64)) + (1 : Int64)))])) _
      refine XS.lstoreN X0.here hx rfl (hb hby d1_19) rfl (l' := #[.val (.long q0), .second, .val (.long ((q0 / (1000000 : Int64)) + (1 : Int64))), .second]) rfl ?_
      show Steps p.tables e below (s₁.setTop (mkF m 20 #[.val (.long q0), .second, .val (.long ((q0 / (1000000 : Int64)) + (1 : Int64))), .second] [])) _
      refine XS.lloadN X0.here hx rfl (hb hby d1_20) rfl ?_
      exact kt
    exact Got.retJ (y := ((q0 / (1000000 : Int64)) + (1 : Int64))) X0 hx Bd.returns hlk (hb hby d1_21) rfl ⟨N0, e0⟩ (by decide) (by decide)
  · refine Got.step (T' := s₁) (g' := (mkF m 21 #[.val (.long q0), .second, .val (.long (q0 / (1000000 : Int64))), .second] [(.long (q0 / (1000000 : Int64)))])) (fun tq kt => ?_) ?_
    · show Steps p.tables e below (s₁.setTop (mkF m 13 #[.val (.long q0), .second, .val (.long (q0 / (1000000 : Int64))), .second] [(.int (XT.cmpL (q0 % (1000000 : Int64)) (0 : Int64)))])) _
      refine XS.ifYes X0.here hx rfl (pc0 := 13) (pc' := 20) rfl (hb hby d1_13) rfl (XT.ll_le_t hc1) (by decide) (by decide) ?_
      show Steps p.tables e below (s₁.setTop (mkF m 20 #[.val (.long q0), .second, .val (.long (q0 / (1000000 : Int64))), .second] [])) _
      refine XS.lloadN X0.here hx rfl (hb hby d1_20) rfl ?_
      exact kt
    exact Got.retJ (y := (q0 / (1000000 : Int64))) X0 hx Bd.returns hlk (hb hby d1_21) rfl ⟨N0, e0⟩ (by decide) (by decide)
theorem pd_0 : parseMethodDescriptor "(J)J" = some ⟨[.long], some .long⟩ := by decide +kernel
def fL_118 (q0 : Int64) (p1 : Int32) (i118_6 : Int64) (i118_8 : Int64) (i118_10 : Int32) : Int32 := (if i118_10 = 0 then (0 : Int32) else (if ((i118_8 * (1000000 : Int64)) - i118_6) < (0 : Int64) then (0 : Int32) else (if ((i118_8 * (1000000 : Int64)) - i118_6) < (1000000 : Int64) then (1 : Int32) else (0 : Int32))))
def fL_116 (q0 : Int64) (p1 : Int32) (i116_6 : Int64) (i116_8 : Int64) (k116_0 : Int32) : Int32 := (fL_118 q0 p1 i116_6 i116_8 k116_0)
def fL_115 (q0 : Int64) (p1 : Int32) (i115_6 : Int64) (i115_8 : Int64) : Int32 := (fL_116 q0 p1 i115_6 i115_8 (0 : Int32))
def fL_90 (q0 : Int64) (p1 : Int32) (i90_6 : Int64) (i90_8 : Int64) (k90_0 : Int32) : Int32 := (fL_118 q0 p1 i90_6 i90_8 k90_0)
def fL_89 (q0 : Int64) (p1 : Int32) (i89_6 : Int64) (i89_8 : Int64) : Int32 := (fL_90 q0 p1 i89_6 i89_8 (0 : Int32))
def fL_55 (q0 : Int64) (p1 : Int32) (i55_6 : Int64) : Int32 := (if (0 : Int64) < i55_6 then (if (f1 i55_6) < (1 : Int64) then (fL_89 q0 p1 i55_6 (f1 i55_6)) else (if (9223372036855 : Int64) < (f1 i55_6) then (fL_89 q0 p1 i55_6 (f1 i55_6)) else (fL_90 q0 p1 i55_6 (f1 i55_6) (1 : Int32)))) else (if (f1 i55_6) < (-9223372036854 : Int64) then (fL_115 q0 p1 i55_6 (f1 i55_6)) else (if (0 : Int64) < (f1 i55_6) then (fL_115 q0 p1 i55_6 (f1 i55_6)) else (fL_116 q0 p1 i55_6 (f1 i55_6) (1 : Int32)))))
def fL (q0 : Int64) (p1 : Int32)  : Int32 := (if (p1 &&& (3 : Int32)) = 0 then (fL_55 q0 p1 q0) else (if (p1 &&& (3 : Int32)) = (1 : Int32) then (fL_55 q0 p1 (q0 - (q0 % (1000000 : Int64)))) else (if (p1 &&& (3 : Int32)) = (2 : Int32) then (fL_55 q0 p1 ((q0 - (q0 % (1000000 : Int64))) + (1 : Int64))) else (fL_55 q0 p1 ((q0 - (q0 % (1000000 : Int64))) - (1 : Int64))))))
theorem ef_L (m : MethodId) (x0 : Int64) (x1 : Int32) : entryFrame m #[(.long x0), (.int x1)] maxLocals = mkF m 0 #[.val (.long x0), .second, .val (.int x1), .unset, .unset, .unset, .unset, .unset, .unset, .unset, .unset, .unset, .unset] [] := by first | (simp [entryFrame, mkF, argsToLocals, Value.category, maxLocals]; done) | rfl
theorem pn_1 : plainName "com/example/exclusion_by_quorum/exclusionbyquorum/QuorumCeilMillisPinLaw" = true := by first | (simp [plainName, overriddenIn]; done) | decide +kernel
set_option maxRecDepth 65536 in
set_option maxHeartbeats 40000000 in
theorem rmL (l : Launch) (Z : State) (a0 : Array Value) (hw : ∀ d ∈ tables_1, d.before a0 Z = true) (ws : List Jvm.Cond) (q0 : Int64) (p1 : Int32) (h0 : Heap) (n0 : Nat) (Z0 : n0 ≤ h0.size)  :
    MetFree l x (head1 (Jvm.Cond.code x code maxLocals ret :: ws) room_1) (fun a U => a = #[(.long q0), (.int p1)] ∧ Z.Warmed39 U.vm ∧ U.heap = h0) (fun _ _ _ _ _ => True) (fun _ U o U' => ∃ v L, o = .returned v ∧ QV (some (.int (fL q0 p1))) (PureP n0 h0) v U'.heap L ∧ FrameEnd U o U' L room_1.cells room_1.slots) := by
  refine MetFree.of_bodySF (plainFor_of_name pn_1) hisR ?_
  intro p e s m args below meth c s₁ Bd hml0 hP hK
  obtain ⟨rfl, hZ, hh⟩ := hP
  have hx := Bd.exec
  have hby := Bd.bytes
  have hml : c.maxLocals = 13 := hml0
  have hown : s.vm.findClass "com/example/exclusion_by_quorum/exclusionbyquorum/QuorumCeilMillisPinLaw" = some m.cls := findClass_of_methodNamed Bd.named
  have hnm := (name_of_methodNamed Bd.named Bd.method).1
  have hlk : meth.locks = false := BodyLoose.notSynchronized Bd
  have X0 : Stand p l e room_1 s m #[(.long q0), (.int p1)] below meth c s₁ [] 0 0 := Stand.of_body Bd
  have e0 : s₁.heap = h0 := by rw [← hh, Bd.state]; rfl
  have N0 := Fr.nil n0
  refine Got.body (ef_L m q0 p1) ?_
  have J118 : ∀ (T_118 : State) (L_118 : List Loc), Stand p l e room_1 s m #[(.long q0), (.int p1)] below meth c T_118 L_118 0 0 → T_118.heap = h0 → Fr n0 L_118 → ∀ (i118_6 : Int64), ∀ (i118_8 : Int64), ∀ (i118_10 : Int32), Got p e below s (PureP n0 h0) room_1.cells room_1.slots (some (.int (fL_118 q0 p1 i118_6 i118_8 i118_10))) T_118 (mkF m 118 #[.val (.long q0), .second, .val (.int p1), .val (.long (q0 - (q0 % (1000000 : Int64)))), .second, .val (.int (p1 &&& (3 : Int32))), .val (.long i118_6), .second, .val (.long i118_8), .second, .val (.int i118_10), .unset, .unset] []) := by
    intro T_118 L_118 X_118 e_118 N_118 i118_6 i118_8 i118_10
    refine Got.step (T' := T_118) (g' := (mkF m 120 #[.val (.long q0), .second, .val (.int p1), .val (.long (q0 - (q0 % (1000000 : Int64)))), .second, .val (.int (p1 &&& (3 : Int32))), .val (.long i118_6), .second, .val (.long i118_8), .second, .val (.int i118_10), .unset, .unset] [(.int i118_10)])) (fun tq kt => ?_) ?_
    · show Steps p.tables e below (T_118.setTop (mkF m 118 #[.val (.long q0), .second, .val (.int p1), .val (.long (q0 - (q0 % (1000000 : Int64)))), .second, .val (.int (p1 &&& (3 : Int32))), .val (.long i118_6), .second, .val (.long i118_8), .second, .val (.int i118_10), .unset, .unset] [])) _
      refine XS.iload X_118.here hx rfl (hb hby at_118) rfl ?_
      exact kt
    refine Got.ite (q := (i118_10 = 0)) (fun hc11 => ?_) (fun hc11 => ?_)
    · refine Got.step (T' := T_118) (g' := (mkF m 124 #[.val (.long q0), .second, .val (.int p1), .val (.long (q0 - (q0 % (1000000 : Int64)))), .second, .val (.int (p1 &&& (3 : Int32))), .val (.long i118_6), .second, .val (.long i118_8), .second, .val (.int i118_10), .unset, .unset] [(.int (0 : Int32))])) (fun tq kt => ?_) ?_
      · show Steps p.tables e below (T_118.setTop (mkF m 120 #[.val (.long q0), .second, .val (.int p1), .val (.long (q0 - (q0 % (1000000 : Int64)))), .second, .val (.int (p1 &&& (3 : Int32))), .val (.long i118_6), .second, .val (.long i118_8), .second, .val (.int i118_10), .unset, .unset] [(.int i118_10)])) _
        refine XS.ifNo X_118.here hx rfl (hb hby at_120) rfl (XT.i0_ne_f hc11) ?_
        show Steps p.tables e below (T_118.setTop (mkF m 123 #[.val (.long q0), .second, .val (.int p1), .val (.long (q0 - (q0 % (1000000 : Int64)))), .second, .val (.int (p1 &&& (3 : Int32))), .val (.long i118_6), .second, .val (.long i118_8), .second, .val (.int i118_10), .unset, .unset] [])) _
        refine XS.iconst X_118.here hx rfl (hb hby at_123) ?_
        exact kt
      exact Got.retN (y := (0 : Int32)) (t := .boolean) X_118 hx Bd.returns (by simp) hlk (hb hby at_124) (by decide) ⟨N_118, e_118⟩ (by decide) (by decide)
    · refine Got.step (T' := T_118) (g' := (mkF m 140 #[.val (.long q0), .second, .val (.int p1), .val (.long (q0 - (q0 % (1000000 : Int64)))), .second, .val (.int (p1 &&& (3 : Int32))), .val (.long i118_6), .second, .val (.long i118_8), .second, .val (.int i118_10), .val (.long ((i118_8 * (1000000 : Int64)) - i118_6)), .second] [(.int (XT.cmpL ((i118_8 * (1000000 : Int64)) - i118_6) (0 : Int64)))])) (fun tq kt => ?_) ?_
      · show Steps p.tables e below (T_118.setTop (mkF m 120 #[.val (.long q0), .second, .val (.int p1), .val (.long (q0 - (q0 % (1000000 : Int64)))), .second, .val (.int (p1 &&& (3 : Int32))), .val (.long i118_6), .second, .val (.long i118_8), .second, .val (.int i118_10), .unset, .unset] [(.int i118_10)])) _
        refine XS.ifYes X_118.here hx rfl (pc0 := 120) (pc' := 125) rfl (hb hby at_120) rfl (XT.i0_ne_t hc11) (by decide) (by decide) ?_
        show Steps p.tables e below (T_118.setTop (mkF m 125 #[.val (.long q0), .second, .val (.int p1), .val (.long (q0 - (q0 % (1000000 : Int64)))), .second, .val (.int (p1 &&& (3 : Int32))), .val (.long i118_6), .second, .val (.long i118_8), .second, .val (.int i118_10), .unset, .unset] [])) _
        refine XS.lload X_118.here hx rfl (hb hby at_125) rfl ?_
        show Steps p.tables e below (T_118.setTop (mkF m 127 #[.val (.long q0), .second, .val (.int p1), .val (.long (q0 - (q0 % (1000000 : Int64)))), .second, .val (.int (p1 &&& (3 : Int32))), .val (.long i118_6), .second, .val (.long i118_8), .second, .val (.int i118_10), .unset, .unset] [(.long i118_8)])) _
        refine X_118.ldc2J hx hown (mvT hZ (hw _ (List.mem_of_getElem? (i := 0) rfl))) rfl (hb hby at_127) ?_
        show Steps p.tables e below (T_118.setTop (mkF m 130 #[.val (.long q0), .second, .val (.int p1), .val (.long (q0 - (q0 % (1000000 : Int64)))), .second, .val (.int (p1 &&& (3 : Int32))), .val (.long i118_6), .second, .val (.long i118_8), .second, .val (.int i118_10), .unset, .unset] [(.long (1000000 : Int64)), (.long i118_8)])) _
        refine XS.lmul X_118.here hx rfl (hb hby at_130) rfl ?_
        show Steps p.tables e below (T_118.setTop (mkF m 131 #[.val (.long q0), .second, .val (.int p1), .val (.long (q0 - (q0 % (1000000 : Int64)))), .second, .val (.int (p1 &&& (3 : Int32))), .val (.long i118_6), .second, .val (.long i118_8), .second, .val (.int i118_10), .unset, .unset] [(.long (i118_8 * (1000000 : Int64)))])) _
        refine XS.lload X_118.here hx rfl (hb hby at_131) rfl ?_
        show Steps p.tables e below (T_118.setTop (mkF m 133 #[.val (.long q0), .second, .val (.int p1), .val (.long (q0 - (q0 % (1000000 : Int64)))), .second, .val (.int (p1 &&& (3 : Int32))), .val (.long i118_6), .second, .val (.long i118_8), .second, .val (.int i118_10), .unset, .unset] [(.long i118_6), (.long (i118_8 * (1000000 : Int64)))])) _
        refine XS.lsub X_118.here hx rfl (hb hby at_133) rfl ?_
        show Steps p.tables e below (T_118.setTop (mkF m 134 #[.val (.long q0), .second, .val (.int p1), .val (.long (q0 - (q0 % (1000000 : Int64)))), .second, .val (.int (p1 &&& (3 : Int32))), .val (.long i118_6), .second, .val (.long i118_8), .second, .val (.int i118_10), .unset, .unset] [(.long ((i118_8 * (1000000 : Int64)) - i118_6))])) _
        refine XS.lstore X_118.here hx rfl (hb hby at_134) rfl (l' := #[.val (.long q0), .second, .val (.int p1), .val (.long (q0 - (q0 % (1000000 : Int64)))), .second, .val (.int (p1 &&& (3 : Int32))), .val (.long i118_6), .second, .val (.long i118_8), .second, .val (.int i118_10), .val (.long ((i118_8 * (1000000 : Int64)) - i118_6)), .second]) rfl ?_
        show Steps p.tables e below (T_118.setTop (mkF m 136 #[.val (.long q0), .second, .val (.int p1), .val (.long (q0 - (q0 % (1000000 : Int64)))), .second, .val (.int (p1 &&& (3 : Int32))), .val (.long i118_6), .second, .val (.long i118_8), .second, .val (.int i118_10), .val (.long ((i118_8 * (1000000 : Int64)) - i118_6)), .second] [])) _
        refine XS.lload X_118.here hx rfl (hb hby at_136) rfl ?_
        show Steps p.tables e below (T_118.setTop (mkF m 138 #[.val (.long q0), .second, .val (.int p1), .val (.long (q0 - (q0 % (1000000 : Int64)))), .second, .val (.int (p1 &&& (3 : Int32))), .val (.long i118_6), .second, .val (.long i118_8), .second, .val (.int i118_10), .val (.long ((i118_8 * (1000000 : Int64)) - i118_6)), .second] [(.long ((i118_8 * (1000000 : Int64)) - i118_6))])) _
        refine XS.lconst X_118.here hx rfl (hb hby at_138) ?_
        show Steps p.tables e below (T_118.setTop (mkF m 139 #[.val (.long q0), .second, .val (.int p1), .val (.long (q0 - (q0 % (1000000 : Int64)))), .second, .val (.int (p1 &&& (3 : Int32))), .val (.long i118_6), .second, .val (.long i118_8), .second, .val (.int i118_10), .val (.long ((i118_8 * (1000000 : Int64)) - i118_6)), .second] [(.long (0 : Int64)), (.long ((i118_8 * (1000000 : Int64)) - i118_6))])) _
        refine XT.lcmp X_118.here hx rfl (hb hby at_139) rfl ?_
        exact kt
      refine Got.ite (q := (((i118_8 * (1000000 : Int64)) - i118_6) < (0 : Int64))) (fun hc12 => ?_) (fun hc12 => ?_)
      · refine Got.step (T' := T_118) (g' := (mkF m 157 #[.val (.long q0), .second, .val (.int p1), .val (.long (q0 - (q0 % (1000000 : Int64)))), .second, .val (.int (p1 &&& (3 : Int32))), .val (.long i118_6), .second, .val (.long i118_8), .second, .val (.int i118_10), .val (.long ((i118_8 * (1000000 : Int64)) - i118_6)), .second] [(.int (0 : Int32))])) (fun tq kt => ?_) ?_
        · show Steps p.tables e below (T_118.setTop (mkF m 140 #[.val (.long q0), .second, .val (.int p1), .val (.long (q0 - (q0 % (1000000 : Int64)))), .second, .val (.int (p1 &&& (3 : Int32))), .val (.long i118_6), .second, .val (.long i118_8), .second, .val (.int i118_10), .val (.long ((i118_8 * (1000000 : Int64)) - i118_6)), .second] [(.int (XT.cmpL ((i118_8 * (1000000 : Int64)) - i118_6) (0 : Int64)))])) _
          refine XS.ifYes X_118.here hx rfl (pc0 := 140) (pc' := 156) rfl (hb hby at_140) rfl (XT.ll_lt_t hc12) (by decide) (by decide) ?_
          show Steps p.tables e below (T_118.setTop (mkF m 156 #[.val (.long q0), .second, .val (.int p1), .val (.long (q0 - (q0 % (1000000 : Int64)))), .second, .val (.int (p1 &&& (3 : Int32))), .val (.long i118_6), .second, .val (.long i118_8), .second, .val (.int i118_10), .val (.long ((i118_8 * (1000000 : Int64)) - i118_6)), .second] [])) _
          refine XS.iconst X_118.here hx rfl (hb hby at_156) ?_
          exact kt
        exact Got.retN (y := (0 : Int32)) (t := .boolean) X_118 hx Bd.returns (by simp) hlk (hb hby at_157) (by decide) ⟨N_118, e_118⟩ (by decide) (by decide)
      · refine Got.step (T' := T_118) (g' := (mkF m 149 #[.val (.long q0), .second, .val (.int p1), .val (.long (q0 - (q0 % (1000000 : Int64)))), .second, .val (.int (p1 &&& (3 : Int32))), .val (.long i118_6), .second, .val (.long i118_8), .second, .val (.int i118_10), .val (.long ((i118_8 * (1000000 : Int64)) - i118_6)), .second] [(.int (XT.cmpL ((i118_8 * (1000000 : Int64)) - i118_6) (1000000 : Int64)))])) (fun tq kt => ?_) ?_
        · show Steps p.tables e below (T_118.setTop (mkF m 140 #[.val (.long q0), .second, .val (.int p1), .val (.long (q0 - (q0 % (1000000 : Int64)))), .second, .val (.int (p1 &&& (3 : Int32))), .val (.long i118_6), .second, .val (.long i118_8), .second, .val (.int i118_10), .val (.long ((i118_8 * (1000000 : Int64)) - i118_6)), .second] [(.int (XT.cmpL ((i118_8 * (1000000 : Int64)) - i118_6) (0 : Int64)))])) _
          refine XS.ifNo X_118.here hx rfl (hb hby at_140) rfl (XT.ll_lt_f hc12) ?_
          show Steps p.tables e below (T_118.setTop (mkF m 143 #[.val (.long q0), .second, .val (.int p1), .val (.long (q0 - (q0 % (1000000 : Int64)))), .second, .val (.int (p1 &&& (3 : Int32))), .val (.long i118_6), .second, .val (.long i118_8), .second, .val (.int i118_10), .val (.long ((i118_8 * (1000000 : Int64)) - i118_6)), .second] [])) _
          refine XS.lload X_118.here hx rfl (hb hby at_143) rfl ?_
          show Steps p.tables e below (T_118.setTop (mkF m 145 #[.val (.long q0), .second, .val (.int p1), .val (.long (q0 - (q0 % (1000000 : Int64)))), .second, .val (.int (p1 &&& (3 : Int32))), .val (.long i118_6), .second, .val (.long i118_8), .second, .val (.int i118_10), .val (.long ((i118_8 * (1000000 : Int64)) - i118_6)), .second] [(.long ((i118_8 * (1000000 : Int64)) - i118_6))])) _
          refine X_118.ldc2J hx hown (mvT hZ (hw _ (List.mem_of_getElem? (i := 0) rfl))) rfl (hb hby at_145) ?_
          show Steps p.tables e below (T_118.setTop (mkF m 148 #[.val (.long q0), .second, .val (.int p1), .val (.long (q0 - (q0 % (1000000 : Int64)))), .second, .val (.int (p1 &&& (3 : Int32))), .val (.long i118_6), .second, .val (.long i118_8), .second, .val (.int i118_10), .val (.long ((i118_8 * (1000000 : Int64)) - i118_6)), .second] [(.long (1000000 : Int64)), (.long ((i118_8 * (1000000 : Int64)) - i118_6))])) _
          refine XT.lcmp X_118.here hx rfl (hb hby at_148) rfl ?_
          exact kt
        refine Got.ite (q := (((i118_8 * (1000000 : Int64)) - i118_6) < (1000000 : Int64))) (fun hc13 => ?_) (fun hc13 => ?_)
        · refine Got.step (T' := T_118) (g' := (mkF m 157 #[.val (.long q0), .second, .val (.int p1), .val (.long (q0 - (q0 % (1000000 : Int64)))), .second, .val (.int (p1 &&& (3 : Int32))), .val (.long i118_6), .second, .val (.long i118_8), .second, .val (.int i118_10), .val (.long ((i118_8 * (1000000 : Int64)) - i118_6)), .second] [(.int (1 : Int32))])) (fun tq kt => ?_) ?_
          · show Steps p.tables e below (T_118.setTop (mkF m 149 #[.val (.long q0), .second, .val (.int p1), .val (.long (q0 - (q0 % (1000000 : Int64)))), .second, .val (.int (p1 &&& (3 : Int32))), .val (.long i118_6), .second, .val (.long i118_8), .second, .val (.int i118_10), .val (.long ((i118_8 * (1000000 : Int64)) - i118_6)), .second] [(.int (XT.cmpL ((i118_8 * (1000000 : Int64)) - i118_6) (1000000 : Int64)))])) _
            refine XS.ifNo X_118.here hx rfl (hb hby at_149) rfl (XT.ll_ge_f hc13) ?_
            show Steps p.tables e below (T_118.setTop (mkF m 152 #[.val (.long q0), .second, .val (.int p1), .val (.long (q0 - (q0 % (1000000 : Int64)))), .second, .val (.int (p1 &&& (3 : Int32))), .val (.long i118_6), .second, .val (.long i118_8), .second, .val (.int i118_10), .val (.long ((i118_8 * (1000000 : Int64)) - i118_6)), .second] [])) _
            refine XS.iconst X_118.here hx rfl (hb hby at_152) ?_
            show Steps p.tables e below (T_118.setTop (mkF m 153 #[.val (.long q0), .second, .val (.int p1), .val (.long (q0 - (q0 % (1000000 : Int64)))), .second, .val (.int (p1 &&& (3 : Int32))), .val (.long i118_6), .second, .val (.long i118_8), .second, .val (.int i118_10), .val (.long ((i118_8 * (1000000 : Int64)) - i118_6)), .second] [(.int (1 : Int32))])) _
            refine XS.goto X_118.here hx rfl (pc0 := 153) (pc' := 157) rfl (hb hby at_153) (by decide) (by decide) ?_
            exact kt
          exact Got.retN (y := (1 : Int32)) (t := .boolean) X_118 hx Bd.returns (by simp) hlk (hb hby at_157) (by decide) ⟨N_118, e_118⟩ (by decide) (by decide)
        · refine Got.step (T' := T_118) (g' := (mkF m 157 #[.val (.long q0), .second, .val (.int p1), .val (.long (q0 - (q0 % (1000000 : Int64)))), .second, .val (.int (p1 &&& (3 : Int32))), .val (.long i118_6), .second, .val (.long i118_8), .second, .val (.int i118_10), .val (.long ((i118_8 * (1000000 : Int64)) - i118_6)), .second] [(.int (0 : Int32))])) (fun tq kt => ?_) ?_
          · show Steps p.tables e below (T_118.setTop (mkF m 149 #[.val (.long q0), .second, .val (.int p1), .val (.long (q0 - (q0 % (1000000 : Int64)))), .second, .val (.int (p1 &&& (3 : Int32))), .val (.long i118_6), .second, .val (.long i118_8), .second, .val (.int i118_10), .val (.long ((i118_8 * (1000000 : Int64)) - i118_6)), .second] [(.int (XT.cmpL ((i118_8 * (1000000 : Int64)) - i118_6) (1000000 : Int64)))])) _
            refine XS.ifYes X_118.here hx rfl (pc0 := 149) (pc' := 156) rfl (hb hby at_149) rfl (XT.ll_ge_t hc13) (by decide) (by decide) ?_
            show Steps p.tables e below (T_118.setTop (mkF m 156 #[.val (.long q0), .second, .val (.int p1), .val (.long (q0 - (q0 % (1000000 : Int64)))), .second, .val (.int (p1 &&& (3 : Int32))), .val (.long i118_6), .second, .val (.long i118_8), .second, .val (.int i118_10), .val (.long ((i118_8 * (1000000 : Int64)) - i118_6)), .second] [])) _
            refine XS.iconst X_118.here hx rfl (hb hby at_156) ?_
            exact kt
          exact Got.retN (y := (0 : Int32)) (t := .boolean) X_118 hx Bd.returns (by simp) hlk (hb hby at_157) (by decide) ⟨N_118, e_118⟩ (by decide) (by decide)
  have J116 : ∀ (T_116 : State) (L_116 : List Loc), Stand p l e room_1 s m #[(.long q0), (.int p1)] below meth c T_116 L_116 0 0 → T_116.heap = h0 → Fr n0 L_116 → ∀ (i116_6 : Int64), ∀ (i116_8 : Int64), ∀ (k116_0 : Int32), Got p e below s (PureP n0 h0) room_1.cells room_1.slots (some (.int (fL_116 q0 p1 i116_6 i116_8 k116_0))) T_116 (mkF m 116 #[.val (.long q0), .second, .val (.int p1), .val (.long (q0 - (q0 % (1000000 : Int64)))), .second, .val (.int (p1 &&& (3 : Int32))), .val (.long i116_6), .second, .val (.long i116_8), .second, .unset, .unset, .unset] [(.int k116_0)]) := by
    intro T_116 L_116 X_116 e_116 N_116 i116_6 i116_8 k116_0
    refine Got.step (T' := T_116) (g' := (mkF m 118 #[.val (.long q0), .second, .val (.int p1), .val (.long (q0 - (q0 % (1000000 : Int64)))), .second, .val (.int (p1 &&& (3 : Int32))), .val (.long i116_6), .second, .val (.long i116_8), .second, .val (.int k116_0), .unset, .unset] [])) (fun tq kt => ?_) ?_
    · show Steps p.tables e below (T_116.setTop (mkF m 116 #[.val (.long q0), .second, .val (.int p1), .val (.long (q0 - (q0 % (1000000 : Int64)))), .second, .val (.int (p1 &&& (3 : Int32))), .val (.long i116_6), .second, .val (.long i116_8), .second, .unset, .unset, .unset] [(.int k116_0)])) _
      refine XS.istore X_116.here hx rfl (hb hby at_116) rfl (l' := #[.val (.long q0), .second, .val (.int p1), .val (.long (q0 - (q0 % (1000000 : Int64)))), .second, .val (.int (p1 &&& (3 : Int32))), .val (.long i116_6), .second, .val (.long i116_8), .second, .val (.int k116_0), .unset, .unset]) rfl ?_
      exact kt
    exact J118 _ _ X_116 e_116 N_116 i116_6 i116_8 k116_0
  have J115 : ∀ (T_115 : State) (L_115 : List Loc), Stand p l e room_1 s m #[(.long q0), (.int p1)] below meth c T_115 L_115 0 0 → T_115.heap = h0 → Fr n0 L_115 → ∀ (i115_6 : Int64), ∀ (i115_8 : Int64), Got p e below s (PureP n0 h0) room_1.cells room_1.slots (some (.int (fL_115 q0 p1 i115_6 i115_8))) T_115 (mkF m 115 #[.val (.long q0), .second, .val (.int p1), .val (.long (q0 - (q0 % (1000000 : Int64)))), .second, .val (.int (p1 &&& (3 : Int32))), .val (.long i115_6), .second, .val (.long i115_8), .second, .unset, .unset, .unset] []) := by
    intro T_115 L_115 X_115 e_115 N_115 i115_6 i115_8
    refine Got.step (T' := T_115) (g' := (mkF m 116 #[.val (.long q0), .second, .val (.int p1), .val (.long (q0 - (q0 % (1000000 : Int64)))), .second, .val (.int (p1 &&& (3 : Int32))), .val (.long i115_6), .second, .val (.long i115_8), .second, .unset, .unset, .unset] [(.int (0 : Int32))])) (fun tq kt => ?_) ?_
    · show Steps p.tables e below (T_115.setTop (mkF m 115 #[.val (.long q0), .second, .val (.int p1), .val (.long (q0 - (q0 % (1000000 : Int64)))), .second, .val (.int (p1 &&& (3 : Int32))), .val (.long i115_6), .second, .val (.long i115_8), .second, .unset, .unset, .unset] [])) _
      refine XS.iconst X_115.here hx rfl (hb hby at_115) ?_
      exact kt
    exact J116 _ _ X_115 e_115 N_115 i115_6 i115_8 (0 : Int32)
  have J90 : ∀ (T_90 : State) (L_90 : List Loc), Stand p l e room_1 s m #[(.long q0), (.int p1)] below meth c T_90 L_90 0 0 → T_90.heap = h0 → Fr n0 L_90 → ∀ (i90_6 : Int64), ∀ (i90_8 : Int64), ∀ (k90_0 : Int32), Got p e below s (PureP n0 h0) room_1.cells room_1.slots (some (.int (fL_90 q0 p1 i90_6 i90_8 k90_0))) T_90 (mkF m 90 #[.val (.long q0), .second, .val (.int p1), .val (.long (q0 - (q0 % (1000000 : Int64)))), .second, .val (.int (p1 &&& (3 : Int32))), .val (.long i90_6), .second, .val (.long i90_8), .second, .unset, .unset, .unset] [(.int k90_0)]) := by
    intro T_90 L_90 X_90 e_90 N_90 i90_6 i90_8 k90_0
    refine Got.step (T' := T_90) (g' := (mkF m 118 #[.val (.long q0), .second, .val (.int p1), .val (.long (q0 - (q0 % (1000000 : Int64)))), .second, .val (.int (p1 &&& (3 : Int32))), .val (.long i90_6), .second, .val (.long i90_8), .second, .val (.int k90_0), .unset, .unset] [])) (fun tq kt => ?_) ?_
    · show Steps p.tables e below (T_90.setTop (mkF m 90 #[.val (.long q0), .second, .val (.int p1), .val (.long (q0 - (q0 % (1000000 : Int64)))), .second, .val (.int (p1 &&& (3 : Int32))), .val (.long i90_6), .second, .val (.long i90_8), .second, .unset, .unset, .unset] [(.int k90_0)])) _
      refine XS.istore X_90.here hx rfl (hb hby at_90) rfl (l' := #[.val (.long q0), .second, .val (.int p1), .val (.long (q0 - (q0 % (1000000 : Int64)))), .second, .val (.int (p1 &&& (3 : Int32))), .val (.long i90_6), .second, .val (.long i90_8), .second, .val (.int k90_0), .unset, .unset]) rfl ?_
      show Steps p.tables e below (T_90.setTop (mkF m 92 #[.val (.long q0), .second, .val (.int p1), .val (.long (q0 - (q0 % (1000000 : Int64)))), .second, .val (.int (p1 &&& (3 : Int32))), .val (.long i90_6), .second, .val (.long i90_8), .second, .val (.int k90_0), .unset, .unset] [])) _
      refine XS.goto X_90.here hx rfl (pc0 := 92) (pc' := 118) rfl (hb hby at_92) (by decide) (by decide) ?_
      exact kt
    exact J118 _ _ X_90 e_90 N_90 i90_6 i90_8 k90_0
  have J89 : ∀ (T_89 : State) (L_89 : List Loc), Stand p l e room_1 s m #[(.long q0), (.int p1)] below meth c T_89 L_89 0 0 → T_89.heap = h0 → Fr n0 L_89 → ∀ (i89_6 : Int64), ∀ (i89_8 : Int64), Got p e below s (PureP n0 h0) room_1.cells room_1.slots (some (.int (fL_89 q0 p1 i89_6 i89_8))) T_89 (mkF m 89 #[.val (.long q0), .second, .val (.int p1), .val (.long (q0 - (q0 % (1000000 : Int64)))), .second, .val (.int (p1 &&& (3 : Int32))), .val (.long i89_6), .second, .val (.long i89_8), .second, .unset, .unset, .unset] []) := by
    intro T_89 L_89 X_89 e_89 N_89 i89_6 i89_8
    refine Got.step (T' := T_89) (g' := (mkF m 90 #[.val (.long q0), .second, .val (.int p1), .val (.long (q0 - (q0 % (1000000 : Int64)))), .second, .val (.int (p1 &&& (3 : Int32))), .val (.long i89_6), .second, .val (.long i89_8), .second, .unset, .unset, .unset] [(.int (0 : Int32))])) (fun tq kt => ?_) ?_
    · show Steps p.tables e below (T_89.setTop (mkF m 89 #[.val (.long q0), .second, .val (.int p1), .val (.long (q0 - (q0 % (1000000 : Int64)))), .second, .val (.int (p1 &&& (3 : Int32))), .val (.long i89_6), .second, .val (.long i89_8), .second, .unset, .unset, .unset] [])) _
      refine XS.iconst X_89.here hx rfl (hb hby at_89) ?_
      exact kt
    exact J90 _ _ X_89 e_89 N_89 i89_6 i89_8 (0 : Int32)
  have J55 : ∀ (T_55 : State) (L_55 : List Loc), Stand p l e room_1 s m #[(.long q0), (.int p1)] below meth c T_55 L_55 0 0 → T_55.heap = h0 → Fr n0 L_55 → ∀ (i55_6 : Int64), Got p e below s (PureP n0 h0) room_1.cells room_1.slots (some (.int (fL_55 q0 p1 i55_6))) T_55 (mkF m 55 #[.val (.long q0), .second, .val (.int p1), .val (.long (q0 - (q0 % (1000000 : Int64)))), .second, .val (.int (p1 &&& (3 : Int32))), .val (.long i55_6), .second, .unset, .unset, .unset, .unset, .unset] []) := by
    intro T_55 L_55 X_55 e_55 N_55 i55_6
    refine Got.step (T' := T_55) (g' := (mkF m 57 #[.val (.long q0), .second, .val (.int p1), .val (.long (q0 - (q0 % (1000000 : Int64)))), .second, .val (.int (p1 &&& (3 : Int32))), .val (.long i55_6), .second, .unset, .unset, .unset, .unset, .unset] [(.long i55_6)])) (fun tq kt => ?_) ?_
    · show Steps p.tables e below (T_55.setTop (mkF m 55 #[.val (.long q0), .second, .val (.int p1), .val (.long (q0 - (q0 % (1000000 : Int64)))), .second, .val (.int (p1 &&& (3 : Int32))), .val (.long i55_6), .second, .unset, .unset, .unset, .unset, .unset] [])) _
      refine XS.lload X_55.here hx rfl (hb hby at_55) rfl ?_
      exact kt
    obtain ⟨_, _, ⟨T5, L5, k5, n5⟩, -, X5, ⟨Lc5, hQ5, l5, y5, z5⟩, st5⟩ := Jvm.LawKit.callS X_55 hx (y := (⟨"com/example/exclusion_by_quorum/exclusionbyquorum/Quorum", "ceilMillis", "(J)J"⟩ : MethodName)) hown (mvT hZ (hw _ (List.mem_of_getElem? (i := 1) rfl))) (mvT hZ (hw _ (List.mem_of_getElem? (i := 2) rfl))) (mvT hZ (hw _ (List.mem_of_getElem? (i := 3) rfl))) (mvT hZ (hw _ (List.mem_of_getElem? (i := 4) rfl))) (by decide) (backOf (W := 0) (rm1 l Z a0 hw [] i55_6 h0 n0 Z0) hZ (hw _ (List.mem_of_getElem? (i := 4) rfl)) (hw _ (List.mem_of_getElem? (i := 3) rfl)) (by decide) (by decide)) (g := (mkF m 57 #[.val (.long q0), .second, .val (.int p1), .val (.long (q0 - (q0 % (1000000 : Int64)))), .second, .val (.int (p1 &&& (3 : Int32))), .val (.long i55_6), .second, .unset, .unset, .unset, .unset, .unset] [(.long i55_6)])) rfl (by rw [hml]; rfl) (argsL := [(.long i55_6)]) (rest := []) (lenOf pd_0 rfl) rfl (by show 2 * 0 + _ ≤ _; exact Nat.le_of_eq rfl) (hb hby at_57) (fun _ _ => ⟨rfl, e_55, (by decide : 0 + 0 ≤ _), (by decide : 0 + 0 ≤ _)⟩)
    dsimp only [Pt.U, Pt.locs, Pt.cells, Pt.slots] at X5 l5 y5 z5 st5 hQ5
    subst l5 y5 z5
    obtain ⟨rfl, Nq5, e5⟩ := hQ5
    have N5 := Fr.app N_55 Nq5
    refine Got.step st5 ?_
    show Got p e below s _ _ _ _ T5 (mkF m 60 #[.val (.long q0), .second, .val (.int p1), .val (.long (q0 - (q0 % (1000000 : Int64)))), .second, .val (.int (p1 &&& (3 : Int32))), .val (.long i55_6), .second, .unset, .unset, .unset, .unset, .unset] [(.long (f1 i55_6))])
    refine Got.step (T' := T5) (g' := (mkF m 66 #[.val (.long q0), .second, .val (.int p1), .val (.long (q0 - (q0 % (1000000 : Int64)))), .second, .val (.int (p1 &&& (3 : Int32))), .val (.long i55_6), .second, .val (.long (f1 i55_6)), .second, .unset, .unset, .unset] [(.int (XT.cmpL i55_6 (0 : Int64)))])) (fun tq kt => ?_) ?_
    · show Steps p.tables e below (T5.setTop (mkF m 60 #[.val (.long q0), .second, .val (.int p1), .val (.long (q0 - (q0 % (1000000 : Int64)))), .second, .val (.int (p1 &&& (3 : Int32))), .val (.long i55_6), .second, .unset, .unset, .unset, .unset, .unset] [(.long (f1 i55_6))])) _
      refine XS.lstore X5.here hx rfl (hb hby at_60) rfl (l' := #[.val (.long q0), .second, .val (.int p1), .val (.long (q0 - (q0 % (1000000 : Int64)))), .second, .val (.int (p1 &&& (3 : Int32))), .val (.long i55_6), .second, .val (.long (f1 i55_6)), .second, .unset, .unset, .unset]) rfl ?_
      show Steps p.tables e below (T5.setTop (mkF m 62 #[.val (.long q0), .second, .val (.int p1), .val (.long (q0 - (q0 % (1000000 : Int64)))), .second, .val (.int (p1 &&& (3 : Int32))), .val (.long i55_6), .second, .val (.long (f1 i55_6)), .second, .unset, .unset, .unset] [])) _
      refine XS.lload X5.here hx rfl (hb hby at_62) rfl ?_
      show Steps p.tables e below (T5.setTop (mkF m 64 #[.val (.long q0), .second, .val (.int p1), .val (.long (q0 - (q0 % (1000000 : Int64)))), .second, .val (.int (p1 &&& (3 : Int32))), .val (.long i55_6), .second, .val (.long (f1 i55_6)), .second, .unset, .unset, .unset] [(.long i55_6)])) _
      refine XS.lconst X5.here hx rfl (hb hby at_64) ?_
      show Steps p.tables e below (T5.setTop (mkF m 65 #[.val (.long q0), .second, .val (.int p1), .val (.long (q0 - (q0 % (1000000 : Int64)))), .second, .val (.int (p1 &&& (3 : Int32))), .val (.long i55_6), .second, .val (.long (f1 i55_6)), .second, .unset, .unset, .unset] [(.long (0 : Int64)), (.long i55_6)])) _
      refine XT.lcmp X5.here hx rfl (hb hby at_65) rfl ?_
      exact kt
    refine Got.ite (q := ((0 : Int64) < i55_6)) (fun hc6 => ?_) (fun hc6 => ?_)
    · refine Got.step (T' := T5) (g' := (mkF m 73 #[.val (.long q0), .second, .val (.int p1), .val (.long (q0 - (q0 % (1000000 : Int64)))), .second, .val (.int (p1 &&& (3 : Int32))), .val (.long i55_6), .second, .val (.long (f1 i55_6)), .second, .unset, .unset, .unset] [(.int (XT.cmpL (f1 i55_6) (1 : Int64)))])) (fun tq kt => ?_) ?_
      · show Steps p.tables e below (T5.setTop (mkF m 66 #[.val (.long q0), .second, .val (.int p1), .val (.long (q0 - (q0 % (1000000 : Int64)))), .second, .val (.int (p1 &&& (3 : Int32))), .val (.long i55_6), .second, .val (.long (f1 i55_6)), .second, .unset, .unset, .unset] [(.int (XT.cmpL i55_6 (0 : Int64)))])) _
        refine XS.ifNo X5.here hx rfl (hb hby at_66) rfl (XT.ll_le_f hc6) ?_
        show Steps p.tables e below (T5.setTop (mkF m 69 #[.val (.long q0), .second, .val (.int p1), .val (.long (q0 - (q0 % (1000000 : Int64)))), .second, .val (.int (p1 &&& (3 : Int32))), .val (.long i55_6), .second, .val (.long (f1 i55_6)), .second, .unset, .unset, .unset] [])) _
        refine XS.lload X5.here hx rfl (hb hby at_69) rfl ?_
        show Steps p.tables e below (T5.setTop (mkF m 71 #[.val (.long q0), .second, .val (.int p1), .val (.long (q0 - (q0 % (1000000 : Int64)))), .second, .val (.int (p1 &&& (3 : Int32))), .val (.long i55_6), .second, .val (.long (f1 i55_6)), .second, .unset, .unset, .unset] [(.long (f1 i55_6))])) _
        refine XS.lconst X5.here hx rfl (hb hby at_71) ?_
        show Steps p.tables e below (T5.setTop (mkF m 72 #[.val (.long q0), .second, .val (.int p1), .val (.long (q0 - (q0 % (1000000 : Int64)))), .second, .val (.int (p1 &&& (3 : Int32))), .val (.long i55_6), .second, .val (.long (f1 i55_6)), .second, .unset, .unset, .unset] [(.long (1 : Int64)), (.long (f1 i55_6))])) _
        refine XT.lcmp X5.here hx rfl (hb hby at_72) rfl ?_
        exact kt
      refine Got.ite (q := ((f1 i55_6) < (1 : Int64))) (fun hc7 => ?_) (fun hc7 => ?_)
      · refine Got.step (T' := T5) (g' := (mkF m 89 #[.val (.long q0), .second, .val (.int p1), .val (.long (q0 - (q0 % (1000000 : Int64)))), .second, .val (.int (p1 &&& (3 : Int32))), .val (.long i55_6), .second, .val (.long (f1 i55_6)), .second, .unset, .unset, .unset] [])) (fun tq kt => ?_) ?_
        · show Steps p.tables e below (T5.setTop (mkF m 73 #[.val (.long q0), .second, .val (.int p1), .val (.long (q0 - (q0 % (1000000 : Int64)))), .second, .val (.int (p1 &&& (3 : Int32))), .val (.long i55_6), .second, .val (.long (f1 i55_6)), .second, .unset, .unset, .unset] [(.int (XT.cmpL (f1 i55_6) (1 : Int64)))])) _
          refine XS.ifYes X5.here hx rfl (pc0 := 73) (pc' := 89) rfl (hb hby at_73) rfl (XT.ll_lt_t hc7) (by decide) (by decide) ?_
          exact kt
        exact J89 _ _ X5 e5 N5 i55_6 (f1 i55_6)
      · refine Got.step (T' := T5) (g' := (mkF m 82 #[.val (.long q0), .second, .val (.int p1), .val (.long (q0 - (q0 % (1000000 : Int64)))), .second, .val (.int (p1 &&& (3 : Int32))), .val (.long i55_6), .second, .val (.long (f1 i55_6)), .second, .unset, .unset, .unset] [(.int (XT.cmpL (f1 i55_6) (9223372036855 : Int64)))])) (fun tq kt => ?_) ?_
        · show Steps p.tables e below (T5.setTop (mkF m 73 #[.val (.long q0), .second, .val (.int p1), .val (.long (q0 - (q0 % (1000000 : Int64)))), .second, .val (.int (p1 &&& (3 : Int32))), .val (.long i55_6), .second, .val (.long (f1 i55_6)), .second, .unset, .unset, .unset] [(.int (XT.cmpL (f1 i55_6) (1 : Int64)))])) _
          refine XS.ifNo X5.here hx rfl (hb hby at_73) rfl (XT.ll_lt_f hc7) ?_
          show Steps p.tables e below (T5.setTop (mkF m 76 #[.val (.long q0), .second, .val (.int p1), .val (.long (q0 - (q0 % (1000000 : Int64)))), .second, .val (.int (p1 &&& (3 : Int32))), .val (.long i55_6), .second, .val (.long (f1 i55_6)), .second, .unset, .unset, .unset] [])) _
          refine XS.lload X5.here hx rfl (hb hby at_76) rfl ?_
          show Steps p.tables e below (T5.setTop (mkF m 78 #[.val (.long q0), .second, .val (.int p1), .val (.long (q0 - (q0 % (1000000 : Int64)))), .second, .val (.int (p1 &&& (3 : Int32))), .val (.long i55_6), .second, .val (.long (f1 i55_6)), .second, .unset, .unset, .unset] [(.long (f1 i55_6))])) _
          refine X5.ldc2J hx hown (mvT hZ (hw _ (List.mem_of_getElem? (i := 6) rfl))) rfl (hb hby at_78) ?_
          show Steps p.tables e below (T5.setTop (mkF m 81 #[.val (.long q0), .second, .val (.int p1), .val (.long (q0 - (q0 % (1000000 : Int64)))), .second, .val (.int (p1 &&& (3 : Int32))), .val (.long i55_6), .second, .val (.long (f1 i55_6)), .second, .unset, .unset, .unset] [(.long (9223372036855 : Int64)), (.long (f1 i55_6))])) _
          refine XT.lcmp X5.here hx rfl (hb hby at_81) rfl ?_
          exact kt
        refine Got.ite (q := ((9223372036855 : Int64) < (f1 i55_6))) (fun hc8 => ?_) (fun hc8 => ?_)
        · refine Got.step (T' := T5) (g' := (mkF m 89 #[.val (.long q0), .second, .val (.int p1), .val (.long (q0 - (q0 % (1000000 : Int64)))), .second, .val (.int (p1 &&& (3 : Int32))), .val (.long i55_6), .second, .val (.long (f1 i55_6)), .second, .unset, .unset, .unset] [])) (fun tq kt => ?_) ?_
          · show Steps p.tables e below (T5.setTop (mkF m 82 #[.val (.long q0), .second, .val (.int p1), .val (.long (q0 - (q0 % (1000000 : Int64)))), .second, .val (.int (p1 &&& (3 : Int32))), .val (.long i55_6), .second, .val (.long (f1 i55_6)), .second, .unset, .unset, .unset] [(.int (XT.cmpL (f1 i55_6) (9223372036855 : Int64)))])) _
            refine XS.ifYes X5.here hx rfl (pc0 := 82) (pc' := 89) rfl (hb hby at_82) rfl (XT.ll_gt_t hc8) (by decide) (by decide) ?_
            exact kt
          exact J89 _ _ X5 e5 N5 i55_6 (f1 i55_6)
        · refine Got.step (T' := T5) (g' := (mkF m 90 #[.val (.long q0), .second, .val (.int p1), .val (.long (q0 - (q0 % (1000000 : Int64)))), .second, .val (.int (p1 &&& (3 : Int32))), .val (.long i55_6), .second, .val (.long (f1 i55_6)), .second, .unset, .unset, .unset] [(.int (1 : Int32))])) (fun tq kt => ?_) ?_
          · show Steps p.tables e below (T5.setTop (mkF m 82 #[.val (.long q0), .second, .val (.int p1), .val (.long (q0 - (q0 % (1000000 : Int64)))), .second, .val (.int (p1 &&& (3 : Int32))), .val (.long i55_6), .second, .val (.long (f1 i55_6)), .second, .unset, .unset, .unset] [(.int (XT.cmpL (f1 i55_6) (9223372036855 : Int64)))])) _
            refine XS.ifNo X5.here hx rfl (hb hby at_82) rfl (XT.ll_gt_f hc8) ?_
            show Steps p.tables e below (T5.setTop (mkF m 85 #[.val (.long q0), .second, .val (.int p1), .val (.long (q0 - (q0 % (1000000 : Int64)))), .second, .val (.int (p1 &&& (3 : Int32))), .val (.long i55_6), .second, .val (.long (f1 i55_6)), .second, .unset, .unset, .unset] [])) _
            refine XS.iconst X5.here hx rfl (hb hby at_85) ?_
            show Steps p.tables e below (T5.setTop (mkF m 86 #[.val (.long q0), .second, .val (.int p1), .val (.long (q0 - (q0 % (1000000 : Int64)))), .second, .val (.int (p1 &&& (3 : Int32))), .val (.long i55_6), .second, .val (.long (f1 i55_6)), .second, .unset, .unset, .unset] [(.int (1 : Int32))])) _
            refine XS.goto X5.here hx rfl (pc0 := 86) (pc' := 90) rfl (hb hby at_86) (by decide) (by decide) ?_
            exact kt
          exact J90 _ _ X5 e5 N5 i55_6 (f1 i55_6) (1 : Int32)
    · refine Got.step (T' := T5) (g' := (mkF m 101 #[.val (.long q0), .second, .val (.int p1), .val (.long (q0 - (q0 % (1000000 : Int64)))), .second, .val (.int (p1 &&& (3 : Int32))), .val (.long i55_6), .second, .val (.long (f1 i55_6)), .second, .unset, .unset, .unset] [(.int (XT.cmpL (f1 i55_6) (-9223372036854 : Int64)))])) (fun tq kt => ?_) ?_
      · show Steps p.tables e below (T5.setTop (mkF m 66 #[.val (.long q0), .second, .val (.int p1), .val (.long (q0 - (q0 % (1000000 : Int64)))), .second, .val (.int (p1 &&& (3 : Int32))), .val (.long i55_6), .second, .val (.long (f1 i55_6)), .second, .unset, .unset, .unset] [(.int (XT.cmpL i55_6 (0 : Int64)))])) _
        refine XS.ifYes X5.here hx rfl (pc0 := 66) (pc' := 95) rfl (hb hby at_66) rfl (XT.ll_le_t hc6) (by decide) (by decide) ?_
        show Steps p.tables e below (T5.setTop (mkF m 95 #[.val (.long q0), .second, .val (.int p1), .val (.long (q0 - (q0 % (1000000 : Int64)))), .second, .val (.int (p1 &&& (3 : Int32))), .val (.long i55_6), .second, .val (.long (f1 i55_6)), .second, .unset, .unset, .unset] [])) _
        refine XS.lload X5.here hx rfl (hb hby at_95) rfl ?_
        show Steps p.tables e below (T5.setTop (mkF m 97 #[.val (.long q0), .second, .val (.int p1), .val (.long (q0 - (q0 % (1000000 : Int64)))), .second, .val (.int (p1 &&& (3 : Int32))), .val (.long i55_6), .second, .val (.long (f1 i55_6)), .second, .unset, .unset, .unset] [(.long (f1 i55_6))])) _
        refine X5.ldc2J hx hown (mvT hZ (hw _ (List.mem_of_getElem? (i := 7) rfl))) rfl (hb hby at_97) ?_
        show Steps p.tables e below (T5.setTop (mkF m 100 #[.val (.long q0), .second, .val (.int p1), .val (.long (q0 - (q0 % (1000000 : Int64)))), .second, .val (.int (p1 &&& (3 : Int32))), .val (.long i55_6), .second, .val (.long (f1 i55_6)), .second, .unset, .unset, .unset] [(.long (-9223372036854 : Int64)), (.long (f1 i55_6))])) _
        refine XT.lcmp X5.here hx rfl (hb hby at_100) rfl ?_
        exact kt
      refine Got.ite (q := ((f1 i55_6) < (-9223372036854 : Int64))) (fun hc9 => ?_) (fun hc9 => ?_)
      · refine Got.step (T' := T5) (g' := (mkF m 115 #[.val (.long q0), .second, .val (.int p1), .val (.long (q0 - (q0 % (1000000 : Int64)))), .second, .val (.int (p1 &&& (3 : Int32))), .val (.long i55_6), .second, .val (.long (f1 i55_6)), .second, .unset, .unset, .unset] [])) (fun tq kt => ?_) ?_
        · show Steps p.tables e below (T5.setTop (mkF m 101 #[.val (.long q0), .second, .val (.int p1), .val (.long (q0 - (q0 % (1000000 : Int64)))), .second, .val (.int (p1 &&& (3 : Int32))), .val (.long i55_6), .second, .val (.long (f1 i55_6)), .second, .unset, .unset, .unset] [(.int (XT.cmpL (f1 i55_6) (-9223372036854 : Int64)))])) _
          refine XS.ifYes X5.here hx rfl (pc0 := 101) (pc' := 115) rfl (hb hby at_101) rfl (XT.ll_lt_t hc9) (by decide) (by decide) ?_
          exact kt
        exact J115 _ _ X5 e5 N5 i55_6 (f1 i55_6)
      · refine Got.step (T' := T5) (g' := (mkF m 108 #[.val (.long q0), .second, .val (.int p1), .val (.long (q0 - (q0 % (1000000 : Int64)))), .second, .val (.int (p1 &&& (3 : Int32))), .val (.long i55_6), .second, .val (.long (f1 i55_6)), .second, .unset, .unset, .unset] [(.int (XT.cmpL (f1 i55_6) (0 : Int64)))])) (fun tq kt => ?_) ?_
        · show Steps p.tables e below (T5.setTop (mkF m 101 #[.val (.long q0), .second, .val (.int p1), .val (.long (q0 - (q0 % (1000000 : Int64)))), .second, .val (.int (p1 &&& (3 : Int32))), .val (.long i55_6), .second, .val (.long (f1 i55_6)), .second, .unset, .unset, .unset] [(.int (XT.cmpL (f1 i55_6) (-9223372036854 : Int64)))])) _
          refine XS.ifNo X5.here hx rfl (hb hby at_101) rfl (XT.ll_lt_f hc9) ?_
          show Steps p.tables e below (T5.setTop (mkF m 104 #[.val (.long q0), .second, .val (.int p1), .val (.long (q0 - (q0 % (1000000 : Int64)))), .second, .val (.int (p1 &&& (3 : Int32))), .val (.long i55_6), .second, .val (.long (f1 i55_6)), .second, .unset, .unset, .unset] [])) _
          refine XS.lload X5.here hx rfl (hb hby at_104) rfl ?_
          show Steps p.tables e below (T5.setTop (mkF m 106 #[.val (.long q0), .second, .val (.int p1), .val (.long (q0 - (q0 % (1000000 : Int64)))), .second, .val (.int (p1 &&& (3 : Int32))), .val (.long i55_6), .second, .val (.long (f1 i55_6)), .second, .unset, .unset, .unset] [(.long (f1 i55_6))])) _
          refine XS.lconst X5.here hx rfl (hb hby at_106) ?_
          show Steps p.tables e below (T5.setTop (mkF m 107 #[.val (.long q0), .second, .val (.int p1), .val (.long (q0 - (q0 % (1000000 : Int64)))), .second, .val (.int (p1 &&& (3 : Int32))), .val (.long i55_6), .second, .val (.long (f1 i55_6)), .second, .unset, .unset, .unset] [(.long (0 : Int64)), (.long (f1 i55_6))])) _
          refine XT.lcmp X5.here hx rfl (hb hby at_107) rfl ?_
          exact kt
        refine Got.ite (q := ((0 : Int64) < (f1 i55_6))) (fun hc10 => ?_) (fun hc10 => ?_)
        · refine Got.step (T' := T5) (g' := (mkF m 115 #[.val (.long q0), .second, .val (.int p1), .val (.long (q0 - (q0 % (1000000 : Int64)))), .second, .val (.int (p1 &&& (3 : Int32))), .val (.long i55_6), .second, .val (.long (f1 i55_6)), .second, .unset, .unset, .unset] [])) (fun tq kt => ?_) ?_
          · show Steps p.tables e below (T5.setTop (mkF m 108 #[.val (.long q0), .second, .val (.int p1), .val (.long (q0 - (q0 % (1000000 : Int64)))), .second, .val (.int (p1 &&& (3 : Int32))), .val (.long i55_6), .second, .val (.long (f1 i55_6)), .second, .unset, .unset, .unset] [(.int (XT.cmpL (f1 i55_6) (0 : Int64)))])) _
            refine XS.ifYes X5.here hx rfl (pc0 := 108) (pc' := 115) rfl (hb hby at_108) rfl (XT.ll_gt_t hc10) (by decide) (by decide) ?_
            exact kt
          exact J115 _ _ X5 e5 N5 i55_6 (f1 i55_6)
        · refine Got.step (T' := T5) (g' := (mkF m 116 #[.val (.long q0), .second, .val (.int p1), .val (.long (q0 - (q0 % (1000000 : Int64)))), .second, .val (.int (p1 &&& (3 : Int32))), .val (.long i55_6), .second, .val (.long (f1 i55_6)), .second, .unset, .unset, .unset] [(.int (1 : Int32))])) (fun tq kt => ?_) ?_
          · show Steps p.tables e below (T5.setTop (mkF m 108 #[.val (.long q0), .second, .val (.int p1), .val (.long (q0 - (q0 % (1000000 : Int64)))), .second, .val (.int (p1 &&& (3 : Int32))), .val (.long i55_6), .second, .val (.long (f1 i55_6)), .second, .unset, .unset, .unset] [(.int (XT.cmpL (f1 i55_6) (0 : Int64)))])) _
            refine XS.ifNo X5.here hx rfl (hb hby at_108) rfl (XT.ll_gt_f hc10) ?_
            show Steps p.tables e below (T5.setTop (mkF m 111 #[.val (.long q0), .second, .val (.int p1), .val (.long (q0 - (q0 % (1000000 : Int64)))), .second, .val (.int (p1 &&& (3 : Int32))), .val (.long i55_6), .second, .val (.long (f1 i55_6)), .second, .unset, .unset, .unset] [])) _
            refine XS.iconst X5.here hx rfl (hb hby at_111) ?_
            show Steps p.tables e below (T5.setTop (mkF m 112 #[.val (.long q0), .second, .val (.int p1), .val (.long (q0 - (q0 % (1000000 : Int64)))), .second, .val (.int (p1 &&& (3 : Int32))), .val (.long i55_6), .second, .val (.long (f1 i55_6)), .second, .unset, .unset, .unset] [(.int (1 : Int32))])) _
            refine XS.goto X5.here hx rfl (pc0 := 112) (pc' := 116) rfl (hb hby at_112) (by decide) (by decide) ?_
            exact kt
          exact J116 _ _ X5 e5 N5 i55_6 (f1 i55_6) (1 : Int32)
  refine Got.step (T' := s₁) (g' := (mkF m 15 #[.val (.long q0), .second, .val (.int p1), .val (.long (q0 - (q0 % (1000000 : Int64)))), .second, .val (.int (p1 &&& (3 : Int32))), .unset, .unset, .unset, .unset, .unset, .unset, .unset] [(.int (p1 &&& (3 : Int32)))])) (fun tq kt => ?_) ?_
  · show Steps p.tables e below (s₁.setTop (mkF m 0 #[.val (.long q0), .second, .val (.int p1), .unset, .unset, .unset, .unset, .unset, .unset, .unset, .unset, .unset, .unset] [])) _
    refine XS.lloadN X0.here hx rfl (hb hby at_0) rfl ?_
    show Steps p.tables e below (s₁.setTop (mkF m 1 #[.val (.long q0), .second, .val (.int p1), .unset, .unset, .unset, .unset, .unset, .unset, .unset, .unset, .unset, .unset] [(.long q0)])) _
    refine XS.lloadN X0.here hx rfl (hb hby at_1) rfl ?_
    show Steps p.tables e below (s₁.setTop (mkF m 2 #[.val (.long q0), .second, .val (.int p1), .unset, .unset, .unset, .unset, .unset, .unset, .unset, .unset, .unset, .unset] [(.long q0), (.long q0)])) _
    refine X0.ldc2J hx hown (mvT hZ (hw _ (List.mem_of_getElem? (i := 0) rfl))) rfl (hb hby at_2) ?_
    show Steps p.tables e below (s₁.setTop (mkF m 5 #[.val (.long q0), .second, .val (.int p1), .unset, .unset, .unset, .unset, .unset, .unset, .unset, .unset, .unset, .unset] [(.long (1000000 : Int64)), (.long q0), (.long q0)])) _
    refine remJ X0 hx rfl (hb hby at_5) rfl (by decide) ?_
    show Steps p.tables e below (s₁.setTop (mkF m 6 #[.val (.long q0), .second, .val (.int p1), .unset, .unset, .unset, .unset, .unset, .unset, .unset, .unset, .unset, .unset] [(.long (q0 % (1000000 : Int64))), (.long q0)])) _
    refine XS.lsub X0.here hx rfl (hb hby at_6) rfl ?_
    show Steps p.tables e below (s₁.setTop (mkF m 7 #[.val (.long q0), .second, .val (.int p1), .unset, .unset, .unset, .unset, .unset, .unset, .unset, .unset, .unset, .unset] [(.long (q0 - (q0 % (1000000 : Int64))))])) _
    refine XS.lstoreN X0.here hx rfl (hb hby at_7) rfl (l' := #[.val (.long q0), .second, .val (.int p1), .val (.long (q0 - (q0 % (1000000 : Int64)))), .second, .unset, .unset, .unset, .unset, .unset, .unset, .unset, .unset]) rfl ?_
    show Steps p.tables e below (s₁.setTop (mkF m 8 #[.val (.long q0), .second, .val (.int p1), .val (.long (q0 - (q0 % (1000000 : Int64)))), .second, .unset, .unset, .unset, .unset, .unset, .unset, .unset, .unset] [])) _
    refine XS.iloadN X0.here hx rfl (hb hby at_8) rfl ?_
    show Steps p.tables e below (s₁.setTop (mkF m 9 #[.val (.long q0), .second, .val (.int p1), .val (.long (q0 - (q0 % (1000000 : Int64)))), .second, .unset, .unset, .unset, .unset, .unset, .unset, .unset, .unset] [(.int p1)])) _
    refine XS.iconst X0.here hx rfl (hb hby at_9) ?_
    show Steps p.tables e below (s₁.setTop (mkF m 10 #[.val (.long q0), .second, .val (.int p1), .val (.long (q0 - (q0 % (1000000 : Int64)))), .second, .unset, .unset, .unset, .unset, .unset, .unset, .unset, .unset] [(.int (3 : Int32)), (.int p1)])) _
    refine XS.iand X0.here hx rfl (hb hby at_10) rfl ?_
    show Steps p.tables e below (s₁.setTop (mkF m 11 #[.val (.long q0), .second, .val (.int p1), .val (.long (q0 - (q0 % (1000000 : Int64)))), .second, .unset, .unset, .unset, .unset, .unset, .unset, .unset, .unset] [(.int (p1 &&& (3 : Int32)))])) _
    refine XS.istore X0.here hx rfl (hb hby at_11) rfl (l' := #[.val (.long q0), .second, .val (.int p1), .val (.long (q0 - (q0 % (1000000 : Int64)))), .second, .val (.int (p1 &&& (3 : Int32))), .unset, .unset, .unset, .unset, .unset, .unset, .unset]) rfl ?_
    show Steps p.tables e below (s₁.setTop (mkF m 13 #[.val (.long q0), .second, .val (.int p1), .val (.long (q0 - (q0 % (1000000 : Int64)))), .second, .val (.int (p1 &&& (3 : Int32))), .unset, .unset, .unset, .unset, .unset, .unset, .unset] [])) _
    refine XS.iload X0.here hx rfl (hb hby at_13) rfl ?_
    exact kt
  refine Got.ite (q := ((p1 &&& (3 : Int32)) = 0)) (fun hc2 => ?_) (fun hc2 => ?_)
  · refine Got.step (T' := s₁) (g' := (mkF m 55 #[.val (.long q0), .second, .val (.int p1), .val (.long (q0 - (q0 % (1000000 : Int64)))), .second, .val (.int (p1 &&& (3 : Int32))), .val (.long q0), .second, .unset, .unset, .unset, .unset, .unset] [])) (fun tq kt => ?_) ?_
    · show Steps p.tables e below (s₁.setTop (mkF m 15 #[.val (.long q0), .second, .val (.int p1), .val (.long (q0 - (q0 % (1000000 : Int64)))), .second, .val (.int (p1 &&& (3 : Int32))), .unset, .unset, .unset, .unset, .unset, .unset, .unset] [(.int (p1 &&& (3 : Int32)))])) _
      refine XS.ifNo X0.here hx rfl (hb hby at_15) rfl (XT.i0_ne_f hc2) ?_
      show Steps p.tables e below (s₁.setTop (mkF m 18 #[.val (.long q0), .second, .val (.int p1), .val (.long (q0 - (q0 % (1000000 : Int64)))), .second, .val (.int (p1 &&& (3 : Int32))), .unset, .unset, .unset, .unset, .unset, .unset, .unset] [])) _
      refine XS.lloadN X0.here hx rfl (hb hby at_18) rfl ?_
      show Steps p.tables e below (s₁.setTop (mkF m 19 #[.val (.long q0), .second, .val (.int p1), .val (.long (q0 - (q0 % (1000000 : Int64)))), .second, .val (.int (p1 &&& (3 : Int32))), .unset, .unset, .unset, .unset, .unset, .unset, .unset] [(.long q0)])) _
      refine XS.lstore X0.here hx rfl (hb hby at_19) rfl (l' := #[.val (.long q0), .second, .val (.int p1), .val (.long (q0 - (q0 % (1000000 : Int64)))), .second, .val (.int (p1 &&& (3 : Int32))), .val (.long q0), .second, .unset, .unset, .unset, .unset, .unset]) rfl ?_
      show Steps p.tables e below (s₁.setTop (mkF m 21 #[.val (.long q0), .second, .val (.int p1), .val (.long (q0 - (q0 % (1000000 : Int64)))), .second, .val (.int (p1 &&& (3 : Int32))), .val (.long q0), .second, .unset, .unset, .unset, .unset, .unset] [])) _
      refine XS.goto X0.here hx rfl (pc0 := 21) (pc' := 55) rfl (hb hby at_21) (by decide) (by decide) ?_
      exact kt
    exact J55 _ _ X0 e0 N0 q0
  · refine Got.step (T' := s₁) (g' := (mkF m 27 #[.val (.long q0), .second, .val (.int p1), .val (.long (q0 - (q0 % (1000000 : Int64)))), .second, .val (.int (p1 &&& (3 : Int32))), .unset, .unset, .unset, .unset, .unset, .unset, .unset] [(.int (1 : Int32)), (.int (p1 &&& (3 : Int32)))])) (fun tq kt => ?_) ?_
    · show Steps p.tables e below (s₁.setTop (mkF m 15 #[.val (.long q0), .second, .val (.int p1), .val (.long (q0 - (q0 % (1000000 : Int64)))), .second, .val (.int (p1 &&& (3 : Int32))), .unset, .unset, .unset, .unset, .unset, .unset, .unset] [(.int (p1 &&& (3 : Int32)))])) _
      refine XS.ifYes X0.here hx rfl (pc0 := 15) (pc' := 24) rfl (hb hby at_15) rfl (XT.i0_ne_t hc2) (by decide) (by decide) ?_
      show Steps p.tables e below (s₁.setTop (mkF m 24 #[.val (.long q0), .second, .val (.int p1), .val (.long (q0 - (q0 % (1000000 : Int64)))), .second, .val (.int (p1 &&& (3 : Int32))), .unset, .unset, .unset, .unset, .unset, .unset, .unset] [])) _
      refine XS.iload X0.here hx rfl (hb hby at_24) rfl ?_
      show Steps p.tables e below (s₁.setTop (mkF m 26 #[.val (.long q0), .second, .val (.int p1), .val (.long (q0 - (q0 % (1000000 : Int64)))), .second, .val (.int (p1 &&& (3 : Int32))), .unset, .unset, .unset, .unset, .unset, .unset, .unset] [(.int (p1 &&& (3 : Int32)))])) _
      refine XS.iconst X0.here hx rfl (hb hby at_26) ?_
      exact kt
    refine Got.ite (q := ((p1 &&& (3 : Int32)) = (1 : Int32))) (fun hc3 => ?_) (fun hc3 => ?_)
    · refine Got.step (T' := s₁) (g' := (mkF m 55 #[.val (.long q0), .second, .val (.int p1), .val (.long (q0 - (q0 % (1000000 : Int64)))), .second, .val (.int (p1 &&& (3 : Int32))), .val (.long (q0 - (q0 % (1000000 : Int64)))), .second, .unset, .unset, .unset, .unset, .unset] [])) (fun tq kt => ?_) ?_
      · show Steps p.tables e below (s₁.setTop (mkF m 27 #[.val (.long q0), .second, .val (.int p1), .val (.long (q0 - (q0 % (1000000 : Int64)))), .second, .val (.int (p1 &&& (3 : Int32))), .unset, .unset, .unset, .unset, .unset, .unset, .unset] [(.int (1 : Int32)), (.int (p1 &&& (3 : Int32)))])) _
        refine XS.icmpNo X0.here hx rfl (hb hby at_27) rfl (XT.ii_ne_f hc3) ?_
        show Steps p.tables e below (s₁.setTop (mkF m 30 #[.val (.long q0), .second, .val (.int p1), .val (.long (q0 - (q0 % (1000000 : Int64)))), .second, .val (.int (p1 &&& (3 : Int32))), .unset, .unset, .unset, .unset, .unset, .unset, .unset] [])) _
        refine XS.lloadN X0.here hx rfl (hb hby at_30) rfl ?_
        show Steps p.tables e below (s₁.setTop (mkF m 31 #[.val (.long q0), .second, .val (.int p1), .val (.long (q0 - (q0 % (1000000 : Int64)))), .second, .val (.int (p1 &&& (3 : Int32))), .unset, .unset, .unset, .unset, .unset, .unset, .unset] [(.long (q0 - (q0 % (1000000 : Int64))))])) _
        refine XS.lstore X0.here hx rfl (hb hby at_31) rfl (l' := #[.val (.long q0), .second, .val (.int p1), .val (.long (q0 - (q0 % (1000000 : Int64)))), .second, .val (.int (p1 &&& (3 : Int32))), .val (.long (q0 - (q0 % (1000000 : Int64)))), .second, .unset, .unset, .unset, .unset, .unset]) rfl ?_
        show Steps p.tables e below (s₁.setTop (mkF m 33 #[.val (.long q0), .second, .val (.int p1), .val (.long (q0 - (q0 % (1000000 : Int64)))), .second, .val (.int (p1 &&& (3 : Int32))), .val (.long (q0 - (q0 % (1000000 : Int64)))), .second, .unset, .unset, .unset, .unset, .unset] [])) _
        refine XS.goto X0.here hx rfl (pc0 := 33) (pc' := 55) rfl (hb hby at_33) (by decide) (by decide) ?_
        exact kt
      exact J55 _ _ X0 e0 N0 (q0 - (q0 % (1000000 : Int64)))
    · refine Got.step (T' := s₁) (g' := (mkF m 39 #[.val (.long q0), .second, .val (.int p1), .val (.long (q0 - (q0 % (1000000 : Int64)))), .second, .val (.int (p1 &&& (3 : Int32))), .unset, .unset, .unset, .unset, .unset, .unset, .unset] [(.int (2 : Int32)), (.int (p1 &&& (3 : Int32)))])) (fun tq kt => ?_) ?_
      · show Steps p.tables e below (s₁.setTop (mkF m 27 #[.val (.long q0), .second, .val (.int p1), .val (.long (q0 - (q0 % (1000000 : Int64)))), .second, .val (.int (p1 &&& (3 : Int32))), .unset, .unset, .unset, .unset, .unset, .unset, .unset] [(.int (1 : Int32)), (.int (p1 &&& (3 : Int32)))])) _
        refine XS.icmpYes X0.here hx rfl (pc0 := 27) (pc' := 36) rfl (hb hby at_27) rfl (XT.ii_ne_t hc3) (by decide) (by decide) ?_
        show Steps p.tables e below (s₁.setTop (mkF m 36 #[.val (.long q0), .second, .val (.int p1), .val (.long (q0 - (q0 % (1000000 : Int64)))), .second, .val (.int (p1 &&& (3 : Int32))), .unset, .unset, .unset, .unset, .unset, .unset, .unset] [])) _
        refine XS.iload X0.here hx rfl (hb hby at_36) rfl ?_
        show Steps p.tables e below (s₁.setTop (mkF m 38 #[.val (.long q0), .second, .val (.int p1), .val (.long (q0 - (q0 % (1000000 : Int64)))), .second, .val (.int (p1 &&& (3 : Int32))), .unset, .unset, .unset, .unset, .unset, .unset, .unset] [(.int (p1 &&& (3 : Int32)))])) _
        refine XS.iconst X0.here hx rfl (hb hby at_38) ?_
        exact kt
      refine Got.ite (q := ((p1 &&& (3 : Int32)) = (2 : Int32))) (fun hc4 => ?_) (fun hc4 => ?_)
      · refine Got.step (T' := s₁) (g' := (mkF m 55 #[.val (.long q0), .second, .val (.int p1), .val (.long (q0 - (q0 % (1000000 : Int64)))), .second, .val (.int (p1 &&& (3 : Int32))), .val (.long ((q0 - (q0 % (1000000 : Int64))) + (1 : Int64))), .second, .unset, .unset, .unset, .unset, .unset] [])) (fun tq kt => ?_) ?_
        · show Steps p.tables e below (s₁.setTop (mkF m 39 #[.val (.long q0), .second, .val (.int p1), .val (.long (q0 - (q0 % (1000000 : Int64)))), .second, .val (.int (p1 &&& (3 : Int32))), .unset, .unset, .unset, .unset, .unset, .unset, .unset] [(.int (2 : Int32)), (.int (p1 &&& (3 : Int32)))])) _
          refine XS.icmpNo X0.here hx rfl (hb hby at_39) rfl (XT.ii_ne_f hc4) ?_
          show Steps p.tables e below (s₁.setTop (mkF m 42 #[.val (.long q0), .second, .val (.int p1), .val (.long (q0 - (q0 % (1000000 : Int64)))), .second, .val (.int (p1 &&& (3 : Int32))), .unset, .unset, .unset, .unset, .unset, .unset, .unset] [])) _
          refine XS.lloadN X0.here hx rfl (hb hby at_42) rfl ?_
          show Steps p.tables e below (s₁.setTop (mkF m 43 #[.val (.long q0), .second, .val (.int p1), .val (.long (q0 - (q0 % (1000000 : Int64)))), .second, .val (.int (p1 &&& (3 : Int32))), .unset, .unset, .unset, .unset, .unset, .unset, .unset] [(.long (q0 - (q0 % (1000000 : Int64))))])) _
          refine XS.lconst X0.here hx rfl (hb hby at_43) ?_
          show Steps p.tables e below (s₁.setTop (mkF m 44 #[.val (.long q0), .second, .val (.int p1), .val (.long (q0 - (q0 % (1000000 : Int64)))), .second, .val (.int (p1 &&& (3 : Int32))), .unset, .unset, .unset, .unset, .unset, .unset, .unset] [(.long (1 : Int64)), (.long (q0 - (q0 % (1000000 : Int64))))])) _
          refine XS.ladd X0.here hx rfl (hb hby at_44) rfl ?_
          show Steps p.tables e below (s₁.setTop (mkF m 45 #[.val (.long q0), .second, .val (.int p1), .val (.long (q0 - (q0 % (1000000 : Int64)))), .second, .val (.int (p1 &&& (3 : Int32))), .unset, .unset, .unset, .unset, .unset, .unset, .unset] [(.long ((q0 - (q0 % (1000000 : Int64))) + (1 : Int64)))])) _
          refine XS.lstore X0.here hx rfl (hb hby at_45) rfl (l' := #[.val (.long q0), .second, .val (.int p1), .val (.long (q0 - (q0 % (1000000 : Int64)))), .second, .val (.int (p1 &&& (3 : Int32))), .val (.long ((q0 - (q0 % (1000000 : Int64))) + (1 : Int64))), .second, .unset, .unset, .unset, .unset, .unset]) rfl ?_
          show Steps p.tables e below (s₁.setTop (mkF m 47 #[.val (.long q0), .second, .val (.int p1), .val (.long (q0 - (q0 % (1000000 : Int64)))), .second, .val (.int (p1 &&& (3 : Int32))), .val (.long ((q0 - (q0 % (1000000 : Int64))) + (1 : Int64))), .second, .unset, .unset, .unset, .unset, .unset] [])) _
          refine XS.goto X0.here hx rfl (pc0 := 47) (pc' := 55) rfl (hb hby at_47) (by decide) (by decide) ?_
          exact kt
        exact J55 _ _ X0 e0 N0 ((q0 - (q0 % (1000000 : Int64))) + (1 : Int64))
      · refine Got.step (T' := s₁) (g' := (mkF m 55 #[.val (.long q0), .second, .val (.int p1), .val (.long (q0 - (q0 % (1000000 : Int64)))), .second, .val (.int (p1 &&& (3 : Int32))), .val (.long ((q0 - (q0 % (1000000 : Int64))) - (1 : Int64))), .second, .unset, .unset, .unset, .unset, .unset] [])) (fun tq kt => ?_) ?_
        · show Steps p.tables e below (s₁.setTop (mkF m 39 #[.val (.long q0), .second, .val (.int p1), .val (.long (q0 - (q0 % (1000000 : Int64)))), .second, .val (.int (p1 &&& (3 : Int32))), .unset, .unset, .unset, .unset, .unset, .unset, .unset] [(.int (2 : Int32)), (.int (p1 &&& (3 : Int32)))])) _
          refine XS.icmpYes X0.here hx rfl (pc0 := 39) (pc' := 50) rfl (hb hby at_39) rfl (XT.ii_ne_t hc4) (by decide) (by decide) ?_
          show Steps p.tables e below (s₁.setTop (mkF m 50 #[.val (.long q0), .second, .val (.int p1), .val (.long (q0 - (q0 % (1000000 : Int64)))), .second, .val (.int (p1 &&& (3 : Int32))), .unset, .unset, .unset, .unset, .unset, .unset, .unset] [])) _
          refine XS.lloadN X0.here hx rfl (hb hby at_50) rfl ?_
          show Steps p.tables e below (s₁.setTop (mkF m 51 #[.val (.long q0), .second, .val (.int p1), .val (.long (q0 - (q0 % (1000000 : Int64)))), .second, .val (.int (p1 &&& (3 : Int32))), .unset, .unset, .unset, .unset, .unset, .unset, .unset] [(.long (q0 - (q0 % (1000000 : Int64))))])) _
          refine XS.lconst X0.here hx rfl (hb hby at_51) ?_
          show Steps p.tables e below (s₁.setTop (mkF m 52 #[.val (.long q0), .second, .val (.int p1), .val (.long (q0 - (q0 % (1000000 : Int64)))), .second, .val (.int (p1 &&& (3 : Int32))), .unset, .unset, .unset, .unset, .unset, .unset, .unset] [(.long (1 : Int64)), (.long (q0 - (q0 % (1000000 : Int64))))])) _
          refine XS.lsub X0.here hx rfl (hb hby at_52) rfl ?_
          show Steps p.tables e below (s₁.setTop (mkF m 53 #[.val (.long q0), .second, .val (.int p1), .val (.long (q0 - (q0 % (1000000 : Int64)))), .second, .val (.int (p1 &&& (3 : Int32))), .unset, .unset, .unset, .unset, .unset, .unset, .unset] [(.long ((q0 - (q0 % (1000000 : Int64))) - (1 : Int64)))])) _
          refine XS.lstore X0.here hx rfl (hb hby at_53) rfl (l' := #[.val (.long q0), .second, .val (.int p1), .val (.long (q0 - (q0 % (1000000 : Int64)))), .second, .val (.int (p1 &&& (3 : Int32))), .val (.long ((q0 - (q0 % (1000000 : Int64))) - (1 : Int64))), .second, .unset, .unset, .unset, .unset, .unset]) rfl ?_
          exact kt
        exact J55 _ _ X0 e0 N0 ((q0 - (q0 % (1000000 : Int64))) - (1 : Int64))
theorem own_bm (x : Int) : ∃ k : Int, x.bmod (2 ^ 64) = x - 18446744073709551616 * k ∧ -9223372036854775808 ≤ x.bmod (2 ^ 64) ∧ x.bmod (2 ^ 64) < 9223372036854775808 := by
  have h1 : x.bmod (2 ^ 64) = if x % 18446744073709551616 < 9223372036854775808 then x % 18446744073709551616 else x % 18446744073709551616 - 18446744073709551616 := rfl
  rw [h1]
  split
  · exact ⟨x / 18446744073709551616, by omega, by omega, by omega⟩
  · exact ⟨x / 18446744073709551616 + 1, by omega, by omega, by omega⟩
theorem own_ceil (n : Int64) : 0 ≤ (f1 n).toInt * 1000000 - n.toInt ∧ (f1 n).toInt * 1000000 - n.toInt < 1000000 := by
  have z : (1000000 : Int64).toInt = 1000000 := rfl
  have z1 : (1 : Int64).toInt = 1 := rfl
  have z0 : (0 : Int64).toInt = 0 := rfl
  have h1 := c_ldiv n 1000000 1000000 rfl (by decide)
  have h2 : (n % 1000000).toInt = n.toInt.tmod 1000000 := by rw [Int64.toInt_mod, z]
  have h3 := tr n.toInt 1000000
  have b1 := Int64.le_toInt n
  have b2 := Int64.toInt_lt n
  unfold f1
  split
  · rename_i q
    rw [Int64.lt_iff_toInt_lt, h2, z0] at q
    rcases Int.lt_or_le n.toInt 0 with s | s
    · rw [h3.2 s] at q; omega
    · have e := h1.1 s
      rw [h3.1 s] at q
      rw [XT.add64 (by unfold XT.fits64; omega), z1, e]
      omega
  · rename_i q
    rw [Int64.lt_iff_toInt_lt, h2, z0] at q
    rcases Int.lt_or_le n.toInt 0 with s | s
    · rw [h1.2 s]; omega
    · rw [h3.1 s] at q; rw [h1.1 s]; omega
theorem own_d (n : Int64) : ((f1 n) * (1000000 : Int64) - n).toInt = (f1 n).toInt * 1000000 - n.toInt := by
  have z : (1000000 : Int64).toInt = 1000000 := rfl
  have c := own_ceil n
  rw [Int64.toInt_sub, Int64.toInt_mul, z]
  obtain ⟨k1, e1, -, -⟩ := own_bm ((f1 n).toInt * 1000000)
  rw [e1]
  obtain ⟨k2, e2, b1, b2⟩ := own_bm ((f1 n).toInt * 1000000 - 18446744073709551616 * k1 - n.toInt)
  rw [e2] at b1 b2 ⊢
  omega
theorem own_tail (q0 : Int64) (p1 : Int32) (n : Int64) : fL_118 q0 p1 n (f1 n) 1 = 1 := by
  have c := own_ceil n
  have d := own_d n
  have z : (1000000 : Int64).toInt = 1000000 := rfl
  have z0 : (0 : Int64).toInt = 0 := rfl
  unfold fL_118
  rw [if_neg (by decide), if_neg (by rw [Int64.lt_iff_toInt_lt, d, z0]; omega), if_pos (by rw [Int64.lt_iff_toInt_lt, d, z]; omega)]
theorem own_55 (q0 : Int64) (p1 : Int32) (n : Int64) : fL_55 q0 p1 n = 1 := by
  have c := own_ceil n
  have b1 := Int64.le_toInt n
  have b2 := Int64.toInt_lt n
  have z0 : (0 : Int64).toInt = 0 := rfl
  have z1 : (1 : Int64).toInt = 1 := rfl
  have z2 : (9223372036855 : Int64).toInt = 9223372036855 := rfl
  have z3 : (-9223372036854 : Int64).toInt = -9223372036854 := rfl
  have t := own_tail q0 p1 n
  unfold fL_55
  by_cases h : (0 : Int64) < n
  · rw [if_pos h, if_neg (by rw [Int64.lt_iff_toInt_lt] at *; omega), if_neg (by rw [Int64.lt_iff_toInt_lt] at *; omega)]
    exact t
  · rw [if_neg h, if_neg (by rw [Int64.lt_iff_toInt_lt] at *; omega), if_neg (by rw [Int64.lt_iff_toInt_lt] at *; omega)]
    exact t
theorem law_true (q0 : Int64) (p1 : Int32) : fL q0 p1 = 1 := by
  unfold fL
  split
  · exact own_55 _ _ _
  · split
    · exact own_55 _ _ _
    · split
      · exact own_55 _ _ _
      · exact own_55 _ _ _

set_option maxRecDepth 65536 in
set_option maxHeartbeats 40000000 in
theorem comes_1 {Post : Tables → Env → Array Value → State → Outcome → State → Prop} (hpost : ∀ tb e args s v u, (limb_1_1.after args s (.returned v) u = true ∧ limb_1_2.after args s (.returned v) u = true ∧ True) → FrameEnd s (.returned v) u (Jvm.fieldLocs frame_1_writes args s ++ Jvm.arrayLocs frame_1_arrays args s ++ Jvm.staticLocs frame_1_statics s) 0 0 → Post tb e args s (.returned v) u) :
    ArmFor flags0 classFile x code maxLocals ret World_1 tables_1 room_1 Calls_1 rest_1 Pre_1 Post := by
  intro l hfl _ _ p e ha hc hk s m args below hf hA hF happ hP
  obtain ⟨hcalls, hrest, hpre⟩ := hP
  obtain ⟨-, -, -, hnamed, -, -, -, hat⟩ := (Spec.applies_iff hf).mp happ
  obtain ⟨hg, hn⟩ := and_e (Cond.before_iff.mp (show (Jvm.Cond.and given_1 narrow_1).before args s = true from hpre))
  obtain ⟨h1, g0⟩ := and_e hg
  obtain ⟨c0, g1⟩ := and_e g0
  obtain ⟨w0, w1, rfl⟩ : ∃ w0 w1 : Value, args = #[w0, w1] := by
    have hs : args.size = 2 := by simpa [Cond.value, given_1] using h1
    obtain ⟨L⟩ := args
    match L, hs with
    | [w0, w1], _ => exact ⟨w0, w1, rfl⟩
  have hw := fun d (hd : d ∈ tables_1) => atoms_spec (ws := Jvm.Cond.code x code maxLocals ret :: tables_1) hat d (List.mem_cons_of_mem _ hd)
  obtain ⟨i0, e0⟩ := isL_v c0
  obtain rfl : w0 = (.long i0) := Option.some.inj e0
  obtain ⟨i1, e1⟩ := is_v g1
  obtain rfl : w1 = (.int i1) := Option.some.inj e1
  obtain ⟨n, o, h1, h2, h3, vq, L, rfl, ⟨hv, N⟩, hq⟩ := rmL l s _ hw tables_1 i0 i1  s.heap s.heap.size (Nat.le_refl _) p e ha hc hk s m _ below hf ((Spec.applies_iff_loose hf).mp happ).1 ⟨rfl, State.Warmed39.refl s, rfl⟩ trivial
  rw [law_true] at hv
  replace N := N.1
  subst hv
  refine ⟨n, _, h1, h2, h3, hpost _ _ _ _ _ _ ⟨Cond.after_iff.mpr rfl, Cond.after_iff.mpr (eq_i res_at (Term.int_eval (1)) rfl), trivial⟩ ⟨hq.1, hq.2.1, (hq.2.2.sift fun y hy => Or.inr (N y hy)).mono (by decide) (by decide)⟩⟩
theorem main_1_1 : Claimed_1_1 := comes_1 fun _ _ _ _ _ _ h hF => ⟨h.1, hF⟩
theorem main_1_2 : Claimed_1_2 := comes_1 fun _ _ _ _ _ _ h hF => ⟨h.2.1, hF⟩
end Jvm.Pilot.@@N@@
namespace Jvm.Pilot.@@N@@
open Jvm Jvm.ClassFile Sem Op Lib Jvm.Free Jvm.Stand Jvm.Pilot.@@N@@.Jvm.D
/-! MADE BY PROGRAM (witnessworld.py) out of the Statement's table words and the real class files: 10 classes; the members and pool entries that the words name. The judged class is class 1, her method 1. -/
namespace start1
open Jvm.ClassFile
def u (s : String) : CpInfo := .utf8 (stringToUtf16 s)
/-- a pool by its gaps: so many unusable entries, then the entry; so many at the end -/
def gap : Nat → List CpInfo → List CpInfo
  | 0, r => r
  | n + 1, r => .unusable :: gap n r
def poolList (es : List (Nat × CpInfo)) (last : Nat) : List CpInfo := es.foldr (fun e r => gap e.1 (e.2 :: r)) (gap last [])
def pool (es : List (Nat × CpInfo)) (last : Nat) : Array CpInfo := ⟨poolList es last⟩
def fileOf (pool : Array CpInfo) (this : Nat) (attrs : Array Attribute := #[]) (ms : Array MethodInfo := #[]) (fl : Nat := 33) (sup : Nat := 0) (ifs : Array Nat := #[]) (fds : Array FieldInfo := #[]) : ClassFile where
  minorVersion := 0
  majorVersion := 65
  constantPool := pool
  accessFlags := fl
  thisClass := this
  superClass := sup
  interfaces := ifs
  fields := fds
  methods := ms
  attributes := attrs
def plain (name : String) (sup : Option ClassId) : Class where
  name := name
  kind := .ordinary
  loader := none
  accessFlags := 33
  super := sup
  interfaces := #[]
  cf := none
  fields := #[]
  methods := #[]
  instanceTypes := #[]
  staticTypes := #[]
  resolved := #[]
  callSites := []
  init := .initialized
  statics := none
  mirror := none

def pool0 : Array CpInfo := pool [(5, u "<init>"), (0, u "()V"), (1, .class_ 10), (1, u "java/lang/Object")] 113

def k0m0 : Method := { name := "<init>", desc := "()V", sig := { parameters := [], returnType := none }, accessFlags := 1, code := none }
/-- java/lang/Object -/
def k0 : Class := { plain "java/lang/Object" none with
  accessFlags := 33
  interfaces := #[]
  cf := some (fileOf pool0 8 #[] #[{ accessFlags := 1, nameIndex := 5, descriptorIndex := 6, attributes := #[] }] 33 0 #[] #[])
  fields := #[]
  methods := #[k0m0]
  instanceTypes := #[]
  staticTypes := #[]
  resolved := Array.replicate 124 none
  statics := none }

def pool1 : Array CpInfo := pool [(2, .class_ 4), (1, u "java/lang/Object"), (0, u "<init>"), (0, u "()V"), (0, .long 1000000), (1, .methodref 10 11), (0, .class_ 12), (0, .nameAndType 13 14), (0, u "com/example/exclusion_by_quorum/exclusionbyquorum/Quorum"), (0, u "ceilMillis"), (0, u "(J)J"), (0, .long 9223372036855), (1, .long 18446734850337514762), (1, .class_ 20), (0, u "com/example/exclusion_by_quorum/exclusionbyquorum/QuorumCeilMillisPinLaw"), (2, u "law"), (0, u "(JI)Z")] 3

def k1m0 : Method := { name := "<init>", desc := "()V", sig := { parameters := [], returnType := none }, accessFlags := 1, code := none }
def k1c1 : Code := { maxStack := 6, maxLocals := 13, code := code, exceptionTable := #[], attributes := #[] }
def k1m1 : Method := { name := "law", desc := "(JI)Z", sig := { parameters := [.long, .int], returnType := some .boolean }, accessFlags := 9, code := some k1c1 }
/-- com/example/exclusion_by_quorum/exclusionbyquorum/QuorumCeilMillisPinLaw -/
def k1 : Class := { plain "com/example/exclusion_by_quorum/exclusionbyquorum/QuorumCeilMillisPinLaw" (some 0) with
  accessFlags := 49
  interfaces := #[]
  cf := some (fileOf pool1 19 #[] #[{ accessFlags := 1, nameIndex := 5, descriptorIndex := 6, attributes := #[] }, { accessFlags := 9, nameIndex := 23, descriptorIndex := 24, attributes := #[] }] 49 2 #[] #[])
  fields := #[]
  methods := #[k1m0, k1m1]
  instanceTypes := #[]
  staticTypes := #[]
  resolved := Array.replicate 28 none
  statics := none }

def pool2 : Array CpInfo := pool [(2, .class_ 4), (1, u "java/lang/Object"), (0, u "<init>"), (0, u "()V"), (0, .class_ 8), (0, u "java/lang/Record")] 13

def k2m0 : Method := { name := "<init>", desc := "()V", sig := { parameters := [], returnType := none }, accessFlags := 4, code := none }
/-- java/lang/Record -/
def k2 : Class := { plain "java/lang/Record" (some 0) with
  accessFlags := 1057
  interfaces := #[]
  cf := some (fileOf pool2 7 #[] #[{ accessFlags := 4, nameIndex := 5, descriptorIndex := 6, attributes := #[] }] 1057 2 #[] #[])
  fields := #[]
  methods := #[k2m0]
  instanceTypes := #[]
  staticTypes := #[]
  resolved := Array.replicate 22 none
  statics := none }

def pool3 : Array CpInfo := pool [(2, .class_ 4), (1, u "java/lang/Record"), (12, .class_ 19), (1, u "com/example/exclusion_by_quorum/exclusionbyquorum/Quorum"), (0, u "servers"), (0, u "I"), (22, u "ceilMillis"), (0, u "(J)J"), (3, .long 1000000), (14, u "NANOS_PER_MILLI"), (0, u "J")] 45

def k3c0 : Code := { maxStack := 4, maxLocals := 4, code := prog_3_method_6_code, exceptionTable := #[], attributes := #[] }
def k3m0 : Method := { name := "ceilMillis", desc := "(J)J", sig := { parameters := [.long], returnType := some .long }, accessFlags := 8, code := some k3c0 }
/-- com/example/exclusion_by_quorum/exclusionbyquorum/Quorum -/
def k3 : Class := { plain "com/example/exclusion_by_quorum/exclusionbyquorum/Quorum" (some 2) with
  accessFlags := 48
  interfaces := #[]
  cf := some (fileOf pool3 17 #[] #[{ accessFlags := 8, nameIndex := 44, descriptorIndex := 45, attributes := #[] }] 48 2 #[] #[{ accessFlags := 18, nameIndex := 20, descriptorIndex := 21, attributes := #[] }, { accessFlags := 26, nameIndex := 64, descriptorIndex := 65, attributes := #[] }])
  fields := #[{ name := "servers", type := .int, accessFlags := 18, slot := 0, constantValue := 0 }, { name := "NANOS_PER_MILLI", type := .long, accessFlags := 26, slot := 0, constantValue := 0 }]
  methods := #[k3m0]
  instanceTypes := #[.int]
  staticTypes := #[.long]
  resolved := Array.replicate 111 none
  statics := none }

def pool4 : Array CpInfo := pool [(1, u "java/lang/Cloneable"), (0, .class_ 1), (0, u "java/lang/Object"), (0, .class_ 3)] 3

/-- java/lang/Cloneable -/
def k4 : Class := { plain "java/lang/Cloneable" (some 0) with
  accessFlags := 1537
  interfaces := #[]
  cf := some (fileOf pool4 2 #[] #[] 1537 4 #[] #[])
  fields := #[]
  methods := #[]
  instanceTypes := #[]
  staticTypes := #[]
  resolved := Array.replicate 8 none
  statics := none }

def pool5 : Array CpInfo := pool [(1, u "java/io/Serializable"), (0, .class_ 1), (0, u "java/lang/Object"), (0, .class_ 3)] 3

/-- java/io/Serializable -/
def k5 : Class := { plain "java/io/Serializable" (some 0) with
  accessFlags := 1537
  interfaces := #[]
  cf := some (fileOf pool5 2 #[] #[] 1537 4 #[] #[])
  fields := #[]
  methods := #[]
  instanceTypes := #[]
  staticTypes := #[]
  resolved := Array.replicate 8 none
  statics := none }

/-- the primitive byte -/
def k6 : Class := { plain "byte" none with kind := .primitive 'B', accessFlags := 0x411 }
/-- [B -/
def k7 : Class := { plain "[B" (some 0) with kind := .array 6 .byte, interfaces := #[4, 5], accessFlags := 1041 }

/-- the primitive int -/
def k8 : Class := { plain "int" none with kind := .primitive 'I', accessFlags := 0x411 }
/-- [I -/
def k9 : Class := { plain "[I" (some 0) with kind := .array 8 .int, interfaces := #[4, 5], accessFlags := 1041 }

def heap : Heap := #[]
def classes : Array Class := #[k0, k1, k2, k3, k4, k5, k6, k7, k8, k9]
def interned : List (Array UInt16 × Addr) := []
def slotsUsed : Nat := 0
def theMethod : MethodId := ⟨1, 1⟩
def args0 : Array Value := #[.long 5, .int 7]
def aboutOver (below : List Frame) : State where
  vm := { classes := classes, interned := interned.toArray }
  heap := heap
  slotsUsed := slotsUsed
  threads := #[{ frames := .invoking theMethod args0 :: below }]
def below0 : List Frame := [.native { method := ⟨0, 0⟩, args := #[] }]
def about1 : State := aboutOver below0
def p0 : Program := .bare "" "" ""
def e0 : Env := launch0.env 0 0 0
theorem w_frames : about1.frames = Frame.invoking theMethod args0 :: below0 := rfl
set_option maxRecDepth 65536 in
theorem w_args : argsFit about1.vm theMethod args0 = true := by decide +kernel
set_option maxRecDepth 65536 in
theorem w_heap : heapFits about1 = true := by decide +kernel
set_option maxRecDepth 65536 in
theorem w_runnable : about1.curStatus? = some .runnable := by decide +kernel
set_option maxRecDepth 65536 in
theorem w_alone : about1.alone = true := by decide +kernel
set_option maxRecDepth 65536 in
theorem w_named : about1.methodNamed? x = some theMethod := by decide +kernel
set_option maxRecDepth 65536 in
theorem w_hears : about1.hears theMethod below0 = true := by decide +kernel
set_option maxRecDepth 65536 in
theorem w_ripe : about1.ripe theMethod args0 below0 = true := by decide +kernel
theorem w_running : about1.status = .running := rfl
set_option maxRecDepth 65536 in
theorem w_room : about1.hasRoom e0.platform room_1 = true :=
  launch0.hasRoom_least _ room_1 (by decide +kernel) (by decide +kernel) (by decide +kernel) (by decide +kernel) (by decide +kernel) (by decide +kernel)
theorem allAtoms_all (ts : List Jvm.Cond) (a : Array Jvm.Value) (st : Jvm.State) : (allAtoms ts).before a st = ts.all (fun c => c.before a st) := by
  induction ts with
  | nil => rfl
  | cons c t ih =>
    show (Jvm.Cond.and c (allAtoms t)).before a st = _
    rw [Jvm.Cond.before_and, ih, List.all_cons]
def words1 : List Jvm.Cond := Jvm.Cond.code x code maxLocals ret :: tables_1
/-- a 'code' word, met by the world's own term for the bytes: nothing is compared byte by byte -/
theorem code_word {y : MethodName} {bytes : ByteArray} {mx : Nat} {rt : Option FieldType} {a : Array Value} {s : State} {m : MethodId} {meth : Method} {c : Code} (h1 : s.methodNamed? y = some m) (h2 : s.vm.method? m = some meth) (h3 : meth.code = some c) (h4 : c.code = bytes)
    (h5 : (c.maxLocals == mx && c.exceptionTable.isEmpty && decide (c.maxStack ≤ mostOperands) && decide (meth.sig.returnType = rt) && !meth.locks && decide (parseMethodDescriptor y.desc = some meth.sig)) = true) : (Jvm.Cond.code y bytes mx rt).before a s = true := by
  simp only [Bool.and_eq_true, beq_iff_eq, Bool.not_eq_true', decide_eq_true_eq] at h5
  obtain ⟨⟨⟨⟨⟨g1, g2⟩, g3⟩, g4⟩, g5⟩, g6⟩ := h5
  simp [Cond.before, Cond.holds, Cond.value, h1, h2, h3, h4, g1, g2, g3, g4, g5, g6]
def isCode : Jvm.Cond → Bool
  | .code _ _ _ _ => true
  | _ => false
theorem all_split {L : List Jvm.Cond} {P : Jvm.Cond → Bool} (h1 : L.all (fun c => isCode c || P c) = true) (h2 : ∀ c ∈ L.filter isCode, P c = true) : L.all P = true := by
  refine List.all_eq_true.mpr fun c hc => ?_
  have h := List.all_eq_true.mp h1 c hc
  rcases Bool.eq_false_or_eq_true (isCode c) with hi | hi
  · exact h2 c (List.mem_filter.mpr ⟨hc, hi⟩)
  · simpa [hi] using h
set_option maxRecDepth 65536 in
theorem w_c0 : (Jvm.Cond.code x code maxLocals ret).before args0 about1 = true := code_word (m := ⟨1, 1⟩) (meth := k1m1) (c := k1c1) (by decide +kernel) rfl rfl rfl (by decide +kernel)
set_option maxRecDepth 65536 in
theorem w_c1 : (Jvm.Cond.code ({ cls := "com/example/exclusion_by_quorum/exclusionbyquorum/Quorum", name := "ceilMillis", desc := "(J)J" } : Jvm.MethodName) prog_3_method_6_code (4 : Nat) (Option.some Jvm.ClassFile.FieldType.long)).before args0 about1 = true := code_word (m := ⟨3, 0⟩) (meth := k3m0) (c := k3c0) (by decide +kernel) rfl rfl rfl (by decide +kernel)
def codes1 : List Jvm.Cond := [Jvm.Cond.code x code maxLocals ret, Jvm.Cond.code ({ cls := "com/example/exclusion_by_quorum/exclusionbyquorum/Quorum", name := "ceilMillis", desc := "(J)J" } : Jvm.MethodName) prog_3_method_6_code (4 : Nat) (Option.some Jvm.ClassFile.FieldType.long)]
set_option maxRecDepth 65536 in
theorem codes_eq : words1.filter isCode = codes1 := rfl
theorem w_codes : ∀ c ∈ words1.filter isCode, c.before args0 about1 = true := by
  rw [codes_eq]
  intro c hc
  simp only [codes1, List.mem_cons, List.not_mem_nil, or_false] at hc
  rcases hc with rfl | rfl
  · exact w_c0
  · exact w_c1
set_option maxRecDepth 65536 in
theorem w_t1 : words1.all (fun c => isCode c || c.before args0 about1) = true := by decide +kernel
theorem w_tables : (allAtoms (Jvm.Cond.code x code maxLocals ret :: tables_1)).before args0 about1 = true := by
  rw [allAtoms_all]
  show words1.all (fun c => c.before args0 about1) = true
  refine all_split ?_ w_codes
  rw [w_t1]
set_option maxRecDepth 65536 in
theorem w_case : (Jvm.Cond.and given_1 narrow_1).before args0 about1 = true := by decide +kernel
theorem w_applies : (headSpec (Jvm.Cond.code x code maxLocals ret :: tables_1) room_1).applies x e0.platform about1 = true :=
  (Spec.applies_iff w_frames).mpr ⟨w_running, w_runnable, w_alone, w_named, w_hears, w_ripe, w_room, w_tables⟩
theorem atStart : AtStart classFile x code maxLocals ret World_1 tables_1 room_1 Calls_1 rest_1 Pre_1 launch0 p0 e0 about1 theMethod args0 below0 :=
  ⟨lists_1, trivial, launch0.admits_env _ _ _, launch0.least_env, fairChoices_fair.cas, fairChoices_fair.clock, w_frames, w_args, w_heap, w_applies, trivial, trivial, w_case⟩
end start1
theorem witness_1 : WitnessClaimed_1 := ⟨start1.p0, start1.e0, start1.about1, start1.theMethod, start1.args0, start1.below0, start1.atStart⟩
end Jvm.Pilot.@@N@@
