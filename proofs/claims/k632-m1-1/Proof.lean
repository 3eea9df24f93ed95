import JvmDerived
import JvmDerived.Pilot.@@N@@Statement
import JvmDerived.Pilot.@@N@@Code
set_option linter.unusedVariables false
set_option linter.unusedSimpArgs false
namespace Jvm.RoadKit
open Sem ClassFile Op Lib Jvm.Stand Jvm.Free Jvm.LawKit
section New
variable {p : Program} {l : Launch} {e : Env} {R : Room} {s : State} {m : MethodId} {args : Array Value} {below : List Frame} {meth : Method} {c : Code} {T T' : State} {locs : List Loc} {cells slots : Nat}
/-- what a body leaves: the value, and what is known of the heap and of the places written -/
def QV (w : Option Value) (P : Heap → List Loc → Prop) (v : Option Value) (h : Heap) (L : List Loc) : Prop := v = w ∧ P h L
/-- a body that writes nothing -/
def PureP (n0 : Nat) (h0 : Heap) (h : Heap) (L : List Loc) : Prop := Fr n0 L ∧ h = h0
/-- from here the body returns w and leaves P -/
def Got (p : Program) (e : Env) (below : List Frame) (s : State) (P : Heap → List Loc → Prop) (ck cs : Nat) (w : Option Value) (T : State) (g : JFrame) : Prop :=
  ∃ s₂ L, Steps p.tables e below (T.setTop g) s₂ ∧ s₂.status = .running ∧ Ended s₂ below (.returned w) ∧ P s₂.heap L ∧ FrameEnd s (.returned w) s₂ L ck cs
variable {P : Heap → List Loc → Prop} {ck cs : Nat} {w : Option Value} {g g' : JFrame}
theorem Got.step (h : ∀ t, Steps p.tables e below (T'.setTop g') t → Steps p.tables e below (T.setTop g) t) (k : Got p e below s P ck cs w T' g') : Got p e below s P ck cs w T g := by
  obtain ⟨s₂, L, h1, r⟩ := k
  exact ⟨s₂, L, h _ h1, r⟩
theorem Got.hop (h : Steps p.tables e below (T.setTop g) (T'.setTop g')) (k : Got p e below s P ck cs w T' g') : Got p e below s P ck cs w T g := Got.step (fun _ q => h.trans q) k
theorem Got.ite {q : Prop} [Decidable q] {x y : Int32} (h1 : q → Got p e below s P ck cs (some (.int x)) T g) (h2 : ¬ q → Got p e below s P ck cs (some (.int y)) T g) : Got p e below s P ck cs (some (.int (if q then x else y))) T g := by
  by_cases h : q
  · rw [if_pos h]; exact h1 h
  · rw [if_neg h]; exact h2 h
theorem Got.iteJ {q : Prop} [Decidable q] {x y : Int64} (h1 : q → Got p e below s P ck cs (some (.long x)) T g) (h2 : ¬ q → Got p e below s P ck cs (some (.long y)) T g) : Got p e below s P ck cs (some (.long (if q then x else y))) T g := by
  by_cases h : q
  · rw [if_pos h]; exact h1 h
  · rw [if_neg h]; exact h2 h
theorem Got.iteR {q : Prop} [Decidable q] {x y : Addr} (h1 : q → Got p e below s P ck cs (some (.ref x)) T g) (h2 : ¬ q → Got p e below s P ck cs (some (.ref y)) T g) : Got p e below s P ck cs (some (.ref (if q then x else y))) T g := by
  by_cases h : q
  · rw [if_pos h]; exact h1 h
  · rw [if_neg h]; exact h2 h
theorem Got.body {n : Nat} {as' : Array Value} (hg : entryFrame m as' n = g) (k : Got p e below s P ck cs w T g) :
    ∃ s₂ o, Steps p.tables e below (T.setTop (entryFrame m as' n)) s₂ ∧ s₂.status = .running ∧ Ended s₂ below o ∧ ∃ v L, o = .returned v ∧ QV w P v s₂.heap L ∧ FrameEnd s o s₂ L ck cs := by
  obtain ⟨s₂, L, h1, h2, h3, h4, h5⟩ := k
  exact ⟨s₂, _, by rw [hg]; exact h1, h2, h3, w, L, rfl, ⟨rfl, h4⟩, h5⟩
theorem Got.retN (X : Stand p l e R s m args below meth c T locs cells slots) (hx : p.tables.exec = Jvm.exec) {t : FieldType} (hret : meth.sig.returnType = some t) (ht : t = .boolean ∨ t = .byte ∨ t = .char ∨ t = .short) (hlk : meth.locks = false) {pc : Nat} {Ls : Array Slot} {z y : Int32} {rest : List Value}
    (hd : decode c.code pc = .ok (.ireturn, 1)) (hy : nar t z = y) (hP : P T.heap locs) (hc : cells ≤ ck) (hs : slots ≤ cs) : Got p e below s P ck cs (some (.int y)) T (mkF m pc Ls (.int z :: rest)) := by
  subst hy
  obtain ⟨fs, hr, hrun, hended, hW, hsame⟩ := X.leave (v := some (.int (nar t z))) (fun h => by rw [hret] at h; cases h) hlk
  exact ⟨_, locs, Jvm.RoadKit.retN X hx hret ht hd hr, hrun, hended, hP, ⟨_, rfl⟩, hW, hsame.mono hc hs⟩
theorem Got.retI (X : Stand p l e R s m args below meth c T locs cells slots) (hx : p.tables.exec = Jvm.exec) (hret : meth.sig.returnType = some .int) (hlk : meth.locks = false) {pc : Nat} {Ls : Array Slot} {z y : Int32} {rest : List Value}
    (hd : decode c.code pc = .ok (.ireturn, 1)) (hy : z = y) (hP : P T.heap locs) (hc : cells ≤ ck) (hs : slots ≤ cs) : Got p e below s P ck cs (some (.int y)) T (mkF m pc Ls (.int z :: rest)) := by
  subst hy
  obtain ⟨fs, hr, hrun, hended, hW, hsame⟩ := X.leave (v := some (.int z)) (fun h => by rw [hret] at h; cases h) hlk
  exact ⟨_, locs, retOut X hx hret rfl (Or.inl ⟨rfl, Or.inl rfl, z, rfl⟩) hd hr, hrun, hended, hP, ⟨_, rfl⟩, hW, hsame.mono hc hs⟩
theorem Got.retJ (X : Stand p l e R s m args below meth c T locs cells slots) (hx : p.tables.exec = Jvm.exec) (hret : meth.sig.returnType = some .long) (hlk : meth.locks = false) {pc : Nat} {Ls : Array Slot} {z y : Int64}
    (hd : decode c.code pc = .ok (.lreturn, 1)) (hy : z = y) (hP : P T.heap locs) (hc : cells ≤ ck) (hs : slots ≤ cs) : Got p e below s P ck cs (some (.long y)) T (mkF m pc Ls [.long z]) := by
  subst hy
  obtain ⟨fs, hr, hrun, hended, hW, hsame⟩ := X.leave (v := some (.long z)) (fun h => by rw [hret] at h; cases h) hlk
  exact ⟨_, locs, X.lreturnOut hx hret hd hr, hrun, hended, hP, ⟨_, rfl⟩, hW, hsame.mono hc hs⟩
theorem Got.retV (X : Stand p l e R s m args below meth c T locs cells slots) (hx : p.tables.exec = Jvm.exec) (hret : meth.sig.returnType = none) (hlk : meth.locks = false) {pc : Nat} {Ls : Array Slot}
    (hd : decode c.code pc = .ok (.return_, 1)) (hP : P T.heap locs) (hc : cells ≤ ck) (hs : slots ≤ cs) : Got p e below s P ck cs none T (mkF m pc Ls []) := by
  obtain ⟨fs, hr, hrun, hended, hW, hsame⟩ := X.leave (v := none) (fun _ => rfl) hlk
  exact ⟨_, locs, X.returnOut hx hret hd hr, hrun, hended, hP, ⟨_, rfl⟩, hW, hsame.mono hc hs⟩
theorem Got.retA (X : Stand p l e R s m args below meth c T locs cells slots) (hx : p.tables.exec = Jvm.exec) {t : FieldType} (hret : meth.sig.returnType = some t) (ht : t.isReference = true) (hlk : meth.locks = false) {pc : Nat} {Ls : Array Slot} {a : Addr} {rest : List Value}
    (hd : decode c.code pc = .ok (.areturn, 1)) (hn : narrow t (.ref a) = .ref a) (hP : P T.heap locs) (hc : cells ≤ ck) (hs : slots ≤ cs) : Got p e below s P ck cs (some (.ref a)) T (mkF m pc Ls (.ref a :: rest)) := by
  obtain ⟨fs, hr, hrun, hended, hW, hsame⟩ := X.leave (v := some (.ref a)) (fun h => by rw [hret] at h; cases h) hlk
  exact ⟨_, locs, retOut X hx hret hn (Or.inr (Or.inr (Or.inr (Or.inr ⟨rfl, ht, rfl⟩)))) hd hr, hrun, hended, hP, ⟨_, rfl⟩, hW, hsame.mono hc hs⟩
theorem remJ {g : JFrame} {target : State} (X : Stand p l e R s m args below meth c T locs cells slots) (hx : p.tables.exec = Jvm.exec) (hg : g.method = m) {x y : Int64} {rest : List Value} (hd : decode c.code g.pc = .ok (.lrem, 1)) (hs : g.stack = .long y :: .long x :: rest) (hy : y ≠ 0)
    (hr : Steps p.tables e below (T.setTop { g with pc := g.pc + 1, stack := .long (x % y) :: rest }) target) : Steps p.tables e below (T.setTop g) target := by
  rw [← lrem_mod x y] at hr
  exact XS.lrem X.here hx hg hd hs hy hr
theorem one_unset : One .unset := Or.inl rfl
theorem one_int (x : Int32) : One (.val (.int x)) := Or.inr ⟨_, rfl, rfl⟩
theorem one_ref (x : Addr) : One (.val (.ref x)) := Or.inr ⟨_, rfl, rfl⟩
theorem narB (x : Int32) : nar .byte x.toInt8.toInt32 = x.toInt8.toInt32 := by simp [nar]
end New
end Jvm.RoadKit
namespace Jvm.Pilot.@@N@@
open Jvm Jvm.ClassFile Sem Op Lib Jvm.Free Jvm.Stand Jvm.LawKit Jvm.RoadKit Bundle Jvm.Pilot.@@N@@.Jvm.D
theorem own_i {i : Nat} (h : i < 2147483648) : (Int32.ofNat i).toInt = i := Int32.toInt_ofNat_of_lt h
theorem own_n32 {i : Nat} (h : i < 2147483648) : (Int32.ofNat i).toNatClampNeg = i := by rw [Int32.toNatClampNeg, own_i h]; rfl
theorem own_one (i : Nat) : Int32.ofNat i + (1 : Int32) = Int32.ofNat (i + 1) := (Int32.ofNat_add i 1).symm
theorem own_rdw (ws : List Int64) {n : Nat} (h : n < 2147483648) : (ws.map Value.long).getD (Int32.ofNat n).toNatClampNeg (.long (0 : Int64)) = .long (ws.getD n 0) := by
  rw [own_n32 h, List.getD_eq_getElem?_getD, List.getD_eq_getElem?_getD, List.getElem?_map]
  cases ws[n]? <;> rfl

def f3 (p0 : Int32) (p1 : Int32)  : Int32 := (if p1 < p0 then p1 else p0)
theorem ef_3 (m : MethodId) (x0 : Int32) (x1 : Int32) : entryFrame m #[(.int x0), (.int x1)] 2 = mkF m 0 #[.val (.int x0), .val (.int x1)] [] := by first | (simp [entryFrame, mkF, argsToLocals, Value.category]; done) | rfl
theorem d3_0 : decode jdk_29_method_69_code 0 = .ok (.iload_n 0, 1) := by decide +kernel
theorem d3_1 : decode jdk_29_method_69_code 1 = .ok (.iload_n 1, 1) := by decide +kernel
theorem d3_2 : decode jdk_29_method_69_code 2 = .ok (.if_icmp .gt 7, 3) := by decide +kernel
theorem d3_5 : decode jdk_29_method_69_code 5 = .ok (.iload_n 0, 1) := by decide +kernel
theorem d3_6 : decode jdk_29_method_69_code 6 = .ok (.goto 4, 3) := by decide +kernel
theorem d3_9 : decode jdk_29_method_69_code 9 = .ok (.iload_n 1, 1) := by decide +kernel
theorem d3_10 : decode jdk_29_method_69_code 10 = .ok (.ireturn, 1) := by decide +kernel
set_option maxRecDepth 65536 in
set_option maxHeartbeats 40000000 in
theorem rm3 (l : Launch) (Z : State) (a0 : Array Value) (hw : ∀ d ∈ tables_1, d.before a0 Z = true) (ws : List Jvm.Cond) (p0 : Int32) (p1 : Int32)  (h0 : Heap) (n0 : Nat) (Z0 : n0 ≤ h0.size)  :
    MetFree l (⟨"java/lang/Math", "min", "(II)I"⟩ : MethodName) (head1 (Jvm.Cond.code (⟨"java/lang/Math", "min", "(II)I"⟩ : MethodName) jdk_29_method_69_code 2 (some .int) :: ws) ({ frames := 0, cells := 0, slots := 0, locals := 0 } : Room)) (fun a U => a = #[(.int p0), (.int p1)] ∧ Z.Warmed39 U.vm ∧ U.heap = h0) (fun _ _ _ _ _ => True) (fun _ U o U' => ∃ v L, o = .returned v ∧ QV (some (.int (f3 p0 p1))) (PureP n0 h0) v U'.heap L ∧ FrameEnd U o U' L ({ frames := 0, cells := 0, slots := 0, locals := 0 } : Room).cells ({ frames := 0, cells := 0, slots := 0, locals := 0 } : Room).slots) := by
  refine MetFree.of_bodySF (Jvm.Free.JP.mathPlain rfl (by decide +kernel)) hisR ?_
  intro p e s m args below meth c s₁ Bd hml0 hP hK
  obtain ⟨rfl, hZ, hh⟩ := hP
  have hx := Bd.exec
  have hby := Bd.bytes
  have hml : c.maxLocals = 2 := hml0
  have hown : s.vm.findClass "java/lang/Math" = some m.cls := findClass_of_methodNamed Bd.named
  have hnm := (name_of_methodNamed Bd.named Bd.method).1
  have hlk : meth.locks = false := BodyLoose.notSynchronized Bd
  have X0 : Stand p l e ({ frames := 0, cells := 0, slots := 0, locals := 0 } : Room) s m #[(.int p0), (.int p1)] below meth c s₁ [] 0 0 := Stand.of_body Bd
  have e0 : s₁.heap = h0 := by rw [← hh, Bd.state]; rfl
  have N0 := Fr.nil n0
  refine Got.body (ef_3 m p0 p1) ?_
  refine Got.step (T' := s₁) (g' := (mkF m 2 #[.val (.int p0), .val (.int p1)] [(.int p1), (.int p0)])) (fun tq kt => ?_) ?_
  · show Steps p.tables e below (s₁.setTop (mkF m 0 #[.val (.int p0), .val (.int p1)] [])) _
    refine XS.iloadN X0.here hx rfl (hb hby d3_0) rfl ?_
    show Steps p.tables e below (s₁.setTop (mkF m 1 #[.val (.int p0), .val (.int p1)] [(.int p0)])) _
    refine XS.iloadN X0.here hx rfl (hb hby d3_1) rfl ?_
    exact kt
  refine Got.ite (q := (p1 < p0)) (fun hc1 => ?_) (fun hc1 => ?_)
  · refine Got.step (T' := s₁) (g' := (mkF m 10 #[.val (.int p0), .val (.int p1)] [(.int p1)])) (fun tq kt => ?_) ?_
    · show Steps p.tables e below (s₁.setTop (mkF m 2 #[.val (.int p0), .val (.int p1)] [(.int p1), (.int p0)])) _
      refine XS.icmpYes X0.here hx rfl (pc0 := 2) (pc' := 9) rfl (hb hby d3_2) rfl (XT.ii_gt_t hc1) (by decide) (by decide) ?_
      show Steps p.tables e below (s₁.setTop (mkF m 9 #[.val (.int p0), .val (.int p1)] [])) _
      refine XS.iloadN X0.here hx rfl (hb hby d3_9) rfl ?_
      exact kt
    exact Got.retI (y := p1) X0 hx Bd.returns hlk (hb hby d3_10) rfl ⟨N0, e0⟩ (by decide) (by decide)
  · refine Got.step (T' := s₁) (g' := (mkF m 10 #[.val (.int p0), .val (.int p1)] [(.int p0)])) (fun tq kt => ?_) ?_
    · show Steps p.tables e below (s₁.setTop (mkF m 2 #[.val (.int p0), .val (.int p1)] [(.int p1), (.int p0)])) _
      refine XS.icmpNo X0.here hx rfl (hb hby d3_2) rfl (XT.ii_gt_f hc1) ?_
      show Steps p.tables e below (s₁.setTop (mkF m 5 #[.val (.int p0), .val (.int p1)] [])) _
      refine XS.iloadN X0.here hx rfl (hb hby d3_5) rfl ?_
      show Steps p.tables e below (s₁.setTop (mkF m 6 #[.val (.int p0), .val (.int p1)] [(.int p0)])) _
      refine XS.goto X0.here hx rfl (pc0 := 6) (pc' := 10) rfl (hb hby d3_6) (by decide) (by decide) ?_
      exact kt
    exact Got.retI (y := p0) X0 hx Bd.returns hlk (hb hby d3_10) rfl ⟨N0, e0⟩ (by decide) (by decide)
def f4 (p0 : Int32) (p1 : Int32)  : Int32 := (if p0 < p1 then p1 else p0)
theorem ef_4 (m : MethodId) (x0 : Int32) (x1 : Int32) : entryFrame m #[(.int x0), (.int x1)] 2 = mkF m 0 #[.val (.int x0), .val (.int x1)] [] := by first | (simp [entryFrame, mkF, argsToLocals, Value.category]; done) | rfl
theorem d4_0 : decode jdk_29_method_65_code 0 = .ok (.iload_n 0, 1) := by decide +kernel
theorem d4_1 : decode jdk_29_method_65_code 1 = .ok (.iload_n 1, 1) := by decide +kernel
theorem d4_2 : decode jdk_29_method_65_code 2 = .ok (.if_icmp .lt 7, 3) := by decide +kernel
theorem d4_5 : decode jdk_29_method_65_code 5 = .ok (.iload_n 0, 1) := by decide +kernel
theorem d4_6 : decode jdk_29_method_65_code 6 = .ok (.goto 4, 3) := by decide +kernel
theorem d4_9 : decode jdk_29_method_65_code 9 = .ok (.iload_n 1, 1) := by decide +kernel
theorem d4_10 : decode jdk_29_method_65_code 10 = .ok (.ireturn, 1) := by decide +kernel
set_option maxRecDepth 65536 in
set_option maxHeartbeats 40000000 in
theorem rm4 (l : Launch) (Z : State) (a0 : Array Value) (hw : ∀ d ∈ tables_1, d.before a0 Z = true) (ws : List Jvm.Cond) (p0 : Int32) (p1 : Int32)  (h0 : Heap) (n0 : Nat) (Z0 : n0 ≤ h0.size)  :
    MetFree l (⟨"java/lang/Math", "max", "(II)I"⟩ : MethodName) (head1 (Jvm.Cond.code (⟨"java/lang/Math", "max", "(II)I"⟩ : MethodName) jdk_29_method_65_code 2 (some .int) :: ws) ({ frames := 0, cells := 0, slots := 0, locals := 0 } : Room)) (fun a U => a = #[(.int p0), (.int p1)] ∧ Z.Warmed39 U.vm ∧ U.heap = h0) (fun _ _ _ _ _ => True) (fun _ U o U' => ∃ v L, o = .returned v ∧ QV (some (.int (f4 p0 p1))) (PureP n0 h0) v U'.heap L ∧ FrameEnd U o U' L ({ frames := 0, cells := 0, slots := 0, locals := 0 } : Room).cells ({ frames := 0, cells := 0, slots := 0, locals := 0 } : Room).slots) := by
  refine MetFree.of_bodySF (Jvm.Free.JP.mathPlain rfl (by decide +kernel)) hisR ?_
  intro p e s m args below meth c s₁ Bd hml0 hP hK
  obtain ⟨rfl, hZ, hh⟩ := hP
  have hx := Bd.exec
  have hby := Bd.bytes
  have hml : c.maxLocals = 2 := hml0
  have hown : s.vm.findClass "java/lang/Math" = some m.cls := findClass_of_methodNamed Bd.named
  have hnm := (name_of_methodNamed Bd.named Bd.method).1
  have hlk : meth.locks = false := BodyLoose.notSynchronized Bd
  have X0 : Stand p l e ({ frames := 0, cells := 0, slots := 0, locals := 0 } : Room) s m #[(.int p0), (.int p1)] below meth c s₁ [] 0 0 := Stand.of_body Bd
  have e0 : s₁.heap = h0 := by rw [← hh, Bd.state]; rfl
  have N0 := Fr.nil n0
  refine Got.body (ef_4 m p0 p1) ?_
  refine Got.step (T' := s₁) (g' := (mkF m 2 #[.val (.int p0), .val (.int p1)] [(.int p1), (.int p0)])) (fun tq kt => ?_) ?_
  · show Steps p.tables e below (s₁.setTop (mkF m 0 #[.val (.int p0), .val (.int p1)] [])) _
    refine XS.iloadN X0.here hx rfl (hb hby d4_0) rfl ?_
    show Steps p.tables e below (s₁.setTop (mkF m 1 #[.val (.int p0), .val (.int p1)] [(.int p0)])) _
    refine XS.iloadN X0.here hx rfl (hb hby d4_1) rfl ?_
    exact kt
  refine Got.ite (q := (p0 < p1)) (fun hc2 => ?_) (fun hc2 => ?_)
  · refine Got.step (T' := s₁) (g' := (mkF m 10 #[.val (.int p0), .val (.int p1)] [(.int p1)])) (fun tq kt => ?_) ?_
    · show Steps p.tables e below (s₁.setTop (mkF m 2 #[.val (.int p0), .val (.int p1)] [(.int p1), (.int p0)])) _
      refine XS.icmpYes X0.here hx rfl (pc0 := 2) (pc' := 9) rfl (hb hby d4_2) rfl (XT.ii_lt_t hc2) (by decide) (by decide) ?_
      show Steps p.tables e below (s₁.setTop (mkF m 9 #[.val (.int p0), .val (.int p1)] [])) _
      refine XS.iloadN X0.here hx rfl (hb hby d4_9) rfl ?_
      exact kt
    exact Got.retI (y := p1) X0 hx Bd.returns hlk (hb hby d4_10) rfl ⟨N0, e0⟩ (by decide) (by decide)
  · refine Got.step (T' := s₁) (g' := (mkF m 10 #[.val (.int p0), .val (.int p1)] [(.int p0)])) (fun tq kt => ?_) ?_
    · show Steps p.tables e below (s₁.setTop (mkF m 2 #[.val (.int p0), .val (.int p1)] [(.int p1), (.int p0)])) _
      refine XS.icmpNo X0.here hx rfl (hb hby d4_2) rfl (XT.ii_lt_f hc2) ?_
      show Steps p.tables e below (s₁.setTop (mkF m 5 #[.val (.int p0), .val (.int p1)] [])) _
      refine XS.iloadN X0.here hx rfl (hb hby d4_5) rfl ?_
      show Steps p.tables e below (s₁.setTop (mkF m 6 #[.val (.int p0), .val (.int p1)] [(.int p0)])) _
      refine XS.goto X0.here hx rfl (pc0 := 6) (pc' := 10) rfl (hb hby d4_6) (by decide) (by decide) ?_
      exact kt
    exact Got.retI (y := p0) X0 hx Bd.returns hlk (hb hby d4_10) rfl ⟨N0, e0⟩ (by decide) (by decide)
def f5 (p0 : Int32)  : Int64 := (((p0.toInt64) &&& (255 : Int64)) * (72340172838076673 : Int64))
theorem ef_5 (m : MethodId) (x0 : Int32) : entryFrame m #[(.int x0)] 1 = mkF m 0 #[.val (.int x0)] [] := by first | (simp [entryFrame, mkF, argsToLocals, Value.category]; done) | rfl
theorem pn_0 : plainName "com/example/sidestep/sidestep/Starts" = true := by first | (simp [plainName, overriddenIn]; done) | decide +kernel
theorem d5_0 : decode prog_6_method_22_code 0 = .ok (.iload_n 0, 1) := by decide +kernel
theorem d5_1 : decode prog_6_method_22_code 1 = .ok (.i2l, 1) := by decide +kernel
theorem d5_2 : decode prog_6_method_22_code 2 = .ok (.ldc2_w 93, 3) := by decide +kernel
theorem d5_5 : decode prog_6_method_22_code 5 = .ok (.land, 1) := by decide +kernel
theorem d5_6 : decode prog_6_method_22_code 6 = .ok (.ldc2_w 248, 3) := by decide +kernel
theorem d5_9 : decode prog_6_method_22_code 9 = .ok (.lmul, 1) := by decide +kernel
theorem d5_10 : decode prog_6_method_22_code 10 = .ok (.lreturn, 1) := by decide +kernel
set_option maxRecDepth 65536 in
set_option maxHeartbeats 40000000 in
theorem rm5 (l : Launch) (Z : State) (a0 : Array Value) (hw : ∀ d ∈ tables_1, d.before a0 Z = true) (ws : List Jvm.Cond) (p0 : Int32)  (h0 : Heap) (n0 : Nat) (Z0 : n0 ≤ h0.size)  :
    MetFree l (⟨"com/example/sidestep/sidestep/Starts", "everyByte", "(I)J"⟩ : MethodName) (head1 (Jvm.Cond.code (⟨"com/example/sidestep/sidestep/Starts", "everyByte", "(I)J"⟩ : MethodName) prog_6_method_22_code 1 (some .long) :: ws) ({ frames := 0, cells := 0, slots := 0, locals := 0 } : Room)) (fun a U => a = #[(.int p0)] ∧ Z.Warmed39 U.vm ∧ U.heap = h0) (fun _ _ _ _ _ => True) (fun _ U o U' => ∃ v L, o = .returned v ∧ QV (some (.long (f5 p0))) (PureP n0 h0) v U'.heap L ∧ FrameEnd U o U' L ({ frames := 0, cells := 0, slots := 0, locals := 0 } : Room).cells ({ frames := 0, cells := 0, slots := 0, locals := 0 } : Room).slots) := by
  refine MetFree.of_bodySF (plainFor_of_name pn_0) hisR ?_
  intro p e s m args below meth c s₁ Bd hml0 hP hK
  obtain ⟨rfl, hZ, hh⟩ := hP
  have hx := Bd.exec
  have hby := Bd.bytes
  have hml : c.maxLocals = 1 := hml0
  have hown : s.vm.findClass "com/example/sidestep/sidestep/Starts" = some m.cls := findClass_of_methodNamed Bd.named
  have hnm := (name_of_methodNamed Bd.named Bd.method).1
  have hlk : meth.locks = false := BodyLoose.notSynchronized Bd
  have X0 : Stand p l e ({ frames := 0, cells := 0, slots := 0, locals := 0 } : Room) s m #[(.int p0)] below meth c s₁ [] 0 0 := Stand.of_body Bd
  have e0 : s₁.heap = h0 := by rw [← hh, Bd.state]; rfl
  have N0 := Fr.nil n0
  refine Got.body (ef_5 m p0) ?_
  refine Got.step (T' := s₁) (g' := (mkF m 10 #[.val (.int p0)] [(.long (((p0.toInt64) &&& (255 : Int64)) * (72340172838076673 : Int64)))])) (fun tq kt => ?_) ?_
  · show Steps p.tables e below (s₁.setTop (mkF m 0 #[.val (.int p0)] [])) _
    refine XS.iloadN X0.here hx rfl (hb hby d5_0) rfl ?_
    show Steps p.tables e below (s₁.setTop (mkF m 1 #[.val (.int p0)] [(.int p0)])) _
    refine XS.i2l X0.here hx rfl (hb hby d5_1) rfl ?_
    show Steps p.tables e below (s₁.setTop (mkF m 2 #[.val (.int p0)] [(.long (p0.toInt64))])) _
    refine X0.ldc2J hx hown (mvT hZ (hw _ (List.mem_of_getElem? (i := 46) rfl))) rfl (hb hby d5_2) ?_
    show Steps p.tables e below (s₁.setTop (mkF m 5 #[.val (.int p0)] [(.long (255 : Int64)), (.long (p0.toInt64))])) _
    refine XS.land X0.here hx rfl (hb hby d5_5) rfl ?_
    show Steps p.tables e below (s₁.setTop (mkF m 6 #[.val (.int p0)] [(.long ((p0.toInt64) &&& (255 : Int64)))])) _
    refine X0.ldc2J hx hown (mvT hZ (hw _ (List.mem_of_getElem? (i := 47) rfl))) rfl (hb hby d5_6) ?_
    show Steps p.tables e below (s₁.setTop (mkF m 9 #[.val (.int p0)] [(.long (72340172838076673 : Int64)), (.long ((p0.toInt64) &&& (255 : Int64)))])) _
    refine XS.lmul X0.here hx rfl (hb hby d5_9) rfl ?_
    exact kt
  exact Got.retJ (y := (((p0.toInt64) &&& (255 : Int64)) * (72340172838076673 : Int64))) X0 hx Bd.returns hlk (hb hby d5_10) rfl ⟨N0, e0⟩ (by decide) (by decide)
def f9 (q0 : Int64) (q1 : Int64)  : Int64 := (if q1 < q0 then q1 else q0)
theorem ef_9 (m : MethodId) (x0 : Int64) (x1 : Int64) : entryFrame m #[(.long x0), (.long x1)] 4 = mkF m 0 #[.val (.long x0), .second, .val (.long x1), .second] [] := by first | (simp [entryFrame, mkF, argsToLocals, Value.category]; done) | rfl
theorem d9_0 : decode jdk_29_method_70_code 0 = .ok (.lload_n 0, 1) := by decide +kernel
theorem d9_1 : decode jdk_29_method_70_code 1 = .ok (.lload_n 2, 1) := by decide +kernel
theorem d9_2 : decode jdk_29_method_70_code 2 = .ok (.lcmp, 1) := by decide +kernel
theorem d9_3 : decode jdk_29_method_70_code 3 = .ok (.ifCond .gt 7, 3) := by decide +kernel
theorem d9_6 : decode jdk_29_method_70_code 6 = .ok (.lload_n 0, 1) := by decide +kernel
theorem d9_7 : decode jdk_29_method_70_code 7 = .ok (.goto 4, 3) := by decide +kernel
theorem d9_10 : decode jdk_29_method_70_code 10 = .ok (.lload_n 2, 1) := by decide +kernel
theorem d9_11 : decode jdk_29_method_70_code 11 = .ok (.lreturn, 1) := by decide +kernel
set_option maxRecDepth 65536 in
set_option maxHeartbeats 40000000 in
theorem rm9 (l : Launch) (Z : State) (a0 : Array Value) (hw : ∀ d ∈ tables_1, d.before a0 Z = true) (ws : List Jvm.Cond) (q0 : Int64) (q1 : Int64)  (h0 : Heap) (n0 : Nat) (Z0 : n0 ≤ h0.size)  :
    MetFree l (⟨"java/lang/Math", "min", "(JJ)J"⟩ : MethodName) (head1 (Jvm.Cond.code (⟨"java/lang/Math", "min", "(JJ)J"⟩ : MethodName) jdk_29_method_70_code 4 (some .long) :: ws) ({ frames := 0, cells := 0, slots := 0, locals := 0 } : Room)) (fun a U => a = #[(.long q0), (.long q1)] ∧ Z.Warmed39 U.vm ∧ U.heap = h0) (fun _ _ _ _ _ => True) (fun _ U o U' => ∃ v L, o = .returned v ∧ QV (some (.long (f9 q0 q1))) (PureP n0 h0) v U'.heap L ∧ FrameEnd U o U' L ({ frames := 0, cells := 0, slots := 0, locals := 0 } : Room).cells ({ frames := 0, cells := 0, slots := 0, locals := 0 } : Room).slots) := by
  refine MetFree.of_bodySF (Jvm.Free.JP.mathPlain rfl (by decide +kernel)) hisR ?_
  intro p e s m args below meth c s₁ Bd hml0 hP hK
  obtain ⟨rfl, hZ, hh⟩ := hP
  have hx := Bd.exec
  have hby := Bd.bytes
  have hml : c.maxLocals = 4 := hml0
  have hown : s.vm.findClass "java/lang/Math" = some m.cls := findClass_of_methodNamed Bd.named
  have hnm := (name_of_methodNamed Bd.named Bd.method).1
  have hlk : meth.locks = false := BodyLoose.notSynchronized Bd
  have X0 : Stand p l e ({ frames := 0, cells := 0, slots := 0, locals := 0 } : Room) s m #[(.long q0), (.long q1)] below meth c s₁ [] 0 0 := Stand.of_body Bd
  have e0 : s₁.heap = h0 := by rw [← hh, Bd.state]; rfl
  have N0 := Fr.nil n0
  refine Got.body (ef_9 m q0 q1) ?_
  refine Got.step (T' := s₁) (g' := (mkF m 3 #[.val (.long q0), .second, .val (.long q1), .second] [(.int (XT.cmpL q0 q1))])) (fun tq kt => ?_) ?_
  · show Steps p.tables e below (s₁.setTop (mkF m 0 #[.val (.long q0), .second, .val (.long q1), .second] [])) _
    refine XS.lloadN X0.here hx rfl (hb hby d9_0) rfl ?_
    show Steps p.tables e below (s₁.setTop (mkF m 1 #[.val (.long q0), .second, .val (.long q1), .second] [(.long q0)])) _
    refine XS.lloadN X0.here hx rfl (hb hby d9_1) rfl ?_
    show Steps p.tables e below (s₁.setTop (mkF m 2 #[.val (.long q0), .second, .val (.long q1), .second] [(.long q1), (.long q0)])) _
    refine XT.lcmp X0.here hx rfl (hb hby d9_2) rfl ?_
    exact kt
  refine Got.iteJ (q := (q1 < q0)) (fun hc3 => ?_) (fun hc3 => ?_)
  · refine Got.step (T' := s₁) (g' := (mkF m 11 #[.val (.long q0), .second, .val (.long q1), .second] [(.long q1)])) (fun tq kt => ?_) ?_
    · show Steps p.tables e below (s₁.setTop (mkF m 3 #[.val (.long q0), .second, .val (.long q1), .second] [(.int (XT.cmpL q0 q1))])) _
      refine XS.ifYes X0.here hx rfl (pc0 := 3) (pc' := 10) rfl (hb hby d9_3) rfl (XT.ll_gt_t hc3) (by decide) (by decide) ?_
      show Steps p.tables e below (s₁.setTop (mkF m 10 #[.val (.long q0), .second, .val (.long q1), .second] [])) _
      refine XS.lloadN X0.here hx rfl (hb hby d9_10) rfl ?_
      exact kt
    exact Got.retJ (y := q1) X0 hx Bd.returns hlk (hb hby d9_11) rfl ⟨N0, e0⟩ (by decide) (by decide)
  · refine Got.step (T' := s₁) (g' := (mkF m 11 #[.val (.long q0), .second, .val (.long q1), .second] [(.long q0)])) (fun tq kt => ?_) ?_
    · show Steps p.tables e below (s₁.setTop (mkF m 3 #[.val (.long q0), .second, .val (.long q1), .second] [(.int (XT.cmpL q0 q1))])) _
      refine XS.ifNo X0.here hx rfl (hb hby d9_3) rfl (XT.ll_gt_f hc3) ?_
      show Steps p.tables e below (s₁.setTop (mkF m 6 #[.val (.long q0), .second, .val (.long q1), .second] [])) _
      refine XS.lloadN X0.here hx rfl (hb hby d9_6) rfl ?_
      show Steps p.tables e below (s₁.setTop (mkF m 7 #[.val (.long q0), .second, .val (.long q1), .second] [(.long q0)])) _
      refine XS.goto X0.here hx rfl (pc0 := 7) (pc' := 11) rfl (hb hby d9_7) (by decide) (by decide) ?_
      exact kt
    exact Got.retJ (y := q0) X0 hx Bd.returns hlk (hb hby d9_11) rfl ⟨N0, e0⟩ (by decide) (by decide)
def f11 (q0 : Int64) (q1 : Int64)  : Int64 := (if q0 < q1 then q1 else q0)
theorem ef_11 (m : MethodId) (x0 : Int64) (x1 : Int64) : entryFrame m #[(.long x0), (.long x1)] 4 = mkF m 0 #[.val (.long x0), .second, .val (.long x1), .second] [] := by first | (simp [entryFrame, mkF, argsToLocals, Value.category]; done) | rfl
theorem d11_0 : decode jdk_29_method_66_code 0 = .ok (.lload_n 0, 1) := by decide +kernel
theorem d11_1 : decode jdk_29_method_66_code 1 = .ok (.lload_n 2, 1) := by decide +kernel
theorem d11_2 : decode jdk_29_method_66_code 2 = .ok (.lcmp, 1) := by decide +kernel
theorem d11_3 : decode jdk_29_method_66_code 3 = .ok (.ifCond .lt 7, 3) := by decide +kernel
theorem d11_6 : decode jdk_29_method_66_code 6 = .ok (.lload_n 0, 1) := by decide +kernel
theorem d11_7 : decode jdk_29_method_66_code 7 = .ok (.goto 4, 3) := by decide +kernel
theorem d11_10 : decode jdk_29_method_66_code 10 = .ok (.lload_n 2, 1) := by decide +kernel
theorem d11_11 : decode jdk_29_method_66_code 11 = .ok (.lreturn, 1) := by decide +kernel
set_option maxRecDepth 65536 in
set_option maxHeartbeats 40000000 in
theorem rm11 (l : Launch) (Z : State) (a0 : Array Value) (hw : ∀ d ∈ tables_1, d.before a0 Z = true) (ws : List Jvm.Cond) (q0 : Int64) (q1 : Int64)  (h0 : Heap) (n0 : Nat) (Z0 : n0 ≤ h0.size)  :
    MetFree l (⟨"java/lang/Math", "max", "(JJ)J"⟩ : MethodName) (head1 (Jvm.Cond.code (⟨"java/lang/Math", "max", "(JJ)J"⟩ : MethodName) jdk_29_method_66_code 4 (some .long) :: ws) ({ frames := 0, cells := 0, slots := 0, locals := 0 } : Room)) (fun a U => a = #[(.long q0), (.long q1)] ∧ Z.Warmed39 U.vm ∧ U.heap = h0) (fun _ _ _ _ _ => True) (fun _ U o U' => ∃ v L, o = .returned v ∧ QV (some (.long (f11 q0 q1))) (PureP n0 h0) v U'.heap L ∧ FrameEnd U o U' L ({ frames := 0, cells := 0, slots := 0, locals := 0 } : Room).cells ({ frames := 0, cells := 0, slots := 0, locals := 0 } : Room).slots) := by
  refine MetFree.of_bodySF (Jvm.Free.JP.mathPlain rfl (by decide +kernel)) hisR ?_
  intro p e s m args below meth c s₁ Bd hml0 hP hK
  obtain ⟨rfl, hZ, hh⟩ := hP
  have hx := Bd.exec
  have hby := Bd.bytes
  have hml : c.maxLocals = 4 := hml0
  have hown : s.vm.findClass "java/lang/Math" = some m.cls := findClass_of_methodNamed Bd.named
  have hnm := (name_of_methodNamed Bd.named Bd.method).1
  have hlk : meth.locks = false := BodyLoose.notSynchronized Bd
  have X0 : Stand p l e ({ frames := 0, cells := 0, slots := 0, locals := 0 } : Room) s m #[(.long q0), (.long q1)] below meth c s₁ [] 0 0 := Stand.of_body Bd
  have e0 : s₁.heap = h0 := by rw [← hh, Bd.state]; rfl
  have N0 := Fr.nil n0
  refine Got.body (ef_11 m q0 q1) ?_
  refine Got.step (T' := s₁) (g' := (mkF m 3 #[.val (.long q0), .second, .val (.long q1), .second] [(.int (XT.cmpL q0 q1))])) (fun tq kt => ?_) ?_
  · show Steps p.tables e below (s₁.setTop (mkF m 0 #[.val (.long q0), .second, .val (.long q1), .second] [])) _
    refine XS.lloadN X0.here hx rfl (hb hby d11_0) rfl ?_
    show Steps p.tables e below (s₁.setTop (mkF m 1 #[.val (.long q0), .second, .val (.long q1), .second] [(.long q0)])) _
    refine XS.lloadN X0.here hx rfl (hb hby d11_1) rfl ?_
    show Steps p.tables e below (s₁.setTop (mkF m 2 #[.val (.long q0), .second, .val (.long q1), .second] [(.long q1), (.long q0)])) _
    refine XT.lcmp X0.here hx rfl (hb hby d11_2) rfl ?_
    exact kt
  refine Got.iteJ (q := (q0 < q1)) (fun hc4 => ?_) (fun hc4 => ?_)
  · refine Got.step (T' := s₁) (g' := (mkF m 11 #[.val (.long q0), .second, .val (.long q1), .second] [(.long q1)])) (fun tq kt => ?_) ?_
    · show Steps p.tables e below (s₁.setTop (mkF m 3 #[.val (.long q0), .second, .val (.long q1), .second] [(.int (XT.cmpL q0 q1))])) _
      refine XS.ifYes X0.here hx rfl (pc0 := 3) (pc' := 10) rfl (hb hby d11_3) rfl (XT.ll_lt_t hc4) (by decide) (by decide) ?_
      show Steps p.tables e below (s₁.setTop (mkF m 10 #[.val (.long q0), .second, .val (.long q1), .second] [])) _
      refine XS.lloadN X0.here hx rfl (hb hby d11_10) rfl ?_
      exact kt
    exact Got.retJ (y := q1) X0 hx Bd.returns hlk (hb hby d11_11) rfl ⟨N0, e0⟩ (by decide) (by decide)
  · refine Got.step (T' := s₁) (g' := (mkF m 11 #[.val (.long q0), .second, .val (.long q1), .second] [(.long q0)])) (fun tq kt => ?_) ?_
    · show Steps p.tables e below (s₁.setTop (mkF m 3 #[.val (.long q0), .second, .val (.long q1), .second] [(.int (XT.cmpL q0 q1))])) _
      refine XS.ifNo X0.here hx rfl (hb hby d11_3) rfl (XT.ll_lt_f hc4) ?_
      show Steps p.tables e below (s₁.setTop (mkF m 6 #[.val (.long q0), .second, .val (.long q1), .second] [])) _
      refine XS.lloadN X0.here hx rfl (hb hby d11_6) rfl ?_
      show Steps p.tables e below (s₁.setTop (mkF m 7 #[.val (.long q0), .second, .val (.long q1), .second] [(.long q0)])) _
      refine XS.goto X0.here hx rfl (pc0 := 7) (pc' := 11) rfl (hb hby d11_7) (by decide) (by decide) ?_
      exact kt
    exact Got.retJ (y := q0) X0 hx Bd.returns hlk (hb hby d11_11) rfl ⟨N0, e0⟩ (by decide) (by decide)
theorem own_min (a b : Int32) : (f3 a b).toInt ≤ a.toInt ∧ (f3 a b).toInt ≤ b.toInt ∧ ((f3 a b).toInt = a.toInt ∨ (f3 a b).toInt = b.toInt) := by
  unfold f3
  split
  · rename_i h; rw [Int32.lt_iff_toInt_lt] at h; omega
  · rename_i h; rw [Int32.lt_iff_toInt_lt] at h; omega
theorem own_max (a b : Int32) : a.toInt ≤ (f4 a b).toInt ∧ b.toInt ≤ (f4 a b).toInt ∧ ((f4 a b).toInt = a.toInt ∨ (f4 a b).toInt = b.toInt) := by
  unfold f4
  split
  · rename_i h; rw [Int32.lt_iff_toInt_lt] at h; omega
  · rename_i h; rw [Int32.lt_iff_toInt_lt] at h; omega
theorem own_sub {N : Nat} (hN : 1 ≤ N ∧ N ≤ 9) : (Int32.ofNat N - (1 : Int32)).toInt = (N : Int) - 1 := by
  have z : (1 : Int32).toInt = 1 := rfl
  have e := own_i (i := N) (by omega)
  rw [XT.sub32 (by unfold XT.fits32; omega), e, z]
theorem own_at {N : Nat} {x : Int32} (hN : 1 ≤ N ∧ N ≤ 9) (h0 : 0 ≤ x.toInt) (h1 : x.toInt < N) : ¬ x < 0 ∧ x < Int32.ofNat N := by
  have z : (0 : Int32).toInt = 0 := rfl
  have e := own_i (i := N) (by omega)
  rw [Int32.lt_iff_toInt_lt, Int32.lt_iff_toInt_lt, z, e]; omega
theorem own_at0 {N : Nat} (hN : 1 ≤ N ∧ N ≤ 9) : ¬ (0 : Int32) < 0 ∧ (0 : Int32) < Int32.ofNat N := own_at hN (by decide) (by have z : (0 : Int32).toInt = 0 := rfl; omega)
theorem own_atl {N : Nat} (hN : 1 ≤ N ∧ N ≤ 9) : ¬ (Int32.ofNat N - (1 : Int32)) < 0 ∧ (Int32.ofNat N - (1 : Int32)) < Int32.ofNat N := by
  have s := own_sub hN
  exact own_at hN (by omega) (by omega)
theorem own_at1 {N : Nat} (hN : 1 ≤ N ∧ N ≤ 9) : ¬ (f3 (1 : Int32) (Int32.ofNat N - (1 : Int32))) < 0 ∧ (f3 (1 : Int32) (Int32.ofNat N - (1 : Int32))) < Int32.ofNat N := by
  have s := own_sub hN
  have m := own_min (1 : Int32) (Int32.ofNat N - (1 : Int32))
  have z : (1 : Int32).toInt = 1 := rfl
  exact own_at hN (by omega) (by omega)
theorem own_at2 {N : Nat} (hN : 1 ≤ N ∧ N ≤ 9) : ¬ (f3 (2 : Int32) (Int32.ofNat N - (1 : Int32))) < 0 ∧ (f3 (2 : Int32) (Int32.ofNat N - (1 : Int32))) < Int32.ofNat N := by
  have s := own_sub hN
  have m := own_min (2 : Int32) (Int32.ofNat N - (1 : Int32))
  have z : (2 : Int32).toInt = 2 := rfl
  exact own_at hN (by omega) (by omega)
theorem own_atp {N : Nat} (hN : 1 ≤ N ∧ N ≤ 9) : ¬ (f4 (0 : Int32) ((Int32.ofNat N - (1 : Int32)) - (1 : Int32))) < 0 ∧ (f4 (0 : Int32) ((Int32.ofNat N - (1 : Int32)) - (1 : Int32))) < Int32.ofNat N := by
  have s := own_sub hN
  have z : (1 : Int32).toInt = 1 := rfl
  have z0 : (0 : Int32).toInt = 0 := rfl
  have s2 : ((Int32.ofNat N - (1 : Int32)) - (1 : Int32)).toInt = (N : Int) - 1 - 1 := by rw [XT.sub32 (by unfold XT.fits32; omega), s, z]
  have m := own_max (0 : Int32) ((Int32.ofNat N - (1 : Int32)) - (1 : Int32))
  exact own_at hN (by omega) (by omega)
theorem own_64 {N : Nat} (hN : 1 ≤ N ∧ N ≤ 9) : ¬ (64 : Int32) < Int32.ofNat N := by
  have z : (64 : Int32).toInt = 64 := rfl
  rw [Int32.lt_iff_toInt_lt, own_i (by omega), z]; omega
theorem own_words {N : Nat} (hN : 1 ≤ N ∧ N ≤ 9) : ∃ nn : Nat, (1 ≤ nn ∧ nn ≤ 2) ∧ (((Int32.ofNat N + (8 : Int32)) - (1 : Int32)) / (8 : Int32)) = Int32.ofNat nn := by
  have z : (1 : Int32).toInt = 1 := rfl
  have z8 : (8 : Int32).toInt = 8 := rfl
  have e := own_i (i := N) (by omega)
  have e1 : (Int32.ofNat N + (8 : Int32)).toInt = N + 8 := by rw [XT.add32 (by unfold XT.fits32; omega), e, z8]
  have e2 : ((Int32.ofNat N + (8 : Int32)) - (1 : Int32)).toInt = N + 8 - 1 := by rw [XT.sub32 (by unfold XT.fits32; omega), e1, z]
  have e3 := (c_idiv ((Int32.ofNat N + (8 : Int32)) - (1 : Int32)) 8 8 rfl (by decide)).1 (by omega)
  refine ⟨(((Int32.ofNat N + (8 : Int32)) - (1 : Int32)) / (8 : Int32)).toInt.toNat, by omega, ?_⟩
  rw [← Int32.toInt_inj, own_i (by omega)]; omega
theorem own_nn0 {nn : Nat} (hn : 1 ≤ nn ∧ nn ≤ 2) : ¬ Int32.ofNat nn < 0 := by
  have z : (0 : Int32).toInt = 0 := rfl
  rw [Int32.lt_iff_toInt_lt, own_i (by omega), z]; omega
theorem own_nn2 {nn : Nat} (hn : 1 ≤ nn ∧ nn ≤ 2) : (Int32.ofNat nn).toNatClampNeg ≤ 2 := by rw [own_n32 (by omega)]; omega
theorem own_wend {nn wn : Nat} (hn : 1 ≤ nn ∧ nn ≤ 2) (h : wn + 0 = nn) : ¬ Int32.ofNat wn < Int32.ofNat nn := by
  rw [Int32.lt_iff_toInt_lt, own_i (by omega), own_i (by omega)]; omega
theorem own_won {nn wn k : Nat} (hn : 1 ≤ nn ∧ nn ≤ 2) (h : wn + (k + 1) = nn) : Int32.ofNat wn < Int32.ofNat nn := by
  rw [Int32.lt_iff_toInt_lt, own_i (by omega), own_i (by omega)]; omega
theorem own_win {nn wn k : Nat} (hn : 1 ≤ nn ∧ nn ≤ 2) (h : wn + (k + 1) = nn) : ¬ Int32.ofNat wn < 0 ∧ Int32.ofNat wn < Int32.ofNat nn := by
  have z : (0 : Int32).toInt = 0 := rfl
  refine ⟨?_, own_won hn h⟩
  rw [Int32.lt_iff_toInt_lt, own_i (by omega), z]; omega
theorem own_j0 {N wn : Nat} (hN : 1 ≤ N ∧ N ≤ 9) (h : wn ≤ 1) : ∃ j0 : Nat, j0 ≤ 1 ∧ (f3 (Int32.ofNat wn * (8 : Int32)) (f4 (0 : Int32) (Int32.ofNat N - (8 : Int32)))) = Int32.ofNat j0 := by
  have z0 : (0 : Int32).toInt = 0 := rfl
  have z8 : (8 : Int32).toInt = 8 := rfl
  have e := own_i (i := N) (by omega)
  have ew := own_i (i := wn) (by omega)
  have e1 : (Int32.ofNat wn * (8 : Int32)).toInt = wn * 8 := by rw [XT.mul32 (by unfold XT.fits32; rw [z8]; omega), ew, z8]
  have e2 : (Int32.ofNat N - (8 : Int32)).toInt = N - 8 := by rw [XT.sub32 (by unfold XT.fits32; omega), e, z8]
  have m1 := own_max (0 : Int32) (Int32.ofNat N - (8 : Int32))
  have m2 := own_min (Int32.ofNat wn * (8 : Int32)) (f4 (0 : Int32) (Int32.ofNat N - (8 : Int32)))
  refine ⟨(f3 (Int32.ofNat wn * (8 : Int32)) (f4 (0 : Int32) (Int32.ofNat N - (8 : Int32)))).toInt.toNat, by omega, ?_⟩
  rw [← Int32.toInt_inj, own_i (by omega)]; omega
theorem own_jend {N j : Nat} {x : Int32} (hN : 1 ≤ N ∧ N ≤ 9) (h : N ≤ j) (hj : j ≤ 20) : ¬ Int32.ofNat j < f3 x (Int32.ofNat N) := by
  have m := own_min x (Int32.ofNat N)
  have e := own_i (i := N) (by omega)
  rw [Int32.lt_iff_toInt_lt, own_i (by omega)]; omega
theorem own_jin {N j : Nat} {x : Int32} (hN : 1 ≤ N ∧ N ≤ 9) (hj : j ≤ 20) (h : Int32.ofNat j < f3 x (Int32.ofNat N)) : ¬ Int32.ofNat j < 0 ∧ Int32.ofNat j < Int32.ofNat N := by
  have m := own_min x (Int32.ofNat N)
  have e := own_i (i := N) (by omega)
  have ej := own_i (i := j) (by omega)
  rw [Int32.lt_iff_toInt_lt, ej] at h
  exact own_at hN (by omega) (by omega)
theorem own_jlt {N j : Nat} {x : Int32} (hN : 1 ≤ N ∧ N ≤ 9) (hj : j ≤ 20) (h : Int32.ofNat j < f3 x (Int32.ofNat N)) : j < N := by
  have m := own_min x (Int32.ofNat N)
  have e := own_i (i := N) (by omega)
  have ej := own_i (i := j) (by omega)
  rw [Int32.lt_iff_toInt_lt, ej] at h
  omega

theorem own_sel {s : State} {args : Array Value} (h1 : (Jvm.Cond.selects "com/example/sidestep/sidestep/Starts" (⟨"com/example/sidestep/sidestep/Starts", "over", "([BIILcom/example/sidestep/sidestep/Starts$LowBytes;)V"⟩ : MethodName) (⟨"com/example/sidestep/sidestep/Starts", "over", "([BIILcom/example/sidestep/sidestep/Starts$LowBytes;)V"⟩ : MethodName)).before args s = true) (hp : s.PrivateAt (⟨"com/example/sidestep/sidestep/Starts", "forgetGroup", "()V"⟩ : MethodName)) (hi : (Jvm.Cond.instanceMethod (⟨"com/example/sidestep/sidestep/Starts", "forgetGroup", "()V"⟩ : MethodName)).before #[] s = true) {args' : Array Value} : (Jvm.Cond.selects ((⟨"com/example/sidestep/sidestep/Starts", "forgetGroup", "()V"⟩ : MethodName) : MethodName).cls (⟨"com/example/sidestep/sidestep/Starts", "forgetGroup", "()V"⟩ : MethodName) (⟨"com/example/sidestep/sidestep/Starts", "forgetGroup", "()V"⟩ : MethodName)).before args' s = true := by
  obtain ⟨c, r, m, e1, e2, e3, e4, mk, e5, e6⟩ := Cond.selects_spec h1
  have e7 := (findClass_of_methodNamed e3).symm.trans e1
  cases e7
  have hi' : (Jvm.Cond.instanceMethod (⟨"com/example/sidestep/sidestep/Starts", "forgetGroup", "()V"⟩ : MethodName)).before args' s = true := by
    simp only [Cond.before, Cond.holds, Cond.value] at hi ⊢; exact hi
  exact selects_self_of_private e1 e5 e6 hp hi' (by decide)
theorem ef_8 (m : MethodId) (x0 : Addr) : entryFrame m #[(.ref x0)] 1 = mkF m 0 #[.val (.ref x0)] [] := by first | (simp [entryFrame, mkF, argsToLocals, Value.category]; done) | rfl
theorem d8_0 : decode prog_6_method_18_code 0 = .ok (.aload_n 0, 1) := by decide +kernel
theorem d8_1 : decode prog_6_method_18_code 1 = .ok (.iconst 0, 1) := by decide +kernel
theorem d8_2 : decode prog_6_method_18_code 2 = .ok (.putfield 189, 3) := by decide +kernel
theorem d8_5 : decode prog_6_method_18_code 5 = .ok (.aload_n 0, 1) := by decide +kernel
theorem d8_6 : decode prog_6_method_18_code 6 = .ok (.iconst 0, 1) := by decide +kernel
theorem d8_7 : decode prog_6_method_18_code 7 = .ok (.putfield 173, 3) := by decide +kernel
theorem d8_10 : decode prog_6_method_18_code 10 = .ok (.aload_n 0, 1) := by decide +kernel
theorem d8_11 : decode prog_6_method_18_code 11 = .ok (.iconst 0, 1) := by decide +kernel
theorem d8_12 : decode prog_6_method_18_code 12 = .ok (.putfield 170, 3) := by decide +kernel
theorem d8_15 : decode prog_6_method_18_code 15 = .ok (.return_, 1) := by decide +kernel
set_option maxRecDepth 65536 in
set_option maxHeartbeats 40000000 in
theorem rm8 (l : Launch) (Z : State) (a0 : Array Value) (hw : ∀ d ∈ tables_1, d.before a0 Z = true) (ws : List Jvm.Cond) (o0 : Addr) (we : Int32) (h0 : Heap) (n0 : Nat) (Z0 : n0 ≤ h0.size) (gn_o0 : n0 ≤ o0) (E_o0 : Exa Z h0 o0 "com/example/sidestep/sidestep/Starts") (F_wholeEnd : Fld Z h0 o0 "com/example/sidestep/sidestep/Starts" "wholeEnd" "I" (.int we)) (F_marking : Fld Z h0 o0 "com/example/sidestep/sidestep/Starts" "marking" "I" (.int (0 : Int32))) (F_sections : Fld Z h0 o0 "com/example/sidestep/sidestep/Starts" "sections" "I" (.int (0 : Int32))) (F_handedSections : Fld Z h0 o0 "com/example/sidestep/sidestep/Starts" "handedSections" "I" (.int (0 : Int32)))  :
    MetFree l (⟨"com/example/sidestep/sidestep/Starts", "forgetGroup", "()V"⟩ : MethodName) (head1 (Jvm.Cond.code (⟨"com/example/sidestep/sidestep/Starts", "forgetGroup", "()V"⟩ : MethodName) prog_6_method_18_code 1 none :: ws) ({ frames := 0, cells := 0, slots := 0, locals := 0 } : Room)) (fun a U => a = #[(.ref o0)] ∧ Z.Warmed39 U.vm ∧ U.heap = h0) (fun _ _ _ _ _ => True) (fun _ U o U' => ∃ v L, o = .returned v ∧ QV none (fun h L => Fr n0 L ∧ Keep h0 h [o0] ∧ Exa Z h o0 "com/example/sidestep/sidestep/Starts" ∧ Fld Z h o0 "com/example/sidestep/sidestep/Starts" "wholeEnd" "I" (.int we)) v U'.heap L ∧ FrameEnd U o U' L ({ frames := 0, cells := 0, slots := 0, locals := 0 } : Room).cells ({ frames := 0, cells := 0, slots := 0, locals := 0 } : Room).slots) := by
  refine MetFree.of_bodySF (plainFor_of_name pn_0) hisR ?_
  intro p e s m args below meth c s₁ Bd hml0 hP hK
  obtain ⟨rfl, hZ, hh⟩ := hP
  have hx := Bd.exec
  have hby := Bd.bytes
  have hml : c.maxLocals = 1 := hml0
  have hown : s.vm.findClass "com/example/sidestep/sidestep/Starts" = some m.cls := findClass_of_methodNamed Bd.named
  have hnm := (name_of_methodNamed Bd.named Bd.method).1
  have hlk : meth.locks = false := BodyLoose.notSynchronized Bd
  have X0 : Stand p l e ({ frames := 0, cells := 0, slots := 0, locals := 0 } : Room) s m #[(.ref o0)] below meth c s₁ [] 0 0 := Stand.of_body Bd
  have e0 : s₁.heap = h0 := by rw [← hh, Bd.state]; rfl
  have N0 := Fr.nil n0
  refine Got.body (ef_8 m o0) ?_
  have K0 := Keep.refl h0 [o0]
  refine Got.step (T' := s₁) (g' := (mkF m 2 #[.val (.ref o0)] [(.int (0 : Int32)), (.ref o0)])) (fun tq kt => ?_) ?_
  · show Steps p.tables e below (s₁.setTop (mkF m 0 #[.val (.ref o0)] [])) _
    refine XS.aloadN X0.here hx rfl (hb hby d8_0) rfl rfl ?_
    show Steps p.tables e below (s₁.setTop (mkF m 1 #[.val (.ref o0)] [(.ref o0)])) _
    refine XS.iconst X0.here hx rfl (hb hby d8_1) ?_
    exact kt
  obtain ⟨T5, h5, X5, e5, W5, st5⟩ := putF X0 hx hZ hown (host := "") (Or.inl (hw _ (List.mem_of_getElem? (i := 101) rfl))) Via.refl e0 F_marking E_o0 (Or.inl (hw _ (List.mem_of_getElem? (i := 102) rfl))) (hw _ (List.mem_of_getElem? (i := 3) rfl)) (ty := .int) (by decide) rfl rfl (g := (mkF m 2 #[.val (.ref o0)] [(.int (0 : Int32)), (.ref o0)])) rfl rfl (hb hby d8_2)
  have Z0_6 : n0 ≤ h5.size := (Nat.le_trans Z0 (Keep.of_wr W5).1)
  have K0_7 : Keep h0 h5 [o0] := (K0.wr W5 (Or.inl (List.mem_of_getElem? (i := 0) rfl)))
  have E_o0_8 : Exa Z h5 o0 "com/example/sidestep/sidestep/Starts" := (E_o0.wr W5)
  have F_wholeEnd_9 : Fld Z h5 o0 "com/example/sidestep/sidestep/Starts" "wholeEnd" "I" (.int we) := (F_wholeEnd.other W5 (Or.inr (slot_ne (Or.inl (hw _ (List.mem_of_getElem? (i := 86) rfl))) (Or.inl (hw _ (List.mem_of_getElem? (i := 102) rfl))) (by decide) (t := .int) (t' := .int) (by decide) (by decide))))
  have F_marking_10 : Fld Z h5 o0 "com/example/sidestep/sidestep/Starts" "marking" "I" (.int (0 : Int32)) := (F_marking.same W5)
  have F_sections_11 : Fld Z h5 o0 "com/example/sidestep/sidestep/Starts" "sections" "I" (.int (0 : Int32)) := (F_sections.other W5 (Or.inr (slot_ne (Or.inl (hw _ (List.mem_of_getElem? (i := 104) rfl))) (Or.inl (hw _ (List.mem_of_getElem? (i := 102) rfl))) (by decide) (t := .int) (t' := .int) (by decide) (by decide))))
  have F_handedSections_12 : Fld Z h5 o0 "com/example/sidestep/sidestep/Starts" "handedSections" "I" (.int (0 : Int32)) := (F_handedSections.other W5 (Or.inr (slot_ne (Or.inl (hw _ (List.mem_of_getElem? (i := 106) rfl))) (Or.inl (hw _ (List.mem_of_getElem? (i := 102) rfl))) (by decide) (t := .int) (t' := .int) (by decide) (by decide))))
  have N5 := Fr.snoc X5 N0 gn_o0
  refine Got.step st5 ?_
  show Got p e below s _ _ _ _ T5 (mkF m 5 #[.val (.ref o0)] [])
  refine Got.step (T' := T5) (g' := (mkF m 7 #[.val (.ref o0)] [(.int (0 : Int32)), (.ref o0)])) (fun tq kt => ?_) ?_
  · show Steps p.tables e below (T5.setTop (mkF m 5 #[.val (.ref o0)] [])) _
    refine XS.aloadN X5.here hx rfl (hb hby d8_5) rfl rfl ?_
    show Steps p.tables e below (T5.setTop (mkF m 6 #[.val (.ref o0)] [(.ref o0)])) _
    refine XS.iconst X5.here hx rfl (hb hby d8_6) ?_
    exact kt
  obtain ⟨T13, h13, X13, e13, W13, st13⟩ := putF X5 hx hZ hown (host := "") (Or.inl (hw _ (List.mem_of_getElem? (i := 103) rfl))) Via.refl e5 F_sections_11 E_o0_8 (Or.inl (hw _ (List.mem_of_getElem? (i := 104) rfl))) (hw _ (List.mem_of_getElem? (i := 3) rfl)) (ty := .int) (by decide) rfl rfl (g := (mkF m 7 #[.val (.ref o0)] [(.int (0 : Int32)), (.ref o0)])) rfl rfl (hb hby d8_7)
  have Z0_14 : n0 ≤ h13.size := (Nat.le_trans Z0_6 (Keep.of_wr W13).1)
  have K0_15 : Keep h0 h13 [o0] := (K0_7.wr W13 (Or.inl (List.mem_of_getElem? (i := 0) rfl)))
  have E_o0_16 : Exa Z h13 o0 "com/example/sidestep/sidestep/Starts" := (E_o0_8.wr W13)
  have F_wholeEnd_17 : Fld Z h13 o0 "com/example/sidestep/sidestep/Starts" "wholeEnd" "I" (.int we) := (F_wholeEnd_9.other W13 (Or.inr (slot_ne (Or.inl (hw _ (List.mem_of_getElem? (i := 86) rfl))) (Or.inl (hw _ (List.mem_of_getElem? (i := 104) rfl))) (by decide) (t := .int) (t' := .int) (by decide) (by decide))))
  have F_marking_18 : Fld Z h13 o0 "com/example/sidestep/sidestep/Starts" "marking" "I" (.int (0 : Int32)) := (F_marking_10.other W13 (Or.inr (slot_ne (Or.inl (hw _ (List.mem_of_getElem? (i := 102) rfl))) (Or.inl (hw _ (List.mem_of_getElem? (i := 104) rfl))) (by decide) (t := .int) (t' := .int) (by decide) (by decide))))
  have F_sections_19 : Fld Z h13 o0 "com/example/sidestep/sidestep/Starts" "sections" "I" (.int (0 : Int32)) := (F_sections_11.same W13)
  have F_handedSections_20 : Fld Z h13 o0 "com/example/sidestep/sidestep/Starts" "handedSections" "I" (.int (0 : Int32)) := (F_handedSections_12.other W13 (Or.inr (slot_ne (Or.inl (hw _ (List.mem_of_getElem? (i := 106) rfl))) (Or.inl (hw _ (List.mem_of_getElem? (i := 104) rfl))) (by decide) (t := .int) (t' := .int) (by decide) (by decide))))
  have N13 := Fr.snoc X13 N5 gn_o0
  refine Got.step st13 ?_
  show Got p e below s _ _ _ _ T13 (mkF m 10 #[.val (.ref o0)] [])
  refine Got.step (T' := T13) (g' := (mkF m 12 #[.val (.ref o0)] [(.int (0 : Int32)), (.ref o0)])) (fun tq kt => ?_) ?_
  · show Steps p.tables e below (T13.setTop (mkF m 10 #[.val (.ref o0)] [])) _
    refine XS.aloadN X13.here hx rfl (hb hby d8_10) rfl rfl ?_
    show Steps p.tables e below (T13.setTop (mkF m 11 #[.val (.ref o0)] [(.ref o0)])) _
    refine XS.iconst X13.here hx rfl (hb hby d8_11) ?_
    exact kt
  obtain ⟨T21, h21, X21, e21, W21, st21⟩ := putF X13 hx hZ hown (host := "") (Or.inl (hw _ (List.mem_of_getElem? (i := 105) rfl))) Via.refl e13 F_handedSections_20 E_o0_16 (Or.inl (hw _ (List.mem_of_getElem? (i := 106) rfl))) (hw _ (List.mem_of_getElem? (i := 3) rfl)) (ty := .int) (by decide) rfl rfl (g := (mkF m 12 #[.val (.ref o0)] [(.int (0 : Int32)), (.ref o0)])) rfl rfl (hb hby d8_12)
  have Z0_22 : n0 ≤ h21.size := (Nat.le_trans Z0_14 (Keep.of_wr W21).1)
  have K0_23 : Keep h0 h21 [o0] := (K0_15.wr W21 (Or.inl (List.mem_of_getElem? (i := 0) rfl)))
  have E_o0_24 : Exa Z h21 o0 "com/example/sidestep/sidestep/Starts" := (E_o0_16.wr W21)
  have F_wholeEnd_25 : Fld Z h21 o0 "com/example/sidestep/sidestep/Starts" "wholeEnd" "I" (.int we) := (F_wholeEnd_17.other W21 (Or.inr (slot_ne (Or.inl (hw _ (List.mem_of_getElem? (i := 86) rfl))) (Or.inl (hw _ (List.mem_of_getElem? (i := 106) rfl))) (by decide) (t := .int) (t' := .int) (by decide) (by decide))))
  have F_marking_26 : Fld Z h21 o0 "com/example/sidestep/sidestep/Starts" "marking" "I" (.int (0 : Int32)) := (F_marking_18.other W21 (Or.inr (slot_ne (Or.inl (hw _ (List.mem_of_getElem? (i := 102) rfl))) (Or.inl (hw _ (List.mem_of_getElem? (i := 106) rfl))) (by decide) (t := .int) (t' := .int) (by decide) (by decide))))
  have F_sections_27 : Fld Z h21 o0 "com/example/sidestep/sidestep/Starts" "sections" "I" (.int (0 : Int32)) := (F_sections_19.other W21 (Or.inr (slot_ne (Or.inl (hw _ (List.mem_of_getElem? (i := 104) rfl))) (Or.inl (hw _ (List.mem_of_getElem? (i := 106) rfl))) (by decide) (t := .int) (t' := .int) (by decide) (by decide))))
  have F_handedSections_28 : Fld Z h21 o0 "com/example/sidestep/sidestep/Starts" "handedSections" "I" (.int (0 : Int32)) := (F_handedSections_20.same W21)
  have N21 := Fr.snoc X21 N13 gn_o0
  refine Got.step st21 ?_
  show Got p e below s _ _ _ _ T21 (mkF m 15 #[.val (.ref o0)] [])
  exact Got.retV X21 hx Bd.returns hlk (hb hby d8_15) ⟨N21, by rw [e21]; exact K0_23, by rw [e21]; exact E_o0_24, by rw [e21]; exact F_wholeEnd_25⟩ (by decide) (by decide)
theorem pd_0 : parseMethodDescriptor "(II)I" = some ⟨[.int, .int], some .int⟩ := by decide +kernel
theorem pd_1 : parseMethodDescriptor "()V" = some ⟨[], none⟩ := by decide +kernel
theorem ef_7 (m : MethodId) (x0 : Addr) (x1 : Addr) (x2 : Int32) (x3 : Int32) : entryFrame m #[(.ref x0), (.ref x1), (.int x2), (.int x3), .null] 5 = mkF m 0 #[.val (.ref x0), .val (.ref x1), .val (.int x2), .val (.int x3), .val .null] [] := by first | (simp [entryFrame, mkF, argsToLocals, Value.category]; done) | rfl
theorem d7_0 : decode prog_6_method_3_code 0 = .ok (.aload_n 0, 1) := by decide +kernel
theorem d7_1 : decode prog_6_method_3_code 1 = .ok (.aload 4, 2) := by decide +kernel
theorem d7_3 : decode prog_6_method_3_code 3 = .ok (.putfield 99, 3) := by decide +kernel
theorem d7_6 : decode prog_6_method_3_code 6 = .ok (.aload_n 0, 1) := by decide +kernel
theorem d7_7 : decode prog_6_method_3_code 7 = .ok (.aload 4, 2) := by decide +kernel
theorem d7_9 : decode prog_6_method_3_code 9 = .ok (.ifnonnull 7, 3) := by decide +kernel
theorem d7_12 : decode prog_6_method_3_code 12 = .ok (.iload_n 3, 1) := by decide +kernel
theorem d7_13 : decode prog_6_method_3_code 13 = .ok (.goto 4, 3) := by decide +kernel
theorem d7_17 : decode prog_6_method_3_code 17 = .ok (.putfield 103, 3) := by decide +kernel
theorem d7_20 : decode prog_6_method_3_code 20 = .ok (.aload_n 0, 1) := by decide +kernel
theorem d7_21 : decode prog_6_method_3_code 21 = .ok (.aload_n 1, 1) := by decide +kernel
theorem d7_22 : decode prog_6_method_3_code 22 = .ok (.putfield 106, 3) := by decide +kernel
theorem d7_25 : decode prog_6_method_3_code 25 = .ok (.aload_n 0, 1) := by decide +kernel
theorem d7_26 : decode prog_6_method_3_code 26 = .ok (.iload_n 3, 1) := by decide +kernel
theorem d7_27 : decode prog_6_method_3_code 27 = .ok (.putfield 110, 3) := by decide +kernel
theorem d7_30 : decode prog_6_method_3_code 30 = .ok (.aload_n 0, 1) := by decide +kernel
theorem d7_31 : decode prog_6_method_3_code 31 = .ok (.iload_n 2, 1) := by decide +kernel
theorem d7_32 : decode prog_6_method_3_code 32 = .ok (.putfield 113, 3) := by decide +kernel
theorem d7_35 : decode prog_6_method_3_code 35 = .ok (.aload_n 0, 1) := by decide +kernel
theorem d7_36 : decode prog_6_method_3_code 36 = .ok (.iload_n 2, 1) := by decide +kernel
theorem d7_37 : decode prog_6_method_3_code 37 = .ok (.iload_n 3, 1) := by decide +kernel
theorem d7_38 : decode prog_6_method_3_code 38 = .ok (.aload_n 0, 1) := by decide +kernel
theorem d7_39 : decode prog_6_method_3_code 39 = .ok (.getfield 41, 3) := by decide +kernel
theorem d7_42 : decode prog_6_method_3_code 42 = .ok (.isub, 1) := by decide +kernel
theorem d7_43 : decode prog_6_method_3_code 43 = .ok (.invokestatic 44, 3) := by decide +kernel
theorem d7_46 : decode prog_6_method_3_code 46 = .ok (.putfield 116, 3) := by decide +kernel
theorem d7_49 : decode prog_6_method_3_code 49 = .ok (.aload_n 0, 1) := by decide +kernel
theorem d7_50 : decode prog_6_method_3_code 50 = .ok (.aload_n 0, 1) := by decide +kernel
theorem d7_51 : decode prog_6_method_3_code 51 = .ok (.getfield 82, 3) := by decide +kernel
theorem d7_54 : decode prog_6_method_3_code 54 = .ok (.arraylength, 1) := by decide +kernel
theorem d7_55 : decode prog_6_method_3_code 55 = .ok (.ifCond .ne 7, 3) := by decide +kernel
theorem d7_58 : decode prog_6_method_3_code 58 = .ok (.iconst 0, 1) := by decide +kernel
theorem d7_59 : decode prog_6_method_3_code 59 = .ok (.goto 20, 3) := by decide +kernel
theorem d7_62 : decode prog_6_method_3_code 62 = .ok (.iload_n 2, 1) := by decide +kernel
theorem d7_63 : decode prog_6_method_3_code 63 = .ok (.iload_n 3, 1) := by decide +kernel
theorem d7_64 : decode prog_6_method_3_code 64 = .ok (.bipush 8, 2) := by decide +kernel
theorem d7_66 : decode prog_6_method_3_code 66 = .ok (.aload_n 0, 1) := by decide +kernel
theorem d7_67 : decode prog_6_method_3_code 67 = .ok (.getfield 34, 3) := by decide +kernel
theorem d7_70 : decode prog_6_method_3_code 70 = .ok (.invokestatic 56, 3) := by decide +kernel
theorem d7_73 : decode prog_6_method_3_code 73 = .ok (.isub, 1) := by decide +kernel
theorem d7_74 : decode prog_6_method_3_code 74 = .ok (.iconst 1, 1) := by decide +kernel
theorem d7_75 : decode prog_6_method_3_code 75 = .ok (.iadd, 1) := by decide +kernel
theorem d7_76 : decode prog_6_method_3_code 76 = .ok (.invokestatic 44, 3) := by decide +kernel
theorem d7_79 : decode prog_6_method_3_code 79 = .ok (.putfield 119, 3) := by decide +kernel
theorem d7_82 : decode prog_6_method_3_code 82 = .ok (.aload_n 0, 1) := by decide +kernel
theorem d7_83 : decode prog_6_method_3_code 83 = .ok (.iconst 0, 1) := by decide +kernel
theorem d7_84 : decode prog_6_method_3_code 84 = .ok (.putfield 122, 3) := by decide +kernel
theorem d7_87 : decode prog_6_method_3_code 87 = .ok (.aload_n 0, 1) := by decide +kernel
theorem d7_88 : decode prog_6_method_3_code 88 = .ok (.iconst 0, 1) := by decide +kernel
theorem d7_89 : decode prog_6_method_3_code 89 = .ok (.putfield 125, 3) := by decide +kernel
theorem d7_92 : decode prog_6_method_3_code 92 = .ok (.aload_n 0, 1) := by decide +kernel
theorem d7_93 : decode prog_6_method_3_code 93 = .ok (.iconst 0, 1) := by decide +kernel
theorem d7_94 : decode prog_6_method_3_code 94 = .ok (.putfield 128, 3) := by decide +kernel
theorem d7_97 : decode prog_6_method_3_code 97 = .ok (.aload_n 0, 1) := by decide +kernel
theorem d7_98 : decode prog_6_method_3_code 98 = .ok (.iconst 0, 1) := by decide +kernel
theorem d7_99 : decode prog_6_method_3_code 99 = .ok (.putfield 131, 3) := by decide +kernel
theorem d7_102 : decode prog_6_method_3_code 102 = .ok (.aload_n 0, 1) := by decide +kernel
theorem d7_103 : decode prog_6_method_3_code 103 = .ok (.invokevirtual 134, 3) := by decide +kernel
theorem d7_106 : decode prog_6_method_3_code 106 = .ok (.return_, 1) := by decide +kernel
set_option maxRecDepth 65536 in
set_option maxHeartbeats 40000000 in
theorem rm7 (l : Launch) (Z : State) (a0 : Array Value) (hw : ∀ d ∈ tables_1, d.before a0 Z = true) (ws : List Jvm.Cond) (o0 : Addr) (o1 : Addr) (p2 : Int32) (p3 : Int32) (lo : Int32) (ln : Int32) (ow : Addr) (kw : ClassId) (nw : Int32) (vs : List Value) (h0 : Heap) (n0 : Nat) (Z0 : n0 ≤ h0.size) (gn_o0 : n0 ≤ o0) (E_o0 : Exa Z h0 o0 "com/example/sidestep/sidestep/Starts") (F_lastOffset : Fld Z h0 o0 "com/example/sidestep/sidestep/Starts" "lastOffset" "I" (.int lo)) (F_length : Fld Z h0 o0 "com/example/sidestep/sidestep/Starts" "length" "I" (.int ln)) (F_patternWords : Fld Z h0 o0 "com/example/sidestep/sidestep/Starts" "patternWords" "[J" (.ref ow)) (F_source : Fld Z h0 o0 "com/example/sidestep/sidestep/Starts" "source" "Lcom/example/sidestep/sidestep/Starts$LowBytes;" .null) (F_copiedTo : Fld Z h0 o0 "com/example/sidestep/sidestep/Starts" "copiedTo" "I" (.int (0 : Int32))) (F_lowBytes : Fld Z h0 o0 "com/example/sidestep/sidestep/Starts" "lowBytes" "[B" .null) (F_to : Fld Z h0 o0 "com/example/sidestep/sidestep/Starts" "to" "I" (.int (0 : Int32))) (F_placesEnd : Fld Z h0 o0 "com/example/sidestep/sidestep/Starts" "placesEnd" "I" (.int (0 : Int32))) (F_wholeEnd : Fld Z h0 o0 "com/example/sidestep/sidestep/Starts" "wholeEnd" "I" (.int (0 : Int32))) (F_decidedEnd : Fld Z h0 o0 "com/example/sidestep/sidestep/Starts" "decidedEnd" "I" (.int (0 : Int32))) (F_placed : Fld Z h0 o0 "com/example/sidestep/sidestep/Starts" "placed" "I" (.int (0 : Int32))) (F_taken : Fld Z h0 o0 "com/example/sidestep/sidestep/Starts" "taken" "I" (.int (0 : Int32))) (F_listedTo : Fld Z h0 o0 "com/example/sidestep/sidestep/Starts" "listedTo" "I" (.int (0 : Int32))) (F_dense : Fld Z h0 o0 "com/example/sidestep/sidestep/Starts" "dense" "Z" (.int (0 : Int32))) (F_marking : Fld Z h0 o0 "com/example/sidestep/sidestep/Starts" "marking" "I" (.int (0 : Int32))) (F_sections : Fld Z h0 o0 "com/example/sidestep/sidestep/Starts" "sections" "I" (.int (0 : Int32))) (F_handedSections : Fld Z h0 o0 "com/example/sidestep/sidestep/Starts" "handedSections" "I" (.int (0 : Int32))) (Vw : Arv Z h0 ow kw .long nw vs (.long (0 : Int64))) (hne : ow ≠ o0) :
    MetFree l (⟨"com/example/sidestep/sidestep/Starts", "over", "([BIILcom/example/sidestep/sidestep/Starts$LowBytes;)V"⟩ : MethodName) (head1 (Jvm.Cond.code (⟨"com/example/sidestep/sidestep/Starts", "over", "([BIILcom/example/sidestep/sidestep/Starts$LowBytes;)V"⟩ : MethodName) prog_6_method_3_code 5 none :: ws) ({ frames := 1, cells := 0, slots := 0, locals := 16 } : Room)) (fun a U => a = #[(.ref o0), (.ref o1), (.int p2), (.int p3), .null] ∧ Z.Warmed39 U.vm ∧ U.heap = h0) (fun _ _ _ _ _ => True) (fun _ U o U' => ∃ v L, o = .returned v ∧ QV none (fun h L => Fr n0 L ∧ Keep h0 h [o0] ∧ Exa Z h o0 "com/example/sidestep/sidestep/Starts" ∧ Fld Z h o0 "com/example/sidestep/sidestep/Starts" "wholeEnd" "I" (.int (f3 p2 (p3 - lo)))) v U'.heap L ∧ FrameEnd U o U' L ({ frames := 1, cells := 0, slots := 0, locals := 16 } : Room).cells ({ frames := 1, cells := 0, slots := 0, locals := 16 } : Room).slots) := by
  refine MetFree.of_bodySF (plainFor_of_name pn_0) hisR ?_
  intro p e s m args below meth c s₁ Bd hml0 hP hK
  obtain ⟨rfl, hZ, hh⟩ := hP
  have hx := Bd.exec
  have hby := Bd.bytes
  have hml : c.maxLocals = 5 := hml0
  have hown : s.vm.findClass "com/example/sidestep/sidestep/Starts" = some m.cls := findClass_of_methodNamed Bd.named
  have hnm := (name_of_methodNamed Bd.named Bd.method).1
  have hlk : meth.locks = false := BodyLoose.notSynchronized Bd
  have X0 : Stand p l e ({ frames := 1, cells := 0, slots := 0, locals := 16 } : Room) s m #[(.ref o0), (.ref o1), (.int p2), (.int p3), .null] below meth c s₁ [] 0 0 := Stand.of_body Bd
  have e0 : s₁.heap = h0 := by rw [← hh, Bd.state]; rfl
  have N0 := Fr.nil n0
  refine Got.body (ef_7 m o0 o1 p2 p3) ?_
  have K0 := Keep.refl h0 [o0]
  refine Got.step (T' := s₁) (g' := (mkF m 3 #[.val (.ref o0), .val (.ref o1), .val (.int p2), .val (.int p3), .val .null] [.null, (.ref o0)])) (fun tq kt => ?_) ?_
  · show Steps p.tables e below (s₁.setTop (mkF m 0 #[.val (.ref o0), .val (.ref o1), .val (.int p2), .val (.int p3), .val .null] [])) _
    refine XS.aloadN X0.here hx rfl (hb hby d7_0) rfl rfl ?_
    show Steps p.tables e below (s₁.setTop (mkF m 1 #[.val (.ref o0), .val (.ref o1), .val (.int p2), .val (.int p3), .val .null] [(.ref o0)])) _
    refine XS.aload X0.here hx rfl (hb hby d7_1) rfl rfl ?_
    exact kt
  obtain ⟨T29, h29, X29, e29, W29, st29⟩ := putF X0 hx hZ hown (host := "") (Or.inl (hw _ (List.mem_of_getElem? (i := 75) rfl))) Via.refl e0 F_source E_o0 (Or.inl (hw _ (List.mem_of_getElem? (i := 76) rfl))) (hw _ (List.mem_of_getElem? (i := 3) rfl)) (ty := (.object "com/example/sidestep/sidestep/Starts$LowBytes")) (by decide) rfl rfl (g := (mkF m 3 #[.val (.ref o0), .val (.ref o1), .val (.int p2), .val (.int p3), .val .null] [.null, (.ref o0)])) rfl rfl (hb hby d7_3)
  have Z0_30 : n0 ≤ h29.size := (Nat.le_trans Z0 (Keep.of_wr W29).1)
  have K0_31 : Keep h0 h29 [o0] := (K0.wr W29 (Or.inl (List.mem_of_getElem? (i := 0) rfl)))
  have E_o0_32 : Exa Z h29 o0 "com/example/sidestep/sidestep/Starts" := (E_o0.wr W29)
  have F_lastOffset_33 : Fld Z h29 o0 "com/example/sidestep/sidestep/Starts" "lastOffset" "I" (.int lo) := (F_lastOffset.other W29 (Or.inr (slot_ne (Or.inr (hw _ (List.mem_of_getElem? (i := 29) rfl))) (Or.inl (hw _ (List.mem_of_getElem? (i := 76) rfl))) (by decide) (t := .int) (t' := (.object "com/example/sidestep/sidestep/Starts$LowBytes")) (by decide) (by decide))))
  have F_length_34 : Fld Z h29 o0 "com/example/sidestep/sidestep/Starts" "length" "I" (.int ln) := (F_length.other W29 (Or.inr (slot_ne (Or.inr (hw _ (List.mem_of_getElem? (i := 25) rfl))) (Or.inl (hw _ (List.mem_of_getElem? (i := 76) rfl))) (by decide) (t := .int) (t' := (.object "com/example/sidestep/sidestep/Starts$LowBytes")) (by decide) (by decide))))
  have F_patternWords_35 : Fld Z h29 o0 "com/example/sidestep/sidestep/Starts" "patternWords" "[J" (.ref ow) := (F_patternWords.other W29 (Or.inr (slot_ne (Or.inr (hw _ (List.mem_of_getElem? (i := 59) rfl))) (Or.inl (hw _ (List.mem_of_getElem? (i := 76) rfl))) (by decide) (t := (.array .long)) (t' := (.object "com/example/sidestep/sidestep/Starts$LowBytes")) (by decide) (by decide))))
  have F_source_36 : Fld Z h29 o0 "com/example/sidestep/sidestep/Starts" "source" "Lcom/example/sidestep/sidestep/Starts$LowBytes;" .null := (F_source.same W29)
  have F_copiedTo_37 : Fld Z h29 o0 "com/example/sidestep/sidestep/Starts" "copiedTo" "I" (.int (0 : Int32)) := (F_copiedTo.other W29 (Or.inr (slot_ne (Or.inl (hw _ (List.mem_of_getElem? (i := 78) rfl))) (Or.inl (hw _ (List.mem_of_getElem? (i := 76) rfl))) (by decide) (t := .int) (t' := (.object "com/example/sidestep/sidestep/Starts$LowBytes")) (by decide) (by decide))))
  have F_lowBytes_38 : Fld Z h29 o0 "com/example/sidestep/sidestep/Starts" "lowBytes" "[B" .null := (F_lowBytes.other W29 (Or.inr (slot_ne (Or.inl (hw _ (List.mem_of_getElem? (i := 80) rfl))) (Or.inl (hw _ (List.mem_of_getElem? (i := 76) rfl))) (by decide) (t := (.array .byte)) (t' := (.object "com/example/sidestep/sidestep/Starts$LowBytes")) (by decide) (by decide))))
  have F_to_39 : Fld Z h29 o0 "com/example/sidestep/sidestep/Starts" "to" "I" (.int (0 : Int32)) := (F_to.other W29 (Or.inr (slot_ne (Or.inl (hw _ (List.mem_of_getElem? (i := 82) rfl))) (Or.inl (hw _ (List.mem_of_getElem? (i := 76) rfl))) (by decide) (t := .int) (t' := (.object "com/example/sidestep/sidestep/Starts$LowBytes")) (by decide) (by decide))))
  have F_placesEnd_40 : Fld Z h29 o0 "com/example/sidestep/sidestep/Starts" "placesEnd" "I" (.int (0 : Int32)) := (F_placesEnd.other W29 (Or.inr (slot_ne (Or.inl (hw _ (List.mem_of_getElem? (i := 84) rfl))) (Or.inl (hw _ (List.mem_of_getElem? (i := 76) rfl))) (by decide) (t := .int) (t' := (.object "com/example/sidestep/sidestep/Starts$LowBytes")) (by decide) (by decide))))
  have F_wholeEnd_41 : Fld Z h29 o0 "com/example/sidestep/sidestep/Starts" "wholeEnd" "I" (.int (0 : Int32)) := (F_wholeEnd.other W29 (Or.inr (slot_ne (Or.inl (hw _ (List.mem_of_getElem? (i := 86) rfl))) (Or.inl (hw _ (List.mem_of_getElem? (i := 76) rfl))) (by decide) (t := .int) (t' := (.object "com/example/sidestep/sidestep/Starts$LowBytes")) (by decide) (by decide))))
  have F_decidedEnd_42 : Fld Z h29 o0 "com/example/sidestep/sidestep/Starts" "decidedEnd" "I" (.int (0 : Int32)) := (F_decidedEnd.other W29 (Or.inr (slot_ne (Or.inl (hw _ (List.mem_of_getElem? (i := 88) rfl))) (Or.inl (hw _ (List.mem_of_getElem? (i := 76) rfl))) (by decide) (t := .int) (t' := (.object "com/example/sidestep/sidestep/Starts$LowBytes")) (by decide) (by decide))))
  have F_placed_43 : Fld Z h29 o0 "com/example/sidestep/sidestep/Starts" "placed" "I" (.int (0 : Int32)) := (F_placed.other W29 (Or.inr (slot_ne (Or.inl (hw _ (List.mem_of_getElem? (i := 90) rfl))) (Or.inl (hw _ (List.mem_of_getElem? (i := 76) rfl))) (by decide) (t := .int) (t' := (.object "com/example/sidestep/sidestep/Starts$LowBytes")) (by decide) (by decide))))
  have F_taken_44 : Fld Z h29 o0 "com/example/sidestep/sidestep/Starts" "taken" "I" (.int (0 : Int32)) := (F_taken.other W29 (Or.inr (slot_ne (Or.inl (hw _ (List.mem_of_getElem? (i := 92) rfl))) (Or.inl (hw _ (List.mem_of_getElem? (i := 76) rfl))) (by decide) (t := .int) (t' := (.object "com/example/sidestep/sidestep/Starts$LowBytes")) (by decide) (by decide))))
  have F_listedTo_45 : Fld Z h29 o0 "com/example/sidestep/sidestep/Starts" "listedTo" "I" (.int (0 : Int32)) := (F_listedTo.other W29 (Or.inr (slot_ne (Or.inl (hw _ (List.mem_of_getElem? (i := 94) rfl))) (Or.inl (hw _ (List.mem_of_getElem? (i := 76) rfl))) (by decide) (t := .int) (t' := (.object "com/example/sidestep/sidestep/Starts$LowBytes")) (by decide) (by decide))))
  have F_dense_46 : Fld Z h29 o0 "com/example/sidestep/sidestep/Starts" "dense" "Z" (.int (0 : Int32)) := (F_dense.other W29 (Or.inr (slot_ne (Or.inl (hw _ (List.mem_of_getElem? (i := 96) rfl))) (Or.inl (hw _ (List.mem_of_getElem? (i := 76) rfl))) (by decide) (t := .boolean) (t' := (.object "com/example/sidestep/sidestep/Starts$LowBytes")) (by decide) (by decide))))
  have F_marking_47 : Fld Z h29 o0 "com/example/sidestep/sidestep/Starts" "marking" "I" (.int (0 : Int32)) := (F_marking.other W29 (Or.inr (slot_ne (Or.inl (hw _ (List.mem_of_getElem? (i := 102) rfl))) (Or.inl (hw _ (List.mem_of_getElem? (i := 76) rfl))) (by decide) (t := .int) (t' := (.object "com/example/sidestep/sidestep/Starts$LowBytes")) (by decide) (by decide))))
  have F_sections_48 : Fld Z h29 o0 "com/example/sidestep/sidestep/Starts" "sections" "I" (.int (0 : Int32)) := (F_sections.other W29 (Or.inr (slot_ne (Or.inl (hw _ (List.mem_of_getElem? (i := 104) rfl))) (Or.inl (hw _ (List.mem_of_getElem? (i := 76) rfl))) (by decide) (t := .int) (t' := (.object "com/example/sidestep/sidestep/Starts$LowBytes")) (by decide) (by decide))))
  have F_handedSections_49 : Fld Z h29 o0 "com/example/sidestep/sidestep/Starts" "handedSections" "I" (.int (0 : Int32)) := (F_handedSections.other W29 (Or.inr (slot_ne (Or.inl (hw _ (List.mem_of_getElem? (i := 106) rfl))) (Or.inl (hw _ (List.mem_of_getElem? (i := 76) rfl))) (by decide) (t := .int) (t' := (.object "com/example/sidestep/sidestep/Starts$LowBytes")) (by decide) (by decide))))
  have Vw_50 : Arv Z h29 ow kw .long nw vs (.long (0 : Int64)) := (Vw.other W29 hne)
  have N29 := Fr.snoc X29 N0 gn_o0
  refine Got.step st29 ?_
  show Got p e below s _ _ _ _ T29 (mkF m 6 #[.val (.ref o0), .val (.ref o1), .val (.int p2), .val (.int p3), .val .null] [])
  refine Got.step (T' := T29) (g' := (mkF m 17 #[.val (.ref o0), .val (.ref o1), .val (.int p2), .val (.int p3), .val .null] [(.int p3), (.ref o0)])) (fun tq kt => ?_) ?_
  · show Steps p.tables e below (T29.setTop (mkF m 6 #[.val (.ref o0), .val (.ref o1), .val (.int p2), .val (.int p3), .val .null] [])) _
    refine XS.aloadN X29.here hx rfl (hb hby d7_6) rfl rfl ?_
    show Steps p.tables e below (T29.setTop (mkF m 7 #[.val (.ref o0), .val (.ref o1), .val (.int p2), .val (.int p3), .val .null] [(.ref o0)])) _
    refine XS.aload X29.here hx rfl (hb hby d7_7) rfl rfl ?_
    show Steps p.tables e below (T29.setTop (mkF m 9 #[.val (.ref o0), .val (.ref o1), .val (.int p2), .val (.int p3), .val .null] [.null, (.ref o0)])) _
    refine XT.ifnonnullNo X29.here hx rfl (hb hby d7_9) rfl ?_
    show Steps p.tables e below (T29.setTop (mkF m 12 #[.val (.ref o0), .val (.ref o1), .val (.int p2), .val (.int p3), .val .null] [(.ref o0)])) _
    refine XS.iloadN X29.here hx rfl (hb hby d7_12) rfl ?_
    show Steps p.tables e below (T29.setTop (mkF m 13 #[.val (.ref o0), .val (.ref o1), .val (.int p2), .val (.int p3), .val .null] [(.int p3), (.ref o0)])) _
    refine XS.goto X29.here hx rfl (pc0 := 13) (pc' := 17) rfl (hb hby d7_13) (by decide) (by decide) ?_
    exact kt
  obtain ⟨T51, h51, X51, e51, W51, st51⟩ := putF X29 hx hZ hown (host := "") (Or.inl (hw _ (List.mem_of_getElem? (i := 77) rfl))) Via.refl e29 F_copiedTo_37 E_o0_32 (Or.inl (hw _ (List.mem_of_getElem? (i := 78) rfl))) (hw _ (List.mem_of_getElem? (i := 3) rfl)) (ty := .int) (by decide) rfl rfl (g := (mkF m 17 #[.val (.ref o0), .val (.ref o1), .val (.int p2), .val (.int p3), .val .null] [(.int p3), (.ref o0)])) rfl rfl (hb hby d7_17)
  have Z0_52 : n0 ≤ h51.size := (Nat.le_trans Z0_30 (Keep.of_wr W51).1)
  have K0_53 : Keep h0 h51 [o0] := (K0_31.wr W51 (Or.inl (List.mem_of_getElem? (i := 0) rfl)))
  have E_o0_54 : Exa Z h51 o0 "com/example/sidestep/sidestep/Starts" := (E_o0_32.wr W51)
  have F_lastOffset_55 : Fld Z h51 o0 "com/example/sidestep/sidestep/Starts" "lastOffset" "I" (.int lo) := (F_lastOffset_33.other W51 (Or.inr (slot_ne (Or.inr (hw _ (List.mem_of_getElem? (i := 29) rfl))) (Or.inl (hw _ (List.mem_of_getElem? (i := 78) rfl))) (by decide) (t := .int) (t' := .int) (by decide) (by decide))))
  have F_length_56 : Fld Z h51 o0 "com/example/sidestep/sidestep/Starts" "length" "I" (.int ln) := (F_length_34.other W51 (Or.inr (slot_ne (Or.inr (hw _ (List.mem_of_getElem? (i := 25) rfl))) (Or.inl (hw _ (List.mem_of_getElem? (i := 78) rfl))) (by decide) (t := .int) (t' := .int) (by decide) (by decide))))
  have F_patternWords_57 : Fld Z h51 o0 "com/example/sidestep/sidestep/Starts" "patternWords" "[J" (.ref ow) := (F_patternWords_35.other W51 (Or.inr (slot_ne (Or.inr (hw _ (List.mem_of_getElem? (i := 59) rfl))) (Or.inl (hw _ (List.mem_of_getElem? (i := 78) rfl))) (by decide) (t := (.array .long)) (t' := .int) (by decide) (by decide))))
  have F_copiedTo_58 : Fld Z h51 o0 "com/example/sidestep/sidestep/Starts" "copiedTo" "I" (.int p3) := (F_copiedTo_37.same W51)
  have F_lowBytes_59 : Fld Z h51 o0 "com/example/sidestep/sidestep/Starts" "lowBytes" "[B" .null := (F_lowBytes_38.other W51 (Or.inr (slot_ne (Or.inl (hw _ (List.mem_of_getElem? (i := 80) rfl))) (Or.inl (hw _ (List.mem_of_getElem? (i := 78) rfl))) (by decide) (t := (.array .byte)) (t' := .int) (by decide) (by decide))))
  have F_to_60 : Fld Z h51 o0 "com/example/sidestep/sidestep/Starts" "to" "I" (.int (0 : Int32)) := (F_to_39.other W51 (Or.inr (slot_ne (Or.inl (hw _ (List.mem_of_getElem? (i := 82) rfl))) (Or.inl (hw _ (List.mem_of_getElem? (i := 78) rfl))) (by decide) (t := .int) (t' := .int) (by decide) (by decide))))
  have F_placesEnd_61 : Fld Z h51 o0 "com/example/sidestep/sidestep/Starts" "placesEnd" "I" (.int (0 : Int32)) := (F_placesEnd_40.other W51 (Or.inr (slot_ne (Or.inl (hw _ (List.mem_of_getElem? (i := 84) rfl))) (Or.inl (hw _ (List.mem_of_getElem? (i := 78) rfl))) (by decide) (t := .int) (t' := .int) (by decide) (by decide))))
  have F_wholeEnd_62 : Fld Z h51 o0 "com/example/sidestep/sidestep/Starts" "wholeEnd" "I" (.int (0 : Int32)) := (F_wholeEnd_41.other W51 (Or.inr (slot_ne (Or.inl (hw _ (List.mem_of_getElem? (i := 86) rfl))) (Or.inl (hw _ (List.mem_of_getElem? (i := 78) rfl))) (by decide) (t := .int) (t' := .int) (by decide) (by decide))))
  have F_decidedEnd_63 : Fld Z h51 o0 "com/example/sidestep/sidestep/Starts" "decidedEnd" "I" (.int (0 : Int32)) := (F_decidedEnd_42.other W51 (Or.inr (slot_ne (Or.inl (hw _ (List.mem_of_getElem? (i := 88) rfl))) (Or.inl (hw _ (List.mem_of_getElem? (i := 78) rfl))) (by decide) (t := .int) (t' := .int) (by decide) (by decide))))
  have F_placed_64 : Fld Z h51 o0 "com/example/sidestep/sidestep/Starts" "placed" "I" (.int (0 : Int32)) := (F_placed_43.other W51 (Or.inr (slot_ne (Or.inl (hw _ (List.mem_of_getElem? (i := 90) rfl))) (Or.inl (hw _ (List.mem_of_getElem? (i := 78) rfl))) (by decide) (t := .int) (t' := .int) (by decide) (by decide))))
  have F_taken_65 : Fld Z h51 o0 "com/example/sidestep/sidestep/Starts" "taken" "I" (.int (0 : Int32)) := (F_taken_44.other W51 (Or.inr (slot_ne (Or.inl (hw _ (List.mem_of_getElem? (i := 92) rfl))) (Or.inl (hw _ (List.mem_of_getElem? (i := 78) rfl))) (by decide) (t := .int) (t' := .int) (by decide) (by decide))))
  have F_listedTo_66 : Fld Z h51 o0 "com/example/sidestep/sidestep/Starts" "listedTo" "I" (.int (0 : Int32)) := (F_listedTo_45.other W51 (Or.inr (slot_ne (Or.inl (hw _ (List.mem_of_getElem? (i := 94) rfl))) (Or.inl (hw _ (List.mem_of_getElem? (i := 78) rfl))) (by decide) (t := .int) (t' := .int) (by decide) (by decide))))
  have F_dense_67 : Fld Z h51 o0 "com/example/sidestep/sidestep/Starts" "dense" "Z" (.int (0 : Int32)) := (F_dense_46.other W51 (Or.inr (slot_ne (Or.inl (hw _ (List.mem_of_getElem? (i := 96) rfl))) (Or.inl (hw _ (List.mem_of_getElem? (i := 78) rfl))) (by decide) (t := .boolean) (t' := .int) (by decide) (by decide))))
  have F_marking_68 : Fld Z h51 o0 "com/example/sidestep/sidestep/Starts" "marking" "I" (.int (0 : Int32)) := (F_marking_47.other W51 (Or.inr (slot_ne (Or.inl (hw _ (List.mem_of_getElem? (i := 102) rfl))) (Or.inl (hw _ (List.mem_of_getElem? (i := 78) rfl))) (by decide) (t := .int) (t' := .int) (by decide) (by decide))))
  have F_sections_69 : Fld Z h51 o0 "com/example/sidestep/sidestep/Starts" "sections" "I" (.int (0 : Int32)) := (F_sections_48.other W51 (Or.inr (slot_ne (Or.inl (hw _ (List.mem_of_getElem? (i := 104) rfl))) (Or.inl (hw _ (List.mem_of_getElem? (i := 78) rfl))) (by decide) (t := .int) (t' := .int) (by decide) (by decide))))
  have F_handedSections_70 : Fld Z h51 o0 "com/example/sidestep/sidestep/Starts" "handedSections" "I" (.int (0 : Int32)) := (F_handedSections_49.other W51 (Or.inr (slot_ne (Or.inl (hw _ (List.mem_of_getElem? (i := 106) rfl))) (Or.inl (hw _ (List.mem_of_getElem? (i := 78) rfl))) (by decide) (t := .int) (t' := .int) (by decide) (by decide))))
  have Vw_71 : Arv Z h51 ow kw .long nw vs (.long (0 : Int64)) := (Vw_50.other W51 hne)
  have N51 := Fr.snoc X51 N29 gn_o0
  refine Got.step st51 ?_
  show Got p e below s _ _ _ _ T51 (mkF m 20 #[.val (.ref o0), .val (.ref o1), .val (.int p2), .val (.int p3), .val .null] [])
  refine Got.step (T' := T51) (g' := (mkF m 22 #[.val (.ref o0), .val (.ref o1), .val (.int p2), .val (.int p3), .val .null] [(.ref o1), (.ref o0)])) (fun tq kt => ?_) ?_
  · show Steps p.tables e below (T51.setTop (mkF m 20 #[.val (.ref o0), .val (.ref o1), .val (.int p2), .val (.int p3), .val .null] [])) _
    refine XS.aloadN X51.here hx rfl (hb hby d7_20) rfl rfl ?_
    show Steps p.tables e below (T51.setTop (mkF m 21 #[.val (.ref o0), .val (.ref o1), .val (.int p2), .val (.int p3), .val .null] [(.ref o0)])) _
    refine XS.aloadN X51.here hx rfl (hb hby d7_21) rfl rfl ?_
    exact kt
  obtain ⟨T72, h72, X72, e72, W72, st72⟩ := putF X51 hx hZ hown (host := "") (Or.inl (hw _ (List.mem_of_getElem? (i := 79) rfl))) Via.refl e51 F_lowBytes_59 E_o0_54 (Or.inl (hw _ (List.mem_of_getElem? (i := 80) rfl))) (hw _ (List.mem_of_getElem? (i := 3) rfl)) (ty := (.array .byte)) (by decide) rfl rfl (g := (mkF m 22 #[.val (.ref o0), .val (.ref o1), .val (.int p2), .val (.int p3), .val .null] [(.ref o1), (.ref o0)])) rfl rfl (hb hby d7_22)
  have Z0_73 : n0 ≤ h72.size := (Nat.le_trans Z0_52 (Keep.of_wr W72).1)
  have K0_74 : Keep h0 h72 [o0] := (K0_53.wr W72 (Or.inl (List.mem_of_getElem? (i := 0) rfl)))
  have E_o0_75 : Exa Z h72 o0 "com/example/sidestep/sidestep/Starts" := (E_o0_54.wr W72)
  have F_lastOffset_76 : Fld Z h72 o0 "com/example/sidestep/sidestep/Starts" "lastOffset" "I" (.int lo) := (F_lastOffset_55.other W72 (Or.inr (slot_ne (Or.inr (hw _ (List.mem_of_getElem? (i := 29) rfl))) (Or.inl (hw _ (List.mem_of_getElem? (i := 80) rfl))) (by decide) (t := .int) (t' := (.array .byte)) (by decide) (by decide))))
  have F_length_77 : Fld Z h72 o0 "com/example/sidestep/sidestep/Starts" "length" "I" (.int ln) := (F_length_56.other W72 (Or.inr (slot_ne (Or.inr (hw _ (List.mem_of_getElem? (i := 25) rfl))) (Or.inl (hw _ (List.mem_of_getElem? (i := 80) rfl))) (by decide) (t := .int) (t' := (.array .byte)) (by decide) (by decide))))
  have F_patternWords_78 : Fld Z h72 o0 "com/example/sidestep/sidestep/Starts" "patternWords" "[J" (.ref ow) := (F_patternWords_57.other W72 (Or.inr (slot_ne (Or.inr (hw _ (List.mem_of_getElem? (i := 59) rfl))) (Or.inl (hw _ (List.mem_of_getElem? (i := 80) rfl))) (by decide) (t := (.array .long)) (t' := (.array .byte)) (by decide) (by decide))))
  have F_lowBytes_79 : Fld Z h72 o0 "com/example/sidestep/sidestep/Starts" "lowBytes" "[B" (.ref o1) := (F_lowBytes_59.same W72)
  have F_to_80 : Fld Z h72 o0 "com/example/sidestep/sidestep/Starts" "to" "I" (.int (0 : Int32)) := (F_to_60.other W72 (Or.inr (slot_ne (Or.inl (hw _ (List.mem_of_getElem? (i := 82) rfl))) (Or.inl (hw _ (List.mem_of_getElem? (i := 80) rfl))) (by decide) (t := .int) (t' := (.array .byte)) (by decide) (by decide))))
  have F_placesEnd_81 : Fld Z h72 o0 "com/example/sidestep/sidestep/Starts" "placesEnd" "I" (.int (0 : Int32)) := (F_placesEnd_61.other W72 (Or.inr (slot_ne (Or.inl (hw _ (List.mem_of_getElem? (i := 84) rfl))) (Or.inl (hw _ (List.mem_of_getElem? (i := 80) rfl))) (by decide) (t := .int) (t' := (.array .byte)) (by decide) (by decide))))
  have F_wholeEnd_82 : Fld Z h72 o0 "com/example/sidestep/sidestep/Starts" "wholeEnd" "I" (.int (0 : Int32)) := (F_wholeEnd_62.other W72 (Or.inr (slot_ne (Or.inl (hw _ (List.mem_of_getElem? (i := 86) rfl))) (Or.inl (hw _ (List.mem_of_getElem? (i := 80) rfl))) (by decide) (t := .int) (t' := (.array .byte)) (by decide) (by decide))))
  have F_decidedEnd_83 : Fld Z h72 o0 "com/example/sidestep/sidestep/Starts" "decidedEnd" "I" (.int (0 : Int32)) := (F_decidedEnd_63.other W72 (Or.inr (slot_ne (Or.inl (hw _ (List.mem_of_getElem? (i := 88) rfl))) (Or.inl (hw _ (List.mem_of_getElem? (i := 80) rfl))) (by decide) (t := .int) (t' := (.array .byte)) (by decide) (by decide))))
  have F_placed_84 : Fld Z h72 o0 "com/example/sidestep/sidestep/Starts" "placed" "I" (.int (0 : Int32)) := (F_placed_64.other W72 (Or.inr (slot_ne (Or.inl (hw _ (List.mem_of_getElem? (i := 90) rfl))) (Or.inl (hw _ (List.mem_of_getElem? (i := 80) rfl))) (by decide) (t := .int) (t' := (.array .byte)) (by decide) (by decide))))
  have F_taken_85 : Fld Z h72 o0 "com/example/sidestep/sidestep/Starts" "taken" "I" (.int (0 : Int32)) := (F_taken_65.other W72 (Or.inr (slot_ne (Or.inl (hw _ (List.mem_of_getElem? (i := 92) rfl))) (Or.inl (hw _ (List.mem_of_getElem? (i := 80) rfl))) (by decide) (t := .int) (t' := (.array .byte)) (by decide) (by decide))))
  have F_listedTo_86 : Fld Z h72 o0 "com/example/sidestep/sidestep/Starts" "listedTo" "I" (.int (0 : Int32)) := (F_listedTo_66.other W72 (Or.inr (slot_ne (Or.inl (hw _ (List.mem_of_getElem? (i := 94) rfl))) (Or.inl (hw _ (List.mem_of_getElem? (i := 80) rfl))) (by decide) (t := .int) (t' := (.array .byte)) (by decide) (by decide))))
  have F_dense_87 : Fld Z h72 o0 "com/example/sidestep/sidestep/Starts" "dense" "Z" (.int (0 : Int32)) := (F_dense_67.other W72 (Or.inr (slot_ne (Or.inl (hw _ (List.mem_of_getElem? (i := 96) rfl))) (Or.inl (hw _ (List.mem_of_getElem? (i := 80) rfl))) (by decide) (t := .boolean) (t' := (.array .byte)) (by decide) (by decide))))
  have F_marking_88 : Fld Z h72 o0 "com/example/sidestep/sidestep/Starts" "marking" "I" (.int (0 : Int32)) := (F_marking_68.other W72 (Or.inr (slot_ne (Or.inl (hw _ (List.mem_of_getElem? (i := 102) rfl))) (Or.inl (hw _ (List.mem_of_getElem? (i := 80) rfl))) (by decide) (t := .int) (t' := (.array .byte)) (by decide) (by decide))))
  have F_sections_89 : Fld Z h72 o0 "com/example/sidestep/sidestep/Starts" "sections" "I" (.int (0 : Int32)) := (F_sections_69.other W72 (Or.inr (slot_ne (Or.inl (hw _ (List.mem_of_getElem? (i := 104) rfl))) (Or.inl (hw _ (List.mem_of_getElem? (i := 80) rfl))) (by decide) (t := .int) (t' := (.array .byte)) (by decide) (by decide))))
  have F_handedSections_90 : Fld Z h72 o0 "com/example/sidestep/sidestep/Starts" "handedSections" "I" (.int (0 : Int32)) := (F_handedSections_70.other W72 (Or.inr (slot_ne (Or.inl (hw _ (List.mem_of_getElem? (i := 106) rfl))) (Or.inl (hw _ (List.mem_of_getElem? (i := 80) rfl))) (by decide) (t := .int) (t' := (.array .byte)) (by decide) (by decide))))
  have Vw_91 : Arv Z h72 ow kw .long nw vs (.long (0 : Int64)) := (Vw_71.other W72 hne)
  have N72 := Fr.snoc X72 N51 gn_o0
  refine Got.step st72 ?_
  show Got p e below s _ _ _ _ T72 (mkF m 25 #[.val (.ref o0), .val (.ref o1), .val (.int p2), .val (.int p3), .val .null] [])
  refine Got.step (T' := T72) (g' := (mkF m 27 #[.val (.ref o0), .val (.ref o1), .val (.int p2), .val (.int p3), .val .null] [(.int p3), (.ref o0)])) (fun tq kt => ?_) ?_
  · show Steps p.tables e below (T72.setTop (mkF m 25 #[.val (.ref o0), .val (.ref o1), .val (.int p2), .val (.int p3), .val .null] [])) _
    refine XS.aloadN X72.here hx rfl (hb hby d7_25) rfl rfl ?_
    show Steps p.tables e below (T72.setTop (mkF m 26 #[.val (.ref o0), .val (.ref o1), .val (.int p2), .val (.int p3), .val .null] [(.ref o0)])) _
    refine XS.iloadN X72.here hx rfl (hb hby d7_26) rfl ?_
    exact kt
  obtain ⟨T92, h92, X92, e92, W92, st92⟩ := putF X72 hx hZ hown (host := "") (Or.inl (hw _ (List.mem_of_getElem? (i := 81) rfl))) Via.refl e72 F_to_80 E_o0_75 (Or.inl (hw _ (List.mem_of_getElem? (i := 82) rfl))) (hw _ (List.mem_of_getElem? (i := 3) rfl)) (ty := .int) (by decide) rfl rfl (g := (mkF m 27 #[.val (.ref o0), .val (.ref o1), .val (.int p2), .val (.int p3), .val .null] [(.int p3), (.ref o0)])) rfl rfl (hb hby d7_27)
  have Z0_93 : n0 ≤ h92.size := (Nat.le_trans Z0_73 (Keep.of_wr W92).1)
  have K0_94 : Keep h0 h92 [o0] := (K0_74.wr W92 (Or.inl (List.mem_of_getElem? (i := 0) rfl)))
  have E_o0_95 : Exa Z h92 o0 "com/example/sidestep/sidestep/Starts" := (E_o0_75.wr W92)
  have F_lastOffset_96 : Fld Z h92 o0 "com/example/sidestep/sidestep/Starts" "lastOffset" "I" (.int lo) := (F_lastOffset_76.other W92 (Or.inr (slot_ne (Or.inr (hw _ (List.mem_of_getElem? (i := 29) rfl))) (Or.inl (hw _ (List.mem_of_getElem? (i := 82) rfl))) (by decide) (t := .int) (t' := .int) (by decide) (by decide))))
  have F_length_97 : Fld Z h92 o0 "com/example/sidestep/sidestep/Starts" "length" "I" (.int ln) := (F_length_77.other W92 (Or.inr (slot_ne (Or.inr (hw _ (List.mem_of_getElem? (i := 25) rfl))) (Or.inl (hw _ (List.mem_of_getElem? (i := 82) rfl))) (by decide) (t := .int) (t' := .int) (by decide) (by decide))))
  have F_patternWords_98 : Fld Z h92 o0 "com/example/sidestep/sidestep/Starts" "patternWords" "[J" (.ref ow) := (F_patternWords_78.other W92 (Or.inr (slot_ne (Or.inr (hw _ (List.mem_of_getElem? (i := 59) rfl))) (Or.inl (hw _ (List.mem_of_getElem? (i := 82) rfl))) (by decide) (t := (.array .long)) (t' := .int) (by decide) (by decide))))
  have F_to_99 : Fld Z h92 o0 "com/example/sidestep/sidestep/Starts" "to" "I" (.int p3) := (F_to_80.same W92)
  have F_placesEnd_100 : Fld Z h92 o0 "com/example/sidestep/sidestep/Starts" "placesEnd" "I" (.int (0 : Int32)) := (F_placesEnd_81.other W92 (Or.inr (slot_ne (Or.inl (hw _ (List.mem_of_getElem? (i := 84) rfl))) (Or.inl (hw _ (List.mem_of_getElem? (i := 82) rfl))) (by decide) (t := .int) (t' := .int) (by decide) (by decide))))
  have F_wholeEnd_101 : Fld Z h92 o0 "com/example/sidestep/sidestep/Starts" "wholeEnd" "I" (.int (0 : Int32)) := (F_wholeEnd_82.other W92 (Or.inr (slot_ne (Or.inl (hw _ (List.mem_of_getElem? (i := 86) rfl))) (Or.inl (hw _ (List.mem_of_getElem? (i := 82) rfl))) (by decide) (t := .int) (t' := .int) (by decide) (by decide))))
  have F_decidedEnd_102 : Fld Z h92 o0 "com/example/sidestep/sidestep/Starts" "decidedEnd" "I" (.int (0 : Int32)) := (F_decidedEnd_83.other W92 (Or.inr (slot_ne (Or.inl (hw _ (List.mem_of_getElem? (i := 88) rfl))) (Or.inl (hw _ (List.mem_of_getElem? (i := 82) rfl))) (by decide) (t := .int) (t' := .int) (by decide) (by decide))))
  have F_placed_103 : Fld Z h92 o0 "com/example/sidestep/sidestep/Starts" "placed" "I" (.int (0 : Int32)) := (F_placed_84.other W92 (Or.inr (slot_ne (Or.inl (hw _ (List.mem_of_getElem? (i := 90) rfl))) (Or.inl (hw _ (List.mem_of_getElem? (i := 82) rfl))) (by decide) (t := .int) (t' := .int) (by decide) (by decide))))
  have F_taken_104 : Fld Z h92 o0 "com/example/sidestep/sidestep/Starts" "taken" "I" (.int (0 : Int32)) := (F_taken_85.other W92 (Or.inr (slot_ne (Or.inl (hw _ (List.mem_of_getElem? (i := 92) rfl))) (Or.inl (hw _ (List.mem_of_getElem? (i := 82) rfl))) (by decide) (t := .int) (t' := .int) (by decide) (by decide))))
  have F_listedTo_105 : Fld Z h92 o0 "com/example/sidestep/sidestep/Starts" "listedTo" "I" (.int (0 : Int32)) := (F_listedTo_86.other W92 (Or.inr (slot_ne (Or.inl (hw _ (List.mem_of_getElem? (i := 94) rfl))) (Or.inl (hw _ (List.mem_of_getElem? (i := 82) rfl))) (by decide) (t := .int) (t' := .int) (by decide) (by decide))))
  have F_dense_106 : Fld Z h92 o0 "com/example/sidestep/sidestep/Starts" "dense" "Z" (.int (0 : Int32)) := (F_dense_87.other W92 (Or.inr (slot_ne (Or.inl (hw _ (List.mem_of_getElem? (i := 96) rfl))) (Or.inl (hw _ (List.mem_of_getElem? (i := 82) rfl))) (by decide) (t := .boolean) (t' := .int) (by decide) (by decide))))
  have F_marking_107 : Fld Z h92 o0 "com/example/sidestep/sidestep/Starts" "marking" "I" (.int (0 : Int32)) := (F_marking_88.other W92 (Or.inr (slot_ne (Or.inl (hw _ (List.mem_of_getElem? (i := 102) rfl))) (Or.inl (hw _ (List.mem_of_getElem? (i := 82) rfl))) (by decide) (t := .int) (t' := .int) (by decide) (by decide))))
  have F_sections_108 : Fld Z h92 o0 "com/example/sidestep/sidestep/Starts" "sections" "I" (.int (0 : Int32)) := (F_sections_89.other W92 (Or.inr (slot_ne (Or.inl (hw _ (List.mem_of_getElem? (i := 104) rfl))) (Or.inl (hw _ (List.mem_of_getElem? (i := 82) rfl))) (by decide) (t := .int) (t' := .int) (by decide) (by decide))))
  have F_handedSections_109 : Fld Z h92 o0 "com/example/sidestep/sidestep/Starts" "handedSections" "I" (.int (0 : Int32)) := (F_handedSections_90.other W92 (Or.inr (slot_ne (Or.inl (hw _ (List.mem_of_getElem? (i := 106) rfl))) (Or.inl (hw _ (List.mem_of_getElem? (i := 82) rfl))) (by decide) (t := .int) (t' := .int) (by decide) (by decide))))
  have Vw_110 : Arv Z h92 ow kw .long nw vs (.long (0 : Int64)) := (Vw_91.other W92 hne)
  have N92 := Fr.snoc X92 N72 gn_o0
  refine Got.step st92 ?_
  show Got p e below s _ _ _ _ T92 (mkF m 30 #[.val (.ref o0), .val (.ref o1), .val (.int p2), .val (.int p3), .val .null] [])
  refine Got.step (T' := T92) (g' := (mkF m 32 #[.val (.ref o0), .val (.ref o1), .val (.int p2), .val (.int p3), .val .null] [(.int p2), (.ref o0)])) (fun tq kt => ?_) ?_
  · show Steps p.tables e below (T92.setTop (mkF m 30 #[.val (.ref o0), .val (.ref o1), .val (.int p2), .val (.int p3), .val .null] [])) _
    refine XS.aloadN X92.here hx rfl (hb hby d7_30) rfl rfl ?_
    show Steps p.tables e below (T92.setTop (mkF m 31 #[.val (.ref o0), .val (.ref o1), .val (.int p2), .val (.int p3), .val .null] [(.ref o0)])) _
    refine XS.iloadN X92.here hx rfl (hb hby d7_31) rfl ?_
    exact kt
  obtain ⟨T111, h111, X111, e111, W111, st111⟩ := putF X92 hx hZ hown (host := "") (Or.inl (hw _ (List.mem_of_getElem? (i := 83) rfl))) Via.refl e92 F_placesEnd_100 E_o0_95 (Or.inl (hw _ (List.mem_of_getElem? (i := 84) rfl))) (hw _ (List.mem_of_getElem? (i := 3) rfl)) (ty := .int) (by decide) rfl rfl (g := (mkF m 32 #[.val (.ref o0), .val (.ref o1), .val (.int p2), .val (.int p3), .val .null] [(.int p2), (.ref o0)])) rfl rfl (hb hby d7_32)
  have Z0_112 : n0 ≤ h111.size := (Nat.le_trans Z0_93 (Keep.of_wr W111).1)
  have K0_113 : Keep h0 h111 [o0] := (K0_94.wr W111 (Or.inl (List.mem_of_getElem? (i := 0) rfl)))
  have E_o0_114 : Exa Z h111 o0 "com/example/sidestep/sidestep/Starts" := (E_o0_95.wr W111)
  have F_lastOffset_115 : Fld Z h111 o0 "com/example/sidestep/sidestep/Starts" "lastOffset" "I" (.int lo) := (F_lastOffset_96.other W111 (Or.inr (slot_ne (Or.inr (hw _ (List.mem_of_getElem? (i := 29) rfl))) (Or.inl (hw _ (List.mem_of_getElem? (i := 84) rfl))) (by decide) (t := .int) (t' := .int) (by decide) (by decide))))
  have F_length_116 : Fld Z h111 o0 "com/example/sidestep/sidestep/Starts" "length" "I" (.int ln) := (F_length_97.other W111 (Or.inr (slot_ne (Or.inr (hw _ (List.mem_of_getElem? (i := 25) rfl))) (Or.inl (hw _ (List.mem_of_getElem? (i := 84) rfl))) (by decide) (t := .int) (t' := .int) (by decide) (by decide))))
  have F_patternWords_117 : Fld Z h111 o0 "com/example/sidestep/sidestep/Starts" "patternWords" "[J" (.ref ow) := (F_patternWords_98.other W111 (Or.inr (slot_ne (Or.inr (hw _ (List.mem_of_getElem? (i := 59) rfl))) (Or.inl (hw _ (List.mem_of_getElem? (i := 84) rfl))) (by decide) (t := (.array .long)) (t' := .int) (by decide) (by decide))))
  have F_placesEnd_118 : Fld Z h111 o0 "com/example/sidestep/sidestep/Starts" "placesEnd" "I" (.int p2) := (F_placesEnd_100.same W111)
  have F_wholeEnd_119 : Fld Z h111 o0 "com/example/sidestep/sidestep/Starts" "wholeEnd" "I" (.int (0 : Int32)) := (F_wholeEnd_101.other W111 (Or.inr (slot_ne (Or.inl (hw _ (List.mem_of_getElem? (i := 86) rfl))) (Or.inl (hw _ (List.mem_of_getElem? (i := 84) rfl))) (by decide) (t := .int) (t' := .int) (by decide) (by decide))))
  have F_decidedEnd_120 : Fld Z h111 o0 "com/example/sidestep/sidestep/Starts" "decidedEnd" "I" (.int (0 : Int32)) := (F_decidedEnd_102.other W111 (Or.inr (slot_ne (Or.inl (hw _ (List.mem_of_getElem? (i := 88) rfl))) (Or.inl (hw _ (List.mem_of_getElem? (i := 84) rfl))) (by decide) (t := .int) (t' := .int) (by decide) (by decide))))
  have F_placed_121 : Fld Z h111 o0 "com/example/sidestep/sidestep/Starts" "placed" "I" (.int (0 : Int32)) := (F_placed_103.other W111 (Or.inr (slot_ne (Or.inl (hw _ (List.mem_of_getElem? (i := 90) rfl))) (Or.inl (hw _ (List.mem_of_getElem? (i := 84) rfl))) (by decide) (t := .int) (t' := .int) (by decide) (by decide))))
  have F_taken_122 : Fld Z h111 o0 "com/example/sidestep/sidestep/Starts" "taken" "I" (.int (0 : Int32)) := (F_taken_104.other W111 (Or.inr (slot_ne (Or.inl (hw _ (List.mem_of_getElem? (i := 92) rfl))) (Or.inl (hw _ (List.mem_of_getElem? (i := 84) rfl))) (by decide) (t := .int) (t' := .int) (by decide) (by decide))))
  have F_listedTo_123 : Fld Z h111 o0 "com/example/sidestep/sidestep/Starts" "listedTo" "I" (.int (0 : Int32)) := (F_listedTo_105.other W111 (Or.inr (slot_ne (Or.inl (hw _ (List.mem_of_getElem? (i := 94) rfl))) (Or.inl (hw _ (List.mem_of_getElem? (i := 84) rfl))) (by decide) (t := .int) (t' := .int) (by decide) (by decide))))
  have F_dense_124 : Fld Z h111 o0 "com/example/sidestep/sidestep/Starts" "dense" "Z" (.int (0 : Int32)) := (F_dense_106.other W111 (Or.inr (slot_ne (Or.inl (hw _ (List.mem_of_getElem? (i := 96) rfl))) (Or.inl (hw _ (List.mem_of_getElem? (i := 84) rfl))) (by decide) (t := .boolean) (t' := .int) (by decide) (by decide))))
  have F_marking_125 : Fld Z h111 o0 "com/example/sidestep/sidestep/Starts" "marking" "I" (.int (0 : Int32)) := (F_marking_107.other W111 (Or.inr (slot_ne (Or.inl (hw _ (List.mem_of_getElem? (i := 102) rfl))) (Or.inl (hw _ (List.mem_of_getElem? (i := 84) rfl))) (by decide) (t := .int) (t' := .int) (by decide) (by decide))))
  have F_sections_126 : Fld Z h111 o0 "com/example/sidestep/sidestep/Starts" "sections" "I" (.int (0 : Int32)) := (F_sections_108.other W111 (Or.inr (slot_ne (Or.inl (hw _ (List.mem_of_getElem? (i := 104) rfl))) (Or.inl (hw _ (List.mem_of_getElem? (i := 84) rfl))) (by decide) (t := .int) (t' := .int) (by decide) (by decide))))
  have F_handedSections_127 : Fld Z h111 o0 "com/example/sidestep/sidestep/Starts" "handedSections" "I" (.int (0 : Int32)) := (F_handedSections_109.other W111 (Or.inr (slot_ne (Or.inl (hw _ (List.mem_of_getElem? (i := 106) rfl))) (Or.inl (hw _ (List.mem_of_getElem? (i := 84) rfl))) (by decide) (t := .int) (t' := .int) (by decide) (by decide))))
  have Vw_128 : Arv Z h111 ow kw .long nw vs (.long (0 : Int64)) := (Vw_110.other W111 hne)
  have N111 := Fr.snoc X111 N92 gn_o0
  refine Got.step st111 ?_
  show Got p e below s _ _ _ _ T111 (mkF m 35 #[.val (.ref o0), .val (.ref o1), .val (.int p2), .val (.int p3), .val .null] [])
  refine Got.step (T' := T111) (g' := (mkF m 39 #[.val (.ref o0), .val (.ref o1), .val (.int p2), .val (.int p3), .val .null] [(.ref o0), (.int p3), (.int p2), (.ref o0)])) (fun tq kt => ?_) ?_
  · show Steps p.tables e below (T111.setTop (mkF m 35 #[.val (.ref o0), .val (.ref o1), .val (.int p2), .val (.int p3), .val .null] [])) _
    refine XS.aloadN X111.here hx rfl (hb hby d7_35) rfl rfl ?_
    show Steps p.tables e below (T111.setTop (mkF m 36 #[.val (.ref o0), .val (.ref o1), .val (.int p2), .val (.int p3), .val .null] [(.ref o0)])) _
    refine XS.iloadN X111.here hx rfl (hb hby d7_36) rfl ?_
    show Steps p.tables e below (T111.setTop (mkF m 37 #[.val (.ref o0), .val (.ref o1), .val (.int p2), .val (.int p3), .val .null] [(.int p2), (.ref o0)])) _
    refine XS.iloadN X111.here hx rfl (hb hby d7_37) rfl ?_
    show Steps p.tables e below (T111.setTop (mkF m 38 #[.val (.ref o0), .val (.ref o1), .val (.int p2), .val (.int p3), .val .null] [(.int p3), (.int p2), (.ref o0)])) _
    refine XS.aloadN X111.here hx rfl (hb hby d7_38) rfl rfl ?_
    exact kt
  obtain ⟨T129, X129, e129, st129⟩ := getF X111 hx hZ hown (host := "") (Or.inl (hw _ (List.mem_of_getElem? (i := 28) rfl))) Via.refl e111 F_lastOffset_115 (g := (mkF m 39 #[.val (.ref o0), .val (.ref o1), .val (.int p2), .val (.int p3), .val .null] [(.ref o0), (.int p3), (.int p2), (.ref o0)])) rfl rfl (hb hby d7_39)
  refine Got.step st129 ?_
  show Got p e below s _ _ _ _ T129 (mkF m 42 #[.val (.ref o0), .val (.ref o1), .val (.int p2), .val (.int p3), .val .null] [(.int lo), (.int p3), (.int p2), (.ref o0)])
  refine Got.step (T' := T129) (g' := (mkF m 43 #[.val (.ref o0), .val (.ref o1), .val (.int p2), .val (.int p3), .val .null] [(.int (p3 - lo)), (.int p2), (.ref o0)])) (fun tq kt => ?_) ?_
  · show Steps p.tables e below (T129.setTop (mkF m 42 #[.val (.ref o0), .val (.ref o1), .val (.int p2), .val (.int p3), .val .null] [(.int lo), (.int p3), (.int p2), (.ref o0)])) _
    refine XS.isub X129.here hx rfl (hb hby d7_42) rfl ?_
    exact kt
  obtain ⟨_, _, ⟨T130, L130, k130, n130⟩, -, X130, ⟨Lc130, hQ130, l130, y130, z130⟩, st130⟩ := Jvm.LawKit.callS X129 hx (y := (⟨"java/lang/Math", "min", "(II)I"⟩ : MethodName)) hown (mvT hZ (hw _ (List.mem_of_getElem? (i := 30) rfl))) (mvT hZ (hw _ (List.mem_of_getElem? (i := 31) rfl))) (mvT hZ (hw _ (List.mem_of_getElem? (i := 32) rfl))) (mvT hZ (hw _ (List.mem_of_getElem? (i := 33) rfl))) (by decide) (backOf (W := 1) (rm3 l Z a0 hw [] p2 (p3 - lo) h111 n0 Z0_112) hZ (hw _ (List.mem_of_getElem? (i := 33) rfl)) (hw _ (List.mem_of_getElem? (i := 32) rfl)) (by decide) (by decide)) (g := (mkF m 43 #[.val (.ref o0), .val (.ref o1), .val (.int p2), .val (.int p3), .val .null] [(.int (p3 - lo)), (.int p2), (.ref o0)])) rfl (by rw [hml]; rfl) (argsL := [(.int p2), (.int (p3 - lo))]) (rest := [(.ref o0)]) (lenOf pd_0 rfl) rfl (by show 2 * 0 + _ ≤ _; exact Nat.le_of_eq rfl) (hb hby d7_43) (fun _ _ => ⟨rfl, e129, (by decide : 0 + 0 ≤ _), (by decide : 0 + 0 ≤ _)⟩)
  dsimp only [Pt.U, Pt.locs, Pt.cells, Pt.slots] at X130 l130 y130 z130 st130 hQ130
  subst y130 z130
  obtain ⟨rfl, Nq130, e130⟩ := hQ130
  have N130 : Fr n0 L130 := by rw [l130]; exact Fr.app N111 Nq130
  refine Got.step st130 ?_
  show Got p e below s _ _ _ _ T130 (mkF m 46 #[.val (.ref o0), .val (.ref o1), .val (.int p2), .val (.int p3), .val .null] [(.int (f3 p2 (p3 - lo))), (.ref o0)])
  obtain ⟨T131, h131, X131, e131, W131, st131⟩ := putF X130 hx hZ hown (host := "") (Or.inl (hw _ (List.mem_of_getElem? (i := 85) rfl))) Via.refl e130 F_wholeEnd_119 E_o0_114 (Or.inl (hw _ (List.mem_of_getElem? (i := 86) rfl))) (hw _ (List.mem_of_getElem? (i := 3) rfl)) (ty := .int) (by decide) rfl rfl (g := (mkF m 46 #[.val (.ref o0), .val (.ref o1), .val (.int p2), .val (.int p3), .val .null] [(.int (f3 p2 (p3 - lo))), (.ref o0)])) rfl rfl (hb hby d7_46)
  have Z0_132 : n0 ≤ h131.size := (Nat.le_trans Z0_112 (Keep.of_wr W131).1)
  have K0_133 : Keep h0 h131 [o0] := (K0_113.wr W131 (Or.inl (List.mem_of_getElem? (i := 0) rfl)))
  have E_o0_134 : Exa Z h131 o0 "com/example/sidestep/sidestep/Starts" := (E_o0_114.wr W131)
  have F_lastOffset_135 : Fld Z h131 o0 "com/example/sidestep/sidestep/Starts" "lastOffset" "I" (.int lo) := (F_lastOffset_115.other W131 (Or.inr (slot_ne (Or.inr (hw _ (List.mem_of_getElem? (i := 29) rfl))) (Or.inl (hw _ (List.mem_of_getElem? (i := 86) rfl))) (by decide) (t := .int) (t' := .int) (by decide) (by decide))))
  have F_length_136 : Fld Z h131 o0 "com/example/sidestep/sidestep/Starts" "length" "I" (.int ln) := (F_length_116.other W131 (Or.inr (slot_ne (Or.inr (hw _ (List.mem_of_getElem? (i := 25) rfl))) (Or.inl (hw _ (List.mem_of_getElem? (i := 86) rfl))) (by decide) (t := .int) (t' := .int) (by decide) (by decide))))
  have F_patternWords_137 : Fld Z h131 o0 "com/example/sidestep/sidestep/Starts" "patternWords" "[J" (.ref ow) := (F_patternWords_117.other W131 (Or.inr (slot_ne (Or.inr (hw _ (List.mem_of_getElem? (i := 59) rfl))) (Or.inl (hw _ (List.mem_of_getElem? (i := 86) rfl))) (by decide) (t := (.array .long)) (t' := .int) (by decide) (by decide))))
  have F_wholeEnd_138 : Fld Z h131 o0 "com/example/sidestep/sidestep/Starts" "wholeEnd" "I" (.int (f3 p2 (p3 - lo))) := (F_wholeEnd_119.same W131)
  have F_decidedEnd_139 : Fld Z h131 o0 "com/example/sidestep/sidestep/Starts" "decidedEnd" "I" (.int (0 : Int32)) := (F_decidedEnd_120.other W131 (Or.inr (slot_ne (Or.inl (hw _ (List.mem_of_getElem? (i := 88) rfl))) (Or.inl (hw _ (List.mem_of_getElem? (i := 86) rfl))) (by decide) (t := .int) (t' := .int) (by decide) (by decide))))
  have F_placed_140 : Fld Z h131 o0 "com/example/sidestep/sidestep/Starts" "placed" "I" (.int (0 : Int32)) := (F_placed_121.other W131 (Or.inr (slot_ne (Or.inl (hw _ (List.mem_of_getElem? (i := 90) rfl))) (Or.inl (hw _ (List.mem_of_getElem? (i := 86) rfl))) (by decide) (t := .int) (t' := .int) (by decide) (by decide))))
  have F_taken_141 : Fld Z h131 o0 "com/example/sidestep/sidestep/Starts" "taken" "I" (.int (0 : Int32)) := (F_taken_122.other W131 (Or.inr (slot_ne (Or.inl (hw _ (List.mem_of_getElem? (i := 92) rfl))) (Or.inl (hw _ (List.mem_of_getElem? (i := 86) rfl))) (by decide) (t := .int) (t' := .int) (by decide) (by decide))))
  have F_listedTo_142 : Fld Z h131 o0 "com/example/sidestep/sidestep/Starts" "listedTo" "I" (.int (0 : Int32)) := (F_listedTo_123.other W131 (Or.inr (slot_ne (Or.inl (hw _ (List.mem_of_getElem? (i := 94) rfl))) (Or.inl (hw _ (List.mem_of_getElem? (i := 86) rfl))) (by decide) (t := .int) (t' := .int) (by decide) (by decide))))
  have F_dense_143 : Fld Z h131 o0 "com/example/sidestep/sidestep/Starts" "dense" "Z" (.int (0 : Int32)) := (F_dense_124.other W131 (Or.inr (slot_ne (Or.inl (hw _ (List.mem_of_getElem? (i := 96) rfl))) (Or.inl (hw _ (List.mem_of_getElem? (i := 86) rfl))) (by decide) (t := .boolean) (t' := .int) (by decide) (by decide))))
  have F_marking_144 : Fld Z h131 o0 "com/example/sidestep/sidestep/Starts" "marking" "I" (.int (0 : Int32)) := (F_marking_125.other W131 (Or.inr (slot_ne (Or.inl (hw _ (List.mem_of_getElem? (i := 102) rfl))) (Or.inl (hw _ (List.mem_of_getElem? (i := 86) rfl))) (by decide) (t := .int) (t' := .int) (by decide) (by decide))))
  have F_sections_145 : Fld Z h131 o0 "com/example/sidestep/sidestep/Starts" "sections" "I" (.int (0 : Int32)) := (F_sections_126.other W131 (Or.inr (slot_ne (Or.inl (hw _ (List.mem_of_getElem? (i := 104) rfl))) (Or.inl (hw _ (List.mem_of_getElem? (i := 86) rfl))) (by decide) (t := .int) (t' := .int) (by decide) (by decide))))
  have F_handedSections_146 : Fld Z h131 o0 "com/example/sidestep/sidestep/Starts" "handedSections" "I" (.int (0 : Int32)) := (F_handedSections_127.other W131 (Or.inr (slot_ne (Or.inl (hw _ (List.mem_of_getElem? (i := 106) rfl))) (Or.inl (hw _ (List.mem_of_getElem? (i := 86) rfl))) (by decide) (t := .int) (t' := .int) (by decide) (by decide))))
  have Vw_147 : Arv Z h131 ow kw .long nw vs (.long (0 : Int64)) := (Vw_128.other W131 hne)
  have N131 := Fr.snoc X131 N130 gn_o0
  refine Got.step st131 ?_
  show Got p e below s _ _ _ _ T131 (mkF m 49 #[.val (.ref o0), .val (.ref o1), .val (.int p2), .val (.int p3), .val .null] [])
  refine Got.step (T' := T131) (g' := (mkF m 51 #[.val (.ref o0), .val (.ref o1), .val (.int p2), .val (.int p3), .val .null] [(.ref o0), (.ref o0)])) (fun tq kt => ?_) ?_
  · show Steps p.tables e below (T131.setTop (mkF m 49 #[.val (.ref o0), .val (.ref o1), .val (.int p2), .val (.int p3), .val .null] [])) _
    refine XS.aloadN X131.here hx rfl (hb hby d7_49) rfl rfl ?_
    show Steps p.tables e below (T131.setTop (mkF m 50 #[.val (.ref o0), .val (.ref o1), .val (.int p2), .val (.int p3), .val .null] [(.ref o0)])) _
    refine XS.aloadN X131.here hx rfl (hb hby d7_50) rfl rfl ?_
    exact kt
  obtain ⟨T148, X148, e148, st148⟩ := getF X131 hx hZ hown (host := "") (Or.inl (hw _ (List.mem_of_getElem? (i := 58) rfl))) Via.refl e131 F_patternWords_137 (g := (mkF m 51 #[.val (.ref o0), .val (.ref o1), .val (.int p2), .val (.int p3), .val .null] [(.ref o0), (.ref o0)])) rfl rfl (hb hby d7_51)
  refine Got.step st148 ?_
  show Got p e below s _ _ _ _ T148 (mkF m 54 #[.val (.ref o0), .val (.ref o1), .val (.int p2), .val (.int p3), .val .null] [(.ref ow), (.ref o0)])
  obtain ⟨cl149, Ar149, q149, S149, M149, H149, G149⟩ := (id Vw_147)
  refine Got.step (T' := T148) (fun tq kt => X148.arraylength hx (cell := cl149) (by rw [e148]; exact Ar149.1) (State.isArrayOf_alike hZ.alike Ar149.2.1) (g := (mkF m 54 #[.val (.ref o0), .val (.ref o1), .val (.int p2), .val (.int p3), .val .null] [(.ref ow), (.ref o0)])) rfl (rest := [(.ref o0)]) rfl (hb hby d7_54) tq kt) ?_
  rw [len_of S149 M149]
  show Got p e below s _ _ _ _ T148 (mkF m 55 #[.val (.ref o0), .val (.ref o1), .val (.int p2), .val (.int p3), .val .null] [(.int nw), (.ref o0)])
  have J150 : ∀ (T150 : State) (h150 : Heap) (L150 : List Loc), Stand p l e ({ frames := 1, cells := 0, slots := 0, locals := 16 } : Room) s m #[(.ref o0), (.ref o1), (.int p2), (.int p3), .null] below meth c T150 L150 0 0 → T150.heap = h150 → Fr n0 L150 → ∀ (k150_0 : Int32), k150_0 = (if nw = 0 then (0 : Int32) else (f3 p2 ((p3 - (f4 (8 : Int32) ln)) + (1 : Int32)))) → n0 ≤ h150.size → Keep h0 h150 [o0] → Exa Z h150 o0 "com/example/sidestep/sidestep/Starts" → Fld Z h150 o0 "com/example/sidestep/sidestep/Starts" "lastOffset" "I" (.int lo) → Fld Z h150 o0 "com/example/sidestep/sidestep/Starts" "length" "I" (.int ln) → Fld Z h150 o0 "com/example/sidestep/sidestep/Starts" "patternWords" "[J" (.ref ow) → Fld Z h150 o0 "com/example/sidestep/sidestep/Starts" "wholeEnd" "I" (.int (f3 p2 (p3 - lo))) → Fld Z h150 o0 "com/example/sidestep/sidestep/Starts" "decidedEnd" "I" (.int (0 : Int32)) → Fld Z h150 o0 "com/example/sidestep/sidestep/Starts" "placed" "I" (.int (0 : Int32)) → Fld Z h150 o0 "com/example/sidestep/sidestep/Starts" "taken" "I" (.int (0 : Int32)) → Fld Z h150 o0 "com/example/sidestep/sidestep/Starts" "listedTo" "I" (.int (0 : Int32)) → Fld Z h150 o0 "com/example/sidestep/sidestep/Starts" "dense" "Z" (.int (0 : Int32)) → Fld Z h150 o0 "com/example/sidestep/sidestep/Starts" "marking" "I" (.int (0 : Int32)) → Fld Z h150 o0 "com/example/sidestep/sidestep/Starts" "sections" "I" (.int (0 : Int32)) → Fld Z h150 o0 "com/example/sidestep/sidestep/Starts" "handedSections" "I" (.int (0 : Int32)) → Arv Z h150 ow kw .long nw vs (.long (0 : Int64)) → Got p e below s (fun h L => Fr n0 L ∧ Keep h0 h [o0] ∧ Exa Z h o0 "com/example/sidestep/sidestep/Starts" ∧ Fld Z h o0 "com/example/sidestep/sidestep/Starts" "wholeEnd" "I" (.int (f3 p2 (p3 - lo)))) 0 0 none T150 (mkF m 79 #[.val (.ref o0), .val (.ref o1), .val (.int p2), .val (.int p3), .val .null] [(.int k150_0), (.ref o0)]) := by
    intro T150 h150 L150 X150 e150 N150 k150_0 hk150_0 Z0_155 K0_156 E_o0_157 F_lastOffset_158 F_length_159 F_patternWords_160 F_wholeEnd_161 F_decidedEnd_162 F_placed_163 F_taken_164 F_listedTo_165 F_dense_166 F_marking_167 F_sections_168 F_handedSections_169 Vw_170
    obtain ⟨T171, h171, X171, e171, W171, st171⟩ := putF X150 hx hZ hown (host := "") (Or.inl (hw _ (List.mem_of_getElem? (i := 87) rfl))) Via.refl e150 F_decidedEnd_162 E_o0_157 (Or.inl (hw _ (List.mem_of_getElem? (i := 88) rfl))) (hw _ (List.mem_of_getElem? (i := 3) rfl)) (ty := .int) (by decide) rfl rfl (g := (mkF m 79 #[.val (.ref o0), .val (.ref o1), .val (.int p2), .val (.int p3), .val .null] [(.int k150_0), (.ref o0)])) rfl rfl (hb hby d7_79)
    have Z0_172 : n0 ≤ h171.size := (Nat.le_trans Z0_155 (Keep.of_wr W171).1)
    have K0_173 : Keep h0 h171 [o0] := (K0_156.wr W171 (Or.inl (List.mem_of_getElem? (i := 0) rfl)))
    have E_o0_174 : Exa Z h171 o0 "com/example/sidestep/sidestep/Starts" := (E_o0_157.wr W171)
    have F_lastOffset_175 : Fld Z h171 o0 "com/example/sidestep/sidestep/Starts" "lastOffset" "I" (.int lo) := (F_lastOffset_158.other W171 (Or.inr (slot_ne (Or.inr (hw _ (List.mem_of_getElem? (i := 29) rfl))) (Or.inl (hw _ (List.mem_of_getElem? (i := 88) rfl))) (by decide) (t := .int) (t' := .int) (by decide) (by decide))))
    have F_length_176 : Fld Z h171 o0 "com/example/sidestep/sidestep/Starts" "length" "I" (.int ln) := (F_length_159.other W171 (Or.inr (slot_ne (Or.inr (hw _ (List.mem_of_getElem? (i := 25) rfl))) (Or.inl (hw _ (List.mem_of_getElem? (i := 88) rfl))) (by decide) (t := .int) (t' := .int) (by decide) (by decide))))
    have F_patternWords_177 : Fld Z h171 o0 "com/example/sidestep/sidestep/Starts" "patternWords" "[J" (.ref ow) := (F_patternWords_160.other W171 (Or.inr (slot_ne (Or.inr (hw _ (List.mem_of_getElem? (i := 59) rfl))) (Or.inl (hw _ (List.mem_of_getElem? (i := 88) rfl))) (by decide) (t := (.array .long)) (t' := .int) (by decide) (by decide))))
    have F_wholeEnd_178 : Fld Z h171 o0 "com/example/sidestep/sidestep/Starts" "wholeEnd" "I" (.int (f3 p2 (p3 - lo))) := (F_wholeEnd_161.other W171 (Or.inr (slot_ne (Or.inl (hw _ (List.mem_of_getElem? (i := 86) rfl))) (Or.inl (hw _ (List.mem_of_getElem? (i := 88) rfl))) (by decide) (t := .int) (t' := .int) (by decide) (by decide))))
    have F_decidedEnd_179 : Fld Z h171 o0 "com/example/sidestep/sidestep/Starts" "decidedEnd" "I" (.int k150_0) := (F_decidedEnd_162.same W171)
    have F_placed_180 : Fld Z h171 o0 "com/example/sidestep/sidestep/Starts" "placed" "I" (.int (0 : Int32)) := (F_placed_163.other W171 (Or.inr (slot_ne (Or.inl (hw _ (List.mem_of_getElem? (i := 90) rfl))) (Or.inl (hw _ (List.mem_of_getElem? (i := 88) rfl))) (by decide) (t := .int) (t' := .int) (by decide) (by decide))))
    have F_taken_181 : Fld Z h171 o0 "com/example/sidestep/sidestep/Starts" "taken" "I" (.int (0 : Int32)) := (F_taken_164.other W171 (Or.inr (slot_ne (Or.inl (hw _ (List.mem_of_getElem? (i := 92) rfl))) (Or.inl (hw _ (List.mem_of_getElem? (i := 88) rfl))) (by decide) (t := .int) (t' := .int) (by decide) (by decide))))
    have F_listedTo_182 : Fld Z h171 o0 "com/example/sidestep/sidestep/Starts" "listedTo" "I" (.int (0 : Int32)) := (F_listedTo_165.other W171 (Or.inr (slot_ne (Or.inl (hw _ (List.mem_of_getElem? (i := 94) rfl))) (Or.inl (hw _ (List.mem_of_getElem? (i := 88) rfl))) (by decide) (t := .int) (t' := .int) (by decide) (by decide))))
    have F_dense_183 : Fld Z h171 o0 "com/example/sidestep/sidestep/Starts" "dense" "Z" (.int (0 : Int32)) := (F_dense_166.other W171 (Or.inr (slot_ne (Or.inl (hw _ (List.mem_of_getElem? (i := 96) rfl))) (Or.inl (hw _ (List.mem_of_getElem? (i := 88) rfl))) (by decide) (t := .boolean) (t' := .int) (by decide) (by decide))))
    have F_marking_184 : Fld Z h171 o0 "com/example/sidestep/sidestep/Starts" "marking" "I" (.int (0 : Int32)) := (F_marking_167.other W171 (Or.inr (slot_ne (Or.inl (hw _ (List.mem_of_getElem? (i := 102) rfl))) (Or.inl (hw _ (List.mem_of_getElem? (i := 88) rfl))) (by decide) (t := .int) (t' := .int) (by decide) (by decide))))
    have F_sections_185 : Fld Z h171 o0 "com/example/sidestep/sidestep/Starts" "sections" "I" (.int (0 : Int32)) := (F_sections_168.other W171 (Or.inr (slot_ne (Or.inl (hw _ (List.mem_of_getElem? (i := 104) rfl))) (Or.inl (hw _ (List.mem_of_getElem? (i := 88) rfl))) (by decide) (t := .int) (t' := .int) (by decide) (by decide))))
    have F_handedSections_186 : Fld Z h171 o0 "com/example/sidestep/sidestep/Starts" "handedSections" "I" (.int (0 : Int32)) := (F_handedSections_169.other W171 (Or.inr (slot_ne (Or.inl (hw _ (List.mem_of_getElem? (i := 106) rfl))) (Or.inl (hw _ (List.mem_of_getElem? (i := 88) rfl))) (by decide) (t := .int) (t' := .int) (by decide) (by decide))))
    have Vw_187 : Arv Z h171 ow kw .long nw vs (.long (0 : Int64)) := (Vw_170.other W171 hne)
    have N171 := Fr.snoc X171 N150 gn_o0
    refine Got.step st171 ?_
    show Got p e below s _ _ _ _ T171 (mkF m 82 #[.val (.ref o0), .val (.ref o1), .val (.int p2), .val (.int p3), .val .null] [])
    refine Got.step (T' := T171) (g' := (mkF m 84 #[.val (.ref o0), .val (.ref o1), .val (.int p2), .val (.int p3), .val .null] [(.int (0 : Int32)), (.ref o0)])) (fun tq kt => ?_) ?_
    · show Steps p.tables e below (T171.setTop (mkF m 82 #[.val (.ref o0), .val (.ref o1), .val (.int p2), .val (.int p3), .val .null] [])) _
      refine XS.aloadN X171.here hx rfl (hb hby d7_82) rfl rfl ?_
      show Steps p.tables e below (T171.setTop (mkF m 83 #[.val (.ref o0), .val (.ref o1), .val (.int p2), .val (.int p3), .val .null] [(.ref o0)])) _
      refine XS.iconst X171.here hx rfl (hb hby d7_83) ?_
      exact kt
    obtain ⟨T188, h188, X188, e188, W188, st188⟩ := putF X171 hx hZ hown (host := "") (Or.inl (hw _ (List.mem_of_getElem? (i := 89) rfl))) Via.refl e171 F_placed_180 E_o0_174 (Or.inl (hw _ (List.mem_of_getElem? (i := 90) rfl))) (hw _ (List.mem_of_getElem? (i := 3) rfl)) (ty := .int) (by decide) rfl rfl (g := (mkF m 84 #[.val (.ref o0), .val (.ref o1), .val (.int p2), .val (.int p3), .val .null] [(.int (0 : Int32)), (.ref o0)])) rfl rfl (hb hby d7_84)
    have Z0_189 : n0 ≤ h188.size := (Nat.le_trans Z0_172 (Keep.of_wr W188).1)
    have K0_190 : Keep h0 h188 [o0] := (K0_173.wr W188 (Or.inl (List.mem_of_getElem? (i := 0) rfl)))
    have E_o0_191 : Exa Z h188 o0 "com/example/sidestep/sidestep/Starts" := (E_o0_174.wr W188)
    have F_lastOffset_192 : Fld Z h188 o0 "com/example/sidestep/sidestep/Starts" "lastOffset" "I" (.int lo) := (F_lastOffset_175.other W188 (Or.inr (slot_ne (Or.inr (hw _ (List.mem_of_getElem? (i := 29) rfl))) (Or.inl (hw _ (List.mem_of_getElem? (i := 90) rfl))) (by decide) (t := .int) (t' := .int) (by decide) (by decide))))
    have F_length_193 : Fld Z h188 o0 "com/example/sidestep/sidestep/Starts" "length" "I" (.int ln) := (F_length_176.other W188 (Or.inr (slot_ne (Or.inr (hw _ (List.mem_of_getElem? (i := 25) rfl))) (Or.inl (hw _ (List.mem_of_getElem? (i := 90) rfl))) (by decide) (t := .int) (t' := .int) (by decide) (by decide))))
    have F_patternWords_194 : Fld Z h188 o0 "com/example/sidestep/sidestep/Starts" "patternWords" "[J" (.ref ow) := (F_patternWords_177.other W188 (Or.inr (slot_ne (Or.inr (hw _ (List.mem_of_getElem? (i := 59) rfl))) (Or.inl (hw _ (List.mem_of_getElem? (i := 90) rfl))) (by decide) (t := (.array .long)) (t' := .int) (by decide) (by decide))))
    have F_wholeEnd_195 : Fld Z h188 o0 "com/example/sidestep/sidestep/Starts" "wholeEnd" "I" (.int (f3 p2 (p3 - lo))) := (F_wholeEnd_178.other W188 (Or.inr (slot_ne (Or.inl (hw _ (List.mem_of_getElem? (i := 86) rfl))) (Or.inl (hw _ (List.mem_of_getElem? (i := 90) rfl))) (by decide) (t := .int) (t' := .int) (by decide) (by decide))))
    have F_placed_196 : Fld Z h188 o0 "com/example/sidestep/sidestep/Starts" "placed" "I" (.int (0 : Int32)) := (F_placed_180.same W188)
    have F_taken_197 : Fld Z h188 o0 "com/example/sidestep/sidestep/Starts" "taken" "I" (.int (0 : Int32)) := (F_taken_181.other W188 (Or.inr (slot_ne (Or.inl (hw _ (List.mem_of_getElem? (i := 92) rfl))) (Or.inl (hw _ (List.mem_of_getElem? (i := 90) rfl))) (by decide) (t := .int) (t' := .int) (by decide) (by decide))))
    have F_listedTo_198 : Fld Z h188 o0 "com/example/sidestep/sidestep/Starts" "listedTo" "I" (.int (0 : Int32)) := (F_listedTo_182.other W188 (Or.inr (slot_ne (Or.inl (hw _ (List.mem_of_getElem? (i := 94) rfl))) (Or.inl (hw _ (List.mem_of_getElem? (i := 90) rfl))) (by decide) (t := .int) (t' := .int) (by decide) (by decide))))
    have F_dense_199 : Fld Z h188 o0 "com/example/sidestep/sidestep/Starts" "dense" "Z" (.int (0 : Int32)) := (F_dense_183.other W188 (Or.inr (slot_ne (Or.inl (hw _ (List.mem_of_getElem? (i := 96) rfl))) (Or.inl (hw _ (List.mem_of_getElem? (i := 90) rfl))) (by decide) (t := .boolean) (t' := .int) (by decide) (by decide))))
    have F_marking_200 : Fld Z h188 o0 "com/example/sidestep/sidestep/Starts" "marking" "I" (.int (0 : Int32)) := (F_marking_184.other W188 (Or.inr (slot_ne (Or.inl (hw _ (List.mem_of_getElem? (i := 102) rfl))) (Or.inl (hw _ (List.mem_of_getElem? (i := 90) rfl))) (by decide) (t := .int) (t' := .int) (by decide) (by decide))))
    have F_sections_201 : Fld Z h188 o0 "com/example/sidestep/sidestep/Starts" "sections" "I" (.int (0 : Int32)) := (F_sections_185.other W188 (Or.inr (slot_ne (Or.inl (hw _ (List.mem_of_getElem? (i := 104) rfl))) (Or.inl (hw _ (List.mem_of_getElem? (i := 90) rfl))) (by decide) (t := .int) (t' := .int) (by decide) (by decide))))
    have F_handedSections_202 : Fld Z h188 o0 "com/example/sidestep/sidestep/Starts" "handedSections" "I" (.int (0 : Int32)) := (F_handedSections_186.other W188 (Or.inr (slot_ne (Or.inl (hw _ (List.mem_of_getElem? (i := 106) rfl))) (Or.inl (hw _ (List.mem_of_getElem? (i := 90) rfl))) (by decide) (t := .int) (t' := .int) (by decide) (by decide))))
    have Vw_203 : Arv Z h188 ow kw .long nw vs (.long (0 : Int64)) := (Vw_187.other W188 hne)
    have N188 := Fr.snoc X188 N171 gn_o0
    refine Got.step st188 ?_
    show Got p e below s _ _ _ _ T188 (mkF m 87 #[.val (.ref o0), .val (.ref o1), .val (.int p2), .val (.int p3), .val .null] [])
    refine Got.step (T' := T188) (g' := (mkF m 89 #[.val (.ref o0), .val (.ref o1), .val (.int p2), .val (.int p3), .val .null] [(.int (0 : Int32)), (.ref o0)])) (fun tq kt => ?_) ?_
    · show Steps p.tables e below (T188.setTop (mkF m 87 #[.val (.ref o0), .val (.ref o1), .val (.int p2), .val (.int p3), .val .null] [])) _
      refine XS.aloadN X188.here hx rfl (hb hby d7_87) rfl rfl ?_
      show Steps p.tables e below (T188.setTop (mkF m 88 #[.val (.ref o0), .val (.ref o1), .val (.int p2), .val (.int p3), .val .null] [(.ref o0)])) _
      refine XS.iconst X188.here hx rfl (hb hby d7_88) ?_
      exact kt
    obtain ⟨T204, h204, X204, e204, W204, st204⟩ := putF X188 hx hZ hown (host := "") (Or.inl (hw _ (List.mem_of_getElem? (i := 91) rfl))) Via.refl e188 F_taken_197 E_o0_191 (Or.inl (hw _ (List.mem_of_getElem? (i := 92) rfl))) (hw _ (List.mem_of_getElem? (i := 3) rfl)) (ty := .int) (by decide) rfl rfl (g := (mkF m 89 #[.val (.ref o0), .val (.ref o1), .val (.int p2), .val (.int p3), .val .null] [(.int (0 : Int32)), (.ref o0)])) rfl rfl (hb hby d7_89)
    have Z0_205 : n0 ≤ h204.size := (Nat.le_trans Z0_189 (Keep.of_wr W204).1)
    have K0_206 : Keep h0 h204 [o0] := (K0_190.wr W204 (Or.inl (List.mem_of_getElem? (i := 0) rfl)))
    have E_o0_207 : Exa Z h204 o0 "com/example/sidestep/sidestep/Starts" := (E_o0_191.wr W204)
    have F_lastOffset_208 : Fld Z h204 o0 "com/example/sidestep/sidestep/Starts" "lastOffset" "I" (.int lo) := (F_lastOffset_192.other W204 (Or.inr (slot_ne (Or.inr (hw _ (List.mem_of_getElem? (i := 29) rfl))) (Or.inl (hw _ (List.mem_of_getElem? (i := 92) rfl))) (by decide) (t := .int) (t' := .int) (by decide) (by decide))))
    have F_length_209 : Fld Z h204 o0 "com/example/sidestep/sidestep/Starts" "length" "I" (.int ln) := (F_length_193.other W204 (Or.inr (slot_ne (Or.inr (hw _ (List.mem_of_getElem? (i := 25) rfl))) (Or.inl (hw _ (List.mem_of_getElem? (i := 92) rfl))) (by decide) (t := .int) (t' := .int) (by decide) (by decide))))
    have F_patternWords_210 : Fld Z h204 o0 "com/example/sidestep/sidestep/Starts" "patternWords" "[J" (.ref ow) := (F_patternWords_194.other W204 (Or.inr (slot_ne (Or.inr (hw _ (List.mem_of_getElem? (i := 59) rfl))) (Or.inl (hw _ (List.mem_of_getElem? (i := 92) rfl))) (by decide) (t := (.array .long)) (t' := .int) (by decide) (by decide))))
    have F_wholeEnd_211 : Fld Z h204 o0 "com/example/sidestep/sidestep/Starts" "wholeEnd" "I" (.int (f3 p2 (p3 - lo))) := (F_wholeEnd_195.other W204 (Or.inr (slot_ne (Or.inl (hw _ (List.mem_of_getElem? (i := 86) rfl))) (Or.inl (hw _ (List.mem_of_getElem? (i := 92) rfl))) (by decide) (t := .int) (t' := .int) (by decide) (by decide))))
    have F_taken_212 : Fld Z h204 o0 "com/example/sidestep/sidestep/Starts" "taken" "I" (.int (0 : Int32)) := (F_taken_197.same W204)
    have F_listedTo_213 : Fld Z h204 o0 "com/example/sidestep/sidestep/Starts" "listedTo" "I" (.int (0 : Int32)) := (F_listedTo_198.other W204 (Or.inr (slot_ne (Or.inl (hw _ (List.mem_of_getElem? (i := 94) rfl))) (Or.inl (hw _ (List.mem_of_getElem? (i := 92) rfl))) (by decide) (t := .int) (t' := .int) (by decide) (by decide))))
    have F_dense_214 : Fld Z h204 o0 "com/example/sidestep/sidestep/Starts" "dense" "Z" (.int (0 : Int32)) := (F_dense_199.other W204 (Or.inr (slot_ne (Or.inl (hw _ (List.mem_of_getElem? (i := 96) rfl))) (Or.inl (hw _ (List.mem_of_getElem? (i := 92) rfl))) (by decide) (t := .boolean) (t' := .int) (by decide) (by decide))))
    have F_marking_215 : Fld Z h204 o0 "com/example/sidestep/sidestep/Starts" "marking" "I" (.int (0 : Int32)) := (F_marking_200.other W204 (Or.inr (slot_ne (Or.inl (hw _ (List.mem_of_getElem? (i := 102) rfl))) (Or.inl (hw _ (List.mem_of_getElem? (i := 92) rfl))) (by decide) (t := .int) (t' := .int) (by decide) (by decide))))
    have F_sections_216 : Fld Z h204 o0 "com/example/sidestep/sidestep/Starts" "sections" "I" (.int (0 : Int32)) := (F_sections_201.other W204 (Or.inr (slot_ne (Or.inl (hw _ (List.mem_of_getElem? (i := 104) rfl))) (Or.inl (hw _ (List.mem_of_getElem? (i := 92) rfl))) (by decide) (t := .int) (t' := .int) (by decide) (by decide))))
    have F_handedSections_217 : Fld Z h204 o0 "com/example/sidestep/sidestep/Starts" "handedSections" "I" (.int (0 : Int32)) := (F_handedSections_202.other W204 (Or.inr (slot_ne (Or.inl (hw _ (List.mem_of_getElem? (i := 106) rfl))) (Or.inl (hw _ (List.mem_of_getElem? (i := 92) rfl))) (by decide) (t := .int) (t' := .int) (by decide) (by decide))))
    have Vw_218 : Arv Z h204 ow kw .long nw vs (.long (0 : Int64)) := (Vw_203.other W204 hne)
    have N204 := Fr.snoc X204 N188 gn_o0
    refine Got.step st204 ?_
    show Got p e below s _ _ _ _ T204 (mkF m 92 #[.val (.ref o0), .val (.ref o1), .val (.int p2), .val (.int p3), .val .null] [])
    refine Got.step (T' := T204) (g' := (mkF m 94 #[.val (.ref o0), .val (.ref o1), .val (.int p2), .val (.int p3), .val .null] [(.int (0 : Int32)), (.ref o0)])) (fun tq kt => ?_) ?_
    · show Steps p.tables e below (T204.setTop (mkF m 92 #[.val (.ref o0), .val (.ref o1), .val (.int p2), .val (.int p3), .val .null] [])) _
      refine XS.aloadN X204.here hx rfl (hb hby d7_92) rfl rfl ?_
      show Steps p.tables e below (T204.setTop (mkF m 93 #[.val (.ref o0), .val (.ref o1), .val (.int p2), .val (.int p3), .val .null] [(.ref o0)])) _
      refine XS.iconst X204.here hx rfl (hb hby d7_93) ?_
      exact kt
    obtain ⟨T219, h219, X219, e219, W219, st219⟩ := putF X204 hx hZ hown (host := "") (Or.inl (hw _ (List.mem_of_getElem? (i := 93) rfl))) Via.refl e204 F_listedTo_213 E_o0_207 (Or.inl (hw _ (List.mem_of_getElem? (i := 94) rfl))) (hw _ (List.mem_of_getElem? (i := 3) rfl)) (ty := .int) (by decide) rfl rfl (g := (mkF m 94 #[.val (.ref o0), .val (.ref o1), .val (.int p2), .val (.int p3), .val .null] [(.int (0 : Int32)), (.ref o0)])) rfl rfl (hb hby d7_94)
    have Z0_220 : n0 ≤ h219.size := (Nat.le_trans Z0_205 (Keep.of_wr W219).1)
    have K0_221 : Keep h0 h219 [o0] := (K0_206.wr W219 (Or.inl (List.mem_of_getElem? (i := 0) rfl)))
    have E_o0_222 : Exa Z h219 o0 "com/example/sidestep/sidestep/Starts" := (E_o0_207.wr W219)
    have F_lastOffset_223 : Fld Z h219 o0 "com/example/sidestep/sidestep/Starts" "lastOffset" "I" (.int lo) := (F_lastOffset_208.other W219 (Or.inr (slot_ne (Or.inr (hw _ (List.mem_of_getElem? (i := 29) rfl))) (Or.inl (hw _ (List.mem_of_getElem? (i := 94) rfl))) (by decide) (t := .int) (t' := .int) (by decide) (by decide))))
    have F_length_224 : Fld Z h219 o0 "com/example/sidestep/sidestep/Starts" "length" "I" (.int ln) := (F_length_209.other W219 (Or.inr (slot_ne (Or.inr (hw _ (List.mem_of_getElem? (i := 25) rfl))) (Or.inl (hw _ (List.mem_of_getElem? (i := 94) rfl))) (by decide) (t := .int) (t' := .int) (by decide) (by decide))))
    have F_patternWords_225 : Fld Z h219 o0 "com/example/sidestep/sidestep/Starts" "patternWords" "[J" (.ref ow) := (F_patternWords_210.other W219 (Or.inr (slot_ne (Or.inr (hw _ (List.mem_of_getElem? (i := 59) rfl))) (Or.inl (hw _ (List.mem_of_getElem? (i := 94) rfl))) (by decide) (t := (.array .long)) (t' := .int) (by decide) (by decide))))
    have F_wholeEnd_226 : Fld Z h219 o0 "com/example/sidestep/sidestep/Starts" "wholeEnd" "I" (.int (f3 p2 (p3 - lo))) := (F_wholeEnd_211.other W219 (Or.inr (slot_ne (Or.inl (hw _ (List.mem_of_getElem? (i := 86) rfl))) (Or.inl (hw _ (List.mem_of_getElem? (i := 94) rfl))) (by decide) (t := .int) (t' := .int) (by decide) (by decide))))
    have F_listedTo_227 : Fld Z h219 o0 "com/example/sidestep/sidestep/Starts" "listedTo" "I" (.int (0 : Int32)) := (F_listedTo_213.same W219)
    have F_dense_228 : Fld Z h219 o0 "com/example/sidestep/sidestep/Starts" "dense" "Z" (.int (0 : Int32)) := (F_dense_214.other W219 (Or.inr (slot_ne (Or.inl (hw _ (List.mem_of_getElem? (i := 96) rfl))) (Or.inl (hw _ (List.mem_of_getElem? (i := 94) rfl))) (by decide) (t := .boolean) (t' := .int) (by decide) (by decide))))
    have F_marking_229 : Fld Z h219 o0 "com/example/sidestep/sidestep/Starts" "marking" "I" (.int (0 : Int32)) := (F_marking_215.other W219 (Or.inr (slot_ne (Or.inl (hw _ (List.mem_of_getElem? (i := 102) rfl))) (Or.inl (hw _ (List.mem_of_getElem? (i := 94) rfl))) (by decide) (t := .int) (t' := .int) (by decide) (by decide))))
    have F_sections_230 : Fld Z h219 o0 "com/example/sidestep/sidestep/Starts" "sections" "I" (.int (0 : Int32)) := (F_sections_216.other W219 (Or.inr (slot_ne (Or.inl (hw _ (List.mem_of_getElem? (i := 104) rfl))) (Or.inl (hw _ (List.mem_of_getElem? (i := 94) rfl))) (by decide) (t := .int) (t' := .int) (by decide) (by decide))))
    have F_handedSections_231 : Fld Z h219 o0 "com/example/sidestep/sidestep/Starts" "handedSections" "I" (.int (0 : Int32)) := (F_handedSections_217.other W219 (Or.inr (slot_ne (Or.inl (hw _ (List.mem_of_getElem? (i := 106) rfl))) (Or.inl (hw _ (List.mem_of_getElem? (i := 94) rfl))) (by decide) (t := .int) (t' := .int) (by decide) (by decide))))
    have Vw_232 : Arv Z h219 ow kw .long nw vs (.long (0 : Int64)) := (Vw_218.other W219 hne)
    have N219 := Fr.snoc X219 N204 gn_o0
    refine Got.step st219 ?_
    show Got p e below s _ _ _ _ T219 (mkF m 97 #[.val (.ref o0), .val (.ref o1), .val (.int p2), .val (.int p3), .val .null] [])
    refine Got.step (T' := T219) (g' := (mkF m 99 #[.val (.ref o0), .val (.ref o1), .val (.int p2), .val (.int p3), .val .null] [(.int (0 : Int32)), (.ref o0)])) (fun tq kt => ?_) ?_
    · show Steps p.tables e below (T219.setTop (mkF m 97 #[.val (.ref o0), .val (.ref o1), .val (.int p2), .val (.int p3), .val .null] [])) _
      refine XS.aloadN X219.here hx rfl (hb hby d7_97) rfl rfl ?_
      show Steps p.tables e below (T219.setTop (mkF m 98 #[.val (.ref o0), .val (.ref o1), .val (.int p2), .val (.int p3), .val .null] [(.ref o0)])) _
      refine XS.iconst X219.here hx rfl (hb hby d7_98) ?_
      exact kt
    obtain ⟨T233, h233, X233, e233, W233, st233⟩ := putFN X219 hx hZ hown (hw _ (List.mem_of_getElem? (i := 95) rfl)) Via.refl e219 F_dense_228 E_o0_222 (Or.inl (hw _ (List.mem_of_getElem? (i := 96) rfl))) (hw _ (List.mem_of_getElem? (i := 3) rfl)) (ty := .boolean) (v' := (.int (0 : Int32))) (by decide) rfl (by decide) (g := (mkF m 99 #[.val (.ref o0), .val (.ref o1), .val (.int p2), .val (.int p3), .val .null] [(.int (0 : Int32)), (.ref o0)])) rfl rfl (hb hby d7_99)
    have Z0_234 : n0 ≤ h233.size := (Nat.le_trans Z0_220 (Keep.of_wr W233).1)
    have K0_235 : Keep h0 h233 [o0] := (K0_221.wr W233 (Or.inl (List.mem_of_getElem? (i := 0) rfl)))
    have E_o0_236 : Exa Z h233 o0 "com/example/sidestep/sidestep/Starts" := (E_o0_222.wr W233)
    have F_lastOffset_237 : Fld Z h233 o0 "com/example/sidestep/sidestep/Starts" "lastOffset" "I" (.int lo) := (F_lastOffset_223.other W233 (Or.inr (slot_ne (Or.inr (hw _ (List.mem_of_getElem? (i := 29) rfl))) (Or.inl (hw _ (List.mem_of_getElem? (i := 96) rfl))) (by decide) (t := .int) (t' := .boolean) (by decide) (by decide))))
    have F_length_238 : Fld Z h233 o0 "com/example/sidestep/sidestep/Starts" "length" "I" (.int ln) := (F_length_224.other W233 (Or.inr (slot_ne (Or.inr (hw _ (List.mem_of_getElem? (i := 25) rfl))) (Or.inl (hw _ (List.mem_of_getElem? (i := 96) rfl))) (by decide) (t := .int) (t' := .boolean) (by decide) (by decide))))
    have F_patternWords_239 : Fld Z h233 o0 "com/example/sidestep/sidestep/Starts" "patternWords" "[J" (.ref ow) := (F_patternWords_225.other W233 (Or.inr (slot_ne (Or.inr (hw _ (List.mem_of_getElem? (i := 59) rfl))) (Or.inl (hw _ (List.mem_of_getElem? (i := 96) rfl))) (by decide) (t := (.array .long)) (t' := .boolean) (by decide) (by decide))))
    have F_wholeEnd_240 : Fld Z h233 o0 "com/example/sidestep/sidestep/Starts" "wholeEnd" "I" (.int (f3 p2 (p3 - lo))) := (F_wholeEnd_226.other W233 (Or.inr (slot_ne (Or.inl (hw _ (List.mem_of_getElem? (i := 86) rfl))) (Or.inl (hw _ (List.mem_of_getElem? (i := 96) rfl))) (by decide) (t := .int) (t' := .boolean) (by decide) (by decide))))
    have F_dense_241 : Fld Z h233 o0 "com/example/sidestep/sidestep/Starts" "dense" "Z" (.int (0 : Int32)) := (F_dense_228.same W233)
    have F_marking_242 : Fld Z h233 o0 "com/example/sidestep/sidestep/Starts" "marking" "I" (.int (0 : Int32)) := (F_marking_229.other W233 (Or.inr (slot_ne (Or.inl (hw _ (List.mem_of_getElem? (i := 102) rfl))) (Or.inl (hw _ (List.mem_of_getElem? (i := 96) rfl))) (by decide) (t := .int) (t' := .boolean) (by decide) (by decide))))
    have F_sections_243 : Fld Z h233 o0 "com/example/sidestep/sidestep/Starts" "sections" "I" (.int (0 : Int32)) := (F_sections_230.other W233 (Or.inr (slot_ne (Or.inl (hw _ (List.mem_of_getElem? (i := 104) rfl))) (Or.inl (hw _ (List.mem_of_getElem? (i := 96) rfl))) (by decide) (t := .int) (t' := .boolean) (by decide) (by decide))))
    have F_handedSections_244 : Fld Z h233 o0 "com/example/sidestep/sidestep/Starts" "handedSections" "I" (.int (0 : Int32)) := (F_handedSections_231.other W233 (Or.inr (slot_ne (Or.inl (hw _ (List.mem_of_getElem? (i := 106) rfl))) (Or.inl (hw _ (List.mem_of_getElem? (i := 96) rfl))) (by decide) (t := .int) (t' := .boolean) (by decide) (by decide))))
    have Vw_245 : Arv Z h233 ow kw .long nw vs (.long (0 : Int64)) := (Vw_232.other W233 hne)
    have N233 := Fr.snoc X233 N219 gn_o0
    refine Got.step st233 ?_
    show Got p e below s _ _ _ _ T233 (mkF m 102 #[.val (.ref o0), .val (.ref o1), .val (.int p2), .val (.int p3), .val .null] [])
    refine Got.step (T' := T233) (g' := (mkF m 103 #[.val (.ref o0), .val (.ref o1), .val (.int p2), .val (.int p3), .val .null] [(.ref o0)])) (fun tq kt => ?_) ?_
    · show Steps p.tables e below (T233.setTop (mkF m 102 #[.val (.ref o0), .val (.ref o1), .val (.int p2), .val (.int p3), .val .null] [])) _
      refine XS.aloadN X233.here hx rfl (hb hby d7_102) rfl rfl ?_
      exact kt
    obtain ⟨cq246, qa246, qb246⟩ := E_o0_236.cell
    obtain ⟨_, _, ⟨T246, L246, k246, n246⟩, -, X246, ⟨Lc246, hQ246, l246, y246, z246⟩, st246⟩ := X233.privateBack hx (y := (⟨"com/example/sidestep/sidestep/Starts", "forgetGroup", "()V"⟩ : MethodName)) hown (mvT hZ (hw _ (List.mem_of_getElem? (i := 97) rfl))) (mvT hZ (hw _ (List.mem_of_getElem? (i := 98) rfl))) (own_sel (args := #[]) (mvT hZ (hw _ (List.mem_of_getElem? (i := 73) rfl))) (Cond.privateMethod_at (mvP hZ (hw _ (List.mem_of_getElem? (i := 99) rfl)) (args := #[]))) (mvT hZ (hw _ (List.mem_of_getElem? (i := 98) rfl)) (args := #[]))) (Cond.privateMethod_at (mvP hZ (hw _ (List.mem_of_getElem? (i := 99) rfl)) (args := #[]))) (mvT hZ (hw _ (List.mem_of_getElem? (i := 100) rfl))) (by decide) (backOf (W := 0) (rm8 l Z a0 hw [] o0 (f3 p2 (p3 - lo)) h233 n0 Z0_234 gn_o0 E_o0_236 F_wholeEnd_240 F_marking_242 F_sections_243 F_handedSections_244 ) hZ (hw _ (List.mem_of_getElem? (i := 100) rfl)) (hw _ (List.mem_of_getElem? (i := 4) rfl)) (by decide) (by decide)) (g := (mkF m 103 #[.val (.ref o0), .val (.ref o1), .val (.int p2), .val (.int p3), .val .null] [(.ref o0)])) rfl (by rw [hml]; rfl) (Steps.refl _) (a := o0) (by rw [e233]; exact qa246) qb246 (argsL := []) (rest := []) (lenOf pd_1 rfl) rfl (by show 2 * 0 + _ ≤ _; exact Nat.le_of_eq rfl) (hb hby d7_103) (fun _ _ => ⟨rfl, e233, (by decide : 0 + 0 ≤ _), (by decide : 0 + 0 ≤ _)⟩)
    dsimp only [Pt.U, Pt.locs, Pt.cells, Pt.slots] at X246 l246 y246 z246 st246 hQ246
    subst y246 z246
    obtain ⟨h246, e246⟩ : ∃ z, T246.heap = z := ⟨_, rfl⟩
    rw [e246] at hQ246
    obtain ⟨rfl, Nq246, K246, E246, G246_wholeEnd⟩ := hQ246
    have N246 : Fr n0 L246 := by rw [l246]; exact Fr.app N233 Nq246
    have Z0_247 : n0 ≤ h246.size := (Nat.le_trans Z0_234 K246.1)
    have K0_248 : Keep h0 h246 [o0] := (K0_235.trans K246 (allS (Or.inl (List.mem_of_getElem? (i := 0) rfl)) all0))
    have E_o0_249 : Exa Z h246 o0 "com/example/sidestep/sidestep/Starts" := (E_o0_236.keep K246)
    have Vw_250 : Arv Z h246 ow kw .long nw vs (.long (0 : Int64)) := (Vw_245.keep K246 (ninS hne nin0))
    refine Got.hop st246 ?_
    show Got p e below s _ _ _ _ T246 (mkF m 106 #[.val (.ref o0), .val (.ref o1), .val (.int p2), .val (.int p3), .val .null] [])
    exact Got.retV X246 hx Bd.returns hlk (hb hby d7_106) ⟨N246, by rw [e246]; exact K0_248, by rw [e246]; exact E_o0_249, by rw [e246]; exact G246_wholeEnd⟩ (by decide) (by decide)
  by_cases hc151 : (nw = 0)
  · refine Got.step (T' := T148) (g' := (mkF m 79 #[.val (.ref o0), .val (.ref o1), .val (.int p2), .val (.int p3), .val .null] [(.int (0 : Int32)), (.ref o0)])) (fun tq kt => ?_) ?_
    · show Steps p.tables e below (T148.setTop (mkF m 55 #[.val (.ref o0), .val (.ref o1), .val (.int p2), .val (.int p3), .val .null] [(.int nw), (.ref o0)])) _
      refine XS.ifNo X148.here hx rfl (hb hby d7_55) rfl (XT.i0_ne_f hc151) ?_
      show Steps p.tables e below (T148.setTop (mkF m 58 #[.val (.ref o0), .val (.ref o1), .val (.int p2), .val (.int p3), .val .null] [(.ref o0)])) _
      refine XS.iconst X148.here hx rfl (hb hby d7_58) ?_
      show Steps p.tables e below (T148.setTop (mkF m 59 #[.val (.ref o0), .val (.ref o1), .val (.int p2), .val (.int p3), .val .null] [(.int (0 : Int32)), (.ref o0)])) _
      refine XS.goto X148.here hx rfl (pc0 := 59) (pc' := 79) rfl (hb hby d7_59) (by decide) (by decide) ?_
      exact kt
    exact J150 _ _ _ X148 e148 N131 (0 : Int32) (if_pos hc151).symm Z0_132 K0_133 E_o0_134 F_lastOffset_135 F_length_136 F_patternWords_137 F_wholeEnd_138 F_decidedEnd_139 F_placed_140 F_taken_141 F_listedTo_142 F_dense_143 F_marking_144 F_sections_145 F_handedSections_146 Vw_147
  · refine Got.step (T' := T148) (g' := (mkF m 67 #[.val (.ref o0), .val (.ref o1), .val (.int p2), .val (.int p3), .val .null] [(.ref o0), (.int (8 : Int32)), (.int p3), (.int p2), (.ref o0)])) (fun tq kt => ?_) ?_
    · show Steps p.tables e below (T148.setTop (mkF m 55 #[.val (.ref o0), .val (.ref o1), .val (.int p2), .val (.int p3), .val .null] [(.int nw), (.ref o0)])) _
      refine XS.ifYes X148.here hx rfl (pc0 := 55) (pc' := 62) rfl (hb hby d7_55) rfl (XT.i0_ne_t hc151) (by decide) (by decide) ?_
      show Steps p.tables e below (T148.setTop (mkF m 62 #[.val (.ref o0), .val (.ref o1), .val (.int p2), .val (.int p3), .val .null] [(.ref o0)])) _
      refine XS.iloadN X148.here hx rfl (hb hby d7_62) rfl ?_
      show Steps p.tables e below (T148.setTop (mkF m 63 #[.val (.ref o0), .val (.ref o1), .val (.int p2), .val (.int p3), .val .null] [(.int p2), (.ref o0)])) _
      refine XS.iloadN X148.here hx rfl (hb hby d7_63) rfl ?_
      show Steps p.tables e below (T148.setTop (mkF m 64 #[.val (.ref o0), .val (.ref o1), .val (.int p2), .val (.int p3), .val .null] [(.int p3), (.int p2), (.ref o0)])) _
      refine XS.bipush X148.here hx rfl (hb hby d7_64) ?_
      show Steps p.tables e below (T148.setTop (mkF m 66 #[.val (.ref o0), .val (.ref o1), .val (.int p2), .val (.int p3), .val .null] [(.int (8 : Int32)), (.int p3), (.int p2), (.ref o0)])) _
      refine XS.aloadN X148.here hx rfl (hb hby d7_66) rfl rfl ?_
      exact kt
    obtain ⟨T152, X152, e152, st152⟩ := getF X148 hx hZ hown (host := "") (Or.inl (hw _ (List.mem_of_getElem? (i := 24) rfl))) Via.refl e148 F_length_136 (g := (mkF m 67 #[.val (.ref o0), .val (.ref o1), .val (.int p2), .val (.int p3), .val .null] [(.ref o0), (.int (8 : Int32)), (.int p3), (.int p2), (.ref o0)])) rfl rfl (hb hby d7_67)
    refine Got.step st152 ?_
    show Got p e below s _ _ _ _ T152 (mkF m 70 #[.val (.ref o0), .val (.ref o1), .val (.int p2), .val (.int p3), .val .null] [(.int ln), (.int (8 : Int32)), (.int p3), (.int p2), (.ref o0)])
    obtain ⟨_, _, ⟨T153, L153, k153, n153⟩, -, X153, ⟨Lc153, hQ153, l153, y153, z153⟩, st153⟩ := Jvm.LawKit.callS X152 hx (y := (⟨"java/lang/Math", "max", "(II)I"⟩ : MethodName)) hown (mvT hZ (hw _ (List.mem_of_getElem? (i := 38) rfl))) (mvT hZ (hw _ (List.mem_of_getElem? (i := 39) rfl))) (mvT hZ (hw _ (List.mem_of_getElem? (i := 32) rfl))) (mvT hZ (hw _ (List.mem_of_getElem? (i := 40) rfl))) (by decide) (backOf (W := 3) (rm4 l Z a0 hw [] (8 : Int32) ln h131 n0 Z0_132) hZ (hw _ (List.mem_of_getElem? (i := 40) rfl)) (hw _ (List.mem_of_getElem? (i := 32) rfl)) (by decide) (by decide)) (g := (mkF m 70 #[.val (.ref o0), .val (.ref o1), .val (.int p2), .val (.int p3), .val .null] [(.int ln), (.int (8 : Int32)), (.int p3), (.int p2), (.ref o0)])) rfl (by rw [hml]; rfl) (argsL := [(.int (8 : Int32)), (.int ln)]) (rest := [(.int p3), (.int p2), (.ref o0)]) (lenOf pd_0 rfl) rfl (by show 2 * 0 + _ ≤ _; exact Nat.le_of_eq rfl) (hb hby d7_70) (fun _ _ => ⟨rfl, e152, (by decide : 0 + 0 ≤ _), (by decide : 0 + 0 ≤ _)⟩)
    dsimp only [Pt.U, Pt.locs, Pt.cells, Pt.slots] at X153 l153 y153 z153 st153 hQ153
    subst y153 z153
    obtain ⟨rfl, Nq153, e153⟩ := hQ153
    have N153 : Fr n0 L153 := by rw [l153]; exact Fr.app N131 Nq153
    refine Got.step st153 ?_
    show Got p e below s _ _ _ _ T153 (mkF m 73 #[.val (.ref o0), .val (.ref o1), .val (.int p2), .val (.int p3), .val .null] [(.int (f4 (8 : Int32) ln)), (.int p3), (.int p2), (.ref o0)])
    refine Got.step (T' := T153) (g' := (mkF m 76 #[.val (.ref o0), .val (.ref o1), .val (.int p2), .val (.int p3), .val .null] [(.int ((p3 - (f4 (8 : Int32) ln)) + (1 : Int32))), (.int p2), (.ref o0)])) (fun tq kt => ?_) ?_
    · show Steps p.tables e below (T153.setTop (mkF m 73 #[.val (.ref o0), .val (.ref o1), .val (.int p2), .val (.int p3), .val .null] [(.int (f4 (8 : Int32) ln)), (.int p3), (.int p2), (.ref o0)])) _
      refine XS.isub X153.here hx rfl (hb hby d7_73) rfl ?_
      show Steps p.tables e below (T153.setTop (mkF m 74 #[.val (.ref o0), .val (.ref o1), .val (.int p2), .val (.int p3), .val .null] [(.int (p3 - (f4 (8 : Int32) ln))), (.int p2), (.ref o0)])) _
      refine XS.iconst X153.here hx rfl (hb hby d7_74) ?_
      show Steps p.tables e below (T153.setTop (mkF m 75 #[.val (.ref o0), .val (.ref o1), .val (.int p2), .val (.int p3), .val .null] [(.int (1 : Int32)), (.int (p3 - (f4 (8 : Int32) ln))), (.int p2), (.ref o0)])) _
      refine XS.iadd X153.here hx rfl (hb hby d7_75) rfl ?_
      exact kt
    obtain ⟨_, _, ⟨T154, L154, k154, n154⟩, -, X154, ⟨Lc154, hQ154, l154, y154, z154⟩, st154⟩ := Jvm.LawKit.callS X153 hx (y := (⟨"java/lang/Math", "min", "(II)I"⟩ : MethodName)) hown (mvT hZ (hw _ (List.mem_of_getElem? (i := 30) rfl))) (mvT hZ (hw _ (List.mem_of_getElem? (i := 31) rfl))) (mvT hZ (hw _ (List.mem_of_getElem? (i := 32) rfl))) (mvT hZ (hw _ (List.mem_of_getElem? (i := 33) rfl))) (by decide) (backOf (W := 1) (rm3 l Z a0 hw [] p2 ((p3 - (f4 (8 : Int32) ln)) + (1 : Int32)) h131 n0 Z0_132) hZ (hw _ (List.mem_of_getElem? (i := 33) rfl)) (hw _ (List.mem_of_getElem? (i := 32) rfl)) (by decide) (by decide)) (g := (mkF m 76 #[.val (.ref o0), .val (.ref o1), .val (.int p2), .val (.int p3), .val .null] [(.int ((p3 - (f4 (8 : Int32) ln)) + (1 : Int32))), (.int p2), (.ref o0)])) rfl (by rw [hml]; rfl) (argsL := [(.int p2), (.int ((p3 - (f4 (8 : Int32) ln)) + (1 : Int32)))]) (rest := [(.ref o0)]) (lenOf pd_0 rfl) rfl (by show 2 * 0 + _ ≤ _; exact Nat.le_of_eq rfl) (hb hby d7_76) (fun _ _ => ⟨rfl, e153, (by decide : 0 + 0 ≤ _), (by decide : 0 + 0 ≤ _)⟩)
    dsimp only [Pt.U, Pt.locs, Pt.cells, Pt.slots] at X154 l154 y154 z154 st154 hQ154
    subst y154 z154
    obtain ⟨rfl, Nq154, e154⟩ := hQ154
    have N154 : Fr n0 L154 := by rw [l154]; exact Fr.app N153 Nq154
    refine Got.step st154 ?_
    show Got p e below s _ _ _ _ T154 (mkF m 79 #[.val (.ref o0), .val (.ref o1), .val (.int p2), .val (.int p3), .val .null] [(.int (f3 p2 ((p3 - (f4 (8 : Int32) ln)) + (1 : Int32)))), (.ref o0)])
    exact J150 _ _ _ X154 e154 N154 (f3 p2 ((p3 - (f4 (8 : Int32) ln)) + (1 : Int32))) (if_neg hc151).symm Z0_132 K0_133 E_o0_134 F_lastOffset_135 F_length_136 F_patternWords_137 F_wholeEnd_138 F_decidedEnd_139 F_placed_140 F_taken_141 F_listedTo_142 F_dense_143 F_marking_144 F_sections_145 F_handedSections_146 Vw_147
theorem pd_2 : parseMethodDescriptor "([BIILcom/example/sidestep/sidestep/Starts$LowBytes;)V" = some ⟨[(.array .byte), .int, .int, (.object "com/example/sidestep/sidestep/Starts$LowBytes")], none⟩ := by decide +kernel
theorem ef_6 (m : MethodId) (x0 : Addr) (x1 : Addr) (x2 : Int32) (x3 : Int32) : entryFrame m #[(.ref x0), (.ref x1), (.int x2), (.int x3)] 4 = mkF m 0 #[.val (.ref x0), .val (.ref x1), .val (.int x2), .val (.int x3)] [] := by first | (simp [entryFrame, mkF, argsToLocals, Value.category]; done) | rfl
theorem d6_0 : decode prog_6_method_2_code 0 = .ok (.aload_n 0, 1) := by decide +kernel
theorem d6_1 : decode prog_6_method_2_code 1 = .ok (.aload_n 1, 1) := by decide +kernel
theorem d6_2 : decode prog_6_method_2_code 2 = .ok (.iload_n 2, 1) := by decide +kernel
theorem d6_3 : decode prog_6_method_2_code 3 = .ok (.iload_n 3, 1) := by decide +kernel
theorem d6_4 : decode prog_6_method_2_code 4 = .ok (.aconst_null, 1) := by decide +kernel
theorem d6_5 : decode prog_6_method_2_code 5 = .ok (.invokevirtual 95, 3) := by decide +kernel
theorem d6_8 : decode prog_6_method_2_code 8 = .ok (.return_, 1) := by decide +kernel
set_option maxRecDepth 65536 in
set_option maxHeartbeats 40000000 in
theorem rm6 (l : Launch) (Z : State) (a0 : Array Value) (hw : ∀ d ∈ tables_1, d.before a0 Z = true) (ws : List Jvm.Cond) (o0 : Addr) (o1 : Addr) (p2 : Int32) (p3 : Int32) (lo : Int32) (ln : Int32) (ow : Addr) (kw : ClassId) (nw : Int32) (vs : List Value) (h0 : Heap) (n0 : Nat) (Z0 : n0 ≤ h0.size) (gn_o0 : n0 ≤ o0) (E_o0 : Exa Z h0 o0 "com/example/sidestep/sidestep/Starts") (F_lastOffset : Fld Z h0 o0 "com/example/sidestep/sidestep/Starts" "lastOffset" "I" (.int lo)) (F_length : Fld Z h0 o0 "com/example/sidestep/sidestep/Starts" "length" "I" (.int ln)) (F_patternWords : Fld Z h0 o0 "com/example/sidestep/sidestep/Starts" "patternWords" "[J" (.ref ow)) (F_source : Fld Z h0 o0 "com/example/sidestep/sidestep/Starts" "source" "Lcom/example/sidestep/sidestep/Starts$LowBytes;" .null) (F_copiedTo : Fld Z h0 o0 "com/example/sidestep/sidestep/Starts" "copiedTo" "I" (.int (0 : Int32))) (F_lowBytes : Fld Z h0 o0 "com/example/sidestep/sidestep/Starts" "lowBytes" "[B" .null) (F_to : Fld Z h0 o0 "com/example/sidestep/sidestep/Starts" "to" "I" (.int (0 : Int32))) (F_placesEnd : Fld Z h0 o0 "com/example/sidestep/sidestep/Starts" "placesEnd" "I" (.int (0 : Int32))) (F_wholeEnd : Fld Z h0 o0 "com/example/sidestep/sidestep/Starts" "wholeEnd" "I" (.int (0 : Int32))) (F_decidedEnd : Fld Z h0 o0 "com/example/sidestep/sidestep/Starts" "decidedEnd" "I" (.int (0 : Int32))) (F_placed : Fld Z h0 o0 "com/example/sidestep/sidestep/Starts" "placed" "I" (.int (0 : Int32))) (F_taken : Fld Z h0 o0 "com/example/sidestep/sidestep/Starts" "taken" "I" (.int (0 : Int32))) (F_listedTo : Fld Z h0 o0 "com/example/sidestep/sidestep/Starts" "listedTo" "I" (.int (0 : Int32))) (F_dense : Fld Z h0 o0 "com/example/sidestep/sidestep/Starts" "dense" "Z" (.int (0 : Int32))) (F_marking : Fld Z h0 o0 "com/example/sidestep/sidestep/Starts" "marking" "I" (.int (0 : Int32))) (F_sections : Fld Z h0 o0 "com/example/sidestep/sidestep/Starts" "sections" "I" (.int (0 : Int32))) (F_handedSections : Fld Z h0 o0 "com/example/sidestep/sidestep/Starts" "handedSections" "I" (.int (0 : Int32))) (Vw : Arv Z h0 ow kw .long nw vs (.long (0 : Int64))) (hne : ow ≠ o0) :
    MetFree l (⟨"com/example/sidestep/sidestep/Starts", "over", "([BII)V"⟩ : MethodName) (head1 (Jvm.Cond.code (⟨"com/example/sidestep/sidestep/Starts", "over", "([BII)V"⟩ : MethodName) prog_6_method_2_code 4 none :: ws) ({ frames := 2, cells := 0, slots := 0, locals := 32 } : Room)) (fun a U => a = #[(.ref o0), (.ref o1), (.int p2), (.int p3)] ∧ Z.Warmed39 U.vm ∧ U.heap = h0) (fun _ _ _ _ _ => True) (fun _ U o U' => ∃ v L, o = .returned v ∧ QV none (fun h L => Fr n0 L ∧ Keep h0 h [o0] ∧ Exa Z h o0 "com/example/sidestep/sidestep/Starts" ∧ Fld Z h o0 "com/example/sidestep/sidestep/Starts" "wholeEnd" "I" (.int (f3 p2 (p3 - lo)))) v U'.heap L ∧ FrameEnd U o U' L ({ frames := 2, cells := 0, slots := 0, locals := 32 } : Room).cells ({ frames := 2, cells := 0, slots := 0, locals := 32 } : Room).slots) := by
  refine MetFree.of_bodySF (plainFor_of_name pn_0) hisR ?_
  intro p e s m args below meth c s₁ Bd hml0 hP hK
  obtain ⟨rfl, hZ, hh⟩ := hP
  have hx := Bd.exec
  have hby := Bd.bytes
  have hml : c.maxLocals = 4 := hml0
  have hown : s.vm.findClass "com/example/sidestep/sidestep/Starts" = some m.cls := findClass_of_methodNamed Bd.named
  have hnm := (name_of_methodNamed Bd.named Bd.method).1
  have hlk : meth.locks = false := BodyLoose.notSynchronized Bd
  have X0 : Stand p l e ({ frames := 2, cells := 0, slots := 0, locals := 32 } : Room) s m #[(.ref o0), (.ref o1), (.int p2), (.int p3)] below meth c s₁ [] 0 0 := Stand.of_body Bd
  have e0 : s₁.heap = h0 := by rw [← hh, Bd.state]; rfl
  have N0 := Fr.nil n0
  refine Got.body (ef_6 m o0 o1 p2 p3) ?_
  have K0 := Keep.refl h0 [o0]
  refine Got.step (T' := s₁) (g' := (mkF m 5 #[.val (.ref o0), .val (.ref o1), .val (.int p2), .val (.int p3)] [.null, (.int p3), (.int p2), (.ref o1), (.ref o0)])) (fun tq kt => ?_) ?_
  · show Steps p.tables e below (s₁.setTop (mkF m 0 #[.val (.ref o0), .val (.ref o1), .val (.int p2), .val (.int p3)] [])) _
    refine XS.aloadN X0.here hx rfl (hb hby d6_0) rfl rfl ?_
    show Steps p.tables e below (s₁.setTop (mkF m 1 #[.val (.ref o0), .val (.ref o1), .val (.int p2), .val (.int p3)] [(.ref o0)])) _
    refine XS.aloadN X0.here hx rfl (hb hby d6_1) rfl rfl ?_
    show Steps p.tables e below (s₁.setTop (mkF m 2 #[.val (.ref o0), .val (.ref o1), .val (.int p2), .val (.int p3)] [(.ref o1), (.ref o0)])) _
    refine XS.iloadN X0.here hx rfl (hb hby d6_2) rfl ?_
    show Steps p.tables e below (s₁.setTop (mkF m 3 #[.val (.ref o0), .val (.ref o1), .val (.int p2), .val (.int p3)] [(.int p2), (.ref o1), (.ref o0)])) _
    refine XS.iloadN X0.here hx rfl (hb hby d6_3) rfl ?_
    show Steps p.tables e below (s₁.setTop (mkF m 4 #[.val (.ref o0), .val (.ref o1), .val (.int p2), .val (.int p3)] [(.int p3), (.int p2), (.ref o1), (.ref o0)])) _
    refine XS.aconstNull X0.here hx rfl (hb hby d6_4) ?_
    exact kt
  obtain ⟨cq251, kq251, qa251, qb251, qc251⟩ := isOf hZ e0 E_o0
  obtain ⟨_, _, ⟨T251, L251, k251, n251⟩, -, X251, ⟨Lc251, hQ251, l251, y251, z251⟩, st251⟩ := X0.virtualBack hx (y := (⟨"com/example/sidestep/sidestep/Starts", "over", "([BIILcom/example/sidestep/sidestep/Starts$LowBytes;)V"⟩ : MethodName)) (z := (⟨"com/example/sidestep/sidestep/Starts", "over", "([BIILcom/example/sidestep/sidestep/Starts$LowBytes;)V"⟩ : MethodName)) hown (mvT hZ (hw _ (List.mem_of_getElem? (i := 70) rfl))) (mvT hZ (hw _ (List.mem_of_getElem? (i := 71) rfl))) (notFace_of_selects (args := #[]) (mvT hZ (hw _ (List.mem_of_getElem? (i := 73) rfl)))) (mvT hZ (hw _ (List.mem_of_getElem? (i := 73) rfl))) (mvT hZ (hw _ (List.mem_of_getElem? (i := 72) rfl))) (by decide) (backOf (W := 0) (rm7 l Z a0 hw [] o0 o1 p2 p3 lo ln ow kw nw vs h0 n0 Z0 gn_o0 E_o0 F_lastOffset F_length F_patternWords F_source F_copiedTo F_lowBytes F_to F_placesEnd F_wholeEnd F_decidedEnd F_placed F_taken F_listedTo F_dense F_marking F_sections F_handedSections Vw hne) hZ (hw _ (List.mem_of_getElem? (i := 74) rfl)) (hw _ (List.mem_of_getElem? (i := 4) rfl)) (by decide) (by decide)) qa251 qc251 (g := (mkF m 5 #[.val (.ref o0), .val (.ref o1), .val (.int p2), .val (.int p3)] [.null, (.int p3), (.int p2), (.ref o1), (.ref o0)])) rfl (by rw [hml]; rfl) (Steps.refl _) (argsL := [(.ref o1), (.int p2), (.int p3), .null]) (rest := []) (lenOf pd_2 rfl) rfl (by show 2 * 0 + _ ≤ _; exact Nat.le_of_eq rfl) (hb hby d6_5) (fun _ _ => ⟨rfl, e0, (by decide : 0 + 0 ≤ _), (by decide : 0 + 0 ≤ _)⟩)
  dsimp only [Pt.U, Pt.locs, Pt.cells, Pt.slots] at X251 l251 y251 z251 st251 hQ251
  subst y251 z251
  obtain ⟨h251, e251⟩ : ∃ z, T251.heap = z := ⟨_, rfl⟩
  rw [e251] at hQ251
  obtain ⟨rfl, Nq251, K251, E251, G251_wholeEnd⟩ := hQ251
  have N251 : Fr n0 L251 := by rw [l251]; exact Fr.app N0 Nq251
  have Z0_252 : n0 ≤ h251.size := (Nat.le_trans Z0 K251.1)
  have K0_253 : Keep h0 h251 [o0] := (K0.trans K251 (allS (Or.inl (List.mem_of_getElem? (i := 0) rfl)) all0))
  have E_o0_254 : Exa Z h251 o0 "com/example/sidestep/sidestep/Starts" := (E_o0.keep K251)
  have Vw_255 : Arv Z h251 ow kw .long nw vs (.long (0 : Int64)) := (Vw.keep K251 (ninS hne nin0))
  refine Got.hop st251 ?_
  show Got p e below s _ _ _ _ T251 (mkF m 8 #[.val (.ref o0), .val (.ref o1), .val (.int p2), .val (.int p3)] [])
  exact Got.retV X251 hx Bd.returns hlk (hb hby d6_8) ⟨N251, by rw [e251]; exact K0_253, by rw [e251]; exact E_o0_254, by rw [e251]; exact G251_wholeEnd⟩ (by decide) (by decide)
def f10 (p1 : Int32) (we : Int32)  : Int32 := (if (we - p1) < (8 : Int32) then (0 : Int32) else (1 : Int32))
theorem ef_10 (m : MethodId) (x0 : Addr) (x1 : Int32) : entryFrame m #[(.ref x0), (.int x1)] 2 = mkF m 0 #[.val (.ref x0), .val (.int x1)] [] := by first | (simp [entryFrame, mkF, argsToLocals, Value.category]; done) | rfl
theorem d10_0 : decode prog_6_method_9_code 0 = .ok (.aload_n 0, 1) := by decide +kernel
theorem d10_1 : decode prog_6_method_9_code 1 = .ok (.getfield 116, 3) := by decide +kernel
theorem d10_4 : decode prog_6_method_9_code 4 = .ok (.iload_n 1, 1) := by decide +kernel
theorem d10_5 : decode prog_6_method_9_code 5 = .ok (.isub, 1) := by decide +kernel
theorem d10_6 : decode prog_6_method_9_code 6 = .ok (.bipush 8, 2) := by decide +kernel
theorem d10_8 : decode prog_6_method_9_code 8 = .ok (.if_icmp .lt 7, 3) := by decide +kernel
theorem d10_11 : decode prog_6_method_9_code 11 = .ok (.iconst 1, 1) := by decide +kernel
theorem d10_12 : decode prog_6_method_9_code 12 = .ok (.goto 4, 3) := by decide +kernel
theorem d10_15 : decode prog_6_method_9_code 15 = .ok (.iconst 0, 1) := by decide +kernel
theorem d10_16 : decode prog_6_method_9_code 16 = .ok (.ireturn, 1) := by decide +kernel
set_option maxRecDepth 65536 in
set_option maxHeartbeats 40000000 in
theorem rm10 (l : Launch) (Z : State) (a0 : Array Value) (hw : ∀ d ∈ tables_1, d.before a0 Z = true) (ws : List Jvm.Cond) (o0 : Addr) (p1 : Int32) (we : Int32)  (h0 : Heap) (n0 : Nat) (Z0 : n0 ≤ h0.size) (E_o0 : Exa Z h0 o0 "com/example/sidestep/sidestep/Starts") (F_wholeEnd : Fld Z h0 o0 "com/example/sidestep/sidestep/Starts" "wholeEnd" "I" (.int we))  :
    MetFree l (⟨"com/example/sidestep/sidestep/Starts", "talliesFrom", "(I)Z"⟩ : MethodName) (head1 (Jvm.Cond.code (⟨"com/example/sidestep/sidestep/Starts", "talliesFrom", "(I)Z"⟩ : MethodName) prog_6_method_9_code 2 (some .boolean) :: ws) ({ frames := 0, cells := 0, slots := 0, locals := 0 } : Room)) (fun a U => a = #[(.ref o0), (.int p1)] ∧ Z.Warmed39 U.vm ∧ U.heap = h0) (fun _ _ _ _ _ => True) (fun _ U o U' => ∃ v L, o = .returned v ∧ QV (some (.int (f10 p1 we))) (PureP n0 h0) v U'.heap L ∧ FrameEnd U o U' L ({ frames := 0, cells := 0, slots := 0, locals := 0 } : Room).cells ({ frames := 0, cells := 0, slots := 0, locals := 0 } : Room).slots) := by
  refine MetFree.of_bodySF (plainFor_of_name pn_0) hisR ?_
  intro p e s m args below meth c s₁ Bd hml0 hP hK
  obtain ⟨rfl, hZ, hh⟩ := hP
  have hx := Bd.exec
  have hby := Bd.bytes
  have hml : c.maxLocals = 2 := hml0
  have hown : s.vm.findClass "com/example/sidestep/sidestep/Starts" = some m.cls := findClass_of_methodNamed Bd.named
  have hnm := (name_of_methodNamed Bd.named Bd.method).1
  have hlk : meth.locks = false := BodyLoose.notSynchronized Bd
  have X0 : Stand p l e ({ frames := 0, cells := 0, slots := 0, locals := 0 } : Room) s m #[(.ref o0), (.int p1)] below meth c s₁ [] 0 0 := Stand.of_body Bd
  have e0 : s₁.heap = h0 := by rw [← hh, Bd.state]; rfl
  have N0 := Fr.nil n0
  refine Got.body (ef_10 m o0 p1) ?_
  refine Got.step (T' := s₁) (g' := (mkF m 1 #[.val (.ref o0), .val (.int p1)] [(.ref o0)])) (fun tq kt => ?_) ?_
  · show Steps p.tables e below (s₁.setTop (mkF m 0 #[.val (.ref o0), .val (.int p1)] [])) _
    refine XS.aloadN X0.here hx rfl (hb hby d10_0) rfl rfl ?_
    exact kt
  obtain ⟨T256, X256, e256, st256⟩ := getF X0 hx hZ hown (host := "") (Or.inl (hw _ (List.mem_of_getElem? (i := 85) rfl))) Via.refl e0 F_wholeEnd (g := (mkF m 1 #[.val (.ref o0), .val (.int p1)] [(.ref o0)])) rfl rfl (hb hby d10_1)
  refine Got.step st256 ?_
  show Got p e below s _ _ _ _ T256 (mkF m 4 #[.val (.ref o0), .val (.int p1)] [(.int we)])
  refine Got.step (T' := T256) (g' := (mkF m 8 #[.val (.ref o0), .val (.int p1)] [(.int (8 : Int32)), (.int (we - p1))])) (fun tq kt => ?_) ?_
  · show Steps p.tables e below (T256.setTop (mkF m 4 #[.val (.ref o0), .val (.int p1)] [(.int we)])) _
    refine XS.iloadN X256.here hx rfl (hb hby d10_4) rfl ?_
    show Steps p.tables e below (T256.setTop (mkF m 5 #[.val (.ref o0), .val (.int p1)] [(.int p1), (.int we)])) _
    refine XS.isub X256.here hx rfl (hb hby d10_5) rfl ?_
    show Steps p.tables e below (T256.setTop (mkF m 6 #[.val (.ref o0), .val (.int p1)] [(.int (we - p1))])) _
    refine XS.bipush X256.here hx rfl (hb hby d10_6) ?_
    exact kt
  refine Got.ite (q := ((we - p1) < (8 : Int32))) (fun hc257 => ?_) (fun hc257 => ?_)
  · refine Got.step (T' := T256) (g' := (mkF m 16 #[.val (.ref o0), .val (.int p1)] [(.int (0 : Int32))])) (fun tq kt => ?_) ?_
    · show Steps p.tables e below (T256.setTop (mkF m 8 #[.val (.ref o0), .val (.int p1)] [(.int (8 : Int32)), (.int (we - p1))])) _
      refine XS.icmpYes X256.here hx rfl (pc0 := 8) (pc' := 15) rfl (hb hby d10_8) rfl (XT.ii_lt_t hc257) (by decide) (by decide) ?_
      show Steps p.tables e below (T256.setTop (mkF m 15 #[.val (.ref o0), .val (.int p1)] [])) _
      refine XS.iconst X256.here hx rfl (hb hby d10_15) ?_
      exact kt
    exact Got.retN (y := (0 : Int32)) (t := .boolean) X256 hx Bd.returns (by simp) hlk (hb hby d10_16) (by decide) ⟨N0, e256⟩ (by decide) (by decide)
  · refine Got.step (T' := T256) (g' := (mkF m 16 #[.val (.ref o0), .val (.int p1)] [(.int (1 : Int32))])) (fun tq kt => ?_) ?_
    · show Steps p.tables e below (T256.setTop (mkF m 8 #[.val (.ref o0), .val (.int p1)] [(.int (8 : Int32)), (.int (we - p1))])) _
      refine XS.icmpNo X256.here hx rfl (hb hby d10_8) rfl (XT.ii_lt_f hc257) ?_
      show Steps p.tables e below (T256.setTop (mkF m 11 #[.val (.ref o0), .val (.int p1)] [])) _
      refine XS.iconst X256.here hx rfl (hb hby d10_11) ?_
      show Steps p.tables e below (T256.setTop (mkF m 12 #[.val (.ref o0), .val (.int p1)] [(.int (1 : Int32))])) _
      refine XS.goto X256.here hx rfl (pc0 := 12) (pc' := 16) rfl (hb hby d10_12) (by decide) (by decide) ?_
      exact kt
    exact Got.retN (y := (1 : Int32)) (t := .boolean) X256 hx Bd.returns (by simp) hlk (hb hby d10_16) (by decide) ⟨N0, e256⟩ (by decide) (by decide)
theorem pd_3 : parseMethodDescriptor "(I)J" = some ⟨[.int], some .long⟩ := by decide +kernel
theorem os1181 {z0 : Value} {z1 : Value} {z2 : Value} {s3 : Slot} {s4 : Slot} {v : Int32} (h : One s3) : storeLocals #[.val z0, .val z1, .val z2, s3, s4] 3 (.int v) = some #[.val z0, .val z1, .val z2, .val (.int v), s4] := by
  rcases h with rfl | ⟨w, rfl, hw⟩
  · rfl
  · cases w <;> first | rfl | (simp [Value.category] at hw)
theorem os1182 {z0 : Value} {z1 : Value} {z2 : Value} {z3 : Value} {s4 : Slot} {v : Int32} (h : One s4) : storeLocals #[.val z0, .val z1, .val z2, .val z3, s4] 4 (.int v) = some #[.val z0, .val z1, .val z2, .val z3, .val (.int v)] := by
  rcases h with rfl | ⟨w, rfl, hw⟩
  · rfl
  · cases w <;> first | rfl | (simp [Value.category] at hw)
theorem ef_1 (m : MethodId) (x0 : Addr) (x1 : Addr) : entryFrame m #[(.ref x0), (.ref x1)] 5 = mkF m 0 #[.val (.ref x0), .val (.ref x1), .unset, .unset, .unset] [] := by first | (simp [entryFrame, mkF, argsToLocals, Value.category]; done) | rfl
theorem d1_0 : decode prog_6_method_1_code 0 = .ok (.aload_n 0, 1) := by decide +kernel
theorem d1_1 : decode prog_6_method_1_code 1 = .ok (.invokespecial 7, 3) := by decide +kernel
theorem d1_4 : decode prog_6_method_1_code 4 = .ok (.aload_n 0, 1) := by decide +kernel
theorem d1_5 : decode prog_6_method_1_code 5 = .ok (.iconst 0, 1) := by decide +kernel
theorem d1_6 : decode prog_6_method_1_code 6 = .ok (.newarray .long, 2) := by decide +kernel
theorem d1_8 : decode prog_6_method_1_code 8 = .ok (.putfield 13, 3) := by decide +kernel
theorem d1_11 : decode prog_6_method_1_code 11 = .ok (.aload_n 0, 1) := by decide +kernel
theorem d1_12 : decode prog_6_method_1_code 12 = .ok (.bipush 32, 2) := by decide +kernel
theorem d1_14 : decode prog_6_method_1_code 14 = .ok (.newarray .long, 2) := by decide +kernel
theorem d1_16 : decode prog_6_method_1_code 16 = .ok (.putfield 17, 3) := by decide +kernel
theorem d1_19 : decode prog_6_method_1_code 19 = .ok (.aload_n 0, 1) := by decide +kernel
theorem d1_20 : decode prog_6_method_1_code 20 = .ok (.iconst 1, 1) := by decide +kernel
theorem d1_21 : decode prog_6_method_1_code 21 = .ok (.putfield 20, 3) := by decide +kernel
theorem d1_24 : decode prog_6_method_1_code 24 = .ok (.aload_n 0, 1) := by decide +kernel
theorem d1_25 : decode prog_6_method_1_code 25 = .ok (.iconst 1, 1) := by decide +kernel
theorem d1_26 : decode prog_6_method_1_code 26 = .ok (.newarray .int, 2) := by decide +kernel
theorem d1_28 : decode prog_6_method_1_code 28 = .ok (.putfield 24, 3) := by decide +kernel
theorem d1_31 : decode prog_6_method_1_code 31 = .ok (.aload_n 0, 1) := by decide +kernel
theorem d1_32 : decode prog_6_method_1_code 32 = .ok (.bipush 8, 2) := by decide +kernel
theorem d1_34 : decode prog_6_method_1_code 34 = .ok (.newarray .int, 2) := by decide +kernel
theorem d1_36 : decode prog_6_method_1_code 36 = .ok (.putfield 28, 3) := by decide +kernel
theorem d1_39 : decode prog_6_method_1_code 39 = .ok (.aload_n 0, 1) := by decide +kernel
theorem d1_40 : decode prog_6_method_1_code 40 = .ok (.iconst 0, 1) := by decide +kernel
theorem d1_41 : decode prog_6_method_1_code 41 = .ok (.newarray .long, 2) := by decide +kernel
theorem d1_43 : decode prog_6_method_1_code 43 = .ok (.putfield 31, 3) := by decide +kernel
theorem d1_46 : decode prog_6_method_1_code 46 = .ok (.aload_n 0, 1) := by decide +kernel
theorem d1_47 : decode prog_6_method_1_code 47 = .ok (.aload_n 1, 1) := by decide +kernel
theorem d1_48 : decode prog_6_method_1_code 48 = .ok (.arraylength, 1) := by decide +kernel
theorem d1_49 : decode prog_6_method_1_code 49 = .ok (.putfield 34, 3) := by decide +kernel
theorem d1_52 : decode prog_6_method_1_code 52 = .ok (.aload_n 0, 1) := by decide +kernel
theorem d1_53 : decode prog_6_method_1_code 53 = .ok (.aload_n 0, 1) := by decide +kernel
theorem d1_54 : decode prog_6_method_1_code 54 = .ok (.getfield 34, 3) := by decide +kernel
theorem d1_57 : decode prog_6_method_1_code 57 = .ok (.iconst 5, 1) := by decide +kernel
theorem d1_58 : decode prog_6_method_1_code 58 = .ok (.if_icmp .gt 7, 3) := by decide +kernel
theorem d1_61 : decode prog_6_method_1_code 61 = .ok (.iconst 1, 1) := by decide +kernel
theorem d1_62 : decode prog_6_method_1_code 62 = .ok (.goto 4, 3) := by decide +kernel
theorem d1_65 : decode prog_6_method_1_code 65 = .ok (.iconst 0, 1) := by decide +kernel
theorem d1_66 : decode prog_6_method_1_code 66 = .ok (.putfield 38, 3) := by decide +kernel
theorem d1_69 : decode prog_6_method_1_code 69 = .ok (.aload_n 0, 1) := by decide +kernel
theorem d1_70 : decode prog_6_method_1_code 70 = .ok (.aload_n 0, 1) := by decide +kernel
theorem d1_71 : decode prog_6_method_1_code 71 = .ok (.getfield 34, 3) := by decide +kernel
theorem d1_74 : decode prog_6_method_1_code 74 = .ok (.iconst 1, 1) := by decide +kernel
theorem d1_75 : decode prog_6_method_1_code 75 = .ok (.isub, 1) := by decide +kernel
theorem d1_76 : decode prog_6_method_1_code 76 = .ok (.putfield 41, 3) := by decide +kernel
theorem d1_79 : decode prog_6_method_1_code 79 = .ok (.aload_n 0, 1) := by decide +kernel
theorem d1_80 : decode prog_6_method_1_code 80 = .ok (.iconst 1, 1) := by decide +kernel
theorem d1_81 : decode prog_6_method_1_code 81 = .ok (.aload_n 0, 1) := by decide +kernel
theorem d1_82 : decode prog_6_method_1_code 82 = .ok (.getfield 41, 3) := by decide +kernel
theorem d1_85 : decode prog_6_method_1_code 85 = .ok (.invokestatic 44, 3) := by decide +kernel
theorem d1_88 : decode prog_6_method_1_code 88 = .ok (.putfield 50, 3) := by decide +kernel
theorem d1_91 : decode prog_6_method_1_code 91 = .ok (.aload_n 0, 1) := by decide +kernel
theorem d1_92 : decode prog_6_method_1_code 92 = .ok (.iconst 2, 1) := by decide +kernel
theorem d1_93 : decode prog_6_method_1_code 93 = .ok (.aload_n 0, 1) := by decide +kernel
theorem d1_94 : decode prog_6_method_1_code 94 = .ok (.getfield 41, 3) := by decide +kernel
theorem d1_97 : decode prog_6_method_1_code 97 = .ok (.invokestatic 44, 3) := by decide +kernel
theorem d1_100 : decode prog_6_method_1_code 100 = .ok (.putfield 53, 3) := by decide +kernel
theorem d1_103 : decode prog_6_method_1_code 103 = .ok (.aload_n 0, 1) := by decide +kernel
theorem d1_104 : decode prog_6_method_1_code 104 = .ok (.iconst 0, 1) := by decide +kernel
theorem d1_105 : decode prog_6_method_1_code 105 = .ok (.aload_n 0, 1) := by decide +kernel
theorem d1_106 : decode prog_6_method_1_code 106 = .ok (.getfield 41, 3) := by decide +kernel
theorem d1_109 : decode prog_6_method_1_code 109 = .ok (.iconst 1, 1) := by decide +kernel
theorem d1_110 : decode prog_6_method_1_code 110 = .ok (.isub, 1) := by decide +kernel
theorem d1_111 : decode prog_6_method_1_code 111 = .ok (.invokestatic 56, 3) := by decide +kernel
theorem d1_114 : decode prog_6_method_1_code 114 = .ok (.putfield 59, 3) := by decide +kernel
theorem d1_117 : decode prog_6_method_1_code 117 = .ok (.aload_n 0, 1) := by decide +kernel
theorem d1_118 : decode prog_6_method_1_code 118 = .ok (.aload_n 1, 1) := by decide +kernel
theorem d1_119 : decode prog_6_method_1_code 119 = .ok (.iconst 0, 1) := by decide +kernel
theorem d1_120 : decode prog_6_method_1_code 120 = .ok (.iaload, 1) := by decide +kernel
theorem d1_121 : decode prog_6_method_1_code 121 = .ok (.invokestatic 62, 3) := by decide +kernel
theorem d1_124 : decode prog_6_method_1_code 124 = .ok (.putfield 66, 3) := by decide +kernel
theorem d1_127 : decode prog_6_method_1_code 127 = .ok (.aload_n 0, 1) := by decide +kernel
theorem d1_128 : decode prog_6_method_1_code 128 = .ok (.aload_n 1, 1) := by decide +kernel
theorem d1_129 : decode prog_6_method_1_code 129 = .ok (.aload_n 0, 1) := by decide +kernel
theorem d1_130 : decode prog_6_method_1_code 130 = .ok (.getfield 50, 3) := by decide +kernel
theorem d1_133 : decode prog_6_method_1_code 133 = .ok (.iaload, 1) := by decide +kernel
theorem d1_134 : decode prog_6_method_1_code 134 = .ok (.invokestatic 62, 3) := by decide +kernel
theorem d1_137 : decode prog_6_method_1_code 137 = .ok (.putfield 70, 3) := by decide +kernel
theorem d1_140 : decode prog_6_method_1_code 140 = .ok (.aload_n 0, 1) := by decide +kernel
theorem d1_141 : decode prog_6_method_1_code 141 = .ok (.aload_n 1, 1) := by decide +kernel
theorem d1_142 : decode prog_6_method_1_code 142 = .ok (.aload_n 0, 1) := by decide +kernel
theorem d1_143 : decode prog_6_method_1_code 143 = .ok (.getfield 53, 3) := by decide +kernel
theorem d1_146 : decode prog_6_method_1_code 146 = .ok (.iaload, 1) := by decide +kernel
theorem d1_147 : decode prog_6_method_1_code 147 = .ok (.invokestatic 62, 3) := by decide +kernel
theorem d1_150 : decode prog_6_method_1_code 150 = .ok (.putfield 73, 3) := by decide +kernel
theorem d1_153 : decode prog_6_method_1_code 153 = .ok (.aload_n 0, 1) := by decide +kernel
theorem d1_154 : decode prog_6_method_1_code 154 = .ok (.aload_n 1, 1) := by decide +kernel
theorem d1_155 : decode prog_6_method_1_code 155 = .ok (.aload_n 0, 1) := by decide +kernel
theorem d1_156 : decode prog_6_method_1_code 156 = .ok (.getfield 59, 3) := by decide +kernel
theorem d1_159 : decode prog_6_method_1_code 159 = .ok (.iaload, 1) := by decide +kernel
theorem d1_160 : decode prog_6_method_1_code 160 = .ok (.invokestatic 62, 3) := by decide +kernel
theorem d1_163 : decode prog_6_method_1_code 163 = .ok (.putfield 76, 3) := by decide +kernel
theorem d1_166 : decode prog_6_method_1_code 166 = .ok (.aload_n 0, 1) := by decide +kernel
theorem d1_167 : decode prog_6_method_1_code 167 = .ok (.aload_n 1, 1) := by decide +kernel
theorem d1_168 : decode prog_6_method_1_code 168 = .ok (.aload_n 0, 1) := by decide +kernel
theorem d1_169 : decode prog_6_method_1_code 169 = .ok (.getfield 41, 3) := by decide +kernel
theorem d1_172 : decode prog_6_method_1_code 172 = .ok (.iaload, 1) := by decide +kernel
theorem d1_173 : decode prog_6_method_1_code 173 = .ok (.invokestatic 62, 3) := by decide +kernel
theorem d1_176 : decode prog_6_method_1_code 176 = .ok (.putfield 79, 3) := by decide +kernel
theorem d1_179 : decode prog_6_method_1_code 179 = .ok (.aload_n 0, 1) := by decide +kernel
theorem d1_180 : decode prog_6_method_1_code 180 = .ok (.aload_n 0, 1) := by decide +kernel
theorem d1_181 : decode prog_6_method_1_code 181 = .ok (.getfield 34, 3) := by decide +kernel
theorem d1_184 : decode prog_6_method_1_code 184 = .ok (.bipush 64, 2) := by decide +kernel
theorem d1_186 : decode prog_6_method_1_code 186 = .ok (.if_icmp .gt 18, 3) := by decide +kernel
theorem d1_189 : decode prog_6_method_1_code 189 = .ok (.aload_n 0, 1) := by decide +kernel
theorem d1_190 : decode prog_6_method_1_code 190 = .ok (.getfield 34, 3) := by decide +kernel
theorem d1_193 : decode prog_6_method_1_code 193 = .ok (.bipush 8, 2) := by decide +kernel
theorem d1_195 : decode prog_6_method_1_code 195 = .ok (.iadd, 1) := by decide +kernel
theorem d1_196 : decode prog_6_method_1_code 196 = .ok (.iconst 1, 1) := by decide +kernel
theorem d1_197 : decode prog_6_method_1_code 197 = .ok (.isub, 1) := by decide +kernel
theorem d1_198 : decode prog_6_method_1_code 198 = .ok (.bipush 8, 2) := by decide +kernel
theorem d1_200 : decode prog_6_method_1_code 200 = .ok (.idiv, 1) := by decide +kernel
theorem d1_201 : decode prog_6_method_1_code 201 = .ok (.goto 4, 3) := by decide +kernel
theorem d1_205 : decode prog_6_method_1_code 205 = .ok (.newarray .long, 2) := by decide +kernel
theorem d1_207 : decode prog_6_method_1_code 207 = .ok (.putfield 82, 3) := by decide +kernel
theorem d1_210 : decode prog_6_method_1_code 210 = .ok (.aload_n 0, 1) := by decide +kernel
theorem d1_211 : decode prog_6_method_1_code 211 = .ok (.iconst 0, 1) := by decide +kernel
theorem d1_212 : decode prog_6_method_1_code 212 = .ok (.aload_n 0, 1) := by decide +kernel
theorem d1_213 : decode prog_6_method_1_code 213 = .ok (.getfield 34, 3) := by decide +kernel
theorem d1_216 : decode prog_6_method_1_code 216 = .ok (.bipush 8, 2) := by decide +kernel
theorem d1_218 : decode prog_6_method_1_code 218 = .ok (.isub, 1) := by decide +kernel
theorem d1_219 : decode prog_6_method_1_code 219 = .ok (.invokestatic 56, 3) := by decide +kernel
theorem d1_222 : decode prog_6_method_1_code 222 = .ok (.putfield 85, 3) := by decide +kernel
theorem d1_225 : decode prog_6_method_1_code 225 = .ok (.aload_n 0, 1) := by decide +kernel
theorem d1_226 : decode prog_6_method_1_code 226 = .ok (.aload_n 0, 1) := by decide +kernel
theorem d1_227 : decode prog_6_method_1_code 227 = .ok (.getfield 34, 3) := by decide +kernel
theorem d1_230 : decode prog_6_method_1_code 230 = .ok (.bipush 8, 2) := by decide +kernel
theorem d1_232 : decode prog_6_method_1_code 232 = .ok (.if_icmp .lt 9, 3) := by decide +kernel
theorem d1_235 : decode prog_6_method_1_code 235 = .ok (.ldc2_w 88, 3) := by decide +kernel
theorem d1_238 : decode prog_6_method_1_code 238 = .ok (.goto 14, 3) := by decide +kernel
theorem d1_241 : decode prog_6_method_1_code 241 = .ok (.lconst 1, 1) := by decide +kernel
theorem d1_242 : decode prog_6_method_1_code 242 = .ok (.aload_n 0, 1) := by decide +kernel
theorem d1_243 : decode prog_6_method_1_code 243 = .ok (.getfield 34, 3) := by decide +kernel
theorem d1_246 : decode prog_6_method_1_code 246 = .ok (.bipush 8, 2) := by decide +kernel
theorem d1_248 : decode prog_6_method_1_code 248 = .ok (.imul, 1) := by decide +kernel
theorem d1_249 : decode prog_6_method_1_code 249 = .ok (.lshl, 1) := by decide +kernel
theorem d1_250 : decode prog_6_method_1_code 250 = .ok (.lconst 1, 1) := by decide +kernel
theorem d1_251 : decode prog_6_method_1_code 251 = .ok (.lsub, 1) := by decide +kernel
theorem d1_252 : decode prog_6_method_1_code 252 = .ok (.putfield 90, 3) := by decide +kernel
theorem d1_255 : decode prog_6_method_1_code 255 = .ok (.iconst 0, 1) := by decide +kernel
theorem d1_256 : decode prog_6_method_1_code 256 = .ok (.istore_n 2, 1) := by decide +kernel
theorem d1_257 : decode prog_6_method_1_code 257 = .ok (.iload_n 2, 1) := by decide +kernel
theorem d1_258 : decode prog_6_method_1_code 258 = .ok (.aload_n 0, 1) := by decide +kernel
theorem d1_259 : decode prog_6_method_1_code 259 = .ok (.getfield 82, 3) := by decide +kernel
theorem d1_262 : decode prog_6_method_1_code 262 = .ok (.arraylength, 1) := by decide +kernel
theorem d1_263 : decode prog_6_method_1_code 263 = .ok (.if_icmp .ge 72, 3) := by decide +kernel
theorem d1_266 : decode prog_6_method_1_code 266 = .ok (.iload_n 2, 1) := by decide +kernel
theorem d1_267 : decode prog_6_method_1_code 267 = .ok (.bipush 8, 2) := by decide +kernel
theorem d1_269 : decode prog_6_method_1_code 269 = .ok (.imul, 1) := by decide +kernel
theorem d1_270 : decode prog_6_method_1_code 270 = .ok (.aload_n 0, 1) := by decide +kernel
theorem d1_271 : decode prog_6_method_1_code 271 = .ok (.getfield 85, 3) := by decide +kernel
theorem d1_274 : decode prog_6_method_1_code 274 = .ok (.invokestatic 44, 3) := by decide +kernel
theorem d1_277 : decode prog_6_method_1_code 277 = .ok (.istore_n 3, 1) := by decide +kernel
theorem d1_278 : decode prog_6_method_1_code 278 = .ok (.iload_n 3, 1) := by decide +kernel
theorem d1_279 : decode prog_6_method_1_code 279 = .ok (.istore 4, 2) := by decide +kernel
theorem d1_281 : decode prog_6_method_1_code 281 = .ok (.iload 4, 2) := by decide +kernel
theorem d1_283 : decode prog_6_method_1_code 283 = .ok (.iload_n 3, 1) := by decide +kernel
theorem d1_284 : decode prog_6_method_1_code 284 = .ok (.bipush 8, 2) := by decide +kernel
theorem d1_286 : decode prog_6_method_1_code 286 = .ok (.iadd, 1) := by decide +kernel
theorem d1_287 : decode prog_6_method_1_code 287 = .ok (.aload_n 0, 1) := by decide +kernel
theorem d1_288 : decode prog_6_method_1_code 288 = .ok (.getfield 34, 3) := by decide +kernel
theorem d1_291 : decode prog_6_method_1_code 291 = .ok (.invokestatic 44, 3) := by decide +kernel
theorem d1_294 : decode prog_6_method_1_code 294 = .ok (.if_icmp .ge 35, 3) := by decide +kernel
theorem d1_297 : decode prog_6_method_1_code 297 = .ok (.aload_n 0, 1) := by decide +kernel
theorem d1_298 : decode prog_6_method_1_code 298 = .ok (.getfield 82, 3) := by decide +kernel
theorem d1_301 : decode prog_6_method_1_code 301 = .ok (.iload_n 2, 1) := by decide +kernel
theorem d1_302 : decode prog_6_method_1_code 302 = .ok (.dup2, 1) := by decide +kernel
theorem d1_303 : decode prog_6_method_1_code 303 = .ok (.laload, 1) := by decide +kernel
theorem d1_304 : decode prog_6_method_1_code 304 = .ok (.aload_n 1, 1) := by decide +kernel
theorem d1_305 : decode prog_6_method_1_code 305 = .ok (.iload 4, 2) := by decide +kernel
theorem d1_307 : decode prog_6_method_1_code 307 = .ok (.iaload, 1) := by decide +kernel
theorem d1_308 : decode prog_6_method_1_code 308 = .ok (.i2l, 1) := by decide +kernel
theorem d1_309 : decode prog_6_method_1_code 309 = .ok (.ldc2_w 93, 3) := by decide +kernel
theorem d1_312 : decode prog_6_method_1_code 312 = .ok (.land, 1) := by decide +kernel
theorem d1_313 : decode prog_6_method_1_code 313 = .ok (.iload 4, 2) := by decide +kernel
theorem d1_315 : decode prog_6_method_1_code 315 = .ok (.iload_n 3, 1) := by decide +kernel
theorem d1_316 : decode prog_6_method_1_code 316 = .ok (.isub, 1) := by decide +kernel
theorem d1_317 : decode prog_6_method_1_code 317 = .ok (.bipush 8, 2) := by decide +kernel
theorem d1_319 : decode prog_6_method_1_code 319 = .ok (.imul, 1) := by decide +kernel
theorem d1_320 : decode prog_6_method_1_code 320 = .ok (.lshl, 1) := by decide +kernel
theorem d1_321 : decode prog_6_method_1_code 321 = .ok (.lor, 1) := by decide +kernel
theorem d1_322 : decode prog_6_method_1_code 322 = .ok (.lastore, 1) := by decide +kernel
theorem d1_323 : decode prog_6_method_1_code 323 = .ok (.iinc 4 1, 3) := by decide +kernel
theorem d1_326 : decode prog_6_method_1_code 326 = .ok (.goto (-45), 3) := by decide +kernel
theorem d1_329 : decode prog_6_method_1_code 329 = .ok (.iinc 2 1, 3) := by decide +kernel
theorem d1_332 : decode prog_6_method_1_code 332 = .ok (.goto (-75), 3) := by decide +kernel
theorem d1_335 : decode prog_6_method_1_code 335 = .ok (.return_, 1) := by decide +kernel
set_option maxRecDepth 65536 in
set_option maxHeartbeats 40000000 in
theorem rm1 (l : Launch) (Z : State) (a0 : Array Value) (hw : ∀ d ∈ tables_1, d.before a0 Z = true) (ws : List Jvm.Cond) (o0 o1 : Addr) (nN : Nat) (us : List Int32) (ku : ClassId) (h0 : Heap) (n0 : Nat) (Z0 : n0 ≤ h0.size) (gn_o0 : n0 ≤ o0) (E_o0 : Exa Z h0 o0 "com/example/sidestep/sidestep/Starts") (F_marks : Fld Z h0 o0 "com/example/sidestep/sidestep/Starts" "marks" "[J" .null) (F_nonzeroWords : Fld Z h0 o0 "com/example/sidestep/sidestep/Starts" "nonzeroWords" "[J" .null) (F_fewBusyBlocks : Fld Z h0 o0 "com/example/sidestep/sidestep/Starts" "fewBusyBlocks" "Z" (.int (0 : Int32))) (F_places : Fld Z h0 o0 "com/example/sidestep/sidestep/Starts" "places" "[I" .null) (F_listedInWindow : Fld Z h0 o0 "com/example/sidestep/sidestep/Starts" "listedInWindow" "[I" .null) (F_tallies : Fld Z h0 o0 "com/example/sidestep/sidestep/Starts" "tallies" "[J" .null) (F_length : Fld Z h0 o0 "com/example/sidestep/sidestep/Starts" "length" "I" (.int (0 : Int32))) (F_exact : Fld Z h0 o0 "com/example/sidestep/sidestep/Starts" "exact" "Z" (.int (0 : Int32))) (F_lastOffset : Fld Z h0 o0 "com/example/sidestep/sidestep/Starts" "lastOffset" "I" (.int (0 : Int32))) (F_secondOffset : Fld Z h0 o0 "com/example/sidestep/sidestep/Starts" "secondOffset" "I" (.int (0 : Int32))) (F_thirdOffset : Fld Z h0 o0 "com/example/sidestep/sidestep/Starts" "thirdOffset" "I" (.int (0 : Int32))) (F_penultimateOffset : Fld Z h0 o0 "com/example/sidestep/sidestep/Starts" "penultimateOffset" "I" (.int (0 : Int32))) (F_firstBytes : Fld Z h0 o0 "com/example/sidestep/sidestep/Starts" "firstBytes" "J" (.long (0 : Int64))) (F_secondBytes : Fld Z h0 o0 "com/example/sidestep/sidestep/Starts" "secondBytes" "J" (.long (0 : Int64))) (F_thirdBytes : Fld Z h0 o0 "com/example/sidestep/sidestep/Starts" "thirdBytes" "J" (.long (0 : Int64))) (F_penultimateBytes : Fld Z h0 o0 "com/example/sidestep/sidestep/Starts" "penultimateBytes" "J" (.long (0 : Int64))) (F_lastBytes : Fld Z h0 o0 "com/example/sidestep/sidestep/Starts" "lastBytes" "J" (.long (0 : Int64))) (F_patternWords : Fld Z h0 o0 "com/example/sidestep/sidestep/Starts" "patternWords" "[J" .null) (F_lastWordOffset : Fld Z h0 o0 "com/example/sidestep/sidestep/Starts" "lastWordOffset" "I" (.int (0 : Int32))) (F_lastWordMask : Fld Z h0 o0 "com/example/sidestep/sidestep/Starts" "lastWordMask" "J" (.long (0 : Int64))) (F_source : Fld Z h0 o0 "com/example/sidestep/sidestep/Starts" "source" "Lcom/example/sidestep/sidestep/Starts$LowBytes;" .null) (F_copiedTo : Fld Z h0 o0 "com/example/sidestep/sidestep/Starts" "copiedTo" "I" (.int (0 : Int32))) (F_lowBytes : Fld Z h0 o0 "com/example/sidestep/sidestep/Starts" "lowBytes" "[B" .null) (F_to : Fld Z h0 o0 "com/example/sidestep/sidestep/Starts" "to" "I" (.int (0 : Int32))) (F_placesEnd : Fld Z h0 o0 "com/example/sidestep/sidestep/Starts" "placesEnd" "I" (.int (0 : Int32))) (F_wholeEnd : Fld Z h0 o0 "com/example/sidestep/sidestep/Starts" "wholeEnd" "I" (.int (0 : Int32))) (F_decidedEnd : Fld Z h0 o0 "com/example/sidestep/sidestep/Starts" "decidedEnd" "I" (.int (0 : Int32))) (F_placed : Fld Z h0 o0 "com/example/sidestep/sidestep/Starts" "placed" "I" (.int (0 : Int32))) (F_taken : Fld Z h0 o0 "com/example/sidestep/sidestep/Starts" "taken" "I" (.int (0 : Int32))) (F_listedTo : Fld Z h0 o0 "com/example/sidestep/sidestep/Starts" "listedTo" "I" (.int (0 : Int32))) (F_dense : Fld Z h0 o0 "com/example/sidestep/sidestep/Starts" "dense" "Z" (.int (0 : Int32))) (F_marking : Fld Z h0 o0 "com/example/sidestep/sidestep/Starts" "marking" "I" (.int (0 : Int32))) (F_sections : Fld Z h0 o0 "com/example/sidestep/sidestep/Starts" "sections" "I" (.int (0 : Int32))) (F_handedSections : Fld Z h0 o0 "com/example/sidestep/sidestep/Starts" "handedSections" "I" (.int (0 : Int32))) (V1 : Arv Z h0 o1 ku .int (Int32.ofNat nN) (us.map Value.int) (.int (0 : Int32))) (hne : o1 ≠ o0) (hN : 1 ≤ nN ∧ nN ≤ 9) :
    MetFree l (⟨"com/example/sidestep/sidestep/Starts", "<init>", "([I)V"⟩ : MethodName) (head1 (Jvm.Cond.code (⟨"com/example/sidestep/sidestep/Starts", "<init>", "([I)V"⟩ : MethodName) prog_6_method_1_code 5 none :: ws) ({ frames := 1, cells := 6, slots := 43, locals := 14 } : Room)) (fun a U => a = #[(.ref o0), (.ref o1)] ∧ Z.Warmed39 U.vm ∧ U.heap = h0) (fun _ _ _ _ _ => True) (fun _ U o U' => ∃ v L, o = .returned v ∧ QV none (fun h L => Fr n0 L ∧ Keep h0 h [o0] ∧ Exa Z h o0 "com/example/sidestep/sidestep/Starts" ∧ Fld Z h o0 "com/example/sidestep/sidestep/Starts" "lastOffset" "I" (.int ((Int32.ofNat nN) - (1 : Int32))) ∧ Fld Z h o0 "com/example/sidestep/sidestep/Starts" "length" "I" (.int (Int32.ofNat nN)) ∧ Fld Z h o0 "com/example/sidestep/sidestep/Starts" "source" "Lcom/example/sidestep/sidestep/Starts$LowBytes;" .null ∧ Fld Z h o0 "com/example/sidestep/sidestep/Starts" "copiedTo" "I" (.int (0 : Int32)) ∧ Fld Z h o0 "com/example/sidestep/sidestep/Starts" "lowBytes" "[B" .null ∧ Fld Z h o0 "com/example/sidestep/sidestep/Starts" "to" "I" (.int (0 : Int32)) ∧ Fld Z h o0 "com/example/sidestep/sidestep/Starts" "placesEnd" "I" (.int (0 : Int32)) ∧ Fld Z h o0 "com/example/sidestep/sidestep/Starts" "wholeEnd" "I" (.int (0 : Int32)) ∧ Fld Z h o0 "com/example/sidestep/sidestep/Starts" "decidedEnd" "I" (.int (0 : Int32)) ∧ Fld Z h o0 "com/example/sidestep/sidestep/Starts" "placed" "I" (.int (0 : Int32)) ∧ Fld Z h o0 "com/example/sidestep/sidestep/Starts" "taken" "I" (.int (0 : Int32)) ∧ Fld Z h o0 "com/example/sidestep/sidestep/Starts" "listedTo" "I" (.int (0 : Int32)) ∧ Fld Z h o0 "com/example/sidestep/sidestep/Starts" "dense" "Z" (.int (0 : Int32)) ∧ Fld Z h o0 "com/example/sidestep/sidestep/Starts" "marking" "I" (.int (0 : Int32)) ∧ Fld Z h o0 "com/example/sidestep/sidestep/Starts" "sections" "I" (.int (0 : Int32)) ∧ Fld Z h o0 "com/example/sidestep/sidestep/Starts" "handedSections" "I" (.int (0 : Int32)) ∧ ∃ (ow : Addr) (kw : ClassId) (nw : Int32) (vs : List Value), ow ≠ o0 ∧ h0.size ≤ ow ∧ Fld Z h o0 "com/example/sidestep/sidestep/Starts" "patternWords" "[J" (.ref ow) ∧ Arv Z h ow kw .long nw vs (.long (0 : Int64))) v U'.heap L ∧ FrameEnd U o U' L ({ frames := 1, cells := 6, slots := 43, locals := 14 } : Room).cells ({ frames := 1, cells := 6, slots := 43, locals := 14 } : Room).slots) := by
  refine MetFree.of_bodySF (plainFor_of_name pn_0) hisR ?_
  intro p e s m args below meth c s₁ Bd hml0 hP hK
  obtain ⟨rfl, hZ, hh⟩ := hP
  have hx := Bd.exec
  have hby := Bd.bytes
  have hml : c.maxLocals = 5 := hml0
  have hown : s.vm.findClass "com/example/sidestep/sidestep/Starts" = some m.cls := findClass_of_methodNamed Bd.named
  have hnm := (name_of_methodNamed Bd.named Bd.method).1
  have hlk : meth.locks = false := BodyLoose.notSynchronized Bd
  have X0 : Stand p l e ({ frames := 1, cells := 6, slots := 43, locals := 14 } : Room) s m #[(.ref o0), (.ref o1)] below meth c s₁ [] 0 0 := Stand.of_body Bd
  have e0 : s₁.heap = h0 := by rw [← hh, Bd.state]; rfl
  have N0 := Fr.nil n0
  refine Got.body (ef_1 m o0 o1) ?_
  have K0 := Keep.refl h0 [o0]
  refine Got.step (T' := s₁) (g' := (mkF m 1 #[.val (.ref o0), .val (.ref o1), .unset, .unset, .unset] [(.ref o0)])) (fun tq kt => ?_) ?_
  · show Steps p.tables e below (s₁.setTop (mkF m 0 #[.val (.ref o0), .val (.ref o1), .unset, .unset, .unset] [])) _
    refine XS.aloadN X0.here hx rfl (hb hby d1_0) rfl rfl ?_
    exact kt
  obtain ⟨T258, X258, e258, st258⟩ := initO X0 hx hZ hown (hw _ (List.mem_of_getElem? (i := 8) rfl)) (hw _ (List.mem_of_getElem? (i := 9) rfl)) (hw _ (List.mem_of_getElem? (i := 10) rfl)) e0 (g := (mkF m 1 #[.val (.ref o0), .val (.ref o1), .unset, .unset, .unset] [(.ref o0)])) rfl (by rw [hml]; rfl) rfl (hb hby d1_1) (by decide) (W := 0) (by show 2 * 0 + _ ≤ _; exact Nat.le_of_eq rfl) (by decide)
  refine Got.step st258 ?_
  show Got p e below s _ _ _ _ T258 (mkF m 4 #[.val (.ref o0), .val (.ref o1), .unset, .unset, .unset] [])
  refine Got.step (T' := T258) (g' := (mkF m 6 #[.val (.ref o0), .val (.ref o1), .unset, .unset, .unset] [(.int (0 : Int32)), (.ref o0)])) (fun tq kt => ?_) ?_
  · show Steps p.tables e below (T258.setTop (mkF m 4 #[.val (.ref o0), .val (.ref o1), .unset, .unset, .unset] [])) _
    refine XS.aloadN X258.here hx rfl (hb hby d1_4) rfl rfl ?_
    show Steps p.tables e below (T258.setTop (mkF m 5 #[.val (.ref o0), .val (.ref o1), .unset, .unset, .unset] [(.ref o0)])) _
    refine XS.iconst X258.here hx rfl (hb hby d1_5) ?_
    exact kt
  obtain ⟨T259, h259, k259, X259, e259, E259, A259, st259⟩ := newP X258 hx hZ (hw _ (List.mem_of_getElem? (i := 11) rfl)) e258 (g := (mkF m 6 #[.val (.ref o0), .val (.ref o1), .unset, .unset, .unset] [(.int (0 : Int32)), (.ref o0)])) rfl (hb hby d1_6) rfl (by decide) (cap := 0) (by decide) (by decide) (by decide) (by decide)
  obtain ⟨b259, g259⟩ : ∃ z, z = h0.size := ⟨_, rfl⟩
  rw [← g259] at A259 st259
  have ne_o0_b259 : o0 ≠ b259 := by rw [g259]; exact Nat.ne_of_lt E_o0.lt
  have ne_o1_b259 : o1 ≠ b259 := by rw [g259]; exact Nat.ne_of_lt V1.lt
  have gn_b259 : n0 ≤ b259 := by rw [g259]; exact Z0
  have sz_b259 : h0.size ≤ b259 := by rw [g259]; exact K0.1
  have Z0_260 : n0 ≤ h259.size := (Nat.le_trans Z0 E259.1)
  have K0_261 : Keep h0 h259 [o0] := (K0.ext E259)
  have E_o0_262 : Exa Z h259 o0 "com/example/sidestep/sidestep/Starts" := (E_o0.ext E259)
  have F_marks_263 : Fld Z h259 o0 "com/example/sidestep/sidestep/Starts" "marks" "[J" .null := (F_marks.ext E259)
  have F_nonzeroWords_264 : Fld Z h259 o0 "com/example/sidestep/sidestep/Starts" "nonzeroWords" "[J" .null := (F_nonzeroWords.ext E259)
  have F_fewBusyBlocks_265 : Fld Z h259 o0 "com/example/sidestep/sidestep/Starts" "fewBusyBlocks" "Z" (.int (0 : Int32)) := (F_fewBusyBlocks.ext E259)
  have F_places_266 : Fld Z h259 o0 "com/example/sidestep/sidestep/Starts" "places" "[I" .null := (F_places.ext E259)
  have F_listedInWindow_267 : Fld Z h259 o0 "com/example/sidestep/sidestep/Starts" "listedInWindow" "[I" .null := (F_listedInWindow.ext E259)
  have F_tallies_268 : Fld Z h259 o0 "com/example/sidestep/sidestep/Starts" "tallies" "[J" .null := (F_tallies.ext E259)
  have F_length_269 : Fld Z h259 o0 "com/example/sidestep/sidestep/Starts" "length" "I" (.int (0 : Int32)) := (F_length.ext E259)
  have F_exact_270 : Fld Z h259 o0 "com/example/sidestep/sidestep/Starts" "exact" "Z" (.int (0 : Int32)) := (F_exact.ext E259)
  have F_lastOffset_271 : Fld Z h259 o0 "com/example/sidestep/sidestep/Starts" "lastOffset" "I" (.int (0 : Int32)) := (F_lastOffset.ext E259)
  have F_secondOffset_272 : Fld Z h259 o0 "com/example/sidestep/sidestep/Starts" "secondOffset" "I" (.int (0 : Int32)) := (F_secondOffset.ext E259)
  have F_thirdOffset_273 : Fld Z h259 o0 "com/example/sidestep/sidestep/Starts" "thirdOffset" "I" (.int (0 : Int32)) := (F_thirdOffset.ext E259)
  have F_penultimateOffset_274 : Fld Z h259 o0 "com/example/sidestep/sidestep/Starts" "penultimateOffset" "I" (.int (0 : Int32)) := (F_penultimateOffset.ext E259)
  have F_firstBytes_275 : Fld Z h259 o0 "com/example/sidestep/sidestep/Starts" "firstBytes" "J" (.long (0 : Int64)) := (F_firstBytes.ext E259)
  have F_secondBytes_276 : Fld Z h259 o0 "com/example/sidestep/sidestep/Starts" "secondBytes" "J" (.long (0 : Int64)) := (F_secondBytes.ext E259)
  have F_thirdBytes_277 : Fld Z h259 o0 "com/example/sidestep/sidestep/Starts" "thirdBytes" "J" (.long (0 : Int64)) := (F_thirdBytes.ext E259)
  have F_penultimateBytes_278 : Fld Z h259 o0 "com/example/sidestep/sidestep/Starts" "penultimateBytes" "J" (.long (0 : Int64)) := (F_penultimateBytes.ext E259)
  have F_lastBytes_279 : Fld Z h259 o0 "com/example/sidestep/sidestep/Starts" "lastBytes" "J" (.long (0 : Int64)) := (F_lastBytes.ext E259)
  have F_patternWords_280 : Fld Z h259 o0 "com/example/sidestep/sidestep/Starts" "patternWords" "[J" .null := (F_patternWords.ext E259)
  have F_lastWordOffset_281 : Fld Z h259 o0 "com/example/sidestep/sidestep/Starts" "lastWordOffset" "I" (.int (0 : Int32)) := (F_lastWordOffset.ext E259)
  have F_lastWordMask_282 : Fld Z h259 o0 "com/example/sidestep/sidestep/Starts" "lastWordMask" "J" (.long (0 : Int64)) := (F_lastWordMask.ext E259)
  have F_source_283 : Fld Z h259 o0 "com/example/sidestep/sidestep/Starts" "source" "Lcom/example/sidestep/sidestep/Starts$LowBytes;" .null := (F_source.ext E259)
  have F_copiedTo_284 : Fld Z h259 o0 "com/example/sidestep/sidestep/Starts" "copiedTo" "I" (.int (0 : Int32)) := (F_copiedTo.ext E259)
  have F_lowBytes_285 : Fld Z h259 o0 "com/example/sidestep/sidestep/Starts" "lowBytes" "[B" .null := (F_lowBytes.ext E259)
  have F_to_286 : Fld Z h259 o0 "com/example/sidestep/sidestep/Starts" "to" "I" (.int (0 : Int32)) := (F_to.ext E259)
  have F_placesEnd_287 : Fld Z h259 o0 "com/example/sidestep/sidestep/Starts" "placesEnd" "I" (.int (0 : Int32)) := (F_placesEnd.ext E259)
  have F_wholeEnd_288 : Fld Z h259 o0 "com/example/sidestep/sidestep/Starts" "wholeEnd" "I" (.int (0 : Int32)) := (F_wholeEnd.ext E259)
  have F_decidedEnd_289 : Fld Z h259 o0 "com/example/sidestep/sidestep/Starts" "decidedEnd" "I" (.int (0 : Int32)) := (F_decidedEnd.ext E259)
  have F_placed_290 : Fld Z h259 o0 "com/example/sidestep/sidestep/Starts" "placed" "I" (.int (0 : Int32)) := (F_placed.ext E259)
  have F_taken_291 : Fld Z h259 o0 "com/example/sidestep/sidestep/Starts" "taken" "I" (.int (0 : Int32)) := (F_taken.ext E259)
  have F_listedTo_292 : Fld Z h259 o0 "com/example/sidestep/sidestep/Starts" "listedTo" "I" (.int (0 : Int32)) := (F_listedTo.ext E259)
  have F_dense_293 : Fld Z h259 o0 "com/example/sidestep/sidestep/Starts" "dense" "Z" (.int (0 : Int32)) := (F_dense.ext E259)
  have F_marking_294 : Fld Z h259 o0 "com/example/sidestep/sidestep/Starts" "marking" "I" (.int (0 : Int32)) := (F_marking.ext E259)
  have F_sections_295 : Fld Z h259 o0 "com/example/sidestep/sidestep/Starts" "sections" "I" (.int (0 : Int32)) := (F_sections.ext E259)
  have F_handedSections_296 : Fld Z h259 o0 "com/example/sidestep/sidestep/Starts" "handedSections" "I" (.int (0 : Int32)) := (F_handedSections.ext E259)
  have V1_297 : Arv Z h259 o1 ku .int (Int32.ofNat nN) (us.map Value.int) (.int (0 : Int32)) := (V1.ext E259)
  have V259 : Arv Z h259 b259 k259 .long (0 : Int32) [] (.long (0 : Int64)) := (Arv.new A259 (by decide)).pad (pad_rep [] (.long (0 : Int64)) 0)
  refine Got.step st259 ?_
  show Got p e below s _ _ _ _ T259 (mkF m 8 #[.val (.ref o0), .val (.ref o1), .unset, .unset, .unset] [(.ref b259), (.ref o0)])
  obtain ⟨T298, h298, X298, e298, W298, st298⟩ := putF X259 hx hZ hown (host := "") (Or.inl (hw _ (List.mem_of_getElem? (i := 12) rfl))) Via.refl e259 F_marks_263 E_o0_262 (Or.inl (hw _ (List.mem_of_getElem? (i := 13) rfl))) (hw _ (List.mem_of_getElem? (i := 3) rfl)) (ty := (.array .long)) (by decide) rfl rfl (g := (mkF m 8 #[.val (.ref o0), .val (.ref o1), .unset, .unset, .unset] [(.ref b259), (.ref o0)])) rfl rfl (hb hby d1_8)
  have Z0_299 : n0 ≤ h298.size := (Nat.le_trans Z0_260 (Keep.of_wr W298).1)
  have K0_300 : Keep h0 h298 [o0] := (K0_261.wr W298 (Or.inl (List.mem_of_getElem? (i := 0) rfl)))
  have E_o0_301 : Exa Z h298 o0 "com/example/sidestep/sidestep/Starts" := (E_o0_262.wr W298)
  have F_marks_302 : Fld Z h298 o0 "com/example/sidestep/sidestep/Starts" "marks" "[J" (.ref b259) := (F_marks_263.same W298)
  have F_nonzeroWords_303 : Fld Z h298 o0 "com/example/sidestep/sidestep/Starts" "nonzeroWords" "[J" .null := (F_nonzeroWords_264.other W298 (Or.inr (slot_ne (Or.inr (hw _ (List.mem_of_getElem? (i := 15) rfl))) (Or.inl (hw _ (List.mem_of_getElem? (i := 13) rfl))) (by decide) (t := (.array .long)) (t' := (.array .long)) (by decide) (by decide))))
  have F_fewBusyBlocks_304 : Fld Z h298 o0 "com/example/sidestep/sidestep/Starts" "fewBusyBlocks" "Z" (.int (0 : Int32)) := (F_fewBusyBlocks_265.other W298 (Or.inr (slot_ne (Or.inl (hw _ (List.mem_of_getElem? (i := 17) rfl))) (Or.inl (hw _ (List.mem_of_getElem? (i := 13) rfl))) (by decide) (t := .boolean) (t' := (.array .long)) (by decide) (by decide))))
  have F_places_305 : Fld Z h298 o0 "com/example/sidestep/sidestep/Starts" "places" "[I" .null := (F_places_266.other W298 (Or.inr (slot_ne (Or.inl (hw _ (List.mem_of_getElem? (i := 19) rfl))) (Or.inl (hw _ (List.mem_of_getElem? (i := 13) rfl))) (by decide) (t := (.array .int)) (t' := (.array .long)) (by decide) (by decide))))
  have F_listedInWindow_306 : Fld Z h298 o0 "com/example/sidestep/sidestep/Starts" "listedInWindow" "[I" .null := (F_listedInWindow_267.other W298 (Or.inr (slot_ne (Or.inr (hw _ (List.mem_of_getElem? (i := 21) rfl))) (Or.inl (hw _ (List.mem_of_getElem? (i := 13) rfl))) (by decide) (t := (.array .int)) (t' := (.array .long)) (by decide) (by decide))))
  have F_tallies_307 : Fld Z h298 o0 "com/example/sidestep/sidestep/Starts" "tallies" "[J" .null := (F_tallies_268.other W298 (Or.inr (slot_ne (Or.inl (hw _ (List.mem_of_getElem? (i := 23) rfl))) (Or.inl (hw _ (List.mem_of_getElem? (i := 13) rfl))) (by decide) (t := (.array .long)) (t' := (.array .long)) (by decide) (by decide))))
  have F_length_308 : Fld Z h298 o0 "com/example/sidestep/sidestep/Starts" "length" "I" (.int (0 : Int32)) := (F_length_269.other W298 (Or.inr (slot_ne (Or.inr (hw _ (List.mem_of_getElem? (i := 25) rfl))) (Or.inl (hw _ (List.mem_of_getElem? (i := 13) rfl))) (by decide) (t := .int) (t' := (.array .long)) (by decide) (by decide))))
  have F_exact_309 : Fld Z h298 o0 "com/example/sidestep/sidestep/Starts" "exact" "Z" (.int (0 : Int32)) := (F_exact_270.other W298 (Or.inr (slot_ne (Or.inr (hw _ (List.mem_of_getElem? (i := 27) rfl))) (Or.inl (hw _ (List.mem_of_getElem? (i := 13) rfl))) (by decide) (t := .boolean) (t' := (.array .long)) (by decide) (by decide))))
  have F_lastOffset_310 : Fld Z h298 o0 "com/example/sidestep/sidestep/Starts" "lastOffset" "I" (.int (0 : Int32)) := (F_lastOffset_271.other W298 (Or.inr (slot_ne (Or.inr (hw _ (List.mem_of_getElem? (i := 29) rfl))) (Or.inl (hw _ (List.mem_of_getElem? (i := 13) rfl))) (by decide) (t := .int) (t' := (.array .long)) (by decide) (by decide))))
  have F_secondOffset_311 : Fld Z h298 o0 "com/example/sidestep/sidestep/Starts" "secondOffset" "I" (.int (0 : Int32)) := (F_secondOffset_272.other W298 (Or.inr (slot_ne (Or.inr (hw _ (List.mem_of_getElem? (i := 35) rfl))) (Or.inl (hw _ (List.mem_of_getElem? (i := 13) rfl))) (by decide) (t := .int) (t' := (.array .long)) (by decide) (by decide))))
  have F_thirdOffset_312 : Fld Z h298 o0 "com/example/sidestep/sidestep/Starts" "thirdOffset" "I" (.int (0 : Int32)) := (F_thirdOffset_273.other W298 (Or.inr (slot_ne (Or.inr (hw _ (List.mem_of_getElem? (i := 37) rfl))) (Or.inl (hw _ (List.mem_of_getElem? (i := 13) rfl))) (by decide) (t := .int) (t' := (.array .long)) (by decide) (by decide))))
  have F_penultimateOffset_313 : Fld Z h298 o0 "com/example/sidestep/sidestep/Starts" "penultimateOffset" "I" (.int (0 : Int32)) := (F_penultimateOffset_274.other W298 (Or.inr (slot_ne (Or.inr (hw _ (List.mem_of_getElem? (i := 42) rfl))) (Or.inl (hw _ (List.mem_of_getElem? (i := 13) rfl))) (by decide) (t := .int) (t' := (.array .long)) (by decide) (by decide))))
  have F_firstBytes_314 : Fld Z h298 o0 "com/example/sidestep/sidestep/Starts" "firstBytes" "J" (.long (0 : Int64)) := (F_firstBytes_275.other W298 (Or.inr (slot_ne (Or.inr (hw _ (List.mem_of_getElem? (i := 49) rfl))) (Or.inl (hw _ (List.mem_of_getElem? (i := 13) rfl))) (by decide) (t := .long) (t' := (.array .long)) (by decide) (by decide))))
  have F_secondBytes_315 : Fld Z h298 o0 "com/example/sidestep/sidestep/Starts" "secondBytes" "J" (.long (0 : Int64)) := (F_secondBytes_276.other W298 (Or.inr (slot_ne (Or.inr (hw _ (List.mem_of_getElem? (i := 51) rfl))) (Or.inl (hw _ (List.mem_of_getElem? (i := 13) rfl))) (by decide) (t := .long) (t' := (.array .long)) (by decide) (by decide))))
  have F_thirdBytes_316 : Fld Z h298 o0 "com/example/sidestep/sidestep/Starts" "thirdBytes" "J" (.long (0 : Int64)) := (F_thirdBytes_277.other W298 (Or.inr (slot_ne (Or.inr (hw _ (List.mem_of_getElem? (i := 53) rfl))) (Or.inl (hw _ (List.mem_of_getElem? (i := 13) rfl))) (by decide) (t := .long) (t' := (.array .long)) (by decide) (by decide))))
  have F_penultimateBytes_317 : Fld Z h298 o0 "com/example/sidestep/sidestep/Starts" "penultimateBytes" "J" (.long (0 : Int64)) := (F_penultimateBytes_278.other W298 (Or.inr (slot_ne (Or.inr (hw _ (List.mem_of_getElem? (i := 55) rfl))) (Or.inl (hw _ (List.mem_of_getElem? (i := 13) rfl))) (by decide) (t := .long) (t' := (.array .long)) (by decide) (by decide))))
  have F_lastBytes_318 : Fld Z h298 o0 "com/example/sidestep/sidestep/Starts" "lastBytes" "J" (.long (0 : Int64)) := (F_lastBytes_279.other W298 (Or.inr (slot_ne (Or.inr (hw _ (List.mem_of_getElem? (i := 57) rfl))) (Or.inl (hw _ (List.mem_of_getElem? (i := 13) rfl))) (by decide) (t := .long) (t' := (.array .long)) (by decide) (by decide))))
  have F_patternWords_319 : Fld Z h298 o0 "com/example/sidestep/sidestep/Starts" "patternWords" "[J" .null := (F_patternWords_280.other W298 (Or.inr (slot_ne (Or.inr (hw _ (List.mem_of_getElem? (i := 59) rfl))) (Or.inl (hw _ (List.mem_of_getElem? (i := 13) rfl))) (by decide) (t := (.array .long)) (t' := (.array .long)) (by decide) (by decide))))
  have F_lastWordOffset_320 : Fld Z h298 o0 "com/example/sidestep/sidestep/Starts" "lastWordOffset" "I" (.int (0 : Int32)) := (F_lastWordOffset_281.other W298 (Or.inr (slot_ne (Or.inr (hw _ (List.mem_of_getElem? (i := 61) rfl))) (Or.inl (hw _ (List.mem_of_getElem? (i := 13) rfl))) (by decide) (t := .int) (t' := (.array .long)) (by decide) (by decide))))
  have F_lastWordMask_321 : Fld Z h298 o0 "com/example/sidestep/sidestep/Starts" "lastWordMask" "J" (.long (0 : Int64)) := (F_lastWordMask_282.other W298 (Or.inr (slot_ne (Or.inr (hw _ (List.mem_of_getElem? (i := 63) rfl))) (Or.inl (hw _ (List.mem_of_getElem? (i := 13) rfl))) (by decide) (t := .long) (t' := (.array .long)) (by decide) (by decide))))
  have F_source_322 : Fld Z h298 o0 "com/example/sidestep/sidestep/Starts" "source" "Lcom/example/sidestep/sidestep/Starts$LowBytes;" .null := (F_source_283.other W298 (Or.inr (slot_ne (Or.inl (hw _ (List.mem_of_getElem? (i := 76) rfl))) (Or.inl (hw _ (List.mem_of_getElem? (i := 13) rfl))) (by decide) (t := (.object "com/example/sidestep/sidestep/Starts$LowBytes")) (t' := (.array .long)) (by decide) (by decide))))
  have F_copiedTo_323 : Fld Z h298 o0 "com/example/sidestep/sidestep/Starts" "copiedTo" "I" (.int (0 : Int32)) := (F_copiedTo_284.other W298 (Or.inr (slot_ne (Or.inl (hw _ (List.mem_of_getElem? (i := 78) rfl))) (Or.inl (hw _ (List.mem_of_getElem? (i := 13) rfl))) (by decide) (t := .int) (t' := (.array .long)) (by decide) (by decide))))
  have F_lowBytes_324 : Fld Z h298 o0 "com/example/sidestep/sidestep/Starts" "lowBytes" "[B" .null := (F_lowBytes_285.other W298 (Or.inr (slot_ne (Or.inl (hw _ (List.mem_of_getElem? (i := 80) rfl))) (Or.inl (hw _ (List.mem_of_getElem? (i := 13) rfl))) (by decide) (t := (.array .byte)) (t' := (.array .long)) (by decide) (by decide))))
  have F_to_325 : Fld Z h298 o0 "com/example/sidestep/sidestep/Starts" "to" "I" (.int (0 : Int32)) := (F_to_286.other W298 (Or.inr (slot_ne (Or.inl (hw _ (List.mem_of_getElem? (i := 82) rfl))) (Or.inl (hw _ (List.mem_of_getElem? (i := 13) rfl))) (by decide) (t := .int) (t' := (.array .long)) (by decide) (by decide))))
  have F_placesEnd_326 : Fld Z h298 o0 "com/example/sidestep/sidestep/Starts" "placesEnd" "I" (.int (0 : Int32)) := (F_placesEnd_287.other W298 (Or.inr (slot_ne (Or.inl (hw _ (List.mem_of_getElem? (i := 84) rfl))) (Or.inl (hw _ (List.mem_of_getElem? (i := 13) rfl))) (by decide) (t := .int) (t' := (.array .long)) (by decide) (by decide))))
  have F_wholeEnd_327 : Fld Z h298 o0 "com/example/sidestep/sidestep/Starts" "wholeEnd" "I" (.int (0 : Int32)) := (F_wholeEnd_288.other W298 (Or.inr (slot_ne (Or.inl (hw _ (List.mem_of_getElem? (i := 86) rfl))) (Or.inl (hw _ (List.mem_of_getElem? (i := 13) rfl))) (by decide) (t := .int) (t' := (.array .long)) (by decide) (by decide))))
  have F_decidedEnd_328 : Fld Z h298 o0 "com/example/sidestep/sidestep/Starts" "decidedEnd" "I" (.int (0 : Int32)) := (F_decidedEnd_289.other W298 (Or.inr (slot_ne (Or.inl (hw _ (List.mem_of_getElem? (i := 88) rfl))) (Or.inl (hw _ (List.mem_of_getElem? (i := 13) rfl))) (by decide) (t := .int) (t' := (.array .long)) (by decide) (by decide))))
  have F_placed_329 : Fld Z h298 o0 "com/example/sidestep/sidestep/Starts" "placed" "I" (.int (0 : Int32)) := (F_placed_290.other W298 (Or.inr (slot_ne (Or.inl (hw _ (List.mem_of_getElem? (i := 90) rfl))) (Or.inl (hw _ (List.mem_of_getElem? (i := 13) rfl))) (by decide) (t := .int) (t' := (.array .long)) (by decide) (by decide))))
  have F_taken_330 : Fld Z h298 o0 "com/example/sidestep/sidestep/Starts" "taken" "I" (.int (0 : Int32)) := (F_taken_291.other W298 (Or.inr (slot_ne (Or.inl (hw _ (List.mem_of_getElem? (i := 92) rfl))) (Or.inl (hw _ (List.mem_of_getElem? (i := 13) rfl))) (by decide) (t := .int) (t' := (.array .long)) (by decide) (by decide))))
  have F_listedTo_331 : Fld Z h298 o0 "com/example/sidestep/sidestep/Starts" "listedTo" "I" (.int (0 : Int32)) := (F_listedTo_292.other W298 (Or.inr (slot_ne (Or.inl (hw _ (List.mem_of_getElem? (i := 94) rfl))) (Or.inl (hw _ (List.mem_of_getElem? (i := 13) rfl))) (by decide) (t := .int) (t' := (.array .long)) (by decide) (by decide))))
  have F_dense_332 : Fld Z h298 o0 "com/example/sidestep/sidestep/Starts" "dense" "Z" (.int (0 : Int32)) := (F_dense_293.other W298 (Or.inr (slot_ne (Or.inl (hw _ (List.mem_of_getElem? (i := 96) rfl))) (Or.inl (hw _ (List.mem_of_getElem? (i := 13) rfl))) (by decide) (t := .boolean) (t' := (.array .long)) (by decide) (by decide))))
  have F_marking_333 : Fld Z h298 o0 "com/example/sidestep/sidestep/Starts" "marking" "I" (.int (0 : Int32)) := (F_marking_294.other W298 (Or.inr (slot_ne (Or.inl (hw _ (List.mem_of_getElem? (i := 102) rfl))) (Or.inl (hw _ (List.mem_of_getElem? (i := 13) rfl))) (by decide) (t := .int) (t' := (.array .long)) (by decide) (by decide))))
  have F_sections_334 : Fld Z h298 o0 "com/example/sidestep/sidestep/Starts" "sections" "I" (.int (0 : Int32)) := (F_sections_295.other W298 (Or.inr (slot_ne (Or.inl (hw _ (List.mem_of_getElem? (i := 104) rfl))) (Or.inl (hw _ (List.mem_of_getElem? (i := 13) rfl))) (by decide) (t := .int) (t' := (.array .long)) (by decide) (by decide))))
  have F_handedSections_335 : Fld Z h298 o0 "com/example/sidestep/sidestep/Starts" "handedSections" "I" (.int (0 : Int32)) := (F_handedSections_296.other W298 (Or.inr (slot_ne (Or.inl (hw _ (List.mem_of_getElem? (i := 106) rfl))) (Or.inl (hw _ (List.mem_of_getElem? (i := 13) rfl))) (by decide) (t := .int) (t' := (.array .long)) (by decide) (by decide))))
  have V1_336 : Arv Z h298 o1 ku .int (Int32.ofNat nN) (us.map Value.int) (.int (0 : Int32)) := (V1_297.other W298 hne)
  have N298 := Fr.snoc X298 N0 gn_o0
  refine Got.step st298 ?_
  show Got p e below s _ _ _ _ T298 (mkF m 11 #[.val (.ref o0), .val (.ref o1), .unset, .unset, .unset] [])
  refine Got.step (T' := T298) (g' := (mkF m 14 #[.val (.ref o0), .val (.ref o1), .unset, .unset, .unset] [(.int (32 : Int32)), (.ref o0)])) (fun tq kt => ?_) ?_
  · show Steps p.tables e below (T298.setTop (mkF m 11 #[.val (.ref o0), .val (.ref o1), .unset, .unset, .unset] [])) _
    refine XS.aloadN X298.here hx rfl (hb hby d1_11) rfl rfl ?_
    show Steps p.tables e below (T298.setTop (mkF m 12 #[.val (.ref o0), .val (.ref o1), .unset, .unset, .unset] [(.ref o0)])) _
    refine XS.bipush X298.here hx rfl (hb hby d1_12) ?_
    exact kt
  obtain ⟨T337, h337, k337, X337, e337, E337, A337, st337⟩ := newP X298 hx hZ (hw _ (List.mem_of_getElem? (i := 11) rfl)) e298 (g := (mkF m 14 #[.val (.ref o0), .val (.ref o1), .unset, .unset, .unset] [(.int (32 : Int32)), (.ref o0)])) rfl (hb hby d1_14) rfl (by decide) (cap := 32) (by decide) (by decide) (by decide) (by decide)
  obtain ⟨b337, g337⟩ : ∃ z, z = h298.size := ⟨_, rfl⟩
  rw [← g337] at A337 st337
  have ne_o0_b337 : o0 ≠ b337 := by rw [g337]; exact Nat.ne_of_lt E_o0_301.lt
  have ne_o1_b337 : o1 ≠ b337 := by rw [g337]; exact Nat.ne_of_lt V1_336.lt
  have gn_b337 : n0 ≤ b337 := by rw [g337]; exact Z0_299
  have sz_b337 : h0.size ≤ b337 := by rw [g337]; exact K0_300.1
  have Z0_338 : n0 ≤ h337.size := (Nat.le_trans Z0_299 E337.1)
  have K0_339 : Keep h0 h337 [o0] := (K0_300.ext E337)
  have E_o0_340 : Exa Z h337 o0 "com/example/sidestep/sidestep/Starts" := (E_o0_301.ext E337)
  have F_nonzeroWords_341 : Fld Z h337 o0 "com/example/sidestep/sidestep/Starts" "nonzeroWords" "[J" .null := (F_nonzeroWords_303.ext E337)
  have F_fewBusyBlocks_342 : Fld Z h337 o0 "com/example/sidestep/sidestep/Starts" "fewBusyBlocks" "Z" (.int (0 : Int32)) := (F_fewBusyBlocks_304.ext E337)
  have F_places_343 : Fld Z h337 o0 "com/example/sidestep/sidestep/Starts" "places" "[I" .null := (F_places_305.ext E337)
  have F_listedInWindow_344 : Fld Z h337 o0 "com/example/sidestep/sidestep/Starts" "listedInWindow" "[I" .null := (F_listedInWindow_306.ext E337)
  have F_tallies_345 : Fld Z h337 o0 "com/example/sidestep/sidestep/Starts" "tallies" "[J" .null := (F_tallies_307.ext E337)
  have F_length_346 : Fld Z h337 o0 "com/example/sidestep/sidestep/Starts" "length" "I" (.int (0 : Int32)) := (F_length_308.ext E337)
  have F_exact_347 : Fld Z h337 o0 "com/example/sidestep/sidestep/Starts" "exact" "Z" (.int (0 : Int32)) := (F_exact_309.ext E337)
  have F_lastOffset_348 : Fld Z h337 o0 "com/example/sidestep/sidestep/Starts" "lastOffset" "I" (.int (0 : Int32)) := (F_lastOffset_310.ext E337)
  have F_secondOffset_349 : Fld Z h337 o0 "com/example/sidestep/sidestep/Starts" "secondOffset" "I" (.int (0 : Int32)) := (F_secondOffset_311.ext E337)
  have F_thirdOffset_350 : Fld Z h337 o0 "com/example/sidestep/sidestep/Starts" "thirdOffset" "I" (.int (0 : Int32)) := (F_thirdOffset_312.ext E337)
  have F_penultimateOffset_351 : Fld Z h337 o0 "com/example/sidestep/sidestep/Starts" "penultimateOffset" "I" (.int (0 : Int32)) := (F_penultimateOffset_313.ext E337)
  have F_firstBytes_352 : Fld Z h337 o0 "com/example/sidestep/sidestep/Starts" "firstBytes" "J" (.long (0 : Int64)) := (F_firstBytes_314.ext E337)
  have F_secondBytes_353 : Fld Z h337 o0 "com/example/sidestep/sidestep/Starts" "secondBytes" "J" (.long (0 : Int64)) := (F_secondBytes_315.ext E337)
  have F_thirdBytes_354 : Fld Z h337 o0 "com/example/sidestep/sidestep/Starts" "thirdBytes" "J" (.long (0 : Int64)) := (F_thirdBytes_316.ext E337)
  have F_penultimateBytes_355 : Fld Z h337 o0 "com/example/sidestep/sidestep/Starts" "penultimateBytes" "J" (.long (0 : Int64)) := (F_penultimateBytes_317.ext E337)
  have F_lastBytes_356 : Fld Z h337 o0 "com/example/sidestep/sidestep/Starts" "lastBytes" "J" (.long (0 : Int64)) := (F_lastBytes_318.ext E337)
  have F_patternWords_357 : Fld Z h337 o0 "com/example/sidestep/sidestep/Starts" "patternWords" "[J" .null := (F_patternWords_319.ext E337)
  have F_lastWordOffset_358 : Fld Z h337 o0 "com/example/sidestep/sidestep/Starts" "lastWordOffset" "I" (.int (0 : Int32)) := (F_lastWordOffset_320.ext E337)
  have F_lastWordMask_359 : Fld Z h337 o0 "com/example/sidestep/sidestep/Starts" "lastWordMask" "J" (.long (0 : Int64)) := (F_lastWordMask_321.ext E337)
  have F_source_360 : Fld Z h337 o0 "com/example/sidestep/sidestep/Starts" "source" "Lcom/example/sidestep/sidestep/Starts$LowBytes;" .null := (F_source_322.ext E337)
  have F_copiedTo_361 : Fld Z h337 o0 "com/example/sidestep/sidestep/Starts" "copiedTo" "I" (.int (0 : Int32)) := (F_copiedTo_323.ext E337)
  have F_lowBytes_362 : Fld Z h337 o0 "com/example/sidestep/sidestep/Starts" "lowBytes" "[B" .null := (F_lowBytes_324.ext E337)
  have F_to_363 : Fld Z h337 o0 "com/example/sidestep/sidestep/Starts" "to" "I" (.int (0 : Int32)) := (F_to_325.ext E337)
  have F_placesEnd_364 : Fld Z h337 o0 "com/example/sidestep/sidestep/Starts" "placesEnd" "I" (.int (0 : Int32)) := (F_placesEnd_326.ext E337)
  have F_wholeEnd_365 : Fld Z h337 o0 "com/example/sidestep/sidestep/Starts" "wholeEnd" "I" (.int (0 : Int32)) := (F_wholeEnd_327.ext E337)
  have F_decidedEnd_366 : Fld Z h337 o0 "com/example/sidestep/sidestep/Starts" "decidedEnd" "I" (.int (0 : Int32)) := (F_decidedEnd_328.ext E337)
  have F_placed_367 : Fld Z h337 o0 "com/example/sidestep/sidestep/Starts" "placed" "I" (.int (0 : Int32)) := (F_placed_329.ext E337)
  have F_taken_368 : Fld Z h337 o0 "com/example/sidestep/sidestep/Starts" "taken" "I" (.int (0 : Int32)) := (F_taken_330.ext E337)
  have F_listedTo_369 : Fld Z h337 o0 "com/example/sidestep/sidestep/Starts" "listedTo" "I" (.int (0 : Int32)) := (F_listedTo_331.ext E337)
  have F_dense_370 : Fld Z h337 o0 "com/example/sidestep/sidestep/Starts" "dense" "Z" (.int (0 : Int32)) := (F_dense_332.ext E337)
  have F_marking_371 : Fld Z h337 o0 "com/example/sidestep/sidestep/Starts" "marking" "I" (.int (0 : Int32)) := (F_marking_333.ext E337)
  have F_sections_372 : Fld Z h337 o0 "com/example/sidestep/sidestep/Starts" "sections" "I" (.int (0 : Int32)) := (F_sections_334.ext E337)
  have F_handedSections_373 : Fld Z h337 o0 "com/example/sidestep/sidestep/Starts" "handedSections" "I" (.int (0 : Int32)) := (F_handedSections_335.ext E337)
  have V1_374 : Arv Z h337 o1 ku .int (Int32.ofNat nN) (us.map Value.int) (.int (0 : Int32)) := (V1_336.ext E337)
  have V337 : Arv Z h337 b337 k337 .long (32 : Int32) [(.long (0 : Int64)), (.long (0 : Int64)), (.long (0 : Int64)), (.long (0 : Int64)), (.long (0 : Int64)), (.long (0 : Int64)), (.long (0 : Int64)), (.long (0 : Int64)), (.long (0 : Int64)), (.long (0 : Int64)), (.long (0 : Int64)), (.long (0 : Int64)), (.long (0 : Int64)), (.long (0 : Int64)), (.long (0 : Int64)), (.long (0 : Int64)), (.long (0 : Int64)), (.long (0 : Int64)), (.long (0 : Int64)), (.long (0 : Int64)), (.long (0 : Int64)), (.long (0 : Int64)), (.long (0 : Int64)), (.long (0 : Int64)), (.long (0 : Int64)), (.long (0 : Int64)), (.long (0 : Int64)), (.long (0 : Int64)), (.long (0 : Int64)), (.long (0 : Int64)), (.long (0 : Int64)), (.long (0 : Int64))] (.long (0 : Int64)) := (Arv.new A337 (by decide)).pad (pad_rep [] (.long (0 : Int64)) 32)
  refine Got.step st337 ?_
  show Got p e below s _ _ _ _ T337 (mkF m 16 #[.val (.ref o0), .val (.ref o1), .unset, .unset, .unset] [(.ref b337), (.ref o0)])
  obtain ⟨T375, h375, X375, e375, W375, st375⟩ := putF X337 hx hZ hown (host := "") (Or.inl (hw _ (List.mem_of_getElem? (i := 14) rfl))) Via.refl e337 F_nonzeroWords_341 E_o0_340 (Or.inr ⟨(hw _ (List.mem_of_getElem? (i := 15) rfl)), rfl, hnm⟩) (hw _ (List.mem_of_getElem? (i := 3) rfl)) (ty := (.array .long)) (by decide) rfl rfl (g := (mkF m 16 #[.val (.ref o0), .val (.ref o1), .unset, .unset, .unset] [(.ref b337), (.ref o0)])) rfl rfl (hb hby d1_16)
  have Z0_376 : n0 ≤ h375.size := (Nat.le_trans Z0_338 (Keep.of_wr W375).1)
  have K0_377 : Keep h0 h375 [o0] := (K0_339.wr W375 (Or.inl (List.mem_of_getElem? (i := 0) rfl)))
  have E_o0_378 : Exa Z h375 o0 "com/example/sidestep/sidestep/Starts" := (E_o0_340.wr W375)
  have F_nonzeroWords_379 : Fld Z h375 o0 "com/example/sidestep/sidestep/Starts" "nonzeroWords" "[J" (.ref b337) := (F_nonzeroWords_341.same W375)
  have F_fewBusyBlocks_380 : Fld Z h375 o0 "com/example/sidestep/sidestep/Starts" "fewBusyBlocks" "Z" (.int (0 : Int32)) := (F_fewBusyBlocks_342.other W375 (Or.inr (slot_ne (Or.inl (hw _ (List.mem_of_getElem? (i := 17) rfl))) (Or.inr (hw _ (List.mem_of_getElem? (i := 15) rfl))) (by decide) (t := .boolean) (t' := (.array .long)) (by decide) (by decide))))
  have F_places_381 : Fld Z h375 o0 "com/example/sidestep/sidestep/Starts" "places" "[I" .null := (F_places_343.other W375 (Or.inr (slot_ne (Or.inl (hw _ (List.mem_of_getElem? (i := 19) rfl))) (Or.inr (hw _ (List.mem_of_getElem? (i := 15) rfl))) (by decide) (t := (.array .int)) (t' := (.array .long)) (by decide) (by decide))))
  have F_listedInWindow_382 : Fld Z h375 o0 "com/example/sidestep/sidestep/Starts" "listedInWindow" "[I" .null := (F_listedInWindow_344.other W375 (Or.inr (slot_ne (Or.inr (hw _ (List.mem_of_getElem? (i := 21) rfl))) (Or.inr (hw _ (List.mem_of_getElem? (i := 15) rfl))) (by decide) (t := (.array .int)) (t' := (.array .long)) (by decide) (by decide))))
  have F_tallies_383 : Fld Z h375 o0 "com/example/sidestep/sidestep/Starts" "tallies" "[J" .null := (F_tallies_345.other W375 (Or.inr (slot_ne (Or.inl (hw _ (List.mem_of_getElem? (i := 23) rfl))) (Or.inr (hw _ (List.mem_of_getElem? (i := 15) rfl))) (by decide) (t := (.array .long)) (t' := (.array .long)) (by decide) (by decide))))
  have F_length_384 : Fld Z h375 o0 "com/example/sidestep/sidestep/Starts" "length" "I" (.int (0 : Int32)) := (F_length_346.other W375 (Or.inr (slot_ne (Or.inr (hw _ (List.mem_of_getElem? (i := 25) rfl))) (Or.inr (hw _ (List.mem_of_getElem? (i := 15) rfl))) (by decide) (t := .int) (t' := (.array .long)) (by decide) (by decide))))
  have F_exact_385 : Fld Z h375 o0 "com/example/sidestep/sidestep/Starts" "exact" "Z" (.int (0 : Int32)) := (F_exact_347.other W375 (Or.inr (slot_ne (Or.inr (hw _ (List.mem_of_getElem? (i := 27) rfl))) (Or.inr (hw _ (List.mem_of_getElem? (i := 15) rfl))) (by decide) (t := .boolean) (t' := (.array .long)) (by decide) (by decide))))
  have F_lastOffset_386 : Fld Z h375 o0 "com/example/sidestep/sidestep/Starts" "lastOffset" "I" (.int (0 : Int32)) := (F_lastOffset_348.other W375 (Or.inr (slot_ne (Or.inr (hw _ (List.mem_of_getElem? (i := 29) rfl))) (Or.inr (hw _ (List.mem_of_getElem? (i := 15) rfl))) (by decide) (t := .int) (t' := (.array .long)) (by decide) (by decide))))
  have F_secondOffset_387 : Fld Z h375 o0 "com/example/sidestep/sidestep/Starts" "secondOffset" "I" (.int (0 : Int32)) := (F_secondOffset_349.other W375 (Or.inr (slot_ne (Or.inr (hw _ (List.mem_of_getElem? (i := 35) rfl))) (Or.inr (hw _ (List.mem_of_getElem? (i := 15) rfl))) (by decide) (t := .int) (t' := (.array .long)) (by decide) (by decide))))
  have F_thirdOffset_388 : Fld Z h375 o0 "com/example/sidestep/sidestep/Starts" "thirdOffset" "I" (.int (0 : Int32)) := (F_thirdOffset_350.other W375 (Or.inr (slot_ne (Or.inr (hw _ (List.mem_of_getElem? (i := 37) rfl))) (Or.inr (hw _ (List.mem_of_getElem? (i := 15) rfl))) (by decide) (t := .int) (t' := (.array .long)) (by decide) (by decide))))
  have F_penultimateOffset_389 : Fld Z h375 o0 "com/example/sidestep/sidestep/Starts" "penultimateOffset" "I" (.int (0 : Int32)) := (F_penultimateOffset_351.other W375 (Or.inr (slot_ne (Or.inr (hw _ (List.mem_of_getElem? (i := 42) rfl))) (Or.inr (hw _ (List.mem_of_getElem? (i := 15) rfl))) (by decide) (t := .int) (t' := (.array .long)) (by decide) (by decide))))
  have F_firstBytes_390 : Fld Z h375 o0 "com/example/sidestep/sidestep/Starts" "firstBytes" "J" (.long (0 : Int64)) := (F_firstBytes_352.other W375 (Or.inr (slot_ne (Or.inr (hw _ (List.mem_of_getElem? (i := 49) rfl))) (Or.inr (hw _ (List.mem_of_getElem? (i := 15) rfl))) (by decide) (t := .long) (t' := (.array .long)) (by decide) (by decide))))
  have F_secondBytes_391 : Fld Z h375 o0 "com/example/sidestep/sidestep/Starts" "secondBytes" "J" (.long (0 : Int64)) := (F_secondBytes_353.other W375 (Or.inr (slot_ne (Or.inr (hw _ (List.mem_of_getElem? (i := 51) rfl))) (Or.inr (hw _ (List.mem_of_getElem? (i := 15) rfl))) (by decide) (t := .long) (t' := (.array .long)) (by decide) (by decide))))
  have F_thirdBytes_392 : Fld Z h375 o0 "com/example/sidestep/sidestep/Starts" "thirdBytes" "J" (.long (0 : Int64)) := (F_thirdBytes_354.other W375 (Or.inr (slot_ne (Or.inr (hw _ (List.mem_of_getElem? (i := 53) rfl))) (Or.inr (hw _ (List.mem_of_getElem? (i := 15) rfl))) (by decide) (t := .long) (t' := (.array .long)) (by decide) (by decide))))
  have F_penultimateBytes_393 : Fld Z h375 o0 "com/example/sidestep/sidestep/Starts" "penultimateBytes" "J" (.long (0 : Int64)) := (F_penultimateBytes_355.other W375 (Or.inr (slot_ne (Or.inr (hw _ (List.mem_of_getElem? (i := 55) rfl))) (Or.inr (hw _ (List.mem_of_getElem? (i := 15) rfl))) (by decide) (t := .long) (t' := (.array .long)) (by decide) (by decide))))
  have F_lastBytes_394 : Fld Z h375 o0 "com/example/sidestep/sidestep/Starts" "lastBytes" "J" (.long (0 : Int64)) := (F_lastBytes_356.other W375 (Or.inr (slot_ne (Or.inr (hw _ (List.mem_of_getElem? (i := 57) rfl))) (Or.inr (hw _ (List.mem_of_getElem? (i := 15) rfl))) (by decide) (t := .long) (t' := (.array .long)) (by decide) (by decide))))
  have F_patternWords_395 : Fld Z h375 o0 "com/example/sidestep/sidestep/Starts" "patternWords" "[J" .null := (F_patternWords_357.other W375 (Or.inr (slot_ne (Or.inr (hw _ (List.mem_of_getElem? (i := 59) rfl))) (Or.inr (hw _ (List.mem_of_getElem? (i := 15) rfl))) (by decide) (t := (.array .long)) (t' := (.array .long)) (by decide) (by decide))))
  have F_lastWordOffset_396 : Fld Z h375 o0 "com/example/sidestep/sidestep/Starts" "lastWordOffset" "I" (.int (0 : Int32)) := (F_lastWordOffset_358.other W375 (Or.inr (slot_ne (Or.inr (hw _ (List.mem_of_getElem? (i := 61) rfl))) (Or.inr (hw _ (List.mem_of_getElem? (i := 15) rfl))) (by decide) (t := .int) (t' := (.array .long)) (by decide) (by decide))))
  have F_lastWordMask_397 : Fld Z h375 o0 "com/example/sidestep/sidestep/Starts" "lastWordMask" "J" (.long (0 : Int64)) := (F_lastWordMask_359.other W375 (Or.inr (slot_ne (Or.inr (hw _ (List.mem_of_getElem? (i := 63) rfl))) (Or.inr (hw _ (List.mem_of_getElem? (i := 15) rfl))) (by decide) (t := .long) (t' := (.array .long)) (by decide) (by decide))))
  have F_source_398 : Fld Z h375 o0 "com/example/sidestep/sidestep/Starts" "source" "Lcom/example/sidestep/sidestep/Starts$LowBytes;" .null := (F_source_360.other W375 (Or.inr (slot_ne (Or.inl (hw _ (List.mem_of_getElem? (i := 76) rfl))) (Or.inr (hw _ (List.mem_of_getElem? (i := 15) rfl))) (by decide) (t := (.object "com/example/sidestep/sidestep/Starts$LowBytes")) (t' := (.array .long)) (by decide) (by decide))))
  have F_copiedTo_399 : Fld Z h375 o0 "com/example/sidestep/sidestep/Starts" "copiedTo" "I" (.int (0 : Int32)) := (F_copiedTo_361.other W375 (Or.inr (slot_ne (Or.inl (hw _ (List.mem_of_getElem? (i := 78) rfl))) (Or.inr (hw _ (List.mem_of_getElem? (i := 15) rfl))) (by decide) (t := .int) (t' := (.array .long)) (by decide) (by decide))))
  have F_lowBytes_400 : Fld Z h375 o0 "com/example/sidestep/sidestep/Starts" "lowBytes" "[B" .null := (F_lowBytes_362.other W375 (Or.inr (slot_ne (Or.inl (hw _ (List.mem_of_getElem? (i := 80) rfl))) (Or.inr (hw _ (List.mem_of_getElem? (i := 15) rfl))) (by decide) (t := (.array .byte)) (t' := (.array .long)) (by decide) (by decide))))
  have F_to_401 : Fld Z h375 o0 "com/example/sidestep/sidestep/Starts" "to" "I" (.int (0 : Int32)) := (F_to_363.other W375 (Or.inr (slot_ne (Or.inl (hw _ (List.mem_of_getElem? (i := 82) rfl))) (Or.inr (hw _ (List.mem_of_getElem? (i := 15) rfl))) (by decide) (t := .int) (t' := (.array .long)) (by decide) (by decide))))
  have F_placesEnd_402 : Fld Z h375 o0 "com/example/sidestep/sidestep/Starts" "placesEnd" "I" (.int (0 : Int32)) := (F_placesEnd_364.other W375 (Or.inr (slot_ne (Or.inl (hw _ (List.mem_of_getElem? (i := 84) rfl))) (Or.inr (hw _ (List.mem_of_getElem? (i := 15) rfl))) (by decide) (t := .int) (t' := (.array .long)) (by decide) (by decide))))
  have F_wholeEnd_403 : Fld Z h375 o0 "com/example/sidestep/sidestep/Starts" "wholeEnd" "I" (.int (0 : Int32)) := (F_wholeEnd_365.other W375 (Or.inr (slot_ne (Or.inl (hw _ (List.mem_of_getElem? (i := 86) rfl))) (Or.inr (hw _ (List.mem_of_getElem? (i := 15) rfl))) (by decide) (t := .int) (t' := (.array .long)) (by decide) (by decide))))
  have F_decidedEnd_404 : Fld Z h375 o0 "com/example/sidestep/sidestep/Starts" "decidedEnd" "I" (.int (0 : Int32)) := (F_decidedEnd_366.other W375 (Or.inr (slot_ne (Or.inl (hw _ (List.mem_of_getElem? (i := 88) rfl))) (Or.inr (hw _ (List.mem_of_getElem? (i := 15) rfl))) (by decide) (t := .int) (t' := (.array .long)) (by decide) (by decide))))
  have F_placed_405 : Fld Z h375 o0 "com/example/sidestep/sidestep/Starts" "placed" "I" (.int (0 : Int32)) := (F_placed_367.other W375 (Or.inr (slot_ne (Or.inl (hw _ (List.mem_of_getElem? (i := 90) rfl))) (Or.inr (hw _ (List.mem_of_getElem? (i := 15) rfl))) (by decide) (t := .int) (t' := (.array .long)) (by decide) (by decide))))
  have F_taken_406 : Fld Z h375 o0 "com/example/sidestep/sidestep/Starts" "taken" "I" (.int (0 : Int32)) := (F_taken_368.other W375 (Or.inr (slot_ne (Or.inl (hw _ (List.mem_of_getElem? (i := 92) rfl))) (Or.inr (hw _ (List.mem_of_getElem? (i := 15) rfl))) (by decide) (t := .int) (t' := (.array .long)) (by decide) (by decide))))
  have F_listedTo_407 : Fld Z h375 o0 "com/example/sidestep/sidestep/Starts" "listedTo" "I" (.int (0 : Int32)) := (F_listedTo_369.other W375 (Or.inr (slot_ne (Or.inl (hw _ (List.mem_of_getElem? (i := 94) rfl))) (Or.inr (hw _ (List.mem_of_getElem? (i := 15) rfl))) (by decide) (t := .int) (t' := (.array .long)) (by decide) (by decide))))
  have F_dense_408 : Fld Z h375 o0 "com/example/sidestep/sidestep/Starts" "dense" "Z" (.int (0 : Int32)) := (F_dense_370.other W375 (Or.inr (slot_ne (Or.inl (hw _ (List.mem_of_getElem? (i := 96) rfl))) (Or.inr (hw _ (List.mem_of_getElem? (i := 15) rfl))) (by decide) (t := .boolean) (t' := (.array .long)) (by decide) (by decide))))
  have F_marking_409 : Fld Z h375 o0 "com/example/sidestep/sidestep/Starts" "marking" "I" (.int (0 : Int32)) := (F_marking_371.other W375 (Or.inr (slot_ne (Or.inl (hw _ (List.mem_of_getElem? (i := 102) rfl))) (Or.inr (hw _ (List.mem_of_getElem? (i := 15) rfl))) (by decide) (t := .int) (t' := (.array .long)) (by decide) (by decide))))
  have F_sections_410 : Fld Z h375 o0 "com/example/sidestep/sidestep/Starts" "sections" "I" (.int (0 : Int32)) := (F_sections_372.other W375 (Or.inr (slot_ne (Or.inl (hw _ (List.mem_of_getElem? (i := 104) rfl))) (Or.inr (hw _ (List.mem_of_getElem? (i := 15) rfl))) (by decide) (t := .int) (t' := (.array .long)) (by decide) (by decide))))
  have F_handedSections_411 : Fld Z h375 o0 "com/example/sidestep/sidestep/Starts" "handedSections" "I" (.int (0 : Int32)) := (F_handedSections_373.other W375 (Or.inr (slot_ne (Or.inl (hw _ (List.mem_of_getElem? (i := 106) rfl))) (Or.inr (hw _ (List.mem_of_getElem? (i := 15) rfl))) (by decide) (t := .int) (t' := (.array .long)) (by decide) (by decide))))
  have V1_412 : Arv Z h375 o1 ku .int (Int32.ofNat nN) (us.map Value.int) (.int (0 : Int32)) := (V1_374.other W375 hne)
  have N375 := Fr.snoc X375 N298 gn_o0
  refine Got.step st375 ?_
  show Got p e below s _ _ _ _ T375 (mkF m 19 #[.val (.ref o0), .val (.ref o1), .unset, .unset, .unset] [])
  refine Got.step (T' := T375) (g' := (mkF m 21 #[.val (.ref o0), .val (.ref o1), .unset, .unset, .unset] [(.int (1 : Int32)), (.ref o0)])) (fun tq kt => ?_) ?_
  · show Steps p.tables e below (T375.setTop (mkF m 19 #[.val (.ref o0), .val (.ref o1), .unset, .unset, .unset] [])) _
    refine XS.aloadN X375.here hx rfl (hb hby d1_19) rfl rfl ?_
    show Steps p.tables e below (T375.setTop (mkF m 20 #[.val (.ref o0), .val (.ref o1), .unset, .unset, .unset] [(.ref o0)])) _
    refine XS.iconst X375.here hx rfl (hb hby d1_20) ?_
    exact kt
  obtain ⟨T413, h413, X413, e413, W413, st413⟩ := putFN X375 hx hZ hown (hw _ (List.mem_of_getElem? (i := 16) rfl)) Via.refl e375 F_fewBusyBlocks_380 E_o0_378 (Or.inl (hw _ (List.mem_of_getElem? (i := 17) rfl))) (hw _ (List.mem_of_getElem? (i := 3) rfl)) (ty := .boolean) (v' := (.int (1 : Int32))) (by decide) rfl (by decide) (g := (mkF m 21 #[.val (.ref o0), .val (.ref o1), .unset, .unset, .unset] [(.int (1 : Int32)), (.ref o0)])) rfl rfl (hb hby d1_21)
  have Z0_414 : n0 ≤ h413.size := (Nat.le_trans Z0_376 (Keep.of_wr W413).1)
  have K0_415 : Keep h0 h413 [o0] := (K0_377.wr W413 (Or.inl (List.mem_of_getElem? (i := 0) rfl)))
  have E_o0_416 : Exa Z h413 o0 "com/example/sidestep/sidestep/Starts" := (E_o0_378.wr W413)
  have F_fewBusyBlocks_417 : Fld Z h413 o0 "com/example/sidestep/sidestep/Starts" "fewBusyBlocks" "Z" (.int (1 : Int32)) := (F_fewBusyBlocks_380.same W413)
  have F_places_418 : Fld Z h413 o0 "com/example/sidestep/sidestep/Starts" "places" "[I" .null := (F_places_381.other W413 (Or.inr (slot_ne (Or.inl (hw _ (List.mem_of_getElem? (i := 19) rfl))) (Or.inl (hw _ (List.mem_of_getElem? (i := 17) rfl))) (by decide) (t := (.array .int)) (t' := .boolean) (by decide) (by decide))))
  have F_listedInWindow_419 : Fld Z h413 o0 "com/example/sidestep/sidestep/Starts" "listedInWindow" "[I" .null := (F_listedInWindow_382.other W413 (Or.inr (slot_ne (Or.inr (hw _ (List.mem_of_getElem? (i := 21) rfl))) (Or.inl (hw _ (List.mem_of_getElem? (i := 17) rfl))) (by decide) (t := (.array .int)) (t' := .boolean) (by decide) (by decide))))
  have F_tallies_420 : Fld Z h413 o0 "com/example/sidestep/sidestep/Starts" "tallies" "[J" .null := (F_tallies_383.other W413 (Or.inr (slot_ne (Or.inl (hw _ (List.mem_of_getElem? (i := 23) rfl))) (Or.inl (hw _ (List.mem_of_getElem? (i := 17) rfl))) (by decide) (t := (.array .long)) (t' := .boolean) (by decide) (by decide))))
  have F_length_421 : Fld Z h413 o0 "com/example/sidestep/sidestep/Starts" "length" "I" (.int (0 : Int32)) := (F_length_384.other W413 (Or.inr (slot_ne (Or.inr (hw _ (List.mem_of_getElem? (i := 25) rfl))) (Or.inl (hw _ (List.mem_of_getElem? (i := 17) rfl))) (by decide) (t := .int) (t' := .boolean) (by decide) (by decide))))
  have F_exact_422 : Fld Z h413 o0 "com/example/sidestep/sidestep/Starts" "exact" "Z" (.int (0 : Int32)) := (F_exact_385.other W413 (Or.inr (slot_ne (Or.inr (hw _ (List.mem_of_getElem? (i := 27) rfl))) (Or.inl (hw _ (List.mem_of_getElem? (i := 17) rfl))) (by decide) (t := .boolean) (t' := .boolean) (by decide) (by decide))))
  have F_lastOffset_423 : Fld Z h413 o0 "com/example/sidestep/sidestep/Starts" "lastOffset" "I" (.int (0 : Int32)) := (F_lastOffset_386.other W413 (Or.inr (slot_ne (Or.inr (hw _ (List.mem_of_getElem? (i := 29) rfl))) (Or.inl (hw _ (List.mem_of_getElem? (i := 17) rfl))) (by decide) (t := .int) (t' := .boolean) (by decide) (by decide))))
  have F_secondOffset_424 : Fld Z h413 o0 "com/example/sidestep/sidestep/Starts" "secondOffset" "I" (.int (0 : Int32)) := (F_secondOffset_387.other W413 (Or.inr (slot_ne (Or.inr (hw _ (List.mem_of_getElem? (i := 35) rfl))) (Or.inl (hw _ (List.mem_of_getElem? (i := 17) rfl))) (by decide) (t := .int) (t' := .boolean) (by decide) (by decide))))
  have F_thirdOffset_425 : Fld Z h413 o0 "com/example/sidestep/sidestep/Starts" "thirdOffset" "I" (.int (0 : Int32)) := (F_thirdOffset_388.other W413 (Or.inr (slot_ne (Or.inr (hw _ (List.mem_of_getElem? (i := 37) rfl))) (Or.inl (hw _ (List.mem_of_getElem? (i := 17) rfl))) (by decide) (t := .int) (t' := .boolean) (by decide) (by decide))))
  have F_penultimateOffset_426 : Fld Z h413 o0 "com/example/sidestep/sidestep/Starts" "penultimateOffset" "I" (.int (0 : Int32)) := (F_penultimateOffset_389.other W413 (Or.inr (slot_ne (Or.inr (hw _ (List.mem_of_getElem? (i := 42) rfl))) (Or.inl (hw _ (List.mem_of_getElem? (i := 17) rfl))) (by decide) (t := .int) (t' := .boolean) (by decide) (by decide))))
  have F_firstBytes_427 : Fld Z h413 o0 "com/example/sidestep/sidestep/Starts" "firstBytes" "J" (.long (0 : Int64)) := (F_firstBytes_390.other W413 (Or.inr (slot_ne (Or.inr (hw _ (List.mem_of_getElem? (i := 49) rfl))) (Or.inl (hw _ (List.mem_of_getElem? (i := 17) rfl))) (by decide) (t := .long) (t' := .boolean) (by decide) (by decide))))
  have F_secondBytes_428 : Fld Z h413 o0 "com/example/sidestep/sidestep/Starts" "secondBytes" "J" (.long (0 : Int64)) := (F_secondBytes_391.other W413 (Or.inr (slot_ne (Or.inr (hw _ (List.mem_of_getElem? (i := 51) rfl))) (Or.inl (hw _ (List.mem_of_getElem? (i := 17) rfl))) (by decide) (t := .long) (t' := .boolean) (by decide) (by decide))))
  have F_thirdBytes_429 : Fld Z h413 o0 "com/example/sidestep/sidestep/Starts" "thirdBytes" "J" (.long (0 : Int64)) := (F_thirdBytes_392.other W413 (Or.inr (slot_ne (Or.inr (hw _ (List.mem_of_getElem? (i := 53) rfl))) (Or.inl (hw _ (List.mem_of_getElem? (i := 17) rfl))) (by decide) (t := .long) (t' := .boolean) (by decide) (by decide))))
  have F_penultimateBytes_430 : Fld Z h413 o0 "com/example/sidestep/sidestep/Starts" "penultimateBytes" "J" (.long (0 : Int64)) := (F_penultimateBytes_393.other W413 (Or.inr (slot_ne (Or.inr (hw _ (List.mem_of_getElem? (i := 55) rfl))) (Or.inl (hw _ (List.mem_of_getElem? (i := 17) rfl))) (by decide) (t := .long) (t' := .boolean) (by decide) (by decide))))
  have F_lastBytes_431 : Fld Z h413 o0 "com/example/sidestep/sidestep/Starts" "lastBytes" "J" (.long (0 : Int64)) := (F_lastBytes_394.other W413 (Or.inr (slot_ne (Or.inr (hw _ (List.mem_of_getElem? (i := 57) rfl))) (Or.inl (hw _ (List.mem_of_getElem? (i := 17) rfl))) (by decide) (t := .long) (t' := .boolean) (by decide) (by decide))))
  have F_patternWords_432 : Fld Z h413 o0 "com/example/sidestep/sidestep/Starts" "patternWords" "[J" .null := (F_patternWords_395.other W413 (Or.inr (slot_ne (Or.inr (hw _ (List.mem_of_getElem? (i := 59) rfl))) (Or.inl (hw _ (List.mem_of_getElem? (i := 17) rfl))) (by decide) (t := (.array .long)) (t' := .boolean) (by decide) (by decide))))
  have F_lastWordOffset_433 : Fld Z h413 o0 "com/example/sidestep/sidestep/Starts" "lastWordOffset" "I" (.int (0 : Int32)) := (F_lastWordOffset_396.other W413 (Or.inr (slot_ne (Or.inr (hw _ (List.mem_of_getElem? (i := 61) rfl))) (Or.inl (hw _ (List.mem_of_getElem? (i := 17) rfl))) (by decide) (t := .int) (t' := .boolean) (by decide) (by decide))))
  have F_lastWordMask_434 : Fld Z h413 o0 "com/example/sidestep/sidestep/Starts" "lastWordMask" "J" (.long (0 : Int64)) := (F_lastWordMask_397.other W413 (Or.inr (slot_ne (Or.inr (hw _ (List.mem_of_getElem? (i := 63) rfl))) (Or.inl (hw _ (List.mem_of_getElem? (i := 17) rfl))) (by decide) (t := .long) (t' := .boolean) (by decide) (by decide))))
  have F_source_435 : Fld Z h413 o0 "com/example/sidestep/sidestep/Starts" "source" "Lcom/example/sidestep/sidestep/Starts$LowBytes;" .null := (F_source_398.other W413 (Or.inr (slot_ne (Or.inl (hw _ (List.mem_of_getElem? (i := 76) rfl))) (Or.inl (hw _ (List.mem_of_getElem? (i := 17) rfl))) (by decide) (t := (.object "com/example/sidestep/sidestep/Starts$LowBytes")) (t' := .boolean) (by decide) (by decide))))
  have F_copiedTo_436 : Fld Z h413 o0 "com/example/sidestep/sidestep/Starts" "copiedTo" "I" (.int (0 : Int32)) := (F_copiedTo_399.other W413 (Or.inr (slot_ne (Or.inl (hw _ (List.mem_of_getElem? (i := 78) rfl))) (Or.inl (hw _ (List.mem_of_getElem? (i := 17) rfl))) (by decide) (t := .int) (t' := .boolean) (by decide) (by decide))))
  have F_lowBytes_437 : Fld Z h413 o0 "com/example/sidestep/sidestep/Starts" "lowBytes" "[B" .null := (F_lowBytes_400.other W413 (Or.inr (slot_ne (Or.inl (hw _ (List.mem_of_getElem? (i := 80) rfl))) (Or.inl (hw _ (List.mem_of_getElem? (i := 17) rfl))) (by decide) (t := (.array .byte)) (t' := .boolean) (by decide) (by decide))))
  have F_to_438 : Fld Z h413 o0 "com/example/sidestep/sidestep/Starts" "to" "I" (.int (0 : Int32)) := (F_to_401.other W413 (Or.inr (slot_ne (Or.inl (hw _ (List.mem_of_getElem? (i := 82) rfl))) (Or.inl (hw _ (List.mem_of_getElem? (i := 17) rfl))) (by decide) (t := .int) (t' := .boolean) (by decide) (by decide))))
  have F_placesEnd_439 : Fld Z h413 o0 "com/example/sidestep/sidestep/Starts" "placesEnd" "I" (.int (0 : Int32)) := (F_placesEnd_402.other W413 (Or.inr (slot_ne (Or.inl (hw _ (List.mem_of_getElem? (i := 84) rfl))) (Or.inl (hw _ (List.mem_of_getElem? (i := 17) rfl))) (by decide) (t := .int) (t' := .boolean) (by decide) (by decide))))
  have F_wholeEnd_440 : Fld Z h413 o0 "com/example/sidestep/sidestep/Starts" "wholeEnd" "I" (.int (0 : Int32)) := (F_wholeEnd_403.other W413 (Or.inr (slot_ne (Or.inl (hw _ (List.mem_of_getElem? (i := 86) rfl))) (Or.inl (hw _ (List.mem_of_getElem? (i := 17) rfl))) (by decide) (t := .int) (t' := .boolean) (by decide) (by decide))))
  have F_decidedEnd_441 : Fld Z h413 o0 "com/example/sidestep/sidestep/Starts" "decidedEnd" "I" (.int (0 : Int32)) := (F_decidedEnd_404.other W413 (Or.inr (slot_ne (Or.inl (hw _ (List.mem_of_getElem? (i := 88) rfl))) (Or.inl (hw _ (List.mem_of_getElem? (i := 17) rfl))) (by decide) (t := .int) (t' := .boolean) (by decide) (by decide))))
  have F_placed_442 : Fld Z h413 o0 "com/example/sidestep/sidestep/Starts" "placed" "I" (.int (0 : Int32)) := (F_placed_405.other W413 (Or.inr (slot_ne (Or.inl (hw _ (List.mem_of_getElem? (i := 90) rfl))) (Or.inl (hw _ (List.mem_of_getElem? (i := 17) rfl))) (by decide) (t := .int) (t' := .boolean) (by decide) (by decide))))
  have F_taken_443 : Fld Z h413 o0 "com/example/sidestep/sidestep/Starts" "taken" "I" (.int (0 : Int32)) := (F_taken_406.other W413 (Or.inr (slot_ne (Or.inl (hw _ (List.mem_of_getElem? (i := 92) rfl))) (Or.inl (hw _ (List.mem_of_getElem? (i := 17) rfl))) (by decide) (t := .int) (t' := .boolean) (by decide) (by decide))))
  have F_listedTo_444 : Fld Z h413 o0 "com/example/sidestep/sidestep/Starts" "listedTo" "I" (.int (0 : Int32)) := (F_listedTo_407.other W413 (Or.inr (slot_ne (Or.inl (hw _ (List.mem_of_getElem? (i := 94) rfl))) (Or.inl (hw _ (List.mem_of_getElem? (i := 17) rfl))) (by decide) (t := .int) (t' := .boolean) (by decide) (by decide))))
  have F_dense_445 : Fld Z h413 o0 "com/example/sidestep/sidestep/Starts" "dense" "Z" (.int (0 : Int32)) := (F_dense_408.other W413 (Or.inr (slot_ne (Or.inl (hw _ (List.mem_of_getElem? (i := 96) rfl))) (Or.inl (hw _ (List.mem_of_getElem? (i := 17) rfl))) (by decide) (t := .boolean) (t' := .boolean) (by decide) (by decide))))
  have F_marking_446 : Fld Z h413 o0 "com/example/sidestep/sidestep/Starts" "marking" "I" (.int (0 : Int32)) := (F_marking_409.other W413 (Or.inr (slot_ne (Or.inl (hw _ (List.mem_of_getElem? (i := 102) rfl))) (Or.inl (hw _ (List.mem_of_getElem? (i := 17) rfl))) (by decide) (t := .int) (t' := .boolean) (by decide) (by decide))))
  have F_sections_447 : Fld Z h413 o0 "com/example/sidestep/sidestep/Starts" "sections" "I" (.int (0 : Int32)) := (F_sections_410.other W413 (Or.inr (slot_ne (Or.inl (hw _ (List.mem_of_getElem? (i := 104) rfl))) (Or.inl (hw _ (List.mem_of_getElem? (i := 17) rfl))) (by decide) (t := .int) (t' := .boolean) (by decide) (by decide))))
  have F_handedSections_448 : Fld Z h413 o0 "com/example/sidestep/sidestep/Starts" "handedSections" "I" (.int (0 : Int32)) := (F_handedSections_411.other W413 (Or.inr (slot_ne (Or.inl (hw _ (List.mem_of_getElem? (i := 106) rfl))) (Or.inl (hw _ (List.mem_of_getElem? (i := 17) rfl))) (by decide) (t := .int) (t' := .boolean) (by decide) (by decide))))
  have V1_449 : Arv Z h413 o1 ku .int (Int32.ofNat nN) (us.map Value.int) (.int (0 : Int32)) := (V1_412.other W413 hne)
  have N413 := Fr.snoc X413 N375 gn_o0
  refine Got.step st413 ?_
  show Got p e below s _ _ _ _ T413 (mkF m 24 #[.val (.ref o0), .val (.ref o1), .unset, .unset, .unset] [])
  refine Got.step (T' := T413) (g' := (mkF m 26 #[.val (.ref o0), .val (.ref o1), .unset, .unset, .unset] [(.int (1 : Int32)), (.ref o0)])) (fun tq kt => ?_) ?_
  · show Steps p.tables e below (T413.setTop (mkF m 24 #[.val (.ref o0), .val (.ref o1), .unset, .unset, .unset] [])) _
    refine XS.aloadN X413.here hx rfl (hb hby d1_24) rfl rfl ?_
    show Steps p.tables e below (T413.setTop (mkF m 25 #[.val (.ref o0), .val (.ref o1), .unset, .unset, .unset] [(.ref o0)])) _
    refine XS.iconst X413.here hx rfl (hb hby d1_25) ?_
    exact kt
  obtain ⟨T450, h450, k450, X450, e450, E450, A450, st450⟩ := newP X413 hx hZ (hw _ (List.mem_of_getElem? (i := 0) rfl)) e413 (g := (mkF m 26 #[.val (.ref o0), .val (.ref o1), .unset, .unset, .unset] [(.int (1 : Int32)), (.ref o0)])) rfl (hb hby d1_26) rfl (by decide) (cap := 1) (by decide) (by decide) (by decide) (by decide)
  obtain ⟨b450, g450⟩ : ∃ z, z = h413.size := ⟨_, rfl⟩
  rw [← g450] at A450 st450
  have ne_o0_b450 : o0 ≠ b450 := by rw [g450]; exact Nat.ne_of_lt E_o0_416.lt
  have ne_o1_b450 : o1 ≠ b450 := by rw [g450]; exact Nat.ne_of_lt V1_449.lt
  have gn_b450 : n0 ≤ b450 := by rw [g450]; exact Z0_414
  have sz_b450 : h0.size ≤ b450 := by rw [g450]; exact K0_415.1
  have Z0_451 : n0 ≤ h450.size := (Nat.le_trans Z0_414 E450.1)
  have K0_452 : Keep h0 h450 [o0] := (K0_415.ext E450)
  have E_o0_453 : Exa Z h450 o0 "com/example/sidestep/sidestep/Starts" := (E_o0_416.ext E450)
  have F_places_454 : Fld Z h450 o0 "com/example/sidestep/sidestep/Starts" "places" "[I" .null := (F_places_418.ext E450)
  have F_listedInWindow_455 : Fld Z h450 o0 "com/example/sidestep/sidestep/Starts" "listedInWindow" "[I" .null := (F_listedInWindow_419.ext E450)
  have F_tallies_456 : Fld Z h450 o0 "com/example/sidestep/sidestep/Starts" "tallies" "[J" .null := (F_tallies_420.ext E450)
  have F_length_457 : Fld Z h450 o0 "com/example/sidestep/sidestep/Starts" "length" "I" (.int (0 : Int32)) := (F_length_421.ext E450)
  have F_exact_458 : Fld Z h450 o0 "com/example/sidestep/sidestep/Starts" "exact" "Z" (.int (0 : Int32)) := (F_exact_422.ext E450)
  have F_lastOffset_459 : Fld Z h450 o0 "com/example/sidestep/sidestep/Starts" "lastOffset" "I" (.int (0 : Int32)) := (F_lastOffset_423.ext E450)
  have F_secondOffset_460 : Fld Z h450 o0 "com/example/sidestep/sidestep/Starts" "secondOffset" "I" (.int (0 : Int32)) := (F_secondOffset_424.ext E450)
  have F_thirdOffset_461 : Fld Z h450 o0 "com/example/sidestep/sidestep/Starts" "thirdOffset" "I" (.int (0 : Int32)) := (F_thirdOffset_425.ext E450)
  have F_penultimateOffset_462 : Fld Z h450 o0 "com/example/sidestep/sidestep/Starts" "penultimateOffset" "I" (.int (0 : Int32)) := (F_penultimateOffset_426.ext E450)
  have F_firstBytes_463 : Fld Z h450 o0 "com/example/sidestep/sidestep/Starts" "firstBytes" "J" (.long (0 : Int64)) := (F_firstBytes_427.ext E450)
  have F_secondBytes_464 : Fld Z h450 o0 "com/example/sidestep/sidestep/Starts" "secondBytes" "J" (.long (0 : Int64)) := (F_secondBytes_428.ext E450)
  have F_thirdBytes_465 : Fld Z h450 o0 "com/example/sidestep/sidestep/Starts" "thirdBytes" "J" (.long (0 : Int64)) := (F_thirdBytes_429.ext E450)
  have F_penultimateBytes_466 : Fld Z h450 o0 "com/example/sidestep/sidestep/Starts" "penultimateBytes" "J" (.long (0 : Int64)) := (F_penultimateBytes_430.ext E450)
  have F_lastBytes_467 : Fld Z h450 o0 "com/example/sidestep/sidestep/Starts" "lastBytes" "J" (.long (0 : Int64)) := (F_lastBytes_431.ext E450)
  have F_patternWords_468 : Fld Z h450 o0 "com/example/sidestep/sidestep/Starts" "patternWords" "[J" .null := (F_patternWords_432.ext E450)
  have F_lastWordOffset_469 : Fld Z h450 o0 "com/example/sidestep/sidestep/Starts" "lastWordOffset" "I" (.int (0 : Int32)) := (F_lastWordOffset_433.ext E450)
  have F_lastWordMask_470 : Fld Z h450 o0 "com/example/sidestep/sidestep/Starts" "lastWordMask" "J" (.long (0 : Int64)) := (F_lastWordMask_434.ext E450)
  have F_source_471 : Fld Z h450 o0 "com/example/sidestep/sidestep/Starts" "source" "Lcom/example/sidestep/sidestep/Starts$LowBytes;" .null := (F_source_435.ext E450)
  have F_copiedTo_472 : Fld Z h450 o0 "com/example/sidestep/sidestep/Starts" "copiedTo" "I" (.int (0 : Int32)) := (F_copiedTo_436.ext E450)
  have F_lowBytes_473 : Fld Z h450 o0 "com/example/sidestep/sidestep/Starts" "lowBytes" "[B" .null := (F_lowBytes_437.ext E450)
  have F_to_474 : Fld Z h450 o0 "com/example/sidestep/sidestep/Starts" "to" "I" (.int (0 : Int32)) := (F_to_438.ext E450)
  have F_placesEnd_475 : Fld Z h450 o0 "com/example/sidestep/sidestep/Starts" "placesEnd" "I" (.int (0 : Int32)) := (F_placesEnd_439.ext E450)
  have F_wholeEnd_476 : Fld Z h450 o0 "com/example/sidestep/sidestep/Starts" "wholeEnd" "I" (.int (0 : Int32)) := (F_wholeEnd_440.ext E450)
  have F_decidedEnd_477 : Fld Z h450 o0 "com/example/sidestep/sidestep/Starts" "decidedEnd" "I" (.int (0 : Int32)) := (F_decidedEnd_441.ext E450)
  have F_placed_478 : Fld Z h450 o0 "com/example/sidestep/sidestep/Starts" "placed" "I" (.int (0 : Int32)) := (F_placed_442.ext E450)
  have F_taken_479 : Fld Z h450 o0 "com/example/sidestep/sidestep/Starts" "taken" "I" (.int (0 : Int32)) := (F_taken_443.ext E450)
  have F_listedTo_480 : Fld Z h450 o0 "com/example/sidestep/sidestep/Starts" "listedTo" "I" (.int (0 : Int32)) := (F_listedTo_444.ext E450)
  have F_dense_481 : Fld Z h450 o0 "com/example/sidestep/sidestep/Starts" "dense" "Z" (.int (0 : Int32)) := (F_dense_445.ext E450)
  have F_marking_482 : Fld Z h450 o0 "com/example/sidestep/sidestep/Starts" "marking" "I" (.int (0 : Int32)) := (F_marking_446.ext E450)
  have F_sections_483 : Fld Z h450 o0 "com/example/sidestep/sidestep/Starts" "sections" "I" (.int (0 : Int32)) := (F_sections_447.ext E450)
  have F_handedSections_484 : Fld Z h450 o0 "com/example/sidestep/sidestep/Starts" "handedSections" "I" (.int (0 : Int32)) := (F_handedSections_448.ext E450)
  have V1_485 : Arv Z h450 o1 ku .int (Int32.ofNat nN) (us.map Value.int) (.int (0 : Int32)) := (V1_449.ext E450)
  have V450 : Arv Z h450 b450 k450 .int (1 : Int32) [(.int (0 : Int32))] (.int (0 : Int32)) := (Arv.new A450 (by decide)).pad (pad_rep [] (.int (0 : Int32)) 1)
  refine Got.step st450 ?_
  show Got p e below s _ _ _ _ T450 (mkF m 28 #[.val (.ref o0), .val (.ref o1), .unset, .unset, .unset] [(.ref b450), (.ref o0)])
  obtain ⟨T486, h486, X486, e486, W486, st486⟩ := putF X450 hx hZ hown (host := "") (Or.inl (hw _ (List.mem_of_getElem? (i := 18) rfl))) Via.refl e450 F_places_454 E_o0_453 (Or.inl (hw _ (List.mem_of_getElem? (i := 19) rfl))) (hw _ (List.mem_of_getElem? (i := 3) rfl)) (ty := (.array .int)) (by decide) rfl rfl (g := (mkF m 28 #[.val (.ref o0), .val (.ref o1), .unset, .unset, .unset] [(.ref b450), (.ref o0)])) rfl rfl (hb hby d1_28)
  have Z0_487 : n0 ≤ h486.size := (Nat.le_trans Z0_451 (Keep.of_wr W486).1)
  have K0_488 : Keep h0 h486 [o0] := (K0_452.wr W486 (Or.inl (List.mem_of_getElem? (i := 0) rfl)))
  have E_o0_489 : Exa Z h486 o0 "com/example/sidestep/sidestep/Starts" := (E_o0_453.wr W486)
  have F_places_490 : Fld Z h486 o0 "com/example/sidestep/sidestep/Starts" "places" "[I" (.ref b450) := (F_places_454.same W486)
  have F_listedInWindow_491 : Fld Z h486 o0 "com/example/sidestep/sidestep/Starts" "listedInWindow" "[I" .null := (F_listedInWindow_455.other W486 (Or.inr (slot_ne (Or.inr (hw _ (List.mem_of_getElem? (i := 21) rfl))) (Or.inl (hw _ (List.mem_of_getElem? (i := 19) rfl))) (by decide) (t := (.array .int)) (t' := (.array .int)) (by decide) (by decide))))
  have F_tallies_492 : Fld Z h486 o0 "com/example/sidestep/sidestep/Starts" "tallies" "[J" .null := (F_tallies_456.other W486 (Or.inr (slot_ne (Or.inl (hw _ (List.mem_of_getElem? (i := 23) rfl))) (Or.inl (hw _ (List.mem_of_getElem? (i := 19) rfl))) (by decide) (t := (.array .long)) (t' := (.array .int)) (by decide) (by decide))))
  have F_length_493 : Fld Z h486 o0 "com/example/sidestep/sidestep/Starts" "length" "I" (.int (0 : Int32)) := (F_length_457.other W486 (Or.inr (slot_ne (Or.inr (hw _ (List.mem_of_getElem? (i := 25) rfl))) (Or.inl (hw _ (List.mem_of_getElem? (i := 19) rfl))) (by decide) (t := .int) (t' := (.array .int)) (by decide) (by decide))))
  have F_exact_494 : Fld Z h486 o0 "com/example/sidestep/sidestep/Starts" "exact" "Z" (.int (0 : Int32)) := (F_exact_458.other W486 (Or.inr (slot_ne (Or.inr (hw _ (List.mem_of_getElem? (i := 27) rfl))) (Or.inl (hw _ (List.mem_of_getElem? (i := 19) rfl))) (by decide) (t := .boolean) (t' := (.array .int)) (by decide) (by decide))))
  have F_lastOffset_495 : Fld Z h486 o0 "com/example/sidestep/sidestep/Starts" "lastOffset" "I" (.int (0 : Int32)) := (F_lastOffset_459.other W486 (Or.inr (slot_ne (Or.inr (hw _ (List.mem_of_getElem? (i := 29) rfl))) (Or.inl (hw _ (List.mem_of_getElem? (i := 19) rfl))) (by decide) (t := .int) (t' := (.array .int)) (by decide) (by decide))))
  have F_secondOffset_496 : Fld Z h486 o0 "com/example/sidestep/sidestep/Starts" "secondOffset" "I" (.int (0 : Int32)) := (F_secondOffset_460.other W486 (Or.inr (slot_ne (Or.inr (hw _ (List.mem_of_getElem? (i := 35) rfl))) (Or.inl (hw _ (List.mem_of_getElem? (i := 19) rfl))) (by decide) (t := .int) (t' := (.array .int)) (by decide) (by decide))))
  have F_thirdOffset_497 : Fld Z h486 o0 "com/example/sidestep/sidestep/Starts" "thirdOffset" "I" (.int (0 : Int32)) := (F_thirdOffset_461.other W486 (Or.inr (slot_ne (Or.inr (hw _ (List.mem_of_getElem? (i := 37) rfl))) (Or.inl (hw _ (List.mem_of_getElem? (i := 19) rfl))) (by decide) (t := .int) (t' := (.array .int)) (by decide) (by decide))))
  have F_penultimateOffset_498 : Fld Z h486 o0 "com/example/sidestep/sidestep/Starts" "penultimateOffset" "I" (.int (0 : Int32)) := (F_penultimateOffset_462.other W486 (Or.inr (slot_ne (Or.inr (hw _ (List.mem_of_getElem? (i := 42) rfl))) (Or.inl (hw _ (List.mem_of_getElem? (i := 19) rfl))) (by decide) (t := .int) (t' := (.array .int)) (by decide) (by decide))))
  have F_firstBytes_499 : Fld Z h486 o0 "com/example/sidestep/sidestep/Starts" "firstBytes" "J" (.long (0 : Int64)) := (F_firstBytes_463.other W486 (Or.inr (slot_ne (Or.inr (hw _ (List.mem_of_getElem? (i := 49) rfl))) (Or.inl (hw _ (List.mem_of_getElem? (i := 19) rfl))) (by decide) (t := .long) (t' := (.array .int)) (by decide) (by decide))))
  have F_secondBytes_500 : Fld Z h486 o0 "com/example/sidestep/sidestep/Starts" "secondBytes" "J" (.long (0 : Int64)) := (F_secondBytes_464.other W486 (Or.inr (slot_ne (Or.inr (hw _ (List.mem_of_getElem? (i := 51) rfl))) (Or.inl (hw _ (List.mem_of_getElem? (i := 19) rfl))) (by decide) (t := .long) (t' := (.array .int)) (by decide) (by decide))))
  have F_thirdBytes_501 : Fld Z h486 o0 "com/example/sidestep/sidestep/Starts" "thirdBytes" "J" (.long (0 : Int64)) := (F_thirdBytes_465.other W486 (Or.inr (slot_ne (Or.inr (hw _ (List.mem_of_getElem? (i := 53) rfl))) (Or.inl (hw _ (List.mem_of_getElem? (i := 19) rfl))) (by decide) (t := .long) (t' := (.array .int)) (by decide) (by decide))))
  have F_penultimateBytes_502 : Fld Z h486 o0 "com/example/sidestep/sidestep/Starts" "penultimateBytes" "J" (.long (0 : Int64)) := (F_penultimateBytes_466.other W486 (Or.inr (slot_ne (Or.inr (hw _ (List.mem_of_getElem? (i := 55) rfl))) (Or.inl (hw _ (List.mem_of_getElem? (i := 19) rfl))) (by decide) (t := .long) (t' := (.array .int)) (by decide) (by decide))))
  have F_lastBytes_503 : Fld Z h486 o0 "com/example/sidestep/sidestep/Starts" "lastBytes" "J" (.long (0 : Int64)) := (F_lastBytes_467.other W486 (Or.inr (slot_ne (Or.inr (hw _ (List.mem_of_getElem? (i := 57) rfl))) (Or.inl (hw _ (List.mem_of_getElem? (i := 19) rfl))) (by decide) (t := .long) (t' := (.array .int)) (by decide) (by decide))))
  have F_patternWords_504 : Fld Z h486 o0 "com/example/sidestep/sidestep/Starts" "patternWords" "[J" .null := (F_patternWords_468.other W486 (Or.inr (slot_ne (Or.inr (hw _ (List.mem_of_getElem? (i := 59) rfl))) (Or.inl (hw _ (List.mem_of_getElem? (i := 19) rfl))) (by decide) (t := (.array .long)) (t' := (.array .int)) (by decide) (by decide))))
  have F_lastWordOffset_505 : Fld Z h486 o0 "com/example/sidestep/sidestep/Starts" "lastWordOffset" "I" (.int (0 : Int32)) := (F_lastWordOffset_469.other W486 (Or.inr (slot_ne (Or.inr (hw _ (List.mem_of_getElem? (i := 61) rfl))) (Or.inl (hw _ (List.mem_of_getElem? (i := 19) rfl))) (by decide) (t := .int) (t' := (.array .int)) (by decide) (by decide))))
  have F_lastWordMask_506 : Fld Z h486 o0 "com/example/sidestep/sidestep/Starts" "lastWordMask" "J" (.long (0 : Int64)) := (F_lastWordMask_470.other W486 (Or.inr (slot_ne (Or.inr (hw _ (List.mem_of_getElem? (i := 63) rfl))) (Or.inl (hw _ (List.mem_of_getElem? (i := 19) rfl))) (by decide) (t := .long) (t' := (.array .int)) (by decide) (by decide))))
  have F_source_507 : Fld Z h486 o0 "com/example/sidestep/sidestep/Starts" "source" "Lcom/example/sidestep/sidestep/Starts$LowBytes;" .null := (F_source_471.other W486 (Or.inr (slot_ne (Or.inl (hw _ (List.mem_of_getElem? (i := 76) rfl))) (Or.inl (hw _ (List.mem_of_getElem? (i := 19) rfl))) (by decide) (t := (.object "com/example/sidestep/sidestep/Starts$LowBytes")) (t' := (.array .int)) (by decide) (by decide))))
  have F_copiedTo_508 : Fld Z h486 o0 "com/example/sidestep/sidestep/Starts" "copiedTo" "I" (.int (0 : Int32)) := (F_copiedTo_472.other W486 (Or.inr (slot_ne (Or.inl (hw _ (List.mem_of_getElem? (i := 78) rfl))) (Or.inl (hw _ (List.mem_of_getElem? (i := 19) rfl))) (by decide) (t := .int) (t' := (.array .int)) (by decide) (by decide))))
  have F_lowBytes_509 : Fld Z h486 o0 "com/example/sidestep/sidestep/Starts" "lowBytes" "[B" .null := (F_lowBytes_473.other W486 (Or.inr (slot_ne (Or.inl (hw _ (List.mem_of_getElem? (i := 80) rfl))) (Or.inl (hw _ (List.mem_of_getElem? (i := 19) rfl))) (by decide) (t := (.array .byte)) (t' := (.array .int)) (by decide) (by decide))))
  have F_to_510 : Fld Z h486 o0 "com/example/sidestep/sidestep/Starts" "to" "I" (.int (0 : Int32)) := (F_to_474.other W486 (Or.inr (slot_ne (Or.inl (hw _ (List.mem_of_getElem? (i := 82) rfl))) (Or.inl (hw _ (List.mem_of_getElem? (i := 19) rfl))) (by decide) (t := .int) (t' := (.array .int)) (by decide) (by decide))))
  have F_placesEnd_511 : Fld Z h486 o0 "com/example/sidestep/sidestep/Starts" "placesEnd" "I" (.int (0 : Int32)) := (F_placesEnd_475.other W486 (Or.inr (slot_ne (Or.inl (hw _ (List.mem_of_getElem? (i := 84) rfl))) (Or.inl (hw _ (List.mem_of_getElem? (i := 19) rfl))) (by decide) (t := .int) (t' := (.array .int)) (by decide) (by decide))))
  have F_wholeEnd_512 : Fld Z h486 o0 "com/example/sidestep/sidestep/Starts" "wholeEnd" "I" (.int (0 : Int32)) := (F_wholeEnd_476.other W486 (Or.inr (slot_ne (Or.inl (hw _ (List.mem_of_getElem? (i := 86) rfl))) (Or.inl (hw _ (List.mem_of_getElem? (i := 19) rfl))) (by decide) (t := .int) (t' := (.array .int)) (by decide) (by decide))))
  have F_decidedEnd_513 : Fld Z h486 o0 "com/example/sidestep/sidestep/Starts" "decidedEnd" "I" (.int (0 : Int32)) := (F_decidedEnd_477.other W486 (Or.inr (slot_ne (Or.inl (hw _ (List.mem_of_getElem? (i := 88) rfl))) (Or.inl (hw _ (List.mem_of_getElem? (i := 19) rfl))) (by decide) (t := .int) (t' := (.array .int)) (by decide) (by decide))))
  have F_placed_514 : Fld Z h486 o0 "com/example/sidestep/sidestep/Starts" "placed" "I" (.int (0 : Int32)) := (F_placed_478.other W486 (Or.inr (slot_ne (Or.inl (hw _ (List.mem_of_getElem? (i := 90) rfl))) (Or.inl (hw _ (List.mem_of_getElem? (i := 19) rfl))) (by decide) (t := .int) (t' := (.array .int)) (by decide) (by decide))))
  have F_taken_515 : Fld Z h486 o0 "com/example/sidestep/sidestep/Starts" "taken" "I" (.int (0 : Int32)) := (F_taken_479.other W486 (Or.inr (slot_ne (Or.inl (hw _ (List.mem_of_getElem? (i := 92) rfl))) (Or.inl (hw _ (List.mem_of_getElem? (i := 19) rfl))) (by decide) (t := .int) (t' := (.array .int)) (by decide) (by decide))))
  have F_listedTo_516 : Fld Z h486 o0 "com/example/sidestep/sidestep/Starts" "listedTo" "I" (.int (0 : Int32)) := (F_listedTo_480.other W486 (Or.inr (slot_ne (Or.inl (hw _ (List.mem_of_getElem? (i := 94) rfl))) (Or.inl (hw _ (List.mem_of_getElem? (i := 19) rfl))) (by decide) (t := .int) (t' := (.array .int)) (by decide) (by decide))))
  have F_dense_517 : Fld Z h486 o0 "com/example/sidestep/sidestep/Starts" "dense" "Z" (.int (0 : Int32)) := (F_dense_481.other W486 (Or.inr (slot_ne (Or.inl (hw _ (List.mem_of_getElem? (i := 96) rfl))) (Or.inl (hw _ (List.mem_of_getElem? (i := 19) rfl))) (by decide) (t := .boolean) (t' := (.array .int)) (by decide) (by decide))))
  have F_marking_518 : Fld Z h486 o0 "com/example/sidestep/sidestep/Starts" "marking" "I" (.int (0 : Int32)) := (F_marking_482.other W486 (Or.inr (slot_ne (Or.inl (hw _ (List.mem_of_getElem? (i := 102) rfl))) (Or.inl (hw _ (List.mem_of_getElem? (i := 19) rfl))) (by decide) (t := .int) (t' := (.array .int)) (by decide) (by decide))))
  have F_sections_519 : Fld Z h486 o0 "com/example/sidestep/sidestep/Starts" "sections" "I" (.int (0 : Int32)) := (F_sections_483.other W486 (Or.inr (slot_ne (Or.inl (hw _ (List.mem_of_getElem? (i := 104) rfl))) (Or.inl (hw _ (List.mem_of_getElem? (i := 19) rfl))) (by decide) (t := .int) (t' := (.array .int)) (by decide) (by decide))))
  have F_handedSections_520 : Fld Z h486 o0 "com/example/sidestep/sidestep/Starts" "handedSections" "I" (.int (0 : Int32)) := (F_handedSections_484.other W486 (Or.inr (slot_ne (Or.inl (hw _ (List.mem_of_getElem? (i := 106) rfl))) (Or.inl (hw _ (List.mem_of_getElem? (i := 19) rfl))) (by decide) (t := .int) (t' := (.array .int)) (by decide) (by decide))))
  have V1_521 : Arv Z h486 o1 ku .int (Int32.ofNat nN) (us.map Value.int) (.int (0 : Int32)) := (V1_485.other W486 hne)
  have N486 := Fr.snoc X486 N413 gn_o0
  refine Got.step st486 ?_
  show Got p e below s _ _ _ _ T486 (mkF m 31 #[.val (.ref o0), .val (.ref o1), .unset, .unset, .unset] [])
  refine Got.step (T' := T486) (g' := (mkF m 34 #[.val (.ref o0), .val (.ref o1), .unset, .unset, .unset] [(.int (8 : Int32)), (.ref o0)])) (fun tq kt => ?_) ?_
  · show Steps p.tables e below (T486.setTop (mkF m 31 #[.val (.ref o0), .val (.ref o1), .unset, .unset, .unset] [])) _
    refine XS.aloadN X486.here hx rfl (hb hby d1_31) rfl rfl ?_
    show Steps p.tables e below (T486.setTop (mkF m 32 #[.val (.ref o0), .val (.ref o1), .unset, .unset, .unset] [(.ref o0)])) _
    refine XS.bipush X486.here hx rfl (hb hby d1_32) ?_
    exact kt
  obtain ⟨T522, h522, k522, X522, e522, E522, A522, st522⟩ := newP X486 hx hZ (hw _ (List.mem_of_getElem? (i := 0) rfl)) e486 (g := (mkF m 34 #[.val (.ref o0), .val (.ref o1), .unset, .unset, .unset] [(.int (8 : Int32)), (.ref o0)])) rfl (hb hby d1_34) rfl (by decide) (cap := 8) (by decide) (by decide) (by decide) (by decide)
  obtain ⟨b522, g522⟩ : ∃ z, z = h486.size := ⟨_, rfl⟩
  rw [← g522] at A522 st522
  have ne_o0_b522 : o0 ≠ b522 := by rw [g522]; exact Nat.ne_of_lt E_o0_489.lt
  have ne_o1_b522 : o1 ≠ b522 := by rw [g522]; exact Nat.ne_of_lt V1_521.lt
  have gn_b522 : n0 ≤ b522 := by rw [g522]; exact Z0_487
  have sz_b522 : h0.size ≤ b522 := by rw [g522]; exact K0_488.1
  have Z0_523 : n0 ≤ h522.size := (Nat.le_trans Z0_487 E522.1)
  have K0_524 : Keep h0 h522 [o0] := (K0_488.ext E522)
  have E_o0_525 : Exa Z h522 o0 "com/example/sidestep/sidestep/Starts" := (E_o0_489.ext E522)
  have F_listedInWindow_526 : Fld Z h522 o0 "com/example/sidestep/sidestep/Starts" "listedInWindow" "[I" .null := (F_listedInWindow_491.ext E522)
  have F_tallies_527 : Fld Z h522 o0 "com/example/sidestep/sidestep/Starts" "tallies" "[J" .null := (F_tallies_492.ext E522)
  have F_length_528 : Fld Z h522 o0 "com/example/sidestep/sidestep/Starts" "length" "I" (.int (0 : Int32)) := (F_length_493.ext E522)
  have F_exact_529 : Fld Z h522 o0 "com/example/sidestep/sidestep/Starts" "exact" "Z" (.int (0 : Int32)) := (F_exact_494.ext E522)
  have F_lastOffset_530 : Fld Z h522 o0 "com/example/sidestep/sidestep/Starts" "lastOffset" "I" (.int (0 : Int32)) := (F_lastOffset_495.ext E522)
  have F_secondOffset_531 : Fld Z h522 o0 "com/example/sidestep/sidestep/Starts" "secondOffset" "I" (.int (0 : Int32)) := (F_secondOffset_496.ext E522)
  have F_thirdOffset_532 : Fld Z h522 o0 "com/example/sidestep/sidestep/Starts" "thirdOffset" "I" (.int (0 : Int32)) := (F_thirdOffset_497.ext E522)
  have F_penultimateOffset_533 : Fld Z h522 o0 "com/example/sidestep/sidestep/Starts" "penultimateOffset" "I" (.int (0 : Int32)) := (F_penultimateOffset_498.ext E522)
  have F_firstBytes_534 : Fld Z h522 o0 "com/example/sidestep/sidestep/Starts" "firstBytes" "J" (.long (0 : Int64)) := (F_firstBytes_499.ext E522)
  have F_secondBytes_535 : Fld Z h522 o0 "com/example/sidestep/sidestep/Starts" "secondBytes" "J" (.long (0 : Int64)) := (F_secondBytes_500.ext E522)
  have F_thirdBytes_536 : Fld Z h522 o0 "com/example/sidestep/sidestep/Starts" "thirdBytes" "J" (.long (0 : Int64)) := (F_thirdBytes_501.ext E522)
  have F_penultimateBytes_537 : Fld Z h522 o0 "com/example/sidestep/sidestep/Starts" "penultimateBytes" "J" (.long (0 : Int64)) := (F_penultimateBytes_502.ext E522)
  have F_lastBytes_538 : Fld Z h522 o0 "com/example/sidestep/sidestep/Starts" "lastBytes" "J" (.long (0 : Int64)) := (F_lastBytes_503.ext E522)
  have F_patternWords_539 : Fld Z h522 o0 "com/example/sidestep/sidestep/Starts" "patternWords" "[J" .null := (F_patternWords_504.ext E522)
  have F_lastWordOffset_540 : Fld Z h522 o0 "com/example/sidestep/sidestep/Starts" "lastWordOffset" "I" (.int (0 : Int32)) := (F_lastWordOffset_505.ext E522)
  have F_lastWordMask_541 : Fld Z h522 o0 "com/example/sidestep/sidestep/Starts" "lastWordMask" "J" (.long (0 : Int64)) := (F_lastWordMask_506.ext E522)
  have F_source_542 : Fld Z h522 o0 "com/example/sidestep/sidestep/Starts" "source" "Lcom/example/sidestep/sidestep/Starts$LowBytes;" .null := (F_source_507.ext E522)
  have F_copiedTo_543 : Fld Z h522 o0 "com/example/sidestep/sidestep/Starts" "copiedTo" "I" (.int (0 : Int32)) := (F_copiedTo_508.ext E522)
  have F_lowBytes_544 : Fld Z h522 o0 "com/example/sidestep/sidestep/Starts" "lowBytes" "[B" .null := (F_lowBytes_509.ext E522)
  have F_to_545 : Fld Z h522 o0 "com/example/sidestep/sidestep/Starts" "to" "I" (.int (0 : Int32)) := (F_to_510.ext E522)
  have F_placesEnd_546 : Fld Z h522 o0 "com/example/sidestep/sidestep/Starts" "placesEnd" "I" (.int (0 : Int32)) := (F_placesEnd_511.ext E522)
  have F_wholeEnd_547 : Fld Z h522 o0 "com/example/sidestep/sidestep/Starts" "wholeEnd" "I" (.int (0 : Int32)) := (F_wholeEnd_512.ext E522)
  have F_decidedEnd_548 : Fld Z h522 o0 "com/example/sidestep/sidestep/Starts" "decidedEnd" "I" (.int (0 : Int32)) := (F_decidedEnd_513.ext E522)
  have F_placed_549 : Fld Z h522 o0 "com/example/sidestep/sidestep/Starts" "placed" "I" (.int (0 : Int32)) := (F_placed_514.ext E522)
  have F_taken_550 : Fld Z h522 o0 "com/example/sidestep/sidestep/Starts" "taken" "I" (.int (0 : Int32)) := (F_taken_515.ext E522)
  have F_listedTo_551 : Fld Z h522 o0 "com/example/sidestep/sidestep/Starts" "listedTo" "I" (.int (0 : Int32)) := (F_listedTo_516.ext E522)
  have F_dense_552 : Fld Z h522 o0 "com/example/sidestep/sidestep/Starts" "dense" "Z" (.int (0 : Int32)) := (F_dense_517.ext E522)
  have F_marking_553 : Fld Z h522 o0 "com/example/sidestep/sidestep/Starts" "marking" "I" (.int (0 : Int32)) := (F_marking_518.ext E522)
  have F_sections_554 : Fld Z h522 o0 "com/example/sidestep/sidestep/Starts" "sections" "I" (.int (0 : Int32)) := (F_sections_519.ext E522)
  have F_handedSections_555 : Fld Z h522 o0 "com/example/sidestep/sidestep/Starts" "handedSections" "I" (.int (0 : Int32)) := (F_handedSections_520.ext E522)
  have V1_556 : Arv Z h522 o1 ku .int (Int32.ofNat nN) (us.map Value.int) (.int (0 : Int32)) := (V1_521.ext E522)
  have V522 : Arv Z h522 b522 k522 .int (8 : Int32) [(.int (0 : Int32)), (.int (0 : Int32)), (.int (0 : Int32)), (.int (0 : Int32)), (.int (0 : Int32)), (.int (0 : Int32)), (.int (0 : Int32)), (.int (0 : Int32))] (.int (0 : Int32)) := (Arv.new A522 (by decide)).pad (pad_rep [] (.int (0 : Int32)) 8)
  refine Got.step st522 ?_
  show Got p e below s _ _ _ _ T522 (mkF m 36 #[.val (.ref o0), .val (.ref o1), .unset, .unset, .unset] [(.ref b522), (.ref o0)])
  obtain ⟨T557, h557, X557, e557, W557, st557⟩ := putF X522 hx hZ hown (host := "") (Or.inl (hw _ (List.mem_of_getElem? (i := 20) rfl))) Via.refl e522 F_listedInWindow_526 E_o0_525 (Or.inr ⟨(hw _ (List.mem_of_getElem? (i := 21) rfl)), rfl, hnm⟩) (hw _ (List.mem_of_getElem? (i := 3) rfl)) (ty := (.array .int)) (by decide) rfl rfl (g := (mkF m 36 #[.val (.ref o0), .val (.ref o1), .unset, .unset, .unset] [(.ref b522), (.ref o0)])) rfl rfl (hb hby d1_36)
  have Z0_558 : n0 ≤ h557.size := (Nat.le_trans Z0_523 (Keep.of_wr W557).1)
  have K0_559 : Keep h0 h557 [o0] := (K0_524.wr W557 (Or.inl (List.mem_of_getElem? (i := 0) rfl)))
  have E_o0_560 : Exa Z h557 o0 "com/example/sidestep/sidestep/Starts" := (E_o0_525.wr W557)
  have F_listedInWindow_561 : Fld Z h557 o0 "com/example/sidestep/sidestep/Starts" "listedInWindow" "[I" (.ref b522) := (F_listedInWindow_526.same W557)
  have F_tallies_562 : Fld Z h557 o0 "com/example/sidestep/sidestep/Starts" "tallies" "[J" .null := (F_tallies_527.other W557 (Or.inr (slot_ne (Or.inl (hw _ (List.mem_of_getElem? (i := 23) rfl))) (Or.inr (hw _ (List.mem_of_getElem? (i := 21) rfl))) (by decide) (t := (.array .long)) (t' := (.array .int)) (by decide) (by decide))))
  have F_length_563 : Fld Z h557 o0 "com/example/sidestep/sidestep/Starts" "length" "I" (.int (0 : Int32)) := (F_length_528.other W557 (Or.inr (slot_ne (Or.inr (hw _ (List.mem_of_getElem? (i := 25) rfl))) (Or.inr (hw _ (List.mem_of_getElem? (i := 21) rfl))) (by decide) (t := .int) (t' := (.array .int)) (by decide) (by decide))))
  have F_exact_564 : Fld Z h557 o0 "com/example/sidestep/sidestep/Starts" "exact" "Z" (.int (0 : Int32)) := (F_exact_529.other W557 (Or.inr (slot_ne (Or.inr (hw _ (List.mem_of_getElem? (i := 27) rfl))) (Or.inr (hw _ (List.mem_of_getElem? (i := 21) rfl))) (by decide) (t := .boolean) (t' := (.array .int)) (by decide) (by decide))))
  have F_lastOffset_565 : Fld Z h557 o0 "com/example/sidestep/sidestep/Starts" "lastOffset" "I" (.int (0 : Int32)) := (F_lastOffset_530.other W557 (Or.inr (slot_ne (Or.inr (hw _ (List.mem_of_getElem? (i := 29) rfl))) (Or.inr (hw _ (List.mem_of_getElem? (i := 21) rfl))) (by decide) (t := .int) (t' := (.array .int)) (by decide) (by decide))))
  have F_secondOffset_566 : Fld Z h557 o0 "com/example/sidestep/sidestep/Starts" "secondOffset" "I" (.int (0 : Int32)) := (F_secondOffset_531.other W557 (Or.inr (slot_ne (Or.inr (hw _ (List.mem_of_getElem? (i := 35) rfl))) (Or.inr (hw _ (List.mem_of_getElem? (i := 21) rfl))) (by decide) (t := .int) (t' := (.array .int)) (by decide) (by decide))))
  have F_thirdOffset_567 : Fld Z h557 o0 "com/example/sidestep/sidestep/Starts" "thirdOffset" "I" (.int (0 : Int32)) := (F_thirdOffset_532.other W557 (Or.inr (slot_ne (Or.inr (hw _ (List.mem_of_getElem? (i := 37) rfl))) (Or.inr (hw _ (List.mem_of_getElem? (i := 21) rfl))) (by decide) (t := .int) (t' := (.array .int)) (by decide) (by decide))))
  have F_penultimateOffset_568 : Fld Z h557 o0 "com/example/sidestep/sidestep/Starts" "penultimateOffset" "I" (.int (0 : Int32)) := (F_penultimateOffset_533.other W557 (Or.inr (slot_ne (Or.inr (hw _ (List.mem_of_getElem? (i := 42) rfl))) (Or.inr (hw _ (List.mem_of_getElem? (i := 21) rfl))) (by decide) (t := .int) (t' := (.array .int)) (by decide) (by decide))))
  have F_firstBytes_569 : Fld Z h557 o0 "com/example/sidestep/sidestep/Starts" "firstBytes" "J" (.long (0 : Int64)) := (F_firstBytes_534.other W557 (Or.inr (slot_ne (Or.inr (hw _ (List.mem_of_getElem? (i := 49) rfl))) (Or.inr (hw _ (List.mem_of_getElem? (i := 21) rfl))) (by decide) (t := .long) (t' := (.array .int)) (by decide) (by decide))))
  have F_secondBytes_570 : Fld Z h557 o0 "com/example/sidestep/sidestep/Starts" "secondBytes" "J" (.long (0 : Int64)) := (F_secondBytes_535.other W557 (Or.inr (slot_ne (Or.inr (hw _ (List.mem_of_getElem? (i := 51) rfl))) (Or.inr (hw _ (List.mem_of_getElem? (i := 21) rfl))) (by decide) (t := .long) (t' := (.array .int)) (by decide) (by decide))))
  have F_thirdBytes_571 : Fld Z h557 o0 "com/example/sidestep/sidestep/Starts" "thirdBytes" "J" (.long (0 : Int64)) := (F_thirdBytes_536.other W557 (Or.inr (slot_ne (Or.inr (hw _ (List.mem_of_getElem? (i := 53) rfl))) (Or.inr (hw _ (List.mem_of_getElem? (i := 21) rfl))) (by decide) (t := .long) (t' := (.array .int)) (by decide) (by decide))))
  have F_penultimateBytes_572 : Fld Z h557 o0 "com/example/sidestep/sidestep/Starts" "penultimateBytes" "J" (.long (0 : Int64)) := (F_penultimateBytes_537.other W557 (Or.inr (slot_ne (Or.inr (hw _ (List.mem_of_getElem? (i := 55) rfl))) (Or.inr (hw _ (List.mem_of_getElem? (i := 21) rfl))) (by decide) (t := .long) (t' := (.array .int)) (by decide) (by decide))))
  have F_lastBytes_573 : Fld Z h557 o0 "com/example/sidestep/sidestep/Starts" "lastBytes" "J" (.long (0 : Int64)) := (F_lastBytes_538.other W557 (Or.inr (slot_ne (Or.inr (hw _ (List.mem_of_getElem? (i := 57) rfl))) (Or.inr (hw _ (List.mem_of_getElem? (i := 21) rfl))) (by decide) (t := .long) (t' := (.array .int)) (by decide) (by decide))))
  have F_patternWords_574 : Fld Z h557 o0 "com/example/sidestep/sidestep/Starts" "patternWords" "[J" .null := (F_patternWords_539.other W557 (Or.inr (slot_ne (Or.inr (hw _ (List.mem_of_getElem? (i := 59) rfl))) (Or.inr (hw _ (List.mem_of_getElem? (i := 21) rfl))) (by decide) (t := (.array .long)) (t' := (.array .int)) (by decide) (by decide))))
  have F_lastWordOffset_575 : Fld Z h557 o0 "com/example/sidestep/sidestep/Starts" "lastWordOffset" "I" (.int (0 : Int32)) := (F_lastWordOffset_540.other W557 (Or.inr (slot_ne (Or.inr (hw _ (List.mem_of_getElem? (i := 61) rfl))) (Or.inr (hw _ (List.mem_of_getElem? (i := 21) rfl))) (by decide) (t := .int) (t' := (.array .int)) (by decide) (by decide))))
  have F_lastWordMask_576 : Fld Z h557 o0 "com/example/sidestep/sidestep/Starts" "lastWordMask" "J" (.long (0 : Int64)) := (F_lastWordMask_541.other W557 (Or.inr (slot_ne (Or.inr (hw _ (List.mem_of_getElem? (i := 63) rfl))) (Or.inr (hw _ (List.mem_of_getElem? (i := 21) rfl))) (by decide) (t := .long) (t' := (.array .int)) (by decide) (by decide))))
  have F_source_577 : Fld Z h557 o0 "com/example/sidestep/sidestep/Starts" "source" "Lcom/example/sidestep/sidestep/Starts$LowBytes;" .null := (F_source_542.other W557 (Or.inr (slot_ne (Or.inl (hw _ (List.mem_of_getElem? (i := 76) rfl))) (Or.inr (hw _ (List.mem_of_getElem? (i := 21) rfl))) (by decide) (t := (.object "com/example/sidestep/sidestep/Starts$LowBytes")) (t' := (.array .int)) (by decide) (by decide))))
  have F_copiedTo_578 : Fld Z h557 o0 "com/example/sidestep/sidestep/Starts" "copiedTo" "I" (.int (0 : Int32)) := (F_copiedTo_543.other W557 (Or.inr (slot_ne (Or.inl (hw _ (List.mem_of_getElem? (i := 78) rfl))) (Or.inr (hw _ (List.mem_of_getElem? (i := 21) rfl))) (by decide) (t := .int) (t' := (.array .int)) (by decide) (by decide))))
  have F_lowBytes_579 : Fld Z h557 o0 "com/example/sidestep/sidestep/Starts" "lowBytes" "[B" .null := (F_lowBytes_544.other W557 (Or.inr (slot_ne (Or.inl (hw _ (List.mem_of_getElem? (i := 80) rfl))) (Or.inr (hw _ (List.mem_of_getElem? (i := 21) rfl))) (by decide) (t := (.array .byte)) (t' := (.array .int)) (by decide) (by decide))))
  have F_to_580 : Fld Z h557 o0 "com/example/sidestep/sidestep/Starts" "to" "I" (.int (0 : Int32)) := (F_to_545.other W557 (Or.inr (slot_ne (Or.inl (hw _ (List.mem_of_getElem? (i := 82) rfl))) (Or.inr (hw _ (List.mem_of_getElem? (i := 21) rfl))) (by decide) (t := .int) (t' := (.array .int)) (by decide) (by decide))))
  have F_placesEnd_581 : Fld Z h557 o0 "com/example/sidestep/sidestep/Starts" "placesEnd" "I" (.int (0 : Int32)) := (F_placesEnd_546.other W557 (Or.inr (slot_ne (Or.inl (hw _ (List.mem_of_getElem? (i := 84) rfl))) (Or.inr (hw _ (List.mem_of_getElem? (i := 21) rfl))) (by decide) (t := .int) (t' := (.array .int)) (by decide) (by decide))))
  have F_wholeEnd_582 : Fld Z h557 o0 "com/example/sidestep/sidestep/Starts" "wholeEnd" "I" (.int (0 : Int32)) := (F_wholeEnd_547.other W557 (Or.inr (slot_ne (Or.inl (hw _ (List.mem_of_getElem? (i := 86) rfl))) (Or.inr (hw _ (List.mem_of_getElem? (i := 21) rfl))) (by decide) (t := .int) (t' := (.array .int)) (by decide) (by decide))))
  have F_decidedEnd_583 : Fld Z h557 o0 "com/example/sidestep/sidestep/Starts" "decidedEnd" "I" (.int (0 : Int32)) := (F_decidedEnd_548.other W557 (Or.inr (slot_ne (Or.inl (hw _ (List.mem_of_getElem? (i := 88) rfl))) (Or.inr (hw _ (List.mem_of_getElem? (i := 21) rfl))) (by decide) (t := .int) (t' := (.array .int)) (by decide) (by decide))))
  have F_placed_584 : Fld Z h557 o0 "com/example/sidestep/sidestep/Starts" "placed" "I" (.int (0 : Int32)) := (F_placed_549.other W557 (Or.inr (slot_ne (Or.inl (hw _ (List.mem_of_getElem? (i := 90) rfl))) (Or.inr (hw _ (List.mem_of_getElem? (i := 21) rfl))) (by decide) (t := .int) (t' := (.array .int)) (by decide) (by decide))))
  have F_taken_585 : Fld Z h557 o0 "com/example/sidestep/sidestep/Starts" "taken" "I" (.int (0 : Int32)) := (F_taken_550.other W557 (Or.inr (slot_ne (Or.inl (hw _ (List.mem_of_getElem? (i := 92) rfl))) (Or.inr (hw _ (List.mem_of_getElem? (i := 21) rfl))) (by decide) (t := .int) (t' := (.array .int)) (by decide) (by decide))))
  have F_listedTo_586 : Fld Z h557 o0 "com/example/sidestep/sidestep/Starts" "listedTo" "I" (.int (0 : Int32)) := (F_listedTo_551.other W557 (Or.inr (slot_ne (Or.inl (hw _ (List.mem_of_getElem? (i := 94) rfl))) (Or.inr (hw _ (List.mem_of_getElem? (i := 21) rfl))) (by decide) (t := .int) (t' := (.array .int)) (by decide) (by decide))))
  have F_dense_587 : Fld Z h557 o0 "com/example/sidestep/sidestep/Starts" "dense" "Z" (.int (0 : Int32)) := (F_dense_552.other W557 (Or.inr (slot_ne (Or.inl (hw _ (List.mem_of_getElem? (i := 96) rfl))) (Or.inr (hw _ (List.mem_of_getElem? (i := 21) rfl))) (by decide) (t := .boolean) (t' := (.array .int)) (by decide) (by decide))))
  have F_marking_588 : Fld Z h557 o0 "com/example/sidestep/sidestep/Starts" "marking" "I" (.int (0 : Int32)) := (F_marking_553.other W557 (Or.inr (slot_ne (Or.inl (hw _ (List.mem_of_getElem? (i := 102) rfl))) (Or.inr (hw _ (List.mem_of_getElem? (i := 21) rfl))) (by decide) (t := .int) (t' := (.array .int)) (by decide) (by decide))))
  have F_sections_589 : Fld Z h557 o0 "com/example/sidestep/sidestep/Starts" "sections" "I" (.int (0 : Int32)) := (F_sections_554.other W557 (Or.inr (slot_ne (Or.inl (hw _ (List.mem_of_getElem? (i := 104) rfl))) (Or.inr (hw _ (List.mem_of_getElem? (i := 21) rfl))) (by decide) (t := .int) (t' := (.array .int)) (by decide) (by decide))))
  have F_handedSections_590 : Fld Z h557 o0 "com/example/sidestep/sidestep/Starts" "handedSections" "I" (.int (0 : Int32)) := (F_handedSections_555.other W557 (Or.inr (slot_ne (Or.inl (hw _ (List.mem_of_getElem? (i := 106) rfl))) (Or.inr (hw _ (List.mem_of_getElem? (i := 21) rfl))) (by decide) (t := .int) (t' := (.array .int)) (by decide) (by decide))))
  have V1_591 : Arv Z h557 o1 ku .int (Int32.ofNat nN) (us.map Value.int) (.int (0 : Int32)) := (V1_556.other W557 hne)
  have N557 := Fr.snoc X557 N486 gn_o0
  refine Got.step st557 ?_
  show Got p e below s _ _ _ _ T557 (mkF m 39 #[.val (.ref o0), .val (.ref o1), .unset, .unset, .unset] [])
  refine Got.step (T' := T557) (g' := (mkF m 41 #[.val (.ref o0), .val (.ref o1), .unset, .unset, .unset] [(.int (0 : Int32)), (.ref o0)])) (fun tq kt => ?_) ?_
  · show Steps p.tables e below (T557.setTop (mkF m 39 #[.val (.ref o0), .val (.ref o1), .unset, .unset, .unset] [])) _
    refine XS.aloadN X557.here hx rfl (hb hby d1_39) rfl rfl ?_
    show Steps p.tables e below (T557.setTop (mkF m 40 #[.val (.ref o0), .val (.ref o1), .unset, .unset, .unset] [(.ref o0)])) _
    refine XS.iconst X557.here hx rfl (hb hby d1_40) ?_
    exact kt
  obtain ⟨T592, h592, k592, X592, e592, E592, A592, st592⟩ := newP X557 hx hZ (hw _ (List.mem_of_getElem? (i := 11) rfl)) e557 (g := (mkF m 41 #[.val (.ref o0), .val (.ref o1), .unset, .unset, .unset] [(.int (0 : Int32)), (.ref o0)])) rfl (hb hby d1_41) rfl (by decide) (cap := 0) (by decide) (by decide) (by decide) (by decide)
  obtain ⟨b592, g592⟩ : ∃ z, z = h557.size := ⟨_, rfl⟩
  rw [← g592] at A592 st592
  have ne_o0_b592 : o0 ≠ b592 := by rw [g592]; exact Nat.ne_of_lt E_o0_560.lt
  have ne_o1_b592 : o1 ≠ b592 := by rw [g592]; exact Nat.ne_of_lt V1_591.lt
  have gn_b592 : n0 ≤ b592 := by rw [g592]; exact Z0_558
  have sz_b592 : h0.size ≤ b592 := by rw [g592]; exact K0_559.1
  have Z0_593 : n0 ≤ h592.size := (Nat.le_trans Z0_558 E592.1)
  have K0_594 : Keep h0 h592 [o0] := (K0_559.ext E592)
  have E_o0_595 : Exa Z h592 o0 "com/example/sidestep/sidestep/Starts" := (E_o0_560.ext E592)
  have F_tallies_596 : Fld Z h592 o0 "com/example/sidestep/sidestep/Starts" "tallies" "[J" .null := (F_tallies_562.ext E592)
  have F_length_597 : Fld Z h592 o0 "com/example/sidestep/sidestep/Starts" "length" "I" (.int (0 : Int32)) := (F_length_563.ext E592)
  have F_exact_598 : Fld Z h592 o0 "com/example/sidestep/sidestep/Starts" "exact" "Z" (.int (0 : Int32)) := (F_exact_564.ext E592)
  have F_lastOffset_599 : Fld Z h592 o0 "com/example/sidestep/sidestep/Starts" "lastOffset" "I" (.int (0 : Int32)) := (F_lastOffset_565.ext E592)
  have F_secondOffset_600 : Fld Z h592 o0 "com/example/sidestep/sidestep/Starts" "secondOffset" "I" (.int (0 : Int32)) := (F_secondOffset_566.ext E592)
  have F_thirdOffset_601 : Fld Z h592 o0 "com/example/sidestep/sidestep/Starts" "thirdOffset" "I" (.int (0 : Int32)) := (F_thirdOffset_567.ext E592)
  have F_penultimateOffset_602 : Fld Z h592 o0 "com/example/sidestep/sidestep/Starts" "penultimateOffset" "I" (.int (0 : Int32)) := (F_penultimateOffset_568.ext E592)
  have F_firstBytes_603 : Fld Z h592 o0 "com/example/sidestep/sidestep/Starts" "firstBytes" "J" (.long (0 : Int64)) := (F_firstBytes_569.ext E592)
  have F_secondBytes_604 : Fld Z h592 o0 "com/example/sidestep/sidestep/Starts" "secondBytes" "J" (.long (0 : Int64)) := (F_secondBytes_570.ext E592)
  have F_thirdBytes_605 : Fld Z h592 o0 "com/example/sidestep/sidestep/Starts" "thirdBytes" "J" (.long (0 : Int64)) := (F_thirdBytes_571.ext E592)
  have F_penultimateBytes_606 : Fld Z h592 o0 "com/example/sidestep/sidestep/Starts" "penultimateBytes" "J" (.long (0 : Int64)) := (F_penultimateBytes_572.ext E592)
  have F_lastBytes_607 : Fld Z h592 o0 "com/example/sidestep/sidestep/Starts" "lastBytes" "J" (.long (0 : Int64)) := (F_lastBytes_573.ext E592)
  have F_patternWords_608 : Fld Z h592 o0 "com/example/sidestep/sidestep/Starts" "patternWords" "[J" .null := (F_patternWords_574.ext E592)
  have F_lastWordOffset_609 : Fld Z h592 o0 "com/example/sidestep/sidestep/Starts" "lastWordOffset" "I" (.int (0 : Int32)) := (F_lastWordOffset_575.ext E592)
  have F_lastWordMask_610 : Fld Z h592 o0 "com/example/sidestep/sidestep/Starts" "lastWordMask" "J" (.long (0 : Int64)) := (F_lastWordMask_576.ext E592)
  have F_source_611 : Fld Z h592 o0 "com/example/sidestep/sidestep/Starts" "source" "Lcom/example/sidestep/sidestep/Starts$LowBytes;" .null := (F_source_577.ext E592)
  have F_copiedTo_612 : Fld Z h592 o0 "com/example/sidestep/sidestep/Starts" "copiedTo" "I" (.int (0 : Int32)) := (F_copiedTo_578.ext E592)
  have F_lowBytes_613 : Fld Z h592 o0 "com/example/sidestep/sidestep/Starts" "lowBytes" "[B" .null := (F_lowBytes_579.ext E592)
  have F_to_614 : Fld Z h592 o0 "com/example/sidestep/sidestep/Starts" "to" "I" (.int (0 : Int32)) := (F_to_580.ext E592)
  have F_placesEnd_615 : Fld Z h592 o0 "com/example/sidestep/sidestep/Starts" "placesEnd" "I" (.int (0 : Int32)) := (F_placesEnd_581.ext E592)
  have F_wholeEnd_616 : Fld Z h592 o0 "com/example/sidestep/sidestep/Starts" "wholeEnd" "I" (.int (0 : Int32)) := (F_wholeEnd_582.ext E592)
  have F_decidedEnd_617 : Fld Z h592 o0 "com/example/sidestep/sidestep/Starts" "decidedEnd" "I" (.int (0 : Int32)) := (F_decidedEnd_583.ext E592)
  have F_placed_618 : Fld Z h592 o0 "com/example/sidestep/sidestep/Starts" "placed" "I" (.int (0 : Int32)) := (F_placed_584.ext E592)
  have F_taken_619 : Fld Z h592 o0 "com/example/sidestep/sidestep/Starts" "taken" "I" (.int (0 : Int32)) := (F_taken_585.ext E592)
  have F_listedTo_620 : Fld Z h592 o0 "com/example/sidestep/sidestep/Starts" "listedTo" "I" (.int (0 : Int32)) := (F_listedTo_586.ext E592)
  have F_dense_621 : Fld Z h592 o0 "com/example/sidestep/sidestep/Starts" "dense" "Z" (.int (0 : Int32)) := (F_dense_587.ext E592)
  have F_marking_622 : Fld Z h592 o0 "com/example/sidestep/sidestep/Starts" "marking" "I" (.int (0 : Int32)) := (F_marking_588.ext E592)
  have F_sections_623 : Fld Z h592 o0 "com/example/sidestep/sidestep/Starts" "sections" "I" (.int (0 : Int32)) := (F_sections_589.ext E592)
  have F_handedSections_624 : Fld Z h592 o0 "com/example/sidestep/sidestep/Starts" "handedSections" "I" (.int (0 : Int32)) := (F_handedSections_590.ext E592)
  have V1_625 : Arv Z h592 o1 ku .int (Int32.ofNat nN) (us.map Value.int) (.int (0 : Int32)) := (V1_591.ext E592)
  have V592 : Arv Z h592 b592 k592 .long (0 : Int32) [] (.long (0 : Int64)) := (Arv.new A592 (by decide)).pad (pad_rep [] (.long (0 : Int64)) 0)
  refine Got.step st592 ?_
  show Got p e below s _ _ _ _ T592 (mkF m 43 #[.val (.ref o0), .val (.ref o1), .unset, .unset, .unset] [(.ref b592), (.ref o0)])
  obtain ⟨T626, h626, X626, e626, W626, st626⟩ := putF X592 hx hZ hown (host := "") (Or.inl (hw _ (List.mem_of_getElem? (i := 22) rfl))) Via.refl e592 F_tallies_596 E_o0_595 (Or.inl (hw _ (List.mem_of_getElem? (i := 23) rfl))) (hw _ (List.mem_of_getElem? (i := 3) rfl)) (ty := (.array .long)) (by decide) rfl rfl (g := (mkF m 43 #[.val (.ref o0), .val (.ref o1), .unset, .unset, .unset] [(.ref b592), (.ref o0)])) rfl rfl (hb hby d1_43)
  have Z0_627 : n0 ≤ h626.size := (Nat.le_trans Z0_593 (Keep.of_wr W626).1)
  have K0_628 : Keep h0 h626 [o0] := (K0_594.wr W626 (Or.inl (List.mem_of_getElem? (i := 0) rfl)))
  have E_o0_629 : Exa Z h626 o0 "com/example/sidestep/sidestep/Starts" := (E_o0_595.wr W626)
  have F_tallies_630 : Fld Z h626 o0 "com/example/sidestep/sidestep/Starts" "tallies" "[J" (.ref b592) := (F_tallies_596.same W626)
  have F_length_631 : Fld Z h626 o0 "com/example/sidestep/sidestep/Starts" "length" "I" (.int (0 : Int32)) := (F_length_597.other W626 (Or.inr (slot_ne (Or.inr (hw _ (List.mem_of_getElem? (i := 25) rfl))) (Or.inl (hw _ (List.mem_of_getElem? (i := 23) rfl))) (by decide) (t := .int) (t' := (.array .long)) (by decide) (by decide))))
  have F_exact_632 : Fld Z h626 o0 "com/example/sidestep/sidestep/Starts" "exact" "Z" (.int (0 : Int32)) := (F_exact_598.other W626 (Or.inr (slot_ne (Or.inr (hw _ (List.mem_of_getElem? (i := 27) rfl))) (Or.inl (hw _ (List.mem_of_getElem? (i := 23) rfl))) (by decide) (t := .boolean) (t' := (.array .long)) (by decide) (by decide))))
  have F_lastOffset_633 : Fld Z h626 o0 "com/example/sidestep/sidestep/Starts" "lastOffset" "I" (.int (0 : Int32)) := (F_lastOffset_599.other W626 (Or.inr (slot_ne (Or.inr (hw _ (List.mem_of_getElem? (i := 29) rfl))) (Or.inl (hw _ (List.mem_of_getElem? (i := 23) rfl))) (by decide) (t := .int) (t' := (.array .long)) (by decide) (by decide))))
  have F_secondOffset_634 : Fld Z h626 o0 "com/example/sidestep/sidestep/Starts" "secondOffset" "I" (.int (0 : Int32)) := (F_secondOffset_600.other W626 (Or.inr (slot_ne (Or.inr (hw _ (List.mem_of_getElem? (i := 35) rfl))) (Or.inl (hw _ (List.mem_of_getElem? (i := 23) rfl))) (by decide) (t := .int) (t' := (.array .long)) (by decide) (by decide))))
  have F_thirdOffset_635 : Fld Z h626 o0 "com/example/sidestep/sidestep/Starts" "thirdOffset" "I" (.int (0 : Int32)) := (F_thirdOffset_601.other W626 (Or.inr (slot_ne (Or.inr (hw _ (List.mem_of_getElem? (i := 37) rfl))) (Or.inl (hw _ (List.mem_of_getElem? (i := 23) rfl))) (by decide) (t := .int) (t' := (.array .long)) (by decide) (by decide))))
  have F_penultimateOffset_636 : Fld Z h626 o0 "com/example/sidestep/sidestep/Starts" "penultimateOffset" "I" (.int (0 : Int32)) := (F_penultimateOffset_602.other W626 (Or.inr (slot_ne (Or.inr (hw _ (List.mem_of_getElem? (i := 42) rfl))) (Or.inl (hw _ (List.mem_of_getElem? (i := 23) rfl))) (by decide) (t := .int) (t' := (.array .long)) (by decide) (by decide))))
  have F_firstBytes_637 : Fld Z h626 o0 "com/example/sidestep/sidestep/Starts" "firstBytes" "J" (.long (0 : Int64)) := (F_firstBytes_603.other W626 (Or.inr (slot_ne (Or.inr (hw _ (List.mem_of_getElem? (i := 49) rfl))) (Or.inl (hw _ (List.mem_of_getElem? (i := 23) rfl))) (by decide) (t := .long) (t' := (.array .long)) (by decide) (by decide))))
  have F_secondBytes_638 : Fld Z h626 o0 "com/example/sidestep/sidestep/Starts" "secondBytes" "J" (.long (0 : Int64)) := (F_secondBytes_604.other W626 (Or.inr (slot_ne (Or.inr (hw _ (List.mem_of_getElem? (i := 51) rfl))) (Or.inl (hw _ (List.mem_of_getElem? (i := 23) rfl))) (by decide) (t := .long) (t' := (.array .long)) (by decide) (by decide))))
  have F_thirdBytes_639 : Fld Z h626 o0 "com/example/sidestep/sidestep/Starts" "thirdBytes" "J" (.long (0 : Int64)) := (F_thirdBytes_605.other W626 (Or.inr (slot_ne (Or.inr (hw _ (List.mem_of_getElem? (i := 53) rfl))) (Or.inl (hw _ (List.mem_of_getElem? (i := 23) rfl))) (by decide) (t := .long) (t' := (.array .long)) (by decide) (by decide))))
  have F_penultimateBytes_640 : Fld Z h626 o0 "com/example/sidestep/sidestep/Starts" "penultimateBytes" "J" (.long (0 : Int64)) := (F_penultimateBytes_606.other W626 (Or.inr (slot_ne (Or.inr (hw _ (List.mem_of_getElem? (i := 55) rfl))) (Or.inl (hw _ (List.mem_of_getElem? (i := 23) rfl))) (by decide) (t := .long) (t' := (.array .long)) (by decide) (by decide))))
  have F_lastBytes_641 : Fld Z h626 o0 "com/example/sidestep/sidestep/Starts" "lastBytes" "J" (.long (0 : Int64)) := (F_lastBytes_607.other W626 (Or.inr (slot_ne (Or.inr (hw _ (List.mem_of_getElem? (i := 57) rfl))) (Or.inl (hw _ (List.mem_of_getElem? (i := 23) rfl))) (by decide) (t := .long) (t' := (.array .long)) (by decide) (by decide))))
  have F_patternWords_642 : Fld Z h626 o0 "com/example/sidestep/sidestep/Starts" "patternWords" "[J" .null := (F_patternWords_608.other W626 (Or.inr (slot_ne (Or.inr (hw _ (List.mem_of_getElem? (i := 59) rfl))) (Or.inl (hw _ (List.mem_of_getElem? (i := 23) rfl))) (by decide) (t := (.array .long)) (t' := (.array .long)) (by decide) (by decide))))
  have F_lastWordOffset_643 : Fld Z h626 o0 "com/example/sidestep/sidestep/Starts" "lastWordOffset" "I" (.int (0 : Int32)) := (F_lastWordOffset_609.other W626 (Or.inr (slot_ne (Or.inr (hw _ (List.mem_of_getElem? (i := 61) rfl))) (Or.inl (hw _ (List.mem_of_getElem? (i := 23) rfl))) (by decide) (t := .int) (t' := (.array .long)) (by decide) (by decide))))
  have F_lastWordMask_644 : Fld Z h626 o0 "com/example/sidestep/sidestep/Starts" "lastWordMask" "J" (.long (0 : Int64)) := (F_lastWordMask_610.other W626 (Or.inr (slot_ne (Or.inr (hw _ (List.mem_of_getElem? (i := 63) rfl))) (Or.inl (hw _ (List.mem_of_getElem? (i := 23) rfl))) (by decide) (t := .long) (t' := (.array .long)) (by decide) (by decide))))
  have F_source_645 : Fld Z h626 o0 "com/example/sidestep/sidestep/Starts" "source" "Lcom/example/sidestep/sidestep/Starts$LowBytes;" .null := (F_source_611.other W626 (Or.inr (slot_ne (Or.inl (hw _ (List.mem_of_getElem? (i := 76) rfl))) (Or.inl (hw _ (List.mem_of_getElem? (i := 23) rfl))) (by decide) (t := (.object "com/example/sidestep/sidestep/Starts$LowBytes")) (t' := (.array .long)) (by decide) (by decide))))
  have F_copiedTo_646 : Fld Z h626 o0 "com/example/sidestep/sidestep/Starts" "copiedTo" "I" (.int (0 : Int32)) := (F_copiedTo_612.other W626 (Or.inr (slot_ne (Or.inl (hw _ (List.mem_of_getElem? (i := 78) rfl))) (Or.inl (hw _ (List.mem_of_getElem? (i := 23) rfl))) (by decide) (t := .int) (t' := (.array .long)) (by decide) (by decide))))
  have F_lowBytes_647 : Fld Z h626 o0 "com/example/sidestep/sidestep/Starts" "lowBytes" "[B" .null := (F_lowBytes_613.other W626 (Or.inr (slot_ne (Or.inl (hw _ (List.mem_of_getElem? (i := 80) rfl))) (Or.inl (hw _ (List.mem_of_getElem? (i := 23) rfl))) (by decide) (t := (.array .byte)) (t' := (.array .long)) (by decide) (by decide))))
  have F_to_648 : Fld Z h626 o0 "com/example/sidestep/sidestep/Starts" "to" "I" (.int (0 : Int32)) := (F_to_614.other W626 (Or.inr (slot_ne (Or.inl (hw _ (List.mem_of_getElem? (i := 82) rfl))) (Or.inl (hw _ (List.mem_of_getElem? (i := 23) rfl))) (by decide) (t := .int) (t' := (.array .long)) (by decide) (by decide))))
  have F_placesEnd_649 : Fld Z h626 o0 "com/example/sidestep/sidestep/Starts" "placesEnd" "I" (.int (0 : Int32)) := (F_placesEnd_615.other W626 (Or.inr (slot_ne (Or.inl (hw _ (List.mem_of_getElem? (i := 84) rfl))) (Or.inl (hw _ (List.mem_of_getElem? (i := 23) rfl))) (by decide) (t := .int) (t' := (.array .long)) (by decide) (by decide))))
  have F_wholeEnd_650 : Fld Z h626 o0 "com/example/sidestep/sidestep/Starts" "wholeEnd" "I" (.int (0 : Int32)) := (F_wholeEnd_616.other W626 (Or.inr (slot_ne (Or.inl (hw _ (List.mem_of_getElem? (i := 86) rfl))) (Or.inl (hw _ (List.mem_of_getElem? (i := 23) rfl))) (by decide) (t := .int) (t' := (.array .long)) (by decide) (by decide))))
  have F_decidedEnd_651 : Fld Z h626 o0 "com/example/sidestep/sidestep/Starts" "decidedEnd" "I" (.int (0 : Int32)) := (F_decidedEnd_617.other W626 (Or.inr (slot_ne (Or.inl (hw _ (List.mem_of_getElem? (i := 88) rfl))) (Or.inl (hw _ (List.mem_of_getElem? (i := 23) rfl))) (by decide) (t := .int) (t' := (.array .long)) (by decide) (by decide))))
  have F_placed_652 : Fld Z h626 o0 "com/example/sidestep/sidestep/Starts" "placed" "I" (.int (0 : Int32)) := (F_placed_618.other W626 (Or.inr (slot_ne (Or.inl (hw _ (List.mem_of_getElem? (i := 90) rfl))) (Or.inl (hw _ (List.mem_of_getElem? (i := 23) rfl))) (by decide) (t := .int) (t' := (.array .long)) (by decide) (by decide))))
  have F_taken_653 : Fld Z h626 o0 "com/example/sidestep/sidestep/Starts" "taken" "I" (.int (0 : Int32)) := (F_taken_619.other W626 (Or.inr (slot_ne (Or.inl (hw _ (List.mem_of_getElem? (i := 92) rfl))) (Or.inl (hw _ (List.mem_of_getElem? (i := 23) rfl))) (by decide) (t := .int) (t' := (.array .long)) (by decide) (by decide))))
  have F_listedTo_654 : Fld Z h626 o0 "com/example/sidestep/sidestep/Starts" "listedTo" "I" (.int (0 : Int32)) := (F_listedTo_620.other W626 (Or.inr (slot_ne (Or.inl (hw _ (List.mem_of_getElem? (i := 94) rfl))) (Or.inl (hw _ (List.mem_of_getElem? (i := 23) rfl))) (by decide) (t := .int) (t' := (.array .long)) (by decide) (by decide))))
  have F_dense_655 : Fld Z h626 o0 "com/example/sidestep/sidestep/Starts" "dense" "Z" (.int (0 : Int32)) := (F_dense_621.other W626 (Or.inr (slot_ne (Or.inl (hw _ (List.mem_of_getElem? (i := 96) rfl))) (Or.inl (hw _ (List.mem_of_getElem? (i := 23) rfl))) (by decide) (t := .boolean) (t' := (.array .long)) (by decide) (by decide))))
  have F_marking_656 : Fld Z h626 o0 "com/example/sidestep/sidestep/Starts" "marking" "I" (.int (0 : Int32)) := (F_marking_622.other W626 (Or.inr (slot_ne (Or.inl (hw _ (List.mem_of_getElem? (i := 102) rfl))) (Or.inl (hw _ (List.mem_of_getElem? (i := 23) rfl))) (by decide) (t := .int) (t' := (.array .long)) (by decide) (by decide))))
  have F_sections_657 : Fld Z h626 o0 "com/example/sidestep/sidestep/Starts" "sections" "I" (.int (0 : Int32)) := (F_sections_623.other W626 (Or.inr (slot_ne (Or.inl (hw _ (List.mem_of_getElem? (i := 104) rfl))) (Or.inl (hw _ (List.mem_of_getElem? (i := 23) rfl))) (by decide) (t := .int) (t' := (.array .long)) (by decide) (by decide))))
  have F_handedSections_658 : Fld Z h626 o0 "com/example/sidestep/sidestep/Starts" "handedSections" "I" (.int (0 : Int32)) := (F_handedSections_624.other W626 (Or.inr (slot_ne (Or.inl (hw _ (List.mem_of_getElem? (i := 106) rfl))) (Or.inl (hw _ (List.mem_of_getElem? (i := 23) rfl))) (by decide) (t := .int) (t' := (.array .long)) (by decide) (by decide))))
  have V1_659 : Arv Z h626 o1 ku .int (Int32.ofNat nN) (us.map Value.int) (.int (0 : Int32)) := (V1_625.other W626 hne)
  have N626 := Fr.snoc X626 N557 gn_o0
  refine Got.step st626 ?_
  show Got p e below s _ _ _ _ T626 (mkF m 46 #[.val (.ref o0), .val (.ref o1), .unset, .unset, .unset] [])
  refine Got.step (T' := T626) (g' := (mkF m 48 #[.val (.ref o0), .val (.ref o1), .unset, .unset, .unset] [(.ref o1), (.ref o0)])) (fun tq kt => ?_) ?_
  · show Steps p.tables e below (T626.setTop (mkF m 46 #[.val (.ref o0), .val (.ref o1), .unset, .unset, .unset] [])) _
    refine XS.aloadN X626.here hx rfl (hb hby d1_46) rfl rfl ?_
    show Steps p.tables e below (T626.setTop (mkF m 47 #[.val (.ref o0), .val (.ref o1), .unset, .unset, .unset] [(.ref o0)])) _
    refine XS.aloadN X626.here hx rfl (hb hby d1_47) rfl rfl ?_
    exact kt
  obtain ⟨cl660, Ar660, q660, S660, M660, H660, G660⟩ := (id V1_659)
  refine Got.step (T' := T626) (fun tq kt => X626.arraylength hx (cell := cl660) (by rw [e626]; exact Ar660.1) (State.isArrayOf_alike hZ.alike Ar660.2.1) (g := (mkF m 48 #[.val (.ref o0), .val (.ref o1), .unset, .unset, .unset] [(.ref o1), (.ref o0)])) rfl (rest := [(.ref o0)]) rfl (hb hby d1_48) tq kt) ?_
  rw [len_of S660 M660]
  show Got p e below s _ _ _ _ T626 (mkF m 49 #[.val (.ref o0), .val (.ref o1), .unset, .unset, .unset] [(.int (Int32.ofNat nN)), (.ref o0)])
  obtain ⟨T661, h661, X661, e661, W661, st661⟩ := putF X626 hx hZ hown (host := "") (Or.inl (hw _ (List.mem_of_getElem? (i := 24) rfl))) Via.refl e626 F_length_631 E_o0_629 (Or.inr ⟨(hw _ (List.mem_of_getElem? (i := 25) rfl)), rfl, hnm⟩) (hw _ (List.mem_of_getElem? (i := 3) rfl)) (ty := .int) (by decide) rfl rfl (g := (mkF m 49 #[.val (.ref o0), .val (.ref o1), .unset, .unset, .unset] [(.int (Int32.ofNat nN)), (.ref o0)])) rfl rfl (hb hby d1_49)
  have Z0_662 : n0 ≤ h661.size := (Nat.le_trans Z0_627 (Keep.of_wr W661).1)
  have K0_663 : Keep h0 h661 [o0] := (K0_628.wr W661 (Or.inl (List.mem_of_getElem? (i := 0) rfl)))
  have E_o0_664 : Exa Z h661 o0 "com/example/sidestep/sidestep/Starts" := (E_o0_629.wr W661)
  have F_length_665 : Fld Z h661 o0 "com/example/sidestep/sidestep/Starts" "length" "I" (.int (Int32.ofNat nN)) := (F_length_631.same W661)
  have F_exact_666 : Fld Z h661 o0 "com/example/sidestep/sidestep/Starts" "exact" "Z" (.int (0 : Int32)) := (F_exact_632.other W661 (Or.inr (slot_ne (Or.inr (hw _ (List.mem_of_getElem? (i := 27) rfl))) (Or.inr (hw _ (List.mem_of_getElem? (i := 25) rfl))) (by decide) (t := .boolean) (t' := .int) (by decide) (by decide))))
  have F_lastOffset_667 : Fld Z h661 o0 "com/example/sidestep/sidestep/Starts" "lastOffset" "I" (.int (0 : Int32)) := (F_lastOffset_633.other W661 (Or.inr (slot_ne (Or.inr (hw _ (List.mem_of_getElem? (i := 29) rfl))) (Or.inr (hw _ (List.mem_of_getElem? (i := 25) rfl))) (by decide) (t := .int) (t' := .int) (by decide) (by decide))))
  have F_secondOffset_668 : Fld Z h661 o0 "com/example/sidestep/sidestep/Starts" "secondOffset" "I" (.int (0 : Int32)) := (F_secondOffset_634.other W661 (Or.inr (slot_ne (Or.inr (hw _ (List.mem_of_getElem? (i := 35) rfl))) (Or.inr (hw _ (List.mem_of_getElem? (i := 25) rfl))) (by decide) (t := .int) (t' := .int) (by decide) (by decide))))
  have F_thirdOffset_669 : Fld Z h661 o0 "com/example/sidestep/sidestep/Starts" "thirdOffset" "I" (.int (0 : Int32)) := (F_thirdOffset_635.other W661 (Or.inr (slot_ne (Or.inr (hw _ (List.mem_of_getElem? (i := 37) rfl))) (Or.inr (hw _ (List.mem_of_getElem? (i := 25) rfl))) (by decide) (t := .int) (t' := .int) (by decide) (by decide))))
  have F_penultimateOffset_670 : Fld Z h661 o0 "com/example/sidestep/sidestep/Starts" "penultimateOffset" "I" (.int (0 : Int32)) := (F_penultimateOffset_636.other W661 (Or.inr (slot_ne (Or.inr (hw _ (List.mem_of_getElem? (i := 42) rfl))) (Or.inr (hw _ (List.mem_of_getElem? (i := 25) rfl))) (by decide) (t := .int) (t' := .int) (by decide) (by decide))))
  have F_firstBytes_671 : Fld Z h661 o0 "com/example/sidestep/sidestep/Starts" "firstBytes" "J" (.long (0 : Int64)) := (F_firstBytes_637.other W661 (Or.inr (slot_ne (Or.inr (hw _ (List.mem_of_getElem? (i := 49) rfl))) (Or.inr (hw _ (List.mem_of_getElem? (i := 25) rfl))) (by decide) (t := .long) (t' := .int) (by decide) (by decide))))
  have F_secondBytes_672 : Fld Z h661 o0 "com/example/sidestep/sidestep/Starts" "secondBytes" "J" (.long (0 : Int64)) := (F_secondBytes_638.other W661 (Or.inr (slot_ne (Or.inr (hw _ (List.mem_of_getElem? (i := 51) rfl))) (Or.inr (hw _ (List.mem_of_getElem? (i := 25) rfl))) (by decide) (t := .long) (t' := .int) (by decide) (by decide))))
  have F_thirdBytes_673 : Fld Z h661 o0 "com/example/sidestep/sidestep/Starts" "thirdBytes" "J" (.long (0 : Int64)) := (F_thirdBytes_639.other W661 (Or.inr (slot_ne (Or.inr (hw _ (List.mem_of_getElem? (i := 53) rfl))) (Or.inr (hw _ (List.mem_of_getElem? (i := 25) rfl))) (by decide) (t := .long) (t' := .int) (by decide) (by decide))))
  have F_penultimateBytes_674 : Fld Z h661 o0 "com/example/sidestep/sidestep/Starts" "penultimateBytes" "J" (.long (0 : Int64)) := (F_penultimateBytes_640.other W661 (Or.inr (slot_ne (Or.inr (hw _ (List.mem_of_getElem? (i := 55) rfl))) (Or.inr (hw _ (List.mem_of_getElem? (i := 25) rfl))) (by decide) (t := .long) (t' := .int) (by decide) (by decide))))
  have F_lastBytes_675 : Fld Z h661 o0 "com/example/sidestep/sidestep/Starts" "lastBytes" "J" (.long (0 : Int64)) := (F_lastBytes_641.other W661 (Or.inr (slot_ne (Or.inr (hw _ (List.mem_of_getElem? (i := 57) rfl))) (Or.inr (hw _ (List.mem_of_getElem? (i := 25) rfl))) (by decide) (t := .long) (t' := .int) (by decide) (by decide))))
  have F_patternWords_676 : Fld Z h661 o0 "com/example/sidestep/sidestep/Starts" "patternWords" "[J" .null := (F_patternWords_642.other W661 (Or.inr (slot_ne (Or.inr (hw _ (List.mem_of_getElem? (i := 59) rfl))) (Or.inr (hw _ (List.mem_of_getElem? (i := 25) rfl))) (by decide) (t := (.array .long)) (t' := .int) (by decide) (by decide))))
  have F_lastWordOffset_677 : Fld Z h661 o0 "com/example/sidestep/sidestep/Starts" "lastWordOffset" "I" (.int (0 : Int32)) := (F_lastWordOffset_643.other W661 (Or.inr (slot_ne (Or.inr (hw _ (List.mem_of_getElem? (i := 61) rfl))) (Or.inr (hw _ (List.mem_of_getElem? (i := 25) rfl))) (by decide) (t := .int) (t' := .int) (by decide) (by decide))))
  have F_lastWordMask_678 : Fld Z h661 o0 "com/example/sidestep/sidestep/Starts" "lastWordMask" "J" (.long (0 : Int64)) := (F_lastWordMask_644.other W661 (Or.inr (slot_ne (Or.inr (hw _ (List.mem_of_getElem? (i := 63) rfl))) (Or.inr (hw _ (List.mem_of_getElem? (i := 25) rfl))) (by decide) (t := .long) (t' := .int) (by decide) (by decide))))
  have F_source_679 : Fld Z h661 o0 "com/example/sidestep/sidestep/Starts" "source" "Lcom/example/sidestep/sidestep/Starts$LowBytes;" .null := (F_source_645.other W661 (Or.inr (slot_ne (Or.inl (hw _ (List.mem_of_getElem? (i := 76) rfl))) (Or.inr (hw _ (List.mem_of_getElem? (i := 25) rfl))) (by decide) (t := (.object "com/example/sidestep/sidestep/Starts$LowBytes")) (t' := .int) (by decide) (by decide))))
  have F_copiedTo_680 : Fld Z h661 o0 "com/example/sidestep/sidestep/Starts" "copiedTo" "I" (.int (0 : Int32)) := (F_copiedTo_646.other W661 (Or.inr (slot_ne (Or.inl (hw _ (List.mem_of_getElem? (i := 78) rfl))) (Or.inr (hw _ (List.mem_of_getElem? (i := 25) rfl))) (by decide) (t := .int) (t' := .int) (by decide) (by decide))))
  have F_lowBytes_681 : Fld Z h661 o0 "com/example/sidestep/sidestep/Starts" "lowBytes" "[B" .null := (F_lowBytes_647.other W661 (Or.inr (slot_ne (Or.inl (hw _ (List.mem_of_getElem? (i := 80) rfl))) (Or.inr (hw _ (List.mem_of_getElem? (i := 25) rfl))) (by decide) (t := (.array .byte)) (t' := .int) (by decide) (by decide))))
  have F_to_682 : Fld Z h661 o0 "com/example/sidestep/sidestep/Starts" "to" "I" (.int (0 : Int32)) := (F_to_648.other W661 (Or.inr (slot_ne (Or.inl (hw _ (List.mem_of_getElem? (i := 82) rfl))) (Or.inr (hw _ (List.mem_of_getElem? (i := 25) rfl))) (by decide) (t := .int) (t' := .int) (by decide) (by decide))))
  have F_placesEnd_683 : Fld Z h661 o0 "com/example/sidestep/sidestep/Starts" "placesEnd" "I" (.int (0 : Int32)) := (F_placesEnd_649.other W661 (Or.inr (slot_ne (Or.inl (hw _ (List.mem_of_getElem? (i := 84) rfl))) (Or.inr (hw _ (List.mem_of_getElem? (i := 25) rfl))) (by decide) (t := .int) (t' := .int) (by decide) (by decide))))
  have F_wholeEnd_684 : Fld Z h661 o0 "com/example/sidestep/sidestep/Starts" "wholeEnd" "I" (.int (0 : Int32)) := (F_wholeEnd_650.other W661 (Or.inr (slot_ne (Or.inl (hw _ (List.mem_of_getElem? (i := 86) rfl))) (Or.inr (hw _ (List.mem_of_getElem? (i := 25) rfl))) (by decide) (t := .int) (t' := .int) (by decide) (by decide))))
  have F_decidedEnd_685 : Fld Z h661 o0 "com/example/sidestep/sidestep/Starts" "decidedEnd" "I" (.int (0 : Int32)) := (F_decidedEnd_651.other W661 (Or.inr (slot_ne (Or.inl (hw _ (List.mem_of_getElem? (i := 88) rfl))) (Or.inr (hw _ (List.mem_of_getElem? (i := 25) rfl))) (by decide) (t := .int) (t' := .int) (by decide) (by decide))))
  have F_placed_686 : Fld Z h661 o0 "com/example/sidestep/sidestep/Starts" "placed" "I" (.int (0 : Int32)) := (F_placed_652.other W661 (Or.inr (slot_ne (Or.inl (hw _ (List.mem_of_getElem? (i := 90) rfl))) (Or.inr (hw _ (List.mem_of_getElem? (i := 25) rfl))) (by decide) (t := .int) (t' := .int) (by decide) (by decide))))
  have F_taken_687 : Fld Z h661 o0 "com/example/sidestep/sidestep/Starts" "taken" "I" (.int (0 : Int32)) := (F_taken_653.other W661 (Or.inr (slot_ne (Or.inl (hw _ (List.mem_of_getElem? (i := 92) rfl))) (Or.inr (hw _ (List.mem_of_getElem? (i := 25) rfl))) (by decide) (t := .int) (t' := .int) (by decide) (by decide))))
  have F_listedTo_688 : Fld Z h661 o0 "com/example/sidestep/sidestep/Starts" "listedTo" "I" (.int (0 : Int32)) := (F_listedTo_654.other W661 (Or.inr (slot_ne (Or.inl (hw _ (List.mem_of_getElem? (i := 94) rfl))) (Or.inr (hw _ (List.mem_of_getElem? (i := 25) rfl))) (by decide) (t := .int) (t' := .int) (by decide) (by decide))))
  have F_dense_689 : Fld Z h661 o0 "com/example/sidestep/sidestep/Starts" "dense" "Z" (.int (0 : Int32)) := (F_dense_655.other W661 (Or.inr (slot_ne (Or.inl (hw _ (List.mem_of_getElem? (i := 96) rfl))) (Or.inr (hw _ (List.mem_of_getElem? (i := 25) rfl))) (by decide) (t := .boolean) (t' := .int) (by decide) (by decide))))
  have F_marking_690 : Fld Z h661 o0 "com/example/sidestep/sidestep/Starts" "marking" "I" (.int (0 : Int32)) := (F_marking_656.other W661 (Or.inr (slot_ne (Or.inl (hw _ (List.mem_of_getElem? (i := 102) rfl))) (Or.inr (hw _ (List.mem_of_getElem? (i := 25) rfl))) (by decide) (t := .int) (t' := .int) (by decide) (by decide))))
  have F_sections_691 : Fld Z h661 o0 "com/example/sidestep/sidestep/Starts" "sections" "I" (.int (0 : Int32)) := (F_sections_657.other W661 (Or.inr (slot_ne (Or.inl (hw _ (List.mem_of_getElem? (i := 104) rfl))) (Or.inr (hw _ (List.mem_of_getElem? (i := 25) rfl))) (by decide) (t := .int) (t' := .int) (by decide) (by decide))))
  have F_handedSections_692 : Fld Z h661 o0 "com/example/sidestep/sidestep/Starts" "handedSections" "I" (.int (0 : Int32)) := (F_handedSections_658.other W661 (Or.inr (slot_ne (Or.inl (hw _ (List.mem_of_getElem? (i := 106) rfl))) (Or.inr (hw _ (List.mem_of_getElem? (i := 25) rfl))) (by decide) (t := .int) (t' := .int) (by decide) (by decide))))
  have V1_693 : Arv Z h661 o1 ku .int (Int32.ofNat nN) (us.map Value.int) (.int (0 : Int32)) := (V1_659.other W661 hne)
  have N661 := Fr.snoc X661 N626 gn_o0
  refine Got.step st661 ?_
  show Got p e below s _ _ _ _ T661 (mkF m 52 #[.val (.ref o0), .val (.ref o1), .unset, .unset, .unset] [])
  refine Got.step (T' := T661) (g' := (mkF m 54 #[.val (.ref o0), .val (.ref o1), .unset, .unset, .unset] [(.ref o0), (.ref o0)])) (fun tq kt => ?_) ?_
  · show Steps p.tables e below (T661.setTop (mkF m 52 #[.val (.ref o0), .val (.ref o1), .unset, .unset, .unset] [])) _
    refine XS.aloadN X661.here hx rfl (hb hby d1_52) rfl rfl ?_
    show Steps p.tables e below (T661.setTop (mkF m 53 #[.val (.ref o0), .val (.ref o1), .unset, .unset, .unset] [(.ref o0)])) _
    refine XS.aloadN X661.here hx rfl (hb hby d1_53) rfl rfl ?_
    exact kt
  obtain ⟨T694, X694, e694, st694⟩ := getF X661 hx hZ hown (host := "") (Or.inl (hw _ (List.mem_of_getElem? (i := 24) rfl))) Via.refl e661 F_length_665 (g := (mkF m 54 #[.val (.ref o0), .val (.ref o1), .unset, .unset, .unset] [(.ref o0), (.ref o0)])) rfl rfl (hb hby d1_54)
  refine Got.step st694 ?_
  show Got p e below s _ _ _ _ T694 (mkF m 57 #[.val (.ref o0), .val (.ref o1), .unset, .unset, .unset] [(.int (Int32.ofNat nN)), (.ref o0)])
  refine Got.step (T' := T694) (g' := (mkF m 58 #[.val (.ref o0), .val (.ref o1), .unset, .unset, .unset] [(.int (5 : Int32)), (.int (Int32.ofNat nN)), (.ref o0)])) (fun tq kt => ?_) ?_
  · show Steps p.tables e below (T694.setTop (mkF m 57 #[.val (.ref o0), .val (.ref o1), .unset, .unset, .unset] [(.int (Int32.ofNat nN)), (.ref o0)])) _
    refine XS.iconst X694.here hx rfl (hb hby d1_57) ?_
    exact kt
  have J695 : ∀ (k695_0 : Int32), k695_0 = (if (5 : Int32) < (Int32.ofNat nN) then (0 : Int32) else (1 : Int32)) → Got p e below s (fun h L => Fr n0 L ∧ Keep h0 h [o0] ∧ Exa Z h o0 "com/example/sidestep/sidestep/Starts" ∧ Fld Z h o0 "com/example/sidestep/sidestep/Starts" "lastOffset" "I" (.int ((Int32.ofNat nN) - (1 : Int32))) ∧ Fld Z h o0 "com/example/sidestep/sidestep/Starts" "length" "I" (.int (Int32.ofNat nN)) ∧ Fld Z h o0 "com/example/sidestep/sidestep/Starts" "source" "Lcom/example/sidestep/sidestep/Starts$LowBytes;" .null ∧ Fld Z h o0 "com/example/sidestep/sidestep/Starts" "copiedTo" "I" (.int (0 : Int32)) ∧ Fld Z h o0 "com/example/sidestep/sidestep/Starts" "lowBytes" "[B" .null ∧ Fld Z h o0 "com/example/sidestep/sidestep/Starts" "to" "I" (.int (0 : Int32)) ∧ Fld Z h o0 "com/example/sidestep/sidestep/Starts" "placesEnd" "I" (.int (0 : Int32)) ∧ Fld Z h o0 "com/example/sidestep/sidestep/Starts" "wholeEnd" "I" (.int (0 : Int32)) ∧ Fld Z h o0 "com/example/sidestep/sidestep/Starts" "decidedEnd" "I" (.int (0 : Int32)) ∧ Fld Z h o0 "com/example/sidestep/sidestep/Starts" "placed" "I" (.int (0 : Int32)) ∧ Fld Z h o0 "com/example/sidestep/sidestep/Starts" "taken" "I" (.int (0 : Int32)) ∧ Fld Z h o0 "com/example/sidestep/sidestep/Starts" "listedTo" "I" (.int (0 : Int32)) ∧ Fld Z h o0 "com/example/sidestep/sidestep/Starts" "dense" "Z" (.int (0 : Int32)) ∧ Fld Z h o0 "com/example/sidestep/sidestep/Starts" "marking" "I" (.int (0 : Int32)) ∧ Fld Z h o0 "com/example/sidestep/sidestep/Starts" "sections" "I" (.int (0 : Int32)) ∧ Fld Z h o0 "com/example/sidestep/sidestep/Starts" "handedSections" "I" (.int (0 : Int32)) ∧ ∃ (ow : Addr) (kw : ClassId) (nw : Int32) (vs : List Value), ow ≠ o0 ∧ h0.size ≤ ow ∧ Fld Z h o0 "com/example/sidestep/sidestep/Starts" "patternWords" "[J" (.ref ow) ∧ Arv Z h ow kw .long nw vs (.long (0 : Int64))) 6 43 none T694 (mkF m 66 #[.val (.ref o0), .val (.ref o1), .unset, .unset, .unset] [(.int k695_0), (.ref o0)]) := by
    intro k695_0 hk695_0
    obtain ⟨T697, h697, X697, e697, W697, st697⟩ := putFN X694 hx hZ hown (hw _ (List.mem_of_getElem? (i := 26) rfl)) Via.refl e694 F_exact_666 E_o0_664 (Or.inr ⟨(hw _ (List.mem_of_getElem? (i := 27) rfl)), rfl, hnm⟩) (hw _ (List.mem_of_getElem? (i := 3) rfl)) (ty := .boolean) (v' := (.int (nar .boolean k695_0))) (by decide) rfl (fits_nar_bool _) (g := (mkF m 66 #[.val (.ref o0), .val (.ref o1), .unset, .unset, .unset] [(.int k695_0), (.ref o0)])) rfl rfl (hb hby d1_66)
    have Z0_698 : n0 ≤ h697.size := (Nat.le_trans Z0_662 (Keep.of_wr W697).1)
    have K0_699 : Keep h0 h697 [o0] := (K0_663.wr W697 (Or.inl (List.mem_of_getElem? (i := 0) rfl)))
    have E_o0_700 : Exa Z h697 o0 "com/example/sidestep/sidestep/Starts" := (E_o0_664.wr W697)
    have F_length_701 : Fld Z h697 o0 "com/example/sidestep/sidestep/Starts" "length" "I" (.int (Int32.ofNat nN)) := (F_length_665.other W697 (Or.inr (slot_ne (Or.inr (hw _ (List.mem_of_getElem? (i := 25) rfl))) (Or.inr (hw _ (List.mem_of_getElem? (i := 27) rfl))) (by decide) (t := .int) (t' := .boolean) (by decide) (by decide))))
    have F_exact_702 : Fld Z h697 o0 "com/example/sidestep/sidestep/Starts" "exact" "Z" (.int (nar .boolean k695_0)) := (F_exact_666.same W697)
    have F_lastOffset_703 : Fld Z h697 o0 "com/example/sidestep/sidestep/Starts" "lastOffset" "I" (.int (0 : Int32)) := (F_lastOffset_667.other W697 (Or.inr (slot_ne (Or.inr (hw _ (List.mem_of_getElem? (i := 29) rfl))) (Or.inr (hw _ (List.mem_of_getElem? (i := 27) rfl))) (by decide) (t := .int) (t' := .boolean) (by decide) (by decide))))
    have F_secondOffset_704 : Fld Z h697 o0 "com/example/sidestep/sidestep/Starts" "secondOffset" "I" (.int (0 : Int32)) := (F_secondOffset_668.other W697 (Or.inr (slot_ne (Or.inr (hw _ (List.mem_of_getElem? (i := 35) rfl))) (Or.inr (hw _ (List.mem_of_getElem? (i := 27) rfl))) (by decide) (t := .int) (t' := .boolean) (by decide) (by decide))))
    have F_thirdOffset_705 : Fld Z h697 o0 "com/example/sidestep/sidestep/Starts" "thirdOffset" "I" (.int (0 : Int32)) := (F_thirdOffset_669.other W697 (Or.inr (slot_ne (Or.inr (hw _ (List.mem_of_getElem? (i := 37) rfl))) (Or.inr (hw _ (List.mem_of_getElem? (i := 27) rfl))) (by decide) (t := .int) (t' := .boolean) (by decide) (by decide))))
    have F_penultimateOffset_706 : Fld Z h697 o0 "com/example/sidestep/sidestep/Starts" "penultimateOffset" "I" (.int (0 : Int32)) := (F_penultimateOffset_670.other W697 (Or.inr (slot_ne (Or.inr (hw _ (List.mem_of_getElem? (i := 42) rfl))) (Or.inr (hw _ (List.mem_of_getElem? (i := 27) rfl))) (by decide) (t := .int) (t' := .boolean) (by decide) (by decide))))
    have F_firstBytes_707 : Fld Z h697 o0 "com/example/sidestep/sidestep/Starts" "firstBytes" "J" (.long (0 : Int64)) := (F_firstBytes_671.other W697 (Or.inr (slot_ne (Or.inr (hw _ (List.mem_of_getElem? (i := 49) rfl))) (Or.inr (hw _ (List.mem_of_getElem? (i := 27) rfl))) (by decide) (t := .long) (t' := .boolean) (by decide) (by decide))))
    have F_secondBytes_708 : Fld Z h697 o0 "com/example/sidestep/sidestep/Starts" "secondBytes" "J" (.long (0 : Int64)) := (F_secondBytes_672.other W697 (Or.inr (slot_ne (Or.inr (hw _ (List.mem_of_getElem? (i := 51) rfl))) (Or.inr (hw _ (List.mem_of_getElem? (i := 27) rfl))) (by decide) (t := .long) (t' := .boolean) (by decide) (by decide))))
    have F_thirdBytes_709 : Fld Z h697 o0 "com/example/sidestep/sidestep/Starts" "thirdBytes" "J" (.long (0 : Int64)) := (F_thirdBytes_673.other W697 (Or.inr (slot_ne (Or.inr (hw _ (List.mem_of_getElem? (i := 53) rfl))) (Or.inr (hw _ (List.mem_of_getElem? (i := 27) rfl))) (by decide) (t := .long) (t' := .boolean) (by decide) (by decide))))
    have F_penultimateBytes_710 : Fld Z h697 o0 "com/example/sidestep/sidestep/Starts" "penultimateBytes" "J" (.long (0 : Int64)) := (F_penultimateBytes_674.other W697 (Or.inr (slot_ne (Or.inr (hw _ (List.mem_of_getElem? (i := 55) rfl))) (Or.inr (hw _ (List.mem_of_getElem? (i := 27) rfl))) (by decide) (t := .long) (t' := .boolean) (by decide) (by decide))))
    have F_lastBytes_711 : Fld Z h697 o0 "com/example/sidestep/sidestep/Starts" "lastBytes" "J" (.long (0 : Int64)) := (F_lastBytes_675.other W697 (Or.inr (slot_ne (Or.inr (hw _ (List.mem_of_getElem? (i := 57) rfl))) (Or.inr (hw _ (List.mem_of_getElem? (i := 27) rfl))) (by decide) (t := .long) (t' := .boolean) (by decide) (by decide))))
    have F_patternWords_712 : Fld Z h697 o0 "com/example/sidestep/sidestep/Starts" "patternWords" "[J" .null := (F_patternWords_676.other W697 (Or.inr (slot_ne (Or.inr (hw _ (List.mem_of_getElem? (i := 59) rfl))) (Or.inr (hw _ (List.mem_of_getElem? (i := 27) rfl))) (by decide) (t := (.array .long)) (t' := .boolean) (by decide) (by decide))))
    have F_lastWordOffset_713 : Fld Z h697 o0 "com/example/sidestep/sidestep/Starts" "lastWordOffset" "I" (.int (0 : Int32)) := (F_lastWordOffset_677.other W697 (Or.inr (slot_ne (Or.inr (hw _ (List.mem_of_getElem? (i := 61) rfl))) (Or.inr (hw _ (List.mem_of_getElem? (i := 27) rfl))) (by decide) (t := .int) (t' := .boolean) (by decide) (by decide))))
    have F_lastWordMask_714 : Fld Z h697 o0 "com/example/sidestep/sidestep/Starts" "lastWordMask" "J" (.long (0 : Int64)) := (F_lastWordMask_678.other W697 (Or.inr (slot_ne (Or.inr (hw _ (List.mem_of_getElem? (i := 63) rfl))) (Or.inr (hw _ (List.mem_of_getElem? (i := 27) rfl))) (by decide) (t := .long) (t' := .boolean) (by decide) (by decide))))
    have F_source_715 : Fld Z h697 o0 "com/example/sidestep/sidestep/Starts" "source" "Lcom/example/sidestep/sidestep/Starts$LowBytes;" .null := (F_source_679.other W697 (Or.inr (slot_ne (Or.inl (hw _ (List.mem_of_getElem? (i := 76) rfl))) (Or.inr (hw _ (List.mem_of_getElem? (i := 27) rfl))) (by decide) (t := (.object "com/example/sidestep/sidestep/Starts$LowBytes")) (t' := .boolean) (by decide) (by decide))))
    have F_copiedTo_716 : Fld Z h697 o0 "com/example/sidestep/sidestep/Starts" "copiedTo" "I" (.int (0 : Int32)) := (F_copiedTo_680.other W697 (Or.inr (slot_ne (Or.inl (hw _ (List.mem_of_getElem? (i := 78) rfl))) (Or.inr (hw _ (List.mem_of_getElem? (i := 27) rfl))) (by decide) (t := .int) (t' := .boolean) (by decide) (by decide))))
    have F_lowBytes_717 : Fld Z h697 o0 "com/example/sidestep/sidestep/Starts" "lowBytes" "[B" .null := (F_lowBytes_681.other W697 (Or.inr (slot_ne (Or.inl (hw _ (List.mem_of_getElem? (i := 80) rfl))) (Or.inr (hw _ (List.mem_of_getElem? (i := 27) rfl))) (by decide) (t := (.array .byte)) (t' := .boolean) (by decide) (by decide))))
    have F_to_718 : Fld Z h697 o0 "com/example/sidestep/sidestep/Starts" "to" "I" (.int (0 : Int32)) := (F_to_682.other W697 (Or.inr (slot_ne (Or.inl (hw _ (List.mem_of_getElem? (i := 82) rfl))) (Or.inr (hw _ (List.mem_of_getElem? (i := 27) rfl))) (by decide) (t := .int) (t' := .boolean) (by decide) (by decide))))
    have F_placesEnd_719 : Fld Z h697 o0 "com/example/sidestep/sidestep/Starts" "placesEnd" "I" (.int (0 : Int32)) := (F_placesEnd_683.other W697 (Or.inr (slot_ne (Or.inl (hw _ (List.mem_of_getElem? (i := 84) rfl))) (Or.inr (hw _ (List.mem_of_getElem? (i := 27) rfl))) (by decide) (t := .int) (t' := .boolean) (by decide) (by decide))))
    have F_wholeEnd_720 : Fld Z h697 o0 "com/example/sidestep/sidestep/Starts" "wholeEnd" "I" (.int (0 : Int32)) := (F_wholeEnd_684.other W697 (Or.inr (slot_ne (Or.inl (hw _ (List.mem_of_getElem? (i := 86) rfl))) (Or.inr (hw _ (List.mem_of_getElem? (i := 27) rfl))) (by decide) (t := .int) (t' := .boolean) (by decide) (by decide))))
    have F_decidedEnd_721 : Fld Z h697 o0 "com/example/sidestep/sidestep/Starts" "decidedEnd" "I" (.int (0 : Int32)) := (F_decidedEnd_685.other W697 (Or.inr (slot_ne (Or.inl (hw _ (List.mem_of_getElem? (i := 88) rfl))) (Or.inr (hw _ (List.mem_of_getElem? (i := 27) rfl))) (by decide) (t := .int) (t' := .boolean) (by decide) (by decide))))
    have F_placed_722 : Fld Z h697 o0 "com/example/sidestep/sidestep/Starts" "placed" "I" (.int (0 : Int32)) := (F_placed_686.other W697 (Or.inr (slot_ne (Or.inl (hw _ (List.mem_of_getElem? (i := 90) rfl))) (Or.inr (hw _ (List.mem_of_getElem? (i := 27) rfl))) (by decide) (t := .int) (t' := .boolean) (by decide) (by decide))))
    have F_taken_723 : Fld Z h697 o0 "com/example/sidestep/sidestep/Starts" "taken" "I" (.int (0 : Int32)) := (F_taken_687.other W697 (Or.inr (slot_ne (Or.inl (hw _ (List.mem_of_getElem? (i := 92) rfl))) (Or.inr (hw _ (List.mem_of_getElem? (i := 27) rfl))) (by decide) (t := .int) (t' := .boolean) (by decide) (by decide))))
    have F_listedTo_724 : Fld Z h697 o0 "com/example/sidestep/sidestep/Starts" "listedTo" "I" (.int (0 : Int32)) := (F_listedTo_688.other W697 (Or.inr (slot_ne (Or.inl (hw _ (List.mem_of_getElem? (i := 94) rfl))) (Or.inr (hw _ (List.mem_of_getElem? (i := 27) rfl))) (by decide) (t := .int) (t' := .boolean) (by decide) (by decide))))
    have F_dense_725 : Fld Z h697 o0 "com/example/sidestep/sidestep/Starts" "dense" "Z" (.int (0 : Int32)) := (F_dense_689.other W697 (Or.inr (slot_ne (Or.inl (hw _ (List.mem_of_getElem? (i := 96) rfl))) (Or.inr (hw _ (List.mem_of_getElem? (i := 27) rfl))) (by decide) (t := .boolean) (t' := .boolean) (by decide) (by decide))))
    have F_marking_726 : Fld Z h697 o0 "com/example/sidestep/sidestep/Starts" "marking" "I" (.int (0 : Int32)) := (F_marking_690.other W697 (Or.inr (slot_ne (Or.inl (hw _ (List.mem_of_getElem? (i := 102) rfl))) (Or.inr (hw _ (List.mem_of_getElem? (i := 27) rfl))) (by decide) (t := .int) (t' := .boolean) (by decide) (by decide))))
    have F_sections_727 : Fld Z h697 o0 "com/example/sidestep/sidestep/Starts" "sections" "I" (.int (0 : Int32)) := (F_sections_691.other W697 (Or.inr (slot_ne (Or.inl (hw _ (List.mem_of_getElem? (i := 104) rfl))) (Or.inr (hw _ (List.mem_of_getElem? (i := 27) rfl))) (by decide) (t := .int) (t' := .boolean) (by decide) (by decide))))
    have F_handedSections_728 : Fld Z h697 o0 "com/example/sidestep/sidestep/Starts" "handedSections" "I" (.int (0 : Int32)) := (F_handedSections_692.other W697 (Or.inr (slot_ne (Or.inl (hw _ (List.mem_of_getElem? (i := 106) rfl))) (Or.inr (hw _ (List.mem_of_getElem? (i := 27) rfl))) (by decide) (t := .int) (t' := .boolean) (by decide) (by decide))))
    have V1_729 : Arv Z h697 o1 ku .int (Int32.ofNat nN) (us.map Value.int) (.int (0 : Int32)) := (V1_693.other W697 hne)
    have N697 := Fr.snoc X697 N661 gn_o0
    refine Got.step st697 ?_
    show Got p e below s _ _ _ _ T697 (mkF m 69 #[.val (.ref o0), .val (.ref o1), .unset, .unset, .unset] [])
    refine Got.step (T' := T697) (g' := (mkF m 71 #[.val (.ref o0), .val (.ref o1), .unset, .unset, .unset] [(.ref o0), (.ref o0)])) (fun tq kt => ?_) ?_
    · show Steps p.tables e below (T697.setTop (mkF m 69 #[.val (.ref o0), .val (.ref o1), .unset, .unset, .unset] [])) _
      refine XS.aloadN X697.here hx rfl (hb hby d1_69) rfl rfl ?_
      show Steps p.tables e below (T697.setTop (mkF m 70 #[.val (.ref o0), .val (.ref o1), .unset, .unset, .unset] [(.ref o0)])) _
      refine XS.aloadN X697.here hx rfl (hb hby d1_70) rfl rfl ?_
      exact kt
    obtain ⟨T730, X730, e730, st730⟩ := getF X697 hx hZ hown (host := "") (Or.inl (hw _ (List.mem_of_getElem? (i := 24) rfl))) Via.refl e697 F_length_701 (g := (mkF m 71 #[.val (.ref o0), .val (.ref o1), .unset, .unset, .unset] [(.ref o0), (.ref o0)])) rfl rfl (hb hby d1_71)
    refine Got.step st730 ?_
    show Got p e below s _ _ _ _ T730 (mkF m 74 #[.val (.ref o0), .val (.ref o1), .unset, .unset, .unset] [(.int (Int32.ofNat nN)), (.ref o0)])
    refine Got.step (T' := T730) (g' := (mkF m 76 #[.val (.ref o0), .val (.ref o1), .unset, .unset, .unset] [(.int ((Int32.ofNat nN) - (1 : Int32))), (.ref o0)])) (fun tq kt => ?_) ?_
    · show Steps p.tables e below (T730.setTop (mkF m 74 #[.val (.ref o0), .val (.ref o1), .unset, .unset, .unset] [(.int (Int32.ofNat nN)), (.ref o0)])) _
      refine XS.iconst X730.here hx rfl (hb hby d1_74) ?_
      show Steps p.tables e below (T730.setTop (mkF m 75 #[.val (.ref o0), .val (.ref o1), .unset, .unset, .unset] [(.int (1 : Int32)), (.int (Int32.ofNat nN)), (.ref o0)])) _
      refine XS.isub X730.here hx rfl (hb hby d1_75) rfl ?_
      exact kt
    obtain ⟨T731, h731, X731, e731, W731, st731⟩ := putF X730 hx hZ hown (host := "") (Or.inl (hw _ (List.mem_of_getElem? (i := 28) rfl))) Via.refl e730 F_lastOffset_703 E_o0_700 (Or.inr ⟨(hw _ (List.mem_of_getElem? (i := 29) rfl)), rfl, hnm⟩) (hw _ (List.mem_of_getElem? (i := 3) rfl)) (ty := .int) (by decide) rfl rfl (g := (mkF m 76 #[.val (.ref o0), .val (.ref o1), .unset, .unset, .unset] [(.int ((Int32.ofNat nN) - (1 : Int32))), (.ref o0)])) rfl rfl (hb hby d1_76)
    have Z0_732 : n0 ≤ h731.size := (Nat.le_trans Z0_698 (Keep.of_wr W731).1)
    have K0_733 : Keep h0 h731 [o0] := (K0_699.wr W731 (Or.inl (List.mem_of_getElem? (i := 0) rfl)))
    have E_o0_734 : Exa Z h731 o0 "com/example/sidestep/sidestep/Starts" := (E_o0_700.wr W731)
    have F_length_735 : Fld Z h731 o0 "com/example/sidestep/sidestep/Starts" "length" "I" (.int (Int32.ofNat nN)) := (F_length_701.other W731 (Or.inr (slot_ne (Or.inr (hw _ (List.mem_of_getElem? (i := 25) rfl))) (Or.inr (hw _ (List.mem_of_getElem? (i := 29) rfl))) (by decide) (t := .int) (t' := .int) (by decide) (by decide))))
    have F_lastOffset_736 : Fld Z h731 o0 "com/example/sidestep/sidestep/Starts" "lastOffset" "I" (.int ((Int32.ofNat nN) - (1 : Int32))) := (F_lastOffset_703.same W731)
    have F_secondOffset_737 : Fld Z h731 o0 "com/example/sidestep/sidestep/Starts" "secondOffset" "I" (.int (0 : Int32)) := (F_secondOffset_704.other W731 (Or.inr (slot_ne (Or.inr (hw _ (List.mem_of_getElem? (i := 35) rfl))) (Or.inr (hw _ (List.mem_of_getElem? (i := 29) rfl))) (by decide) (t := .int) (t' := .int) (by decide) (by decide))))
    have F_thirdOffset_738 : Fld Z h731 o0 "com/example/sidestep/sidestep/Starts" "thirdOffset" "I" (.int (0 : Int32)) := (F_thirdOffset_705.other W731 (Or.inr (slot_ne (Or.inr (hw _ (List.mem_of_getElem? (i := 37) rfl))) (Or.inr (hw _ (List.mem_of_getElem? (i := 29) rfl))) (by decide) (t := .int) (t' := .int) (by decide) (by decide))))
    have F_penultimateOffset_739 : Fld Z h731 o0 "com/example/sidestep/sidestep/Starts" "penultimateOffset" "I" (.int (0 : Int32)) := (F_penultimateOffset_706.other W731 (Or.inr (slot_ne (Or.inr (hw _ (List.mem_of_getElem? (i := 42) rfl))) (Or.inr (hw _ (List.mem_of_getElem? (i := 29) rfl))) (by decide) (t := .int) (t' := .int) (by decide) (by decide))))
    have F_firstBytes_740 : Fld Z h731 o0 "com/example/sidestep/sidestep/Starts" "firstBytes" "J" (.long (0 : Int64)) := (F_firstBytes_707.other W731 (Or.inr (slot_ne (Or.inr (hw _ (List.mem_of_getElem? (i := 49) rfl))) (Or.inr (hw _ (List.mem_of_getElem? (i := 29) rfl))) (by decide) (t := .long) (t' := .int) (by decide) (by decide))))
    have F_secondBytes_741 : Fld Z h731 o0 "com/example/sidestep/sidestep/Starts" "secondBytes" "J" (.long (0 : Int64)) := (F_secondBytes_708.other W731 (Or.inr (slot_ne (Or.inr (hw _ (List.mem_of_getElem? (i := 51) rfl))) (Or.inr (hw _ (List.mem_of_getElem? (i := 29) rfl))) (by decide) (t := .long) (t' := .int) (by decide) (by decide))))
    have F_thirdBytes_742 : Fld Z h731 o0 "com/example/sidestep/sidestep/Starts" "thirdBytes" "J" (.long (0 : Int64)) := (F_thirdBytes_709.other W731 (Or.inr (slot_ne (Or.inr (hw _ (List.mem_of_getElem? (i := 53) rfl))) (Or.inr (hw _ (List.mem_of_getElem? (i := 29) rfl))) (by decide) (t := .long) (t' := .int) (by decide) (by decide))))
    have F_penultimateBytes_743 : Fld Z h731 o0 "com/example/sidestep/sidestep/Starts" "penultimateBytes" "J" (.long (0 : Int64)) := (F_penultimateBytes_710.other W731 (Or.inr (slot_ne (Or.inr (hw _ (List.mem_of_getElem? (i := 55) rfl))) (Or.inr (hw _ (List.mem_of_getElem? (i := 29) rfl))) (by decide) (t := .long) (t' := .int) (by decide) (by decide))))
    have F_lastBytes_744 : Fld Z h731 o0 "com/example/sidestep/sidestep/Starts" "lastBytes" "J" (.long (0 : Int64)) := (F_lastBytes_711.other W731 (Or.inr (slot_ne (Or.inr (hw _ (List.mem_of_getElem? (i := 57) rfl))) (Or.inr (hw _ (List.mem_of_getElem? (i := 29) rfl))) (by decide) (t := .long) (t' := .int) (by decide) (by decide))))
    have F_patternWords_745 : Fld Z h731 o0 "com/example/sidestep/sidestep/Starts" "patternWords" "[J" .null := (F_patternWords_712.other W731 (Or.inr (slot_ne (Or.inr (hw _ (List.mem_of_getElem? (i := 59) rfl))) (Or.inr (hw _ (List.mem_of_getElem? (i := 29) rfl))) (by decide) (t := (.array .long)) (t' := .int) (by decide) (by decide))))
    have F_lastWordOffset_746 : Fld Z h731 o0 "com/example/sidestep/sidestep/Starts" "lastWordOffset" "I" (.int (0 : Int32)) := (F_lastWordOffset_713.other W731 (Or.inr (slot_ne (Or.inr (hw _ (List.mem_of_getElem? (i := 61) rfl))) (Or.inr (hw _ (List.mem_of_getElem? (i := 29) rfl))) (by decide) (t := .int) (t' := .int) (by decide) (by decide))))
    have F_lastWordMask_747 : Fld Z h731 o0 "com/example/sidestep/sidestep/Starts" "lastWordMask" "J" (.long (0 : Int64)) := (F_lastWordMask_714.other W731 (Or.inr (slot_ne (Or.inr (hw _ (List.mem_of_getElem? (i := 63) rfl))) (Or.inr (hw _ (List.mem_of_getElem? (i := 29) rfl))) (by decide) (t := .long) (t' := .int) (by decide) (by decide))))
    have F_source_748 : Fld Z h731 o0 "com/example/sidestep/sidestep/Starts" "source" "Lcom/example/sidestep/sidestep/Starts$LowBytes;" .null := (F_source_715.other W731 (Or.inr (slot_ne (Or.inl (hw _ (List.mem_of_getElem? (i := 76) rfl))) (Or.inr (hw _ (List.mem_of_getElem? (i := 29) rfl))) (by decide) (t := (.object "com/example/sidestep/sidestep/Starts$LowBytes")) (t' := .int) (by decide) (by decide))))
    have F_copiedTo_749 : Fld Z h731 o0 "com/example/sidestep/sidestep/Starts" "copiedTo" "I" (.int (0 : Int32)) := (F_copiedTo_716.other W731 (Or.inr (slot_ne (Or.inl (hw _ (List.mem_of_getElem? (i := 78) rfl))) (Or.inr (hw _ (List.mem_of_getElem? (i := 29) rfl))) (by decide) (t := .int) (t' := .int) (by decide) (by decide))))
    have F_lowBytes_750 : Fld Z h731 o0 "com/example/sidestep/sidestep/Starts" "lowBytes" "[B" .null := (F_lowBytes_717.other W731 (Or.inr (slot_ne (Or.inl (hw _ (List.mem_of_getElem? (i := 80) rfl))) (Or.inr (hw _ (List.mem_of_getElem? (i := 29) rfl))) (by decide) (t := (.array .byte)) (t' := .int) (by decide) (by decide))))
    have F_to_751 : Fld Z h731 o0 "com/example/sidestep/sidestep/Starts" "to" "I" (.int (0 : Int32)) := (F_to_718.other W731 (Or.inr (slot_ne (Or.inl (hw _ (List.mem_of_getElem? (i := 82) rfl))) (Or.inr (hw _ (List.mem_of_getElem? (i := 29) rfl))) (by decide) (t := .int) (t' := .int) (by decide) (by decide))))
    have F_placesEnd_752 : Fld Z h731 o0 "com/example/sidestep/sidestep/Starts" "placesEnd" "I" (.int (0 : Int32)) := (F_placesEnd_719.other W731 (Or.inr (slot_ne (Or.inl (hw _ (List.mem_of_getElem? (i := 84) rfl))) (Or.inr (hw _ (List.mem_of_getElem? (i := 29) rfl))) (by decide) (t := .int) (t' := .int) (by decide) (by decide))))
    have F_wholeEnd_753 : Fld Z h731 o0 "com/example/sidestep/sidestep/Starts" "wholeEnd" "I" (.int (0 : Int32)) := (F_wholeEnd_720.other W731 (Or.inr (slot_ne (Or.inl (hw _ (List.mem_of_getElem? (i := 86) rfl))) (Or.inr (hw _ (List.mem_of_getElem? (i := 29) rfl))) (by decide) (t := .int) (t' := .int) (by decide) (by decide))))
    have F_decidedEnd_754 : Fld Z h731 o0 "com/example/sidestep/sidestep/Starts" "decidedEnd" "I" (.int (0 : Int32)) := (F_decidedEnd_721.other W731 (Or.inr (slot_ne (Or.inl (hw _ (List.mem_of_getElem? (i := 88) rfl))) (Or.inr (hw _ (List.mem_of_getElem? (i := 29) rfl))) (by decide) (t := .int) (t' := .int) (by decide) (by decide))))
    have F_placed_755 : Fld Z h731 o0 "com/example/sidestep/sidestep/Starts" "placed" "I" (.int (0 : Int32)) := (F_placed_722.other W731 (Or.inr (slot_ne (Or.inl (hw _ (List.mem_of_getElem? (i := 90) rfl))) (Or.inr (hw _ (List.mem_of_getElem? (i := 29) rfl))) (by decide) (t := .int) (t' := .int) (by decide) (by decide))))
    have F_taken_756 : Fld Z h731 o0 "com/example/sidestep/sidestep/Starts" "taken" "I" (.int (0 : Int32)) := (F_taken_723.other W731 (Or.inr (slot_ne (Or.inl (hw _ (List.mem_of_getElem? (i := 92) rfl))) (Or.inr (hw _ (List.mem_of_getElem? (i := 29) rfl))) (by decide) (t := .int) (t' := .int) (by decide) (by decide))))
    have F_listedTo_757 : Fld Z h731 o0 "com/example/sidestep/sidestep/Starts" "listedTo" "I" (.int (0 : Int32)) := (F_listedTo_724.other W731 (Or.inr (slot_ne (Or.inl (hw _ (List.mem_of_getElem? (i := 94) rfl))) (Or.inr (hw _ (List.mem_of_getElem? (i := 29) rfl))) (by decide) (t := .int) (t' := .int) (by decide) (by decide))))
    have F_dense_758 : Fld Z h731 o0 "com/example/sidestep/sidestep/Starts" "dense" "Z" (.int (0 : Int32)) := (F_dense_725.other W731 (Or.inr (slot_ne (Or.inl (hw _ (List.mem_of_getElem? (i := 96) rfl))) (Or.inr (hw _ (List.mem_of_getElem? (i := 29) rfl))) (by decide) (t := .boolean) (t' := .int) (by decide) (by decide))))
    have F_marking_759 : Fld Z h731 o0 "com/example/sidestep/sidestep/Starts" "marking" "I" (.int (0 : Int32)) := (F_marking_726.other W731 (Or.inr (slot_ne (Or.inl (hw _ (List.mem_of_getElem? (i := 102) rfl))) (Or.inr (hw _ (List.mem_of_getElem? (i := 29) rfl))) (by decide) (t := .int) (t' := .int) (by decide) (by decide))))
    have F_sections_760 : Fld Z h731 o0 "com/example/sidestep/sidestep/Starts" "sections" "I" (.int (0 : Int32)) := (F_sections_727.other W731 (Or.inr (slot_ne (Or.inl (hw _ (List.mem_of_getElem? (i := 104) rfl))) (Or.inr (hw _ (List.mem_of_getElem? (i := 29) rfl))) (by decide) (t := .int) (t' := .int) (by decide) (by decide))))
    have F_handedSections_761 : Fld Z h731 o0 "com/example/sidestep/sidestep/Starts" "handedSections" "I" (.int (0 : Int32)) := (F_handedSections_728.other W731 (Or.inr (slot_ne (Or.inl (hw _ (List.mem_of_getElem? (i := 106) rfl))) (Or.inr (hw _ (List.mem_of_getElem? (i := 29) rfl))) (by decide) (t := .int) (t' := .int) (by decide) (by decide))))
    have V1_762 : Arv Z h731 o1 ku .int (Int32.ofNat nN) (us.map Value.int) (.int (0 : Int32)) := (V1_729.other W731 hne)
    have N731 := Fr.snoc X731 N697 gn_o0
    refine Got.step st731 ?_
    show Got p e below s _ _ _ _ T731 (mkF m 79 #[.val (.ref o0), .val (.ref o1), .unset, .unset, .unset] [])
    refine Got.step (T' := T731) (g' := (mkF m 82 #[.val (.ref o0), .val (.ref o1), .unset, .unset, .unset] [(.ref o0), (.int (1 : Int32)), (.ref o0)])) (fun tq kt => ?_) ?_
    · show Steps p.tables e below (T731.setTop (mkF m 79 #[.val (.ref o0), .val (.ref o1), .unset, .unset, .unset] [])) _
      refine XS.aloadN X731.here hx rfl (hb hby d1_79) rfl rfl ?_
      show Steps p.tables e below (T731.setTop (mkF m 80 #[.val (.ref o0), .val (.ref o1), .unset, .unset, .unset] [(.ref o0)])) _
      refine XS.iconst X731.here hx rfl (hb hby d1_80) ?_
      show Steps p.tables e below (T731.setTop (mkF m 81 #[.val (.ref o0), .val (.ref o1), .unset, .unset, .unset] [(.int (1 : Int32)), (.ref o0)])) _
      refine XS.aloadN X731.here hx rfl (hb hby d1_81) rfl rfl ?_
      exact kt
    obtain ⟨T763, X763, e763, st763⟩ := getF X731 hx hZ hown (host := "") (Or.inl (hw _ (List.mem_of_getElem? (i := 28) rfl))) Via.refl e731 F_lastOffset_736 (g := (mkF m 82 #[.val (.ref o0), .val (.ref o1), .unset, .unset, .unset] [(.ref o0), (.int (1 : Int32)), (.ref o0)])) rfl rfl (hb hby d1_82)
    refine Got.step st763 ?_
    show Got p e below s _ _ _ _ T763 (mkF m 85 #[.val (.ref o0), .val (.ref o1), .unset, .unset, .unset] [(.int ((Int32.ofNat nN) - (1 : Int32))), (.int (1 : Int32)), (.ref o0)])
    obtain ⟨_, _, ⟨T764, L764, k764, n764⟩, -, X764, ⟨Lc764, hQ764, l764, y764, z764⟩, st764⟩ := Jvm.LawKit.callS X763 hx (y := (⟨"java/lang/Math", "min", "(II)I"⟩ : MethodName)) hown (mvT hZ (hw _ (List.mem_of_getElem? (i := 30) rfl))) (mvT hZ (hw _ (List.mem_of_getElem? (i := 31) rfl))) (mvT hZ (hw _ (List.mem_of_getElem? (i := 32) rfl))) (mvT hZ (hw _ (List.mem_of_getElem? (i := 33) rfl))) (by decide) (backOf (W := 1) (rm3 l Z a0 hw [] (1 : Int32) ((Int32.ofNat nN) - (1 : Int32)) h731 n0 Z0_732) hZ (hw _ (List.mem_of_getElem? (i := 33) rfl)) (hw _ (List.mem_of_getElem? (i := 32) rfl)) (by decide) (by decide)) (g := (mkF m 85 #[.val (.ref o0), .val (.ref o1), .unset, .unset, .unset] [(.int ((Int32.ofNat nN) - (1 : Int32))), (.int (1 : Int32)), (.ref o0)])) rfl (by rw [hml]; rfl) (argsL := [(.int (1 : Int32)), (.int ((Int32.ofNat nN) - (1 : Int32)))]) (rest := [(.ref o0)]) (lenOf pd_0 rfl) rfl (by show 2 * 0 + _ ≤ _; exact Nat.le_of_eq rfl) (hb hby d1_85) (fun _ _ => ⟨rfl, e763, (by decide : 5 + 0 ≤ _), (by decide : 41 + 0 ≤ _)⟩)
    dsimp only [Pt.U, Pt.locs, Pt.cells, Pt.slots] at X764 l764 y764 z764 st764 hQ764
    subst y764 z764
    obtain ⟨rfl, Nq764, e764⟩ := hQ764
    have N764 : Fr n0 L764 := by rw [l764]; exact Fr.app N731 Nq764
    refine Got.step st764 ?_
    show Got p e below s _ _ _ _ T764 (mkF m 88 #[.val (.ref o0), .val (.ref o1), .unset, .unset, .unset] [(.int (f3 (1 : Int32) ((Int32.ofNat nN) - (1 : Int32)))), (.ref o0)])
    obtain ⟨T765, h765, X765, e765, W765, st765⟩ := putF X764 hx hZ hown (host := "") (Or.inl (hw _ (List.mem_of_getElem? (i := 34) rfl))) Via.refl e764 F_secondOffset_737 E_o0_734 (Or.inr ⟨(hw _ (List.mem_of_getElem? (i := 35) rfl)), rfl, hnm⟩) (hw _ (List.mem_of_getElem? (i := 3) rfl)) (ty := .int) (by decide) rfl rfl (g := (mkF m 88 #[.val (.ref o0), .val (.ref o1), .unset, .unset, .unset] [(.int (f3 (1 : Int32) ((Int32.ofNat nN) - (1 : Int32)))), (.ref o0)])) rfl rfl (hb hby d1_88)
    have Z0_766 : n0 ≤ h765.size := (Nat.le_trans Z0_732 (Keep.of_wr W765).1)
    have K0_767 : Keep h0 h765 [o0] := (K0_733.wr W765 (Or.inl (List.mem_of_getElem? (i := 0) rfl)))
    have E_o0_768 : Exa Z h765 o0 "com/example/sidestep/sidestep/Starts" := (E_o0_734.wr W765)
    have F_length_769 : Fld Z h765 o0 "com/example/sidestep/sidestep/Starts" "length" "I" (.int (Int32.ofNat nN)) := (F_length_735.other W765 (Or.inr (slot_ne (Or.inr (hw _ (List.mem_of_getElem? (i := 25) rfl))) (Or.inr (hw _ (List.mem_of_getElem? (i := 35) rfl))) (by decide) (t := .int) (t' := .int) (by decide) (by decide))))
    have F_lastOffset_770 : Fld Z h765 o0 "com/example/sidestep/sidestep/Starts" "lastOffset" "I" (.int ((Int32.ofNat nN) - (1 : Int32))) := (F_lastOffset_736.other W765 (Or.inr (slot_ne (Or.inr (hw _ (List.mem_of_getElem? (i := 29) rfl))) (Or.inr (hw _ (List.mem_of_getElem? (i := 35) rfl))) (by decide) (t := .int) (t' := .int) (by decide) (by decide))))
    have F_secondOffset_771 : Fld Z h765 o0 "com/example/sidestep/sidestep/Starts" "secondOffset" "I" (.int (f3 (1 : Int32) ((Int32.ofNat nN) - (1 : Int32)))) := (F_secondOffset_737.same W765)
    have F_thirdOffset_772 : Fld Z h765 o0 "com/example/sidestep/sidestep/Starts" "thirdOffset" "I" (.int (0 : Int32)) := (F_thirdOffset_738.other W765 (Or.inr (slot_ne (Or.inr (hw _ (List.mem_of_getElem? (i := 37) rfl))) (Or.inr (hw _ (List.mem_of_getElem? (i := 35) rfl))) (by decide) (t := .int) (t' := .int) (by decide) (by decide))))
    have F_penultimateOffset_773 : Fld Z h765 o0 "com/example/sidestep/sidestep/Starts" "penultimateOffset" "I" (.int (0 : Int32)) := (F_penultimateOffset_739.other W765 (Or.inr (slot_ne (Or.inr (hw _ (List.mem_of_getElem? (i := 42) rfl))) (Or.inr (hw _ (List.mem_of_getElem? (i := 35) rfl))) (by decide) (t := .int) (t' := .int) (by decide) (by decide))))
    have F_firstBytes_774 : Fld Z h765 o0 "com/example/sidestep/sidestep/Starts" "firstBytes" "J" (.long (0 : Int64)) := (F_firstBytes_740.other W765 (Or.inr (slot_ne (Or.inr (hw _ (List.mem_of_getElem? (i := 49) rfl))) (Or.inr (hw _ (List.mem_of_getElem? (i := 35) rfl))) (by decide) (t := .long) (t' := .int) (by decide) (by decide))))
    have F_secondBytes_775 : Fld Z h765 o0 "com/example/sidestep/sidestep/Starts" "secondBytes" "J" (.long (0 : Int64)) := (F_secondBytes_741.other W765 (Or.inr (slot_ne (Or.inr (hw _ (List.mem_of_getElem? (i := 51) rfl))) (Or.inr (hw _ (List.mem_of_getElem? (i := 35) rfl))) (by decide) (t := .long) (t' := .int) (by decide) (by decide))))
    have F_thirdBytes_776 : Fld Z h765 o0 "com/example/sidestep/sidestep/Starts" "thirdBytes" "J" (.long (0 : Int64)) := (F_thirdBytes_742.other W765 (Or.inr (slot_ne (Or.inr (hw _ (List.mem_of_getElem? (i := 53) rfl))) (Or.inr (hw _ (List.mem_of_getElem? (i := 35) rfl))) (by decide) (t := .long) (t' := .int) (by decide) (by decide))))
    have F_penultimateBytes_777 : Fld Z h765 o0 "com/example/sidestep/sidestep/Starts" "penultimateBytes" "J" (.long (0 : Int64)) := (F_penultimateBytes_743.other W765 (Or.inr (slot_ne (Or.inr (hw _ (List.mem_of_getElem? (i := 55) rfl))) (Or.inr (hw _ (List.mem_of_getElem? (i := 35) rfl))) (by decide) (t := .long) (t' := .int) (by decide) (by decide))))
    have F_lastBytes_778 : Fld Z h765 o0 "com/example/sidestep/sidestep/Starts" "lastBytes" "J" (.long (0 : Int64)) := (F_lastBytes_744.other W765 (Or.inr (slot_ne (Or.inr (hw _ (List.mem_of_getElem? (i := 57) rfl))) (Or.inr (hw _ (List.mem_of_getElem? (i := 35) rfl))) (by decide) (t := .long) (t' := .int) (by decide) (by decide))))
    have F_patternWords_779 : Fld Z h765 o0 "com/example/sidestep/sidestep/Starts" "patternWords" "[J" .null := (F_patternWords_745.other W765 (Or.inr (slot_ne (Or.inr (hw _ (List.mem_of_getElem? (i := 59) rfl))) (Or.inr (hw _ (List.mem_of_getElem? (i := 35) rfl))) (by decide) (t := (.array .long)) (t' := .int) (by decide) (by decide))))
    have F_lastWordOffset_780 : Fld Z h765 o0 "com/example/sidestep/sidestep/Starts" "lastWordOffset" "I" (.int (0 : Int32)) := (F_lastWordOffset_746.other W765 (Or.inr (slot_ne (Or.inr (hw _ (List.mem_of_getElem? (i := 61) rfl))) (Or.inr (hw _ (List.mem_of_getElem? (i := 35) rfl))) (by decide) (t := .int) (t' := .int) (by decide) (by decide))))
    have F_lastWordMask_781 : Fld Z h765 o0 "com/example/sidestep/sidestep/Starts" "lastWordMask" "J" (.long (0 : Int64)) := (F_lastWordMask_747.other W765 (Or.inr (slot_ne (Or.inr (hw _ (List.mem_of_getElem? (i := 63) rfl))) (Or.inr (hw _ (List.mem_of_getElem? (i := 35) rfl))) (by decide) (t := .long) (t' := .int) (by decide) (by decide))))
    have F_source_782 : Fld Z h765 o0 "com/example/sidestep/sidestep/Starts" "source" "Lcom/example/sidestep/sidestep/Starts$LowBytes;" .null := (F_source_748.other W765 (Or.inr (slot_ne (Or.inl (hw _ (List.mem_of_getElem? (i := 76) rfl))) (Or.inr (hw _ (List.mem_of_getElem? (i := 35) rfl))) (by decide) (t := (.object "com/example/sidestep/sidestep/Starts$LowBytes")) (t' := .int) (by decide) (by decide))))
    have F_copiedTo_783 : Fld Z h765 o0 "com/example/sidestep/sidestep/Starts" "copiedTo" "I" (.int (0 : Int32)) := (F_copiedTo_749.other W765 (Or.inr (slot_ne (Or.inl (hw _ (List.mem_of_getElem? (i := 78) rfl))) (Or.inr (hw _ (List.mem_of_getElem? (i := 35) rfl))) (by decide) (t := .int) (t' := .int) (by decide) (by decide))))
    have F_lowBytes_784 : Fld Z h765 o0 "com/example/sidestep/sidestep/Starts" "lowBytes" "[B" .null := (F_lowBytes_750.other W765 (Or.inr (slot_ne (Or.inl (hw _ (List.mem_of_getElem? (i := 80) rfl))) (Or.inr (hw _ (List.mem_of_getElem? (i := 35) rfl))) (by decide) (t := (.array .byte)) (t' := .int) (by decide) (by decide))))
    have F_to_785 : Fld Z h765 o0 "com/example/sidestep/sidestep/Starts" "to" "I" (.int (0 : Int32)) := (F_to_751.other W765 (Or.inr (slot_ne (Or.inl (hw _ (List.mem_of_getElem? (i := 82) rfl))) (Or.inr (hw _ (List.mem_of_getElem? (i := 35) rfl))) (by decide) (t := .int) (t' := .int) (by decide) (by decide))))
    have F_placesEnd_786 : Fld Z h765 o0 "com/example/sidestep/sidestep/Starts" "placesEnd" "I" (.int (0 : Int32)) := (F_placesEnd_752.other W765 (Or.inr (slot_ne (Or.inl (hw _ (List.mem_of_getElem? (i := 84) rfl))) (Or.inr (hw _ (List.mem_of_getElem? (i := 35) rfl))) (by decide) (t := .int) (t' := .int) (by decide) (by decide))))
    have F_wholeEnd_787 : Fld Z h765 o0 "com/example/sidestep/sidestep/Starts" "wholeEnd" "I" (.int (0 : Int32)) := (F_wholeEnd_753.other W765 (Or.inr (slot_ne (Or.inl (hw _ (List.mem_of_getElem? (i := 86) rfl))) (Or.inr (hw _ (List.mem_of_getElem? (i := 35) rfl))) (by decide) (t := .int) (t' := .int) (by decide) (by decide))))
    have F_decidedEnd_788 : Fld Z h765 o0 "com/example/sidestep/sidestep/Starts" "decidedEnd" "I" (.int (0 : Int32)) := (F_decidedEnd_754.other W765 (Or.inr (slot_ne (Or.inl (hw _ (List.mem_of_getElem? (i := 88) rfl))) (Or.inr (hw _ (List.mem_of_getElem? (i := 35) rfl))) (by decide) (t := .int) (t' := .int) (by decide) (by decide))))
    have F_placed_789 : Fld Z h765 o0 "com/example/sidestep/sidestep/Starts" "placed" "I" (.int (0 : Int32)) := (F_placed_755.other W765 (Or.inr (slot_ne (Or.inl (hw _ (List.mem_of_getElem? (i := 90) rfl))) (Or.inr (hw _ (List.mem_of_getElem? (i := 35) rfl))) (by decide) (t := .int) (t' := .int) (by decide) (by decide))))
    have F_taken_790 : Fld Z h765 o0 "com/example/sidestep/sidestep/Starts" "taken" "I" (.int (0 : Int32)) := (F_taken_756.other W765 (Or.inr (slot_ne (Or.inl (hw _ (List.mem_of_getElem? (i := 92) rfl))) (Or.inr (hw _ (List.mem_of_getElem? (i := 35) rfl))) (by decide) (t := .int) (t' := .int) (by decide) (by decide))))
    have F_listedTo_791 : Fld Z h765 o0 "com/example/sidestep/sidestep/Starts" "listedTo" "I" (.int (0 : Int32)) := (F_listedTo_757.other W765 (Or.inr (slot_ne (Or.inl (hw _ (List.mem_of_getElem? (i := 94) rfl))) (Or.inr (hw _ (List.mem_of_getElem? (i := 35) rfl))) (by decide) (t := .int) (t' := .int) (by decide) (by decide))))
    have F_dense_792 : Fld Z h765 o0 "com/example/sidestep/sidestep/Starts" "dense" "Z" (.int (0 : Int32)) := (F_dense_758.other W765 (Or.inr (slot_ne (Or.inl (hw _ (List.mem_of_getElem? (i := 96) rfl))) (Or.inr (hw _ (List.mem_of_getElem? (i := 35) rfl))) (by decide) (t := .boolean) (t' := .int) (by decide) (by decide))))
    have F_marking_793 : Fld Z h765 o0 "com/example/sidestep/sidestep/Starts" "marking" "I" (.int (0 : Int32)) := (F_marking_759.other W765 (Or.inr (slot_ne (Or.inl (hw _ (List.mem_of_getElem? (i := 102) rfl))) (Or.inr (hw _ (List.mem_of_getElem? (i := 35) rfl))) (by decide) (t := .int) (t' := .int) (by decide) (by decide))))
    have F_sections_794 : Fld Z h765 o0 "com/example/sidestep/sidestep/Starts" "sections" "I" (.int (0 : Int32)) := (F_sections_760.other W765 (Or.inr (slot_ne (Or.inl (hw _ (List.mem_of_getElem? (i := 104) rfl))) (Or.inr (hw _ (List.mem_of_getElem? (i := 35) rfl))) (by decide) (t := .int) (t' := .int) (by decide) (by decide))))
    have F_handedSections_795 : Fld Z h765 o0 "com/example/sidestep/sidestep/Starts" "handedSections" "I" (.int (0 : Int32)) := (F_handedSections_761.other W765 (Or.inr (slot_ne (Or.inl (hw _ (List.mem_of_getElem? (i := 106) rfl))) (Or.inr (hw _ (List.mem_of_getElem? (i := 35) rfl))) (by decide) (t := .int) (t' := .int) (by decide) (by decide))))
    have V1_796 : Arv Z h765 o1 ku .int (Int32.ofNat nN) (us.map Value.int) (.int (0 : Int32)) := (V1_762.other W765 hne)
    have N765 := Fr.snoc X765 N764 gn_o0
    refine Got.step st765 ?_
    show Got p e below s _ _ _ _ T765 (mkF m 91 #[.val (.ref o0), .val (.ref o1), .unset, .unset, .unset] [])
    refine Got.step (T' := T765) (g' := (mkF m 94 #[.val (.ref o0), .val (.ref o1), .unset, .unset, .unset] [(.ref o0), (.int (2 : Int32)), (.ref o0)])) (fun tq kt => ?_) ?_
    · show Steps p.tables e below (T765.setTop (mkF m 91 #[.val (.ref o0), .val (.ref o1), .unset, .unset, .unset] [])) _
      refine XS.aloadN X765.here hx rfl (hb hby d1_91) rfl rfl ?_
      show Steps p.tables e below (T765.setTop (mkF m 92 #[.val (.ref o0), .val (.ref o1), .unset, .unset, .unset] [(.ref o0)])) _
      refine XS.iconst X765.here hx rfl (hb hby d1_92) ?_
      show Steps p.tables e below (T765.setTop (mkF m 93 #[.val (.ref o0), .val (.ref o1), .unset, .unset, .unset] [(.int (2 : Int32)), (.ref o0)])) _
      refine XS.aloadN X765.here hx rfl (hb hby d1_93) rfl rfl ?_
      exact kt
    obtain ⟨T797, X797, e797, st797⟩ := getF X765 hx hZ hown (host := "") (Or.inl (hw _ (List.mem_of_getElem? (i := 28) rfl))) Via.refl e765 F_lastOffset_770 (g := (mkF m 94 #[.val (.ref o0), .val (.ref o1), .unset, .unset, .unset] [(.ref o0), (.int (2 : Int32)), (.ref o0)])) rfl rfl (hb hby d1_94)
    refine Got.step st797 ?_
    show Got p e below s _ _ _ _ T797 (mkF m 97 #[.val (.ref o0), .val (.ref o1), .unset, .unset, .unset] [(.int ((Int32.ofNat nN) - (1 : Int32))), (.int (2 : Int32)), (.ref o0)])
    obtain ⟨_, _, ⟨T798, L798, k798, n798⟩, -, X798, ⟨Lc798, hQ798, l798, y798, z798⟩, st798⟩ := Jvm.LawKit.callS X797 hx (y := (⟨"java/lang/Math", "min", "(II)I"⟩ : MethodName)) hown (mvT hZ (hw _ (List.mem_of_getElem? (i := 30) rfl))) (mvT hZ (hw _ (List.mem_of_getElem? (i := 31) rfl))) (mvT hZ (hw _ (List.mem_of_getElem? (i := 32) rfl))) (mvT hZ (hw _ (List.mem_of_getElem? (i := 33) rfl))) (by decide) (backOf (W := 1) (rm3 l Z a0 hw [] (2 : Int32) ((Int32.ofNat nN) - (1 : Int32)) h765 n0 Z0_766) hZ (hw _ (List.mem_of_getElem? (i := 33) rfl)) (hw _ (List.mem_of_getElem? (i := 32) rfl)) (by decide) (by decide)) (g := (mkF m 97 #[.val (.ref o0), .val (.ref o1), .unset, .unset, .unset] [(.int ((Int32.ofNat nN) - (1 : Int32))), (.int (2 : Int32)), (.ref o0)])) rfl (by rw [hml]; rfl) (argsL := [(.int (2 : Int32)), (.int ((Int32.ofNat nN) - (1 : Int32)))]) (rest := [(.ref o0)]) (lenOf pd_0 rfl) rfl (by show 2 * 0 + _ ≤ _; exact Nat.le_of_eq rfl) (hb hby d1_97) (fun _ _ => ⟨rfl, e797, (by decide : 5 + 0 ≤ _), (by decide : 41 + 0 ≤ _)⟩)
    dsimp only [Pt.U, Pt.locs, Pt.cells, Pt.slots] at X798 l798 y798 z798 st798 hQ798
    subst y798 z798
    obtain ⟨rfl, Nq798, e798⟩ := hQ798
    have N798 : Fr n0 L798 := by rw [l798]; exact Fr.app N765 Nq798
    refine Got.step st798 ?_
    show Got p e below s _ _ _ _ T798 (mkF m 100 #[.val (.ref o0), .val (.ref o1), .unset, .unset, .unset] [(.int (f3 (2 : Int32) ((Int32.ofNat nN) - (1 : Int32)))), (.ref o0)])
    obtain ⟨T799, h799, X799, e799, W799, st799⟩ := putF X798 hx hZ hown (host := "") (Or.inl (hw _ (List.mem_of_getElem? (i := 36) rfl))) Via.refl e798 F_thirdOffset_772 E_o0_768 (Or.inr ⟨(hw _ (List.mem_of_getElem? (i := 37) rfl)), rfl, hnm⟩) (hw _ (List.mem_of_getElem? (i := 3) rfl)) (ty := .int) (by decide) rfl rfl (g := (mkF m 100 #[.val (.ref o0), .val (.ref o1), .unset, .unset, .unset] [(.int (f3 (2 : Int32) ((Int32.ofNat nN) - (1 : Int32)))), (.ref o0)])) rfl rfl (hb hby d1_100)
    have Z0_800 : n0 ≤ h799.size := (Nat.le_trans Z0_766 (Keep.of_wr W799).1)
    have K0_801 : Keep h0 h799 [o0] := (K0_767.wr W799 (Or.inl (List.mem_of_getElem? (i := 0) rfl)))
    have E_o0_802 : Exa Z h799 o0 "com/example/sidestep/sidestep/Starts" := (E_o0_768.wr W799)
    have F_length_803 : Fld Z h799 o0 "com/example/sidestep/sidestep/Starts" "length" "I" (.int (Int32.ofNat nN)) := (F_length_769.other W799 (Or.inr (slot_ne (Or.inr (hw _ (List.mem_of_getElem? (i := 25) rfl))) (Or.inr (hw _ (List.mem_of_getElem? (i := 37) rfl))) (by decide) (t := .int) (t' := .int) (by decide) (by decide))))
    have F_lastOffset_804 : Fld Z h799 o0 "com/example/sidestep/sidestep/Starts" "lastOffset" "I" (.int ((Int32.ofNat nN) - (1 : Int32))) := (F_lastOffset_770.other W799 (Or.inr (slot_ne (Or.inr (hw _ (List.mem_of_getElem? (i := 29) rfl))) (Or.inr (hw _ (List.mem_of_getElem? (i := 37) rfl))) (by decide) (t := .int) (t' := .int) (by decide) (by decide))))
    have F_secondOffset_805 : Fld Z h799 o0 "com/example/sidestep/sidestep/Starts" "secondOffset" "I" (.int (f3 (1 : Int32) ((Int32.ofNat nN) - (1 : Int32)))) := (F_secondOffset_771.other W799 (Or.inr (slot_ne (Or.inr (hw _ (List.mem_of_getElem? (i := 35) rfl))) (Or.inr (hw _ (List.mem_of_getElem? (i := 37) rfl))) (by decide) (t := .int) (t' := .int) (by decide) (by decide))))
    have F_thirdOffset_806 : Fld Z h799 o0 "com/example/sidestep/sidestep/Starts" "thirdOffset" "I" (.int (f3 (2 : Int32) ((Int32.ofNat nN) - (1 : Int32)))) := (F_thirdOffset_772.same W799)
    have F_penultimateOffset_807 : Fld Z h799 o0 "com/example/sidestep/sidestep/Starts" "penultimateOffset" "I" (.int (0 : Int32)) := (F_penultimateOffset_773.other W799 (Or.inr (slot_ne (Or.inr (hw _ (List.mem_of_getElem? (i := 42) rfl))) (Or.inr (hw _ (List.mem_of_getElem? (i := 37) rfl))) (by decide) (t := .int) (t' := .int) (by decide) (by decide))))
    have F_firstBytes_808 : Fld Z h799 o0 "com/example/sidestep/sidestep/Starts" "firstBytes" "J" (.long (0 : Int64)) := (F_firstBytes_774.other W799 (Or.inr (slot_ne (Or.inr (hw _ (List.mem_of_getElem? (i := 49) rfl))) (Or.inr (hw _ (List.mem_of_getElem? (i := 37) rfl))) (by decide) (t := .long) (t' := .int) (by decide) (by decide))))
    have F_secondBytes_809 : Fld Z h799 o0 "com/example/sidestep/sidestep/Starts" "secondBytes" "J" (.long (0 : Int64)) := (F_secondBytes_775.other W799 (Or.inr (slot_ne (Or.inr (hw _ (List.mem_of_getElem? (i := 51) rfl))) (Or.inr (hw _ (List.mem_of_getElem? (i := 37) rfl))) (by decide) (t := .long) (t' := .int) (by decide) (by decide))))
    have F_thirdBytes_810 : Fld Z h799 o0 "com/example/sidestep/sidestep/Starts" "thirdBytes" "J" (.long (0 : Int64)) := (F_thirdBytes_776.other W799 (Or.inr (slot_ne (Or.inr (hw _ (List.mem_of_getElem? (i := 53) rfl))) (Or.inr (hw _ (List.mem_of_getElem? (i := 37) rfl))) (by decide) (t := .long) (t' := .int) (by decide) (by decide))))
    have F_penultimateBytes_811 : Fld Z h799 o0 "com/example/sidestep/sidestep/Starts" "penultimateBytes" "J" (.long (0 : Int64)) := (F_penultimateBytes_777.other W799 (Or.inr (slot_ne (Or.inr (hw _ (List.mem_of_getElem? (i := 55) rfl))) (Or.inr (hw _ (List.mem_of_getElem? (i := 37) rfl))) (by decide) (t := .long) (t' := .int) (by decide) (by decide))))
    have F_lastBytes_812 : Fld Z h799 o0 "com/example/sidestep/sidestep/Starts" "lastBytes" "J" (.long (0 : Int64)) := (F_lastBytes_778.other W799 (Or.inr (slot_ne (Or.inr (hw _ (List.mem_of_getElem? (i := 57) rfl))) (Or.inr (hw _ (List.mem_of_getElem? (i := 37) rfl))) (by decide) (t := .long) (t' := .int) (by decide) (by decide))))
    have F_patternWords_813 : Fld Z h799 o0 "com/example/sidestep/sidestep/Starts" "patternWords" "[J" .null := (F_patternWords_779.other W799 (Or.inr (slot_ne (Or.inr (hw _ (List.mem_of_getElem? (i := 59) rfl))) (Or.inr (hw _ (List.mem_of_getElem? (i := 37) rfl))) (by decide) (t := (.array .long)) (t' := .int) (by decide) (by decide))))
    have F_lastWordOffset_814 : Fld Z h799 o0 "com/example/sidestep/sidestep/Starts" "lastWordOffset" "I" (.int (0 : Int32)) := (F_lastWordOffset_780.other W799 (Or.inr (slot_ne (Or.inr (hw _ (List.mem_of_getElem? (i := 61) rfl))) (Or.inr (hw _ (List.mem_of_getElem? (i := 37) rfl))) (by decide) (t := .int) (t' := .int) (by decide) (by decide))))
    have F_lastWordMask_815 : Fld Z h799 o0 "com/example/sidestep/sidestep/Starts" "lastWordMask" "J" (.long (0 : Int64)) := (F_lastWordMask_781.other W799 (Or.inr (slot_ne (Or.inr (hw _ (List.mem_of_getElem? (i := 63) rfl))) (Or.inr (hw _ (List.mem_of_getElem? (i := 37) rfl))) (by decide) (t := .long) (t' := .int) (by decide) (by decide))))
    have F_source_816 : Fld Z h799 o0 "com/example/sidestep/sidestep/Starts" "source" "Lcom/example/sidestep/sidestep/Starts$LowBytes;" .null := (F_source_782.other W799 (Or.inr (slot_ne (Or.inl (hw _ (List.mem_of_getElem? (i := 76) rfl))) (Or.inr (hw _ (List.mem_of_getElem? (i := 37) rfl))) (by decide) (t := (.object "com/example/sidestep/sidestep/Starts$LowBytes")) (t' := .int) (by decide) (by decide))))
    have F_copiedTo_817 : Fld Z h799 o0 "com/example/sidestep/sidestep/Starts" "copiedTo" "I" (.int (0 : Int32)) := (F_copiedTo_783.other W799 (Or.inr (slot_ne (Or.inl (hw _ (List.mem_of_getElem? (i := 78) rfl))) (Or.inr (hw _ (List.mem_of_getElem? (i := 37) rfl))) (by decide) (t := .int) (t' := .int) (by decide) (by decide))))
    have F_lowBytes_818 : Fld Z h799 o0 "com/example/sidestep/sidestep/Starts" "lowBytes" "[B" .null := (F_lowBytes_784.other W799 (Or.inr (slot_ne (Or.inl (hw _ (List.mem_of_getElem? (i := 80) rfl))) (Or.inr (hw _ (List.mem_of_getElem? (i := 37) rfl))) (by decide) (t := (.array .byte)) (t' := .int) (by decide) (by decide))))
    have F_to_819 : Fld Z h799 o0 "com/example/sidestep/sidestep/Starts" "to" "I" (.int (0 : Int32)) := (F_to_785.other W799 (Or.inr (slot_ne (Or.inl (hw _ (List.mem_of_getElem? (i := 82) rfl))) (Or.inr (hw _ (List.mem_of_getElem? (i := 37) rfl))) (by decide) (t := .int) (t' := .int) (by decide) (by decide))))
    have F_placesEnd_820 : Fld Z h799 o0 "com/example/sidestep/sidestep/Starts" "placesEnd" "I" (.int (0 : Int32)) := (F_placesEnd_786.other W799 (Or.inr (slot_ne (Or.inl (hw _ (List.mem_of_getElem? (i := 84) rfl))) (Or.inr (hw _ (List.mem_of_getElem? (i := 37) rfl))) (by decide) (t := .int) (t' := .int) (by decide) (by decide))))
    have F_wholeEnd_821 : Fld Z h799 o0 "com/example/sidestep/sidestep/Starts" "wholeEnd" "I" (.int (0 : Int32)) := (F_wholeEnd_787.other W799 (Or.inr (slot_ne (Or.inl (hw _ (List.mem_of_getElem? (i := 86) rfl))) (Or.inr (hw _ (List.mem_of_getElem? (i := 37) rfl))) (by decide) (t := .int) (t' := .int) (by decide) (by decide))))
    have F_decidedEnd_822 : Fld Z h799 o0 "com/example/sidestep/sidestep/Starts" "decidedEnd" "I" (.int (0 : Int32)) := (F_decidedEnd_788.other W799 (Or.inr (slot_ne (Or.inl (hw _ (List.mem_of_getElem? (i := 88) rfl))) (Or.inr (hw _ (List.mem_of_getElem? (i := 37) rfl))) (by decide) (t := .int) (t' := .int) (by decide) (by decide))))
    have F_placed_823 : Fld Z h799 o0 "com/example/sidestep/sidestep/Starts" "placed" "I" (.int (0 : Int32)) := (F_placed_789.other W799 (Or.inr (slot_ne (Or.inl (hw _ (List.mem_of_getElem? (i := 90) rfl))) (Or.inr (hw _ (List.mem_of_getElem? (i := 37) rfl))) (by decide) (t := .int) (t' := .int) (by decide) (by decide))))
    have F_taken_824 : Fld Z h799 o0 "com/example/sidestep/sidestep/Starts" "taken" "I" (.int (0 : Int32)) := (F_taken_790.other W799 (Or.inr (slot_ne (Or.inl (hw _ (List.mem_of_getElem? (i := 92) rfl))) (Or.inr (hw _ (List.mem_of_getElem? (i := 37) rfl))) (by decide) (t := .int) (t' := .int) (by decide) (by decide))))
    have F_listedTo_825 : Fld Z h799 o0 "com/example/sidestep/sidestep/Starts" "listedTo" "I" (.int (0 : Int32)) := (F_listedTo_791.other W799 (Or.inr (slot_ne (Or.inl (hw _ (List.mem_of_getElem? (i := 94) rfl))) (Or.inr (hw _ (List.mem_of_getElem? (i := 37) rfl))) (by decide) (t := .int) (t' := .int) (by decide) (by decide))))
    have F_dense_826 : Fld Z h799 o0 "com/example/sidestep/sidestep/Starts" "dense" "Z" (.int (0 : Int32)) := (F_dense_792.other W799 (Or.inr (slot_ne (Or.inl (hw _ (List.mem_of_getElem? (i := 96) rfl))) (Or.inr (hw _ (List.mem_of_getElem? (i := 37) rfl))) (by decide) (t := .boolean) (t' := .int) (by decide) (by decide))))
    have F_marking_827 : Fld Z h799 o0 "com/example/sidestep/sidestep/Starts" "marking" "I" (.int (0 : Int32)) := (F_marking_793.other W799 (Or.inr (slot_ne (Or.inl (hw _ (List.mem_of_getElem? (i := 102) rfl))) (Or.inr (hw _ (List.mem_of_getElem? (i := 37) rfl))) (by decide) (t := .int) (t' := .int) (by decide) (by decide))))
    have F_sections_828 : Fld Z h799 o0 "com/example/sidestep/sidestep/Starts" "sections" "I" (.int (0 : Int32)) := (F_sections_794.other W799 (Or.inr (slot_ne (Or.inl (hw _ (List.mem_of_getElem? (i := 104) rfl))) (Or.inr (hw _ (List.mem_of_getElem? (i := 37) rfl))) (by decide) (t := .int) (t' := .int) (by decide) (by decide))))
    have F_handedSections_829 : Fld Z h799 o0 "com/example/sidestep/sidestep/Starts" "handedSections" "I" (.int (0 : Int32)) := (F_handedSections_795.other W799 (Or.inr (slot_ne (Or.inl (hw _ (List.mem_of_getElem? (i := 106) rfl))) (Or.inr (hw _ (List.mem_of_getElem? (i := 37) rfl))) (by decide) (t := .int) (t' := .int) (by decide) (by decide))))
    have V1_830 : Arv Z h799 o1 ku .int (Int32.ofNat nN) (us.map Value.int) (.int (0 : Int32)) := (V1_796.other W799 hne)
    have N799 := Fr.snoc X799 N798 gn_o0
    refine Got.step st799 ?_
    show Got p e below s _ _ _ _ T799 (mkF m 103 #[.val (.ref o0), .val (.ref o1), .unset, .unset, .unset] [])
    refine Got.step (T' := T799) (g' := (mkF m 106 #[.val (.ref o0), .val (.ref o1), .unset, .unset, .unset] [(.ref o0), (.int (0 : Int32)), (.ref o0)])) (fun tq kt => ?_) ?_
    · show Steps p.tables e below (T799.setTop (mkF m 103 #[.val (.ref o0), .val (.ref o1), .unset, .unset, .unset] [])) _
      refine XS.aloadN X799.here hx rfl (hb hby d1_103) rfl rfl ?_
      show Steps p.tables e below (T799.setTop (mkF m 104 #[.val (.ref o0), .val (.ref o1), .unset, .unset, .unset] [(.ref o0)])) _
      refine XS.iconst X799.here hx rfl (hb hby d1_104) ?_
      show Steps p.tables e below (T799.setTop (mkF m 105 #[.val (.ref o0), .val (.ref o1), .unset, .unset, .unset] [(.int (0 : Int32)), (.ref o0)])) _
      refine XS.aloadN X799.here hx rfl (hb hby d1_105) rfl rfl ?_
      exact kt
    obtain ⟨T831, X831, e831, st831⟩ := getF X799 hx hZ hown (host := "") (Or.inl (hw _ (List.mem_of_getElem? (i := 28) rfl))) Via.refl e799 F_lastOffset_804 (g := (mkF m 106 #[.val (.ref o0), .val (.ref o1), .unset, .unset, .unset] [(.ref o0), (.int (0 : Int32)), (.ref o0)])) rfl rfl (hb hby d1_106)
    refine Got.step st831 ?_
    show Got p e below s _ _ _ _ T831 (mkF m 109 #[.val (.ref o0), .val (.ref o1), .unset, .unset, .unset] [(.int ((Int32.ofNat nN) - (1 : Int32))), (.int (0 : Int32)), (.ref o0)])
    refine Got.step (T' := T831) (g' := (mkF m 111 #[.val (.ref o0), .val (.ref o1), .unset, .unset, .unset] [(.int (((Int32.ofNat nN) - (1 : Int32)) - (1 : Int32))), (.int (0 : Int32)), (.ref o0)])) (fun tq kt => ?_) ?_
    · show Steps p.tables e below (T831.setTop (mkF m 109 #[.val (.ref o0), .val (.ref o1), .unset, .unset, .unset] [(.int ((Int32.ofNat nN) - (1 : Int32))), (.int (0 : Int32)), (.ref o0)])) _
      refine XS.iconst X831.here hx rfl (hb hby d1_109) ?_
      show Steps p.tables e below (T831.setTop (mkF m 110 #[.val (.ref o0), .val (.ref o1), .unset, .unset, .unset] [(.int (1 : Int32)), (.int ((Int32.ofNat nN) - (1 : Int32))), (.int (0 : Int32)), (.ref o0)])) _
      refine XS.isub X831.here hx rfl (hb hby d1_110) rfl ?_
      exact kt
    obtain ⟨_, _, ⟨T832, L832, k832, n832⟩, -, X832, ⟨Lc832, hQ832, l832, y832, z832⟩, st832⟩ := Jvm.LawKit.callS X831 hx (y := (⟨"java/lang/Math", "max", "(II)I"⟩ : MethodName)) hown (mvT hZ (hw _ (List.mem_of_getElem? (i := 38) rfl))) (mvT hZ (hw _ (List.mem_of_getElem? (i := 39) rfl))) (mvT hZ (hw _ (List.mem_of_getElem? (i := 32) rfl))) (mvT hZ (hw _ (List.mem_of_getElem? (i := 40) rfl))) (by decide) (backOf (W := 1) (rm4 l Z a0 hw [] (0 : Int32) (((Int32.ofNat nN) - (1 : Int32)) - (1 : Int32)) h799 n0 Z0_800) hZ (hw _ (List.mem_of_getElem? (i := 40) rfl)) (hw _ (List.mem_of_getElem? (i := 32) rfl)) (by decide) (by decide)) (g := (mkF m 111 #[.val (.ref o0), .val (.ref o1), .unset, .unset, .unset] [(.int (((Int32.ofNat nN) - (1 : Int32)) - (1 : Int32))), (.int (0 : Int32)), (.ref o0)])) rfl (by rw [hml]; rfl) (argsL := [(.int (0 : Int32)), (.int (((Int32.ofNat nN) - (1 : Int32)) - (1 : Int32)))]) (rest := [(.ref o0)]) (lenOf pd_0 rfl) rfl (by show 2 * 0 + _ ≤ _; exact Nat.le_of_eq rfl) (hb hby d1_111) (fun _ _ => ⟨rfl, e831, (by decide : 5 + 0 ≤ _), (by decide : 41 + 0 ≤ _)⟩)
    dsimp only [Pt.U, Pt.locs, Pt.cells, Pt.slots] at X832 l832 y832 z832 st832 hQ832
    subst y832 z832
    obtain ⟨rfl, Nq832, e832⟩ := hQ832
    have N832 : Fr n0 L832 := by rw [l832]; exact Fr.app N799 Nq832
    refine Got.step st832 ?_
    show Got p e below s _ _ _ _ T832 (mkF m 114 #[.val (.ref o0), .val (.ref o1), .unset, .unset, .unset] [(.int (f4 (0 : Int32) (((Int32.ofNat nN) - (1 : Int32)) - (1 : Int32)))), (.ref o0)])
    obtain ⟨T833, h833, X833, e833, W833, st833⟩ := putF X832 hx hZ hown (host := "") (Or.inl (hw _ (List.mem_of_getElem? (i := 41) rfl))) Via.refl e832 F_penultimateOffset_807 E_o0_802 (Or.inr ⟨(hw _ (List.mem_of_getElem? (i := 42) rfl)), rfl, hnm⟩) (hw _ (List.mem_of_getElem? (i := 3) rfl)) (ty := .int) (by decide) rfl rfl (g := (mkF m 114 #[.val (.ref o0), .val (.ref o1), .unset, .unset, .unset] [(.int (f4 (0 : Int32) (((Int32.ofNat nN) - (1 : Int32)) - (1 : Int32)))), (.ref o0)])) rfl rfl (hb hby d1_114)
    have Z0_834 : n0 ≤ h833.size := (Nat.le_trans Z0_800 (Keep.of_wr W833).1)
    have K0_835 : Keep h0 h833 [o0] := (K0_801.wr W833 (Or.inl (List.mem_of_getElem? (i := 0) rfl)))
    have E_o0_836 : Exa Z h833 o0 "com/example/sidestep/sidestep/Starts" := (E_o0_802.wr W833)
    have F_length_837 : Fld Z h833 o0 "com/example/sidestep/sidestep/Starts" "length" "I" (.int (Int32.ofNat nN)) := (F_length_803.other W833 (Or.inr (slot_ne (Or.inr (hw _ (List.mem_of_getElem? (i := 25) rfl))) (Or.inr (hw _ (List.mem_of_getElem? (i := 42) rfl))) (by decide) (t := .int) (t' := .int) (by decide) (by decide))))
    have F_lastOffset_838 : Fld Z h833 o0 "com/example/sidestep/sidestep/Starts" "lastOffset" "I" (.int ((Int32.ofNat nN) - (1 : Int32))) := (F_lastOffset_804.other W833 (Or.inr (slot_ne (Or.inr (hw _ (List.mem_of_getElem? (i := 29) rfl))) (Or.inr (hw _ (List.mem_of_getElem? (i := 42) rfl))) (by decide) (t := .int) (t' := .int) (by decide) (by decide))))
    have F_secondOffset_839 : Fld Z h833 o0 "com/example/sidestep/sidestep/Starts" "secondOffset" "I" (.int (f3 (1 : Int32) ((Int32.ofNat nN) - (1 : Int32)))) := (F_secondOffset_805.other W833 (Or.inr (slot_ne (Or.inr (hw _ (List.mem_of_getElem? (i := 35) rfl))) (Or.inr (hw _ (List.mem_of_getElem? (i := 42) rfl))) (by decide) (t := .int) (t' := .int) (by decide) (by decide))))
    have F_thirdOffset_840 : Fld Z h833 o0 "com/example/sidestep/sidestep/Starts" "thirdOffset" "I" (.int (f3 (2 : Int32) ((Int32.ofNat nN) - (1 : Int32)))) := (F_thirdOffset_806.other W833 (Or.inr (slot_ne (Or.inr (hw _ (List.mem_of_getElem? (i := 37) rfl))) (Or.inr (hw _ (List.mem_of_getElem? (i := 42) rfl))) (by decide) (t := .int) (t' := .int) (by decide) (by decide))))
    have F_penultimateOffset_841 : Fld Z h833 o0 "com/example/sidestep/sidestep/Starts" "penultimateOffset" "I" (.int (f4 (0 : Int32) (((Int32.ofNat nN) - (1 : Int32)) - (1 : Int32)))) := (F_penultimateOffset_807.same W833)
    have F_firstBytes_842 : Fld Z h833 o0 "com/example/sidestep/sidestep/Starts" "firstBytes" "J" (.long (0 : Int64)) := (F_firstBytes_808.other W833 (Or.inr (slot_ne (Or.inr (hw _ (List.mem_of_getElem? (i := 49) rfl))) (Or.inr (hw _ (List.mem_of_getElem? (i := 42) rfl))) (by decide) (t := .long) (t' := .int) (by decide) (by decide))))
    have F_secondBytes_843 : Fld Z h833 o0 "com/example/sidestep/sidestep/Starts" "secondBytes" "J" (.long (0 : Int64)) := (F_secondBytes_809.other W833 (Or.inr (slot_ne (Or.inr (hw _ (List.mem_of_getElem? (i := 51) rfl))) (Or.inr (hw _ (List.mem_of_getElem? (i := 42) rfl))) (by decide) (t := .long) (t' := .int) (by decide) (by decide))))
    have F_thirdBytes_844 : Fld Z h833 o0 "com/example/sidestep/sidestep/Starts" "thirdBytes" "J" (.long (0 : Int64)) := (F_thirdBytes_810.other W833 (Or.inr (slot_ne (Or.inr (hw _ (List.mem_of_getElem? (i := 53) rfl))) (Or.inr (hw _ (List.mem_of_getElem? (i := 42) rfl))) (by decide) (t := .long) (t' := .int) (by decide) (by decide))))
    have F_penultimateBytes_845 : Fld Z h833 o0 "com/example/sidestep/sidestep/Starts" "penultimateBytes" "J" (.long (0 : Int64)) := (F_penultimateBytes_811.other W833 (Or.inr (slot_ne (Or.inr (hw _ (List.mem_of_getElem? (i := 55) rfl))) (Or.inr (hw _ (List.mem_of_getElem? (i := 42) rfl))) (by decide) (t := .long) (t' := .int) (by decide) (by decide))))
    have F_lastBytes_846 : Fld Z h833 o0 "com/example/sidestep/sidestep/Starts" "lastBytes" "J" (.long (0 : Int64)) := (F_lastBytes_812.other W833 (Or.inr (slot_ne (Or.inr (hw _ (List.mem_of_getElem? (i := 57) rfl))) (Or.inr (hw _ (List.mem_of_getElem? (i := 42) rfl))) (by decide) (t := .long) (t' := .int) (by decide) (by decide))))
    have F_patternWords_847 : Fld Z h833 o0 "com/example/sidestep/sidestep/Starts" "patternWords" "[J" .null := (F_patternWords_813.other W833 (Or.inr (slot_ne (Or.inr (hw _ (List.mem_of_getElem? (i := 59) rfl))) (Or.inr (hw _ (List.mem_of_getElem? (i := 42) rfl))) (by decide) (t := (.array .long)) (t' := .int) (by decide) (by decide))))
    have F_lastWordOffset_848 : Fld Z h833 o0 "com/example/sidestep/sidestep/Starts" "lastWordOffset" "I" (.int (0 : Int32)) := (F_lastWordOffset_814.other W833 (Or.inr (slot_ne (Or.inr (hw _ (List.mem_of_getElem? (i := 61) rfl))) (Or.inr (hw _ (List.mem_of_getElem? (i := 42) rfl))) (by decide) (t := .int) (t' := .int) (by decide) (by decide))))
    have F_lastWordMask_849 : Fld Z h833 o0 "com/example/sidestep/sidestep/Starts" "lastWordMask" "J" (.long (0 : Int64)) := (F_lastWordMask_815.other W833 (Or.inr (slot_ne (Or.inr (hw _ (List.mem_of_getElem? (i := 63) rfl))) (Or.inr (hw _ (List.mem_of_getElem? (i := 42) rfl))) (by decide) (t := .long) (t' := .int) (by decide) (by decide))))
    have F_source_850 : Fld Z h833 o0 "com/example/sidestep/sidestep/Starts" "source" "Lcom/example/sidestep/sidestep/Starts$LowBytes;" .null := (F_source_816.other W833 (Or.inr (slot_ne (Or.inl (hw _ (List.mem_of_getElem? (i := 76) rfl))) (Or.inr (hw _ (List.mem_of_getElem? (i := 42) rfl))) (by decide) (t := (.object "com/example/sidestep/sidestep/Starts$LowBytes")) (t' := .int) (by decide) (by decide))))
    have F_copiedTo_851 : Fld Z h833 o0 "com/example/sidestep/sidestep/Starts" "copiedTo" "I" (.int (0 : Int32)) := (F_copiedTo_817.other W833 (Or.inr (slot_ne (Or.inl (hw _ (List.mem_of_getElem? (i := 78) rfl))) (Or.inr (hw _ (List.mem_of_getElem? (i := 42) rfl))) (by decide) (t := .int) (t' := .int) (by decide) (by decide))))
    have F_lowBytes_852 : Fld Z h833 o0 "com/example/sidestep/sidestep/Starts" "lowBytes" "[B" .null := (F_lowBytes_818.other W833 (Or.inr (slot_ne (Or.inl (hw _ (List.mem_of_getElem? (i := 80) rfl))) (Or.inr (hw _ (List.mem_of_getElem? (i := 42) rfl))) (by decide) (t := (.array .byte)) (t' := .int) (by decide) (by decide))))
    have F_to_853 : Fld Z h833 o0 "com/example/sidestep/sidestep/Starts" "to" "I" (.int (0 : Int32)) := (F_to_819.other W833 (Or.inr (slot_ne (Or.inl (hw _ (List.mem_of_getElem? (i := 82) rfl))) (Or.inr (hw _ (List.mem_of_getElem? (i := 42) rfl))) (by decide) (t := .int) (t' := .int) (by decide) (by decide))))
    have F_placesEnd_854 : Fld Z h833 o0 "com/example/sidestep/sidestep/Starts" "placesEnd" "I" (.int (0 : Int32)) := (F_placesEnd_820.other W833 (Or.inr (slot_ne (Or.inl (hw _ (List.mem_of_getElem? (i := 84) rfl))) (Or.inr (hw _ (List.mem_of_getElem? (i := 42) rfl))) (by decide) (t := .int) (t' := .int) (by decide) (by decide))))
    have F_wholeEnd_855 : Fld Z h833 o0 "com/example/sidestep/sidestep/Starts" "wholeEnd" "I" (.int (0 : Int32)) := (F_wholeEnd_821.other W833 (Or.inr (slot_ne (Or.inl (hw _ (List.mem_of_getElem? (i := 86) rfl))) (Or.inr (hw _ (List.mem_of_getElem? (i := 42) rfl))) (by decide) (t := .int) (t' := .int) (by decide) (by decide))))
    have F_decidedEnd_856 : Fld Z h833 o0 "com/example/sidestep/sidestep/Starts" "decidedEnd" "I" (.int (0 : Int32)) := (F_decidedEnd_822.other W833 (Or.inr (slot_ne (Or.inl (hw _ (List.mem_of_getElem? (i := 88) rfl))) (Or.inr (hw _ (List.mem_of_getElem? (i := 42) rfl))) (by decide) (t := .int) (t' := .int) (by decide) (by decide))))
    have F_placed_857 : Fld Z h833 o0 "com/example/sidestep/sidestep/Starts" "placed" "I" (.int (0 : Int32)) := (F_placed_823.other W833 (Or.inr (slot_ne (Or.inl (hw _ (List.mem_of_getElem? (i := 90) rfl))) (Or.inr (hw _ (List.mem_of_getElem? (i := 42) rfl))) (by decide) (t := .int) (t' := .int) (by decide) (by decide))))
    have F_taken_858 : Fld Z h833 o0 "com/example/sidestep/sidestep/Starts" "taken" "I" (.int (0 : Int32)) := (F_taken_824.other W833 (Or.inr (slot_ne (Or.inl (hw _ (List.mem_of_getElem? (i := 92) rfl))) (Or.inr (hw _ (List.mem_of_getElem? (i := 42) rfl))) (by decide) (t := .int) (t' := .int) (by decide) (by decide))))
    have F_listedTo_859 : Fld Z h833 o0 "com/example/sidestep/sidestep/Starts" "listedTo" "I" (.int (0 : Int32)) := (F_listedTo_825.other W833 (Or.inr (slot_ne (Or.inl (hw _ (List.mem_of_getElem? (i := 94) rfl))) (Or.inr (hw _ (List.mem_of_getElem? (i := 42) rfl))) (by decide) (t := .int) (t' := .int) (by decide) (by decide))))
    have F_dense_860 : Fld Z h833 o0 "com/example/sidestep/sidestep/Starts" "dense" "Z" (.int (0 : Int32)) := (F_dense_826.other W833 (Or.inr (slot_ne (Or.inl (hw _ (List.mem_of_getElem? (i := 96) rfl))) (Or.inr (hw _ (List.mem_of_getElem? (i := 42) rfl))) (by decide) (t := .boolean) (t' := .int) (by decide) (by decide))))
    have F_marking_861 : Fld Z h833 o0 "com/example/sidestep/sidestep/Starts" "marking" "I" (.int (0 : Int32)) := (F_marking_827.other W833 (Or.inr (slot_ne (Or.inl (hw _ (List.mem_of_getElem? (i := 102) rfl))) (Or.inr (hw _ (List.mem_of_getElem? (i := 42) rfl))) (by decide) (t := .int) (t' := .int) (by decide) (by decide))))
    have F_sections_862 : Fld Z h833 o0 "com/example/sidestep/sidestep/Starts" "sections" "I" (.int (0 : Int32)) := (F_sections_828.other W833 (Or.inr (slot_ne (Or.inl (hw _ (List.mem_of_getElem? (i := 104) rfl))) (Or.inr (hw _ (List.mem_of_getElem? (i := 42) rfl))) (by decide) (t := .int) (t' := .int) (by decide) (by decide))))
    have F_handedSections_863 : Fld Z h833 o0 "com/example/sidestep/sidestep/Starts" "handedSections" "I" (.int (0 : Int32)) := (F_handedSections_829.other W833 (Or.inr (slot_ne (Or.inl (hw _ (List.mem_of_getElem? (i := 106) rfl))) (Or.inr (hw _ (List.mem_of_getElem? (i := 42) rfl))) (by decide) (t := .int) (t' := .int) (by decide) (by decide))))
    have V1_864 : Arv Z h833 o1 ku .int (Int32.ofNat nN) (us.map Value.int) (.int (0 : Int32)) := (V1_830.other W833 hne)
    have N833 := Fr.snoc X833 N832 gn_o0
    refine Got.step st833 ?_
    show Got p e below s _ _ _ _ T833 (mkF m 117 #[.val (.ref o0), .val (.ref o1), .unset, .unset, .unset] [])
    refine Got.step (T' := T833) (g' := (mkF m 120 #[.val (.ref o0), .val (.ref o1), .unset, .unset, .unset] [(.int (0 : Int32)), (.ref o1), (.ref o0)])) (fun tq kt => ?_) ?_
    · show Steps p.tables e below (T833.setTop (mkF m 117 #[.val (.ref o0), .val (.ref o1), .unset, .unset, .unset] [])) _
      refine XS.aloadN X833.here hx rfl (hb hby d1_117) rfl rfl ?_
      show Steps p.tables e below (T833.setTop (mkF m 118 #[.val (.ref o0), .val (.ref o1), .unset, .unset, .unset] [(.ref o0)])) _
      refine XS.aloadN X833.here hx rfl (hb hby d1_118) rfl rfl ?_
      show Steps p.tables e below (T833.setTop (mkF m 119 #[.val (.ref o0), .val (.ref o1), .unset, .unset, .unset] [(.ref o1), (.ref o0)])) _
      refine XS.iconst X833.here hx rfl (hb hby d1_119) ?_
      exact kt
    obtain ⟨cl865, Ar865, q865, S865, M865, H865, G865⟩ := (id V1_864)
    have hin865 : ¬ ((0 : Int32) < 0 ∨ cl865.slots.size ≤ ((0 : Int32)).toNatClampNeg) := inb_of S865 (own_at0 hN)
    obtain ⟨x865, hx865⟩ := fit_I (G865 _ (Nat.lt_of_not_le fun y => hin865 (Or.inr y))) (by simp)
    refine Got.step (T' := T833) (fun tq kt => X833.iaload hx (j := (0 : Int32)) (v := (.int x865)) (by rw [e833]; exact Ar865.1) (State.isArrayOf_alike hZ.alike Ar865.2.1) Ar865.2.2 hin865 (H865.at hin865 hx865) (g := (mkF m 120 #[.val (.ref o0), .val (.ref o1), .unset, .unset, .unset] [(.int (0 : Int32)), (.ref o1), (.ref o0)])) rfl rfl (hb hby d1_120) tq kt) ?_
    show Got p e below s _ _ _ _ T833 (mkF m 121 #[.val (.ref o0), .val (.ref o1), .unset, .unset, .unset] [(.int x865), (.ref o0)])
    obtain ⟨_, _, ⟨T866, L866, k866, n866⟩, -, X866, ⟨Lc866, hQ866, l866, y866, z866⟩, st866⟩ := Jvm.LawKit.callS X833 hx (y := (⟨"com/example/sidestep/sidestep/Starts", "everyByte", "(I)J"⟩ : MethodName)) hown (mvT hZ (hw _ (List.mem_of_getElem? (i := 43) rfl))) (mvT hZ (hw _ (List.mem_of_getElem? (i := 44) rfl))) (mvT hZ (hw _ (List.mem_of_getElem? (i := 4) rfl))) (mvT hZ (hw _ (List.mem_of_getElem? (i := 45) rfl))) (by decide) (backOf (W := 1) (rm5 l Z a0 hw [] x865 h833 n0 Z0_834) hZ (hw _ (List.mem_of_getElem? (i := 45) rfl)) (hw _ (List.mem_of_getElem? (i := 4) rfl)) (by decide) (by decide)) (g := (mkF m 121 #[.val (.ref o0), .val (.ref o1), .unset, .unset, .unset] [(.int x865), (.ref o0)])) rfl (by rw [hml]; rfl) (argsL := [(.int x865)]) (rest := [(.ref o0)]) (lenOf pd_3 rfl) rfl (by show 2 * 0 + _ ≤ _; exact Nat.le_of_eq rfl) (hb hby d1_121) (fun _ _ => ⟨rfl, e833, (by decide : 5 + 0 ≤ _), (by decide : 41 + 0 ≤ _)⟩)
    dsimp only [Pt.U, Pt.locs, Pt.cells, Pt.slots] at X866 l866 y866 z866 st866 hQ866
    subst y866 z866
    obtain ⟨rfl, Nq866, e866⟩ := hQ866
    have N866 : Fr n0 L866 := by rw [l866]; exact Fr.app N833 Nq866
    refine Got.step st866 ?_
    show Got p e below s _ _ _ _ T866 (mkF m 124 #[.val (.ref o0), .val (.ref o1), .unset, .unset, .unset] [(.long (f5 x865)), (.ref o0)])
    obtain ⟨T867, h867, X867, e867, W867, st867⟩ := putF X866 hx hZ hown (host := "") (Or.inl (hw _ (List.mem_of_getElem? (i := 48) rfl))) Via.refl e866 F_firstBytes_842 E_o0_836 (Or.inr ⟨(hw _ (List.mem_of_getElem? (i := 49) rfl)), rfl, hnm⟩) (hw _ (List.mem_of_getElem? (i := 3) rfl)) (ty := .long) (by decide) rfl rfl (g := (mkF m 124 #[.val (.ref o0), .val (.ref o1), .unset, .unset, .unset] [(.long (f5 x865)), (.ref o0)])) rfl rfl (hb hby d1_124)
    have Z0_868 : n0 ≤ h867.size := (Nat.le_trans Z0_834 (Keep.of_wr W867).1)
    have K0_869 : Keep h0 h867 [o0] := (K0_835.wr W867 (Or.inl (List.mem_of_getElem? (i := 0) rfl)))
    have E_o0_870 : Exa Z h867 o0 "com/example/sidestep/sidestep/Starts" := (E_o0_836.wr W867)
    have F_length_871 : Fld Z h867 o0 "com/example/sidestep/sidestep/Starts" "length" "I" (.int (Int32.ofNat nN)) := (F_length_837.other W867 (Or.inr (slot_ne (Or.inr (hw _ (List.mem_of_getElem? (i := 25) rfl))) (Or.inr (hw _ (List.mem_of_getElem? (i := 49) rfl))) (by decide) (t := .int) (t' := .long) (by decide) (by decide))))
    have F_lastOffset_872 : Fld Z h867 o0 "com/example/sidestep/sidestep/Starts" "lastOffset" "I" (.int ((Int32.ofNat nN) - (1 : Int32))) := (F_lastOffset_838.other W867 (Or.inr (slot_ne (Or.inr (hw _ (List.mem_of_getElem? (i := 29) rfl))) (Or.inr (hw _ (List.mem_of_getElem? (i := 49) rfl))) (by decide) (t := .int) (t' := .long) (by decide) (by decide))))
    have F_secondOffset_873 : Fld Z h867 o0 "com/example/sidestep/sidestep/Starts" "secondOffset" "I" (.int (f3 (1 : Int32) ((Int32.ofNat nN) - (1 : Int32)))) := (F_secondOffset_839.other W867 (Or.inr (slot_ne (Or.inr (hw _ (List.mem_of_getElem? (i := 35) rfl))) (Or.inr (hw _ (List.mem_of_getElem? (i := 49) rfl))) (by decide) (t := .int) (t' := .long) (by decide) (by decide))))
    have F_thirdOffset_874 : Fld Z h867 o0 "com/example/sidestep/sidestep/Starts" "thirdOffset" "I" (.int (f3 (2 : Int32) ((Int32.ofNat nN) - (1 : Int32)))) := (F_thirdOffset_840.other W867 (Or.inr (slot_ne (Or.inr (hw _ (List.mem_of_getElem? (i := 37) rfl))) (Or.inr (hw _ (List.mem_of_getElem? (i := 49) rfl))) (by decide) (t := .int) (t' := .long) (by decide) (by decide))))
    have F_penultimateOffset_875 : Fld Z h867 o0 "com/example/sidestep/sidestep/Starts" "penultimateOffset" "I" (.int (f4 (0 : Int32) (((Int32.ofNat nN) - (1 : Int32)) - (1 : Int32)))) := (F_penultimateOffset_841.other W867 (Or.inr (slot_ne (Or.inr (hw _ (List.mem_of_getElem? (i := 42) rfl))) (Or.inr (hw _ (List.mem_of_getElem? (i := 49) rfl))) (by decide) (t := .int) (t' := .long) (by decide) (by decide))))
    have F_firstBytes_876 : Fld Z h867 o0 "com/example/sidestep/sidestep/Starts" "firstBytes" "J" (.long (f5 x865)) := (F_firstBytes_842.same W867)
    have F_secondBytes_877 : Fld Z h867 o0 "com/example/sidestep/sidestep/Starts" "secondBytes" "J" (.long (0 : Int64)) := (F_secondBytes_843.other W867 (Or.inr (slot_ne (Or.inr (hw _ (List.mem_of_getElem? (i := 51) rfl))) (Or.inr (hw _ (List.mem_of_getElem? (i := 49) rfl))) (by decide) (t := .long) (t' := .long) (by decide) (by decide))))
    have F_thirdBytes_878 : Fld Z h867 o0 "com/example/sidestep/sidestep/Starts" "thirdBytes" "J" (.long (0 : Int64)) := (F_thirdBytes_844.other W867 (Or.inr (slot_ne (Or.inr (hw _ (List.mem_of_getElem? (i := 53) rfl))) (Or.inr (hw _ (List.mem_of_getElem? (i := 49) rfl))) (by decide) (t := .long) (t' := .long) (by decide) (by decide))))
    have F_penultimateBytes_879 : Fld Z h867 o0 "com/example/sidestep/sidestep/Starts" "penultimateBytes" "J" (.long (0 : Int64)) := (F_penultimateBytes_845.other W867 (Or.inr (slot_ne (Or.inr (hw _ (List.mem_of_getElem? (i := 55) rfl))) (Or.inr (hw _ (List.mem_of_getElem? (i := 49) rfl))) (by decide) (t := .long) (t' := .long) (by decide) (by decide))))
    have F_lastBytes_880 : Fld Z h867 o0 "com/example/sidestep/sidestep/Starts" "lastBytes" "J" (.long (0 : Int64)) := (F_lastBytes_846.other W867 (Or.inr (slot_ne (Or.inr (hw _ (List.mem_of_getElem? (i := 57) rfl))) (Or.inr (hw _ (List.mem_of_getElem? (i := 49) rfl))) (by decide) (t := .long) (t' := .long) (by decide) (by decide))))
    have F_patternWords_881 : Fld Z h867 o0 "com/example/sidestep/sidestep/Starts" "patternWords" "[J" .null := (F_patternWords_847.other W867 (Or.inr (slot_ne (Or.inr (hw _ (List.mem_of_getElem? (i := 59) rfl))) (Or.inr (hw _ (List.mem_of_getElem? (i := 49) rfl))) (by decide) (t := (.array .long)) (t' := .long) (by decide) (by decide))))
    have F_lastWordOffset_882 : Fld Z h867 o0 "com/example/sidestep/sidestep/Starts" "lastWordOffset" "I" (.int (0 : Int32)) := (F_lastWordOffset_848.other W867 (Or.inr (slot_ne (Or.inr (hw _ (List.mem_of_getElem? (i := 61) rfl))) (Or.inr (hw _ (List.mem_of_getElem? (i := 49) rfl))) (by decide) (t := .int) (t' := .long) (by decide) (by decide))))
    have F_lastWordMask_883 : Fld Z h867 o0 "com/example/sidestep/sidestep/Starts" "lastWordMask" "J" (.long (0 : Int64)) := (F_lastWordMask_849.other W867 (Or.inr (slot_ne (Or.inr (hw _ (List.mem_of_getElem? (i := 63) rfl))) (Or.inr (hw _ (List.mem_of_getElem? (i := 49) rfl))) (by decide) (t := .long) (t' := .long) (by decide) (by decide))))
    have F_source_884 : Fld Z h867 o0 "com/example/sidestep/sidestep/Starts" "source" "Lcom/example/sidestep/sidestep/Starts$LowBytes;" .null := (F_source_850.other W867 (Or.inr (slot_ne (Or.inl (hw _ (List.mem_of_getElem? (i := 76) rfl))) (Or.inr (hw _ (List.mem_of_getElem? (i := 49) rfl))) (by decide) (t := (.object "com/example/sidestep/sidestep/Starts$LowBytes")) (t' := .long) (by decide) (by decide))))
    have F_copiedTo_885 : Fld Z h867 o0 "com/example/sidestep/sidestep/Starts" "copiedTo" "I" (.int (0 : Int32)) := (F_copiedTo_851.other W867 (Or.inr (slot_ne (Or.inl (hw _ (List.mem_of_getElem? (i := 78) rfl))) (Or.inr (hw _ (List.mem_of_getElem? (i := 49) rfl))) (by decide) (t := .int) (t' := .long) (by decide) (by decide))))
    have F_lowBytes_886 : Fld Z h867 o0 "com/example/sidestep/sidestep/Starts" "lowBytes" "[B" .null := (F_lowBytes_852.other W867 (Or.inr (slot_ne (Or.inl (hw _ (List.mem_of_getElem? (i := 80) rfl))) (Or.inr (hw _ (List.mem_of_getElem? (i := 49) rfl))) (by decide) (t := (.array .byte)) (t' := .long) (by decide) (by decide))))
    have F_to_887 : Fld Z h867 o0 "com/example/sidestep/sidestep/Starts" "to" "I" (.int (0 : Int32)) := (F_to_853.other W867 (Or.inr (slot_ne (Or.inl (hw _ (List.mem_of_getElem? (i := 82) rfl))) (Or.inr (hw _ (List.mem_of_getElem? (i := 49) rfl))) (by decide) (t := .int) (t' := .long) (by decide) (by decide))))
    have F_placesEnd_888 : Fld Z h867 o0 "com/example/sidestep/sidestep/Starts" "placesEnd" "I" (.int (0 : Int32)) := (F_placesEnd_854.other W867 (Or.inr (slot_ne (Or.inl (hw _ (List.mem_of_getElem? (i := 84) rfl))) (Or.inr (hw _ (List.mem_of_getElem? (i := 49) rfl))) (by decide) (t := .int) (t' := .long) (by decide) (by decide))))
    have F_wholeEnd_889 : Fld Z h867 o0 "com/example/sidestep/sidestep/Starts" "wholeEnd" "I" (.int (0 : Int32)) := (F_wholeEnd_855.other W867 (Or.inr (slot_ne (Or.inl (hw _ (List.mem_of_getElem? (i := 86) rfl))) (Or.inr (hw _ (List.mem_of_getElem? (i := 49) rfl))) (by decide) (t := .int) (t' := .long) (by decide) (by decide))))
    have F_decidedEnd_890 : Fld Z h867 o0 "com/example/sidestep/sidestep/Starts" "decidedEnd" "I" (.int (0 : Int32)) := (F_decidedEnd_856.other W867 (Or.inr (slot_ne (Or.inl (hw _ (List.mem_of_getElem? (i := 88) rfl))) (Or.inr (hw _ (List.mem_of_getElem? (i := 49) rfl))) (by decide) (t := .int) (t' := .long) (by decide) (by decide))))
    have F_placed_891 : Fld Z h867 o0 "com/example/sidestep/sidestep/Starts" "placed" "I" (.int (0 : Int32)) := (F_placed_857.other W867 (Or.inr (slot_ne (Or.inl (hw _ (List.mem_of_getElem? (i := 90) rfl))) (Or.inr (hw _ (List.mem_of_getElem? (i := 49) rfl))) (by decide) (t := .int) (t' := .long) (by decide) (by decide))))
    have F_taken_892 : Fld Z h867 o0 "com/example/sidestep/sidestep/Starts" "taken" "I" (.int (0 : Int32)) := (F_taken_858.other W867 (Or.inr (slot_ne (Or.inl (hw _ (List.mem_of_getElem? (i := 92) rfl))) (Or.inr (hw _ (List.mem_of_getElem? (i := 49) rfl))) (by decide) (t := .int) (t' := .long) (by decide) (by decide))))
    have F_listedTo_893 : Fld Z h867 o0 "com/example/sidestep/sidestep/Starts" "listedTo" "I" (.int (0 : Int32)) := (F_listedTo_859.other W867 (Or.inr (slot_ne (Or.inl (hw _ (List.mem_of_getElem? (i := 94) rfl))) (Or.inr (hw _ (List.mem_of_getElem? (i := 49) rfl))) (by decide) (t := .int) (t' := .long) (by decide) (by decide))))
    have F_dense_894 : Fld Z h867 o0 "com/example/sidestep/sidestep/Starts" "dense" "Z" (.int (0 : Int32)) := (F_dense_860.other W867 (Or.inr (slot_ne (Or.inl (hw _ (List.mem_of_getElem? (i := 96) rfl))) (Or.inr (hw _ (List.mem_of_getElem? (i := 49) rfl))) (by decide) (t := .boolean) (t' := .long) (by decide) (by decide))))
    have F_marking_895 : Fld Z h867 o0 "com/example/sidestep/sidestep/Starts" "marking" "I" (.int (0 : Int32)) := (F_marking_861.other W867 (Or.inr (slot_ne (Or.inl (hw _ (List.mem_of_getElem? (i := 102) rfl))) (Or.inr (hw _ (List.mem_of_getElem? (i := 49) rfl))) (by decide) (t := .int) (t' := .long) (by decide) (by decide))))
    have F_sections_896 : Fld Z h867 o0 "com/example/sidestep/sidestep/Starts" "sections" "I" (.int (0 : Int32)) := (F_sections_862.other W867 (Or.inr (slot_ne (Or.inl (hw _ (List.mem_of_getElem? (i := 104) rfl))) (Or.inr (hw _ (List.mem_of_getElem? (i := 49) rfl))) (by decide) (t := .int) (t' := .long) (by decide) (by decide))))
    have F_handedSections_897 : Fld Z h867 o0 "com/example/sidestep/sidestep/Starts" "handedSections" "I" (.int (0 : Int32)) := (F_handedSections_863.other W867 (Or.inr (slot_ne (Or.inl (hw _ (List.mem_of_getElem? (i := 106) rfl))) (Or.inr (hw _ (List.mem_of_getElem? (i := 49) rfl))) (by decide) (t := .int) (t' := .long) (by decide) (by decide))))
    have V1_898 : Arv Z h867 o1 ku .int (Int32.ofNat nN) (us.map Value.int) (.int (0 : Int32)) := (V1_864.other W867 hne)
    have N867 := Fr.snoc X867 N866 gn_o0
    refine Got.step st867 ?_
    show Got p e below s _ _ _ _ T867 (mkF m 127 #[.val (.ref o0), .val (.ref o1), .unset, .unset, .unset] [])
    refine Got.step (T' := T867) (g' := (mkF m 130 #[.val (.ref o0), .val (.ref o1), .unset, .unset, .unset] [(.ref o0), (.ref o1), (.ref o0)])) (fun tq kt => ?_) ?_
    · show Steps p.tables e below (T867.setTop (mkF m 127 #[.val (.ref o0), .val (.ref o1), .unset, .unset, .unset] [])) _
      refine XS.aloadN X867.here hx rfl (hb hby d1_127) rfl rfl ?_
      show Steps p.tables e below (T867.setTop (mkF m 128 #[.val (.ref o0), .val (.ref o1), .unset, .unset, .unset] [(.ref o0)])) _
      refine XS.aloadN X867.here hx rfl (hb hby d1_128) rfl rfl ?_
      show Steps p.tables e below (T867.setTop (mkF m 129 #[.val (.ref o0), .val (.ref o1), .unset, .unset, .unset] [(.ref o1), (.ref o0)])) _
      refine XS.aloadN X867.here hx rfl (hb hby d1_129) rfl rfl ?_
      exact kt
    obtain ⟨T899, X899, e899, st899⟩ := getF X867 hx hZ hown (host := "") (Or.inl (hw _ (List.mem_of_getElem? (i := 34) rfl))) Via.refl e867 F_secondOffset_873 (g := (mkF m 130 #[.val (.ref o0), .val (.ref o1), .unset, .unset, .unset] [(.ref o0), (.ref o1), (.ref o0)])) rfl rfl (hb hby d1_130)
    refine Got.step st899 ?_
    show Got p e below s _ _ _ _ T899 (mkF m 133 #[.val (.ref o0), .val (.ref o1), .unset, .unset, .unset] [(.int (f3 (1 : Int32) ((Int32.ofNat nN) - (1 : Int32)))), (.ref o1), (.ref o0)])
    obtain ⟨cl900, Ar900, q900, S900, M900, H900, G900⟩ := (id V1_898)
    have hin900 : ¬ ((f3 (1 : Int32) ((Int32.ofNat nN) - (1 : Int32))) < 0 ∨ cl900.slots.size ≤ ((f3 (1 : Int32) ((Int32.ofNat nN) - (1 : Int32)))).toNatClampNeg) := inb_of S900 (own_at1 hN)
    obtain ⟨x900, hx900⟩ := fit_I (G900 _ (Nat.lt_of_not_le fun y => hin900 (Or.inr y))) (by simp)
    refine Got.step (T' := T899) (fun tq kt => X899.iaload hx (j := (f3 (1 : Int32) ((Int32.ofNat nN) - (1 : Int32)))) (v := (.int x900)) (by rw [e899]; exact Ar900.1) (State.isArrayOf_alike hZ.alike Ar900.2.1) Ar900.2.2 hin900 (H900.at hin900 hx900) (g := (mkF m 133 #[.val (.ref o0), .val (.ref o1), .unset, .unset, .unset] [(.int (f3 (1 : Int32) ((Int32.ofNat nN) - (1 : Int32)))), (.ref o1), (.ref o0)])) rfl rfl (hb hby d1_133) tq kt) ?_
    show Got p e below s _ _ _ _ T899 (mkF m 134 #[.val (.ref o0), .val (.ref o1), .unset, .unset, .unset] [(.int x900), (.ref o0)])
    obtain ⟨_, _, ⟨T901, L901, k901, n901⟩, -, X901, ⟨Lc901, hQ901, l901, y901, z901⟩, st901⟩ := Jvm.LawKit.callS X899 hx (y := (⟨"com/example/sidestep/sidestep/Starts", "everyByte", "(I)J"⟩ : MethodName)) hown (mvT hZ (hw _ (List.mem_of_getElem? (i := 43) rfl))) (mvT hZ (hw _ (List.mem_of_getElem? (i := 44) rfl))) (mvT hZ (hw _ (List.mem_of_getElem? (i := 4) rfl))) (mvT hZ (hw _ (List.mem_of_getElem? (i := 45) rfl))) (by decide) (backOf (W := 1) (rm5 l Z a0 hw [] x900 h867 n0 Z0_868) hZ (hw _ (List.mem_of_getElem? (i := 45) rfl)) (hw _ (List.mem_of_getElem? (i := 4) rfl)) (by decide) (by decide)) (g := (mkF m 134 #[.val (.ref o0), .val (.ref o1), .unset, .unset, .unset] [(.int x900), (.ref o0)])) rfl (by rw [hml]; rfl) (argsL := [(.int x900)]) (rest := [(.ref o0)]) (lenOf pd_3 rfl) rfl (by show 2 * 0 + _ ≤ _; exact Nat.le_of_eq rfl) (hb hby d1_134) (fun _ _ => ⟨rfl, e899, (by decide : 5 + 0 ≤ _), (by decide : 41 + 0 ≤ _)⟩)
    dsimp only [Pt.U, Pt.locs, Pt.cells, Pt.slots] at X901 l901 y901 z901 st901 hQ901
    subst y901 z901
    obtain ⟨rfl, Nq901, e901⟩ := hQ901
    have N901 : Fr n0 L901 := by rw [l901]; exact Fr.app N867 Nq901
    refine Got.step st901 ?_
    show Got p e below s _ _ _ _ T901 (mkF m 137 #[.val (.ref o0), .val (.ref o1), .unset, .unset, .unset] [(.long (f5 x900)), (.ref o0)])
    obtain ⟨T902, h902, X902, e902, W902, st902⟩ := putF X901 hx hZ hown (host := "") (Or.inl (hw _ (List.mem_of_getElem? (i := 50) rfl))) Via.refl e901 F_secondBytes_877 E_o0_870 (Or.inr ⟨(hw _ (List.mem_of_getElem? (i := 51) rfl)), rfl, hnm⟩) (hw _ (List.mem_of_getElem? (i := 3) rfl)) (ty := .long) (by decide) rfl rfl (g := (mkF m 137 #[.val (.ref o0), .val (.ref o1), .unset, .unset, .unset] [(.long (f5 x900)), (.ref o0)])) rfl rfl (hb hby d1_137)
    have Z0_903 : n0 ≤ h902.size := (Nat.le_trans Z0_868 (Keep.of_wr W902).1)
    have K0_904 : Keep h0 h902 [o0] := (K0_869.wr W902 (Or.inl (List.mem_of_getElem? (i := 0) rfl)))
    have E_o0_905 : Exa Z h902 o0 "com/example/sidestep/sidestep/Starts" := (E_o0_870.wr W902)
    have F_length_906 : Fld Z h902 o0 "com/example/sidestep/sidestep/Starts" "length" "I" (.int (Int32.ofNat nN)) := (F_length_871.other W902 (Or.inr (slot_ne (Or.inr (hw _ (List.mem_of_getElem? (i := 25) rfl))) (Or.inr (hw _ (List.mem_of_getElem? (i := 51) rfl))) (by decide) (t := .int) (t' := .long) (by decide) (by decide))))
    have F_lastOffset_907 : Fld Z h902 o0 "com/example/sidestep/sidestep/Starts" "lastOffset" "I" (.int ((Int32.ofNat nN) - (1 : Int32))) := (F_lastOffset_872.other W902 (Or.inr (slot_ne (Or.inr (hw _ (List.mem_of_getElem? (i := 29) rfl))) (Or.inr (hw _ (List.mem_of_getElem? (i := 51) rfl))) (by decide) (t := .int) (t' := .long) (by decide) (by decide))))
    have F_secondOffset_908 : Fld Z h902 o0 "com/example/sidestep/sidestep/Starts" "secondOffset" "I" (.int (f3 (1 : Int32) ((Int32.ofNat nN) - (1 : Int32)))) := (F_secondOffset_873.other W902 (Or.inr (slot_ne (Or.inr (hw _ (List.mem_of_getElem? (i := 35) rfl))) (Or.inr (hw _ (List.mem_of_getElem? (i := 51) rfl))) (by decide) (t := .int) (t' := .long) (by decide) (by decide))))
    have F_thirdOffset_909 : Fld Z h902 o0 "com/example/sidestep/sidestep/Starts" "thirdOffset" "I" (.int (f3 (2 : Int32) ((Int32.ofNat nN) - (1 : Int32)))) := (F_thirdOffset_874.other W902 (Or.inr (slot_ne (Or.inr (hw _ (List.mem_of_getElem? (i := 37) rfl))) (Or.inr (hw _ (List.mem_of_getElem? (i := 51) rfl))) (by decide) (t := .int) (t' := .long) (by decide) (by decide))))
    have F_penultimateOffset_910 : Fld Z h902 o0 "com/example/sidestep/sidestep/Starts" "penultimateOffset" "I" (.int (f4 (0 : Int32) (((Int32.ofNat nN) - (1 : Int32)) - (1 : Int32)))) := (F_penultimateOffset_875.other W902 (Or.inr (slot_ne (Or.inr (hw _ (List.mem_of_getElem? (i := 42) rfl))) (Or.inr (hw _ (List.mem_of_getElem? (i := 51) rfl))) (by decide) (t := .int) (t' := .long) (by decide) (by decide))))
    have F_secondBytes_911 : Fld Z h902 o0 "com/example/sidestep/sidestep/Starts" "secondBytes" "J" (.long (f5 x900)) := (F_secondBytes_877.same W902)
    have F_thirdBytes_912 : Fld Z h902 o0 "com/example/sidestep/sidestep/Starts" "thirdBytes" "J" (.long (0 : Int64)) := (F_thirdBytes_878.other W902 (Or.inr (slot_ne (Or.inr (hw _ (List.mem_of_getElem? (i := 53) rfl))) (Or.inr (hw _ (List.mem_of_getElem? (i := 51) rfl))) (by decide) (t := .long) (t' := .long) (by decide) (by decide))))
    have F_penultimateBytes_913 : Fld Z h902 o0 "com/example/sidestep/sidestep/Starts" "penultimateBytes" "J" (.long (0 : Int64)) := (F_penultimateBytes_879.other W902 (Or.inr (slot_ne (Or.inr (hw _ (List.mem_of_getElem? (i := 55) rfl))) (Or.inr (hw _ (List.mem_of_getElem? (i := 51) rfl))) (by decide) (t := .long) (t' := .long) (by decide) (by decide))))
    have F_lastBytes_914 : Fld Z h902 o0 "com/example/sidestep/sidestep/Starts" "lastBytes" "J" (.long (0 : Int64)) := (F_lastBytes_880.other W902 (Or.inr (slot_ne (Or.inr (hw _ (List.mem_of_getElem? (i := 57) rfl))) (Or.inr (hw _ (List.mem_of_getElem? (i := 51) rfl))) (by decide) (t := .long) (t' := .long) (by decide) (by decide))))
    have F_patternWords_915 : Fld Z h902 o0 "com/example/sidestep/sidestep/Starts" "patternWords" "[J" .null := (F_patternWords_881.other W902 (Or.inr (slot_ne (Or.inr (hw _ (List.mem_of_getElem? (i := 59) rfl))) (Or.inr (hw _ (List.mem_of_getElem? (i := 51) rfl))) (by decide) (t := (.array .long)) (t' := .long) (by decide) (by decide))))
    have F_lastWordOffset_916 : Fld Z h902 o0 "com/example/sidestep/sidestep/Starts" "lastWordOffset" "I" (.int (0 : Int32)) := (F_lastWordOffset_882.other W902 (Or.inr (slot_ne (Or.inr (hw _ (List.mem_of_getElem? (i := 61) rfl))) (Or.inr (hw _ (List.mem_of_getElem? (i := 51) rfl))) (by decide) (t := .int) (t' := .long) (by decide) (by decide))))
    have F_lastWordMask_917 : Fld Z h902 o0 "com/example/sidestep/sidestep/Starts" "lastWordMask" "J" (.long (0 : Int64)) := (F_lastWordMask_883.other W902 (Or.inr (slot_ne (Or.inr (hw _ (List.mem_of_getElem? (i := 63) rfl))) (Or.inr (hw _ (List.mem_of_getElem? (i := 51) rfl))) (by decide) (t := .long) (t' := .long) (by decide) (by decide))))
    have F_source_918 : Fld Z h902 o0 "com/example/sidestep/sidestep/Starts" "source" "Lcom/example/sidestep/sidestep/Starts$LowBytes;" .null := (F_source_884.other W902 (Or.inr (slot_ne (Or.inl (hw _ (List.mem_of_getElem? (i := 76) rfl))) (Or.inr (hw _ (List.mem_of_getElem? (i := 51) rfl))) (by decide) (t := (.object "com/example/sidestep/sidestep/Starts$LowBytes")) (t' := .long) (by decide) (by decide))))
    have F_copiedTo_919 : Fld Z h902 o0 "com/example/sidestep/sidestep/Starts" "copiedTo" "I" (.int (0 : Int32)) := (F_copiedTo_885.other W902 (Or.inr (slot_ne (Or.inl (hw _ (List.mem_of_getElem? (i := 78) rfl))) (Or.inr (hw _ (List.mem_of_getElem? (i := 51) rfl))) (by decide) (t := .int) (t' := .long) (by decide) (by decide))))
    have F_lowBytes_920 : Fld Z h902 o0 "com/example/sidestep/sidestep/Starts" "lowBytes" "[B" .null := (F_lowBytes_886.other W902 (Or.inr (slot_ne (Or.inl (hw _ (List.mem_of_getElem? (i := 80) rfl))) (Or.inr (hw _ (List.mem_of_getElem? (i := 51) rfl))) (by decide) (t := (.array .byte)) (t' := .long) (by decide) (by decide))))
    have F_to_921 : Fld Z h902 o0 "com/example/sidestep/sidestep/Starts" "to" "I" (.int (0 : Int32)) := (F_to_887.other W902 (Or.inr (slot_ne (Or.inl (hw _ (List.mem_of_getElem? (i := 82) rfl))) (Or.inr (hw _ (List.mem_of_getElem? (i := 51) rfl))) (by decide) (t := .int) (t' := .long) (by decide) (by decide))))
    have F_placesEnd_922 : Fld Z h902 o0 "com/example/sidestep/sidestep/Starts" "placesEnd" "I" (.int (0 : Int32)) := (F_placesEnd_888.other W902 (Or.inr (slot_ne (Or.inl (hw _ (List.mem_of_getElem? (i := 84) rfl))) (Or.inr (hw _ (List.mem_of_getElem? (i := 51) rfl))) (by decide) (t := .int) (t' := .long) (by decide) (by decide))))
    have F_wholeEnd_923 : Fld Z h902 o0 "com/example/sidestep/sidestep/Starts" "wholeEnd" "I" (.int (0 : Int32)) := (F_wholeEnd_889.other W902 (Or.inr (slot_ne (Or.inl (hw _ (List.mem_of_getElem? (i := 86) rfl))) (Or.inr (hw _ (List.mem_of_getElem? (i := 51) rfl))) (by decide) (t := .int) (t' := .long) (by decide) (by decide))))
    have F_decidedEnd_924 : Fld Z h902 o0 "com/example/sidestep/sidestep/Starts" "decidedEnd" "I" (.int (0 : Int32)) := (F_decidedEnd_890.other W902 (Or.inr (slot_ne (Or.inl (hw _ (List.mem_of_getElem? (i := 88) rfl))) (Or.inr (hw _ (List.mem_of_getElem? (i := 51) rfl))) (by decide) (t := .int) (t' := .long) (by decide) (by decide))))
    have F_placed_925 : Fld Z h902 o0 "com/example/sidestep/sidestep/Starts" "placed" "I" (.int (0 : Int32)) := (F_placed_891.other W902 (Or.inr (slot_ne (Or.inl (hw _ (List.mem_of_getElem? (i := 90) rfl))) (Or.inr (hw _ (List.mem_of_getElem? (i := 51) rfl))) (by decide) (t := .int) (t' := .long) (by decide) (by decide))))
    have F_taken_926 : Fld Z h902 o0 "com/example/sidestep/sidestep/Starts" "taken" "I" (.int (0 : Int32)) := (F_taken_892.other W902 (Or.inr (slot_ne (Or.inl (hw _ (List.mem_of_getElem? (i := 92) rfl))) (Or.inr (hw _ (List.mem_of_getElem? (i := 51) rfl))) (by decide) (t := .int) (t' := .long) (by decide) (by decide))))
    have F_listedTo_927 : Fld Z h902 o0 "com/example/sidestep/sidestep/Starts" "listedTo" "I" (.int (0 : Int32)) := (F_listedTo_893.other W902 (Or.inr (slot_ne (Or.inl (hw _ (List.mem_of_getElem? (i := 94) rfl))) (Or.inr (hw _ (List.mem_of_getElem? (i := 51) rfl))) (by decide) (t := .int) (t' := .long) (by decide) (by decide))))
    have F_dense_928 : Fld Z h902 o0 "com/example/sidestep/sidestep/Starts" "dense" "Z" (.int (0 : Int32)) := (F_dense_894.other W902 (Or.inr (slot_ne (Or.inl (hw _ (List.mem_of_getElem? (i := 96) rfl))) (Or.inr (hw _ (List.mem_of_getElem? (i := 51) rfl))) (by decide) (t := .boolean) (t' := .long) (by decide) (by decide))))
    have F_marking_929 : Fld Z h902 o0 "com/example/sidestep/sidestep/Starts" "marking" "I" (.int (0 : Int32)) := (F_marking_895.other W902 (Or.inr (slot_ne (Or.inl (hw _ (List.mem_of_getElem? (i := 102) rfl))) (Or.inr (hw _ (List.mem_of_getElem? (i := 51) rfl))) (by decide) (t := .int) (t' := .long) (by decide) (by decide))))
    have F_sections_930 : Fld Z h902 o0 "com/example/sidestep/sidestep/Starts" "sections" "I" (.int (0 : Int32)) := (F_sections_896.other W902 (Or.inr (slot_ne (Or.inl (hw _ (List.mem_of_getElem? (i := 104) rfl))) (Or.inr (hw _ (List.mem_of_getElem? (i := 51) rfl))) (by decide) (t := .int) (t' := .long) (by decide) (by decide))))
    have F_handedSections_931 : Fld Z h902 o0 "com/example/sidestep/sidestep/Starts" "handedSections" "I" (.int (0 : Int32)) := (F_handedSections_897.other W902 (Or.inr (slot_ne (Or.inl (hw _ (List.mem_of_getElem? (i := 106) rfl))) (Or.inr (hw _ (List.mem_of_getElem? (i := 51) rfl))) (by decide) (t := .int) (t' := .long) (by decide) (by decide))))
    have V1_932 : Arv Z h902 o1 ku .int (Int32.ofNat nN) (us.map Value.int) (.int (0 : Int32)) := (V1_898.other W902 hne)
    have N902 := Fr.snoc X902 N901 gn_o0
    refine Got.step st902 ?_
    show Got p e below s _ _ _ _ T902 (mkF m 140 #[.val (.ref o0), .val (.ref o1), .unset, .unset, .unset] [])
    refine Got.step (T' := T902) (g' := (mkF m 143 #[.val (.ref o0), .val (.ref o1), .unset, .unset, .unset] [(.ref o0), (.ref o1), (.ref o0)])) (fun tq kt => ?_) ?_
    · show Steps p.tables e below (T902.setTop (mkF m 140 #[.val (.ref o0), .val (.ref o1), .unset, .unset, .unset] [])) _
      refine XS.aloadN X902.here hx rfl (hb hby d1_140) rfl rfl ?_
      show Steps p.tables e below (T902.setTop (mkF m 141 #[.val (.ref o0), .val (.ref o1), .unset, .unset, .unset] [(.ref o0)])) _
      refine XS.aloadN X902.here hx rfl (hb hby d1_141) rfl rfl ?_
      show Steps p.tables e below (T902.setTop (mkF m 142 #[.val (.ref o0), .val (.ref o1), .unset, .unset, .unset] [(.ref o1), (.ref o0)])) _
      refine XS.aloadN X902.here hx rfl (hb hby d1_142) rfl rfl ?_
      exact kt
    obtain ⟨T933, X933, e933, st933⟩ := getF X902 hx hZ hown (host := "") (Or.inl (hw _ (List.mem_of_getElem? (i := 36) rfl))) Via.refl e902 F_thirdOffset_909 (g := (mkF m 143 #[.val (.ref o0), .val (.ref o1), .unset, .unset, .unset] [(.ref o0), (.ref o1), (.ref o0)])) rfl rfl (hb hby d1_143)
    refine Got.step st933 ?_
    show Got p e below s _ _ _ _ T933 (mkF m 146 #[.val (.ref o0), .val (.ref o1), .unset, .unset, .unset] [(.int (f3 (2 : Int32) ((Int32.ofNat nN) - (1 : Int32)))), (.ref o1), (.ref o0)])
    obtain ⟨cl934, Ar934, q934, S934, M934, H934, G934⟩ := (id V1_932)
    have hin934 : ¬ ((f3 (2 : Int32) ((Int32.ofNat nN) - (1 : Int32))) < 0 ∨ cl934.slots.size ≤ ((f3 (2 : Int32) ((Int32.ofNat nN) - (1 : Int32)))).toNatClampNeg) := inb_of S934 (own_at2 hN)
    obtain ⟨x934, hx934⟩ := fit_I (G934 _ (Nat.lt_of_not_le fun y => hin934 (Or.inr y))) (by simp)
    refine Got.step (T' := T933) (fun tq kt => X933.iaload hx (j := (f3 (2 : Int32) ((Int32.ofNat nN) - (1 : Int32)))) (v := (.int x934)) (by rw [e933]; exact Ar934.1) (State.isArrayOf_alike hZ.alike Ar934.2.1) Ar934.2.2 hin934 (H934.at hin934 hx934) (g := (mkF m 146 #[.val (.ref o0), .val (.ref o1), .unset, .unset, .unset] [(.int (f3 (2 : Int32) ((Int32.ofNat nN) - (1 : Int32)))), (.ref o1), (.ref o0)])) rfl rfl (hb hby d1_146) tq kt) ?_
    show Got p e below s _ _ _ _ T933 (mkF m 147 #[.val (.ref o0), .val (.ref o1), .unset, .unset, .unset] [(.int x934), (.ref o0)])
    obtain ⟨_, _, ⟨T935, L935, k935, n935⟩, -, X935, ⟨Lc935, hQ935, l935, y935, z935⟩, st935⟩ := Jvm.LawKit.callS X933 hx (y := (⟨"com/example/sidestep/sidestep/Starts", "everyByte", "(I)J"⟩ : MethodName)) hown (mvT hZ (hw _ (List.mem_of_getElem? (i := 43) rfl))) (mvT hZ (hw _ (List.mem_of_getElem? (i := 44) rfl))) (mvT hZ (hw _ (List.mem_of_getElem? (i := 4) rfl))) (mvT hZ (hw _ (List.mem_of_getElem? (i := 45) rfl))) (by decide) (backOf (W := 1) (rm5 l Z a0 hw [] x934 h902 n0 Z0_903) hZ (hw _ (List.mem_of_getElem? (i := 45) rfl)) (hw _ (List.mem_of_getElem? (i := 4) rfl)) (by decide) (by decide)) (g := (mkF m 147 #[.val (.ref o0), .val (.ref o1), .unset, .unset, .unset] [(.int x934), (.ref o0)])) rfl (by rw [hml]; rfl) (argsL := [(.int x934)]) (rest := [(.ref o0)]) (lenOf pd_3 rfl) rfl (by show 2 * 0 + _ ≤ _; exact Nat.le_of_eq rfl) (hb hby d1_147) (fun _ _ => ⟨rfl, e933, (by decide : 5 + 0 ≤ _), (by decide : 41 + 0 ≤ _)⟩)
    dsimp only [Pt.U, Pt.locs, Pt.cells, Pt.slots] at X935 l935 y935 z935 st935 hQ935
    subst y935 z935
    obtain ⟨rfl, Nq935, e935⟩ := hQ935
    have N935 : Fr n0 L935 := by rw [l935]; exact Fr.app N902 Nq935
    refine Got.step st935 ?_
    show Got p e below s _ _ _ _ T935 (mkF m 150 #[.val (.ref o0), .val (.ref o1), .unset, .unset, .unset] [(.long (f5 x934)), (.ref o0)])
    obtain ⟨T936, h936, X936, e936, W936, st936⟩ := putF X935 hx hZ hown (host := "") (Or.inl (hw _ (List.mem_of_getElem? (i := 52) rfl))) Via.refl e935 F_thirdBytes_912 E_o0_905 (Or.inr ⟨(hw _ (List.mem_of_getElem? (i := 53) rfl)), rfl, hnm⟩) (hw _ (List.mem_of_getElem? (i := 3) rfl)) (ty := .long) (by decide) rfl rfl (g := (mkF m 150 #[.val (.ref o0), .val (.ref o1), .unset, .unset, .unset] [(.long (f5 x934)), (.ref o0)])) rfl rfl (hb hby d1_150)
    have Z0_937 : n0 ≤ h936.size := (Nat.le_trans Z0_903 (Keep.of_wr W936).1)
    have K0_938 : Keep h0 h936 [o0] := (K0_904.wr W936 (Or.inl (List.mem_of_getElem? (i := 0) rfl)))
    have E_o0_939 : Exa Z h936 o0 "com/example/sidestep/sidestep/Starts" := (E_o0_905.wr W936)
    have F_length_940 : Fld Z h936 o0 "com/example/sidestep/sidestep/Starts" "length" "I" (.int (Int32.ofNat nN)) := (F_length_906.other W936 (Or.inr (slot_ne (Or.inr (hw _ (List.mem_of_getElem? (i := 25) rfl))) (Or.inr (hw _ (List.mem_of_getElem? (i := 53) rfl))) (by decide) (t := .int) (t' := .long) (by decide) (by decide))))
    have F_lastOffset_941 : Fld Z h936 o0 "com/example/sidestep/sidestep/Starts" "lastOffset" "I" (.int ((Int32.ofNat nN) - (1 : Int32))) := (F_lastOffset_907.other W936 (Or.inr (slot_ne (Or.inr (hw _ (List.mem_of_getElem? (i := 29) rfl))) (Or.inr (hw _ (List.mem_of_getElem? (i := 53) rfl))) (by decide) (t := .int) (t' := .long) (by decide) (by decide))))
    have F_secondOffset_942 : Fld Z h936 o0 "com/example/sidestep/sidestep/Starts" "secondOffset" "I" (.int (f3 (1 : Int32) ((Int32.ofNat nN) - (1 : Int32)))) := (F_secondOffset_908.other W936 (Or.inr (slot_ne (Or.inr (hw _ (List.mem_of_getElem? (i := 35) rfl))) (Or.inr (hw _ (List.mem_of_getElem? (i := 53) rfl))) (by decide) (t := .int) (t' := .long) (by decide) (by decide))))
    have F_thirdOffset_943 : Fld Z h936 o0 "com/example/sidestep/sidestep/Starts" "thirdOffset" "I" (.int (f3 (2 : Int32) ((Int32.ofNat nN) - (1 : Int32)))) := (F_thirdOffset_909.other W936 (Or.inr (slot_ne (Or.inr (hw _ (List.mem_of_getElem? (i := 37) rfl))) (Or.inr (hw _ (List.mem_of_getElem? (i := 53) rfl))) (by decide) (t := .int) (t' := .long) (by decide) (by decide))))
    have F_penultimateOffset_944 : Fld Z h936 o0 "com/example/sidestep/sidestep/Starts" "penultimateOffset" "I" (.int (f4 (0 : Int32) (((Int32.ofNat nN) - (1 : Int32)) - (1 : Int32)))) := (F_penultimateOffset_910.other W936 (Or.inr (slot_ne (Or.inr (hw _ (List.mem_of_getElem? (i := 42) rfl))) (Or.inr (hw _ (List.mem_of_getElem? (i := 53) rfl))) (by decide) (t := .int) (t' := .long) (by decide) (by decide))))
    have F_thirdBytes_945 : Fld Z h936 o0 "com/example/sidestep/sidestep/Starts" "thirdBytes" "J" (.long (f5 x934)) := (F_thirdBytes_912.same W936)
    have F_penultimateBytes_946 : Fld Z h936 o0 "com/example/sidestep/sidestep/Starts" "penultimateBytes" "J" (.long (0 : Int64)) := (F_penultimateBytes_913.other W936 (Or.inr (slot_ne (Or.inr (hw _ (List.mem_of_getElem? (i := 55) rfl))) (Or.inr (hw _ (List.mem_of_getElem? (i := 53) rfl))) (by decide) (t := .long) (t' := .long) (by decide) (by decide))))
    have F_lastBytes_947 : Fld Z h936 o0 "com/example/sidestep/sidestep/Starts" "lastBytes" "J" (.long (0 : Int64)) := (F_lastBytes_914.other W936 (Or.inr (slot_ne (Or.inr (hw _ (List.mem_of_getElem? (i := 57) rfl))) (Or.inr (hw _ (List.mem_of_getElem? (i := 53) rfl))) (by decide) (t := .long) (t' := .long) (by decide) (by decide))))
    have F_patternWords_948 : Fld Z h936 o0 "com/example/sidestep/sidestep/Starts" "patternWords" "[J" .null := (F_patternWords_915.other W936 (Or.inr (slot_ne (Or.inr (hw _ (List.mem_of_getElem? (i := 59) rfl))) (Or.inr (hw _ (List.mem_of_getElem? (i := 53) rfl))) (by decide) (t := (.array .long)) (t' := .long) (by decide) (by decide))))
    have F_lastWordOffset_949 : Fld Z h936 o0 "com/example/sidestep/sidestep/Starts" "lastWordOffset" "I" (.int (0 : Int32)) := (F_lastWordOffset_916.other W936 (Or.inr (slot_ne (Or.inr (hw _ (List.mem_of_getElem? (i := 61) rfl))) (Or.inr (hw _ (List.mem_of_getElem? (i := 53) rfl))) (by decide) (t := .int) (t' := .long) (by decide) (by decide))))
    have F_lastWordMask_950 : Fld Z h936 o0 "com/example/sidestep/sidestep/Starts" "lastWordMask" "J" (.long (0 : Int64)) := (F_lastWordMask_917.other W936 (Or.inr (slot_ne (Or.inr (hw _ (List.mem_of_getElem? (i := 63) rfl))) (Or.inr (hw _ (List.mem_of_getElem? (i := 53) rfl))) (by decide) (t := .long) (t' := .long) (by decide) (by decide))))
    have F_source_951 : Fld Z h936 o0 "com/example/sidestep/sidestep/Starts" "source" "Lcom/example/sidestep/sidestep/Starts$LowBytes;" .null := (F_source_918.other W936 (Or.inr (slot_ne (Or.inl (hw _ (List.mem_of_getElem? (i := 76) rfl))) (Or.inr (hw _ (List.mem_of_getElem? (i := 53) rfl))) (by decide) (t := (.object "com/example/sidestep/sidestep/Starts$LowBytes")) (t' := .long) (by decide) (by decide))))
    have F_copiedTo_952 : Fld Z h936 o0 "com/example/sidestep/sidestep/Starts" "copiedTo" "I" (.int (0 : Int32)) := (F_copiedTo_919.other W936 (Or.inr (slot_ne (Or.inl (hw _ (List.mem_of_getElem? (i := 78) rfl))) (Or.inr (hw _ (List.mem_of_getElem? (i := 53) rfl))) (by decide) (t := .int) (t' := .long) (by decide) (by decide))))
    have F_lowBytes_953 : Fld Z h936 o0 "com/example/sidestep/sidestep/Starts" "lowBytes" "[B" .null := (F_lowBytes_920.other W936 (Or.inr (slot_ne (Or.inl (hw _ (List.mem_of_getElem? (i := 80) rfl))) (Or.inr (hw _ (List.mem_of_getElem? (i := 53) rfl))) (by decide) (t := (.array .byte)) (t' := .long) (by decide) (by decide))))
    have F_to_954 : Fld Z h936 o0 "com/example/sidestep/sidestep/Starts" "to" "I" (.int (0 : Int32)) := (F_to_921.other W936 (Or.inr (slot_ne (Or.inl (hw _ (List.mem_of_getElem? (i := 82) rfl))) (Or.inr (hw _ (List.mem_of_getElem? (i := 53) rfl))) (by decide) (t := .int) (t' := .long) (by decide) (by decide))))
    have F_placesEnd_955 : Fld Z h936 o0 "com/example/sidestep/sidestep/Starts" "placesEnd" "I" (.int (0 : Int32)) := (F_placesEnd_922.other W936 (Or.inr (slot_ne (Or.inl (hw _ (List.mem_of_getElem? (i := 84) rfl))) (Or.inr (hw _ (List.mem_of_getElem? (i := 53) rfl))) (by decide) (t := .int) (t' := .long) (by decide) (by decide))))
    have F_wholeEnd_956 : Fld Z h936 o0 "com/example/sidestep/sidestep/Starts" "wholeEnd" "I" (.int (0 : Int32)) := (F_wholeEnd_923.other W936 (Or.inr (slot_ne (Or.inl (hw _ (List.mem_of_getElem? (i := 86) rfl))) (Or.inr (hw _ (List.mem_of_getElem? (i := 53) rfl))) (by decide) (t := .int) (t' := .long) (by decide) (by decide))))
    have F_decidedEnd_957 : Fld Z h936 o0 "com/example/sidestep/sidestep/Starts" "decidedEnd" "I" (.int (0 : Int32)) := (F_decidedEnd_924.other W936 (Or.inr (slot_ne (Or.inl (hw _ (List.mem_of_getElem? (i := 88) rfl))) (Or.inr (hw _ (List.mem_of_getElem? (i := 53) rfl))) (by decide) (t := .int) (t' := .long) (by decide) (by decide))))
    have F_placed_958 : Fld Z h936 o0 "com/example/sidestep/sidestep/Starts" "placed" "I" (.int (0 : Int32)) := (F_placed_925.other W936 (Or.inr (slot_ne (Or.inl (hw _ (List.mem_of_getElem? (i := 90) rfl))) (Or.inr (hw _ (List.mem_of_getElem? (i := 53) rfl))) (by decide) (t := .int) (t' := .long) (by decide) (by decide))))
    have F_taken_959 : Fld Z h936 o0 "com/example/sidestep/sidestep/Starts" "taken" "I" (.int (0 : Int32)) := (F_taken_926.other W936 (Or.inr (slot_ne (Or.inl (hw _ (List.mem_of_getElem? (i := 92) rfl))) (Or.inr (hw _ (List.mem_of_getElem? (i := 53) rfl))) (by decide) (t := .int) (t' := .long) (by decide) (by decide))))
    have F_listedTo_960 : Fld Z h936 o0 "com/example/sidestep/sidestep/Starts" "listedTo" "I" (.int (0 : Int32)) := (F_listedTo_927.other W936 (Or.inr (slot_ne (Or.inl (hw _ (List.mem_of_getElem? (i := 94) rfl))) (Or.inr (hw _ (List.mem_of_getElem? (i := 53) rfl))) (by decide) (t := .int) (t' := .long) (by decide) (by decide))))
    have F_dense_961 : Fld Z h936 o0 "com/example/sidestep/sidestep/Starts" "dense" "Z" (.int (0 : Int32)) := (F_dense_928.other W936 (Or.inr (slot_ne (Or.inl (hw _ (List.mem_of_getElem? (i := 96) rfl))) (Or.inr (hw _ (List.mem_of_getElem? (i := 53) rfl))) (by decide) (t := .boolean) (t' := .long) (by decide) (by decide))))
    have F_marking_962 : Fld Z h936 o0 "com/example/sidestep/sidestep/Starts" "marking" "I" (.int (0 : Int32)) := (F_marking_929.other W936 (Or.inr (slot_ne (Or.inl (hw _ (List.mem_of_getElem? (i := 102) rfl))) (Or.inr (hw _ (List.mem_of_getElem? (i := 53) rfl))) (by decide) (t := .int) (t' := .long) (by decide) (by decide))))
    have F_sections_963 : Fld Z h936 o0 "com/example/sidestep/sidestep/Starts" "sections" "I" (.int (0 : Int32)) := (F_sections_930.other W936 (Or.inr (slot_ne (Or.inl (hw _ (List.mem_of_getElem? (i := 104) rfl))) (Or.inr (hw _ (List.mem_of_getElem? (i := 53) rfl))) (by decide) (t := .int) (t' := .long) (by decide) (by decide))))
    have F_handedSections_964 : Fld Z h936 o0 "com/example/sidestep/sidestep/Starts" "handedSections" "I" (.int (0 : Int32)) := (F_handedSections_931.other W936 (Or.inr (slot_ne (Or.inl (hw _ (List.mem_of_getElem? (i := 106) rfl))) (Or.inr (hw _ (List.mem_of_getElem? (i := 53) rfl))) (by decide) (t := .int) (t' := .long) (by decide) (by decide))))
    have V1_965 : Arv Z h936 o1 ku .int (Int32.ofNat nN) (us.map Value.int) (.int (0 : Int32)) := (V1_932.other W936 hne)
    have N936 := Fr.snoc X936 N935 gn_o0
    refine Got.step st936 ?_
    show Got p e below s _ _ _ _ T936 (mkF m 153 #[.val (.ref o0), .val (.ref o1), .unset, .unset, .unset] [])
    refine Got.step (T' := T936) (g' := (mkF m 156 #[.val (.ref o0), .val (.ref o1), .unset, .unset, .unset] [(.ref o0), (.ref o1), (.ref o0)])) (fun tq kt => ?_) ?_
    · show Steps p.tables e below (T936.setTop (mkF m 153 #[.val (.ref o0), .val (.ref o1), .unset, .unset, .unset] [])) _
      refine XS.aloadN X936.here hx rfl (hb hby d1_153) rfl rfl ?_
      show Steps p.tables e below (T936.setTop (mkF m 154 #[.val (.ref o0), .val (.ref o1), .unset, .unset, .unset] [(.ref o0)])) _
      refine XS.aloadN X936.here hx rfl (hb hby d1_154) rfl rfl ?_
      show Steps p.tables e below (T936.setTop (mkF m 155 #[.val (.ref o0), .val (.ref o1), .unset, .unset, .unset] [(.ref o1), (.ref o0)])) _
      refine XS.aloadN X936.here hx rfl (hb hby d1_155) rfl rfl ?_
      exact kt
    obtain ⟨T966, X966, e966, st966⟩ := getF X936 hx hZ hown (host := "") (Or.inl (hw _ (List.mem_of_getElem? (i := 41) rfl))) Via.refl e936 F_penultimateOffset_944 (g := (mkF m 156 #[.val (.ref o0), .val (.ref o1), .unset, .unset, .unset] [(.ref o0), (.ref o1), (.ref o0)])) rfl rfl (hb hby d1_156)
    refine Got.step st966 ?_
    show Got p e below s _ _ _ _ T966 (mkF m 159 #[.val (.ref o0), .val (.ref o1), .unset, .unset, .unset] [(.int (f4 (0 : Int32) (((Int32.ofNat nN) - (1 : Int32)) - (1 : Int32)))), (.ref o1), (.ref o0)])
    obtain ⟨cl967, Ar967, q967, S967, M967, H967, G967⟩ := (id V1_965)
    have hin967 : ¬ ((f4 (0 : Int32) (((Int32.ofNat nN) - (1 : Int32)) - (1 : Int32))) < 0 ∨ cl967.slots.size ≤ ((f4 (0 : Int32) (((Int32.ofNat nN) - (1 : Int32)) - (1 : Int32)))).toNatClampNeg) := inb_of S967 (own_atp hN)
    obtain ⟨x967, hx967⟩ := fit_I (G967 _ (Nat.lt_of_not_le fun y => hin967 (Or.inr y))) (by simp)
    refine Got.step (T' := T966) (fun tq kt => X966.iaload hx (j := (f4 (0 : Int32) (((Int32.ofNat nN) - (1 : Int32)) - (1 : Int32)))) (v := (.int x967)) (by rw [e966]; exact Ar967.1) (State.isArrayOf_alike hZ.alike Ar967.2.1) Ar967.2.2 hin967 (H967.at hin967 hx967) (g := (mkF m 159 #[.val (.ref o0), .val (.ref o1), .unset, .unset, .unset] [(.int (f4 (0 : Int32) (((Int32.ofNat nN) - (1 : Int32)) - (1 : Int32)))), (.ref o1), (.ref o0)])) rfl rfl (hb hby d1_159) tq kt) ?_
    show Got p e below s _ _ _ _ T966 (mkF m 160 #[.val (.ref o0), .val (.ref o1), .unset, .unset, .unset] [(.int x967), (.ref o0)])
    obtain ⟨_, _, ⟨T968, L968, k968, n968⟩, -, X968, ⟨Lc968, hQ968, l968, y968, z968⟩, st968⟩ := Jvm.LawKit.callS X966 hx (y := (⟨"com/example/sidestep/sidestep/Starts", "everyByte", "(I)J"⟩ : MethodName)) hown (mvT hZ (hw _ (List.mem_of_getElem? (i := 43) rfl))) (mvT hZ (hw _ (List.mem_of_getElem? (i := 44) rfl))) (mvT hZ (hw _ (List.mem_of_getElem? (i := 4) rfl))) (mvT hZ (hw _ (List.mem_of_getElem? (i := 45) rfl))) (by decide) (backOf (W := 1) (rm5 l Z a0 hw [] x967 h936 n0 Z0_937) hZ (hw _ (List.mem_of_getElem? (i := 45) rfl)) (hw _ (List.mem_of_getElem? (i := 4) rfl)) (by decide) (by decide)) (g := (mkF m 160 #[.val (.ref o0), .val (.ref o1), .unset, .unset, .unset] [(.int x967), (.ref o0)])) rfl (by rw [hml]; rfl) (argsL := [(.int x967)]) (rest := [(.ref o0)]) (lenOf pd_3 rfl) rfl (by show 2 * 0 + _ ≤ _; exact Nat.le_of_eq rfl) (hb hby d1_160) (fun _ _ => ⟨rfl, e966, (by decide : 5 + 0 ≤ _), (by decide : 41 + 0 ≤ _)⟩)
    dsimp only [Pt.U, Pt.locs, Pt.cells, Pt.slots] at X968 l968 y968 z968 st968 hQ968
    subst y968 z968
    obtain ⟨rfl, Nq968, e968⟩ := hQ968
    have N968 : Fr n0 L968 := by rw [l968]; exact Fr.app N936 Nq968
    refine Got.step st968 ?_
    show Got p e below s _ _ _ _ T968 (mkF m 163 #[.val (.ref o0), .val (.ref o1), .unset, .unset, .unset] [(.long (f5 x967)), (.ref o0)])
    obtain ⟨T969, h969, X969, e969, W969, st969⟩ := putF X968 hx hZ hown (host := "") (Or.inl (hw _ (List.mem_of_getElem? (i := 54) rfl))) Via.refl e968 F_penultimateBytes_946 E_o0_939 (Or.inr ⟨(hw _ (List.mem_of_getElem? (i := 55) rfl)), rfl, hnm⟩) (hw _ (List.mem_of_getElem? (i := 3) rfl)) (ty := .long) (by decide) rfl rfl (g := (mkF m 163 #[.val (.ref o0), .val (.ref o1), .unset, .unset, .unset] [(.long (f5 x967)), (.ref o0)])) rfl rfl (hb hby d1_163)
    have Z0_970 : n0 ≤ h969.size := (Nat.le_trans Z0_937 (Keep.of_wr W969).1)
    have K0_971 : Keep h0 h969 [o0] := (K0_938.wr W969 (Or.inl (List.mem_of_getElem? (i := 0) rfl)))
    have E_o0_972 : Exa Z h969 o0 "com/example/sidestep/sidestep/Starts" := (E_o0_939.wr W969)
    have F_length_973 : Fld Z h969 o0 "com/example/sidestep/sidestep/Starts" "length" "I" (.int (Int32.ofNat nN)) := (F_length_940.other W969 (Or.inr (slot_ne (Or.inr (hw _ (List.mem_of_getElem? (i := 25) rfl))) (Or.inr (hw _ (List.mem_of_getElem? (i := 55) rfl))) (by decide) (t := .int) (t' := .long) (by decide) (by decide))))
    have F_lastOffset_974 : Fld Z h969 o0 "com/example/sidestep/sidestep/Starts" "lastOffset" "I" (.int ((Int32.ofNat nN) - (1 : Int32))) := (F_lastOffset_941.other W969 (Or.inr (slot_ne (Or.inr (hw _ (List.mem_of_getElem? (i := 29) rfl))) (Or.inr (hw _ (List.mem_of_getElem? (i := 55) rfl))) (by decide) (t := .int) (t' := .long) (by decide) (by decide))))
    have F_secondOffset_975 : Fld Z h969 o0 "com/example/sidestep/sidestep/Starts" "secondOffset" "I" (.int (f3 (1 : Int32) ((Int32.ofNat nN) - (1 : Int32)))) := (F_secondOffset_942.other W969 (Or.inr (slot_ne (Or.inr (hw _ (List.mem_of_getElem? (i := 35) rfl))) (Or.inr (hw _ (List.mem_of_getElem? (i := 55) rfl))) (by decide) (t := .int) (t' := .long) (by decide) (by decide))))
    have F_thirdOffset_976 : Fld Z h969 o0 "com/example/sidestep/sidestep/Starts" "thirdOffset" "I" (.int (f3 (2 : Int32) ((Int32.ofNat nN) - (1 : Int32)))) := (F_thirdOffset_943.other W969 (Or.inr (slot_ne (Or.inr (hw _ (List.mem_of_getElem? (i := 37) rfl))) (Or.inr (hw _ (List.mem_of_getElem? (i := 55) rfl))) (by decide) (t := .int) (t' := .long) (by decide) (by decide))))
    have F_penultimateOffset_977 : Fld Z h969 o0 "com/example/sidestep/sidestep/Starts" "penultimateOffset" "I" (.int (f4 (0 : Int32) (((Int32.ofNat nN) - (1 : Int32)) - (1 : Int32)))) := (F_penultimateOffset_944.other W969 (Or.inr (slot_ne (Or.inr (hw _ (List.mem_of_getElem? (i := 42) rfl))) (Or.inr (hw _ (List.mem_of_getElem? (i := 55) rfl))) (by decide) (t := .int) (t' := .long) (by decide) (by decide))))
    have F_penultimateBytes_978 : Fld Z h969 o0 "com/example/sidestep/sidestep/Starts" "penultimateBytes" "J" (.long (f5 x967)) := (F_penultimateBytes_946.same W969)
    have F_lastBytes_979 : Fld Z h969 o0 "com/example/sidestep/sidestep/Starts" "lastBytes" "J" (.long (0 : Int64)) := (F_lastBytes_947.other W969 (Or.inr (slot_ne (Or.inr (hw _ (List.mem_of_getElem? (i := 57) rfl))) (Or.inr (hw _ (List.mem_of_getElem? (i := 55) rfl))) (by decide) (t := .long) (t' := .long) (by decide) (by decide))))
    have F_patternWords_980 : Fld Z h969 o0 "com/example/sidestep/sidestep/Starts" "patternWords" "[J" .null := (F_patternWords_948.other W969 (Or.inr (slot_ne (Or.inr (hw _ (List.mem_of_getElem? (i := 59) rfl))) (Or.inr (hw _ (List.mem_of_getElem? (i := 55) rfl))) (by decide) (t := (.array .long)) (t' := .long) (by decide) (by decide))))
    have F_lastWordOffset_981 : Fld Z h969 o0 "com/example/sidestep/sidestep/Starts" "lastWordOffset" "I" (.int (0 : Int32)) := (F_lastWordOffset_949.other W969 (Or.inr (slot_ne (Or.inr (hw _ (List.mem_of_getElem? (i := 61) rfl))) (Or.inr (hw _ (List.mem_of_getElem? (i := 55) rfl))) (by decide) (t := .int) (t' := .long) (by decide) (by decide))))
    have F_lastWordMask_982 : Fld Z h969 o0 "com/example/sidestep/sidestep/Starts" "lastWordMask" "J" (.long (0 : Int64)) := (F_lastWordMask_950.other W969 (Or.inr (slot_ne (Or.inr (hw _ (List.mem_of_getElem? (i := 63) rfl))) (Or.inr (hw _ (List.mem_of_getElem? (i := 55) rfl))) (by decide) (t := .long) (t' := .long) (by decide) (by decide))))
    have F_source_983 : Fld Z h969 o0 "com/example/sidestep/sidestep/Starts" "source" "Lcom/example/sidestep/sidestep/Starts$LowBytes;" .null := (F_source_951.other W969 (Or.inr (slot_ne (Or.inl (hw _ (List.mem_of_getElem? (i := 76) rfl))) (Or.inr (hw _ (List.mem_of_getElem? (i := 55) rfl))) (by decide) (t := (.object "com/example/sidestep/sidestep/Starts$LowBytes")) (t' := .long) (by decide) (by decide))))
    have F_copiedTo_984 : Fld Z h969 o0 "com/example/sidestep/sidestep/Starts" "copiedTo" "I" (.int (0 : Int32)) := (F_copiedTo_952.other W969 (Or.inr (slot_ne (Or.inl (hw _ (List.mem_of_getElem? (i := 78) rfl))) (Or.inr (hw _ (List.mem_of_getElem? (i := 55) rfl))) (by decide) (t := .int) (t' := .long) (by decide) (by decide))))
    have F_lowBytes_985 : Fld Z h969 o0 "com/example/sidestep/sidestep/Starts" "lowBytes" "[B" .null := (F_lowBytes_953.other W969 (Or.inr (slot_ne (Or.inl (hw _ (List.mem_of_getElem? (i := 80) rfl))) (Or.inr (hw _ (List.mem_of_getElem? (i := 55) rfl))) (by decide) (t := (.array .byte)) (t' := .long) (by decide) (by decide))))
    have F_to_986 : Fld Z h969 o0 "com/example/sidestep/sidestep/Starts" "to" "I" (.int (0 : Int32)) := (F_to_954.other W969 (Or.inr (slot_ne (Or.inl (hw _ (List.mem_of_getElem? (i := 82) rfl))) (Or.inr (hw _ (List.mem_of_getElem? (i := 55) rfl))) (by decide) (t := .int) (t' := .long) (by decide) (by decide))))
    have F_placesEnd_987 : Fld Z h969 o0 "com/example/sidestep/sidestep/Starts" "placesEnd" "I" (.int (0 : Int32)) := (F_placesEnd_955.other W969 (Or.inr (slot_ne (Or.inl (hw _ (List.mem_of_getElem? (i := 84) rfl))) (Or.inr (hw _ (List.mem_of_getElem? (i := 55) rfl))) (by decide) (t := .int) (t' := .long) (by decide) (by decide))))
    have F_wholeEnd_988 : Fld Z h969 o0 "com/example/sidestep/sidestep/Starts" "wholeEnd" "I" (.int (0 : Int32)) := (F_wholeEnd_956.other W969 (Or.inr (slot_ne (Or.inl (hw _ (List.mem_of_getElem? (i := 86) rfl))) (Or.inr (hw _ (List.mem_of_getElem? (i := 55) rfl))) (by decide) (t := .int) (t' := .long) (by decide) (by decide))))
    have F_decidedEnd_989 : Fld Z h969 o0 "com/example/sidestep/sidestep/Starts" "decidedEnd" "I" (.int (0 : Int32)) := (F_decidedEnd_957.other W969 (Or.inr (slot_ne (Or.inl (hw _ (List.mem_of_getElem? (i := 88) rfl))) (Or.inr (hw _ (List.mem_of_getElem? (i := 55) rfl))) (by decide) (t := .int) (t' := .long) (by decide) (by decide))))
    have F_placed_990 : Fld Z h969 o0 "com/example/sidestep/sidestep/Starts" "placed" "I" (.int (0 : Int32)) := (F_placed_958.other W969 (Or.inr (slot_ne (Or.inl (hw _ (List.mem_of_getElem? (i := 90) rfl))) (Or.inr (hw _ (List.mem_of_getElem? (i := 55) rfl))) (by decide) (t := .int) (t' := .long) (by decide) (by decide))))
    have F_taken_991 : Fld Z h969 o0 "com/example/sidestep/sidestep/Starts" "taken" "I" (.int (0 : Int32)) := (F_taken_959.other W969 (Or.inr (slot_ne (Or.inl (hw _ (List.mem_of_getElem? (i := 92) rfl))) (Or.inr (hw _ (List.mem_of_getElem? (i := 55) rfl))) (by decide) (t := .int) (t' := .long) (by decide) (by decide))))
    have F_listedTo_992 : Fld Z h969 o0 "com/example/sidestep/sidestep/Starts" "listedTo" "I" (.int (0 : Int32)) := (F_listedTo_960.other W969 (Or.inr (slot_ne (Or.inl (hw _ (List.mem_of_getElem? (i := 94) rfl))) (Or.inr (hw _ (List.mem_of_getElem? (i := 55) rfl))) (by decide) (t := .int) (t' := .long) (by decide) (by decide))))
    have F_dense_993 : Fld Z h969 o0 "com/example/sidestep/sidestep/Starts" "dense" "Z" (.int (0 : Int32)) := (F_dense_961.other W969 (Or.inr (slot_ne (Or.inl (hw _ (List.mem_of_getElem? (i := 96) rfl))) (Or.inr (hw _ (List.mem_of_getElem? (i := 55) rfl))) (by decide) (t := .boolean) (t' := .long) (by decide) (by decide))))
    have F_marking_994 : Fld Z h969 o0 "com/example/sidestep/sidestep/Starts" "marking" "I" (.int (0 : Int32)) := (F_marking_962.other W969 (Or.inr (slot_ne (Or.inl (hw _ (List.mem_of_getElem? (i := 102) rfl))) (Or.inr (hw _ (List.mem_of_getElem? (i := 55) rfl))) (by decide) (t := .int) (t' := .long) (by decide) (by decide))))
    have F_sections_995 : Fld Z h969 o0 "com/example/sidestep/sidestep/Starts" "sections" "I" (.int (0 : Int32)) := (F_sections_963.other W969 (Or.inr (slot_ne (Or.inl (hw _ (List.mem_of_getElem? (i := 104) rfl))) (Or.inr (hw _ (List.mem_of_getElem? (i := 55) rfl))) (by decide) (t := .int) (t' := .long) (by decide) (by decide))))
    have F_handedSections_996 : Fld Z h969 o0 "com/example/sidestep/sidestep/Starts" "handedSections" "I" (.int (0 : Int32)) := (F_handedSections_964.other W969 (Or.inr (slot_ne (Or.inl (hw _ (List.mem_of_getElem? (i := 106) rfl))) (Or.inr (hw _ (List.mem_of_getElem? (i := 55) rfl))) (by decide) (t := .int) (t' := .long) (by decide) (by decide))))
    have V1_997 : Arv Z h969 o1 ku .int (Int32.ofNat nN) (us.map Value.int) (.int (0 : Int32)) := (V1_965.other W969 hne)
    have N969 := Fr.snoc X969 N968 gn_o0
    refine Got.step st969 ?_
    show Got p e below s _ _ _ _ T969 (mkF m 166 #[.val (.ref o0), .val (.ref o1), .unset, .unset, .unset] [])
    refine Got.step (T' := T969) (g' := (mkF m 169 #[.val (.ref o0), .val (.ref o1), .unset, .unset, .unset] [(.ref o0), (.ref o1), (.ref o0)])) (fun tq kt => ?_) ?_
    · show Steps p.tables e below (T969.setTop (mkF m 166 #[.val (.ref o0), .val (.ref o1), .unset, .unset, .unset] [])) _
      refine XS.aloadN X969.here hx rfl (hb hby d1_166) rfl rfl ?_
      show Steps p.tables e below (T969.setTop (mkF m 167 #[.val (.ref o0), .val (.ref o1), .unset, .unset, .unset] [(.ref o0)])) _
      refine XS.aloadN X969.here hx rfl (hb hby d1_167) rfl rfl ?_
      show Steps p.tables e below (T969.setTop (mkF m 168 #[.val (.ref o0), .val (.ref o1), .unset, .unset, .unset] [(.ref o1), (.ref o0)])) _
      refine XS.aloadN X969.here hx rfl (hb hby d1_168) rfl rfl ?_
      exact kt
    obtain ⟨T998, X998, e998, st998⟩ := getF X969 hx hZ hown (host := "") (Or.inl (hw _ (List.mem_of_getElem? (i := 28) rfl))) Via.refl e969 F_lastOffset_974 (g := (mkF m 169 #[.val (.ref o0), .val (.ref o1), .unset, .unset, .unset] [(.ref o0), (.ref o1), (.ref o0)])) rfl rfl (hb hby d1_169)
    refine Got.step st998 ?_
    show Got p e below s _ _ _ _ T998 (mkF m 172 #[.val (.ref o0), .val (.ref o1), .unset, .unset, .unset] [(.int ((Int32.ofNat nN) - (1 : Int32))), (.ref o1), (.ref o0)])
    obtain ⟨cl999, Ar999, q999, S999, M999, H999, G999⟩ := (id V1_997)
    have hin999 : ¬ (((Int32.ofNat nN) - (1 : Int32)) < 0 ∨ cl999.slots.size ≤ (((Int32.ofNat nN) - (1 : Int32))).toNatClampNeg) := inb_of S999 (own_atl hN)
    obtain ⟨x999, hx999⟩ := fit_I (G999 _ (Nat.lt_of_not_le fun y => hin999 (Or.inr y))) (by simp)
    refine Got.step (T' := T998) (fun tq kt => X998.iaload hx (j := ((Int32.ofNat nN) - (1 : Int32))) (v := (.int x999)) (by rw [e998]; exact Ar999.1) (State.isArrayOf_alike hZ.alike Ar999.2.1) Ar999.2.2 hin999 (H999.at hin999 hx999) (g := (mkF m 172 #[.val (.ref o0), .val (.ref o1), .unset, .unset, .unset] [(.int ((Int32.ofNat nN) - (1 : Int32))), (.ref o1), (.ref o0)])) rfl rfl (hb hby d1_172) tq kt) ?_
    show Got p e below s _ _ _ _ T998 (mkF m 173 #[.val (.ref o0), .val (.ref o1), .unset, .unset, .unset] [(.int x999), (.ref o0)])
    obtain ⟨_, _, ⟨T1000, L1000, k1000, n1000⟩, -, X1000, ⟨Lc1000, hQ1000, l1000, y1000, z1000⟩, st1000⟩ := Jvm.LawKit.callS X998 hx (y := (⟨"com/example/sidestep/sidestep/Starts", "everyByte", "(I)J"⟩ : MethodName)) hown (mvT hZ (hw _ (List.mem_of_getElem? (i := 43) rfl))) (mvT hZ (hw _ (List.mem_of_getElem? (i := 44) rfl))) (mvT hZ (hw _ (List.mem_of_getElem? (i := 4) rfl))) (mvT hZ (hw _ (List.mem_of_getElem? (i := 45) rfl))) (by decide) (backOf (W := 1) (rm5 l Z a0 hw [] x999 h969 n0 Z0_970) hZ (hw _ (List.mem_of_getElem? (i := 45) rfl)) (hw _ (List.mem_of_getElem? (i := 4) rfl)) (by decide) (by decide)) (g := (mkF m 173 #[.val (.ref o0), .val (.ref o1), .unset, .unset, .unset] [(.int x999), (.ref o0)])) rfl (by rw [hml]; rfl) (argsL := [(.int x999)]) (rest := [(.ref o0)]) (lenOf pd_3 rfl) rfl (by show 2 * 0 + _ ≤ _; exact Nat.le_of_eq rfl) (hb hby d1_173) (fun _ _ => ⟨rfl, e998, (by decide : 5 + 0 ≤ _), (by decide : 41 + 0 ≤ _)⟩)
    dsimp only [Pt.U, Pt.locs, Pt.cells, Pt.slots] at X1000 l1000 y1000 z1000 st1000 hQ1000
    subst y1000 z1000
    obtain ⟨rfl, Nq1000, e1000⟩ := hQ1000
    have N1000 : Fr n0 L1000 := by rw [l1000]; exact Fr.app N969 Nq1000
    refine Got.step st1000 ?_
    show Got p e below s _ _ _ _ T1000 (mkF m 176 #[.val (.ref o0), .val (.ref o1), .unset, .unset, .unset] [(.long (f5 x999)), (.ref o0)])
    obtain ⟨T1001, h1001, X1001, e1001, W1001, st1001⟩ := putF X1000 hx hZ hown (host := "") (Or.inl (hw _ (List.mem_of_getElem? (i := 56) rfl))) Via.refl e1000 F_lastBytes_979 E_o0_972 (Or.inr ⟨(hw _ (List.mem_of_getElem? (i := 57) rfl)), rfl, hnm⟩) (hw _ (List.mem_of_getElem? (i := 3) rfl)) (ty := .long) (by decide) rfl rfl (g := (mkF m 176 #[.val (.ref o0), .val (.ref o1), .unset, .unset, .unset] [(.long (f5 x999)), (.ref o0)])) rfl rfl (hb hby d1_176)
    have Z0_1002 : n0 ≤ h1001.size := (Nat.le_trans Z0_970 (Keep.of_wr W1001).1)
    have K0_1003 : Keep h0 h1001 [o0] := (K0_971.wr W1001 (Or.inl (List.mem_of_getElem? (i := 0) rfl)))
    have E_o0_1004 : Exa Z h1001 o0 "com/example/sidestep/sidestep/Starts" := (E_o0_972.wr W1001)
    have F_length_1005 : Fld Z h1001 o0 "com/example/sidestep/sidestep/Starts" "length" "I" (.int (Int32.ofNat nN)) := (F_length_973.other W1001 (Or.inr (slot_ne (Or.inr (hw _ (List.mem_of_getElem? (i := 25) rfl))) (Or.inr (hw _ (List.mem_of_getElem? (i := 57) rfl))) (by decide) (t := .int) (t' := .long) (by decide) (by decide))))
    have F_lastOffset_1006 : Fld Z h1001 o0 "com/example/sidestep/sidestep/Starts" "lastOffset" "I" (.int ((Int32.ofNat nN) - (1 : Int32))) := (F_lastOffset_974.other W1001 (Or.inr (slot_ne (Or.inr (hw _ (List.mem_of_getElem? (i := 29) rfl))) (Or.inr (hw _ (List.mem_of_getElem? (i := 57) rfl))) (by decide) (t := .int) (t' := .long) (by decide) (by decide))))
    have F_secondOffset_1007 : Fld Z h1001 o0 "com/example/sidestep/sidestep/Starts" "secondOffset" "I" (.int (f3 (1 : Int32) ((Int32.ofNat nN) - (1 : Int32)))) := (F_secondOffset_975.other W1001 (Or.inr (slot_ne (Or.inr (hw _ (List.mem_of_getElem? (i := 35) rfl))) (Or.inr (hw _ (List.mem_of_getElem? (i := 57) rfl))) (by decide) (t := .int) (t' := .long) (by decide) (by decide))))
    have F_thirdOffset_1008 : Fld Z h1001 o0 "com/example/sidestep/sidestep/Starts" "thirdOffset" "I" (.int (f3 (2 : Int32) ((Int32.ofNat nN) - (1 : Int32)))) := (F_thirdOffset_976.other W1001 (Or.inr (slot_ne (Or.inr (hw _ (List.mem_of_getElem? (i := 37) rfl))) (Or.inr (hw _ (List.mem_of_getElem? (i := 57) rfl))) (by decide) (t := .int) (t' := .long) (by decide) (by decide))))
    have F_penultimateOffset_1009 : Fld Z h1001 o0 "com/example/sidestep/sidestep/Starts" "penultimateOffset" "I" (.int (f4 (0 : Int32) (((Int32.ofNat nN) - (1 : Int32)) - (1 : Int32)))) := (F_penultimateOffset_977.other W1001 (Or.inr (slot_ne (Or.inr (hw _ (List.mem_of_getElem? (i := 42) rfl))) (Or.inr (hw _ (List.mem_of_getElem? (i := 57) rfl))) (by decide) (t := .int) (t' := .long) (by decide) (by decide))))
    have F_lastBytes_1010 : Fld Z h1001 o0 "com/example/sidestep/sidestep/Starts" "lastBytes" "J" (.long (f5 x999)) := (F_lastBytes_979.same W1001)
    have F_patternWords_1011 : Fld Z h1001 o0 "com/example/sidestep/sidestep/Starts" "patternWords" "[J" .null := (F_patternWords_980.other W1001 (Or.inr (slot_ne (Or.inr (hw _ (List.mem_of_getElem? (i := 59) rfl))) (Or.inr (hw _ (List.mem_of_getElem? (i := 57) rfl))) (by decide) (t := (.array .long)) (t' := .long) (by decide) (by decide))))
    have F_lastWordOffset_1012 : Fld Z h1001 o0 "com/example/sidestep/sidestep/Starts" "lastWordOffset" "I" (.int (0 : Int32)) := (F_lastWordOffset_981.other W1001 (Or.inr (slot_ne (Or.inr (hw _ (List.mem_of_getElem? (i := 61) rfl))) (Or.inr (hw _ (List.mem_of_getElem? (i := 57) rfl))) (by decide) (t := .int) (t' := .long) (by decide) (by decide))))
    have F_lastWordMask_1013 : Fld Z h1001 o0 "com/example/sidestep/sidestep/Starts" "lastWordMask" "J" (.long (0 : Int64)) := (F_lastWordMask_982.other W1001 (Or.inr (slot_ne (Or.inr (hw _ (List.mem_of_getElem? (i := 63) rfl))) (Or.inr (hw _ (List.mem_of_getElem? (i := 57) rfl))) (by decide) (t := .long) (t' := .long) (by decide) (by decide))))
    have F_source_1014 : Fld Z h1001 o0 "com/example/sidestep/sidestep/Starts" "source" "Lcom/example/sidestep/sidestep/Starts$LowBytes;" .null := (F_source_983.other W1001 (Or.inr (slot_ne (Or.inl (hw _ (List.mem_of_getElem? (i := 76) rfl))) (Or.inr (hw _ (List.mem_of_getElem? (i := 57) rfl))) (by decide) (t := (.object "com/example/sidestep/sidestep/Starts$LowBytes")) (t' := .long) (by decide) (by decide))))
    have F_copiedTo_1015 : Fld Z h1001 o0 "com/example/sidestep/sidestep/Starts" "copiedTo" "I" (.int (0 : Int32)) := (F_copiedTo_984.other W1001 (Or.inr (slot_ne (Or.inl (hw _ (List.mem_of_getElem? (i := 78) rfl))) (Or.inr (hw _ (List.mem_of_getElem? (i := 57) rfl))) (by decide) (t := .int) (t' := .long) (by decide) (by decide))))
    have F_lowBytes_1016 : Fld Z h1001 o0 "com/example/sidestep/sidestep/Starts" "lowBytes" "[B" .null := (F_lowBytes_985.other W1001 (Or.inr (slot_ne (Or.inl (hw _ (List.mem_of_getElem? (i := 80) rfl))) (Or.inr (hw _ (List.mem_of_getElem? (i := 57) rfl))) (by decide) (t := (.array .byte)) (t' := .long) (by decide) (by decide))))
    have F_to_1017 : Fld Z h1001 o0 "com/example/sidestep/sidestep/Starts" "to" "I" (.int (0 : Int32)) := (F_to_986.other W1001 (Or.inr (slot_ne (Or.inl (hw _ (List.mem_of_getElem? (i := 82) rfl))) (Or.inr (hw _ (List.mem_of_getElem? (i := 57) rfl))) (by decide) (t := .int) (t' := .long) (by decide) (by decide))))
    have F_placesEnd_1018 : Fld Z h1001 o0 "com/example/sidestep/sidestep/Starts" "placesEnd" "I" (.int (0 : Int32)) := (F_placesEnd_987.other W1001 (Or.inr (slot_ne (Or.inl (hw _ (List.mem_of_getElem? (i := 84) rfl))) (Or.inr (hw _ (List.mem_of_getElem? (i := 57) rfl))) (by decide) (t := .int) (t' := .long) (by decide) (by decide))))
    have F_wholeEnd_1019 : Fld Z h1001 o0 "com/example/sidestep/sidestep/Starts" "wholeEnd" "I" (.int (0 : Int32)) := (F_wholeEnd_988.other W1001 (Or.inr (slot_ne (Or.inl (hw _ (List.mem_of_getElem? (i := 86) rfl))) (Or.inr (hw _ (List.mem_of_getElem? (i := 57) rfl))) (by decide) (t := .int) (t' := .long) (by decide) (by decide))))
    have F_decidedEnd_1020 : Fld Z h1001 o0 "com/example/sidestep/sidestep/Starts" "decidedEnd" "I" (.int (0 : Int32)) := (F_decidedEnd_989.other W1001 (Or.inr (slot_ne (Or.inl (hw _ (List.mem_of_getElem? (i := 88) rfl))) (Or.inr (hw _ (List.mem_of_getElem? (i := 57) rfl))) (by decide) (t := .int) (t' := .long) (by decide) (by decide))))
    have F_placed_1021 : Fld Z h1001 o0 "com/example/sidestep/sidestep/Starts" "placed" "I" (.int (0 : Int32)) := (F_placed_990.other W1001 (Or.inr (slot_ne (Or.inl (hw _ (List.mem_of_getElem? (i := 90) rfl))) (Or.inr (hw _ (List.mem_of_getElem? (i := 57) rfl))) (by decide) (t := .int) (t' := .long) (by decide) (by decide))))
    have F_taken_1022 : Fld Z h1001 o0 "com/example/sidestep/sidestep/Starts" "taken" "I" (.int (0 : Int32)) := (F_taken_991.other W1001 (Or.inr (slot_ne (Or.inl (hw _ (List.mem_of_getElem? (i := 92) rfl))) (Or.inr (hw _ (List.mem_of_getElem? (i := 57) rfl))) (by decide) (t := .int) (t' := .long) (by decide) (by decide))))
    have F_listedTo_1023 : Fld Z h1001 o0 "com/example/sidestep/sidestep/Starts" "listedTo" "I" (.int (0 : Int32)) := (F_listedTo_992.other W1001 (Or.inr (slot_ne (Or.inl (hw _ (List.mem_of_getElem? (i := 94) rfl))) (Or.inr (hw _ (List.mem_of_getElem? (i := 57) rfl))) (by decide) (t := .int) (t' := .long) (by decide) (by decide))))
    have F_dense_1024 : Fld Z h1001 o0 "com/example/sidestep/sidestep/Starts" "dense" "Z" (.int (0 : Int32)) := (F_dense_993.other W1001 (Or.inr (slot_ne (Or.inl (hw _ (List.mem_of_getElem? (i := 96) rfl))) (Or.inr (hw _ (List.mem_of_getElem? (i := 57) rfl))) (by decide) (t := .boolean) (t' := .long) (by decide) (by decide))))
    have F_marking_1025 : Fld Z h1001 o0 "com/example/sidestep/sidestep/Starts" "marking" "I" (.int (0 : Int32)) := (F_marking_994.other W1001 (Or.inr (slot_ne (Or.inl (hw _ (List.mem_of_getElem? (i := 102) rfl))) (Or.inr (hw _ (List.mem_of_getElem? (i := 57) rfl))) (by decide) (t := .int) (t' := .long) (by decide) (by decide))))
    have F_sections_1026 : Fld Z h1001 o0 "com/example/sidestep/sidestep/Starts" "sections" "I" (.int (0 : Int32)) := (F_sections_995.other W1001 (Or.inr (slot_ne (Or.inl (hw _ (List.mem_of_getElem? (i := 104) rfl))) (Or.inr (hw _ (List.mem_of_getElem? (i := 57) rfl))) (by decide) (t := .int) (t' := .long) (by decide) (by decide))))
    have F_handedSections_1027 : Fld Z h1001 o0 "com/example/sidestep/sidestep/Starts" "handedSections" "I" (.int (0 : Int32)) := (F_handedSections_996.other W1001 (Or.inr (slot_ne (Or.inl (hw _ (List.mem_of_getElem? (i := 106) rfl))) (Or.inr (hw _ (List.mem_of_getElem? (i := 57) rfl))) (by decide) (t := .int) (t' := .long) (by decide) (by decide))))
    have V1_1028 : Arv Z h1001 o1 ku .int (Int32.ofNat nN) (us.map Value.int) (.int (0 : Int32)) := (V1_997.other W1001 hne)
    have N1001 := Fr.snoc X1001 N1000 gn_o0
    refine Got.step st1001 ?_
    show Got p e below s _ _ _ _ T1001 (mkF m 179 #[.val (.ref o0), .val (.ref o1), .unset, .unset, .unset] [])
    refine Got.step (T' := T1001) (g' := (mkF m 181 #[.val (.ref o0), .val (.ref o1), .unset, .unset, .unset] [(.ref o0), (.ref o0)])) (fun tq kt => ?_) ?_
    · show Steps p.tables e below (T1001.setTop (mkF m 179 #[.val (.ref o0), .val (.ref o1), .unset, .unset, .unset] [])) _
      refine XS.aloadN X1001.here hx rfl (hb hby d1_179) rfl rfl ?_
      show Steps p.tables e below (T1001.setTop (mkF m 180 #[.val (.ref o0), .val (.ref o1), .unset, .unset, .unset] [(.ref o0)])) _
      refine XS.aloadN X1001.here hx rfl (hb hby d1_180) rfl rfl ?_
      exact kt
    obtain ⟨T1029, X1029, e1029, st1029⟩ := getF X1001 hx hZ hown (host := "") (Or.inl (hw _ (List.mem_of_getElem? (i := 24) rfl))) Via.refl e1001 F_length_1005 (g := (mkF m 181 #[.val (.ref o0), .val (.ref o1), .unset, .unset, .unset] [(.ref o0), (.ref o0)])) rfl rfl (hb hby d1_181)
    refine Got.step st1029 ?_
    show Got p e below s _ _ _ _ T1029 (mkF m 184 #[.val (.ref o0), .val (.ref o1), .unset, .unset, .unset] [(.int (Int32.ofNat nN)), (.ref o0)])
    refine Got.step (T' := T1029) (g' := (mkF m 190 #[.val (.ref o0), .val (.ref o1), .unset, .unset, .unset] [(.ref o0), (.ref o0)])) (fun tq kt => ?_) ?_
    · show Steps p.tables e below (T1029.setTop (mkF m 184 #[.val (.ref o0), .val (.ref o1), .unset, .unset, .unset] [(.int (Int32.ofNat nN)), (.ref o0)])) _
      refine XS.bipush X1029.here hx rfl (hb hby d1_184) ?_
      show Steps p.tables e below (T1029.setTop (mkF m 186 #[.val (.ref o0), .val (.ref o1), .unset, .unset, .unset] [(.int (64 : Int32)), (.int (Int32.ofNat nN)), (.ref o0)])) _
      refine XS.icmpNo X1029.here hx rfl (hb hby d1_186) rfl (XT.ii_gt_f (own_64 hN)) ?_
      show Steps p.tables e below (T1029.setTop (mkF m 189 #[.val (.ref o0), .val (.ref o1), .unset, .unset, .unset] [(.ref o0)])) _
      refine XS.aloadN X1029.here hx rfl (hb hby d1_189) rfl rfl ?_
      exact kt
    obtain ⟨T1030, X1030, e1030, st1030⟩ := getF X1029 hx hZ hown (host := "") (Or.inl (hw _ (List.mem_of_getElem? (i := 24) rfl))) Via.refl e1029 F_length_1005 (g := (mkF m 190 #[.val (.ref o0), .val (.ref o1), .unset, .unset, .unset] [(.ref o0), (.ref o0)])) rfl rfl (hb hby d1_190)
    refine Got.step st1030 ?_
    show Got p e below s _ _ _ _ T1030 (mkF m 193 #[.val (.ref o0), .val (.ref o1), .unset, .unset, .unset] [(.int (Int32.ofNat nN)), (.ref o0)])
    refine Got.step (T' := T1030) (g' := (mkF m 205 #[.val (.ref o0), .val (.ref o1), .unset, .unset, .unset] [(.int ((((Int32.ofNat nN) + (8 : Int32)) - (1 : Int32)) / (8 : Int32))), (.ref o0)])) (fun tq kt => ?_) ?_
    · show Steps p.tables e below (T1030.setTop (mkF m 193 #[.val (.ref o0), .val (.ref o1), .unset, .unset, .unset] [(.int (Int32.ofNat nN)), (.ref o0)])) _
      refine XS.bipush X1030.here hx rfl (hb hby d1_193) ?_
      show Steps p.tables e below (T1030.setTop (mkF m 195 #[.val (.ref o0), .val (.ref o1), .unset, .unset, .unset] [(.int (8 : Int32)), (.int (Int32.ofNat nN)), (.ref o0)])) _
      refine XS.iadd X1030.here hx rfl (hb hby d1_195) rfl ?_
      show Steps p.tables e below (T1030.setTop (mkF m 196 #[.val (.ref o0), .val (.ref o1), .unset, .unset, .unset] [(.int ((Int32.ofNat nN) + (8 : Int32))), (.ref o0)])) _
      refine XS.iconst X1030.here hx rfl (hb hby d1_196) ?_
      show Steps p.tables e below (T1030.setTop (mkF m 197 #[.val (.ref o0), .val (.ref o1), .unset, .unset, .unset] [(.int (1 : Int32)), (.int ((Int32.ofNat nN) + (8 : Int32))), (.ref o0)])) _
      refine XS.isub X1030.here hx rfl (hb hby d1_197) rfl ?_
      show Steps p.tables e below (T1030.setTop (mkF m 198 #[.val (.ref o0), .val (.ref o1), .unset, .unset, .unset] [(.int (((Int32.ofNat nN) + (8 : Int32)) - (1 : Int32))), (.ref o0)])) _
      refine XS.bipush X1030.here hx rfl (hb hby d1_198) ?_
      show Steps p.tables e below (T1030.setTop (mkF m 200 #[.val (.ref o0), .val (.ref o1), .unset, .unset, .unset] [(.int (8 : Int32)), (.int (((Int32.ofNat nN) + (8 : Int32)) - (1 : Int32))), (.ref o0)])) _
      refine XS.idiv X1030.here hx rfl (hb hby d1_200) rfl (by decide) ?_
      show Steps p.tables e below (T1030.setTop (mkF m 201 #[.val (.ref o0), .val (.ref o1), .unset, .unset, .unset] [(.int ((((Int32.ofNat nN) + (8 : Int32)) - (1 : Int32)) / (8 : Int32))), (.ref o0)])) _
      refine XS.goto X1030.here hx rfl (pc0 := 201) (pc' := 205) rfl (hb hby d1_201) (by decide) (by decide) ?_
      exact kt
    obtain ⟨nn, hn, en⟩ := own_words hN
    rw [en]
    show Got p e below s _ _ _ _ T1030 (mkF m 205 #[.val (.ref o0), .val (.ref o1), .unset, .unset, .unset] [(.int (Int32.ofNat nn)), (.ref o0)])
    obtain ⟨T1031, h1031, k1031, X1031, e1031, E1031, A1031, st1031⟩ := newP X1030 hx hZ (hw _ (List.mem_of_getElem? (i := 11) rfl)) e1030 (g := (mkF m 205 #[.val (.ref o0), .val (.ref o1), .unset, .unset, .unset] [(.int (Int32.ofNat nn)), (.ref o0)])) rfl (hb hby d1_205) rfl (own_nn0 hn) (cap := 2) (own_nn2 hn) (by decide) (by decide) (by decide)
    obtain ⟨b1031, g1031⟩ : ∃ z, z = h1001.size := ⟨_, rfl⟩
    rw [← g1031] at A1031 st1031
    have ne_o0_b1031 : o0 ≠ b1031 := by rw [g1031]; exact Nat.ne_of_lt E_o0_1004.lt
    have ne_o1_b1031 : o1 ≠ b1031 := by rw [g1031]; exact Nat.ne_of_lt V1_1028.lt
    have gn_b1031 : n0 ≤ b1031 := by rw [g1031]; exact Z0_1002
    have sz_b1031 : h0.size ≤ b1031 := by rw [g1031]; exact K0_1003.1
    have Z0_1032 : n0 ≤ h1031.size := (Nat.le_trans Z0_1002 E1031.1)
    have K0_1033 : Keep h0 h1031 [o0] := (K0_1003.ext E1031)
    have E_o0_1034 : Exa Z h1031 o0 "com/example/sidestep/sidestep/Starts" := (E_o0_1004.ext E1031)
    have F_length_1035 : Fld Z h1031 o0 "com/example/sidestep/sidestep/Starts" "length" "I" (.int (Int32.ofNat nN)) := (F_length_1005.ext E1031)
    have F_lastOffset_1036 : Fld Z h1031 o0 "com/example/sidestep/sidestep/Starts" "lastOffset" "I" (.int ((Int32.ofNat nN) - (1 : Int32))) := (F_lastOffset_1006.ext E1031)
    have F_secondOffset_1037 : Fld Z h1031 o0 "com/example/sidestep/sidestep/Starts" "secondOffset" "I" (.int (f3 (1 : Int32) ((Int32.ofNat nN) - (1 : Int32)))) := (F_secondOffset_1007.ext E1031)
    have F_thirdOffset_1038 : Fld Z h1031 o0 "com/example/sidestep/sidestep/Starts" "thirdOffset" "I" (.int (f3 (2 : Int32) ((Int32.ofNat nN) - (1 : Int32)))) := (F_thirdOffset_1008.ext E1031)
    have F_penultimateOffset_1039 : Fld Z h1031 o0 "com/example/sidestep/sidestep/Starts" "penultimateOffset" "I" (.int (f4 (0 : Int32) (((Int32.ofNat nN) - (1 : Int32)) - (1 : Int32)))) := (F_penultimateOffset_1009.ext E1031)
    have F_patternWords_1040 : Fld Z h1031 o0 "com/example/sidestep/sidestep/Starts" "patternWords" "[J" .null := (F_patternWords_1011.ext E1031)
    have F_lastWordOffset_1041 : Fld Z h1031 o0 "com/example/sidestep/sidestep/Starts" "lastWordOffset" "I" (.int (0 : Int32)) := (F_lastWordOffset_1012.ext E1031)
    have F_lastWordMask_1042 : Fld Z h1031 o0 "com/example/sidestep/sidestep/Starts" "lastWordMask" "J" (.long (0 : Int64)) := (F_lastWordMask_1013.ext E1031)
    have F_source_1043 : Fld Z h1031 o0 "com/example/sidestep/sidestep/Starts" "source" "Lcom/example/sidestep/sidestep/Starts$LowBytes;" .null := (F_source_1014.ext E1031)
    have F_copiedTo_1044 : Fld Z h1031 o0 "com/example/sidestep/sidestep/Starts" "copiedTo" "I" (.int (0 : Int32)) := (F_copiedTo_1015.ext E1031)
    have F_lowBytes_1045 : Fld Z h1031 o0 "com/example/sidestep/sidestep/Starts" "lowBytes" "[B" .null := (F_lowBytes_1016.ext E1031)
    have F_to_1046 : Fld Z h1031 o0 "com/example/sidestep/sidestep/Starts" "to" "I" (.int (0 : Int32)) := (F_to_1017.ext E1031)
    have F_placesEnd_1047 : Fld Z h1031 o0 "com/example/sidestep/sidestep/Starts" "placesEnd" "I" (.int (0 : Int32)) := (F_placesEnd_1018.ext E1031)
    have F_wholeEnd_1048 : Fld Z h1031 o0 "com/example/sidestep/sidestep/Starts" "wholeEnd" "I" (.int (0 : Int32)) := (F_wholeEnd_1019.ext E1031)
    have F_decidedEnd_1049 : Fld Z h1031 o0 "com/example/sidestep/sidestep/Starts" "decidedEnd" "I" (.int (0 : Int32)) := (F_decidedEnd_1020.ext E1031)
    have F_placed_1050 : Fld Z h1031 o0 "com/example/sidestep/sidestep/Starts" "placed" "I" (.int (0 : Int32)) := (F_placed_1021.ext E1031)
    have F_taken_1051 : Fld Z h1031 o0 "com/example/sidestep/sidestep/Starts" "taken" "I" (.int (0 : Int32)) := (F_taken_1022.ext E1031)
    have F_listedTo_1052 : Fld Z h1031 o0 "com/example/sidestep/sidestep/Starts" "listedTo" "I" (.int (0 : Int32)) := (F_listedTo_1023.ext E1031)
    have F_dense_1053 : Fld Z h1031 o0 "com/example/sidestep/sidestep/Starts" "dense" "Z" (.int (0 : Int32)) := (F_dense_1024.ext E1031)
    have F_marking_1054 : Fld Z h1031 o0 "com/example/sidestep/sidestep/Starts" "marking" "I" (.int (0 : Int32)) := (F_marking_1025.ext E1031)
    have F_sections_1055 : Fld Z h1031 o0 "com/example/sidestep/sidestep/Starts" "sections" "I" (.int (0 : Int32)) := (F_sections_1026.ext E1031)
    have F_handedSections_1056 : Fld Z h1031 o0 "com/example/sidestep/sidestep/Starts" "handedSections" "I" (.int (0 : Int32)) := (F_handedSections_1027.ext E1031)
    have V1_1057 : Arv Z h1031 o1 ku .int (Int32.ofNat nN) (us.map Value.int) (.int (0 : Int32)) := (V1_1028.ext E1031)
    have V1031 : Arv Z h1031 b1031 k1031 .long (Int32.ofNat nn) [(.long (0 : Int64)), (.long (0 : Int64))] (.long (0 : Int64)) := (Arv.new A1031 (own_nn0 hn)).pad (pad_rep [] (.long (0 : Int64)) 2)
    refine Got.step st1031 ?_
    show Got p e below s _ _ _ _ T1031 (mkF m 207 #[.val (.ref o0), .val (.ref o1), .unset, .unset, .unset] [(.ref b1031), (.ref o0)])
    obtain ⟨T1058, h1058, X1058, e1058, W1058, st1058⟩ := putF X1031 hx hZ hown (host := "") (Or.inl (hw _ (List.mem_of_getElem? (i := 58) rfl))) Via.refl e1031 F_patternWords_1040 E_o0_1034 (Or.inr ⟨(hw _ (List.mem_of_getElem? (i := 59) rfl)), rfl, hnm⟩) (hw _ (List.mem_of_getElem? (i := 3) rfl)) (ty := (.array .long)) (by decide) rfl rfl (g := (mkF m 207 #[.val (.ref o0), .val (.ref o1), .unset, .unset, .unset] [(.ref b1031), (.ref o0)])) rfl rfl (hb hby d1_207)
    have Z0_1059 : n0 ≤ h1058.size := (Nat.le_trans Z0_1032 (Keep.of_wr W1058).1)
    have K0_1060 : Keep h0 h1058 [o0] := (K0_1033.wr W1058 (Or.inl (List.mem_of_getElem? (i := 0) rfl)))
    have E_o0_1061 : Exa Z h1058 o0 "com/example/sidestep/sidestep/Starts" := (E_o0_1034.wr W1058)
    have F_length_1062 : Fld Z h1058 o0 "com/example/sidestep/sidestep/Starts" "length" "I" (.int (Int32.ofNat nN)) := (F_length_1035.other W1058 (Or.inr (slot_ne (Or.inr (hw _ (List.mem_of_getElem? (i := 25) rfl))) (Or.inr (hw _ (List.mem_of_getElem? (i := 59) rfl))) (by decide) (t := .int) (t' := (.array .long)) (by decide) (by decide))))
    have F_lastOffset_1063 : Fld Z h1058 o0 "com/example/sidestep/sidestep/Starts" "lastOffset" "I" (.int ((Int32.ofNat nN) - (1 : Int32))) := (F_lastOffset_1036.other W1058 (Or.inr (slot_ne (Or.inr (hw _ (List.mem_of_getElem? (i := 29) rfl))) (Or.inr (hw _ (List.mem_of_getElem? (i := 59) rfl))) (by decide) (t := .int) (t' := (.array .long)) (by decide) (by decide))))
    have F_secondOffset_1064 : Fld Z h1058 o0 "com/example/sidestep/sidestep/Starts" "secondOffset" "I" (.int (f3 (1 : Int32) ((Int32.ofNat nN) - (1 : Int32)))) := (F_secondOffset_1037.other W1058 (Or.inr (slot_ne (Or.inr (hw _ (List.mem_of_getElem? (i := 35) rfl))) (Or.inr (hw _ (List.mem_of_getElem? (i := 59) rfl))) (by decide) (t := .int) (t' := (.array .long)) (by decide) (by decide))))
    have F_thirdOffset_1065 : Fld Z h1058 o0 "com/example/sidestep/sidestep/Starts" "thirdOffset" "I" (.int (f3 (2 : Int32) ((Int32.ofNat nN) - (1 : Int32)))) := (F_thirdOffset_1038.other W1058 (Or.inr (slot_ne (Or.inr (hw _ (List.mem_of_getElem? (i := 37) rfl))) (Or.inr (hw _ (List.mem_of_getElem? (i := 59) rfl))) (by decide) (t := .int) (t' := (.array .long)) (by decide) (by decide))))
    have F_penultimateOffset_1066 : Fld Z h1058 o0 "com/example/sidestep/sidestep/Starts" "penultimateOffset" "I" (.int (f4 (0 : Int32) (((Int32.ofNat nN) - (1 : Int32)) - (1 : Int32)))) := (F_penultimateOffset_1039.other W1058 (Or.inr (slot_ne (Or.inr (hw _ (List.mem_of_getElem? (i := 42) rfl))) (Or.inr (hw _ (List.mem_of_getElem? (i := 59) rfl))) (by decide) (t := .int) (t' := (.array .long)) (by decide) (by decide))))
    have F_patternWords_1067 : Fld Z h1058 o0 "com/example/sidestep/sidestep/Starts" "patternWords" "[J" (.ref b1031) := (F_patternWords_1040.same W1058)
    have F_lastWordOffset_1068 : Fld Z h1058 o0 "com/example/sidestep/sidestep/Starts" "lastWordOffset" "I" (.int (0 : Int32)) := (F_lastWordOffset_1041.other W1058 (Or.inr (slot_ne (Or.inr (hw _ (List.mem_of_getElem? (i := 61) rfl))) (Or.inr (hw _ (List.mem_of_getElem? (i := 59) rfl))) (by decide) (t := .int) (t' := (.array .long)) (by decide) (by decide))))
    have F_lastWordMask_1069 : Fld Z h1058 o0 "com/example/sidestep/sidestep/Starts" "lastWordMask" "J" (.long (0 : Int64)) := (F_lastWordMask_1042.other W1058 (Or.inr (slot_ne (Or.inr (hw _ (List.mem_of_getElem? (i := 63) rfl))) (Or.inr (hw _ (List.mem_of_getElem? (i := 59) rfl))) (by decide) (t := .long) (t' := (.array .long)) (by decide) (by decide))))
    have F_source_1070 : Fld Z h1058 o0 "com/example/sidestep/sidestep/Starts" "source" "Lcom/example/sidestep/sidestep/Starts$LowBytes;" .null := (F_source_1043.other W1058 (Or.inr (slot_ne (Or.inl (hw _ (List.mem_of_getElem? (i := 76) rfl))) (Or.inr (hw _ (List.mem_of_getElem? (i := 59) rfl))) (by decide) (t := (.object "com/example/sidestep/sidestep/Starts$LowBytes")) (t' := (.array .long)) (by decide) (by decide))))
    have F_copiedTo_1071 : Fld Z h1058 o0 "com/example/sidestep/sidestep/Starts" "copiedTo" "I" (.int (0 : Int32)) := (F_copiedTo_1044.other W1058 (Or.inr (slot_ne (Or.inl (hw _ (List.mem_of_getElem? (i := 78) rfl))) (Or.inr (hw _ (List.mem_of_getElem? (i := 59) rfl))) (by decide) (t := .int) (t' := (.array .long)) (by decide) (by decide))))
    have F_lowBytes_1072 : Fld Z h1058 o0 "com/example/sidestep/sidestep/Starts" "lowBytes" "[B" .null := (F_lowBytes_1045.other W1058 (Or.inr (slot_ne (Or.inl (hw _ (List.mem_of_getElem? (i := 80) rfl))) (Or.inr (hw _ (List.mem_of_getElem? (i := 59) rfl))) (by decide) (t := (.array .byte)) (t' := (.array .long)) (by decide) (by decide))))
    have F_to_1073 : Fld Z h1058 o0 "com/example/sidestep/sidestep/Starts" "to" "I" (.int (0 : Int32)) := (F_to_1046.other W1058 (Or.inr (slot_ne (Or.inl (hw _ (List.mem_of_getElem? (i := 82) rfl))) (Or.inr (hw _ (List.mem_of_getElem? (i := 59) rfl))) (by decide) (t := .int) (t' := (.array .long)) (by decide) (by decide))))
    have F_placesEnd_1074 : Fld Z h1058 o0 "com/example/sidestep/sidestep/Starts" "placesEnd" "I" (.int (0 : Int32)) := (F_placesEnd_1047.other W1058 (Or.inr (slot_ne (Or.inl (hw _ (List.mem_of_getElem? (i := 84) rfl))) (Or.inr (hw _ (List.mem_of_getElem? (i := 59) rfl))) (by decide) (t := .int) (t' := (.array .long)) (by decide) (by decide))))
    have F_wholeEnd_1075 : Fld Z h1058 o0 "com/example/sidestep/sidestep/Starts" "wholeEnd" "I" (.int (0 : Int32)) := (F_wholeEnd_1048.other W1058 (Or.inr (slot_ne (Or.inl (hw _ (List.mem_of_getElem? (i := 86) rfl))) (Or.inr (hw _ (List.mem_of_getElem? (i := 59) rfl))) (by decide) (t := .int) (t' := (.array .long)) (by decide) (by decide))))
    have F_decidedEnd_1076 : Fld Z h1058 o0 "com/example/sidestep/sidestep/Starts" "decidedEnd" "I" (.int (0 : Int32)) := (F_decidedEnd_1049.other W1058 (Or.inr (slot_ne (Or.inl (hw _ (List.mem_of_getElem? (i := 88) rfl))) (Or.inr (hw _ (List.mem_of_getElem? (i := 59) rfl))) (by decide) (t := .int) (t' := (.array .long)) (by decide) (by decide))))
    have F_placed_1077 : Fld Z h1058 o0 "com/example/sidestep/sidestep/Starts" "placed" "I" (.int (0 : Int32)) := (F_placed_1050.other W1058 (Or.inr (slot_ne (Or.inl (hw _ (List.mem_of_getElem? (i := 90) rfl))) (Or.inr (hw _ (List.mem_of_getElem? (i := 59) rfl))) (by decide) (t := .int) (t' := (.array .long)) (by decide) (by decide))))
    have F_taken_1078 : Fld Z h1058 o0 "com/example/sidestep/sidestep/Starts" "taken" "I" (.int (0 : Int32)) := (F_taken_1051.other W1058 (Or.inr (slot_ne (Or.inl (hw _ (List.mem_of_getElem? (i := 92) rfl))) (Or.inr (hw _ (List.mem_of_getElem? (i := 59) rfl))) (by decide) (t := .int) (t' := (.array .long)) (by decide) (by decide))))
    have F_listedTo_1079 : Fld Z h1058 o0 "com/example/sidestep/sidestep/Starts" "listedTo" "I" (.int (0 : Int32)) := (F_listedTo_1052.other W1058 (Or.inr (slot_ne (Or.inl (hw _ (List.mem_of_getElem? (i := 94) rfl))) (Or.inr (hw _ (List.mem_of_getElem? (i := 59) rfl))) (by decide) (t := .int) (t' := (.array .long)) (by decide) (by decide))))
    have F_dense_1080 : Fld Z h1058 o0 "com/example/sidestep/sidestep/Starts" "dense" "Z" (.int (0 : Int32)) := (F_dense_1053.other W1058 (Or.inr (slot_ne (Or.inl (hw _ (List.mem_of_getElem? (i := 96) rfl))) (Or.inr (hw _ (List.mem_of_getElem? (i := 59) rfl))) (by decide) (t := .boolean) (t' := (.array .long)) (by decide) (by decide))))
    have F_marking_1081 : Fld Z h1058 o0 "com/example/sidestep/sidestep/Starts" "marking" "I" (.int (0 : Int32)) := (F_marking_1054.other W1058 (Or.inr (slot_ne (Or.inl (hw _ (List.mem_of_getElem? (i := 102) rfl))) (Or.inr (hw _ (List.mem_of_getElem? (i := 59) rfl))) (by decide) (t := .int) (t' := (.array .long)) (by decide) (by decide))))
    have F_sections_1082 : Fld Z h1058 o0 "com/example/sidestep/sidestep/Starts" "sections" "I" (.int (0 : Int32)) := (F_sections_1055.other W1058 (Or.inr (slot_ne (Or.inl (hw _ (List.mem_of_getElem? (i := 104) rfl))) (Or.inr (hw _ (List.mem_of_getElem? (i := 59) rfl))) (by decide) (t := .int) (t' := (.array .long)) (by decide) (by decide))))
    have F_handedSections_1083 : Fld Z h1058 o0 "com/example/sidestep/sidestep/Starts" "handedSections" "I" (.int (0 : Int32)) := (F_handedSections_1056.other W1058 (Or.inr (slot_ne (Or.inl (hw _ (List.mem_of_getElem? (i := 106) rfl))) (Or.inr (hw _ (List.mem_of_getElem? (i := 59) rfl))) (by decide) (t := .int) (t' := (.array .long)) (by decide) (by decide))))
    have V1_1084 : Arv Z h1058 o1 ku .int (Int32.ofNat nN) (us.map Value.int) (.int (0 : Int32)) := (V1_1057.other W1058 hne)
    have V1031_1085 : Arv Z h1058 b1031 k1031 .long (Int32.ofNat nn) [(.long (0 : Int64)), (.long (0 : Int64))] (.long (0 : Int64)) := (V1031.other W1058 (Ne.symm ne_o0_b1031))
    have N1058 := Fr.snoc X1058 N1001 gn_o0
    refine Got.step st1058 ?_
    show Got p e below s _ _ _ _ T1058 (mkF m 210 #[.val (.ref o0), .val (.ref o1), .unset, .unset, .unset] [])
    refine Got.step (T' := T1058) (g' := (mkF m 213 #[.val (.ref o0), .val (.ref o1), .unset, .unset, .unset] [(.ref o0), (.int (0 : Int32)), (.ref o0)])) (fun tq kt => ?_) ?_
    · show Steps p.tables e below (T1058.setTop (mkF m 210 #[.val (.ref o0), .val (.ref o1), .unset, .unset, .unset] [])) _
      refine XS.aloadN X1058.here hx rfl (hb hby d1_210) rfl rfl ?_
      show Steps p.tables e below (T1058.setTop (mkF m 211 #[.val (.ref o0), .val (.ref o1), .unset, .unset, .unset] [(.ref o0)])) _
      refine XS.iconst X1058.here hx rfl (hb hby d1_211) ?_
      show Steps p.tables e below (T1058.setTop (mkF m 212 #[.val (.ref o0), .val (.ref o1), .unset, .unset, .unset] [(.int (0 : Int32)), (.ref o0)])) _
      refine XS.aloadN X1058.here hx rfl (hb hby d1_212) rfl rfl ?_
      exact kt
    obtain ⟨T1086, X1086, e1086, st1086⟩ := getF X1058 hx hZ hown (host := "") (Or.inl (hw _ (List.mem_of_getElem? (i := 24) rfl))) Via.refl e1058 F_length_1062 (g := (mkF m 213 #[.val (.ref o0), .val (.ref o1), .unset, .unset, .unset] [(.ref o0), (.int (0 : Int32)), (.ref o0)])) rfl rfl (hb hby d1_213)
    refine Got.step st1086 ?_
    show Got p e below s _ _ _ _ T1086 (mkF m 216 #[.val (.ref o0), .val (.ref o1), .unset, .unset, .unset] [(.int (Int32.ofNat nN)), (.int (0 : Int32)), (.ref o0)])
    refine Got.step (T' := T1086) (g' := (mkF m 219 #[.val (.ref o0), .val (.ref o1), .unset, .unset, .unset] [(.int ((Int32.ofNat nN) - (8 : Int32))), (.int (0 : Int32)), (.ref o0)])) (fun tq kt => ?_) ?_
    · show Steps p.tables e below (T1086.setTop (mkF m 216 #[.val (.ref o0), .val (.ref o1), .unset, .unset, .unset] [(.int (Int32.ofNat nN)), (.int (0 : Int32)), (.ref o0)])) _
      refine XS.bipush X1086.here hx rfl (hb hby d1_216) ?_
      show Steps p.tables e below (T1086.setTop (mkF m 218 #[.val (.ref o0), .val (.ref o1), .unset, .unset, .unset] [(.int (8 : Int32)), (.int (Int32.ofNat nN)), (.int (0 : Int32)), (.ref o0)])) _
      refine XS.isub X1086.here hx rfl (hb hby d1_218) rfl ?_
      exact kt
    obtain ⟨_, _, ⟨T1087, L1087, k1087, n1087⟩, -, X1087, ⟨Lc1087, hQ1087, l1087, y1087, z1087⟩, st1087⟩ := Jvm.LawKit.callS X1086 hx (y := (⟨"java/lang/Math", "max", "(II)I"⟩ : MethodName)) hown (mvT hZ (hw _ (List.mem_of_getElem? (i := 38) rfl))) (mvT hZ (hw _ (List.mem_of_getElem? (i := 39) rfl))) (mvT hZ (hw _ (List.mem_of_getElem? (i := 32) rfl))) (mvT hZ (hw _ (List.mem_of_getElem? (i := 40) rfl))) (by decide) (backOf (W := 1) (rm4 l Z a0 hw [] (0 : Int32) ((Int32.ofNat nN) - (8 : Int32)) h1058 n0 Z0_1059) hZ (hw _ (List.mem_of_getElem? (i := 40) rfl)) (hw _ (List.mem_of_getElem? (i := 32) rfl)) (by decide) (by decide)) (g := (mkF m 219 #[.val (.ref o0), .val (.ref o1), .unset, .unset, .unset] [(.int ((Int32.ofNat nN) - (8 : Int32))), (.int (0 : Int32)), (.ref o0)])) rfl (by rw [hml]; rfl) (argsL := [(.int (0 : Int32)), (.int ((Int32.ofNat nN) - (8 : Int32)))]) (rest := [(.ref o0)]) (lenOf pd_0 rfl) rfl (by show 2 * 0 + _ ≤ _; exact Nat.le_of_eq rfl) (hb hby d1_219) (fun _ _ => ⟨rfl, e1086, (by decide : 6 + 0 ≤ _), (by decide : 43 + 0 ≤ _)⟩)
    dsimp only [Pt.U, Pt.locs, Pt.cells, Pt.slots] at X1087 l1087 y1087 z1087 st1087 hQ1087
    subst y1087 z1087
    obtain ⟨rfl, Nq1087, e1087⟩ := hQ1087
    have N1087 : Fr n0 L1087 := by rw [l1087]; exact Fr.app N1058 Nq1087
    refine Got.step st1087 ?_
    show Got p e below s _ _ _ _ T1087 (mkF m 222 #[.val (.ref o0), .val (.ref o1), .unset, .unset, .unset] [(.int (f4 (0 : Int32) ((Int32.ofNat nN) - (8 : Int32)))), (.ref o0)])
    obtain ⟨T1088, h1088, X1088, e1088, W1088, st1088⟩ := putF X1087 hx hZ hown (host := "") (Or.inl (hw _ (List.mem_of_getElem? (i := 60) rfl))) Via.refl e1087 F_lastWordOffset_1068 E_o0_1061 (Or.inr ⟨(hw _ (List.mem_of_getElem? (i := 61) rfl)), rfl, hnm⟩) (hw _ (List.mem_of_getElem? (i := 3) rfl)) (ty := .int) (by decide) rfl rfl (g := (mkF m 222 #[.val (.ref o0), .val (.ref o1), .unset, .unset, .unset] [(.int (f4 (0 : Int32) ((Int32.ofNat nN) - (8 : Int32)))), (.ref o0)])) rfl rfl (hb hby d1_222)
    have Z0_1089 : n0 ≤ h1088.size := (Nat.le_trans Z0_1059 (Keep.of_wr W1088).1)
    have K0_1090 : Keep h0 h1088 [o0] := (K0_1060.wr W1088 (Or.inl (List.mem_of_getElem? (i := 0) rfl)))
    have E_o0_1091 : Exa Z h1088 o0 "com/example/sidestep/sidestep/Starts" := (E_o0_1061.wr W1088)
    have F_length_1092 : Fld Z h1088 o0 "com/example/sidestep/sidestep/Starts" "length" "I" (.int (Int32.ofNat nN)) := (F_length_1062.other W1088 (Or.inr (slot_ne (Or.inr (hw _ (List.mem_of_getElem? (i := 25) rfl))) (Or.inr (hw _ (List.mem_of_getElem? (i := 61) rfl))) (by decide) (t := .int) (t' := .int) (by decide) (by decide))))
    have F_lastOffset_1093 : Fld Z h1088 o0 "com/example/sidestep/sidestep/Starts" "lastOffset" "I" (.int ((Int32.ofNat nN) - (1 : Int32))) := (F_lastOffset_1063.other W1088 (Or.inr (slot_ne (Or.inr (hw _ (List.mem_of_getElem? (i := 29) rfl))) (Or.inr (hw _ (List.mem_of_getElem? (i := 61) rfl))) (by decide) (t := .int) (t' := .int) (by decide) (by decide))))
    have F_secondOffset_1094 : Fld Z h1088 o0 "com/example/sidestep/sidestep/Starts" "secondOffset" "I" (.int (f3 (1 : Int32) ((Int32.ofNat nN) - (1 : Int32)))) := (F_secondOffset_1064.other W1088 (Or.inr (slot_ne (Or.inr (hw _ (List.mem_of_getElem? (i := 35) rfl))) (Or.inr (hw _ (List.mem_of_getElem? (i := 61) rfl))) (by decide) (t := .int) (t' := .int) (by decide) (by decide))))
    have F_thirdOffset_1095 : Fld Z h1088 o0 "com/example/sidestep/sidestep/Starts" "thirdOffset" "I" (.int (f3 (2 : Int32) ((Int32.ofNat nN) - (1 : Int32)))) := (F_thirdOffset_1065.other W1088 (Or.inr (slot_ne (Or.inr (hw _ (List.mem_of_getElem? (i := 37) rfl))) (Or.inr (hw _ (List.mem_of_getElem? (i := 61) rfl))) (by decide) (t := .int) (t' := .int) (by decide) (by decide))))
    have F_penultimateOffset_1096 : Fld Z h1088 o0 "com/example/sidestep/sidestep/Starts" "penultimateOffset" "I" (.int (f4 (0 : Int32) (((Int32.ofNat nN) - (1 : Int32)) - (1 : Int32)))) := (F_penultimateOffset_1066.other W1088 (Or.inr (slot_ne (Or.inr (hw _ (List.mem_of_getElem? (i := 42) rfl))) (Or.inr (hw _ (List.mem_of_getElem? (i := 61) rfl))) (by decide) (t := .int) (t' := .int) (by decide) (by decide))))
    have F_patternWords_1097 : Fld Z h1088 o0 "com/example/sidestep/sidestep/Starts" "patternWords" "[J" (.ref b1031) := (F_patternWords_1067.other W1088 (Or.inr (slot_ne (Or.inr (hw _ (List.mem_of_getElem? (i := 59) rfl))) (Or.inr (hw _ (List.mem_of_getElem? (i := 61) rfl))) (by decide) (t := (.array .long)) (t' := .int) (by decide) (by decide))))
    have F_lastWordOffset_1098 : Fld Z h1088 o0 "com/example/sidestep/sidestep/Starts" "lastWordOffset" "I" (.int (f4 (0 : Int32) ((Int32.ofNat nN) - (8 : Int32)))) := (F_lastWordOffset_1068.same W1088)
    have F_lastWordMask_1099 : Fld Z h1088 o0 "com/example/sidestep/sidestep/Starts" "lastWordMask" "J" (.long (0 : Int64)) := (F_lastWordMask_1069.other W1088 (Or.inr (slot_ne (Or.inr (hw _ (List.mem_of_getElem? (i := 63) rfl))) (Or.inr (hw _ (List.mem_of_getElem? (i := 61) rfl))) (by decide) (t := .long) (t' := .int) (by decide) (by decide))))
    have F_source_1100 : Fld Z h1088 o0 "com/example/sidestep/sidestep/Starts" "source" "Lcom/example/sidestep/sidestep/Starts$LowBytes;" .null := (F_source_1070.other W1088 (Or.inr (slot_ne (Or.inl (hw _ (List.mem_of_getElem? (i := 76) rfl))) (Or.inr (hw _ (List.mem_of_getElem? (i := 61) rfl))) (by decide) (t := (.object "com/example/sidestep/sidestep/Starts$LowBytes")) (t' := .int) (by decide) (by decide))))
    have F_copiedTo_1101 : Fld Z h1088 o0 "com/example/sidestep/sidestep/Starts" "copiedTo" "I" (.int (0 : Int32)) := (F_copiedTo_1071.other W1088 (Or.inr (slot_ne (Or.inl (hw _ (List.mem_of_getElem? (i := 78) rfl))) (Or.inr (hw _ (List.mem_of_getElem? (i := 61) rfl))) (by decide) (t := .int) (t' := .int) (by decide) (by decide))))
    have F_lowBytes_1102 : Fld Z h1088 o0 "com/example/sidestep/sidestep/Starts" "lowBytes" "[B" .null := (F_lowBytes_1072.other W1088 (Or.inr (slot_ne (Or.inl (hw _ (List.mem_of_getElem? (i := 80) rfl))) (Or.inr (hw _ (List.mem_of_getElem? (i := 61) rfl))) (by decide) (t := (.array .byte)) (t' := .int) (by decide) (by decide))))
    have F_to_1103 : Fld Z h1088 o0 "com/example/sidestep/sidestep/Starts" "to" "I" (.int (0 : Int32)) := (F_to_1073.other W1088 (Or.inr (slot_ne (Or.inl (hw _ (List.mem_of_getElem? (i := 82) rfl))) (Or.inr (hw _ (List.mem_of_getElem? (i := 61) rfl))) (by decide) (t := .int) (t' := .int) (by decide) (by decide))))
    have F_placesEnd_1104 : Fld Z h1088 o0 "com/example/sidestep/sidestep/Starts" "placesEnd" "I" (.int (0 : Int32)) := (F_placesEnd_1074.other W1088 (Or.inr (slot_ne (Or.inl (hw _ (List.mem_of_getElem? (i := 84) rfl))) (Or.inr (hw _ (List.mem_of_getElem? (i := 61) rfl))) (by decide) (t := .int) (t' := .int) (by decide) (by decide))))
    have F_wholeEnd_1105 : Fld Z h1088 o0 "com/example/sidestep/sidestep/Starts" "wholeEnd" "I" (.int (0 : Int32)) := (F_wholeEnd_1075.other W1088 (Or.inr (slot_ne (Or.inl (hw _ (List.mem_of_getElem? (i := 86) rfl))) (Or.inr (hw _ (List.mem_of_getElem? (i := 61) rfl))) (by decide) (t := .int) (t' := .int) (by decide) (by decide))))
    have F_decidedEnd_1106 : Fld Z h1088 o0 "com/example/sidestep/sidestep/Starts" "decidedEnd" "I" (.int (0 : Int32)) := (F_decidedEnd_1076.other W1088 (Or.inr (slot_ne (Or.inl (hw _ (List.mem_of_getElem? (i := 88) rfl))) (Or.inr (hw _ (List.mem_of_getElem? (i := 61) rfl))) (by decide) (t := .int) (t' := .int) (by decide) (by decide))))
    have F_placed_1107 : Fld Z h1088 o0 "com/example/sidestep/sidestep/Starts" "placed" "I" (.int (0 : Int32)) := (F_placed_1077.other W1088 (Or.inr (slot_ne (Or.inl (hw _ (List.mem_of_getElem? (i := 90) rfl))) (Or.inr (hw _ (List.mem_of_getElem? (i := 61) rfl))) (by decide) (t := .int) (t' := .int) (by decide) (by decide))))
    have F_taken_1108 : Fld Z h1088 o0 "com/example/sidestep/sidestep/Starts" "taken" "I" (.int (0 : Int32)) := (F_taken_1078.other W1088 (Or.inr (slot_ne (Or.inl (hw _ (List.mem_of_getElem? (i := 92) rfl))) (Or.inr (hw _ (List.mem_of_getElem? (i := 61) rfl))) (by decide) (t := .int) (t' := .int) (by decide) (by decide))))
    have F_listedTo_1109 : Fld Z h1088 o0 "com/example/sidestep/sidestep/Starts" "listedTo" "I" (.int (0 : Int32)) := (F_listedTo_1079.other W1088 (Or.inr (slot_ne (Or.inl (hw _ (List.mem_of_getElem? (i := 94) rfl))) (Or.inr (hw _ (List.mem_of_getElem? (i := 61) rfl))) (by decide) (t := .int) (t' := .int) (by decide) (by decide))))
    have F_dense_1110 : Fld Z h1088 o0 "com/example/sidestep/sidestep/Starts" "dense" "Z" (.int (0 : Int32)) := (F_dense_1080.other W1088 (Or.inr (slot_ne (Or.inl (hw _ (List.mem_of_getElem? (i := 96) rfl))) (Or.inr (hw _ (List.mem_of_getElem? (i := 61) rfl))) (by decide) (t := .boolean) (t' := .int) (by decide) (by decide))))
    have F_marking_1111 : Fld Z h1088 o0 "com/example/sidestep/sidestep/Starts" "marking" "I" (.int (0 : Int32)) := (F_marking_1081.other W1088 (Or.inr (slot_ne (Or.inl (hw _ (List.mem_of_getElem? (i := 102) rfl))) (Or.inr (hw _ (List.mem_of_getElem? (i := 61) rfl))) (by decide) (t := .int) (t' := .int) (by decide) (by decide))))
    have F_sections_1112 : Fld Z h1088 o0 "com/example/sidestep/sidestep/Starts" "sections" "I" (.int (0 : Int32)) := (F_sections_1082.other W1088 (Or.inr (slot_ne (Or.inl (hw _ (List.mem_of_getElem? (i := 104) rfl))) (Or.inr (hw _ (List.mem_of_getElem? (i := 61) rfl))) (by decide) (t := .int) (t' := .int) (by decide) (by decide))))
    have F_handedSections_1113 : Fld Z h1088 o0 "com/example/sidestep/sidestep/Starts" "handedSections" "I" (.int (0 : Int32)) := (F_handedSections_1083.other W1088 (Or.inr (slot_ne (Or.inl (hw _ (List.mem_of_getElem? (i := 106) rfl))) (Or.inr (hw _ (List.mem_of_getElem? (i := 61) rfl))) (by decide) (t := .int) (t' := .int) (by decide) (by decide))))
    have V1_1114 : Arv Z h1088 o1 ku .int (Int32.ofNat nN) (us.map Value.int) (.int (0 : Int32)) := (V1_1084.other W1088 hne)
    have V1031_1115 : Arv Z h1088 b1031 k1031 .long (Int32.ofNat nn) [(.long (0 : Int64)), (.long (0 : Int64))] (.long (0 : Int64)) := (V1031_1085.other W1088 (Ne.symm ne_o0_b1031))
    have N1088 := Fr.snoc X1088 N1087 gn_o0
    refine Got.step st1088 ?_
    show Got p e below s _ _ _ _ T1088 (mkF m 225 #[.val (.ref o0), .val (.ref o1), .unset, .unset, .unset] [])
    refine Got.step (T' := T1088) (g' := (mkF m 227 #[.val (.ref o0), .val (.ref o1), .unset, .unset, .unset] [(.ref o0), (.ref o0)])) (fun tq kt => ?_) ?_
    · show Steps p.tables e below (T1088.setTop (mkF m 225 #[.val (.ref o0), .val (.ref o1), .unset, .unset, .unset] [])) _
      refine XS.aloadN X1088.here hx rfl (hb hby d1_225) rfl rfl ?_
      show Steps p.tables e below (T1088.setTop (mkF m 226 #[.val (.ref o0), .val (.ref o1), .unset, .unset, .unset] [(.ref o0)])) _
      refine XS.aloadN X1088.here hx rfl (hb hby d1_226) rfl rfl ?_
      exact kt
    obtain ⟨T1116, X1116, e1116, st1116⟩ := getF X1088 hx hZ hown (host := "") (Or.inl (hw _ (List.mem_of_getElem? (i := 24) rfl))) Via.refl e1088 F_length_1092 (g := (mkF m 227 #[.val (.ref o0), .val (.ref o1), .unset, .unset, .unset] [(.ref o0), (.ref o0)])) rfl rfl (hb hby d1_227)
    refine Got.step st1116 ?_
    show Got p e below s _ _ _ _ T1116 (mkF m 230 #[.val (.ref o0), .val (.ref o1), .unset, .unset, .unset] [(.int (Int32.ofNat nN)), (.ref o0)])
    refine Got.step (T' := T1116) (g' := (mkF m 232 #[.val (.ref o0), .val (.ref o1), .unset, .unset, .unset] [(.int (8 : Int32)), (.int (Int32.ofNat nN)), (.ref o0)])) (fun tq kt => ?_) ?_
    · show Steps p.tables e below (T1116.setTop (mkF m 230 #[.val (.ref o0), .val (.ref o1), .unset, .unset, .unset] [(.int (Int32.ofNat nN)), (.ref o0)])) _
      refine XS.bipush X1116.here hx rfl (hb hby d1_230) ?_
      exact kt
    have J1117 : ∀ (T1117 : State) (h1117 : Heap) (L1117 : List Loc), Stand p l e ({ frames := 1, cells := 6, slots := 43, locals := 14 } : Room) s m #[(.ref o0), (.ref o1)] below meth c T1117 L1117 6 43 → T1117.heap = h1117 → Fr n0 L1117 → ∀ (k1117_0 : Int64), k1117_0 = (if (Int32.ofNat nN) < (8 : Int32) then (((1 : Int64) <<< (((Int32.ofNat nN) * (8 : Int32)) &&& 0x3f).toInt64) - (1 : Int64)) else (-1 : Int64)) → n0 ≤ h1117.size → Keep h0 h1117 [o0] → Exa Z h1117 o0 "com/example/sidestep/sidestep/Starts" → Fld Z h1117 o0 "com/example/sidestep/sidestep/Starts" "length" "I" (.int (Int32.ofNat nN)) → Fld Z h1117 o0 "com/example/sidestep/sidestep/Starts" "lastOffset" "I" (.int ((Int32.ofNat nN) - (1 : Int32))) → Fld Z h1117 o0 "com/example/sidestep/sidestep/Starts" "secondOffset" "I" (.int (f3 (1 : Int32) ((Int32.ofNat nN) - (1 : Int32)))) → Fld Z h1117 o0 "com/example/sidestep/sidestep/Starts" "thirdOffset" "I" (.int (f3 (2 : Int32) ((Int32.ofNat nN) - (1 : Int32)))) → Fld Z h1117 o0 "com/example/sidestep/sidestep/Starts" "penultimateOffset" "I" (.int (f4 (0 : Int32) (((Int32.ofNat nN) - (1 : Int32)) - (1 : Int32)))) → Fld Z h1117 o0 "com/example/sidestep/sidestep/Starts" "patternWords" "[J" (.ref b1031) → Fld Z h1117 o0 "com/example/sidestep/sidestep/Starts" "lastWordOffset" "I" (.int (f4 (0 : Int32) ((Int32.ofNat nN) - (8 : Int32)))) → Fld Z h1117 o0 "com/example/sidestep/sidestep/Starts" "lastWordMask" "J" (.long (0 : Int64)) → Fld Z h1117 o0 "com/example/sidestep/sidestep/Starts" "source" "Lcom/example/sidestep/sidestep/Starts$LowBytes;" .null → Fld Z h1117 o0 "com/example/sidestep/sidestep/Starts" "copiedTo" "I" (.int (0 : Int32)) → Fld Z h1117 o0 "com/example/sidestep/sidestep/Starts" "lowBytes" "[B" .null → Fld Z h1117 o0 "com/example/sidestep/sidestep/Starts" "to" "I" (.int (0 : Int32)) → Fld Z h1117 o0 "com/example/sidestep/sidestep/Starts" "placesEnd" "I" (.int (0 : Int32)) → Fld Z h1117 o0 "com/example/sidestep/sidestep/Starts" "wholeEnd" "I" (.int (0 : Int32)) → Fld Z h1117 o0 "com/example/sidestep/sidestep/Starts" "decidedEnd" "I" (.int (0 : Int32)) → Fld Z h1117 o0 "com/example/sidestep/sidestep/Starts" "placed" "I" (.int (0 : Int32)) → Fld Z h1117 o0 "com/example/sidestep/sidestep/Starts" "taken" "I" (.int (0 : Int32)) → Fld Z h1117 o0 "com/example/sidestep/sidestep/Starts" "listedTo" "I" (.int (0 : Int32)) → Fld Z h1117 o0 "com/example/sidestep/sidestep/Starts" "dense" "Z" (.int (0 : Int32)) → Fld Z h1117 o0 "com/example/sidestep/sidestep/Starts" "marking" "I" (.int (0 : Int32)) → Fld Z h1117 o0 "com/example/sidestep/sidestep/Starts" "sections" "I" (.int (0 : Int32)) → Fld Z h1117 o0 "com/example/sidestep/sidestep/Starts" "handedSections" "I" (.int (0 : Int32)) → Arv Z h1117 o1 ku .int (Int32.ofNat nN) (us.map Value.int) (.int (0 : Int32)) → Arv Z h1117 b1031 k1031 .long (Int32.ofNat nn) [(.long (0 : Int64)), (.long (0 : Int64))] (.long (0 : Int64)) → Got p e below s (fun h L => Fr n0 L ∧ Keep h0 h [o0] ∧ Exa Z h o0 "com/example/sidestep/sidestep/Starts" ∧ Fld Z h o0 "com/example/sidestep/sidestep/Starts" "lastOffset" "I" (.int ((Int32.ofNat nN) - (1 : Int32))) ∧ Fld Z h o0 "com/example/sidestep/sidestep/Starts" "length" "I" (.int (Int32.ofNat nN)) ∧ Fld Z h o0 "com/example/sidestep/sidestep/Starts" "source" "Lcom/example/sidestep/sidestep/Starts$LowBytes;" .null ∧ Fld Z h o0 "com/example/sidestep/sidestep/Starts" "copiedTo" "I" (.int (0 : Int32)) ∧ Fld Z h o0 "com/example/sidestep/sidestep/Starts" "lowBytes" "[B" .null ∧ Fld Z h o0 "com/example/sidestep/sidestep/Starts" "to" "I" (.int (0 : Int32)) ∧ Fld Z h o0 "com/example/sidestep/sidestep/Starts" "placesEnd" "I" (.int (0 : Int32)) ∧ Fld Z h o0 "com/example/sidestep/sidestep/Starts" "wholeEnd" "I" (.int (0 : Int32)) ∧ Fld Z h o0 "com/example/sidestep/sidestep/Starts" "decidedEnd" "I" (.int (0 : Int32)) ∧ Fld Z h o0 "com/example/sidestep/sidestep/Starts" "placed" "I" (.int (0 : Int32)) ∧ Fld Z h o0 "com/example/sidestep/sidestep/Starts" "taken" "I" (.int (0 : Int32)) ∧ Fld Z h o0 "com/example/sidestep/sidestep/Starts" "listedTo" "I" (.int (0 : Int32)) ∧ Fld Z h o0 "com/example/sidestep/sidestep/Starts" "dense" "Z" (.int (0 : Int32)) ∧ Fld Z h o0 "com/example/sidestep/sidestep/Starts" "marking" "I" (.int (0 : Int32)) ∧ Fld Z h o0 "com/example/sidestep/sidestep/Starts" "sections" "I" (.int (0 : Int32)) ∧ Fld Z h o0 "com/example/sidestep/sidestep/Starts" "handedSections" "I" (.int (0 : Int32)) ∧ ∃ (ow : Addr) (kw : ClassId) (nw : Int32) (vs : List Value), ow ≠ o0 ∧ h0.size ≤ ow ∧ Fld Z h o0 "com/example/sidestep/sidestep/Starts" "patternWords" "[J" (.ref ow) ∧ Arv Z h ow kw .long nw vs (.long (0 : Int64))) 6 43 none T1117 (mkF m 252 #[.val (.ref o0), .val (.ref o1), .unset, .unset, .unset] [(.long k1117_0), (.ref o0)]) := by
      intro T1117 h1117 L1117 X1117 e1117 N1117 k1117_0 hk1117_0 Z0_1120 K0_1121 E_o0_1122 F_length_1123 F_lastOffset_1124 F_secondOffset_1125 F_thirdOffset_1126 F_penultimateOffset_1127 F_patternWords_1128 F_lastWordOffset_1129 F_lastWordMask_1130 F_source_1131 F_copiedTo_1132 F_lowBytes_1133 F_to_1134 F_placesEnd_1135 F_wholeEnd_1136 F_decidedEnd_1137 F_placed_1138 F_taken_1139 F_listedTo_1140 F_dense_1141 F_marking_1142 F_sections_1143 F_handedSections_1144 V1_1145 V1031_1146
      obtain ⟨T1147, h1147, X1147, e1147, W1147, st1147⟩ := putF X1117 hx hZ hown (host := "") (Or.inl (hw _ (List.mem_of_getElem? (i := 62) rfl))) Via.refl e1117 F_lastWordMask_1130 E_o0_1122 (Or.inr ⟨(hw _ (List.mem_of_getElem? (i := 63) rfl)), rfl, hnm⟩) (hw _ (List.mem_of_getElem? (i := 3) rfl)) (ty := .long) (by decide) rfl rfl (g := (mkF m 252 #[.val (.ref o0), .val (.ref o1), .unset, .unset, .unset] [(.long k1117_0), (.ref o0)])) rfl rfl (hb hby d1_252)
      have Z0_1148 : n0 ≤ h1147.size := (Nat.le_trans Z0_1120 (Keep.of_wr W1147).1)
      have K0_1149 : Keep h0 h1147 [o0] := (K0_1121.wr W1147 (Or.inl (List.mem_of_getElem? (i := 0) rfl)))
      have E_o0_1150 : Exa Z h1147 o0 "com/example/sidestep/sidestep/Starts" := (E_o0_1122.wr W1147)
      have F_length_1151 : Fld Z h1147 o0 "com/example/sidestep/sidestep/Starts" "length" "I" (.int (Int32.ofNat nN)) := (F_length_1123.other W1147 (Or.inr (slot_ne (Or.inr (hw _ (List.mem_of_getElem? (i := 25) rfl))) (Or.inr (hw _ (List.mem_of_getElem? (i := 63) rfl))) (by decide) (t := .int) (t' := .long) (by decide) (by decide))))
      have F_lastOffset_1152 : Fld Z h1147 o0 "com/example/sidestep/sidestep/Starts" "lastOffset" "I" (.int ((Int32.ofNat nN) - (1 : Int32))) := (F_lastOffset_1124.other W1147 (Or.inr (slot_ne (Or.inr (hw _ (List.mem_of_getElem? (i := 29) rfl))) (Or.inr (hw _ (List.mem_of_getElem? (i := 63) rfl))) (by decide) (t := .int) (t' := .long) (by decide) (by decide))))
      have F_secondOffset_1153 : Fld Z h1147 o0 "com/example/sidestep/sidestep/Starts" "secondOffset" "I" (.int (f3 (1 : Int32) ((Int32.ofNat nN) - (1 : Int32)))) := (F_secondOffset_1125.other W1147 (Or.inr (slot_ne (Or.inr (hw _ (List.mem_of_getElem? (i := 35) rfl))) (Or.inr (hw _ (List.mem_of_getElem? (i := 63) rfl))) (by decide) (t := .int) (t' := .long) (by decide) (by decide))))
      have F_thirdOffset_1154 : Fld Z h1147 o0 "com/example/sidestep/sidestep/Starts" "thirdOffset" "I" (.int (f3 (2 : Int32) ((Int32.ofNat nN) - (1 : Int32)))) := (F_thirdOffset_1126.other W1147 (Or.inr (slot_ne (Or.inr (hw _ (List.mem_of_getElem? (i := 37) rfl))) (Or.inr (hw _ (List.mem_of_getElem? (i := 63) rfl))) (by decide) (t := .int) (t' := .long) (by decide) (by decide))))
      have F_penultimateOffset_1155 : Fld Z h1147 o0 "com/example/sidestep/sidestep/Starts" "penultimateOffset" "I" (.int (f4 (0 : Int32) (((Int32.ofNat nN) - (1 : Int32)) - (1 : Int32)))) := (F_penultimateOffset_1127.other W1147 (Or.inr (slot_ne (Or.inr (hw _ (List.mem_of_getElem? (i := 42) rfl))) (Or.inr (hw _ (List.mem_of_getElem? (i := 63) rfl))) (by decide) (t := .int) (t' := .long) (by decide) (by decide))))
      have F_patternWords_1156 : Fld Z h1147 o0 "com/example/sidestep/sidestep/Starts" "patternWords" "[J" (.ref b1031) := (F_patternWords_1128.other W1147 (Or.inr (slot_ne (Or.inr (hw _ (List.mem_of_getElem? (i := 59) rfl))) (Or.inr (hw _ (List.mem_of_getElem? (i := 63) rfl))) (by decide) (t := (.array .long)) (t' := .long) (by decide) (by decide))))
      have F_lastWordOffset_1157 : Fld Z h1147 o0 "com/example/sidestep/sidestep/Starts" "lastWordOffset" "I" (.int (f4 (0 : Int32) ((Int32.ofNat nN) - (8 : Int32)))) := (F_lastWordOffset_1129.other W1147 (Or.inr (slot_ne (Or.inr (hw _ (List.mem_of_getElem? (i := 61) rfl))) (Or.inr (hw _ (List.mem_of_getElem? (i := 63) rfl))) (by decide) (t := .int) (t' := .long) (by decide) (by decide))))
      have F_lastWordMask_1158 : Fld Z h1147 o0 "com/example/sidestep/sidestep/Starts" "lastWordMask" "J" (.long k1117_0) := (F_lastWordMask_1130.same W1147)
      have F_source_1159 : Fld Z h1147 o0 "com/example/sidestep/sidestep/Starts" "source" "Lcom/example/sidestep/sidestep/Starts$LowBytes;" .null := (F_source_1131.other W1147 (Or.inr (slot_ne (Or.inl (hw _ (List.mem_of_getElem? (i := 76) rfl))) (Or.inr (hw _ (List.mem_of_getElem? (i := 63) rfl))) (by decide) (t := (.object "com/example/sidestep/sidestep/Starts$LowBytes")) (t' := .long) (by decide) (by decide))))
      have F_copiedTo_1160 : Fld Z h1147 o0 "com/example/sidestep/sidestep/Starts" "copiedTo" "I" (.int (0 : Int32)) := (F_copiedTo_1132.other W1147 (Or.inr (slot_ne (Or.inl (hw _ (List.mem_of_getElem? (i := 78) rfl))) (Or.inr (hw _ (List.mem_of_getElem? (i := 63) rfl))) (by decide) (t := .int) (t' := .long) (by decide) (by decide))))
      have F_lowBytes_1161 : Fld Z h1147 o0 "com/example/sidestep/sidestep/Starts" "lowBytes" "[B" .null := (F_lowBytes_1133.other W1147 (Or.inr (slot_ne (Or.inl (hw _ (List.mem_of_getElem? (i := 80) rfl))) (Or.inr (hw _ (List.mem_of_getElem? (i := 63) rfl))) (by decide) (t := (.array .byte)) (t' := .long) (by decide) (by decide))))
      have F_to_1162 : Fld Z h1147 o0 "com/example/sidestep/sidestep/Starts" "to" "I" (.int (0 : Int32)) := (F_to_1134.other W1147 (Or.inr (slot_ne (Or.inl (hw _ (List.mem_of_getElem? (i := 82) rfl))) (Or.inr (hw _ (List.mem_of_getElem? (i := 63) rfl))) (by decide) (t := .int) (t' := .long) (by decide) (by decide))))
      have F_placesEnd_1163 : Fld Z h1147 o0 "com/example/sidestep/sidestep/Starts" "placesEnd" "I" (.int (0 : Int32)) := (F_placesEnd_1135.other W1147 (Or.inr (slot_ne (Or.inl (hw _ (List.mem_of_getElem? (i := 84) rfl))) (Or.inr (hw _ (List.mem_of_getElem? (i := 63) rfl))) (by decide) (t := .int) (t' := .long) (by decide) (by decide))))
      have F_wholeEnd_1164 : Fld Z h1147 o0 "com/example/sidestep/sidestep/Starts" "wholeEnd" "I" (.int (0 : Int32)) := (F_wholeEnd_1136.other W1147 (Or.inr (slot_ne (Or.inl (hw _ (List.mem_of_getElem? (i := 86) rfl))) (Or.inr (hw _ (List.mem_of_getElem? (i := 63) rfl))) (by decide) (t := .int) (t' := .long) (by decide) (by decide))))
      have F_decidedEnd_1165 : Fld Z h1147 o0 "com/example/sidestep/sidestep/Starts" "decidedEnd" "I" (.int (0 : Int32)) := (F_decidedEnd_1137.other W1147 (Or.inr (slot_ne (Or.inl (hw _ (List.mem_of_getElem? (i := 88) rfl))) (Or.inr (hw _ (List.mem_of_getElem? (i := 63) rfl))) (by decide) (t := .int) (t' := .long) (by decide) (by decide))))
      have F_placed_1166 : Fld Z h1147 o0 "com/example/sidestep/sidestep/Starts" "placed" "I" (.int (0 : Int32)) := (F_placed_1138.other W1147 (Or.inr (slot_ne (Or.inl (hw _ (List.mem_of_getElem? (i := 90) rfl))) (Or.inr (hw _ (List.mem_of_getElem? (i := 63) rfl))) (by decide) (t := .int) (t' := .long) (by decide) (by decide))))
      have F_taken_1167 : Fld Z h1147 o0 "com/example/sidestep/sidestep/Starts" "taken" "I" (.int (0 : Int32)) := (F_taken_1139.other W1147 (Or.inr (slot_ne (Or.inl (hw _ (List.mem_of_getElem? (i := 92) rfl))) (Or.inr (hw _ (List.mem_of_getElem? (i := 63) rfl))) (by decide) (t := .int) (t' := .long) (by decide) (by decide))))
      have F_listedTo_1168 : Fld Z h1147 o0 "com/example/sidestep/sidestep/Starts" "listedTo" "I" (.int (0 : Int32)) := (F_listedTo_1140.other W1147 (Or.inr (slot_ne (Or.inl (hw _ (List.mem_of_getElem? (i := 94) rfl))) (Or.inr (hw _ (List.mem_of_getElem? (i := 63) rfl))) (by decide) (t := .int) (t' := .long) (by decide) (by decide))))
      have F_dense_1169 : Fld Z h1147 o0 "com/example/sidestep/sidestep/Starts" "dense" "Z" (.int (0 : Int32)) := (F_dense_1141.other W1147 (Or.inr (slot_ne (Or.inl (hw _ (List.mem_of_getElem? (i := 96) rfl))) (Or.inr (hw _ (List.mem_of_getElem? (i := 63) rfl))) (by decide) (t := .boolean) (t' := .long) (by decide) (by decide))))
      have F_marking_1170 : Fld Z h1147 o0 "com/example/sidestep/sidestep/Starts" "marking" "I" (.int (0 : Int32)) := (F_marking_1142.other W1147 (Or.inr (slot_ne (Or.inl (hw _ (List.mem_of_getElem? (i := 102) rfl))) (Or.inr (hw _ (List.mem_of_getElem? (i := 63) rfl))) (by decide) (t := .int) (t' := .long) (by decide) (by decide))))
      have F_sections_1171 : Fld Z h1147 o0 "com/example/sidestep/sidestep/Starts" "sections" "I" (.int (0 : Int32)) := (F_sections_1143.other W1147 (Or.inr (slot_ne (Or.inl (hw _ (List.mem_of_getElem? (i := 104) rfl))) (Or.inr (hw _ (List.mem_of_getElem? (i := 63) rfl))) (by decide) (t := .int) (t' := .long) (by decide) (by decide))))
      have F_handedSections_1172 : Fld Z h1147 o0 "com/example/sidestep/sidestep/Starts" "handedSections" "I" (.int (0 : Int32)) := (F_handedSections_1144.other W1147 (Or.inr (slot_ne (Or.inl (hw _ (List.mem_of_getElem? (i := 106) rfl))) (Or.inr (hw _ (List.mem_of_getElem? (i := 63) rfl))) (by decide) (t := .int) (t' := .long) (by decide) (by decide))))
      have V1_1173 : Arv Z h1147 o1 ku .int (Int32.ofNat nN) (us.map Value.int) (.int (0 : Int32)) := (V1_1145.other W1147 hne)
      have V1031_1174 : Arv Z h1147 b1031 k1031 .long (Int32.ofNat nn) [(.long (0 : Int64)), (.long (0 : Int64))] (.long (0 : Int64)) := (V1031_1146.other W1147 (Ne.symm ne_o0_b1031))
      have N1147 := Fr.snoc X1147 N1117 gn_o0
      refine Got.step st1147 ?_
      show Got p e below s _ _ _ _ T1147 (mkF m 255 #[.val (.ref o0), .val (.ref o1), .unset, .unset, .unset] [])
      refine Got.step (T' := T1147) (g' := (mkF m 257 #[.val (.ref o0), .val (.ref o1), .val (.int (0 : Int32)), .unset, .unset] [])) (fun tq kt => ?_) ?_
      · show Steps p.tables e below (T1147.setTop (mkF m 255 #[.val (.ref o0), .val (.ref o1), .unset, .unset, .unset] [])) _
        refine XS.iconst X1147.here hx rfl (hb hby d1_255) ?_
        show Steps p.tables e below (T1147.setTop (mkF m 256 #[.val (.ref o0), .val (.ref o1), .unset, .unset, .unset] [(.int (0 : Int32))])) _
        refine XS.istoreN X1147.here hx rfl (hb hby d1_256) rfl (l' := #[.val (.ref o0), .val (.ref o1), .val (.int (0 : Int32)), .unset, .unset]) rfl ?_
        exact kt
      have J : ∀ (k wn : Nat), wn + k = nn → ∀ (T1 : State) (h1 : Heap) (L1 : List Loc), Stand p l e ({ frames := 1, cells := 6, slots := 43, locals := 14 } : Room) s m #[(.ref o0), (.ref o1)] below meth c T1 L1 6 43 → T1.heap = h1 → Fr n0 L1 → Keep h1147 h1 [b1031] → ∀ (ws : List Int64), Arv Z h1 b1031 k1031 .long (Int32.ofNat nn) (ws.map Value.long) (.long (0 : Int64)) → ws.length = 2 → ∀ (s3 : Slot), One s3 → ∀ (s4 : Slot), One s4 → Got p e below s (fun h L => Fr n0 L ∧ Keep h0 h [o0] ∧ Exa Z h o0 "com/example/sidestep/sidestep/Starts" ∧ Fld Z h o0 "com/example/sidestep/sidestep/Starts" "lastOffset" "I" (.int ((Int32.ofNat nN) - (1 : Int32))) ∧ Fld Z h o0 "com/example/sidestep/sidestep/Starts" "length" "I" (.int (Int32.ofNat nN)) ∧ Fld Z h o0 "com/example/sidestep/sidestep/Starts" "source" "Lcom/example/sidestep/sidestep/Starts$LowBytes;" .null ∧ Fld Z h o0 "com/example/sidestep/sidestep/Starts" "copiedTo" "I" (.int (0 : Int32)) ∧ Fld Z h o0 "com/example/sidestep/sidestep/Starts" "lowBytes" "[B" .null ∧ Fld Z h o0 "com/example/sidestep/sidestep/Starts" "to" "I" (.int (0 : Int32)) ∧ Fld Z h o0 "com/example/sidestep/sidestep/Starts" "placesEnd" "I" (.int (0 : Int32)) ∧ Fld Z h o0 "com/example/sidestep/sidestep/Starts" "wholeEnd" "I" (.int (0 : Int32)) ∧ Fld Z h o0 "com/example/sidestep/sidestep/Starts" "decidedEnd" "I" (.int (0 : Int32)) ∧ Fld Z h o0 "com/example/sidestep/sidestep/Starts" "placed" "I" (.int (0 : Int32)) ∧ Fld Z h o0 "com/example/sidestep/sidestep/Starts" "taken" "I" (.int (0 : Int32)) ∧ Fld Z h o0 "com/example/sidestep/sidestep/Starts" "listedTo" "I" (.int (0 : Int32)) ∧ Fld Z h o0 "com/example/sidestep/sidestep/Starts" "dense" "Z" (.int (0 : Int32)) ∧ Fld Z h o0 "com/example/sidestep/sidestep/Starts" "marking" "I" (.int (0 : Int32)) ∧ Fld Z h o0 "com/example/sidestep/sidestep/Starts" "sections" "I" (.int (0 : Int32)) ∧ Fld Z h o0 "com/example/sidestep/sidestep/Starts" "handedSections" "I" (.int (0 : Int32)) ∧ ∃ (ow : Addr) (kw : ClassId) (nw : Int32) (vs : List Value), ow ≠ o0 ∧ h0.size ≤ ow ∧ Fld Z h o0 "com/example/sidestep/sidestep/Starts" "patternWords" "[J" (.ref ow) ∧ Arv Z h ow kw .long nw vs (.long (0 : Int64))) 6 43 none T1 (mkF m 257 #[.val (.ref o0), .val (.ref o1), .val (.int (Int32.ofNat wn)), s3, s4] []) := by
        intro k
        induction k with
        | zero =>
          intro wn hw1 T1 h1 L1 X1 e1 N1 K1 ws V1w hws s3 hs3 s4 hs4
          have Z0_a : n0 ≤ h1.size := (Nat.le_trans Z0_1148 K1.1)
          have K0_a : Keep h0 h1 [o0] := (K0_1149.trans K1 (allS (Or.inr sz_b1031) all0))
          have E_o0_a : Exa Z h1 o0 "com/example/sidestep/sidestep/Starts" := (E_o0_1150.keep K1)
          have F_length_a : Fld Z h1 o0 "com/example/sidestep/sidestep/Starts" "length" "I" (.int (Int32.ofNat nN)) := (F_length_1151.keep K1 (ninS ne_o0_b1031 nin0))
          have F_lastOffset_a : Fld Z h1 o0 "com/example/sidestep/sidestep/Starts" "lastOffset" "I" (.int ((Int32.ofNat nN) - (1 : Int32))) := (F_lastOffset_1152.keep K1 (ninS ne_o0_b1031 nin0))
          have F_secondOffset_a : Fld Z h1 o0 "com/example/sidestep/sidestep/Starts" "secondOffset" "I" (.int (f3 (1 : Int32) ((Int32.ofNat nN) - (1 : Int32)))) := (F_secondOffset_1153.keep K1 (ninS ne_o0_b1031 nin0))
          have F_thirdOffset_a : Fld Z h1 o0 "com/example/sidestep/sidestep/Starts" "thirdOffset" "I" (.int (f3 (2 : Int32) ((Int32.ofNat nN) - (1 : Int32)))) := (F_thirdOffset_1154.keep K1 (ninS ne_o0_b1031 nin0))
          have F_penultimateOffset_a : Fld Z h1 o0 "com/example/sidestep/sidestep/Starts" "penultimateOffset" "I" (.int (f4 (0 : Int32) (((Int32.ofNat nN) - (1 : Int32)) - (1 : Int32)))) := (F_penultimateOffset_1155.keep K1 (ninS ne_o0_b1031 nin0))
          have F_patternWords_a : Fld Z h1 o0 "com/example/sidestep/sidestep/Starts" "patternWords" "[J" (.ref b1031) := (F_patternWords_1156.keep K1 (ninS ne_o0_b1031 nin0))
          have F_lastWordOffset_a : Fld Z h1 o0 "com/example/sidestep/sidestep/Starts" "lastWordOffset" "I" (.int (f4 (0 : Int32) ((Int32.ofNat nN) - (8 : Int32)))) := (F_lastWordOffset_1157.keep K1 (ninS ne_o0_b1031 nin0))
          have F_source_a : Fld Z h1 o0 "com/example/sidestep/sidestep/Starts" "source" "Lcom/example/sidestep/sidestep/Starts$LowBytes;" .null := (F_source_1159.keep K1 (ninS ne_o0_b1031 nin0))
          have F_copiedTo_a : Fld Z h1 o0 "com/example/sidestep/sidestep/Starts" "copiedTo" "I" (.int (0 : Int32)) := (F_copiedTo_1160.keep K1 (ninS ne_o0_b1031 nin0))
          have F_lowBytes_a : Fld Z h1 o0 "com/example/sidestep/sidestep/Starts" "lowBytes" "[B" .null := (F_lowBytes_1161.keep K1 (ninS ne_o0_b1031 nin0))
          have F_to_a : Fld Z h1 o0 "com/example/sidestep/sidestep/Starts" "to" "I" (.int (0 : Int32)) := (F_to_1162.keep K1 (ninS ne_o0_b1031 nin0))
          have F_placesEnd_a : Fld Z h1 o0 "com/example/sidestep/sidestep/Starts" "placesEnd" "I" (.int (0 : Int32)) := (F_placesEnd_1163.keep K1 (ninS ne_o0_b1031 nin0))
          have F_wholeEnd_a : Fld Z h1 o0 "com/example/sidestep/sidestep/Starts" "wholeEnd" "I" (.int (0 : Int32)) := (F_wholeEnd_1164.keep K1 (ninS ne_o0_b1031 nin0))
          have F_decidedEnd_a : Fld Z h1 o0 "com/example/sidestep/sidestep/Starts" "decidedEnd" "I" (.int (0 : Int32)) := (F_decidedEnd_1165.keep K1 (ninS ne_o0_b1031 nin0))
          have F_placed_a : Fld Z h1 o0 "com/example/sidestep/sidestep/Starts" "placed" "I" (.int (0 : Int32)) := (F_placed_1166.keep K1 (ninS ne_o0_b1031 nin0))
          have F_taken_a : Fld Z h1 o0 "com/example/sidestep/sidestep/Starts" "taken" "I" (.int (0 : Int32)) := (F_taken_1167.keep K1 (ninS ne_o0_b1031 nin0))
          have F_listedTo_a : Fld Z h1 o0 "com/example/sidestep/sidestep/Starts" "listedTo" "I" (.int (0 : Int32)) := (F_listedTo_1168.keep K1 (ninS ne_o0_b1031 nin0))
          have F_dense_a : Fld Z h1 o0 "com/example/sidestep/sidestep/Starts" "dense" "Z" (.int (0 : Int32)) := (F_dense_1169.keep K1 (ninS ne_o0_b1031 nin0))
          have F_marking_a : Fld Z h1 o0 "com/example/sidestep/sidestep/Starts" "marking" "I" (.int (0 : Int32)) := (F_marking_1170.keep K1 (ninS ne_o0_b1031 nin0))
          have F_sections_a : Fld Z h1 o0 "com/example/sidestep/sidestep/Starts" "sections" "I" (.int (0 : Int32)) := (F_sections_1171.keep K1 (ninS ne_o0_b1031 nin0))
          have F_handedSections_a : Fld Z h1 o0 "com/example/sidestep/sidestep/Starts" "handedSections" "I" (.int (0 : Int32)) := (F_handedSections_1172.keep K1 (ninS ne_o0_b1031 nin0))
          have V1_a : Arv Z h1 o1 ku .int (Int32.ofNat nN) (us.map Value.int) (.int (0 : Int32)) := (V1_1173.keep K1 (ninS ne_o1_b1031 nin0))
          refine Got.step (T' := T1) (g' := (mkF m 259 #[.val (.ref o0), .val (.ref o1), .val (.int (Int32.ofNat wn)), s3, s4] [(.ref o0), (.int (Int32.ofNat wn))])) (fun tq kt => ?_) ?_
          · show Steps p.tables e below (T1.setTop (mkF m 257 #[.val (.ref o0), .val (.ref o1), .val (.int (Int32.ofNat wn)), s3, s4] [])) _
            refine XS.iloadN X1.here hx rfl (hb hby d1_257) rfl ?_
            show Steps p.tables e below (T1.setTop (mkF m 258 #[.val (.ref o0), .val (.ref o1), .val (.int (Int32.ofNat wn)), s3, s4] [(.int (Int32.ofNat wn))])) _
            refine XS.aloadN X1.here hx rfl (hb hby d1_258) rfl rfl ?_
            exact kt
          obtain ⟨T1175, X1175, e1175, st1175⟩ := getF X1 hx hZ hown (host := "") (Or.inl (hw _ (List.mem_of_getElem? (i := 58) rfl))) Via.refl e1 F_patternWords_a (g := (mkF m 259 #[.val (.ref o0), .val (.ref o1), .val (.int (Int32.ofNat wn)), s3, s4] [(.ref o0), (.int (Int32.ofNat wn))])) rfl rfl (hb hby d1_259)
          refine Got.step st1175 ?_
          show Got p e below s _ _ _ _ T1175 (mkF m 262 #[.val (.ref o0), .val (.ref o1), .val (.int (Int32.ofNat wn)), s3, s4] [(.ref b1031), (.int (Int32.ofNat wn))])
          obtain ⟨cl1176, Ar1176, q1176, S1176, M1176, H1176, G1176⟩ := (id V1w)
          refine Got.step (T' := T1175) (fun tq kt => X1175.arraylength hx (cell := cl1176) (by rw [e1175]; exact Ar1176.1) (State.isArrayOf_alike hZ.alike Ar1176.2.1) (g := (mkF m 262 #[.val (.ref o0), .val (.ref o1), .val (.int (Int32.ofNat wn)), s3, s4] [(.ref b1031), (.int (Int32.ofNat wn))])) rfl (rest := [(.int (Int32.ofNat wn))]) rfl (hb hby d1_262) tq kt) ?_
          rw [len_of S1176 M1176]
          show Got p e below s _ _ _ _ T1175 (mkF m 263 #[.val (.ref o0), .val (.ref o1), .val (.int (Int32.ofNat wn)), s3, s4] [(.int (Int32.ofNat nn)), (.int (Int32.ofNat wn))])
          refine Got.step (T' := T1175) (g' := (mkF m 335 #[.val (.ref o0), .val (.ref o1), .val (.int (Int32.ofNat wn)), s3, s4] [])) (fun tq kt => ?_) ?_
          · show Steps p.tables e below (T1175.setTop (mkF m 263 #[.val (.ref o0), .val (.ref o1), .val (.int (Int32.ofNat wn)), s3, s4] [(.int (Int32.ofNat nn)), (.int (Int32.ofNat wn))])) _
            refine XS.icmpYes X1175.here hx rfl (pc0 := 263) (pc' := 335) rfl (hb hby d1_263) rfl (XT.ii_ge_t (own_wend hn hw1)) (by decide) (by decide) ?_
            exact kt
          exact Got.retV X1175 hx Bd.returns hlk (hb hby d1_335) ⟨N1, by rw [e1175]; exact K0_a, by rw [e1175]; exact E_o0_a, by rw [e1175]; exact F_lastOffset_a, by rw [e1175]; exact F_length_a, by rw [e1175]; exact F_source_a, by rw [e1175]; exact F_copiedTo_a, by rw [e1175]; exact F_lowBytes_a, by rw [e1175]; exact F_to_a, by rw [e1175]; exact F_placesEnd_a, by rw [e1175]; exact F_wholeEnd_a, by rw [e1175]; exact F_decidedEnd_a, by rw [e1175]; exact F_placed_a, by rw [e1175]; exact F_taken_a, by rw [e1175]; exact F_listedTo_a, by rw [e1175]; exact F_dense_a, by rw [e1175]; exact F_marking_a, by rw [e1175]; exact F_sections_a, by rw [e1175]; exact F_handedSections_a, ⟨b1031, k1031, Int32.ofNat nn, _, (Ne.symm ne_o0_b1031), sz_b1031, by rw [e1175]; exact F_patternWords_a, by rw [e1175]; exact V1w⟩⟩ (by decide) (by decide)
        | succ k ih =>
          intro wn hw1 T1 h1 L1 X1 e1 N1 K1 ws V1w hws s3 hs3 s4 hs4
          have Z0_b : n0 ≤ h1.size := (Nat.le_trans Z0_1148 K1.1)
          have F_patternWords_b : Fld Z h1 o0 "com/example/sidestep/sidestep/Starts" "patternWords" "[J" (.ref b1031) := (F_patternWords_1156.keep K1 (ninS ne_o0_b1031 nin0))
          have F_lastWordOffset_b : Fld Z h1 o0 "com/example/sidestep/sidestep/Starts" "lastWordOffset" "I" (.int (f4 (0 : Int32) ((Int32.ofNat nN) - (8 : Int32)))) := (F_lastWordOffset_1157.keep K1 (ninS ne_o0_b1031 nin0))
          have F_length_b : Fld Z h1 o0 "com/example/sidestep/sidestep/Starts" "length" "I" (.int (Int32.ofNat nN)) := (F_length_1151.keep K1 (ninS ne_o0_b1031 nin0))
          have V1_b : Arv Z h1 o1 ku .int (Int32.ofNat nN) (us.map Value.int) (.int (0 : Int32)) := (V1_1173.keep K1 (ninS ne_o1_b1031 nin0))
          refine Got.step (T' := T1) (g' := (mkF m 259 #[.val (.ref o0), .val (.ref o1), .val (.int (Int32.ofNat wn)), s3, s4] [(.ref o0), (.int (Int32.ofNat wn))])) (fun tq kt => ?_) ?_
          · show Steps p.tables e below (T1.setTop (mkF m 257 #[.val (.ref o0), .val (.ref o1), .val (.int (Int32.ofNat wn)), s3, s4] [])) _
            refine XS.iloadN X1.here hx rfl (hb hby d1_257) rfl ?_
            show Steps p.tables e below (T1.setTop (mkF m 258 #[.val (.ref o0), .val (.ref o1), .val (.int (Int32.ofNat wn)), s3, s4] [(.int (Int32.ofNat wn))])) _
            refine XS.aloadN X1.here hx rfl (hb hby d1_258) rfl rfl ?_
            exact kt
          obtain ⟨T1177, X1177, e1177, st1177⟩ := getF X1 hx hZ hown (host := "") (Or.inl (hw _ (List.mem_of_getElem? (i := 58) rfl))) Via.refl e1 F_patternWords_b (g := (mkF m 259 #[.val (.ref o0), .val (.ref o1), .val (.int (Int32.ofNat wn)), s3, s4] [(.ref o0), (.int (Int32.ofNat wn))])) rfl rfl (hb hby d1_259)
          refine Got.step st1177 ?_
          show Got p e below s _ _ _ _ T1177 (mkF m 262 #[.val (.ref o0), .val (.ref o1), .val (.int (Int32.ofNat wn)), s3, s4] [(.ref b1031), (.int (Int32.ofNat wn))])
          obtain ⟨cl1178, Ar1178, q1178, S1178, M1178, H1178, G1178⟩ := (id V1w)
          refine Got.step (T' := T1177) (fun tq kt => X1177.arraylength hx (cell := cl1178) (by rw [e1177]; exact Ar1178.1) (State.isArrayOf_alike hZ.alike Ar1178.2.1) (g := (mkF m 262 #[.val (.ref o0), .val (.ref o1), .val (.int (Int32.ofNat wn)), s3, s4] [(.ref b1031), (.int (Int32.ofNat wn))])) rfl (rest := [(.int (Int32.ofNat wn))]) rfl (hb hby d1_262) tq kt) ?_
          rw [len_of S1178 M1178]
          show Got p e below s _ _ _ _ T1177 (mkF m 263 #[.val (.ref o0), .val (.ref o1), .val (.int (Int32.ofNat wn)), s3, s4] [(.int (Int32.ofNat nn)), (.int (Int32.ofNat wn))])
          refine Got.step (T' := T1177) (g' := (mkF m 271 #[.val (.ref o0), .val (.ref o1), .val (.int (Int32.ofNat wn)), s3, s4] [(.ref o0), (.int ((Int32.ofNat wn) * (8 : Int32)))])) (fun tq kt => ?_) ?_
          · show Steps p.tables e below (T1177.setTop (mkF m 263 #[.val (.ref o0), .val (.ref o1), .val (.int (Int32.ofNat wn)), s3, s4] [(.int (Int32.ofNat nn)), (.int (Int32.ofNat wn))])) _
            refine XS.icmpNo X1177.here hx rfl (hb hby d1_263) rfl (XT.ii_ge_f (own_won hn hw1)) ?_
            show Steps p.tables e below (T1177.setTop (mkF m 266 #[.val (.ref o0), .val (.ref o1), .val (.int (Int32.ofNat wn)), s3, s4] [])) _
            refine XS.iloadN X1177.here hx rfl (hb hby d1_266) rfl ?_
            show Steps p.tables e below (T1177.setTop (mkF m 267 #[.val (.ref o0), .val (.ref o1), .val (.int (Int32.ofNat wn)), s3, s4] [(.int (Int32.ofNat wn))])) _
            refine XS.bipush X1177.here hx rfl (hb hby d1_267) ?_
            show Steps p.tables e below (T1177.setTop (mkF m 269 #[.val (.ref o0), .val (.ref o1), .val (.int (Int32.ofNat wn)), s3, s4] [(.int (8 : Int32)), (.int (Int32.ofNat wn))])) _
            refine XS.imul X1177.here hx rfl (hb hby d1_269) rfl ?_
            show Steps p.tables e below (T1177.setTop (mkF m 270 #[.val (.ref o0), .val (.ref o1), .val (.int (Int32.ofNat wn)), s3, s4] [(.int ((Int32.ofNat wn) * (8 : Int32)))])) _
            refine XS.aloadN X1177.here hx rfl (hb hby d1_270) rfl rfl ?_
            exact kt
          obtain ⟨T1179, X1179, e1179, st1179⟩ := getF X1177 hx hZ hown (host := "") (Or.inl (hw _ (List.mem_of_getElem? (i := 60) rfl))) Via.refl e1177 F_lastWordOffset_b (g := (mkF m 271 #[.val (.ref o0), .val (.ref o1), .val (.int (Int32.ofNat wn)), s3, s4] [(.ref o0), (.int ((Int32.ofNat wn) * (8 : Int32)))])) rfl rfl (hb hby d1_271)
          refine Got.step st1179 ?_
          show Got p e below s _ _ _ _ T1179 (mkF m 274 #[.val (.ref o0), .val (.ref o1), .val (.int (Int32.ofNat wn)), s3, s4] [(.int (f4 (0 : Int32) ((Int32.ofNat nN) - (8 : Int32)))), (.int ((Int32.ofNat wn) * (8 : Int32)))])
          obtain ⟨_, _, ⟨T1180, L1180, k1180, n1180⟩, -, X1180, ⟨Lc1180, hQ1180, l1180, y1180, z1180⟩, st1180⟩ := Jvm.LawKit.callS X1179 hx (y := (⟨"java/lang/Math", "min", "(II)I"⟩ : MethodName)) hown (mvT hZ (hw _ (List.mem_of_getElem? (i := 30) rfl))) (mvT hZ (hw _ (List.mem_of_getElem? (i := 31) rfl))) (mvT hZ (hw _ (List.mem_of_getElem? (i := 32) rfl))) (mvT hZ (hw _ (List.mem_of_getElem? (i := 33) rfl))) (by decide) (backOf (W := 0) (rm3 l Z a0 hw [] ((Int32.ofNat wn) * (8 : Int32)) (f4 (0 : Int32) ((Int32.ofNat nN) - (8 : Int32))) h1 n0 Z0_b) hZ (hw _ (List.mem_of_getElem? (i := 33) rfl)) (hw _ (List.mem_of_getElem? (i := 32) rfl)) (by decide) (by decide)) (g := (mkF m 274 #[.val (.ref o0), .val (.ref o1), .val (.int (Int32.ofNat wn)), s3, s4] [(.int (f4 (0 : Int32) ((Int32.ofNat nN) - (8 : Int32)))), (.int ((Int32.ofNat wn) * (8 : Int32)))])) rfl (by rw [hml]; rfl) (argsL := [(.int ((Int32.ofNat wn) * (8 : Int32))), (.int (f4 (0 : Int32) ((Int32.ofNat nN) - (8 : Int32))))]) (rest := []) (lenOf pd_0 rfl) rfl (by show 2 * 0 + _ ≤ _; exact Nat.le_of_eq rfl) (hb hby d1_274) (fun _ _ => ⟨rfl, e1179, (by decide : 6 + 0 ≤ _), (by decide : 43 + 0 ≤ _)⟩)
          dsimp only [Pt.U, Pt.locs, Pt.cells, Pt.slots] at X1180 l1180 y1180 z1180 st1180 hQ1180
          subst y1180 z1180
          obtain ⟨rfl, Nq1180, e1180⟩ := hQ1180
          have N1180 : Fr n0 L1180 := by rw [l1180]; exact Fr.app N1 Nq1180
          refine Got.step st1180 ?_
          show Got p e below s _ _ _ _ T1180 (mkF m 277 #[.val (.ref o0), .val (.ref o1), .val (.int (Int32.ofNat wn)), s3, s4] [(.int (f3 ((Int32.ofNat wn) * (8 : Int32)) (f4 (0 : Int32) ((Int32.ofNat nN) - (8 : Int32)))))])
          refine Got.step (T' := T1180) (g' := (mkF m 281 #[.val (.ref o0), .val (.ref o1), .val (.int (Int32.ofNat wn)), .val (.int (f3 ((Int32.ofNat wn) * (8 : Int32)) (f4 (0 : Int32) ((Int32.ofNat nN) - (8 : Int32))))), .val (.int (f3 ((Int32.ofNat wn) * (8 : Int32)) (f4 (0 : Int32) ((Int32.ofNat nN) - (8 : Int32)))))] [])) (fun tq kt => ?_) ?_
          · show Steps p.tables e below (T1180.setTop (mkF m 277 #[.val (.ref o0), .val (.ref o1), .val (.int (Int32.ofNat wn)), s3, s4] [(.int (f3 ((Int32.ofNat wn) * (8 : Int32)) (f4 (0 : Int32) ((Int32.ofNat nN) - (8 : Int32)))))])) _
            refine XS.istoreN X1180.here hx rfl (hb hby d1_277) rfl (l' := #[.val (.ref o0), .val (.ref o1), .val (.int (Int32.ofNat wn)), .val (.int (f3 ((Int32.ofNat wn) * (8 : Int32)) (f4 (0 : Int32) ((Int32.ofNat nN) - (8 : Int32))))), s4]) (os1181 hs3) ?_
            show Steps p.tables e below (T1180.setTop (mkF m 278 #[.val (.ref o0), .val (.ref o1), .val (.int (Int32.ofNat wn)), .val (.int (f3 ((Int32.ofNat wn) * (8 : Int32)) (f4 (0 : Int32) ((Int32.ofNat nN) - (8 : Int32))))), s4] [])) _
            refine XS.iloadN X1180.here hx rfl (hb hby d1_278) rfl ?_
            show Steps p.tables e below (T1180.setTop (mkF m 279 #[.val (.ref o0), .val (.ref o1), .val (.int (Int32.ofNat wn)), .val (.int (f3 ((Int32.ofNat wn) * (8 : Int32)) (f4 (0 : Int32) ((Int32.ofNat nN) - (8 : Int32))))), s4] [(.int (f3 ((Int32.ofNat wn) * (8 : Int32)) (f4 (0 : Int32) ((Int32.ofNat nN) - (8 : Int32)))))])) _
            refine XS.istore X1180.here hx rfl (hb hby d1_279) rfl (l' := #[.val (.ref o0), .val (.ref o1), .val (.int (Int32.ofNat wn)), .val (.int (f3 ((Int32.ofNat wn) * (8 : Int32)) (f4 (0 : Int32) ((Int32.ofNat nN) - (8 : Int32))))), .val (.int (f3 ((Int32.ofNat wn) * (8 : Int32)) (f4 (0 : Int32) ((Int32.ofNat nN) - (8 : Int32)))))]) (os1182 hs4) ?_
            exact kt
          obtain ⟨j0, hj0, ej0⟩ := own_j0 hN (by omega : wn ≤ 1)
          rw [ej0]
          show Got p e below s _ _ _ _ T1180 (mkF m 281 #[.val (.ref o0), .val (.ref o1), .val (.int (Int32.ofNat wn)), .val (.int (Int32.ofNat j0)), .val (.int (Int32.ofNat j0))] [])
          have JI : ∀ (kk j : Nat), nN ≤ j + kk → j ≤ 20 → ∀ (T2 : State) (h2 : Heap) (L2 : List Loc), Stand p l e ({ frames := 1, cells := 6, slots := 43, locals := 14 } : Room) s m #[(.ref o0), (.ref o1)] below meth c T2 L2 6 43 → T2.heap = h2 → Fr n0 L2 → Keep h1147 h2 [b1031] → ∀ (ws2 : List Int64), Arv Z h2 b1031 k1031 .long (Int32.ofNat nn) (ws2.map Value.long) (.long (0 : Int64)) → ws2.length = 2 → Got p e below s (fun h L => Fr n0 L ∧ Keep h0 h [o0] ∧ Exa Z h o0 "com/example/sidestep/sidestep/Starts" ∧ Fld Z h o0 "com/example/sidestep/sidestep/Starts" "lastOffset" "I" (.int ((Int32.ofNat nN) - (1 : Int32))) ∧ Fld Z h o0 "com/example/sidestep/sidestep/Starts" "length" "I" (.int (Int32.ofNat nN)) ∧ Fld Z h o0 "com/example/sidestep/sidestep/Starts" "source" "Lcom/example/sidestep/sidestep/Starts$LowBytes;" .null ∧ Fld Z h o0 "com/example/sidestep/sidestep/Starts" "copiedTo" "I" (.int (0 : Int32)) ∧ Fld Z h o0 "com/example/sidestep/sidestep/Starts" "lowBytes" "[B" .null ∧ Fld Z h o0 "com/example/sidestep/sidestep/Starts" "to" "I" (.int (0 : Int32)) ∧ Fld Z h o0 "com/example/sidestep/sidestep/Starts" "placesEnd" "I" (.int (0 : Int32)) ∧ Fld Z h o0 "com/example/sidestep/sidestep/Starts" "wholeEnd" "I" (.int (0 : Int32)) ∧ Fld Z h o0 "com/example/sidestep/sidestep/Starts" "decidedEnd" "I" (.int (0 : Int32)) ∧ Fld Z h o0 "com/example/sidestep/sidestep/Starts" "placed" "I" (.int (0 : Int32)) ∧ Fld Z h o0 "com/example/sidestep/sidestep/Starts" "taken" "I" (.int (0 : Int32)) ∧ Fld Z h o0 "com/example/sidestep/sidestep/Starts" "listedTo" "I" (.int (0 : Int32)) ∧ Fld Z h o0 "com/example/sidestep/sidestep/Starts" "dense" "Z" (.int (0 : Int32)) ∧ Fld Z h o0 "com/example/sidestep/sidestep/Starts" "marking" "I" (.int (0 : Int32)) ∧ Fld Z h o0 "com/example/sidestep/sidestep/Starts" "sections" "I" (.int (0 : Int32)) ∧ Fld Z h o0 "com/example/sidestep/sidestep/Starts" "handedSections" "I" (.int (0 : Int32)) ∧ ∃ (ow : Addr) (kw : ClassId) (nw : Int32) (vs : List Value), ow ≠ o0 ∧ h0.size ≤ ow ∧ Fld Z h o0 "com/example/sidestep/sidestep/Starts" "patternWords" "[J" (.ref ow) ∧ Arv Z h ow kw .long nw vs (.long (0 : Int64))) 6 43 none T2 (mkF m 281 #[.val (.ref o0), .val (.ref o1), .val (.int (Int32.ofNat wn)), .val (.int (Int32.ofNat j0)), .val (.int (Int32.ofNat j))] []) := by
            intro kk
            induction kk with
            | zero =>
              intro j hj hj20 T2 h2 L2 X2 e2 N2 K2 ws2 V2w hws2
              have Z0_c0 : n0 ≤ h2.size := (Nat.le_trans Z0_1148 K2.1)
              have F_patternWords_c0 : Fld Z h2 o0 "com/example/sidestep/sidestep/Starts" "patternWords" "[J" (.ref b1031) := (F_patternWords_1156.keep K2 (ninS ne_o0_b1031 nin0))
              have F_lastWordOffset_c0 : Fld Z h2 o0 "com/example/sidestep/sidestep/Starts" "lastWordOffset" "I" (.int (f4 (0 : Int32) ((Int32.ofNat nN) - (8 : Int32)))) := (F_lastWordOffset_1157.keep K2 (ninS ne_o0_b1031 nin0))
              have F_length_c0 : Fld Z h2 o0 "com/example/sidestep/sidestep/Starts" "length" "I" (.int (Int32.ofNat nN)) := (F_length_1151.keep K2 (ninS ne_o0_b1031 nin0))
              have V1_c0 : Arv Z h2 o1 ku .int (Int32.ofNat nN) (us.map Value.int) (.int (0 : Int32)) := (V1_1173.keep K2 (ninS ne_o1_b1031 nin0))
              refine Got.step (T' := T2) (g' := (mkF m 288 #[.val (.ref o0), .val (.ref o1), .val (.int (Int32.ofNat wn)), .val (.int (Int32.ofNat j0)), .val (.int (Int32.ofNat j))] [(.ref o0), (.int ((Int32.ofNat j0) + (8 : Int32))), (.int (Int32.ofNat j))])) (fun tq kt => ?_) ?_
              · show Steps p.tables e below (T2.setTop (mkF m 281 #[.val (.ref o0), .val (.ref o1), .val (.int (Int32.ofNat wn)), .val (.int (Int32.ofNat j0)), .val (.int (Int32.ofNat j))] [])) _
                refine XS.iload X2.here hx rfl (hb hby d1_281) rfl ?_
                show Steps p.tables e below (T2.setTop (mkF m 283 #[.val (.ref o0), .val (.ref o1), .val (.int (Int32.ofNat wn)), .val (.int (Int32.ofNat j0)), .val (.int (Int32.ofNat j))] [(.int (Int32.ofNat j))])) _
                refine XS.iloadN X2.here hx rfl (hb hby d1_283) rfl ?_
                show Steps p.tables e below (T2.setTop (mkF m 284 #[.val (.ref o0), .val (.ref o1), .val (.int (Int32.ofNat wn)), .val (.int (Int32.ofNat j0)), .val (.int (Int32.ofNat j))] [(.int (Int32.ofNat j0)), (.int (Int32.ofNat j))])) _
                refine XS.bipush X2.here hx rfl (hb hby d1_284) ?_
                show Steps p.tables e below (T2.setTop (mkF m 286 #[.val (.ref o0), .val (.ref o1), .val (.int (Int32.ofNat wn)), .val (.int (Int32.ofNat j0)), .val (.int (Int32.ofNat j))] [(.int (8 : Int32)), (.int (Int32.ofNat j0)), (.int (Int32.ofNat j))])) _
                refine XS.iadd X2.here hx rfl (hb hby d1_286) rfl ?_
                show Steps p.tables e below (T2.setTop (mkF m 287 #[.val (.ref o0), .val (.ref o1), .val (.int (Int32.ofNat wn)), .val (.int (Int32.ofNat j0)), .val (.int (Int32.ofNat j))] [(.int ((Int32.ofNat j0) + (8 : Int32))), (.int (Int32.ofNat j))])) _
                refine XS.aloadN X2.here hx rfl (hb hby d1_287) rfl rfl ?_
                exact kt
              obtain ⟨T1183, X1183, e1183, st1183⟩ := getF X2 hx hZ hown (host := "") (Or.inl (hw _ (List.mem_of_getElem? (i := 24) rfl))) Via.refl e2 F_length_c0 (g := (mkF m 288 #[.val (.ref o0), .val (.ref o1), .val (.int (Int32.ofNat wn)), .val (.int (Int32.ofNat j0)), .val (.int (Int32.ofNat j))] [(.ref o0), (.int ((Int32.ofNat j0) + (8 : Int32))), (.int (Int32.ofNat j))])) rfl rfl (hb hby d1_288)
              refine Got.step st1183 ?_
              show Got p e below s _ _ _ _ T1183 (mkF m 291 #[.val (.ref o0), .val (.ref o1), .val (.int (Int32.ofNat wn)), .val (.int (Int32.ofNat j0)), .val (.int (Int32.ofNat j))] [(.int (Int32.ofNat nN)), (.int ((Int32.ofNat j0) + (8 : Int32))), (.int (Int32.ofNat j))])
              obtain ⟨_, _, ⟨T1184, L1184, k1184, n1184⟩, -, X1184, ⟨Lc1184, hQ1184, l1184, y1184, z1184⟩, st1184⟩ := Jvm.LawKit.callS X1183 hx (y := (⟨"java/lang/Math", "min", "(II)I"⟩ : MethodName)) hown (mvT hZ (hw _ (List.mem_of_getElem? (i := 30) rfl))) (mvT hZ (hw _ (List.mem_of_getElem? (i := 31) rfl))) (mvT hZ (hw _ (List.mem_of_getElem? (i := 32) rfl))) (mvT hZ (hw _ (List.mem_of_getElem? (i := 33) rfl))) (by decide) (backOf (W := 1) (rm3 l Z a0 hw [] ((Int32.ofNat j0) + (8 : Int32)) (Int32.ofNat nN) h2 n0 Z0_c0) hZ (hw _ (List.mem_of_getElem? (i := 33) rfl)) (hw _ (List.mem_of_getElem? (i := 32) rfl)) (by decide) (by decide)) (g := (mkF m 291 #[.val (.ref o0), .val (.ref o1), .val (.int (Int32.ofNat wn)), .val (.int (Int32.ofNat j0)), .val (.int (Int32.ofNat j))] [(.int (Int32.ofNat nN)), (.int ((Int32.ofNat j0) + (8 : Int32))), (.int (Int32.ofNat j))])) rfl (by rw [hml]; rfl) (argsL := [(.int ((Int32.ofNat j0) + (8 : Int32))), (.int (Int32.ofNat nN))]) (rest := [(.int (Int32.ofNat j))]) (lenOf pd_0 rfl) rfl (by show 2 * 0 + _ ≤ _; exact Nat.le_of_eq rfl) (hb hby d1_291) (fun _ _ => ⟨rfl, e1183, (by decide : 6 + 0 ≤ _), (by decide : 43 + 0 ≤ _)⟩)
              dsimp only [Pt.U, Pt.locs, Pt.cells, Pt.slots] at X1184 l1184 y1184 z1184 st1184 hQ1184
              subst y1184 z1184
              obtain ⟨rfl, Nq1184, e1184⟩ := hQ1184
              have N1184 : Fr n0 L1184 := by rw [l1184]; exact Fr.app N2 Nq1184
              refine Got.step st1184 ?_
              show Got p e below s _ _ _ _ T1184 (mkF m 294 #[.val (.ref o0), .val (.ref o1), .val (.int (Int32.ofNat wn)), .val (.int (Int32.ofNat j0)), .val (.int (Int32.ofNat j))] [(.int (f3 ((Int32.ofNat j0) + (8 : Int32)) (Int32.ofNat nN))), (.int (Int32.ofNat j))])
              refine Got.step (T' := T1184) (g' := (mkF m 257 #[.val (.ref o0), .val (.ref o1), .val (.int ((Int32.ofNat wn) + (1 : Int32))), .val (.int (Int32.ofNat j0)), .val (.int (Int32.ofNat j))] [])) (fun tq kt => ?_) ?_
              · show Steps p.tables e below (T1184.setTop (mkF m 294 #[.val (.ref o0), .val (.ref o1), .val (.int (Int32.ofNat wn)), .val (.int (Int32.ofNat j0)), .val (.int (Int32.ofNat j))] [(.int (f3 ((Int32.ofNat j0) + (8 : Int32)) (Int32.ofNat nN))), (.int (Int32.ofNat j))])) _
                refine XS.icmpYes X1184.here hx rfl (pc0 := 294) (pc' := 329) rfl (hb hby d1_294) rfl (XT.ii_ge_t (own_jend hN (by omega : nN ≤ j) hj20)) (by decide) (by decide) ?_
                show Steps p.tables e below (T1184.setTop (mkF m 329 #[.val (.ref o0), .val (.ref o1), .val (.int (Int32.ofNat wn)), .val (.int (Int32.ofNat j0)), .val (.int (Int32.ofNat j))] [])) _
                refine XS.iinc X1184.here hx rfl (hb hby d1_329) rfl (l' := #[.val (.ref o0), .val (.ref o1), .val (.int ((Int32.ofNat wn) + (1 : Int32))), .val (.int (Int32.ofNat j0)), .val (.int (Int32.ofNat j))]) rfl ?_
                show Steps p.tables e below (T1184.setTop (mkF m 332 #[.val (.ref o0), .val (.ref o1), .val (.int ((Int32.ofNat wn) + (1 : Int32))), .val (.int (Int32.ofNat j0)), .val (.int (Int32.ofNat j))] [])) _
                refine XS.goto X1184.here hx rfl (pc0 := 332) (pc' := 257) rfl (hb hby d1_332) (by decide) (by decide) ?_
                exact kt
              rw [own_one wn]
              exact ih (wn + 1) (by omega) _ _ _ X1184 e1184 N1184 K2 _ V2w hws2 _ (one_int _) _ (one_int _)
            | succ kk ihk =>
              intro j hj hj20 T2 h2 L2 X2 e2 N2 K2 ws2 V2w hws2
              have Z0_c1 : n0 ≤ h2.size := (Nat.le_trans Z0_1148 K2.1)
              have F_patternWords_c1 : Fld Z h2 o0 "com/example/sidestep/sidestep/Starts" "patternWords" "[J" (.ref b1031) := (F_patternWords_1156.keep K2 (ninS ne_o0_b1031 nin0))
              have F_lastWordOffset_c1 : Fld Z h2 o0 "com/example/sidestep/sidestep/Starts" "lastWordOffset" "I" (.int (f4 (0 : Int32) ((Int32.ofNat nN) - (8 : Int32)))) := (F_lastWordOffset_1157.keep K2 (ninS ne_o0_b1031 nin0))
              have F_length_c1 : Fld Z h2 o0 "com/example/sidestep/sidestep/Starts" "length" "I" (.int (Int32.ofNat nN)) := (F_length_1151.keep K2 (ninS ne_o0_b1031 nin0))
              have V1_c1 : Arv Z h2 o1 ku .int (Int32.ofNat nN) (us.map Value.int) (.int (0 : Int32)) := (V1_1173.keep K2 (ninS ne_o1_b1031 nin0))
              refine Got.step (T' := T2) (g' := (mkF m 288 #[.val (.ref o0), .val (.ref o1), .val (.int (Int32.ofNat wn)), .val (.int (Int32.ofNat j0)), .val (.int (Int32.ofNat j))] [(.ref o0), (.int ((Int32.ofNat j0) + (8 : Int32))), (.int (Int32.ofNat j))])) (fun tq kt => ?_) ?_
              · show Steps p.tables e below (T2.setTop (mkF m 281 #[.val (.ref o0), .val (.ref o1), .val (.int (Int32.ofNat wn)), .val (.int (Int32.ofNat j0)), .val (.int (Int32.ofNat j))] [])) _
                refine XS.iload X2.here hx rfl (hb hby d1_281) rfl ?_
                show Steps p.tables e below (T2.setTop (mkF m 283 #[.val (.ref o0), .val (.ref o1), .val (.int (Int32.ofNat wn)), .val (.int (Int32.ofNat j0)), .val (.int (Int32.ofNat j))] [(.int (Int32.ofNat j))])) _
                refine XS.iloadN X2.here hx rfl (hb hby d1_283) rfl ?_
                show Steps p.tables e below (T2.setTop (mkF m 284 #[.val (.ref o0), .val (.ref o1), .val (.int (Int32.ofNat wn)), .val (.int (Int32.ofNat j0)), .val (.int (Int32.ofNat j))] [(.int (Int32.ofNat j0)), (.int (Int32.ofNat j))])) _
                refine XS.bipush X2.here hx rfl (hb hby d1_284) ?_
                show Steps p.tables e below (T2.setTop (mkF m 286 #[.val (.ref o0), .val (.ref o1), .val (.int (Int32.ofNat wn)), .val (.int (Int32.ofNat j0)), .val (.int (Int32.ofNat j))] [(.int (8 : Int32)), (.int (Int32.ofNat j0)), (.int (Int32.ofNat j))])) _
                refine XS.iadd X2.here hx rfl (hb hby d1_286) rfl ?_
                show Steps p.tables e below (T2.setTop (mkF m 287 #[.val (.ref o0), .val (.ref o1), .val (.int (Int32.ofNat wn)), .val (.int (Int32.ofNat j0)), .val (.int (Int32.ofNat j))] [(.int ((Int32.ofNat j0) + (8 : Int32))), (.int (Int32.ofNat j))])) _
                refine XS.aloadN X2.here hx rfl (hb hby d1_287) rfl rfl ?_
                exact kt
              obtain ⟨T1185, X1185, e1185, st1185⟩ := getF X2 hx hZ hown (host := "") (Or.inl (hw _ (List.mem_of_getElem? (i := 24) rfl))) Via.refl e2 F_length_c1 (g := (mkF m 288 #[.val (.ref o0), .val (.ref o1), .val (.int (Int32.ofNat wn)), .val (.int (Int32.ofNat j0)), .val (.int (Int32.ofNat j))] [(.ref o0), (.int ((Int32.ofNat j0) + (8 : Int32))), (.int (Int32.ofNat j))])) rfl rfl (hb hby d1_288)
              refine Got.step st1185 ?_
              show Got p e below s _ _ _ _ T1185 (mkF m 291 #[.val (.ref o0), .val (.ref o1), .val (.int (Int32.ofNat wn)), .val (.int (Int32.ofNat j0)), .val (.int (Int32.ofNat j))] [(.int (Int32.ofNat nN)), (.int ((Int32.ofNat j0) + (8 : Int32))), (.int (Int32.ofNat j))])
              obtain ⟨_, _, ⟨T1186, L1186, k1186, n1186⟩, -, X1186, ⟨Lc1186, hQ1186, l1186, y1186, z1186⟩, st1186⟩ := Jvm.LawKit.callS X1185 hx (y := (⟨"java/lang/Math", "min", "(II)I"⟩ : MethodName)) hown (mvT hZ (hw _ (List.mem_of_getElem? (i := 30) rfl))) (mvT hZ (hw _ (List.mem_of_getElem? (i := 31) rfl))) (mvT hZ (hw _ (List.mem_of_getElem? (i := 32) rfl))) (mvT hZ (hw _ (List.mem_of_getElem? (i := 33) rfl))) (by decide) (backOf (W := 1) (rm3 l Z a0 hw [] ((Int32.ofNat j0) + (8 : Int32)) (Int32.ofNat nN) h2 n0 Z0_c1) hZ (hw _ (List.mem_of_getElem? (i := 33) rfl)) (hw _ (List.mem_of_getElem? (i := 32) rfl)) (by decide) (by decide)) (g := (mkF m 291 #[.val (.ref o0), .val (.ref o1), .val (.int (Int32.ofNat wn)), .val (.int (Int32.ofNat j0)), .val (.int (Int32.ofNat j))] [(.int (Int32.ofNat nN)), (.int ((Int32.ofNat j0) + (8 : Int32))), (.int (Int32.ofNat j))])) rfl (by rw [hml]; rfl) (argsL := [(.int ((Int32.ofNat j0) + (8 : Int32))), (.int (Int32.ofNat nN))]) (rest := [(.int (Int32.ofNat j))]) (lenOf pd_0 rfl) rfl (by show 2 * 0 + _ ≤ _; exact Nat.le_of_eq rfl) (hb hby d1_291) (fun _ _ => ⟨rfl, e1185, (by decide : 6 + 0 ≤ _), (by decide : 43 + 0 ≤ _)⟩)
              dsimp only [Pt.U, Pt.locs, Pt.cells, Pt.slots] at X1186 l1186 y1186 z1186 st1186 hQ1186
              subst y1186 z1186
              obtain ⟨rfl, Nq1186, e1186⟩ := hQ1186
              have N1186 : Fr n0 L1186 := by rw [l1186]; exact Fr.app N2 Nq1186
              refine Got.step st1186 ?_
              show Got p e below s _ _ _ _ T1186 (mkF m 294 #[.val (.ref o0), .val (.ref o1), .val (.int (Int32.ofNat wn)), .val (.int (Int32.ofNat j0)), .val (.int (Int32.ofNat j))] [(.int (f3 ((Int32.ofNat j0) + (8 : Int32)) (Int32.ofNat nN))), (.int (Int32.ofNat j))])
              by_cases hc1187 : ((Int32.ofNat j) < (f3 ((Int32.ofNat j0) + (8 : Int32)) (Int32.ofNat nN)))
              · refine Got.step (T' := T1186) (g' := (mkF m 298 #[.val (.ref o0), .val (.ref o1), .val (.int (Int32.ofNat wn)), .val (.int (Int32.ofNat j0)), .val (.int (Int32.ofNat j))] [(.ref o0)])) (fun tq kt => ?_) ?_
                · show Steps p.tables e below (T1186.setTop (mkF m 294 #[.val (.ref o0), .val (.ref o1), .val (.int (Int32.ofNat wn)), .val (.int (Int32.ofNat j0)), .val (.int (Int32.ofNat j))] [(.int (f3 ((Int32.ofNat j0) + (8 : Int32)) (Int32.ofNat nN))), (.int (Int32.ofNat j))])) _
                  refine XS.icmpNo X1186.here hx rfl (hb hby d1_294) rfl (XT.ii_ge_f hc1187) ?_
                  show Steps p.tables e below (T1186.setTop (mkF m 297 #[.val (.ref o0), .val (.ref o1), .val (.int (Int32.ofNat wn)), .val (.int (Int32.ofNat j0)), .val (.int (Int32.ofNat j))] [])) _
                  refine XS.aloadN X1186.here hx rfl (hb hby d1_297) rfl rfl ?_
                  exact kt
                obtain ⟨T1188, X1188, e1188, st1188⟩ := getF X1186 hx hZ hown (host := "") (Or.inl (hw _ (List.mem_of_getElem? (i := 58) rfl))) Via.refl e1186 F_patternWords_c1 (g := (mkF m 298 #[.val (.ref o0), .val (.ref o1), .val (.int (Int32.ofNat wn)), .val (.int (Int32.ofNat j0)), .val (.int (Int32.ofNat j))] [(.ref o0)])) rfl rfl (hb hby d1_298)
                refine Got.step st1188 ?_
                show Got p e below s _ _ _ _ T1188 (mkF m 301 #[.val (.ref o0), .val (.ref o1), .val (.int (Int32.ofNat wn)), .val (.int (Int32.ofNat j0)), .val (.int (Int32.ofNat j))] [(.ref b1031)])
                refine Got.step (T' := T1188) (g' := (mkF m 303 #[.val (.ref o0), .val (.ref o1), .val (.int (Int32.ofNat wn)), .val (.int (Int32.ofNat j0)), .val (.int (Int32.ofNat j))] [(.int (Int32.ofNat wn)), (.ref b1031), (.int (Int32.ofNat wn)), (.ref b1031)])) (fun tq kt => ?_) ?_
                · show Steps p.tables e below (T1188.setTop (mkF m 301 #[.val (.ref o0), .val (.ref o1), .val (.int (Int32.ofNat wn)), .val (.int (Int32.ofNat j0)), .val (.int (Int32.ofNat j))] [(.ref b1031)])) _
                  refine XS.iloadN X1188.here hx rfl (hb hby d1_301) rfl ?_
                  show Steps p.tables e below (T1188.setTop (mkF m 302 #[.val (.ref o0), .val (.ref o1), .val (.int (Int32.ofNat wn)), .val (.int (Int32.ofNat j0)), .val (.int (Int32.ofNat j))] [(.int (Int32.ofNat wn)), (.ref b1031)])) _
                  refine XT.dup2 X1188.here hx rfl (hb hby d1_302) rfl rfl rfl ?_
                  exact kt
                obtain ⟨cl1189, Ar1189, q1189, S1189, M1189, H1189, G1189⟩ := (id V2w)
                have hin1189 : ¬ ((Int32.ofNat wn) < 0 ∨ cl1189.slots.size ≤ ((Int32.ofNat wn)).toNatClampNeg) := inb_of S1189 (own_win hn hw1)
                refine Got.step (T' := T1188) (fun tq kt => X1188.laload hx (j := (Int32.ofNat wn)) (v := (.long (ws2.getD wn 0))) (by rw [e1188]; exact Ar1189.1) (State.isArrayOf_alike hZ.alike Ar1189.2.1) Ar1189.2.2 hin1189 (H1189.at hin1189 (own_rdw _ (by omega))) (g := (mkF m 303 #[.val (.ref o0), .val (.ref o1), .val (.int (Int32.ofNat wn)), .val (.int (Int32.ofNat j0)), .val (.int (Int32.ofNat j))] [(.int (Int32.ofNat wn)), (.ref b1031), (.int (Int32.ofNat wn)), (.ref b1031)])) rfl rfl (hb hby d1_303) tq kt) ?_
                show Got p e below s _ _ _ _ T1188 (mkF m 304 #[.val (.ref o0), .val (.ref o1), .val (.int (Int32.ofNat wn)), .val (.int (Int32.ofNat j0)), .val (.int (Int32.ofNat j))] [(.long (ws2.getD wn 0)), (.int (Int32.ofNat wn)), (.ref b1031)])
                refine Got.step (T' := T1188) (g' := (mkF m 307 #[.val (.ref o0), .val (.ref o1), .val (.int (Int32.ofNat wn)), .val (.int (Int32.ofNat j0)), .val (.int (Int32.ofNat j))] [(.int (Int32.ofNat j)), (.ref o1), (.long (ws2.getD wn 0)), (.int (Int32.ofNat wn)), (.ref b1031)])) (fun tq kt => ?_) ?_
                · show Steps p.tables e below (T1188.setTop (mkF m 304 #[.val (.ref o0), .val (.ref o1), .val (.int (Int32.ofNat wn)), .val (.int (Int32.ofNat j0)), .val (.int (Int32.ofNat j))] [(.long (ws2.getD wn 0)), (.int (Int32.ofNat wn)), (.ref b1031)])) _
                  refine XS.aloadN X1188.here hx rfl (hb hby d1_304) rfl rfl ?_
                  show Steps p.tables e below (T1188.setTop (mkF m 305 #[.val (.ref o0), .val (.ref o1), .val (.int (Int32.ofNat wn)), .val (.int (Int32.ofNat j0)), .val (.int (Int32.ofNat j))] [(.ref o1), (.long (ws2.getD wn 0)), (.int (Int32.ofNat wn)), (.ref b1031)])) _
                  refine XS.iload X1188.here hx rfl (hb hby d1_305) rfl ?_
                  exact kt
                obtain ⟨cl1190, Ar1190, q1190, S1190, M1190, H1190, G1190⟩ := (id V1_c1)
                have hin1190 : ¬ ((Int32.ofNat j) < 0 ∨ cl1190.slots.size ≤ ((Int32.ofNat j)).toNatClampNeg) := inb_of S1190 (own_jin hN hj20 hc1187)
                obtain ⟨x1190, hx1190⟩ := fit_I (G1190 _ (Nat.lt_of_not_le fun y => hin1190 (Or.inr y))) (by simp)
                refine Got.step (T' := T1188) (fun tq kt => X1188.iaload hx (j := (Int32.ofNat j)) (v := (.int x1190)) (by rw [e1188]; exact Ar1190.1) (State.isArrayOf_alike hZ.alike Ar1190.2.1) Ar1190.2.2 hin1190 (H1190.at hin1190 hx1190) (g := (mkF m 307 #[.val (.ref o0), .val (.ref o1), .val (.int (Int32.ofNat wn)), .val (.int (Int32.ofNat j0)), .val (.int (Int32.ofNat j))] [(.int (Int32.ofNat j)), (.ref o1), (.long (ws2.getD wn 0)), (.int (Int32.ofNat wn)), (.ref b1031)])) rfl rfl (hb hby d1_307) tq kt) ?_
                show Got p e below s _ _ _ _ T1188 (mkF m 308 #[.val (.ref o0), .val (.ref o1), .val (.int (Int32.ofNat wn)), .val (.int (Int32.ofNat j0)), .val (.int (Int32.ofNat j))] [(.int x1190), (.long (ws2.getD wn 0)), (.int (Int32.ofNat wn)), (.ref b1031)])
                refine Got.step (T' := T1188) (g' := (mkF m 322 #[.val (.ref o0), .val (.ref o1), .val (.int (Int32.ofNat wn)), .val (.int (Int32.ofNat j0)), .val (.int (Int32.ofNat j))] [(.long ((ws2.getD wn 0) ||| (((x1190.toInt64) &&& (255 : Int64)) <<< ((((Int32.ofNat j) - (Int32.ofNat j0)) * (8 : Int32)) &&& 0x3f).toInt64))), (.int (Int32.ofNat wn)), (.ref b1031)])) (fun tq kt => ?_) ?_
                · show Steps p.tables e below (T1188.setTop (mkF m 308 #[.val (.ref o0), .val (.ref o1), .val (.int (Int32.ofNat wn)), .val (.int (Int32.ofNat j0)), .val (.int (Int32.ofNat j))] [(.int x1190), (.long (ws2.getD wn 0)), (.int (Int32.ofNat wn)), (.ref b1031)])) _
                  refine XS.i2l X1188.here hx rfl (hb hby d1_308) rfl ?_
                  show Steps p.tables e below (T1188.setTop (mkF m 309 #[.val (.ref o0), .val (.ref o1), .val (.int (Int32.ofNat wn)), .val (.int (Int32.ofNat j0)), .val (.int (Int32.ofNat j))] [(.long (x1190.toInt64)), (.long (ws2.getD wn 0)), (.int (Int32.ofNat wn)), (.ref b1031)])) _
                  refine X1188.ldc2J hx hown (mvT hZ (hw _ (List.mem_of_getElem? (i := 46) rfl))) rfl (hb hby d1_309) ?_
                  show Steps p.tables e below (T1188.setTop (mkF m 312 #[.val (.ref o0), .val (.ref o1), .val (.int (Int32.ofNat wn)), .val (.int (Int32.ofNat j0)), .val (.int (Int32.ofNat j))] [(.long (255 : Int64)), (.long (x1190.toInt64)), (.long (ws2.getD wn 0)), (.int (Int32.ofNat wn)), (.ref b1031)])) _
                  refine XS.land X1188.here hx rfl (hb hby d1_312) rfl ?_
                  show Steps p.tables e below (T1188.setTop (mkF m 313 #[.val (.ref o0), .val (.ref o1), .val (.int (Int32.ofNat wn)), .val (.int (Int32.ofNat j0)), .val (.int (Int32.ofNat j))] [(.long ((x1190.toInt64) &&& (255 : Int64))), (.long (ws2.getD wn 0)), (.int (Int32.ofNat wn)), (.ref b1031)])) _
                  refine XS.iload X1188.here hx rfl (hb hby d1_313) rfl ?_
                  show Steps p.tables e below (T1188.setTop (mkF m 315 #[.val (.ref o0), .val (.ref o1), .val (.int (Int32.ofNat wn)), .val (.int (Int32.ofNat j0)), .val (.int (Int32.ofNat j))] [(.int (Int32.ofNat j)), (.long ((x1190.toInt64) &&& (255 : Int64))), (.long (ws2.getD wn 0)), (.int (Int32.ofNat wn)), (.ref b1031)])) _
                  refine XS.iloadN X1188.here hx rfl (hb hby d1_315) rfl ?_
                  show Steps p.tables e below (T1188.setTop (mkF m 316 #[.val (.ref o0), .val (.ref o1), .val (.int (Int32.ofNat wn)), .val (.int (Int32.ofNat j0)), .val (.int (Int32.ofNat j))] [(.int (Int32.ofNat j0)), (.int (Int32.ofNat j)), (.long ((x1190.toInt64) &&& (255 : Int64))), (.long (ws2.getD wn 0)), (.int (Int32.ofNat wn)), (.ref b1031)])) _
                  refine XS.isub X1188.here hx rfl (hb hby d1_316) rfl ?_
                  show Steps p.tables e below (T1188.setTop (mkF m 317 #[.val (.ref o0), .val (.ref o1), .val (.int (Int32.ofNat wn)), .val (.int (Int32.ofNat j0)), .val (.int (Int32.ofNat j))] [(.int ((Int32.ofNat j) - (Int32.ofNat j0))), (.long ((x1190.toInt64) &&& (255 : Int64))), (.long (ws2.getD wn 0)), (.int (Int32.ofNat wn)), (.ref b1031)])) _
                  refine XS.bipush X1188.here hx rfl (hb hby d1_317) ?_
                  show Steps p.tables e below (T1188.setTop (mkF m 319 #[.val (.ref o0), .val (.ref o1), .val (.int (Int32.ofNat wn)), .val (.int (Int32.ofNat j0)), .val (.int (Int32.ofNat j))] [(.int (8 : Int32)), (.int ((Int32.ofNat j) - (Int32.ofNat j0))), (.long ((x1190.toInt64) &&& (255 : Int64))), (.long (ws2.getD wn 0)), (.int (Int32.ofNat wn)), (.ref b1031)])) _
                  refine XS.imul X1188.here hx rfl (hb hby d1_319) rfl ?_
                  show Steps p.tables e below (T1188.setTop (mkF m 320 #[.val (.ref o0), .val (.ref o1), .val (.int (Int32.ofNat wn)), .val (.int (Int32.ofNat j0)), .val (.int (Int32.ofNat j))] [(.int (((Int32.ofNat j) - (Int32.ofNat j0)) * (8 : Int32))), (.long ((x1190.toInt64) &&& (255 : Int64))), (.long (ws2.getD wn 0)), (.int (Int32.ofNat wn)), (.ref b1031)])) _
                  refine XS.lshl X1188.here hx rfl (hb hby d1_320) rfl ?_
                  show Steps p.tables e below (T1188.setTop (mkF m 321 #[.val (.ref o0), .val (.ref o1), .val (.int (Int32.ofNat wn)), .val (.int (Int32.ofNat j0)), .val (.int (Int32.ofNat j))] [(.long (((x1190.toInt64) &&& (255 : Int64)) <<< ((((Int32.ofNat j) - (Int32.ofNat j0)) * (8 : Int32)) &&& 0x3f).toInt64)), (.long (ws2.getD wn 0)), (.int (Int32.ofNat wn)), (.ref b1031)])) _
                  refine XS.lor X1188.here hx rfl (hb hby d1_321) rfl ?_
                  exact kt
                obtain ⟨cl1191, Ar1191, q1191, S1191, M1191, H1191, G1191⟩ := (id V2w)
                have hin1191 : ¬ ((Int32.ofNat wn) < 0 ∨ cl1191.slots.size ≤ ((Int32.ofNat wn)).toNatClampNeg) := inb_of S1191 (own_win hn hw1)
                obtain ⟨T1191, h1191, X1191, e1191, W1191, st1191⟩ := stJ X1188 hx hZ e1188 Ar1191 (j := (Int32.ofNat wn)) hin1191 (g := (mkF m 322 #[.val (.ref o0), .val (.ref o1), .val (.int (Int32.ofNat wn)), .val (.int (Int32.ofNat j0)), .val (.int (Int32.ofNat j))] [(.long ((ws2.getD wn 0) ||| (((x1190.toInt64) &&& (255 : Int64)) <<< ((((Int32.ofNat j) - (Int32.ofNat j0)) * (8 : Int32)) &&& 0x3f).toInt64))), (.int (Int32.ofNat wn)), (.ref b1031)])) rfl rfl (hb hby d1_322)
                have Z0_c1_1192 : n0 ≤ h1191.size := (Nat.le_trans Z0_c1 (Keep.of_wr W1191).1)
                have F_patternWords_c1_1193 : Fld Z h1191 o0 "com/example/sidestep/sidestep/Starts" "patternWords" "[J" (.ref b1031) := (F_patternWords_c1.other W1191 (Or.inl ne_o0_b1031))
                have F_lastWordOffset_c1_1194 : Fld Z h1191 o0 "com/example/sidestep/sidestep/Starts" "lastWordOffset" "I" (.int (f4 (0 : Int32) ((Int32.ofNat nN) - (8 : Int32)))) := (F_lastWordOffset_c1.other W1191 (Or.inl ne_o0_b1031))
                have F_length_c1_1195 : Fld Z h1191 o0 "com/example/sidestep/sidestep/Starts" "length" "I" (.int (Int32.ofNat nN)) := (F_length_c1.other W1191 (Or.inl ne_o0_b1031))
                have V1_c1_1196 : Arv Z h1191 o1 ku .int (Int32.ofNat nN) (us.map Value.int) (.int (0 : Int32)) := (V1_c1.other W1191 ne_o1_b1031)
                have K2_1197 : Keep h1147 h1191 [b1031] := (K2.wr W1191 (Or.inl (List.mem_of_getElem? (i := 0) rfl)))
                have V1191 : Arv Z h1191 b1031 k1031 .long (Int32.ofNat nn) ((ws2.set wn ((ws2.getD wn 0) ||| (((x1190.toInt64) &&& (255 : Int64)) <<< ((((Int32.ofNat j) - (Int32.ofNat j0)) * (8 : Int32)) &&& 0x3f).toInt64))).map Value.long) (.long (0 : Int64)) := by rw [List.map_set]; exact Arv.set Ar1191 q1191 S1191 M1191 H1191 G1191 rfl W1191 wn (own_n32 (by omega)) (by rw [List.length_map, hws2]; omega)
                have N1191 := Fr.snoc X1191 N1186 gn_b1031
                refine Got.step st1191 ?_
                show Got p e below s _ _ _ _ T1191 (mkF m 323 #[.val (.ref o0), .val (.ref o1), .val (.int (Int32.ofNat wn)), .val (.int (Int32.ofNat j0)), .val (.int (Int32.ofNat j))] [])
                refine Got.step (T' := T1191) (g' := (mkF m 281 #[.val (.ref o0), .val (.ref o1), .val (.int (Int32.ofNat wn)), .val (.int (Int32.ofNat j0)), .val (.int ((Int32.ofNat j) + (1 : Int32)))] [])) (fun tq kt => ?_) ?_
                · show Steps p.tables e below (T1191.setTop (mkF m 323 #[.val (.ref o0), .val (.ref o1), .val (.int (Int32.ofNat wn)), .val (.int (Int32.ofNat j0)), .val (.int (Int32.ofNat j))] [])) _
                  refine XS.iinc X1191.here hx rfl (hb hby d1_323) rfl (l' := #[.val (.ref o0), .val (.ref o1), .val (.int (Int32.ofNat wn)), .val (.int (Int32.ofNat j0)), .val (.int ((Int32.ofNat j) + (1 : Int32)))]) rfl ?_
                  show Steps p.tables e below (T1191.setTop (mkF m 326 #[.val (.ref o0), .val (.ref o1), .val (.int (Int32.ofNat wn)), .val (.int (Int32.ofNat j0)), .val (.int ((Int32.ofNat j) + (1 : Int32)))] [])) _
                  refine XS.goto X1191.here hx rfl (pc0 := 326) (pc' := 281) rfl (hb hby d1_326) (by decide) (by decide) ?_
                  exact kt
                rw [own_one j]
                have hjlt := own_jlt hN hj20 hc1187
                exact ihk (j + 1) (by omega) (by omega) _ _ _ X1191 e1191 N1191 K2_1197 _ V1191 (by rw [List.length_set]; exact hws2)
              · refine Got.step (T' := T1186) (g' := (mkF m 257 #[.val (.ref o0), .val (.ref o1), .val (.int ((Int32.ofNat wn) + (1 : Int32))), .val (.int (Int32.ofNat j0)), .val (.int (Int32.ofNat j))] [])) (fun tq kt => ?_) ?_
                · show Steps p.tables e below (T1186.setTop (mkF m 294 #[.val (.ref o0), .val (.ref o1), .val (.int (Int32.ofNat wn)), .val (.int (Int32.ofNat j0)), .val (.int (Int32.ofNat j))] [(.int (f3 ((Int32.ofNat j0) + (8 : Int32)) (Int32.ofNat nN))), (.int (Int32.ofNat j))])) _
                  refine XS.icmpYes X1186.here hx rfl (pc0 := 294) (pc' := 329) rfl (hb hby d1_294) rfl (XT.ii_ge_t hc1187) (by decide) (by decide) ?_
                  show Steps p.tables e below (T1186.setTop (mkF m 329 #[.val (.ref o0), .val (.ref o1), .val (.int (Int32.ofNat wn)), .val (.int (Int32.ofNat j0)), .val (.int (Int32.ofNat j))] [])) _
                  refine XS.iinc X1186.here hx rfl (hb hby d1_329) rfl (l' := #[.val (.ref o0), .val (.ref o1), .val (.int ((Int32.ofNat wn) + (1 : Int32))), .val (.int (Int32.ofNat j0)), .val (.int (Int32.ofNat j))]) rfl ?_
                  show Steps p.tables e below (T1186.setTop (mkF m 332 #[.val (.ref o0), .val (.ref o1), .val (.int ((Int32.ofNat wn) + (1 : Int32))), .val (.int (Int32.ofNat j0)), .val (.int (Int32.ofNat j))] [])) _
                  refine XS.goto X1186.here hx rfl (pc0 := 332) (pc' := 257) rfl (hb hby d1_332) (by decide) (by decide) ?_
                  exact kt
                rw [own_one wn]
                exact ih (wn + 1) (by omega) _ _ _ X1186 e1186 N1186 K2 _ V2w hws2 _ (one_int _) _ (one_int _)
          exact JI 20 j0 (by omega) (by omega) _ _ _ X1180 e1180 N1180 K1 _ V1w hws
      exact J nn 0 (by omega) _ _ _ X1147 e1147 N1147 (Keep.refl _ _) [0, 0] V1031_1174 rfl _ one_unset _ one_unset
    by_cases hc1118 : ((Int32.ofNat nN) < (8 : Int32))
    · refine Got.step (T' := T1116) (g' := (mkF m 243 #[.val (.ref o0), .val (.ref o1), .unset, .unset, .unset] [(.ref o0), (.long (1 : Int64)), (.ref o0)])) (fun tq kt => ?_) ?_
      · show Steps p.tables e below (T1116.setTop (mkF m 232 #[.val (.ref o0), .val (.ref o1), .unset, .unset, .unset] [(.int (8 : Int32)), (.int (Int32.ofNat nN)), (.ref o0)])) _
        refine XS.icmpYes X1116.here hx rfl (pc0 := 232) (pc' := 241) rfl (hb hby d1_232) rfl (XT.ii_lt_t hc1118) (by decide) (by decide) ?_
        show Steps p.tables e below (T1116.setTop (mkF m 241 #[.val (.ref o0), .val (.ref o1), .unset, .unset, .unset] [(.ref o0)])) _
        refine XS.lconst X1116.here hx rfl (hb hby d1_241) ?_
        show Steps p.tables e below (T1116.setTop (mkF m 242 #[.val (.ref o0), .val (.ref o1), .unset, .unset, .unset] [(.long (1 : Int64)), (.ref o0)])) _
        refine XS.aloadN X1116.here hx rfl (hb hby d1_242) rfl rfl ?_
        exact kt
      obtain ⟨T1119, X1119, e1119, st1119⟩ := getF X1116 hx hZ hown (host := "") (Or.inl (hw _ (List.mem_of_getElem? (i := 24) rfl))) Via.refl e1116 F_length_1092 (g := (mkF m 243 #[.val (.ref o0), .val (.ref o1), .unset, .unset, .unset] [(.ref o0), (.long (1 : Int64)), (.ref o0)])) rfl rfl (hb hby d1_243)
      refine Got.step st1119 ?_
      show Got p e below s _ _ _ _ T1119 (mkF m 246 #[.val (.ref o0), .val (.ref o1), .unset, .unset, .unset] [(.int (Int32.ofNat nN)), (.long (1 : Int64)), (.ref o0)])
      refine Got.step (T' := T1119) (g' := (mkF m 252 #[.val (.ref o0), .val (.ref o1), .unset, .unset, .unset] [(.long (((1 : Int64) <<< (((Int32.ofNat nN) * (8 : Int32)) &&& 0x3f).toInt64) - (1 : Int64))), (.ref o0)])) (fun tq kt => ?_) ?_
      · show Steps p.tables e below (T1119.setTop (mkF m 246 #[.val (.ref o0), .val (.ref o1), .unset, .unset, .unset] [(.int (Int32.ofNat nN)), (.long (1 : Int64)), (.ref o0)])) _
        refine XS.bipush X1119.here hx rfl (hb hby d1_246) ?_
        show Steps p.tables e below (T1119.setTop (mkF m 248 #[.val (.ref o0), .val (.ref o1), .unset, .unset, .unset] [(.int (8 : Int32)), (.int (Int32.ofNat nN)), (.long (1 : Int64)), (.ref o0)])) _
        refine XS.imul X1119.here hx rfl (hb hby d1_248) rfl ?_
        show Steps p.tables e below (T1119.setTop (mkF m 249 #[.val (.ref o0), .val (.ref o1), .unset, .unset, .unset] [(.int ((Int32.ofNat nN) * (8 : Int32))), (.long (1 : Int64)), (.ref o0)])) _
        refine XS.lshl X1119.here hx rfl (hb hby d1_249) rfl ?_
        show Steps p.tables e below (T1119.setTop (mkF m 250 #[.val (.ref o0), .val (.ref o1), .unset, .unset, .unset] [(.long ((1 : Int64) <<< (((Int32.ofNat nN) * (8 : Int32)) &&& 0x3f).toInt64)), (.ref o0)])) _
        refine XS.lconst X1119.here hx rfl (hb hby d1_250) ?_
        show Steps p.tables e below (T1119.setTop (mkF m 251 #[.val (.ref o0), .val (.ref o1), .unset, .unset, .unset] [(.long (1 : Int64)), (.long ((1 : Int64) <<< (((Int32.ofNat nN) * (8 : Int32)) &&& 0x3f).toInt64)), (.ref o0)])) _
        refine XS.lsub X1119.here hx rfl (hb hby d1_251) rfl ?_
        exact kt
      exact J1117 _ _ _ X1119 e1119 N1088 (((1 : Int64) <<< (((Int32.ofNat nN) * (8 : Int32)) &&& 0x3f).toInt64) - (1 : Int64)) (if_pos hc1118).symm Z0_1089 K0_1090 E_o0_1091 F_length_1092 F_lastOffset_1093 F_secondOffset_1094 F_thirdOffset_1095 F_penultimateOffset_1096 F_patternWords_1097 F_lastWordOffset_1098 F_lastWordMask_1099 F_source_1100 F_copiedTo_1101 F_lowBytes_1102 F_to_1103 F_placesEnd_1104 F_wholeEnd_1105 F_decidedEnd_1106 F_placed_1107 F_taken_1108 F_listedTo_1109 F_dense_1110 F_marking_1111 F_sections_1112 F_handedSections_1113 V1_1114 V1031_1115
    · refine Got.step (T' := T1116) (g' := (mkF m 252 #[.val (.ref o0), .val (.ref o1), .unset, .unset, .unset] [(.long (-1 : Int64)), (.ref o0)])) (fun tq kt => ?_) ?_
      · show Steps p.tables e below (T1116.setTop (mkF m 232 #[.val (.ref o0), .val (.ref o1), .unset, .unset, .unset] [(.int (8 : Int32)), (.int (Int32.ofNat nN)), (.ref o0)])) _
        refine XS.icmpNo X1116.here hx rfl (hb hby d1_232) rfl (XT.ii_lt_f hc1118) ?_
        show Steps p.tables e below (T1116.setTop (mkF m 235 #[.val (.ref o0), .val (.ref o1), .unset, .unset, .unset] [(.ref o0)])) _
        refine X1116.ldc2J hx hown (mvT hZ (hw _ (List.mem_of_getElem? (i := 121) rfl))) rfl (hb hby d1_235) ?_
        show Steps p.tables e below (T1116.setTop (mkF m 238 #[.val (.ref o0), .val (.ref o1), .unset, .unset, .unset] [(.long (-1 : Int64)), (.ref o0)])) _
        refine XS.goto X1116.here hx rfl (pc0 := 238) (pc' := 252) rfl (hb hby d1_238) (by decide) (by decide) ?_
        exact kt
      exact J1117 _ _ _ X1116 e1116 N1088 (-1 : Int64) (if_neg hc1118).symm Z0_1089 K0_1090 E_o0_1091 F_length_1092 F_lastOffset_1093 F_secondOffset_1094 F_thirdOffset_1095 F_penultimateOffset_1096 F_patternWords_1097 F_lastWordOffset_1098 F_lastWordMask_1099 F_source_1100 F_copiedTo_1101 F_lowBytes_1102 F_to_1103 F_placesEnd_1104 F_wholeEnd_1105 F_decidedEnd_1106 F_placed_1107 F_taken_1108 F_listedTo_1109 F_dense_1110 F_marking_1111 F_sections_1112 F_handedSections_1113 V1_1114 V1031_1115
  by_cases hc696 : ((5 : Int32) < (Int32.ofNat nN))
  · refine Got.step (T' := T694) (g' := (mkF m 66 #[.val (.ref o0), .val (.ref o1), .unset, .unset, .unset] [(.int (0 : Int32)), (.ref o0)])) (fun tq kt => ?_) ?_
    · show Steps p.tables e below (T694.setTop (mkF m 58 #[.val (.ref o0), .val (.ref o1), .unset, .unset, .unset] [(.int (5 : Int32)), (.int (Int32.ofNat nN)), (.ref o0)])) _
      refine XS.icmpYes X694.here hx rfl (pc0 := 58) (pc' := 65) rfl (hb hby d1_58) rfl (XT.ii_gt_t hc696) (by decide) (by decide) ?_
      show Steps p.tables e below (T694.setTop (mkF m 65 #[.val (.ref o0), .val (.ref o1), .unset, .unset, .unset] [(.ref o0)])) _
      refine XS.iconst X694.here hx rfl (hb hby d1_65) ?_
      exact kt
    exact J695 (0 : Int32) (if_pos hc696).symm
  · refine Got.step (T' := T694) (g' := (mkF m 66 #[.val (.ref o0), .val (.ref o1), .unset, .unset, .unset] [(.int (1 : Int32)), (.ref o0)])) (fun tq kt => ?_) ?_
    · show Steps p.tables e below (T694.setTop (mkF m 58 #[.val (.ref o0), .val (.ref o1), .unset, .unset, .unset] [(.int (5 : Int32)), (.int (Int32.ofNat nN)), (.ref o0)])) _
      refine XS.icmpNo X694.here hx rfl (hb hby d1_58) rfl (XT.ii_gt_f hc696) ?_
      show Steps p.tables e below (T694.setTop (mkF m 61 #[.val (.ref o0), .val (.ref o1), .unset, .unset, .unset] [(.ref o0)])) _
      refine XS.iconst X694.here hx rfl (hb hby d1_61) ?_
      show Steps p.tables e below (T694.setTop (mkF m 62 #[.val (.ref o0), .val (.ref o1), .unset, .unset, .unset] [(.int (1 : Int32)), (.ref o0)])) _
      refine XS.goto X694.here hx rfl (pc0 := 62) (pc' := 66) rfl (hb hby d1_62) (by decide) (by decide) ?_
      exact kt
    exact J695 (1 : Int32) (if_neg hc696).symm
theorem own_t (p2 : Int32) {tt : Int32} (htt : tt = (p2 &&& (2147483647 : Int32))) : 0 ≤ tt.toInt ∧ tt.toInt ≤ 2147483647 := by
  have h := c_mask p2 2147483647 31 (by decide) (by decide)
  rw [htt]; omega
theorem own_t1 {tt : Int32} (h : 0 ≤ tt.toInt ∧ tt.toInt ≤ 2147483647) : ((tt.toInt64) + (1 : Int64)).toInt = tt.toInt + 1 := by
  have z : (1 : Int64).toInt = 1 := rfl
  have e := Int32.toInt_toInt64 tt
  rw [XT.add64 (by unfold XT.fits64; omega), e, z]
theorem own_nz (p2 : Int32) {tt : Int32} (htt : tt = (p2 &&& (2147483647 : Int32))) : ((tt.toInt64) + (1 : Int64)) ≠ 0 := fun h => by
  have t := own_t p2 htt
  have e := own_t1 t
  rw [h] at e
  have z : (0 : Int64).toInt = 0 := rfl
  omega
theorem own_rem (x : Int32) {tt : Int32} (t : 0 ≤ tt.toInt ∧ tt.toInt ≤ 2147483647) : 0 ≤ ((((x &&& (2147483647 : Int32)).toInt64) % ((tt.toInt64) + (1 : Int64))).toInt32).toInt ∧ ((((x &&& (2147483647 : Int32)).toInt64) % ((tt.toInt64) + (1 : Int64))).toInt32).toInt ≤ tt.toInt := by
  have h1 := c_mask x 2147483647 31 (by decide) (by decide)
  have e := own_t1 t
  have e0 := Int32.toInt_toInt64 (x &&& 2147483647)
  have h4 : (((x &&& (2147483647 : Int32)).toInt64) % ((tt.toInt64) + (1 : Int64))).toInt = (x &&& 2147483647).toInt % (tt.toInt + 1) := by
    rw [Int64.toInt_mod, e, e0, Int.tmod_eq_emod_of_nonneg (by omega)]
  have h5 := Int.emod_nonneg (x &&& 2147483647).toInt (b := tt.toInt + 1) (by omega)
  have h6 := Int.emod_lt_of_pos (x &&& 2147483647).toInt (b := tt.toInt + 1) (by omega)
  rw [XT.narrowInt (by unfold XT.fits32; omega)]
  omega
theorem own_core {N : Nat} {tt v pp k : Int32} (hN : 1 ≤ N ∧ N ≤ 9) (t : 0 ≤ tt.toInt ∧ tt.toInt ≤ 2147483647) (hv : 0 ≤ v.toInt ∧ v.toInt ≤ tt.toInt) (hp : 0 ≤ pp.toInt ∧ pp.toInt ≤ tt.toInt)
    (hk : k = (if (f9 (v.toInt64) ((tt.toInt64) - (((Int32.ofNat N) - (1 : Int32)).toInt64))) < ((pp.toInt64) + (8 : Int64)) then (0 : Int32) else (1 : Int32))) : (f10 pp (f3 v (tt - ((Int32.ofNat N) - (1 : Int32))))) = k := by
  have s := own_sub hN
  have z8 : (8 : Int32).toInt = 8 := rfl
  have z8L : (8 : Int64).toInt = 8 := rfl
  have a1 : (tt - (Int32.ofNat N - (1 : Int32))).toInt = tt.toInt - ((N : Int) - 1) := by rw [XT.sub32 (by unfold XT.fits32; omega), s]
  have a2 : ((tt.toInt64) - ((Int32.ofNat N - (1 : Int32)).toInt64)).toInt = tt.toInt - ((N : Int) - 1) := by
    rw [XT.sub64 (by unfold XT.fits64; rw [Int32.toInt_toInt64, Int32.toInt_toInt64]; omega), Int32.toInt_toInt64, Int32.toInt_toInt64, s]
  have m := own_min v (tt - (Int32.ofNat N - (1 : Int32)))
  have m9 : (f9 (v.toInt64) ((tt.toInt64) - ((Int32.ofNat N - (1 : Int32)).toInt64))).toInt = (f3 v (tt - (Int32.ofNat N - (1 : Int32)))).toInt := by
    unfold f9 f3
    by_cases q : (tt - (Int32.ofNat N - (1 : Int32))) < v
    · rw [if_pos q, if_pos (by rw [Int32.lt_iff_toInt_lt] at q; rw [Int64.lt_iff_toInt_lt, a2, Int32.toInt_toInt64]; omega), a2, a1]
    · rw [if_neg q, if_neg (by rw [Int32.lt_iff_toInt_lt] at q; rw [Int64.lt_iff_toInt_lt, a2, Int32.toInt_toInt64]; omega), Int32.toInt_toInt64]
  have d : ((f3 v (tt - (Int32.ofNat N - (1 : Int32)))) - pp).toInt = (f3 v (tt - (Int32.ofNat N - (1 : Int32)))).toInt - pp.toInt := XT.sub32 (by unfold XT.fits32; omega)
  have p8 : ((pp.toInt64) + (8 : Int64)).toInt = pp.toInt + 8 := by
    rw [XT.add64 (by unfold XT.fits64; rw [Int32.toInt_toInt64, z8L]; omega), Int32.toInt_toInt64, z8L]
  rw [hk]
  unfold f10
  by_cases q : ((f3 v (tt - (Int32.ofNat N - (1 : Int32)))) - pp) < (8 : Int32)
  · rw [if_pos q, if_pos (by rw [Int32.lt_iff_toInt_lt, d, z8] at q; rw [Int64.lt_iff_toInt_lt, m9, p8]; omega)]
  · rw [if_neg q, if_neg (by rw [Int32.lt_iff_toInt_lt, d, z8] at q; rw [Int64.lt_iff_toInt_lt, m9, p8]; omega)]
theorem own_v {p1 p4 tt v : Int32} (t : 0 ≤ tt.toInt ∧ tt.toInt ≤ 2147483647) (hv : v = (if (((p4.toUInt32 >>> ((2 : Int32) &&& 31).toUInt32).toInt32) &&& (1 : Int32)) = 0 then ((((p1 &&& (2147483647 : Int32)).toInt64) % ((tt.toInt64) + (1 : Int64))).toInt32) else (f4 (0 : Int32) (tt - (p1 &&& (15 : Int32)))))) : 0 ≤ v.toInt ∧ v.toInt ≤ tt.toInt := by
  rw [hv]
  split
  · exact own_rem p1 t
  · have c := c_and p1 15 (by decide)
    have z : (15 : Int32).toInt = 15 := rfl
    have z0 : (0 : Int32).toInt = 0 := rfl
    have s : (tt - (p1 &&& (15 : Int32))).toInt = tt.toInt - (p1 &&& 15).toInt := XT.sub32 (by unfold XT.fits32; omega)
    have m := own_max (0 : Int32) (tt - (p1 &&& (15 : Int32)))
    omega
theorem own_fa {N : Nat} {p1 p2 p3 p4 tt v pp k : Int32} (hN : 1 ≤ N ∧ N ≤ 9) (htt : tt = (p2 &&& (2147483647 : Int32))) (hv : v = (if (((p4.toUInt32 >>> ((2 : Int32) &&& 31).toUInt32).toInt32) &&& (1 : Int32)) = 0 then ((((p1 &&& (2147483647 : Int32)).toInt64) % ((tt.toInt64) + (1 : Int64))).toInt32) else (f4 (0 : Int32) (tt - (p1 &&& (15 : Int32))))))
    (hk : k = (if (f9 (v.toInt64) ((tt.toInt64) - (((Int32.ofNat N) - (1 : Int32)).toInt64))) < ((pp.toInt64) + (8 : Int64)) then (0 : Int32) else (1 : Int32))) (hpp : pp = ((((p3 &&& (2147483647 : Int32)).toInt64) % ((tt.toInt64) + (1 : Int64))).toInt32)) : (f10 pp (f3 v (tt - ((Int32.ofNat N) - (1 : Int32))))) = k := by
  have t := own_t p2 htt
  exact own_core hN t (own_v t hv) (by rw [hpp]; exact own_rem p3 t) hk
theorem own_fb {N : Nat} {p1 p2 p4 tt v pp k : Int32} {w x : Int64} (hN : 1 ≤ N ∧ N ≤ 9) (htt : tt = (p2 &&& (2147483647 : Int32))) (hv : v = (if (((p4.toUInt32 >>> ((2 : Int32) &&& 31).toUInt32).toInt32) &&& (1 : Int32)) = 0 then ((((p1 &&& (2147483647 : Int32)).toInt64) % ((tt.toInt64) + (1 : Int64))).toInt32) else (f4 (0 : Int32) (tt - (p1 &&& (15 : Int32))))))
    (hk : k = (if (f9 (v.toInt64) ((tt.toInt64) - (((Int32.ofNat N) - (1 : Int32)).toInt64))) < ((pp.toInt64) + (8 : Int64)) then (0 : Int32) else (1 : Int32))) (hpp : pp = ((f11 (0 : Int64) (f9 (tt.toInt64) x)).toInt32)) : (f10 pp (f3 v (tt - ((Int32.ofNat N) - (1 : Int32))))) = k := by
  have t := own_t p2 htt
  refine own_core hN t (own_v t hv) ?_ hk
  have z0 : (0 : Int64).toInt = 0 := rfl
  have e := Int32.toInt_toInt64 tt
  have r : 0 ≤ (f11 (0 : Int64) (f9 (tt.toInt64) x)).toInt ∧ (f11 (0 : Int64) (f9 (tt.toInt64) x)).toInt ≤ tt.toInt := by
    have m : (f9 (tt.toInt64) x).toInt ≤ tt.toInt := by
      unfold f9
      by_cases q : x < tt.toInt64
      · rw [if_pos q]; rw [Int64.lt_iff_toInt_lt, e] at q; omega
      · rw [if_neg q]; omega
    unfold f11
    by_cases q : (0 : Int64) < f9 (tt.toInt64) x
    · rw [if_pos q]; rw [Int64.lt_iff_toInt_lt, z0] at q; omega
    · rw [if_neg q]; omega
  rw [hpp, XT.narrowInt (by unfold XT.fits32; omega)]
  exact r

theorem pd_4 : parseMethodDescriptor "([I)V" = some ⟨[(.array .int)], none⟩ := by decide +kernel
theorem pd_5 : parseMethodDescriptor "([BII)V" = some ⟨[(.array .byte), .int, .int], none⟩ := by decide +kernel
theorem pd_6 : parseMethodDescriptor "(JJ)J" = some ⟨[.long, .long], some .long⟩ := by decide +kernel
theorem pd_7 : parseMethodDescriptor "(I)Z" = some ⟨[.int], some .boolean⟩ := by decide +kernel
theorem ef_0 (m : MethodId) (x0 : Int32) (x1 : Int32) (x2 : Int32) (x3 : Int32) (x4 : Int32) : entryFrame m #[(.int x0), (.int x1), (.int x2), (.int x3), (.int x4)] maxLocals = mkF m 0 #[.val (.int x0), .val (.int x1), .val (.int x2), .val (.int x3), .val (.int x4), .unset, .unset, .unset, .unset, .unset, .unset, .unset, .unset, .unset, .unset, .unset, .unset, .unset] [] := by first | (simp [entryFrame, mkF, argsToLocals, Value.category, maxLocals]; done) | rfl
theorem pn_1 : plainName "com/example/sidestep/sidestep/StartsTalliesFromPinLaw" = true := by first | (simp [plainName, overriddenIn]; done) | decide +kernel
set_option maxRecDepth 65536 in
set_option maxHeartbeats 40000000 in
theorem rm0 (l : Launch) (Z : State) (a0 : Array Value) (hw : ∀ d ∈ tables_1, d.before a0 Z = true) (ws : List Jvm.Cond) (p0 p1 p2 p3 p4 : Int32) (h0 : Heap) (n0 : Nat) (Z0 : n0 ≤ h0.size)  :
    MetFree l x (head1 (Jvm.Cond.code x code maxLocals ret :: ws) room_1) (fun a U => a = #[(.int p0), (.int p1), (.int p2), (.int p3), (.int p4)] ∧ Z.Warmed39 U.vm ∧ U.heap = h0) (fun _ _ _ _ _ => True) (fun _ U o U' => ∃ v L, o = .returned v ∧ QV (some (.int (1 : Int32))) (fun _ L => Fr n0 L) v U'.heap L ∧ FrameEnd U o U' L room_1.cells room_1.slots) := by
  refine MetFree.of_bodySF (plainFor_of_name pn_1) hisR ?_
  intro p e s m args below meth c s₁ Bd hml0 hP hK
  obtain ⟨rfl, hZ, hh⟩ := hP
  have hx := Bd.exec
  have hby := Bd.bytes
  have hml : c.maxLocals = 18 := hml0
  have hown : s.vm.findClass "com/example/sidestep/sidestep/StartsTalliesFromPinLaw" = some m.cls := findClass_of_methodNamed Bd.named
  have hnm := (name_of_methodNamed Bd.named Bd.method).1
  have hlk : meth.locks = false := BodyLoose.notSynchronized Bd
  have X0 : Stand p l e room_1 s m #[(.int p0), (.int p1), (.int p2), (.int p3), (.int p4)] below meth c s₁ [] 0 0 := Stand.of_body Bd
  have e0 : s₁.heap = h0 := by rw [← hh, Bd.state]; rfl
  have N0 := Fr.nil n0
  refine Got.body (ef_0 m p0 p1 p2 p3 p4) ?_
  have J125 : ∀ (T1 : State) (h1 : Heap) (L1 : List Loc), Stand p l e room_1 s m #[(.int p0), (.int p1), (.int p2), (.int p3), (.int p4)] below meth c T1 L1 1 9 → T1.heap = h1 → Fr n0 L1 → n0 ≤ h1.size → ∀ (o6 : Addr), n0 ≤ o6 → ∀ (k6 : ClassId) (nN : Nat) (us : List Int32), (1 ≤ nN ∧ nN ≤ 9) → Arv Z h1 o6 k6 .int (Int32.ofNat nN) (us.map Value.int) (.int (0 : Int32)) → Got p e below s (fun _ L => Fr n0 L) room_1.cells room_1.slots (some (.int (1 : Int32))) T1 (mkF m 125 #[.val (.int p0), .val (.int p1), .val (.int p2), .val (.int p3), .val (.int p4), .val (.int (p0 &&& (3 : Int32))), .val (.ref o6), .unset, .unset, .unset, .unset, .unset, .unset, .unset, .unset, .unset, .unset, .unset] []) := by
    intro T1 h1 L1 X1 e1 N1 Z1 o6 g6 k6 nN us hN V6
    refine Got.step (T' := T1) (g' := (mkF m 127 #[.val (.int p0), .val (.int p1), .val (.int p2), .val (.int p3), .val (.int p4), .val (.int (p0 &&& (3 : Int32))), .val (.ref o6), .unset, .unset, .unset, .unset, .unset, .unset, .unset, .unset, .unset, .unset, .unset] [(.ref o6)])) (fun tq kt => ?_) ?_
    · show Steps p.tables e below (T1.setTop (mkF m 125 #[.val (.int p0), .val (.int p1), .val (.int p2), .val (.int p3), .val (.int p4), .val (.int (p0 &&& (3 : Int32))), .val (.ref o6), .unset, .unset, .unset, .unset, .unset, .unset, .unset, .unset, .unset, .unset, .unset] [])) _
      refine XS.aload X1.here hx rfl (hb hby at_125) rfl rfl ?_
      exact kt
    obtain ⟨cl1243, Ar1243, q1243, S1243, M1243, H1243, G1243⟩ := (id V6)
    refine Got.step (T' := T1) (fun tq kt => X1.arraylength hx (cell := cl1243) (by rw [e1]; exact Ar1243.1) (State.isArrayOf_alike hZ.alike Ar1243.2.1) (g := (mkF m 127 #[.val (.int p0), .val (.int p1), .val (.int p2), .val (.int p3), .val (.int p4), .val (.int (p0 &&& (3 : Int32))), .val (.ref o6), .unset, .unset, .unset, .unset, .unset, .unset, .unset, .unset, .unset, .unset, .unset] [(.ref o6)])) rfl (rest := []) rfl (hb hby at_127) tq kt) ?_
    rw [len_of S1243 M1243]
    show Got p e below s _ _ _ _ T1 (mkF m 128 #[.val (.int p0), .val (.int p1), .val (.int p2), .val (.int p3), .val (.int p4), .val (.int (p0 &&& (3 : Int32))), .val (.ref o6), .unset, .unset, .unset, .unset, .unset, .unset, .unset, .unset, .unset, .unset, .unset] [(.int (Int32.ofNat nN))])
    refine Got.step (T' := T1) (g' := (mkF m 139 #[.val (.int p0), .val (.int p1), .val (.int p2), .val (.int p3), .val (.int p4), .val (.int (p0 &&& (3 : Int32))), .val (.ref o6), .val (.long (((Int32.ofNat nN) - (1 : Int32)).toInt64)), .second, .val (.int (p2 &&& (2147483647 : Int32))), .unset, .unset, .unset, .unset, .unset, .unset, .unset, .unset] [])) (fun tq kt => ?_) ?_
    · show Steps p.tables e below (T1.setTop (mkF m 128 #[.val (.int p0), .val (.int p1), .val (.int p2), .val (.int p3), .val (.int p4), .val (.int (p0 &&& (3 : Int32))), .val (.ref o6), .unset, .unset, .unset, .unset, .unset, .unset, .unset, .unset, .unset, .unset, .unset] [(.int (Int32.ofNat nN))])) _
      refine XS.iconst X1.here hx rfl (hb hby at_128) ?_
      show Steps p.tables e below (T1.setTop (mkF m 129 #[.val (.int p0), .val (.int p1), .val (.int p2), .val (.int p3), .val (.int p4), .val (.int (p0 &&& (3 : Int32))), .val (.ref o6), .unset, .unset, .unset, .unset, .unset, .unset, .unset, .unset, .unset, .unset, .unset] [(.int (1 : Int32)), (.int (Int32.ofNat nN))])) _
      refine XS.isub X1.here hx rfl (hb hby at_129) rfl ?_
      show Steps p.tables e below (T1.setTop (mkF m 130 #[.val (.int p0), .val (.int p1), .val (.int p2), .val (.int p3), .val (.int p4), .val (.int (p0 &&& (3 : Int32))), .val (.ref o6), .unset, .unset, .unset, .unset, .unset, .unset, .unset, .unset, .unset, .unset, .unset] [(.int ((Int32.ofNat nN) - (1 : Int32)))])) _
      refine XS.i2l X1.here hx rfl (hb hby at_130) rfl ?_
      show Steps p.tables e below (T1.setTop (mkF m 131 #[.val (.int p0), .val (.int p1), .val (.int p2), .val (.int p3), .val (.int p4), .val (.int (p0 &&& (3 : Int32))), .val (.ref o6), .unset, .unset, .unset, .unset, .unset, .unset, .unset, .unset, .unset, .unset, .unset] [(.long (((Int32.ofNat nN) - (1 : Int32)).toInt64))])) _
      refine XS.lstore X1.here hx rfl (hb hby at_131) rfl (l' := #[.val (.int p0), .val (.int p1), .val (.int p2), .val (.int p3), .val (.int p4), .val (.int (p0 &&& (3 : Int32))), .val (.ref o6), .val (.long (((Int32.ofNat nN) - (1 : Int32)).toInt64)), .second, .unset, .unset, .unset, .unset, .unset, .unset, .unset, .unset, .unset]) rfl ?_
      show Steps p.tables e below (T1.setTop (mkF m 133 #[.val (.int p0), .val (.int p1), .val (.int p2), .val (.int p3), .val (.int p4), .val (.int (p0 &&& (3 : Int32))), .val (.ref o6), .val (.long (((Int32.ofNat nN) - (1 : Int32)).toInt64)), .second, .unset, .unset, .unset, .unset, .unset, .unset, .unset, .unset, .unset] [])) _
      refine XS.iloadN X1.here hx rfl (hb hby at_133) rfl ?_
      show Steps p.tables e below (T1.setTop (mkF m 134 #[.val (.int p0), .val (.int p1), .val (.int p2), .val (.int p3), .val (.int p4), .val (.int (p0 &&& (3 : Int32))), .val (.ref o6), .val (.long (((Int32.ofNat nN) - (1 : Int32)).toInt64)), .second, .unset, .unset, .unset, .unset, .unset, .unset, .unset, .unset, .unset] [(.int p2)])) _
      refine X1.ldcI hx hown (mvT hZ (hw _ (List.mem_of_getElem? (i := 1) rfl))) rfl (hb hby at_134) ?_
      show Steps p.tables e below (T1.setTop (mkF m 136 #[.val (.int p0), .val (.int p1), .val (.int p2), .val (.int p3), .val (.int p4), .val (.int (p0 &&& (3 : Int32))), .val (.ref o6), .val (.long (((Int32.ofNat nN) - (1 : Int32)).toInt64)), .second, .unset, .unset, .unset, .unset, .unset, .unset, .unset, .unset, .unset] [(.int (2147483647 : Int32)), (.int p2)])) _
      refine XS.iand X1.here hx rfl (hb hby at_136) rfl ?_
      show Steps p.tables e below (T1.setTop (mkF m 137 #[.val (.int p0), .val (.int p1), .val (.int p2), .val (.int p3), .val (.int p4), .val (.int (p0 &&& (3 : Int32))), .val (.ref o6), .val (.long (((Int32.ofNat nN) - (1 : Int32)).toInt64)), .second, .unset, .unset, .unset, .unset, .unset, .unset, .unset, .unset, .unset] [(.int (p2 &&& (2147483647 : Int32)))])) _
      refine XS.istore X1.here hx rfl (hb hby at_137) rfl (l' := #[.val (.int p0), .val (.int p1), .val (.int p2), .val (.int p3), .val (.int p4), .val (.int (p0 &&& (3 : Int32))), .val (.ref o6), .val (.long (((Int32.ofNat nN) - (1 : Int32)).toInt64)), .second, .val (.int (p2 &&& (2147483647 : Int32))), .unset, .unset, .unset, .unset, .unset, .unset, .unset, .unset]) rfl ?_
      exact kt
    obtain ⟨tt, htt⟩ : ∃ v : Int32, v = (p2 &&& (2147483647 : Int32)) := ⟨_, rfl⟩
    rw [← htt]
    show Got p e below s _ _ _ _ T1 (mkF m 139 #[.val (.int p0), .val (.int p1), .val (.int p2), .val (.int p3), .val (.int p4), .val (.int (p0 &&& (3 : Int32))), .val (.ref o6), .val (.long (((Int32.ofNat nN) - (1 : Int32)).toInt64)), .second, .val (.int tt), .unset, .unset, .unset, .unset, .unset, .unset, .unset, .unset] [])
    refine Got.step (T' := T1) (g' := (mkF m 145 #[.val (.int p0), .val (.int p1), .val (.int p2), .val (.int p3), .val (.int p4), .val (.int (p0 &&& (3 : Int32))), .val (.ref o6), .val (.long (((Int32.ofNat nN) - (1 : Int32)).toInt64)), .second, .val (.int tt), .unset, .unset, .unset, .unset, .unset, .unset, .unset, .unset] [(.int (((p4.toUInt32 >>> ((2 : Int32) &&& 31).toUInt32).toInt32) &&& (1 : Int32)))])) (fun tq kt => ?_) ?_
    · show Steps p.tables e below (T1.setTop (mkF m 139 #[.val (.int p0), .val (.int p1), .val (.int p2), .val (.int p3), .val (.int p4), .val (.int (p0 &&& (3 : Int32))), .val (.ref o6), .val (.long (((Int32.ofNat nN) - (1 : Int32)).toInt64)), .second, .val (.int tt), .unset, .unset, .unset, .unset, .unset, .unset, .unset, .unset] [])) _
      refine XS.iload X1.here hx rfl (hb hby at_139) rfl ?_
      show Steps p.tables e below (T1.setTop (mkF m 141 #[.val (.int p0), .val (.int p1), .val (.int p2), .val (.int p3), .val (.int p4), .val (.int (p0 &&& (3 : Int32))), .val (.ref o6), .val (.long (((Int32.ofNat nN) - (1 : Int32)).toInt64)), .second, .val (.int tt), .unset, .unset, .unset, .unset, .unset, .unset, .unset, .unset] [(.int p4)])) _
      refine XS.iconst X1.here hx rfl (hb hby at_141) ?_
      show Steps p.tables e below (T1.setTop (mkF m 142 #[.val (.int p0), .val (.int p1), .val (.int p2), .val (.int p3), .val (.int p4), .val (.int (p0 &&& (3 : Int32))), .val (.ref o6), .val (.long (((Int32.ofNat nN) - (1 : Int32)).toInt64)), .second, .val (.int tt), .unset, .unset, .unset, .unset, .unset, .unset, .unset, .unset] [(.int (2 : Int32)), (.int p4)])) _
      refine XS.iushr X1.here hx rfl (hb hby at_142) rfl ?_
      show Steps p.tables e below (T1.setTop (mkF m 143 #[.val (.int p0), .val (.int p1), .val (.int p2), .val (.int p3), .val (.int p4), .val (.int (p0 &&& (3 : Int32))), .val (.ref o6), .val (.long (((Int32.ofNat nN) - (1 : Int32)).toInt64)), .second, .val (.int tt), .unset, .unset, .unset, .unset, .unset, .unset, .unset, .unset] [(.int ((p4.toUInt32 >>> ((2 : Int32) &&& 31).toUInt32).toInt32))])) _
      refine XS.iconst X1.here hx rfl (hb hby at_143) ?_
      show Steps p.tables e below (T1.setTop (mkF m 144 #[.val (.int p0), .val (.int p1), .val (.int p2), .val (.int p3), .val (.int p4), .val (.int (p0 &&& (3 : Int32))), .val (.ref o6), .val (.long (((Int32.ofNat nN) - (1 : Int32)).toInt64)), .second, .val (.int tt), .unset, .unset, .unset, .unset, .unset, .unset, .unset, .unset] [(.int (1 : Int32)), (.int ((p4.toUInt32 >>> ((2 : Int32) &&& 31).toUInt32).toInt32))])) _
      refine XS.iand X1.here hx rfl (hb hby at_144) rfl ?_
      exact kt
    have J1244 : ∀ (T1244 : State) (h1244 : Heap) (L1244 : List Loc), Stand p l e room_1 s m #[(.int p0), (.int p1), (.int p2), (.int p3), (.int p4)] below meth c T1244 L1244 1 9 → T1244.heap = h1244 → Fr n0 L1244 → ∀ (v1244_10 : Int32), v1244_10 = (if (((p4.toUInt32 >>> ((2 : Int32) &&& 31).toUInt32).toInt32) &&& (1 : Int32)) = 0 then ((((p1 &&& (2147483647 : Int32)).toInt64) % ((tt.toInt64) + (1 : Int64))).toInt32) else (f4 (0 : Int32) (tt - (p1 &&& (15 : Int32))))) → n0 ≤ h1244.size → Arv Z h1244 o6 k6 .int (Int32.ofNat nN) (us.map Value.int) (.int (0 : Int32)) → Got p e below s (fun _ L => Fr n0 L) room_1.cells room_1.slots (some (.int (1 : Int32))) T1244 (mkF m 178 #[.val (.int p0), .val (.int p1), .val (.int p2), .val (.int p3), .val (.int p4), .val (.int (p0 &&& (3 : Int32))), .val (.ref o6), .val (.long (((Int32.ofNat nN) - (1 : Int32)).toInt64)), .second, .val (.int tt), .val (.int v1244_10), .unset, .unset, .unset, .unset, .unset, .unset, .unset] []) := by
      intro T1244 h1244 L1244 X1244 e1244 N1244 v1244_10 hv1244_10 Z1_1247 V6_1248
      refine Got.step (T' := T1244) (g' := (mkF m 182 #[.val (.int p0), .val (.int p1), .val (.int p2), .val (.int p3), .val (.int p4), .val (.int (p0 &&& (3 : Int32))), .val (.ref o6), .val (.long (((Int32.ofNat nN) - (1 : Int32)).toInt64)), .second, .val (.int tt), .val (.int v1244_10), .unset, .unset, .unset, .unset, .unset, .unset, .unset] [(.int (p4 &&& (1 : Int32)))])) (fun tq kt => ?_) ?_
      · show Steps p.tables e below (T1244.setTop (mkF m 178 #[.val (.int p0), .val (.int p1), .val (.int p2), .val (.int p3), .val (.int p4), .val (.int (p0 &&& (3 : Int32))), .val (.ref o6), .val (.long (((Int32.ofNat nN) - (1 : Int32)).toInt64)), .second, .val (.int tt), .val (.int v1244_10), .unset, .unset, .unset, .unset, .unset, .unset, .unset] [])) _
        refine XS.iload X1244.here hx rfl (hb hby at_178) rfl ?_
        show Steps p.tables e below (T1244.setTop (mkF m 180 #[.val (.int p0), .val (.int p1), .val (.int p2), .val (.int p3), .val (.int p4), .val (.int (p0 &&& (3 : Int32))), .val (.ref o6), .val (.long (((Int32.ofNat nN) - (1 : Int32)).toInt64)), .second, .val (.int tt), .val (.int v1244_10), .unset, .unset, .unset, .unset, .unset, .unset, .unset] [(.int p4)])) _
        refine XS.iconst X1244.here hx rfl (hb hby at_180) ?_
        show Steps p.tables e below (T1244.setTop (mkF m 181 #[.val (.int p0), .val (.int p1), .val (.int p2), .val (.int p3), .val (.int p4), .val (.int (p0 &&& (3 : Int32))), .val (.ref o6), .val (.long (((Int32.ofNat nN) - (1 : Int32)).toInt64)), .second, .val (.int tt), .val (.int v1244_10), .unset, .unset, .unset, .unset, .unset, .unset, .unset] [(.int (1 : Int32)), (.int p4)])) _
        refine XS.iand X1244.here hx rfl (hb hby at_181) rfl ?_
        exact kt
      by_cases hc1249 : ((p4 &&& (1 : Int32)) = 0)
      · refine Got.step (T' := T1244) (g' := (mkF m 259 #[.val (.int p0), .val (.int p1), .val (.int p2), .val (.int p3), .val (.int p4), .val (.int (p0 &&& (3 : Int32))), .val (.ref o6), .val (.long (((Int32.ofNat nN) - (1 : Int32)).toInt64)), .second, .val (.int tt), .val (.int v1244_10), .val (.long (((p3 &&& (2147483647 : Int32)).toInt64) % ((tt.toInt64) + (1 : Int64)))), .second, .val (.int ((((p3 &&& (2147483647 : Int32)).toInt64) % ((tt.toInt64) + (1 : Int64))).toInt32)), .unset, .unset, .unset, .unset] [])) (fun tq kt => ?_) ?_
        · show Steps p.tables e below (T1244.setTop (mkF m 182 #[.val (.int p0), .val (.int p1), .val (.int p2), .val (.int p3), .val (.int p4), .val (.int (p0 &&& (3 : Int32))), .val (.ref o6), .val (.long (((Int32.ofNat nN) - (1 : Int32)).toInt64)), .second, .val (.int tt), .val (.int v1244_10), .unset, .unset, .unset, .unset, .unset, .unset, .unset] [(.int (p4 &&& (1 : Int32)))])) _
          refine XS.ifNo X1244.here hx rfl (hb hby at_182) rfl (XT.i0_ne_f hc1249) ?_
          show Steps p.tables e below (T1244.setTop (mkF m 185 #[.val (.int p0), .val (.int p1), .val (.int p2), .val (.int p3), .val (.int p4), .val (.int (p0 &&& (3 : Int32))), .val (.ref o6), .val (.long (((Int32.ofNat nN) - (1 : Int32)).toInt64)), .second, .val (.int tt), .val (.int v1244_10), .unset, .unset, .unset, .unset, .unset, .unset, .unset] [])) _
          refine XS.iloadN X1244.here hx rfl (hb hby at_185) rfl ?_
          show Steps p.tables e below (T1244.setTop (mkF m 186 #[.val (.int p0), .val (.int p1), .val (.int p2), .val (.int p3), .val (.int p4), .val (.int (p0 &&& (3 : Int32))), .val (.ref o6), .val (.long (((Int32.ofNat nN) - (1 : Int32)).toInt64)), .second, .val (.int tt), .val (.int v1244_10), .unset, .unset, .unset, .unset, .unset, .unset, .unset] [(.int p3)])) _
          refine X1244.ldcI hx hown (mvT hZ (hw _ (List.mem_of_getElem? (i := 1) rfl))) rfl (hb hby at_186) ?_
          show Steps p.tables e below (T1244.setTop (mkF m 188 #[.val (.int p0), .val (.int p1), .val (.int p2), .val (.int p3), .val (.int p4), .val (.int (p0 &&& (3 : Int32))), .val (.ref o6), .val (.long (((Int32.ofNat nN) - (1 : Int32)).toInt64)), .second, .val (.int tt), .val (.int v1244_10), .unset, .unset, .unset, .unset, .unset, .unset, .unset] [(.int (2147483647 : Int32)), (.int p3)])) _
          refine XS.iand X1244.here hx rfl (hb hby at_188) rfl ?_
          show Steps p.tables e below (T1244.setTop (mkF m 189 #[.val (.int p0), .val (.int p1), .val (.int p2), .val (.int p3), .val (.int p4), .val (.int (p0 &&& (3 : Int32))), .val (.ref o6), .val (.long (((Int32.ofNat nN) - (1 : Int32)).toInt64)), .second, .val (.int tt), .val (.int v1244_10), .unset, .unset, .unset, .unset, .unset, .unset, .unset] [(.int (p3 &&& (2147483647 : Int32)))])) _
          refine XS.i2l X1244.here hx rfl (hb hby at_189) rfl ?_
          show Steps p.tables e below (T1244.setTop (mkF m 190 #[.val (.int p0), .val (.int p1), .val (.int p2), .val (.int p3), .val (.int p4), .val (.int (p0 &&& (3 : Int32))), .val (.ref o6), .val (.long (((Int32.ofNat nN) - (1 : Int32)).toInt64)), .second, .val (.int tt), .val (.int v1244_10), .unset, .unset, .unset, .unset, .unset, .unset, .unset] [(.long ((p3 &&& (2147483647 : Int32)).toInt64))])) _
          refine XS.iload X1244.here hx rfl (hb hby at_190) rfl ?_
          show Steps p.tables e below (T1244.setTop (mkF m 192 #[.val (.int p0), .val (.int p1), .val (.int p2), .val (.int p3), .val (.int p4), .val (.int (p0 &&& (3 : Int32))), .val (.ref o6), .val (.long (((Int32.ofNat nN) - (1 : Int32)).toInt64)), .second, .val (.int tt), .val (.int v1244_10), .unset, .unset, .unset, .unset, .unset, .unset, .unset] [(.int tt), (.long ((p3 &&& (2147483647 : Int32)).toInt64))])) _
          refine XS.i2l X1244.here hx rfl (hb hby at_192) rfl ?_
          show Steps p.tables e below (T1244.setTop (mkF m 193 #[.val (.int p0), .val (.int p1), .val (.int p2), .val (.int p3), .val (.int p4), .val (.int (p0 &&& (3 : Int32))), .val (.ref o6), .val (.long (((Int32.ofNat nN) - (1 : Int32)).toInt64)), .second, .val (.int tt), .val (.int v1244_10), .unset, .unset, .unset, .unset, .unset, .unset, .unset] [(.long (tt.toInt64)), (.long ((p3 &&& (2147483647 : Int32)).toInt64))])) _
          refine XS.lconst X1244.here hx rfl (hb hby at_193) ?_
          show Steps p.tables e below (T1244.setTop (mkF m 194 #[.val (.int p0), .val (.int p1), .val (.int p2), .val (.int p3), .val (.int p4), .val (.int (p0 &&& (3 : Int32))), .val (.ref o6), .val (.long (((Int32.ofNat nN) - (1 : Int32)).toInt64)), .second, .val (.int tt), .val (.int v1244_10), .unset, .unset, .unset, .unset, .unset, .unset, .unset] [(.long (1 : Int64)), (.long (tt.toInt64)), (.long ((p3 &&& (2147483647 : Int32)).toInt64))])) _
          refine XS.ladd X1244.here hx rfl (hb hby at_194) rfl ?_
          show Steps p.tables e below (T1244.setTop (mkF m 195 #[.val (.int p0), .val (.int p1), .val (.int p2), .val (.int p3), .val (.int p4), .val (.int (p0 &&& (3 : Int32))), .val (.ref o6), .val (.long (((Int32.ofNat nN) - (1 : Int32)).toInt64)), .second, .val (.int tt), .val (.int v1244_10), .unset, .unset, .unset, .unset, .unset, .unset, .unset] [(.long ((tt.toInt64) + (1 : Int64))), (.long ((p3 &&& (2147483647 : Int32)).toInt64))])) _
          refine remJ X1244 hx rfl (hb hby at_195) rfl (own_nz p2 htt) ?_
          show Steps p.tables e below (T1244.setTop (mkF m 196 #[.val (.int p0), .val (.int p1), .val (.int p2), .val (.int p3), .val (.int p4), .val (.int (p0 &&& (3 : Int32))), .val (.ref o6), .val (.long (((Int32.ofNat nN) - (1 : Int32)).toInt64)), .second, .val (.int tt), .val (.int v1244_10), .unset, .unset, .unset, .unset, .unset, .unset, .unset] [(.long (((p3 &&& (2147483647 : Int32)).toInt64) % ((tt.toInt64) + (1 : Int64))))])) _
          refine XS.lstore X1244.here hx rfl (hb hby at_196) rfl (l' := #[.val (.int p0), .val (.int p1), .val (.int p2), .val (.int p3), .val (.int p4), .val (.int (p0 &&& (3 : Int32))), .val (.ref o6), .val (.long (((Int32.ofNat nN) - (1 : Int32)).toInt64)), .second, .val (.int tt), .val (.int v1244_10), .val (.long (((p3 &&& (2147483647 : Int32)).toInt64) % ((tt.toInt64) + (1 : Int64)))), .second, .unset, .unset, .unset, .unset, .unset]) rfl ?_
          show Steps p.tables e below (T1244.setTop (mkF m 198 #[.val (.int p0), .val (.int p1), .val (.int p2), .val (.int p3), .val (.int p4), .val (.int (p0 &&& (3 : Int32))), .val (.ref o6), .val (.long (((Int32.ofNat nN) - (1 : Int32)).toInt64)), .second, .val (.int tt), .val (.int v1244_10), .val (.long (((p3 &&& (2147483647 : Int32)).toInt64) % ((tt.toInt64) + (1 : Int64)))), .second, .unset, .unset, .unset, .unset, .unset] [])) _
          refine XS.goto X1244.here hx rfl (pc0 := 198) (pc' := 254) rfl (hb hby at_198) (by decide) (by decide) ?_
          show Steps p.tables e below (T1244.setTop (mkF m 254 #[.val (.int p0), .val (.int p1), .val (.int p2), .val (.int p3), .val (.int p4), .val (.int (p0 &&& (3 : Int32))), .val (.ref o6), .val (.long (((Int32.ofNat nN) - (1 : Int32)).toInt64)), .second, .val (.int tt), .val (.int v1244_10), .val (.long (((p3 &&& (2147483647 : Int32)).toInt64) % ((tt.toInt64) + (1 : Int64)))), .second, .unset, .unset, .unset, .unset, .unset] [])) _
          refine XS.lload X1244.here hx rfl (hb hby at_254) rfl ?_
          show Steps p.tables e below (T1244.setTop (mkF m 256 #[.val (.int p0), .val (.int p1), .val (.int p2), .val (.int p3), .val (.int p4), .val (.int (p0 &&& (3 : Int32))), .val (.ref o6), .val (.long (((Int32.ofNat nN) - (1 : Int32)).toInt64)), .second, .val (.int tt), .val (.int v1244_10), .val (.long (((p3 &&& (2147483647 : Int32)).toInt64) % ((tt.toInt64) + (1 : Int64)))), .second, .unset, .unset, .unset, .unset, .unset] [(.long (((p3 &&& (2147483647 : Int32)).toInt64) % ((tt.toInt64) + (1 : Int64))))])) _
          refine XS.l2i X1244.here hx rfl (hb hby at_256) rfl ?_
          show Steps p.tables e below (T1244.setTop (mkF m 257 #[.val (.int p0), .val (.int p1), .val (.int p2), .val (.int p3), .val (.int p4), .val (.int (p0 &&& (3 : Int32))), .val (.ref o6), .val (.long (((Int32.ofNat nN) - (1 : Int32)).toInt64)), .second, .val (.int tt), .val (.int v1244_10), .val (.long (((p3 &&& (2147483647 : Int32)).toInt64) % ((tt.toInt64) + (1 : Int64)))), .second, .unset, .unset, .unset, .unset, .unset] [(.int ((((p3 &&& (2147483647 : Int32)).toInt64) % ((tt.toInt64) + (1 : Int64))).toInt32))])) _
          refine XS.istore X1244.here hx rfl (hb hby at_257) rfl (l' := #[.val (.int p0), .val (.int p1), .val (.int p2), .val (.int p3), .val (.int p4), .val (.int (p0 &&& (3 : Int32))), .val (.ref o6), .val (.long (((Int32.ofNat nN) - (1 : Int32)).toInt64)), .second, .val (.int tt), .val (.int v1244_10), .val (.long (((p3 &&& (2147483647 : Int32)).toInt64) % ((tt.toInt64) + (1 : Int64)))), .second, .val (.int ((((p3 &&& (2147483647 : Int32)).toInt64) % ((tt.toInt64) + (1 : Int64))).toInt32)), .unset, .unset, .unset, .unset]) rfl ?_
          exact kt
        obtain ⟨pp, hpp⟩ : ∃ v : Int32, v = ((((p3 &&& (2147483647 : Int32)).toInt64) % ((tt.toInt64) + (1 : Int64))).toInt32) := ⟨_, rfl⟩
        rw [← hpp]
        show Got p e below s _ _ _ _ T1244 (mkF m 259 #[.val (.int p0), .val (.int p1), .val (.int p2), .val (.int p3), .val (.int p4), .val (.int (p0 &&& (3 : Int32))), .val (.ref o6), .val (.long (((Int32.ofNat nN) - (1 : Int32)).toInt64)), .second, .val (.int tt), .val (.int v1244_10), .val (.long (((p3 &&& (2147483647 : Int32)).toInt64) % ((tt.toInt64) + (1 : Int64)))), .second, .val (.int pp), .unset, .unset, .unset, .unset] [])
        obtain ⟨T1250, h1250, X1250, e1250, E1250, A1250, D1250, -, st1250⟩ := newO X1244 hx hZ hown (hw _ (List.mem_of_getElem? (i := 2) rfl)) (hw _ (List.mem_of_getElem? (i := 3) rfl)) (hw _ (List.mem_of_getElem? (i := 4) rfl)) e1244 (g := (mkF m 259 #[.val (.int p0), .val (.int p1), .val (.int p2), .val (.int p3), .val (.int p4), .val (.int (p0 &&& (3 : Int32))), .val (.ref o6), .val (.long (((Int32.ofNat nN) - (1 : Int32)).toInt64)), .second, .val (.int tt), .val (.int v1244_10), .val (.long (((p3 &&& (2147483647 : Int32)).toInt64) % ((tt.toInt64) + (1 : Int64)))), .second, .val (.int pp), .unset, .unset, .unset, .unset] [])) rfl (hb hby at_259) (by decide) (by decide)
        obtain ⟨b1250, g1250⟩ : ∃ z, z = h1244.size := ⟨_, rfl⟩
        rw [← g1250] at A1250 D1250 st1250
        have ne_o6_b1250 : o6 ≠ b1250 := by rw [g1250]; exact Nat.ne_of_lt V6_1248.lt
        have gn_b1250 : n0 ≤ b1250 := by rw [g1250]; exact Z1_1247
        have Z1_1251 : n0 ≤ h1250.size := (Nat.le_trans Z1_1247 E1250.1)
        have V6_1252 : Arv Z h1250 o6 k6 .int (Int32.ofNat nN) (us.map Value.int) (.int (0 : Int32)) := (V6_1248.ext E1250)
        have F1250_marks : Fld Z h1250 b1250 "com/example/sidestep/sidestep/Starts" "marks" "[J" .null := D1250 (Or.inl (hw _ (List.mem_of_getElem? (i := 13) rfl))) (ty := (.array .long)) (by decide)
        have F1250_nonzeroWords : Fld Z h1250 b1250 "com/example/sidestep/sidestep/Starts" "nonzeroWords" "[J" .null := D1250 (Or.inr (hw _ (List.mem_of_getElem? (i := 15) rfl))) (ty := (.array .long)) (by decide)
        have F1250_fewBusyBlocks : Fld Z h1250 b1250 "com/example/sidestep/sidestep/Starts" "fewBusyBlocks" "Z" (.int (0 : Int32)) := D1250 (Or.inl (hw _ (List.mem_of_getElem? (i := 17) rfl))) (ty := .boolean) (by decide)
        have F1250_places : Fld Z h1250 b1250 "com/example/sidestep/sidestep/Starts" "places" "[I" .null := D1250 (Or.inl (hw _ (List.mem_of_getElem? (i := 19) rfl))) (ty := (.array .int)) (by decide)
        have F1250_listedInWindow : Fld Z h1250 b1250 "com/example/sidestep/sidestep/Starts" "listedInWindow" "[I" .null := D1250 (Or.inr (hw _ (List.mem_of_getElem? (i := 21) rfl))) (ty := (.array .int)) (by decide)
        have F1250_tallies : Fld Z h1250 b1250 "com/example/sidestep/sidestep/Starts" "tallies" "[J" .null := D1250 (Or.inl (hw _ (List.mem_of_getElem? (i := 23) rfl))) (ty := (.array .long)) (by decide)
        have F1250_length : Fld Z h1250 b1250 "com/example/sidestep/sidestep/Starts" "length" "I" (.int (0 : Int32)) := D1250 (Or.inr (hw _ (List.mem_of_getElem? (i := 25) rfl))) (ty := .int) (by decide)
        have F1250_exact : Fld Z h1250 b1250 "com/example/sidestep/sidestep/Starts" "exact" "Z" (.int (0 : Int32)) := D1250 (Or.inr (hw _ (List.mem_of_getElem? (i := 27) rfl))) (ty := .boolean) (by decide)
        have F1250_lastOffset : Fld Z h1250 b1250 "com/example/sidestep/sidestep/Starts" "lastOffset" "I" (.int (0 : Int32)) := D1250 (Or.inr (hw _ (List.mem_of_getElem? (i := 29) rfl))) (ty := .int) (by decide)
        have F1250_secondOffset : Fld Z h1250 b1250 "com/example/sidestep/sidestep/Starts" "secondOffset" "I" (.int (0 : Int32)) := D1250 (Or.inr (hw _ (List.mem_of_getElem? (i := 35) rfl))) (ty := .int) (by decide)
        have F1250_thirdOffset : Fld Z h1250 b1250 "com/example/sidestep/sidestep/Starts" "thirdOffset" "I" (.int (0 : Int32)) := D1250 (Or.inr (hw _ (List.mem_of_getElem? (i := 37) rfl))) (ty := .int) (by decide)
        have F1250_penultimateOffset : Fld Z h1250 b1250 "com/example/sidestep/sidestep/Starts" "penultimateOffset" "I" (.int (0 : Int32)) := D1250 (Or.inr (hw _ (List.mem_of_getElem? (i := 42) rfl))) (ty := .int) (by decide)
        have F1250_firstBytes : Fld Z h1250 b1250 "com/example/sidestep/sidestep/Starts" "firstBytes" "J" (.long (0 : Int64)) := D1250 (Or.inr (hw _ (List.mem_of_getElem? (i := 49) rfl))) (ty := .long) (by decide)
        have F1250_secondBytes : Fld Z h1250 b1250 "com/example/sidestep/sidestep/Starts" "secondBytes" "J" (.long (0 : Int64)) := D1250 (Or.inr (hw _ (List.mem_of_getElem? (i := 51) rfl))) (ty := .long) (by decide)
        have F1250_thirdBytes : Fld Z h1250 b1250 "com/example/sidestep/sidestep/Starts" "thirdBytes" "J" (.long (0 : Int64)) := D1250 (Or.inr (hw _ (List.mem_of_getElem? (i := 53) rfl))) (ty := .long) (by decide)
        have F1250_penultimateBytes : Fld Z h1250 b1250 "com/example/sidestep/sidestep/Starts" "penultimateBytes" "J" (.long (0 : Int64)) := D1250 (Or.inr (hw _ (List.mem_of_getElem? (i := 55) rfl))) (ty := .long) (by decide)
        have F1250_lastBytes : Fld Z h1250 b1250 "com/example/sidestep/sidestep/Starts" "lastBytes" "J" (.long (0 : Int64)) := D1250 (Or.inr (hw _ (List.mem_of_getElem? (i := 57) rfl))) (ty := .long) (by decide)
        have F1250_patternWords : Fld Z h1250 b1250 "com/example/sidestep/sidestep/Starts" "patternWords" "[J" .null := D1250 (Or.inr (hw _ (List.mem_of_getElem? (i := 59) rfl))) (ty := (.array .long)) (by decide)
        have F1250_lastWordOffset : Fld Z h1250 b1250 "com/example/sidestep/sidestep/Starts" "lastWordOffset" "I" (.int (0 : Int32)) := D1250 (Or.inr (hw _ (List.mem_of_getElem? (i := 61) rfl))) (ty := .int) (by decide)
        have F1250_lastWordMask : Fld Z h1250 b1250 "com/example/sidestep/sidestep/Starts" "lastWordMask" "J" (.long (0 : Int64)) := D1250 (Or.inr (hw _ (List.mem_of_getElem? (i := 63) rfl))) (ty := .long) (by decide)
        have F1250_source : Fld Z h1250 b1250 "com/example/sidestep/sidestep/Starts" "source" "Lcom/example/sidestep/sidestep/Starts$LowBytes;" .null := D1250 (Or.inl (hw _ (List.mem_of_getElem? (i := 76) rfl))) (ty := (.object "com/example/sidestep/sidestep/Starts$LowBytes")) (by decide)
        have F1250_copiedTo : Fld Z h1250 b1250 "com/example/sidestep/sidestep/Starts" "copiedTo" "I" (.int (0 : Int32)) := D1250 (Or.inl (hw _ (List.mem_of_getElem? (i := 78) rfl))) (ty := .int) (by decide)
        have F1250_lowBytes : Fld Z h1250 b1250 "com/example/sidestep/sidestep/Starts" "lowBytes" "[B" .null := D1250 (Or.inl (hw _ (List.mem_of_getElem? (i := 80) rfl))) (ty := (.array .byte)) (by decide)
        have F1250_to : Fld Z h1250 b1250 "com/example/sidestep/sidestep/Starts" "to" "I" (.int (0 : Int32)) := D1250 (Or.inl (hw _ (List.mem_of_getElem? (i := 82) rfl))) (ty := .int) (by decide)
        have F1250_placesEnd : Fld Z h1250 b1250 "com/example/sidestep/sidestep/Starts" "placesEnd" "I" (.int (0 : Int32)) := D1250 (Or.inl (hw _ (List.mem_of_getElem? (i := 84) rfl))) (ty := .int) (by decide)
        have F1250_wholeEnd : Fld Z h1250 b1250 "com/example/sidestep/sidestep/Starts" "wholeEnd" "I" (.int (0 : Int32)) := D1250 (Or.inl (hw _ (List.mem_of_getElem? (i := 86) rfl))) (ty := .int) (by decide)
        have F1250_decidedEnd : Fld Z h1250 b1250 "com/example/sidestep/sidestep/Starts" "decidedEnd" "I" (.int (0 : Int32)) := D1250 (Or.inl (hw _ (List.mem_of_getElem? (i := 88) rfl))) (ty := .int) (by decide)
        have F1250_placed : Fld Z h1250 b1250 "com/example/sidestep/sidestep/Starts" "placed" "I" (.int (0 : Int32)) := D1250 (Or.inl (hw _ (List.mem_of_getElem? (i := 90) rfl))) (ty := .int) (by decide)
        have F1250_taken : Fld Z h1250 b1250 "com/example/sidestep/sidestep/Starts" "taken" "I" (.int (0 : Int32)) := D1250 (Or.inl (hw _ (List.mem_of_getElem? (i := 92) rfl))) (ty := .int) (by decide)
        have F1250_listedTo : Fld Z h1250 b1250 "com/example/sidestep/sidestep/Starts" "listedTo" "I" (.int (0 : Int32)) := D1250 (Or.inl (hw _ (List.mem_of_getElem? (i := 94) rfl))) (ty := .int) (by decide)
        have F1250_dense : Fld Z h1250 b1250 "com/example/sidestep/sidestep/Starts" "dense" "Z" (.int (0 : Int32)) := D1250 (Or.inl (hw _ (List.mem_of_getElem? (i := 96) rfl))) (ty := .boolean) (by decide)
        have F1250_marking : Fld Z h1250 b1250 "com/example/sidestep/sidestep/Starts" "marking" "I" (.int (0 : Int32)) := D1250 (Or.inl (hw _ (List.mem_of_getElem? (i := 102) rfl))) (ty := .int) (by decide)
        have F1250_sections : Fld Z h1250 b1250 "com/example/sidestep/sidestep/Starts" "sections" "I" (.int (0 : Int32)) := D1250 (Or.inl (hw _ (List.mem_of_getElem? (i := 104) rfl))) (ty := .int) (by decide)
        have F1250_handedSections : Fld Z h1250 b1250 "com/example/sidestep/sidestep/Starts" "handedSections" "I" (.int (0 : Int32)) := D1250 (Or.inl (hw _ (List.mem_of_getElem? (i := 106) rfl))) (ty := .int) (by decide)
        refine Got.step st1250 ?_
        show Got p e below s _ _ _ _ T1250 (mkF m 262 #[.val (.int p0), .val (.int p1), .val (.int p2), .val (.int p3), .val (.int p4), .val (.int (p0 &&& (3 : Int32))), .val (.ref o6), .val (.long (((Int32.ofNat nN) - (1 : Int32)).toInt64)), .second, .val (.int tt), .val (.int v1244_10), .val (.long (((p3 &&& (2147483647 : Int32)).toInt64) % ((tt.toInt64) + (1 : Int64)))), .second, .val (.int pp), .unset, .unset, .unset, .unset] [(.ref b1250)])
        refine Got.step (T' := T1250) (g' := (mkF m 265 #[.val (.int p0), .val (.int p1), .val (.int p2), .val (.int p3), .val (.int p4), .val (.int (p0 &&& (3 : Int32))), .val (.ref o6), .val (.long (((Int32.ofNat nN) - (1 : Int32)).toInt64)), .second, .val (.int tt), .val (.int v1244_10), .val (.long (((p3 &&& (2147483647 : Int32)).toInt64) % ((tt.toInt64) + (1 : Int64)))), .second, .val (.int pp), .unset, .unset, .unset, .unset] [(.ref o6), (.ref b1250), (.ref b1250)])) (fun tq kt => ?_) ?_
        · show Steps p.tables e below (T1250.setTop (mkF m 262 #[.val (.int p0), .val (.int p1), .val (.int p2), .val (.int p3), .val (.int p4), .val (.int (p0 &&& (3 : Int32))), .val (.ref o6), .val (.long (((Int32.ofNat nN) - (1 : Int32)).toInt64)), .second, .val (.int tt), .val (.int v1244_10), .val (.long (((p3 &&& (2147483647 : Int32)).toInt64) % ((tt.toInt64) + (1 : Int64)))), .second, .val (.int pp), .unset, .unset, .unset, .unset] [(.ref b1250)])) _
          refine XS.dup X1250.here hx rfl (hb hby at_262) rfl rfl ?_
          show Steps p.tables e below (T1250.setTop (mkF m 263 #[.val (.int p0), .val (.int p1), .val (.int p2), .val (.int p3), .val (.int p4), .val (.int (p0 &&& (3 : Int32))), .val (.ref o6), .val (.long (((Int32.ofNat nN) - (1 : Int32)).toInt64)), .second, .val (.int tt), .val (.int v1244_10), .val (.long (((p3 &&& (2147483647 : Int32)).toInt64) % ((tt.toInt64) + (1 : Int64)))), .second, .val (.int pp), .unset, .unset, .unset, .unset] [(.ref b1250), (.ref b1250)])) _
          refine XS.aload X1250.here hx rfl (hb hby at_263) rfl rfl ?_
          exact kt
        obtain ⟨_, _, ⟨T1253, L1253, k1253, n1253⟩, -, X1253, ⟨Lc1253, hQ1253, l1253, y1253, z1253⟩, st1253⟩ := X1250.specialBack hx (y := (⟨"com/example/sidestep/sidestep/Starts", "<init>", "([I)V"⟩ : MethodName)) rfl hown (mvT hZ (hw _ (List.mem_of_getElem? (i := 5) rfl))) (mvT hZ (hw _ (List.mem_of_getElem? (i := 6) rfl))) (mvT hZ (hw _ (List.mem_of_getElem? (i := 7) rfl))) (by decide) (backOf (W := 1) (rm1 l Z a0 hw [] b1250 o6 nN us k6 h1250 n0 Z1_1251 gn_b1250 A1250 F1250_marks F1250_nonzeroWords F1250_fewBusyBlocks F1250_places F1250_listedInWindow F1250_tallies F1250_length F1250_exact F1250_lastOffset F1250_secondOffset F1250_thirdOffset F1250_penultimateOffset F1250_firstBytes F1250_secondBytes F1250_thirdBytes F1250_penultimateBytes F1250_lastBytes F1250_patternWords F1250_lastWordOffset F1250_lastWordMask F1250_source F1250_copiedTo F1250_lowBytes F1250_to F1250_placesEnd F1250_wholeEnd F1250_decidedEnd F1250_placed F1250_taken F1250_listedTo F1250_dense F1250_marking F1250_sections F1250_handedSections V6_1252 ne_o6_b1250 hN) hZ (hw _ (List.mem_of_getElem? (i := 7) rfl)) (hw _ (List.mem_of_getElem? (i := 4) rfl)) (by decide) (by decide)) (g := (mkF m 265 #[.val (.int p0), .val (.int p1), .val (.int p2), .val (.int p3), .val (.int p4), .val (.int (p0 &&& (3 : Int32))), .val (.ref o6), .val (.long (((Int32.ofNat nN) - (1 : Int32)).toInt64)), .second, .val (.int tt), .val (.int v1244_10), .val (.long (((p3 &&& (2147483647 : Int32)).toInt64) % ((tt.toInt64) + (1 : Int64)))), .second, .val (.int pp), .unset, .unset, .unset, .unset] [(.ref o6), (.ref b1250), (.ref b1250)])) rfl (by rw [hml]; rfl) (Steps.refl _) (a := b1250) (argsL := [(.ref o6)]) (rest := [(.ref b1250)]) (lenOf pd_4 rfl) rfl (by show 2 * 0 + _ ≤ _; exact Nat.le_of_eq rfl) (hb hby at_265) (fun _ _ => ⟨rfl, e1250, (by decide : 2 + 6 ≤ _), (by decide : 51 + 43 ≤ _)⟩)
        dsimp only [Pt.U, Pt.locs, Pt.cells, Pt.slots] at X1253 l1253 y1253 z1253 st1253 hQ1253
        subst y1253 z1253
        obtain ⟨h1253, e1253⟩ : ∃ z, T1253.heap = z := ⟨_, rfl⟩
        rw [e1253] at hQ1253
        obtain ⟨rfl, Nq1253, K1253, E1253, G1253_lastOffset, G1253_length, G1253_source, G1253_copiedTo, G1253_lowBytes, G1253_to, G1253_placesEnd, G1253_wholeEnd, G1253_decidedEnd, G1253_placed, G1253_taken, G1253_listedTo, G1253_dense, G1253_marking, G1253_sections, G1253_handedSections, ow, kw, nw, vs, new, szw, Gpw, Vw⟩ := hQ1253
        have N1253 : Fr n0 L1253 := by rw [l1253]; exact Fr.app N1244 Nq1253
        have Z1_1254 : n0 ≤ h1253.size := (Nat.le_trans Z1_1251 K1253.1)
        have V6_1255 : Arv Z h1253 o6 k6 .int (Int32.ofNat nN) (us.map Value.int) (.int (0 : Int32)) := (V6_1252.keep K1253 (ninS ne_o6_b1250 nin0))
        have A1250_1256 : Exa Z h1253 b1250 "com/example/sidestep/sidestep/Starts" := (A1250.keep K1253)
        refine Got.hop st1253 ?_
        show Got p e below s _ _ _ _ T1253 (mkF m 268 #[.val (.int p0), .val (.int p1), .val (.int p2), .val (.int p3), .val (.int p4), .val (.int (p0 &&& (3 : Int32))), .val (.ref o6), .val (.long (((Int32.ofNat nN) - (1 : Int32)).toInt64)), .second, .val (.int tt), .val (.int v1244_10), .val (.long (((p3 &&& (2147483647 : Int32)).toInt64) % ((tt.toInt64) + (1 : Int64)))), .second, .val (.int pp), .unset, .unset, .unset, .unset] [(.ref b1250)])
        refine Got.step (T' := T1253) (g' := (mkF m 273 #[.val (.int p0), .val (.int p1), .val (.int p2), .val (.int p3), .val (.int p4), .val (.int (p0 &&& (3 : Int32))), .val (.ref o6), .val (.long (((Int32.ofNat nN) - (1 : Int32)).toInt64)), .second, .val (.int tt), .val (.int v1244_10), .val (.long (((p3 &&& (2147483647 : Int32)).toInt64) % ((tt.toInt64) + (1 : Int64)))), .second, .val (.int pp), .val (.ref b1250), .unset, .unset, .unset] [(.int (0 : Int32)), (.ref b1250)])) (fun tq kt => ?_) ?_
        · show Steps p.tables e below (T1253.setTop (mkF m 268 #[.val (.int p0), .val (.int p1), .val (.int p2), .val (.int p3), .val (.int p4), .val (.int (p0 &&& (3 : Int32))), .val (.ref o6), .val (.long (((Int32.ofNat nN) - (1 : Int32)).toInt64)), .second, .val (.int tt), .val (.int v1244_10), .val (.long (((p3 &&& (2147483647 : Int32)).toInt64) % ((tt.toInt64) + (1 : Int64)))), .second, .val (.int pp), .unset, .unset, .unset, .unset] [(.ref b1250)])) _
          refine XS.astore X1253.here hx rfl (hb hby at_268) rfl rfl (l' := #[.val (.int p0), .val (.int p1), .val (.int p2), .val (.int p3), .val (.int p4), .val (.int (p0 &&& (3 : Int32))), .val (.ref o6), .val (.long (((Int32.ofNat nN) - (1 : Int32)).toInt64)), .second, .val (.int tt), .val (.int v1244_10), .val (.long (((p3 &&& (2147483647 : Int32)).toInt64) % ((tt.toInt64) + (1 : Int64)))), .second, .val (.int pp), .val (.ref b1250), .unset, .unset, .unset]) rfl ?_
          show Steps p.tables e below (T1253.setTop (mkF m 270 #[.val (.int p0), .val (.int p1), .val (.int p2), .val (.int p3), .val (.int p4), .val (.int (p0 &&& (3 : Int32))), .val (.ref o6), .val (.long (((Int32.ofNat nN) - (1 : Int32)).toInt64)), .second, .val (.int tt), .val (.int v1244_10), .val (.long (((p3 &&& (2147483647 : Int32)).toInt64) % ((tt.toInt64) + (1 : Int64)))), .second, .val (.int pp), .val (.ref b1250), .unset, .unset, .unset] [])) _
          refine XS.aload X1253.here hx rfl (hb hby at_270) rfl rfl ?_
          show Steps p.tables e below (T1253.setTop (mkF m 272 #[.val (.int p0), .val (.int p1), .val (.int p2), .val (.int p3), .val (.int p4), .val (.int (p0 &&& (3 : Int32))), .val (.ref o6), .val (.long (((Int32.ofNat nN) - (1 : Int32)).toInt64)), .second, .val (.int tt), .val (.int v1244_10), .val (.long (((p3 &&& (2147483647 : Int32)).toInt64) % ((tt.toInt64) + (1 : Int64)))), .second, .val (.int pp), .val (.ref b1250), .unset, .unset, .unset] [(.ref b1250)])) _
          refine XS.iconst X1253.here hx rfl (hb hby at_272) ?_
          exact kt
        obtain ⟨T1257, h1257, k1257, X1257, e1257, E1257, A1257, st1257⟩ := newP X1253 hx hZ (hw _ (List.mem_of_getElem? (i := 64) rfl)) e1253 (g := (mkF m 273 #[.val (.int p0), .val (.int p1), .val (.int p2), .val (.int p3), .val (.int p4), .val (.int (p0 &&& (3 : Int32))), .val (.ref o6), .val (.long (((Int32.ofNat nN) - (1 : Int32)).toInt64)), .second, .val (.int tt), .val (.int v1244_10), .val (.long (((p3 &&& (2147483647 : Int32)).toInt64) % ((tt.toInt64) + (1 : Int64)))), .second, .val (.int pp), .val (.ref b1250), .unset, .unset, .unset] [(.int (0 : Int32)), (.ref b1250)])) rfl (hb hby at_273) rfl (by decide) (cap := 0) (by decide) (by decide) (by decide) (by decide)
        obtain ⟨b1257, g1257⟩ : ∃ z, z = h1253.size := ⟨_, rfl⟩
        rw [← g1257] at A1257 st1257
        have ne_o6_b1257 : o6 ≠ b1257 := by rw [g1257]; exact Nat.ne_of_lt V6_1255.lt
        have ne_b1250_b1257 : b1250 ≠ b1257 := by rw [g1257]; exact Nat.ne_of_lt A1250_1256.lt
        have ne_ow_b1257 : ow ≠ b1257 := by rw [g1257]; exact Nat.ne_of_lt Vw.lt
        have gn_b1257 : n0 ≤ b1257 := by rw [g1257]; exact Z1_1254
        have Z1_1258 : n0 ≤ h1257.size := (Nat.le_trans Z1_1254 E1257.1)
        have V6_1259 : Arv Z h1257 o6 k6 .int (Int32.ofNat nN) (us.map Value.int) (.int (0 : Int32)) := (V6_1255.ext E1257)
        have A1250_1260 : Exa Z h1257 b1250 "com/example/sidestep/sidestep/Starts" := (A1250_1256.ext E1257)
        have G1253_lastOffset_1261 : Fld Z h1257 b1250 "com/example/sidestep/sidestep/Starts" "lastOffset" "I" (.int ((Int32.ofNat nN) - (1 : Int32))) := (G1253_lastOffset.ext E1257)
        have G1253_length_1262 : Fld Z h1257 b1250 "com/example/sidestep/sidestep/Starts" "length" "I" (.int (Int32.ofNat nN)) := (G1253_length.ext E1257)
        have G1253_source_1263 : Fld Z h1257 b1250 "com/example/sidestep/sidestep/Starts" "source" "Lcom/example/sidestep/sidestep/Starts$LowBytes;" .null := (G1253_source.ext E1257)
        have G1253_copiedTo_1264 : Fld Z h1257 b1250 "com/example/sidestep/sidestep/Starts" "copiedTo" "I" (.int (0 : Int32)) := (G1253_copiedTo.ext E1257)
        have G1253_lowBytes_1265 : Fld Z h1257 b1250 "com/example/sidestep/sidestep/Starts" "lowBytes" "[B" .null := (G1253_lowBytes.ext E1257)
        have G1253_to_1266 : Fld Z h1257 b1250 "com/example/sidestep/sidestep/Starts" "to" "I" (.int (0 : Int32)) := (G1253_to.ext E1257)
        have G1253_placesEnd_1267 : Fld Z h1257 b1250 "com/example/sidestep/sidestep/Starts" "placesEnd" "I" (.int (0 : Int32)) := (G1253_placesEnd.ext E1257)
        have G1253_wholeEnd_1268 : Fld Z h1257 b1250 "com/example/sidestep/sidestep/Starts" "wholeEnd" "I" (.int (0 : Int32)) := (G1253_wholeEnd.ext E1257)
        have G1253_decidedEnd_1269 : Fld Z h1257 b1250 "com/example/sidestep/sidestep/Starts" "decidedEnd" "I" (.int (0 : Int32)) := (G1253_decidedEnd.ext E1257)
        have G1253_placed_1270 : Fld Z h1257 b1250 "com/example/sidestep/sidestep/Starts" "placed" "I" (.int (0 : Int32)) := (G1253_placed.ext E1257)
        have G1253_taken_1271 : Fld Z h1257 b1250 "com/example/sidestep/sidestep/Starts" "taken" "I" (.int (0 : Int32)) := (G1253_taken.ext E1257)
        have G1253_listedTo_1272 : Fld Z h1257 b1250 "com/example/sidestep/sidestep/Starts" "listedTo" "I" (.int (0 : Int32)) := (G1253_listedTo.ext E1257)
        have G1253_dense_1273 : Fld Z h1257 b1250 "com/example/sidestep/sidestep/Starts" "dense" "Z" (.int (0 : Int32)) := (G1253_dense.ext E1257)
        have G1253_marking_1274 : Fld Z h1257 b1250 "com/example/sidestep/sidestep/Starts" "marking" "I" (.int (0 : Int32)) := (G1253_marking.ext E1257)
        have G1253_sections_1275 : Fld Z h1257 b1250 "com/example/sidestep/sidestep/Starts" "sections" "I" (.int (0 : Int32)) := (G1253_sections.ext E1257)
        have G1253_handedSections_1276 : Fld Z h1257 b1250 "com/example/sidestep/sidestep/Starts" "handedSections" "I" (.int (0 : Int32)) := (G1253_handedSections.ext E1257)
        have Gpw_1277 : Fld Z h1257 b1250 "com/example/sidestep/sidestep/Starts" "patternWords" "[J" (.ref ow) := (Gpw.ext E1257)
        have Vw_1278 : Arv Z h1257 ow kw .long nw vs (.long (0 : Int64)) := (Vw.ext E1257)
        have V1257 : Arv Z h1257 b1257 k1257 .byte (0 : Int32) [] (.int (0 : Int32)) := (Arv.new A1257 (by decide)).pad (pad_rep [] (.int (0 : Int32)) 0)
        refine Got.step st1257 ?_
        show Got p e below s _ _ _ _ T1257 (mkF m 275 #[.val (.int p0), .val (.int p1), .val (.int p2), .val (.int p3), .val (.int p4), .val (.int (p0 &&& (3 : Int32))), .val (.ref o6), .val (.long (((Int32.ofNat nN) - (1 : Int32)).toInt64)), .second, .val (.int tt), .val (.int v1244_10), .val (.long (((p3 &&& (2147483647 : Int32)).toInt64) % ((tt.toInt64) + (1 : Int64)))), .second, .val (.int pp), .val (.ref b1250), .unset, .unset, .unset] [(.ref b1257), (.ref b1250)])
        refine Got.step (T' := T1257) (g' := (mkF m 279 #[.val (.int p0), .val (.int p1), .val (.int p2), .val (.int p3), .val (.int p4), .val (.int (p0 &&& (3 : Int32))), .val (.ref o6), .val (.long (((Int32.ofNat nN) - (1 : Int32)).toInt64)), .second, .val (.int tt), .val (.int v1244_10), .val (.long (((p3 &&& (2147483647 : Int32)).toInt64) % ((tt.toInt64) + (1 : Int64)))), .second, .val (.int pp), .val (.ref b1250), .unset, .unset, .unset] [(.int tt), (.int v1244_10), (.ref b1257), (.ref b1250)])) (fun tq kt => ?_) ?_
        · show Steps p.tables e below (T1257.setTop (mkF m 275 #[.val (.int p0), .val (.int p1), .val (.int p2), .val (.int p3), .val (.int p4), .val (.int (p0 &&& (3 : Int32))), .val (.ref o6), .val (.long (((Int32.ofNat nN) - (1 : Int32)).toInt64)), .second, .val (.int tt), .val (.int v1244_10), .val (.long (((p3 &&& (2147483647 : Int32)).toInt64) % ((tt.toInt64) + (1 : Int64)))), .second, .val (.int pp), .val (.ref b1250), .unset, .unset, .unset] [(.ref b1257), (.ref b1250)])) _
          refine XS.iload X1257.here hx rfl (hb hby at_275) rfl ?_
          show Steps p.tables e below (T1257.setTop (mkF m 277 #[.val (.int p0), .val (.int p1), .val (.int p2), .val (.int p3), .val (.int p4), .val (.int (p0 &&& (3 : Int32))), .val (.ref o6), .val (.long (((Int32.ofNat nN) - (1 : Int32)).toInt64)), .second, .val (.int tt), .val (.int v1244_10), .val (.long (((p3 &&& (2147483647 : Int32)).toInt64) % ((tt.toInt64) + (1 : Int64)))), .second, .val (.int pp), .val (.ref b1250), .unset, .unset, .unset] [(.int v1244_10), (.ref b1257), (.ref b1250)])) _
          refine XS.iload X1257.here hx rfl (hb hby at_277) rfl ?_
          exact kt
        obtain ⟨cq1279, kq1279, qa1279, qb1279, qc1279⟩ := isOf hZ e1257 A1250_1260
        obtain ⟨_, _, ⟨T1279, L1279, k1279, n1279⟩, -, X1279, ⟨Lc1279, hQ1279, l1279, y1279, z1279⟩, st1279⟩ := X1257.virtualBack hx (y := (⟨"com/example/sidestep/sidestep/Starts", "over", "([BII)V"⟩ : MethodName)) (z := (⟨"com/example/sidestep/sidestep/Starts", "over", "([BII)V"⟩ : MethodName)) hown (mvT hZ (hw _ (List.mem_of_getElem? (i := 65) rfl))) (mvT hZ (hw _ (List.mem_of_getElem? (i := 66) rfl))) (notFace_of_selects (args := #[]) (mvT hZ (hw _ (List.mem_of_getElem? (i := 68) rfl)))) (mvT hZ (hw _ (List.mem_of_getElem? (i := 68) rfl))) (mvT hZ (hw _ (List.mem_of_getElem? (i := 67) rfl))) (by decide) (backOf (W := 0) (rm6 l Z a0 hw [] b1250 b1257 v1244_10 tt ((Int32.ofNat nN) - (1 : Int32)) (Int32.ofNat nN) ow kw nw vs h1257 n0 Z1_1258 gn_b1250 A1250_1260 G1253_lastOffset_1261 G1253_length_1262 Gpw_1277 G1253_source_1263 G1253_copiedTo_1264 G1253_lowBytes_1265 G1253_to_1266 G1253_placesEnd_1267 G1253_wholeEnd_1268 G1253_decidedEnd_1269 G1253_placed_1270 G1253_taken_1271 G1253_listedTo_1272 G1253_dense_1273 G1253_marking_1274 G1253_sections_1275 G1253_handedSections_1276 Vw_1278 new) hZ (hw _ (List.mem_of_getElem? (i := 69) rfl)) (hw _ (List.mem_of_getElem? (i := 4) rfl)) (by decide) (by decide)) qa1279 qc1279 (g := (mkF m 279 #[.val (.int p0), .val (.int p1), .val (.int p2), .val (.int p3), .val (.int p4), .val (.int (p0 &&& (3 : Int32))), .val (.ref o6), .val (.long (((Int32.ofNat nN) - (1 : Int32)).toInt64)), .second, .val (.int tt), .val (.int v1244_10), .val (.long (((p3 &&& (2147483647 : Int32)).toInt64) % ((tt.toInt64) + (1 : Int64)))), .second, .val (.int pp), .val (.ref b1250), .unset, .unset, .unset] [(.int tt), (.int v1244_10), (.ref b1257), (.ref b1250)])) rfl (by rw [hml]; rfl) (Steps.refl _) (argsL := [(.ref b1257), (.int v1244_10), (.int tt)]) (rest := []) (lenOf pd_5 rfl) rfl (by show 2 * 0 + _ ≤ _; exact Nat.le_of_eq rfl) (hb hby at_279) (fun _ _ => ⟨rfl, e1257, (by decide : 9 + 0 ≤ _), (by decide : 94 + 0 ≤ _)⟩)
        dsimp only [Pt.U, Pt.locs, Pt.cells, Pt.slots] at X1279 l1279 y1279 z1279 st1279 hQ1279
        subst y1279 z1279
        obtain ⟨h1279, e1279⟩ : ∃ z, T1279.heap = z := ⟨_, rfl⟩
        rw [e1279] at hQ1279
        obtain ⟨rfl, Nq1279, K1279, E1279, G1279_wholeEnd⟩ := hQ1279
        have N1279 : Fr n0 L1279 := by rw [l1279]; exact Fr.app N1253 Nq1279
        have Z1_1280 : n0 ≤ h1279.size := (Nat.le_trans Z1_1258 K1279.1)
        have V6_1281 : Arv Z h1279 o6 k6 .int (Int32.ofNat nN) (us.map Value.int) (.int (0 : Int32)) := (V6_1259.keep K1279 (ninS ne_o6_b1250 nin0))
        have A1250_1282 : Exa Z h1279 b1250 "com/example/sidestep/sidestep/Starts" := (A1250_1260.keep K1279)
        have Vw_1283 : Arv Z h1279 ow kw .long nw vs (.long (0 : Int64)) := (Vw_1278.keep K1279 (ninS new nin0))
        have V1257_1284 : Arv Z h1279 b1257 k1257 .byte (0 : Int32) [] (.int (0 : Int32)) := (V1257.keep K1279 (ninS (Ne.symm ne_b1250_b1257) nin0))
        refine Got.hop st1279 ?_
        show Got p e below s _ _ _ _ T1279 (mkF m 282 #[.val (.int p0), .val (.int p1), .val (.int p2), .val (.int p3), .val (.int p4), .val (.int (p0 &&& (3 : Int32))), .val (.ref o6), .val (.long (((Int32.ofNat nN) - (1 : Int32)).toInt64)), .second, .val (.int tt), .val (.int v1244_10), .val (.long (((p3 &&& (2147483647 : Int32)).toInt64) % ((tt.toInt64) + (1 : Int64)))), .second, .val (.int pp), .val (.ref b1250), .unset, .unset, .unset] [])
        refine Got.step (T' := T1279) (g' := (mkF m 291 #[.val (.int p0), .val (.int p1), .val (.int p2), .val (.int p3), .val (.int p4), .val (.int (p0 &&& (3 : Int32))), .val (.ref o6), .val (.long (((Int32.ofNat nN) - (1 : Int32)).toInt64)), .second, .val (.int tt), .val (.int v1244_10), .val (.long (((p3 &&& (2147483647 : Int32)).toInt64) % ((tt.toInt64) + (1 : Int64)))), .second, .val (.int pp), .val (.ref b1250), .unset, .unset, .unset] [(.long ((tt.toInt64) - (((Int32.ofNat nN) - (1 : Int32)).toInt64))), (.long (v1244_10.toInt64))])) (fun tq kt => ?_) ?_
        · show Steps p.tables e below (T1279.setTop (mkF m 282 #[.val (.int p0), .val (.int p1), .val (.int p2), .val (.int p3), .val (.int p4), .val (.int (p0 &&& (3 : Int32))), .val (.ref o6), .val (.long (((Int32.ofNat nN) - (1 : Int32)).toInt64)), .second, .val (.int tt), .val (.int v1244_10), .val (.long (((p3 &&& (2147483647 : Int32)).toInt64) % ((tt.toInt64) + (1 : Int64)))), .second, .val (.int pp), .val (.ref b1250), .unset, .unset, .unset] [])) _
          refine XS.iload X1279.here hx rfl (hb hby at_282) rfl ?_
          show Steps p.tables e below (T1279.setTop (mkF m 284 #[.val (.int p0), .val (.int p1), .val (.int p2), .val (.int p3), .val (.int p4), .val (.int (p0 &&& (3 : Int32))), .val (.ref o6), .val (.long (((Int32.ofNat nN) - (1 : Int32)).toInt64)), .second, .val (.int tt), .val (.int v1244_10), .val (.long (((p3 &&& (2147483647 : Int32)).toInt64) % ((tt.toInt64) + (1 : Int64)))), .second, .val (.int pp), .val (.ref b1250), .unset, .unset, .unset] [(.int v1244_10)])) _
          refine XS.i2l X1279.here hx rfl (hb hby at_284) rfl ?_
          show Steps p.tables e below (T1279.setTop (mkF m 285 #[.val (.int p0), .val (.int p1), .val (.int p2), .val (.int p3), .val (.int p4), .val (.int (p0 &&& (3 : Int32))), .val (.ref o6), .val (.long (((Int32.ofNat nN) - (1 : Int32)).toInt64)), .second, .val (.int tt), .val (.int v1244_10), .val (.long (((p3 &&& (2147483647 : Int32)).toInt64) % ((tt.toInt64) + (1 : Int64)))), .second, .val (.int pp), .val (.ref b1250), .unset, .unset, .unset] [(.long (v1244_10.toInt64))])) _
          refine XS.iload X1279.here hx rfl (hb hby at_285) rfl ?_
          show Steps p.tables e below (T1279.setTop (mkF m 287 #[.val (.int p0), .val (.int p1), .val (.int p2), .val (.int p3), .val (.int p4), .val (.int (p0 &&& (3 : Int32))), .val (.ref o6), .val (.long (((Int32.ofNat nN) - (1 : Int32)).toInt64)), .second, .val (.int tt), .val (.int v1244_10), .val (.long (((p3 &&& (2147483647 : Int32)).toInt64) % ((tt.toInt64) + (1 : Int64)))), .second, .val (.int pp), .val (.ref b1250), .unset, .unset, .unset] [(.int tt), (.long (v1244_10.toInt64))])) _
          refine XS.i2l X1279.here hx rfl (hb hby at_287) rfl ?_
          show Steps p.tables e below (T1279.setTop (mkF m 288 #[.val (.int p0), .val (.int p1), .val (.int p2), .val (.int p3), .val (.int p4), .val (.int (p0 &&& (3 : Int32))), .val (.ref o6), .val (.long (((Int32.ofNat nN) - (1 : Int32)).toInt64)), .second, .val (.int tt), .val (.int v1244_10), .val (.long (((p3 &&& (2147483647 : Int32)).toInt64) % ((tt.toInt64) + (1 : Int64)))), .second, .val (.int pp), .val (.ref b1250), .unset, .unset, .unset] [(.long (tt.toInt64)), (.long (v1244_10.toInt64))])) _
          refine XS.lload X1279.here hx rfl (hb hby at_288) rfl ?_
          show Steps p.tables e below (T1279.setTop (mkF m 290 #[.val (.int p0), .val (.int p1), .val (.int p2), .val (.int p3), .val (.int p4), .val (.int (p0 &&& (3 : Int32))), .val (.ref o6), .val (.long (((Int32.ofNat nN) - (1 : Int32)).toInt64)), .second, .val (.int tt), .val (.int v1244_10), .val (.long (((p3 &&& (2147483647 : Int32)).toInt64) % ((tt.toInt64) + (1 : Int64)))), .second, .val (.int pp), .val (.ref b1250), .unset, .unset, .unset] [(.long (((Int32.ofNat nN) - (1 : Int32)).toInt64)), (.long (tt.toInt64)), (.long (v1244_10.toInt64))])) _
          refine XS.lsub X1279.here hx rfl (hb hby at_290) rfl ?_
          exact kt
        obtain ⟨_, _, ⟨T1285, L1285, k1285, n1285⟩, -, X1285, ⟨Lc1285, hQ1285, l1285, y1285, z1285⟩, st1285⟩ := Jvm.LawKit.callS X1279 hx (y := (⟨"java/lang/Math", "min", "(JJ)J"⟩ : MethodName)) hown (mvT hZ (hw _ (List.mem_of_getElem? (i := 107) rfl))) (mvT hZ (hw _ (List.mem_of_getElem? (i := 108) rfl))) (mvT hZ (hw _ (List.mem_of_getElem? (i := 32) rfl))) (mvT hZ (hw _ (List.mem_of_getElem? (i := 109) rfl))) (by decide) (backOf (W := 0) (rm9 l Z a0 hw [] (v1244_10.toInt64) ((tt.toInt64) - (((Int32.ofNat nN) - (1 : Int32)).toInt64)) h1279 n0 Z1_1280) hZ (hw _ (List.mem_of_getElem? (i := 109) rfl)) (hw _ (List.mem_of_getElem? (i := 32) rfl)) (by decide) (by decide)) (g := (mkF m 291 #[.val (.int p0), .val (.int p1), .val (.int p2), .val (.int p3), .val (.int p4), .val (.int (p0 &&& (3 : Int32))), .val (.ref o6), .val (.long (((Int32.ofNat nN) - (1 : Int32)).toInt64)), .second, .val (.int tt), .val (.int v1244_10), .val (.long (((p3 &&& (2147483647 : Int32)).toInt64) % ((tt.toInt64) + (1 : Int64)))), .second, .val (.int pp), .val (.ref b1250), .unset, .unset, .unset] [(.long ((tt.toInt64) - (((Int32.ofNat nN) - (1 : Int32)).toInt64))), (.long (v1244_10.toInt64))])) rfl (by rw [hml]; rfl) (argsL := [(.long (v1244_10.toInt64)), (.long ((tt.toInt64) - (((Int32.ofNat nN) - (1 : Int32)).toInt64)))]) (rest := []) (lenOf pd_6 rfl) rfl (by show 2 * 0 + _ ≤ _; exact Nat.le_of_eq rfl) (hb hby at_291) (fun _ _ => ⟨rfl, e1279, (by decide : 9 + 0 ≤ _), (by decide : 94 + 0 ≤ _)⟩)
        dsimp only [Pt.U, Pt.locs, Pt.cells, Pt.slots] at X1285 l1285 y1285 z1285 st1285 hQ1285
        subst y1285 z1285
        obtain ⟨rfl, Nq1285, e1285⟩ := hQ1285
        have N1285 : Fr n0 L1285 := by rw [l1285]; exact Fr.app N1279 Nq1285
        refine Got.step st1285 ?_
        show Got p e below s _ _ _ _ T1285 (mkF m 294 #[.val (.int p0), .val (.int p1), .val (.int p2), .val (.int p3), .val (.int p4), .val (.int (p0 &&& (3 : Int32))), .val (.ref o6), .val (.long (((Int32.ofNat nN) - (1 : Int32)).toInt64)), .second, .val (.int tt), .val (.int v1244_10), .val (.long (((p3 &&& (2147483647 : Int32)).toInt64) % ((tt.toInt64) + (1 : Int64)))), .second, .val (.int pp), .val (.ref b1250), .unset, .unset, .unset] [(.long (f9 (v1244_10.toInt64) ((tt.toInt64) - (((Int32.ofNat nN) - (1 : Int32)).toInt64))))])
        refine Got.step (T' := T1285) (g' := (mkF m 306 #[.val (.int p0), .val (.int p1), .val (.int p2), .val (.int p3), .val (.int p4), .val (.int (p0 &&& (3 : Int32))), .val (.ref o6), .val (.long (((Int32.ofNat nN) - (1 : Int32)).toInt64)), .second, .val (.int tt), .val (.int v1244_10), .val (.long (((p3 &&& (2147483647 : Int32)).toInt64) % ((tt.toInt64) + (1 : Int64)))), .second, .val (.int pp), .val (.ref b1250), .val (.long (f9 (v1244_10.toInt64) ((tt.toInt64) - (((Int32.ofNat nN) - (1 : Int32)).toInt64)))), .second, .unset] [(.int (XT.cmpL ((pp.toInt64) + (8 : Int64)) (f9 (v1244_10.toInt64) ((tt.toInt64) - (((Int32.ofNat nN) - (1 : Int32)).toInt64)))))])) (fun tq kt => ?_) ?_
        · show Steps p.tables e below (T1285.setTop (mkF m 294 #[.val (.int p0), .val (.int p1), .val (.int p2), .val (.int p3), .val (.int p4), .val (.int (p0 &&& (3 : Int32))), .val (.ref o6), .val (.long (((Int32.ofNat nN) - (1 : Int32)).toInt64)), .second, .val (.int tt), .val (.int v1244_10), .val (.long (((p3 &&& (2147483647 : Int32)).toInt64) % ((tt.toInt64) + (1 : Int64)))), .second, .val (.int pp), .val (.ref b1250), .unset, .unset, .unset] [(.long (f9 (v1244_10.toInt64) ((tt.toInt64) - (((Int32.ofNat nN) - (1 : Int32)).toInt64))))])) _
          refine XS.lstore X1285.here hx rfl (hb hby at_294) rfl (l' := #[.val (.int p0), .val (.int p1), .val (.int p2), .val (.int p3), .val (.int p4), .val (.int (p0 &&& (3 : Int32))), .val (.ref o6), .val (.long (((Int32.ofNat nN) - (1 : Int32)).toInt64)), .second, .val (.int tt), .val (.int v1244_10), .val (.long (((p3 &&& (2147483647 : Int32)).toInt64) % ((tt.toInt64) + (1 : Int64)))), .second, .val (.int pp), .val (.ref b1250), .val (.long (f9 (v1244_10.toInt64) ((tt.toInt64) - (((Int32.ofNat nN) - (1 : Int32)).toInt64)))), .second, .unset]) rfl ?_
          show Steps p.tables e below (T1285.setTop (mkF m 296 #[.val (.int p0), .val (.int p1), .val (.int p2), .val (.int p3), .val (.int p4), .val (.int (p0 &&& (3 : Int32))), .val (.ref o6), .val (.long (((Int32.ofNat nN) - (1 : Int32)).toInt64)), .second, .val (.int tt), .val (.int v1244_10), .val (.long (((p3 &&& (2147483647 : Int32)).toInt64) % ((tt.toInt64) + (1 : Int64)))), .second, .val (.int pp), .val (.ref b1250), .val (.long (f9 (v1244_10.toInt64) ((tt.toInt64) - (((Int32.ofNat nN) - (1 : Int32)).toInt64)))), .second, .unset] [])) _
          refine XS.iload X1285.here hx rfl (hb hby at_296) rfl ?_
          show Steps p.tables e below (T1285.setTop (mkF m 298 #[.val (.int p0), .val (.int p1), .val (.int p2), .val (.int p3), .val (.int p4), .val (.int (p0 &&& (3 : Int32))), .val (.ref o6), .val (.long (((Int32.ofNat nN) - (1 : Int32)).toInt64)), .second, .val (.int tt), .val (.int v1244_10), .val (.long (((p3 &&& (2147483647 : Int32)).toInt64) % ((tt.toInt64) + (1 : Int64)))), .second, .val (.int pp), .val (.ref b1250), .val (.long (f9 (v1244_10.toInt64) ((tt.toInt64) - (((Int32.ofNat nN) - (1 : Int32)).toInt64)))), .second, .unset] [(.int pp)])) _
          refine XS.i2l X1285.here hx rfl (hb hby at_298) rfl ?_
          show Steps p.tables e below (T1285.setTop (mkF m 299 #[.val (.int p0), .val (.int p1), .val (.int p2), .val (.int p3), .val (.int p4), .val (.int (p0 &&& (3 : Int32))), .val (.ref o6), .val (.long (((Int32.ofNat nN) - (1 : Int32)).toInt64)), .second, .val (.int tt), .val (.int v1244_10), .val (.long (((p3 &&& (2147483647 : Int32)).toInt64) % ((tt.toInt64) + (1 : Int64)))), .second, .val (.int pp), .val (.ref b1250), .val (.long (f9 (v1244_10.toInt64) ((tt.toInt64) - (((Int32.ofNat nN) - (1 : Int32)).toInt64)))), .second, .unset] [(.long (pp.toInt64))])) _
          refine X1285.ldc2J hx hown (mvT hZ (hw _ (List.mem_of_getElem? (i := 110) rfl))) rfl (hb hby at_299) ?_
          show Steps p.tables e below (T1285.setTop (mkF m 302 #[.val (.int p0), .val (.int p1), .val (.int p2), .val (.int p3), .val (.int p4), .val (.int (p0 &&& (3 : Int32))), .val (.ref o6), .val (.long (((Int32.ofNat nN) - (1 : Int32)).toInt64)), .second, .val (.int tt), .val (.int v1244_10), .val (.long (((p3 &&& (2147483647 : Int32)).toInt64) % ((tt.toInt64) + (1 : Int64)))), .second, .val (.int pp), .val (.ref b1250), .val (.long (f9 (v1244_10.toInt64) ((tt.toInt64) - (((Int32.ofNat nN) - (1 : Int32)).toInt64)))), .second, .unset] [(.long (8 : Int64)), (.long (pp.toInt64))])) _
          refine XS.ladd X1285.here hx rfl (hb hby at_302) rfl ?_
          show Steps p.tables e below (T1285.setTop (mkF m 303 #[.val (.int p0), .val (.int p1), .val (.int p2), .val (.int p3), .val (.int p4), .val (.int (p0 &&& (3 : Int32))), .val (.ref o6), .val (.long (((Int32.ofNat nN) - (1 : Int32)).toInt64)), .second, .val (.int tt), .val (.int v1244_10), .val (.long (((p3 &&& (2147483647 : Int32)).toInt64) % ((tt.toInt64) + (1 : Int64)))), .second, .val (.int pp), .val (.ref b1250), .val (.long (f9 (v1244_10.toInt64) ((tt.toInt64) - (((Int32.ofNat nN) - (1 : Int32)).toInt64)))), .second, .unset] [(.long ((pp.toInt64) + (8 : Int64)))])) _
          refine XS.lload X1285.here hx rfl (hb hby at_303) rfl ?_
          show Steps p.tables e below (T1285.setTop (mkF m 305 #[.val (.int p0), .val (.int p1), .val (.int p2), .val (.int p3), .val (.int p4), .val (.int (p0 &&& (3 : Int32))), .val (.ref o6), .val (.long (((Int32.ofNat nN) - (1 : Int32)).toInt64)), .second, .val (.int tt), .val (.int v1244_10), .val (.long (((p3 &&& (2147483647 : Int32)).toInt64) % ((tt.toInt64) + (1 : Int64)))), .second, .val (.int pp), .val (.ref b1250), .val (.long (f9 (v1244_10.toInt64) ((tt.toInt64) - (((Int32.ofNat nN) - (1 : Int32)).toInt64)))), .second, .unset] [(.long (f9 (v1244_10.toInt64) ((tt.toInt64) - (((Int32.ofNat nN) - (1 : Int32)).toInt64)))), (.long ((pp.toInt64) + (8 : Int64)))])) _
          refine XT.lcmp X1285.here hx rfl (hb hby at_305) rfl ?_
          exact kt
        have J1286 : ∀ (k1286_0 : Int32), k1286_0 = (if (f9 (v1244_10.toInt64) ((tt.toInt64) - (((Int32.ofNat nN) - (1 : Int32)).toInt64))) < ((pp.toInt64) + (8 : Int64)) then (0 : Int32) else (1 : Int32)) → Got p e below s (fun _ L => Fr n0 L) room_1.cells room_1.slots (some (.int (1 : Int32))) T1285 (mkF m 314 #[.val (.int p0), .val (.int p1), .val (.int p2), .val (.int p3), .val (.int p4), .val (.int (p0 &&& (3 : Int32))), .val (.ref o6), .val (.long (((Int32.ofNat nN) - (1 : Int32)).toInt64)), .second, .val (.int tt), .val (.int v1244_10), .val (.long (((p3 &&& (2147483647 : Int32)).toInt64) % ((tt.toInt64) + (1 : Int64)))), .second, .val (.int pp), .val (.ref b1250), .val (.long (f9 (v1244_10.toInt64) ((tt.toInt64) - (((Int32.ofNat nN) - (1 : Int32)).toInt64)))), .second, .unset] [(.int k1286_0)]) := by
          intro k1286_0 hk1286_0
          refine Got.step (T' := T1285) (g' := (mkF m 320 #[.val (.int p0), .val (.int p1), .val (.int p2), .val (.int p3), .val (.int p4), .val (.int (p0 &&& (3 : Int32))), .val (.ref o6), .val (.long (((Int32.ofNat nN) - (1 : Int32)).toInt64)), .second, .val (.int tt), .val (.int v1244_10), .val (.long (((p3 &&& (2147483647 : Int32)).toInt64) % ((tt.toInt64) + (1 : Int64)))), .second, .val (.int pp), .val (.ref b1250), .val (.long (f9 (v1244_10.toInt64) ((tt.toInt64) - (((Int32.ofNat nN) - (1 : Int32)).toInt64)))), .second, .val (.int k1286_0)] [(.int pp), (.ref b1250)])) (fun tq kt => ?_) ?_
          · show Steps p.tables e below (T1285.setTop (mkF m 314 #[.val (.int p0), .val (.int p1), .val (.int p2), .val (.int p3), .val (.int p4), .val (.int (p0 &&& (3 : Int32))), .val (.ref o6), .val (.long (((Int32.ofNat nN) - (1 : Int32)).toInt64)), .second, .val (.int tt), .val (.int v1244_10), .val (.long (((p3 &&& (2147483647 : Int32)).toInt64) % ((tt.toInt64) + (1 : Int64)))), .second, .val (.int pp), .val (.ref b1250), .val (.long (f9 (v1244_10.toInt64) ((tt.toInt64) - (((Int32.ofNat nN) - (1 : Int32)).toInt64)))), .second, .unset] [(.int k1286_0)])) _
            refine XS.istore X1285.here hx rfl (hb hby at_314) rfl (l' := #[.val (.int p0), .val (.int p1), .val (.int p2), .val (.int p3), .val (.int p4), .val (.int (p0 &&& (3 : Int32))), .val (.ref o6), .val (.long (((Int32.ofNat nN) - (1 : Int32)).toInt64)), .second, .val (.int tt), .val (.int v1244_10), .val (.long (((p3 &&& (2147483647 : Int32)).toInt64) % ((tt.toInt64) + (1 : Int64)))), .second, .val (.int pp), .val (.ref b1250), .val (.long (f9 (v1244_10.toInt64) ((tt.toInt64) - (((Int32.ofNat nN) - (1 : Int32)).toInt64)))), .second, .val (.int k1286_0)]) rfl ?_
            show Steps p.tables e below (T1285.setTop (mkF m 316 #[.val (.int p0), .val (.int p1), .val (.int p2), .val (.int p3), .val (.int p4), .val (.int (p0 &&& (3 : Int32))), .val (.ref o6), .val (.long (((Int32.ofNat nN) - (1 : Int32)).toInt64)), .second, .val (.int tt), .val (.int v1244_10), .val (.long (((p3 &&& (2147483647 : Int32)).toInt64) % ((tt.toInt64) + (1 : Int64)))), .second, .val (.int pp), .val (.ref b1250), .val (.long (f9 (v1244_10.toInt64) ((tt.toInt64) - (((Int32.ofNat nN) - (1 : Int32)).toInt64)))), .second, .val (.int k1286_0)] [])) _
            refine XS.aload X1285.here hx rfl (hb hby at_316) rfl rfl ?_
            show Steps p.tables e below (T1285.setTop (mkF m 318 #[.val (.int p0), .val (.int p1), .val (.int p2), .val (.int p3), .val (.int p4), .val (.int (p0 &&& (3 : Int32))), .val (.ref o6), .val (.long (((Int32.ofNat nN) - (1 : Int32)).toInt64)), .second, .val (.int tt), .val (.int v1244_10), .val (.long (((p3 &&& (2147483647 : Int32)).toInt64) % ((tt.toInt64) + (1 : Int64)))), .second, .val (.int pp), .val (.ref b1250), .val (.long (f9 (v1244_10.toInt64) ((tt.toInt64) - (((Int32.ofNat nN) - (1 : Int32)).toInt64)))), .second, .val (.int k1286_0)] [(.ref b1250)])) _
            refine XS.iload X1285.here hx rfl (hb hby at_318) rfl ?_
            exact kt
          obtain ⟨cq1288, kq1288, qa1288, qb1288, qc1288⟩ := isOf hZ e1285 A1250_1282
          obtain ⟨_, _, ⟨T1288, L1288, k1288, n1288⟩, -, X1288, ⟨Lc1288, hQ1288, l1288, y1288, z1288⟩, st1288⟩ := X1285.virtualBack hx (y := (⟨"com/example/sidestep/sidestep/Starts", "talliesFrom", "(I)Z"⟩ : MethodName)) (z := (⟨"com/example/sidestep/sidestep/Starts", "talliesFrom", "(I)Z"⟩ : MethodName)) hown (mvT hZ (hw _ (List.mem_of_getElem? (i := 111) rfl))) (mvT hZ (hw _ (List.mem_of_getElem? (i := 112) rfl))) (notFace_of_selects (args := #[]) (mvT hZ (hw _ (List.mem_of_getElem? (i := 114) rfl)))) (mvT hZ (hw _ (List.mem_of_getElem? (i := 114) rfl))) (mvT hZ (hw _ (List.mem_of_getElem? (i := 113) rfl))) (by decide) (backOf (W := 0) (rm10 l Z a0 hw [] b1250 pp (f3 v1244_10 (tt - ((Int32.ofNat nN) - (1 : Int32)))) h1279 n0 Z1_1280 A1250_1282 G1279_wholeEnd ) hZ (hw _ (List.mem_of_getElem? (i := 115) rfl)) (hw _ (List.mem_of_getElem? (i := 4) rfl)) (by decide) (by decide)) qa1288 qc1288 (g := (mkF m 320 #[.val (.int p0), .val (.int p1), .val (.int p2), .val (.int p3), .val (.int p4), .val (.int (p0 &&& (3 : Int32))), .val (.ref o6), .val (.long (((Int32.ofNat nN) - (1 : Int32)).toInt64)), .second, .val (.int tt), .val (.int v1244_10), .val (.long (((p3 &&& (2147483647 : Int32)).toInt64) % ((tt.toInt64) + (1 : Int64)))), .second, .val (.int pp), .val (.ref b1250), .val (.long (f9 (v1244_10.toInt64) ((tt.toInt64) - (((Int32.ofNat nN) - (1 : Int32)).toInt64)))), .second, .val (.int k1286_0)] [(.int pp), (.ref b1250)])) rfl (by rw [hml]; rfl) (Steps.refl _) (argsL := [(.int pp)]) (rest := []) (lenOf pd_7 rfl) rfl (by show 2 * 0 + _ ≤ _; exact Nat.le_of_eq rfl) (hb hby at_320) (fun _ _ => ⟨rfl, e1285, (by decide : 9 + 0 ≤ _), (by decide : 94 + 0 ≤ _)⟩)
          dsimp only [Pt.U, Pt.locs, Pt.cells, Pt.slots] at X1288 l1288 y1288 z1288 st1288 hQ1288
          subst y1288 z1288
          obtain ⟨rfl, Nq1288, e1288⟩ := hQ1288
          have N1288 : Fr n0 L1288 := by rw [l1288]; exact Fr.app N1285 Nq1288
          refine Got.hop st1288 ?_
          show Got p e below s _ _ _ _ T1288 (mkF m 323 #[.val (.int p0), .val (.int p1), .val (.int p2), .val (.int p3), .val (.int p4), .val (.int (p0 &&& (3 : Int32))), .val (.ref o6), .val (.long (((Int32.ofNat nN) - (1 : Int32)).toInt64)), .second, .val (.int tt), .val (.int v1244_10), .val (.long (((p3 &&& (2147483647 : Int32)).toInt64) % ((tt.toInt64) + (1 : Int64)))), .second, .val (.int pp), .val (.ref b1250), .val (.long (f9 (v1244_10.toInt64) ((tt.toInt64) - (((Int32.ofNat nN) - (1 : Int32)).toInt64)))), .second, .val (.int k1286_0)] [(.int (f10 pp (f3 v1244_10 (tt - ((Int32.ofNat nN) - (1 : Int32))))))])
          refine Got.step (T' := T1288) (g' := (mkF m 333 #[.val (.int p0), .val (.int p1), .val (.int p2), .val (.int p3), .val (.int p4), .val (.int (p0 &&& (3 : Int32))), .val (.ref o6), .val (.long (((Int32.ofNat nN) - (1 : Int32)).toInt64)), .second, .val (.int tt), .val (.int v1244_10), .val (.long (((p3 &&& (2147483647 : Int32)).toInt64) % ((tt.toInt64) + (1 : Int64)))), .second, .val (.int pp), .val (.ref b1250), .val (.long (f9 (v1244_10.toInt64) ((tt.toInt64) - (((Int32.ofNat nN) - (1 : Int32)).toInt64)))), .second, .val (.int k1286_0)] [(.int (1 : Int32))])) (fun tq kt => ?_) ?_
          · show Steps p.tables e below (T1288.setTop (mkF m 323 #[.val (.int p0), .val (.int p1), .val (.int p2), .val (.int p3), .val (.int p4), .val (.int (p0 &&& (3 : Int32))), .val (.ref o6), .val (.long (((Int32.ofNat nN) - (1 : Int32)).toInt64)), .second, .val (.int tt), .val (.int v1244_10), .val (.long (((p3 &&& (2147483647 : Int32)).toInt64) % ((tt.toInt64) + (1 : Int64)))), .second, .val (.int pp), .val (.ref b1250), .val (.long (f9 (v1244_10.toInt64) ((tt.toInt64) - (((Int32.ofNat nN) - (1 : Int32)).toInt64)))), .second, .val (.int k1286_0)] [(.int (f10 pp (f3 v1244_10 (tt - ((Int32.ofNat nN) - (1 : Int32))))))])) _
            refine XS.iload X1288.here hx rfl (hb hby at_323) rfl ?_
            show Steps p.tables e below (T1288.setTop (mkF m 325 #[.val (.int p0), .val (.int p1), .val (.int p2), .val (.int p3), .val (.int p4), .val (.int (p0 &&& (3 : Int32))), .val (.ref o6), .val (.long (((Int32.ofNat nN) - (1 : Int32)).toInt64)), .second, .val (.int tt), .val (.int v1244_10), .val (.long (((p3 &&& (2147483647 : Int32)).toInt64) % ((tt.toInt64) + (1 : Int64)))), .second, .val (.int pp), .val (.ref b1250), .val (.long (f9 (v1244_10.toInt64) ((tt.toInt64) - (((Int32.ofNat nN) - (1 : Int32)).toInt64)))), .second, .val (.int k1286_0)] [(.int k1286_0), (.int (f10 pp (f3 v1244_10 (tt - ((Int32.ofNat nN) - (1 : Int32))))))])) _
            refine XS.icmpNo X1288.here hx rfl (hb hby at_325) rfl (XT.ii_ne_f (own_fa hN htt hv1244_10 hk1286_0 hpp)) ?_
            show Steps p.tables e below (T1288.setTop (mkF m 328 #[.val (.int p0), .val (.int p1), .val (.int p2), .val (.int p3), .val (.int p4), .val (.int (p0 &&& (3 : Int32))), .val (.ref o6), .val (.long (((Int32.ofNat nN) - (1 : Int32)).toInt64)), .second, .val (.int tt), .val (.int v1244_10), .val (.long (((p3 &&& (2147483647 : Int32)).toInt64) % ((tt.toInt64) + (1 : Int64)))), .second, .val (.int pp), .val (.ref b1250), .val (.long (f9 (v1244_10.toInt64) ((tt.toInt64) - (((Int32.ofNat nN) - (1 : Int32)).toInt64)))), .second, .val (.int k1286_0)] [])) _
            refine XS.iconst X1288.here hx rfl (hb hby at_328) ?_
            show Steps p.tables e below (T1288.setTop (mkF m 329 #[.val (.int p0), .val (.int p1), .val (.int p2), .val (.int p3), .val (.int p4), .val (.int (p0 &&& (3 : Int32))), .val (.ref o6), .val (.long (((Int32.ofNat nN) - (1 : Int32)).toInt64)), .second, .val (.int tt), .val (.int v1244_10), .val (.long (((p3 &&& (2147483647 : Int32)).toInt64) % ((tt.toInt64) + (1 : Int64)))), .second, .val (.int pp), .val (.ref b1250), .val (.long (f9 (v1244_10.toInt64) ((tt.toInt64) - (((Int32.ofNat nN) - (1 : Int32)).toInt64)))), .second, .val (.int k1286_0)] [(.int (1 : Int32))])) _
            refine XS.goto X1288.here hx rfl (pc0 := 329) (pc' := 333) rfl (hb hby at_329) (by decide) (by decide) ?_
            exact kt
          exact Got.retN (y := (1 : Int32)) (t := .boolean) X1288 hx Bd.returns (by simp) hlk (hb hby at_333) (by decide) N1288 (by decide) (by decide)
        by_cases hc1287 : ((f9 (v1244_10.toInt64) ((tt.toInt64) - (((Int32.ofNat nN) - (1 : Int32)).toInt64))) < ((pp.toInt64) + (8 : Int64)))
        · refine Got.step (T' := T1285) (g' := (mkF m 314 #[.val (.int p0), .val (.int p1), .val (.int p2), .val (.int p3), .val (.int p4), .val (.int (p0 &&& (3 : Int32))), .val (.ref o6), .val (.long (((Int32.ofNat nN) - (1 : Int32)).toInt64)), .second, .val (.int tt), .val (.int v1244_10), .val (.long (((p3 &&& (2147483647 : Int32)).toInt64) % ((tt.toInt64) + (1 : Int64)))), .second, .val (.int pp), .val (.ref b1250), .val (.long (f9 (v1244_10.toInt64) ((tt.toInt64) - (((Int32.ofNat nN) - (1 : Int32)).toInt64)))), .second, .unset] [(.int (0 : Int32))])) (fun tq kt => ?_) ?_
          · show Steps p.tables e below (T1285.setTop (mkF m 306 #[.val (.int p0), .val (.int p1), .val (.int p2), .val (.int p3), .val (.int p4), .val (.int (p0 &&& (3 : Int32))), .val (.ref o6), .val (.long (((Int32.ofNat nN) - (1 : Int32)).toInt64)), .second, .val (.int tt), .val (.int v1244_10), .val (.long (((p3 &&& (2147483647 : Int32)).toInt64) % ((tt.toInt64) + (1 : Int64)))), .second, .val (.int pp), .val (.ref b1250), .val (.long (f9 (v1244_10.toInt64) ((tt.toInt64) - (((Int32.ofNat nN) - (1 : Int32)).toInt64)))), .second, .unset] [(.int (XT.cmpL ((pp.toInt64) + (8 : Int64)) (f9 (v1244_10.toInt64) ((tt.toInt64) - (((Int32.ofNat nN) - (1 : Int32)).toInt64)))))])) _
            refine XS.ifYes X1285.here hx rfl (pc0 := 306) (pc' := 313) rfl (hb hby at_306) rfl (XT.ll_gt_t hc1287) (by decide) (by decide) ?_
            show Steps p.tables e below (T1285.setTop (mkF m 313 #[.val (.int p0), .val (.int p1), .val (.int p2), .val (.int p3), .val (.int p4), .val (.int (p0 &&& (3 : Int32))), .val (.ref o6), .val (.long (((Int32.ofNat nN) - (1 : Int32)).toInt64)), .second, .val (.int tt), .val (.int v1244_10), .val (.long (((p3 &&& (2147483647 : Int32)).toInt64) % ((tt.toInt64) + (1 : Int64)))), .second, .val (.int pp), .val (.ref b1250), .val (.long (f9 (v1244_10.toInt64) ((tt.toInt64) - (((Int32.ofNat nN) - (1 : Int32)).toInt64)))), .second, .unset] [])) _
            refine XS.iconst X1285.here hx rfl (hb hby at_313) ?_
            exact kt
          exact J1286 (0 : Int32) (if_pos hc1287).symm
        · refine Got.step (T' := T1285) (g' := (mkF m 314 #[.val (.int p0), .val (.int p1), .val (.int p2), .val (.int p3), .val (.int p4), .val (.int (p0 &&& (3 : Int32))), .val (.ref o6), .val (.long (((Int32.ofNat nN) - (1 : Int32)).toInt64)), .second, .val (.int tt), .val (.int v1244_10), .val (.long (((p3 &&& (2147483647 : Int32)).toInt64) % ((tt.toInt64) + (1 : Int64)))), .second, .val (.int pp), .val (.ref b1250), .val (.long (f9 (v1244_10.toInt64) ((tt.toInt64) - (((Int32.ofNat nN) - (1 : Int32)).toInt64)))), .second, .unset] [(.int (1 : Int32))])) (fun tq kt => ?_) ?_
          · show Steps p.tables e below (T1285.setTop (mkF m 306 #[.val (.int p0), .val (.int p1), .val (.int p2), .val (.int p3), .val (.int p4), .val (.int (p0 &&& (3 : Int32))), .val (.ref o6), .val (.long (((Int32.ofNat nN) - (1 : Int32)).toInt64)), .second, .val (.int tt), .val (.int v1244_10), .val (.long (((p3 &&& (2147483647 : Int32)).toInt64) % ((tt.toInt64) + (1 : Int64)))), .second, .val (.int pp), .val (.ref b1250), .val (.long (f9 (v1244_10.toInt64) ((tt.toInt64) - (((Int32.ofNat nN) - (1 : Int32)).toInt64)))), .second, .unset] [(.int (XT.cmpL ((pp.toInt64) + (8 : Int64)) (f9 (v1244_10.toInt64) ((tt.toInt64) - (((Int32.ofNat nN) - (1 : Int32)).toInt64)))))])) _
            refine XS.ifNo X1285.here hx rfl (hb hby at_306) rfl (XT.ll_gt_f hc1287) ?_
            show Steps p.tables e below (T1285.setTop (mkF m 309 #[.val (.int p0), .val (.int p1), .val (.int p2), .val (.int p3), .val (.int p4), .val (.int (p0 &&& (3 : Int32))), .val (.ref o6), .val (.long (((Int32.ofNat nN) - (1 : Int32)).toInt64)), .second, .val (.int tt), .val (.int v1244_10), .val (.long (((p3 &&& (2147483647 : Int32)).toInt64) % ((tt.toInt64) + (1 : Int64)))), .second, .val (.int pp), .val (.ref b1250), .val (.long (f9 (v1244_10.toInt64) ((tt.toInt64) - (((Int32.ofNat nN) - (1 : Int32)).toInt64)))), .second, .unset] [])) _
            refine XS.iconst X1285.here hx rfl (hb hby at_309) ?_
            show Steps p.tables e below (T1285.setTop (mkF m 310 #[.val (.int p0), .val (.int p1), .val (.int p2), .val (.int p3), .val (.int p4), .val (.int (p0 &&& (3 : Int32))), .val (.ref o6), .val (.long (((Int32.ofNat nN) - (1 : Int32)).toInt64)), .second, .val (.int tt), .val (.int v1244_10), .val (.long (((p3 &&& (2147483647 : Int32)).toInt64) % ((tt.toInt64) + (1 : Int64)))), .second, .val (.int pp), .val (.ref b1250), .val (.long (f9 (v1244_10.toInt64) ((tt.toInt64) - (((Int32.ofNat nN) - (1 : Int32)).toInt64)))), .second, .unset] [(.int (1 : Int32))])) _
            refine XS.goto X1285.here hx rfl (pc0 := 310) (pc' := 314) rfl (hb hby at_310) (by decide) (by decide) ?_
            exact kt
          exact J1286 (1 : Int32) (if_neg hc1287).symm
      · refine Got.step (T' := T1244) (g' := (mkF m 207 #[.val (.int p0), .val (.int p1), .val (.int p2), .val (.int p3), .val (.int p4), .val (.int (p0 &&& (3 : Int32))), .val (.ref o6), .val (.long (((Int32.ofNat nN) - (1 : Int32)).toInt64)), .second, .val (.int tt), .val (.int v1244_10), .unset, .unset, .unset, .unset, .unset, .unset, .unset] [(.int (((p4.toUInt32 >>> ((1 : Int32) &&& 31).toUInt32).toInt32) &&& (1 : Int32)))])) (fun tq kt => ?_) ?_
        · show Steps p.tables e below (T1244.setTop (mkF m 182 #[.val (.int p0), .val (.int p1), .val (.int p2), .val (.int p3), .val (.int p4), .val (.int (p0 &&& (3 : Int32))), .val (.ref o6), .val (.long (((Int32.ofNat nN) - (1 : Int32)).toInt64)), .second, .val (.int tt), .val (.int v1244_10), .unset, .unset, .unset, .unset, .unset, .unset, .unset] [(.int (p4 &&& (1 : Int32)))])) _
          refine XS.ifYes X1244.here hx rfl (pc0 := 182) (pc' := 201) rfl (hb hby at_182) rfl (XT.i0_ne_t hc1249) (by decide) (by decide) ?_
          show Steps p.tables e below (T1244.setTop (mkF m 201 #[.val (.int p0), .val (.int p1), .val (.int p2), .val (.int p3), .val (.int p4), .val (.int (p0 &&& (3 : Int32))), .val (.ref o6), .val (.long (((Int32.ofNat nN) - (1 : Int32)).toInt64)), .second, .val (.int tt), .val (.int v1244_10), .unset, .unset, .unset, .unset, .unset, .unset, .unset] [])) _
          refine XS.iload X1244.here hx rfl (hb hby at_201) rfl ?_
          show Steps p.tables e below (T1244.setTop (mkF m 203 #[.val (.int p0), .val (.int p1), .val (.int p2), .val (.int p3), .val (.int p4), .val (.int (p0 &&& (3 : Int32))), .val (.ref o6), .val (.long (((Int32.ofNat nN) - (1 : Int32)).toInt64)), .second, .val (.int tt), .val (.int v1244_10), .unset, .unset, .unset, .unset, .unset, .unset, .unset] [(.int p4)])) _
          refine XS.iconst X1244.here hx rfl (hb hby at_203) ?_
          show Steps p.tables e below (T1244.setTop (mkF m 204 #[.val (.int p0), .val (.int p1), .val (.int p2), .val (.int p3), .val (.int p4), .val (.int (p0 &&& (3 : Int32))), .val (.ref o6), .val (.long (((Int32.ofNat nN) - (1 : Int32)).toInt64)), .second, .val (.int tt), .val (.int v1244_10), .unset, .unset, .unset, .unset, .unset, .unset, .unset] [(.int (1 : Int32)), (.int p4)])) _
          refine XS.iushr X1244.here hx rfl (hb hby at_204) rfl ?_
          show Steps p.tables e below (T1244.setTop (mkF m 205 #[.val (.int p0), .val (.int p1), .val (.int p2), .val (.int p3), .val (.int p4), .val (.int (p0 &&& (3 : Int32))), .val (.ref o6), .val (.long (((Int32.ofNat nN) - (1 : Int32)).toInt64)), .second, .val (.int tt), .val (.int v1244_10), .unset, .unset, .unset, .unset, .unset, .unset, .unset] [(.int ((p4.toUInt32 >>> ((1 : Int32) &&& 31).toUInt32).toInt32))])) _
          refine XS.iconst X1244.here hx rfl (hb hby at_205) ?_
          show Steps p.tables e below (T1244.setTop (mkF m 206 #[.val (.int p0), .val (.int p1), .val (.int p2), .val (.int p3), .val (.int p4), .val (.int (p0 &&& (3 : Int32))), .val (.ref o6), .val (.long (((Int32.ofNat nN) - (1 : Int32)).toInt64)), .second, .val (.int tt), .val (.int v1244_10), .unset, .unset, .unset, .unset, .unset, .unset, .unset] [(.int (1 : Int32)), (.int ((p4.toUInt32 >>> ((1 : Int32) &&& 31).toUInt32).toInt32))])) _
          refine XS.iand X1244.here hx rfl (hb hby at_206) rfl ?_
          exact kt
        have J1289 : ∀ (v1289_13 : Int64), v1289_13 = (if (((p4.toUInt32 >>> ((1 : Int32) &&& 31).toUInt32).toInt32) &&& (1 : Int32)) = 0 then ((tt.toInt64) - (((Int32.ofNat nN) - (1 : Int32)).toInt64)) else (v1244_10.toInt64)) → Got p e below s (fun _ L => Fr n0 L) room_1.cells room_1.slots (some (.int (1 : Int32))) T1244 (mkF m 226 #[.val (.int p0), .val (.int p1), .val (.int p2), .val (.int p3), .val (.int p4), .val (.int (p0 &&& (3 : Int32))), .val (.ref o6), .val (.long (((Int32.ofNat nN) - (1 : Int32)).toInt64)), .second, .val (.int tt), .val (.int v1244_10), .unset, .unset, .val (.long v1289_13), .second, .unset, .unset, .unset] []) := by
          intro v1289_13 hv1289_13
          refine Got.step (T' := T1244) (g' := (mkF m 246 #[.val (.int p0), .val (.int p1), .val (.int p2), .val (.int p3), .val (.int p4), .val (.int (p0 &&& (3 : Int32))), .val (.ref o6), .val (.long (((Int32.ofNat nN) - (1 : Int32)).toInt64)), .second, .val (.int tt), .val (.int v1244_10), .val (.long ((v1289_13 - (20 : Int64)) + ((p3 &&& (31 : Int32)).toInt64))), .second, .val (.long v1289_13), .second, .unset, .unset, .unset] [(.long ((v1289_13 - (20 : Int64)) + ((p3 &&& (31 : Int32)).toInt64))), (.long (tt.toInt64)), (.long (0 : Int64))])) (fun tq kt => ?_) ?_
          · show Steps p.tables e below (T1244.setTop (mkF m 226 #[.val (.int p0), .val (.int p1), .val (.int p2), .val (.int p3), .val (.int p4), .val (.int (p0 &&& (3 : Int32))), .val (.ref o6), .val (.long (((Int32.ofNat nN) - (1 : Int32)).toInt64)), .second, .val (.int tt), .val (.int v1244_10), .unset, .unset, .val (.long v1289_13), .second, .unset, .unset, .unset] [])) _
            refine XS.lload X1244.here hx rfl (hb hby at_226) rfl ?_
            show Steps p.tables e below (T1244.setTop (mkF m 228 #[.val (.int p0), .val (.int p1), .val (.int p2), .val (.int p3), .val (.int p4), .val (.int (p0 &&& (3 : Int32))), .val (.ref o6), .val (.long (((Int32.ofNat nN) - (1 : Int32)).toInt64)), .second, .val (.int tt), .val (.int v1244_10), .unset, .unset, .val (.long v1289_13), .second, .unset, .unset, .unset] [(.long v1289_13)])) _
            refine X1244.ldc2J hx hown (mvT hZ (hw _ (List.mem_of_getElem? (i := 117) rfl))) rfl (hb hby at_228) ?_
            show Steps p.tables e below (T1244.setTop (mkF m 231 #[.val (.int p0), .val (.int p1), .val (.int p2), .val (.int p3), .val (.int p4), .val (.int (p0 &&& (3 : Int32))), .val (.ref o6), .val (.long (((Int32.ofNat nN) - (1 : Int32)).toInt64)), .second, .val (.int tt), .val (.int v1244_10), .unset, .unset, .val (.long v1289_13), .second, .unset, .unset, .unset] [(.long (20 : Int64)), (.long v1289_13)])) _
            refine XS.lsub X1244.here hx rfl (hb hby at_231) rfl ?_
            show Steps p.tables e below (T1244.setTop (mkF m 232 #[.val (.int p0), .val (.int p1), .val (.int p2), .val (.int p3), .val (.int p4), .val (.int (p0 &&& (3 : Int32))), .val (.ref o6), .val (.long (((Int32.ofNat nN) - (1 : Int32)).toInt64)), .second, .val (.int tt), .val (.int v1244_10), .unset, .unset, .val (.long v1289_13), .second, .unset, .unset, .unset] [(.long (v1289_13 - (20 : Int64)))])) _
            refine XS.iloadN X1244.here hx rfl (hb hby at_232) rfl ?_
            show Steps p.tables e below (T1244.setTop (mkF m 233 #[.val (.int p0), .val (.int p1), .val (.int p2), .val (.int p3), .val (.int p4), .val (.int (p0 &&& (3 : Int32))), .val (.ref o6), .val (.long (((Int32.ofNat nN) - (1 : Int32)).toInt64)), .second, .val (.int tt), .val (.int v1244_10), .unset, .unset, .val (.long v1289_13), .second, .unset, .unset, .unset] [(.int p3), (.long (v1289_13 - (20 : Int64)))])) _
            refine XS.bipush X1244.here hx rfl (hb hby at_233) ?_
            show Steps p.tables e below (T1244.setTop (mkF m 235 #[.val (.int p0), .val (.int p1), .val (.int p2), .val (.int p3), .val (.int p4), .val (.int (p0 &&& (3 : Int32))), .val (.ref o6), .val (.long (((Int32.ofNat nN) - (1 : Int32)).toInt64)), .second, .val (.int tt), .val (.int v1244_10), .unset, .unset, .val (.long v1289_13), .second, .unset, .unset, .unset] [(.int (31 : Int32)), (.int p3), (.long (v1289_13 - (20 : Int64)))])) _
            refine XS.iand X1244.here hx rfl (hb hby at_235) rfl ?_
            show Steps p.tables e below (T1244.setTop (mkF m 236 #[.val (.int p0), .val (.int p1), .val (.int p2), .val (.int p3), .val (.int p4), .val (.int (p0 &&& (3 : Int32))), .val (.ref o6), .val (.long (((Int32.ofNat nN) - (1 : Int32)).toInt64)), .second, .val (.int tt), .val (.int v1244_10), .unset, .unset, .val (.long v1289_13), .second, .unset, .unset, .unset] [(.int (p3 &&& (31 : Int32))), (.long (v1289_13 - (20 : Int64)))])) _
            refine XS.i2l X1244.here hx rfl (hb hby at_236) rfl ?_
            show Steps p.tables e below (T1244.setTop (mkF m 237 #[.val (.int p0), .val (.int p1), .val (.int p2), .val (.int p3), .val (.int p4), .val (.int (p0 &&& (3 : Int32))), .val (.ref o6), .val (.long (((Int32.ofNat nN) - (1 : Int32)).toInt64)), .second, .val (.int tt), .val (.int v1244_10), .unset, .unset, .val (.long v1289_13), .second, .unset, .unset, .unset] [(.long ((p3 &&& (31 : Int32)).toInt64)), (.long (v1289_13 - (20 : Int64)))])) _
            refine XS.ladd X1244.here hx rfl (hb hby at_237) rfl ?_
            show Steps p.tables e below (T1244.setTop (mkF m 238 #[.val (.int p0), .val (.int p1), .val (.int p2), .val (.int p3), .val (.int p4), .val (.int (p0 &&& (3 : Int32))), .val (.ref o6), .val (.long (((Int32.ofNat nN) - (1 : Int32)).toInt64)), .second, .val (.int tt), .val (.int v1244_10), .unset, .unset, .val (.long v1289_13), .second, .unset, .unset, .unset] [(.long ((v1289_13 - (20 : Int64)) + ((p3 &&& (31 : Int32)).toInt64)))])) _
            refine XS.lstore X1244.here hx rfl (hb hby at_238) rfl (l' := #[.val (.int p0), .val (.int p1), .val (.int p2), .val (.int p3), .val (.int p4), .val (.int (p0 &&& (3 : Int32))), .val (.ref o6), .val (.long (((Int32.ofNat nN) - (1 : Int32)).toInt64)), .second, .val (.int tt), .val (.int v1244_10), .val (.long ((v1289_13 - (20 : Int64)) + ((p3 &&& (31 : Int32)).toInt64))), .second, .val (.long v1289_13), .second, .unset, .unset, .unset]) rfl ?_
            show Steps p.tables e below (T1244.setTop (mkF m 240 #[.val (.int p0), .val (.int p1), .val (.int p2), .val (.int p3), .val (.int p4), .val (.int (p0 &&& (3 : Int32))), .val (.ref o6), .val (.long (((Int32.ofNat nN) - (1 : Int32)).toInt64)), .second, .val (.int tt), .val (.int v1244_10), .val (.long ((v1289_13 - (20 : Int64)) + ((p3 &&& (31 : Int32)).toInt64))), .second, .val (.long v1289_13), .second, .unset, .unset, .unset] [])) _
            refine XS.lconst X1244.here hx rfl (hb hby at_240) ?_
            show Steps p.tables e below (T1244.setTop (mkF m 241 #[.val (.int p0), .val (.int p1), .val (.int p2), .val (.int p3), .val (.int p4), .val (.int (p0 &&& (3 : Int32))), .val (.ref o6), .val (.long (((Int32.ofNat nN) - (1 : Int32)).toInt64)), .second, .val (.int tt), .val (.int v1244_10), .val (.long ((v1289_13 - (20 : Int64)) + ((p3 &&& (31 : Int32)).toInt64))), .second, .val (.long v1289_13), .second, .unset, .unset, .unset] [(.long (0 : Int64))])) _
            refine XS.iload X1244.here hx rfl (hb hby at_241) rfl ?_
            show Steps p.tables e below (T1244.setTop (mkF m 243 #[.val (.int p0), .val (.int p1), .val (.int p2), .val (.int p3), .val (.int p4), .val (.int (p0 &&& (3 : Int32))), .val (.ref o6), .val (.long (((Int32.ofNat nN) - (1 : Int32)).toInt64)), .second, .val (.int tt), .val (.int v1244_10), .val (.long ((v1289_13 - (20 : Int64)) + ((p3 &&& (31 : Int32)).toInt64))), .second, .val (.long v1289_13), .second, .unset, .unset, .unset] [(.int tt), (.long (0 : Int64))])) _
            refine XS.i2l X1244.here hx rfl (hb hby at_243) rfl ?_
            show Steps p.tables e below (T1244.setTop (mkF m 244 #[.val (.int p0), .val (.int p1), .val (.int p2), .val (.int p3), .val (.int p4), .val (.int (p0 &&& (3 : Int32))), .val (.ref o6), .val (.long (((Int32.ofNat nN) - (1 : Int32)).toInt64)), .second, .val (.int tt), .val (.int v1244_10), .val (.long ((v1289_13 - (20 : Int64)) + ((p3 &&& (31 : Int32)).toInt64))), .second, .val (.long v1289_13), .second, .unset, .unset, .unset] [(.long (tt.toInt64)), (.long (0 : Int64))])) _
            refine XS.lload X1244.here hx rfl (hb hby at_244) rfl ?_
            exact kt
          obtain ⟨_, _, ⟨T1291, L1291, k1291, n1291⟩, -, X1291, ⟨Lc1291, hQ1291, l1291, y1291, z1291⟩, st1291⟩ := Jvm.LawKit.callS X1244 hx (y := (⟨"java/lang/Math", "min", "(JJ)J"⟩ : MethodName)) hown (mvT hZ (hw _ (List.mem_of_getElem? (i := 107) rfl))) (mvT hZ (hw _ (List.mem_of_getElem? (i := 108) rfl))) (mvT hZ (hw _ (List.mem_of_getElem? (i := 32) rfl))) (mvT hZ (hw _ (List.mem_of_getElem? (i := 109) rfl))) (by decide) (backOf (W := 2) (rm9 l Z a0 hw [] (tt.toInt64) ((v1289_13 - (20 : Int64)) + ((p3 &&& (31 : Int32)).toInt64)) h1244 n0 Z1_1247) hZ (hw _ (List.mem_of_getElem? (i := 109) rfl)) (hw _ (List.mem_of_getElem? (i := 32) rfl)) (by decide) (by decide)) (g := (mkF m 246 #[.val (.int p0), .val (.int p1), .val (.int p2), .val (.int p3), .val (.int p4), .val (.int (p0 &&& (3 : Int32))), .val (.ref o6), .val (.long (((Int32.ofNat nN) - (1 : Int32)).toInt64)), .second, .val (.int tt), .val (.int v1244_10), .val (.long ((v1289_13 - (20 : Int64)) + ((p3 &&& (31 : Int32)).toInt64))), .second, .val (.long v1289_13), .second, .unset, .unset, .unset] [(.long ((v1289_13 - (20 : Int64)) + ((p3 &&& (31 : Int32)).toInt64))), (.long (tt.toInt64)), (.long (0 : Int64))])) rfl (by rw [hml]; rfl) (argsL := [(.long (tt.toInt64)), (.long ((v1289_13 - (20 : Int64)) + ((p3 &&& (31 : Int32)).toInt64)))]) (rest := [(.long (0 : Int64))]) (lenOf pd_6 rfl) rfl (by show 2 * 0 + _ ≤ _; exact Nat.le_of_eq rfl) (hb hby at_246) (fun _ _ => ⟨rfl, e1244, (by decide : 1 + 0 ≤ _), (by decide : 9 + 0 ≤ _)⟩)
          dsimp only [Pt.U, Pt.locs, Pt.cells, Pt.slots] at X1291 l1291 y1291 z1291 st1291 hQ1291
          subst y1291 z1291
          obtain ⟨rfl, Nq1291, e1291⟩ := hQ1291
          have N1291 : Fr n0 L1291 := by rw [l1291]; exact Fr.app N1244 Nq1291
          refine Got.step st1291 ?_
          show Got p e below s _ _ _ _ T1291 (mkF m 249 #[.val (.int p0), .val (.int p1), .val (.int p2), .val (.int p3), .val (.int p4), .val (.int (p0 &&& (3 : Int32))), .val (.ref o6), .val (.long (((Int32.ofNat nN) - (1 : Int32)).toInt64)), .second, .val (.int tt), .val (.int v1244_10), .val (.long ((v1289_13 - (20 : Int64)) + ((p3 &&& (31 : Int32)).toInt64))), .second, .val (.long v1289_13), .second, .unset, .unset, .unset] [(.long (f9 (tt.toInt64) ((v1289_13 - (20 : Int64)) + ((p3 &&& (31 : Int32)).toInt64)))), (.long (0 : Int64))])
          obtain ⟨_, _, ⟨T1292, L1292, k1292, n1292⟩, -, X1292, ⟨Lc1292, hQ1292, l1292, y1292, z1292⟩, st1292⟩ := Jvm.LawKit.callS X1291 hx (y := (⟨"java/lang/Math", "max", "(JJ)J"⟩ : MethodName)) hown (mvT hZ (hw _ (List.mem_of_getElem? (i := 118) rfl))) (mvT hZ (hw _ (List.mem_of_getElem? (i := 119) rfl))) (mvT hZ (hw _ (List.mem_of_getElem? (i := 32) rfl))) (mvT hZ (hw _ (List.mem_of_getElem? (i := 120) rfl))) (by decide) (backOf (W := 0) (rm11 l Z a0 hw [] (0 : Int64) (f9 (tt.toInt64) ((v1289_13 - (20 : Int64)) + ((p3 &&& (31 : Int32)).toInt64))) h1244 n0 Z1_1247) hZ (hw _ (List.mem_of_getElem? (i := 120) rfl)) (hw _ (List.mem_of_getElem? (i := 32) rfl)) (by decide) (by decide)) (g := (mkF m 249 #[.val (.int p0), .val (.int p1), .val (.int p2), .val (.int p3), .val (.int p4), .val (.int (p0 &&& (3 : Int32))), .val (.ref o6), .val (.long (((Int32.ofNat nN) - (1 : Int32)).toInt64)), .second, .val (.int tt), .val (.int v1244_10), .val (.long ((v1289_13 - (20 : Int64)) + ((p3 &&& (31 : Int32)).toInt64))), .second, .val (.long v1289_13), .second, .unset, .unset, .unset] [(.long (f9 (tt.toInt64) ((v1289_13 - (20 : Int64)) + ((p3 &&& (31 : Int32)).toInt64)))), (.long (0 : Int64))])) rfl (by rw [hml]; rfl) (argsL := [(.long (0 : Int64)), (.long (f9 (tt.toInt64) ((v1289_13 - (20 : Int64)) + ((p3 &&& (31 : Int32)).toInt64))))]) (rest := []) (lenOf pd_6 rfl) rfl (by show 2 * 0 + _ ≤ _; exact Nat.le_of_eq rfl) (hb hby at_249) (fun _ _ => ⟨rfl, e1291, (by decide : 1 + 0 ≤ _), (by decide : 9 + 0 ≤ _)⟩)
          dsimp only [Pt.U, Pt.locs, Pt.cells, Pt.slots] at X1292 l1292 y1292 z1292 st1292 hQ1292
          subst y1292 z1292
          obtain ⟨rfl, Nq1292, e1292⟩ := hQ1292
          have N1292 : Fr n0 L1292 := by rw [l1292]; exact Fr.app N1291 Nq1292
          refine Got.step st1292 ?_
          show Got p e below s _ _ _ _ T1292 (mkF m 252 #[.val (.int p0), .val (.int p1), .val (.int p2), .val (.int p3), .val (.int p4), .val (.int (p0 &&& (3 : Int32))), .val (.ref o6), .val (.long (((Int32.ofNat nN) - (1 : Int32)).toInt64)), .second, .val (.int tt), .val (.int v1244_10), .val (.long ((v1289_13 - (20 : Int64)) + ((p3 &&& (31 : Int32)).toInt64))), .second, .val (.long v1289_13), .second, .unset, .unset, .unset] [(.long (f11 (0 : Int64) (f9 (tt.toInt64) ((v1289_13 - (20 : Int64)) + ((p3 &&& (31 : Int32)).toInt64)))))])
          refine Got.step (T' := T1292) (g' := (mkF m 259 #[.val (.int p0), .val (.int p1), .val (.int p2), .val (.int p3), .val (.int p4), .val (.int (p0 &&& (3 : Int32))), .val (.ref o6), .val (.long (((Int32.ofNat nN) - (1 : Int32)).toInt64)), .second, .val (.int tt), .val (.int v1244_10), .val (.long (f11 (0 : Int64) (f9 (tt.toInt64) ((v1289_13 - (20 : Int64)) + ((p3 &&& (31 : Int32)).toInt64))))), .second, .val (.int ((f11 (0 : Int64) (f9 (tt.toInt64) ((v1289_13 - (20 : Int64)) + ((p3 &&& (31 : Int32)).toInt64)))).toInt32)), .unset, .unset, .unset, .unset] [])) (fun tq kt => ?_) ?_
          · show Steps p.tables e below (T1292.setTop (mkF m 252 #[.val (.int p0), .val (.int p1), .val (.int p2), .val (.int p3), .val (.int p4), .val (.int (p0 &&& (3 : Int32))), .val (.ref o6), .val (.long (((Int32.ofNat nN) - (1 : Int32)).toInt64)), .second, .val (.int tt), .val (.int v1244_10), .val (.long ((v1289_13 - (20 : Int64)) + ((p3 &&& (31 : Int32)).toInt64))), .second, .val (.long v1289_13), .second, .unset, .unset, .unset] [(.long (f11 (0 : Int64) (f9 (tt.toInt64) ((v1289_13 - (20 : Int64)) + ((p3 &&& (31 : Int32)).toInt64)))))])) _
            refine XS.lstore X1292.here hx rfl (hb hby at_252) rfl (l' := #[.val (.int p0), .val (.int p1), .val (.int p2), .val (.int p3), .val (.int p4), .val (.int (p0 &&& (3 : Int32))), .val (.ref o6), .val (.long (((Int32.ofNat nN) - (1 : Int32)).toInt64)), .second, .val (.int tt), .val (.int v1244_10), .val (.long (f11 (0 : Int64) (f9 (tt.toInt64) ((v1289_13 - (20 : Int64)) + ((p3 &&& (31 : Int32)).toInt64))))), .second, .val (.long v1289_13), .second, .unset, .unset, .unset]) rfl ?_
            show Steps p.tables e below (T1292.setTop (mkF m 254 #[.val (.int p0), .val (.int p1), .val (.int p2), .val (.int p3), .val (.int p4), .val (.int (p0 &&& (3 : Int32))), .val (.ref o6), .val (.long (((Int32.ofNat nN) - (1 : Int32)).toInt64)), .second, .val (.int tt), .val (.int v1244_10), .val (.long (f11 (0 : Int64) (f9 (tt.toInt64) ((v1289_13 - (20 : Int64)) + ((p3 &&& (31 : Int32)).toInt64))))), .second, .val (.long v1289_13), .second, .unset, .unset, .unset] [])) _
            refine XS.lload X1292.here hx rfl (hb hby at_254) rfl ?_
            show Steps p.tables e below (T1292.setTop (mkF m 256 #[.val (.int p0), .val (.int p1), .val (.int p2), .val (.int p3), .val (.int p4), .val (.int (p0 &&& (3 : Int32))), .val (.ref o6), .val (.long (((Int32.ofNat nN) - (1 : Int32)).toInt64)), .second, .val (.int tt), .val (.int v1244_10), .val (.long (f11 (0 : Int64) (f9 (tt.toInt64) ((v1289_13 - (20 : Int64)) + ((p3 &&& (31 : Int32)).toInt64))))), .second, .val (.long v1289_13), .second, .unset, .unset, .unset] [(.long (f11 (0 : Int64) (f9 (tt.toInt64) ((v1289_13 - (20 : Int64)) + ((p3 &&& (31 : Int32)).toInt64)))))])) _
            refine XS.l2i X1292.here hx rfl (hb hby at_256) rfl ?_
            show Steps p.tables e below (T1292.setTop (mkF m 257 #[.val (.int p0), .val (.int p1), .val (.int p2), .val (.int p3), .val (.int p4), .val (.int (p0 &&& (3 : Int32))), .val (.ref o6), .val (.long (((Int32.ofNat nN) - (1 : Int32)).toInt64)), .second, .val (.int tt), .val (.int v1244_10), .val (.long (f11 (0 : Int64) (f9 (tt.toInt64) ((v1289_13 - (20 : Int64)) + ((p3 &&& (31 : Int32)).toInt64))))), .second, .val (.long v1289_13), .second, .unset, .unset, .unset] [(.int ((f11 (0 : Int64) (f9 (tt.toInt64) ((v1289_13 - (20 : Int64)) + ((p3 &&& (31 : Int32)).toInt64)))).toInt32))])) _
            refine XS.istore X1292.here hx rfl (hb hby at_257) rfl (l' := #[.val (.int p0), .val (.int p1), .val (.int p2), .val (.int p3), .val (.int p4), .val (.int (p0 &&& (3 : Int32))), .val (.ref o6), .val (.long (((Int32.ofNat nN) - (1 : Int32)).toInt64)), .second, .val (.int tt), .val (.int v1244_10), .val (.long (f11 (0 : Int64) (f9 (tt.toInt64) ((v1289_13 - (20 : Int64)) + ((p3 &&& (31 : Int32)).toInt64))))), .second, .val (.int ((f11 (0 : Int64) (f9 (tt.toInt64) ((v1289_13 - (20 : Int64)) + ((p3 &&& (31 : Int32)).toInt64)))).toInt32)), .unset, .unset, .unset, .unset]) rfl ?_
            exact kt
          obtain ⟨pp, hpp⟩ : ∃ v : Int32, v = ((f11 (0 : Int64) (f9 (tt.toInt64) ((v1289_13 - (20 : Int64)) + ((p3 &&& (31 : Int32)).toInt64)))).toInt32) := ⟨_, rfl⟩
          rw [← hpp]
          show Got p e below s _ _ _ _ T1292 (mkF m 259 #[.val (.int p0), .val (.int p1), .val (.int p2), .val (.int p3), .val (.int p4), .val (.int (p0 &&& (3 : Int32))), .val (.ref o6), .val (.long (((Int32.ofNat nN) - (1 : Int32)).toInt64)), .second, .val (.int tt), .val (.int v1244_10), .val (.long (f11 (0 : Int64) (f9 (tt.toInt64) ((v1289_13 - (20 : Int64)) + ((p3 &&& (31 : Int32)).toInt64))))), .second, .val (.int pp), .unset, .unset, .unset, .unset] [])
          obtain ⟨T1293, h1293, X1293, e1293, E1293, A1293, D1293, -, st1293⟩ := newO X1292 hx hZ hown (hw _ (List.mem_of_getElem? (i := 2) rfl)) (hw _ (List.mem_of_getElem? (i := 3) rfl)) (hw _ (List.mem_of_getElem? (i := 4) rfl)) e1292 (g := (mkF m 259 #[.val (.int p0), .val (.int p1), .val (.int p2), .val (.int p3), .val (.int p4), .val (.int (p0 &&& (3 : Int32))), .val (.ref o6), .val (.long (((Int32.ofNat nN) - (1 : Int32)).toInt64)), .second, .val (.int tt), .val (.int v1244_10), .val (.long (f11 (0 : Int64) (f9 (tt.toInt64) ((v1289_13 - (20 : Int64)) + ((p3 &&& (31 : Int32)).toInt64))))), .second, .val (.int pp), .unset, .unset, .unset, .unset] [])) rfl (hb hby at_259) (by decide) (by decide)
          obtain ⟨b1293, g1293⟩ : ∃ z, z = h1244.size := ⟨_, rfl⟩
          rw [← g1293] at A1293 D1293 st1293
          have ne_o6_b1293 : o6 ≠ b1293 := by rw [g1293]; exact Nat.ne_of_lt V6_1248.lt
          have gn_b1293 : n0 ≤ b1293 := by rw [g1293]; exact Z1_1247
          have Z1_1294 : n0 ≤ h1293.size := (Nat.le_trans Z1_1247 E1293.1)
          have V6_1295 : Arv Z h1293 o6 k6 .int (Int32.ofNat nN) (us.map Value.int) (.int (0 : Int32)) := (V6_1248.ext E1293)
          have F1293_marks : Fld Z h1293 b1293 "com/example/sidestep/sidestep/Starts" "marks" "[J" .null := D1293 (Or.inl (hw _ (List.mem_of_getElem? (i := 13) rfl))) (ty := (.array .long)) (by decide)
          have F1293_nonzeroWords : Fld Z h1293 b1293 "com/example/sidestep/sidestep/Starts" "nonzeroWords" "[J" .null := D1293 (Or.inr (hw _ (List.mem_of_getElem? (i := 15) rfl))) (ty := (.array .long)) (by decide)
          have F1293_fewBusyBlocks : Fld Z h1293 b1293 "com/example/sidestep/sidestep/Starts" "fewBusyBlocks" "Z" (.int (0 : Int32)) := D1293 (Or.inl (hw _ (List.mem_of_getElem? (i := 17) rfl))) (ty := .boolean) (by decide)
          have F1293_places : Fld Z h1293 b1293 "com/example/sidestep/sidestep/Starts" "places" "[I" .null := D1293 (Or.inl (hw _ (List.mem_of_getElem? (i := 19) rfl))) (ty := (.array .int)) (by decide)
          have F1293_listedInWindow : Fld Z h1293 b1293 "com/example/sidestep/sidestep/Starts" "listedInWindow" "[I" .null := D1293 (Or.inr (hw _ (List.mem_of_getElem? (i := 21) rfl))) (ty := (.array .int)) (by decide)
          have F1293_tallies : Fld Z h1293 b1293 "com/example/sidestep/sidestep/Starts" "tallies" "[J" .null := D1293 (Or.inl (hw _ (List.mem_of_getElem? (i := 23) rfl))) (ty := (.array .long)) (by decide)
          have F1293_length : Fld Z h1293 b1293 "com/example/sidestep/sidestep/Starts" "length" "I" (.int (0 : Int32)) := D1293 (Or.inr (hw _ (List.mem_of_getElem? (i := 25) rfl))) (ty := .int) (by decide)
          have F1293_exact : Fld Z h1293 b1293 "com/example/sidestep/sidestep/Starts" "exact" "Z" (.int (0 : Int32)) := D1293 (Or.inr (hw _ (List.mem_of_getElem? (i := 27) rfl))) (ty := .boolean) (by decide)
          have F1293_lastOffset : Fld Z h1293 b1293 "com/example/sidestep/sidestep/Starts" "lastOffset" "I" (.int (0 : Int32)) := D1293 (Or.inr (hw _ (List.mem_of_getElem? (i := 29) rfl))) (ty := .int) (by decide)
          have F1293_secondOffset : Fld Z h1293 b1293 "com/example/sidestep/sidestep/Starts" "secondOffset" "I" (.int (0 : Int32)) := D1293 (Or.inr (hw _ (List.mem_of_getElem? (i := 35) rfl))) (ty := .int) (by decide)
          have F1293_thirdOffset : Fld Z h1293 b1293 "com/example/sidestep/sidestep/Starts" "thirdOffset" "I" (.int (0 : Int32)) := D1293 (Or.inr (hw _ (List.mem_of_getElem? (i := 37) rfl))) (ty := .int) (by decide)
          have F1293_penultimateOffset : Fld Z h1293 b1293 "com/example/sidestep/sidestep/Starts" "penultimateOffset" "I" (.int (0 : Int32)) := D1293 (Or.inr (hw _ (List.mem_of_getElem? (i := 42) rfl))) (ty := .int) (by decide)
          have F1293_firstBytes : Fld Z h1293 b1293 "com/example/sidestep/sidestep/Starts" "firstBytes" "J" (.long (0 : Int64)) := D1293 (Or.inr (hw _ (List.mem_of_getElem? (i := 49) rfl))) (ty := .long) (by decide)
          have F1293_secondBytes : Fld Z h1293 b1293 "com/example/sidestep/sidestep/Starts" "secondBytes" "J" (.long (0 : Int64)) := D1293 (Or.inr (hw _ (List.mem_of_getElem? (i := 51) rfl))) (ty := .long) (by decide)
          have F1293_thirdBytes : Fld Z h1293 b1293 "com/example/sidestep/sidestep/Starts" "thirdBytes" "J" (.long (0 : Int64)) := D1293 (Or.inr (hw _ (List.mem_of_getElem? (i := 53) rfl))) (ty := .long) (by decide)
          have F1293_penultimateBytes : Fld Z h1293 b1293 "com/example/sidestep/sidestep/Starts" "penultimateBytes" "J" (.long (0 : Int64)) := D1293 (Or.inr (hw _ (List.mem_of_getElem? (i := 55) rfl))) (ty := .long) (by decide)
          have F1293_lastBytes : Fld Z h1293 b1293 "com/example/sidestep/sidestep/Starts" "lastBytes" "J" (.long (0 : Int64)) := D1293 (Or.inr (hw _ (List.mem_of_getElem? (i := 57) rfl))) (ty := .long) (by decide)
          have F1293_patternWords : Fld Z h1293 b1293 "com/example/sidestep/sidestep/Starts" "patternWords" "[J" .null := D1293 (Or.inr (hw _ (List.mem_of_getElem? (i := 59) rfl))) (ty := (.array .long)) (by decide)
          have F1293_lastWordOffset : Fld Z h1293 b1293 "com/example/sidestep/sidestep/Starts" "lastWordOffset" "I" (.int (0 : Int32)) := D1293 (Or.inr (hw _ (List.mem_of_getElem? (i := 61) rfl))) (ty := .int) (by decide)
          have F1293_lastWordMask : Fld Z h1293 b1293 "com/example/sidestep/sidestep/Starts" "lastWordMask" "J" (.long (0 : Int64)) := D1293 (Or.inr (hw _ (List.mem_of_getElem? (i := 63) rfl))) (ty := .long) (by decide)
          have F1293_source : Fld Z h1293 b1293 "com/example/sidestep/sidestep/Starts" "source" "Lcom/example/sidestep/sidestep/Starts$LowBytes;" .null := D1293 (Or.inl (hw _ (List.mem_of_getElem? (i := 76) rfl))) (ty := (.object "com/example/sidestep/sidestep/Starts$LowBytes")) (by decide)
          have F1293_copiedTo : Fld Z h1293 b1293 "com/example/sidestep/sidestep/Starts" "copiedTo" "I" (.int (0 : Int32)) := D1293 (Or.inl (hw _ (List.mem_of_getElem? (i := 78) rfl))) (ty := .int) (by decide)
          have F1293_lowBytes : Fld Z h1293 b1293 "com/example/sidestep/sidestep/Starts" "lowBytes" "[B" .null := D1293 (Or.inl (hw _ (List.mem_of_getElem? (i := 80) rfl))) (ty := (.array .byte)) (by decide)
          have F1293_to : Fld Z h1293 b1293 "com/example/sidestep/sidestep/Starts" "to" "I" (.int (0 : Int32)) := D1293 (Or.inl (hw _ (List.mem_of_getElem? (i := 82) rfl))) (ty := .int) (by decide)
          have F1293_placesEnd : Fld Z h1293 b1293 "com/example/sidestep/sidestep/Starts" "placesEnd" "I" (.int (0 : Int32)) := D1293 (Or.inl (hw _ (List.mem_of_getElem? (i := 84) rfl))) (ty := .int) (by decide)
          have F1293_wholeEnd : Fld Z h1293 b1293 "com/example/sidestep/sidestep/Starts" "wholeEnd" "I" (.int (0 : Int32)) := D1293 (Or.inl (hw _ (List.mem_of_getElem? (i := 86) rfl))) (ty := .int) (by decide)
          have F1293_decidedEnd : Fld Z h1293 b1293 "com/example/sidestep/sidestep/Starts" "decidedEnd" "I" (.int (0 : Int32)) := D1293 (Or.inl (hw _ (List.mem_of_getElem? (i := 88) rfl))) (ty := .int) (by decide)
          have F1293_placed : Fld Z h1293 b1293 "com/example/sidestep/sidestep/Starts" "placed" "I" (.int (0 : Int32)) := D1293 (Or.inl (hw _ (List.mem_of_getElem? (i := 90) rfl))) (ty := .int) (by decide)
          have F1293_taken : Fld Z h1293 b1293 "com/example/sidestep/sidestep/Starts" "taken" "I" (.int (0 : Int32)) := D1293 (Or.inl (hw _ (List.mem_of_getElem? (i := 92) rfl))) (ty := .int) (by decide)
          have F1293_listedTo : Fld Z h1293 b1293 "com/example/sidestep/sidestep/Starts" "listedTo" "I" (.int (0 : Int32)) := D1293 (Or.inl (hw _ (List.mem_of_getElem? (i := 94) rfl))) (ty := .int) (by decide)
          have F1293_dense : Fld Z h1293 b1293 "com/example/sidestep/sidestep/Starts" "dense" "Z" (.int (0 : Int32)) := D1293 (Or.inl (hw _ (List.mem_of_getElem? (i := 96) rfl))) (ty := .boolean) (by decide)
          have F1293_marking : Fld Z h1293 b1293 "com/example/sidestep/sidestep/Starts" "marking" "I" (.int (0 : Int32)) := D1293 (Or.inl (hw _ (List.mem_of_getElem? (i := 102) rfl))) (ty := .int) (by decide)
          have F1293_sections : Fld Z h1293 b1293 "com/example/sidestep/sidestep/Starts" "sections" "I" (.int (0 : Int32)) := D1293 (Or.inl (hw _ (List.mem_of_getElem? (i := 104) rfl))) (ty := .int) (by decide)
          have F1293_handedSections : Fld Z h1293 b1293 "com/example/sidestep/sidestep/Starts" "handedSections" "I" (.int (0 : Int32)) := D1293 (Or.inl (hw _ (List.mem_of_getElem? (i := 106) rfl))) (ty := .int) (by decide)
          refine Got.step st1293 ?_
          show Got p e below s _ _ _ _ T1293 (mkF m 262 #[.val (.int p0), .val (.int p1), .val (.int p2), .val (.int p3), .val (.int p4), .val (.int (p0 &&& (3 : Int32))), .val (.ref o6), .val (.long (((Int32.ofNat nN) - (1 : Int32)).toInt64)), .second, .val (.int tt), .val (.int v1244_10), .val (.long (f11 (0 : Int64) (f9 (tt.toInt64) ((v1289_13 - (20 : Int64)) + ((p3 &&& (31 : Int32)).toInt64))))), .second, .val (.int pp), .unset, .unset, .unset, .unset] [(.ref b1293)])
          refine Got.step (T' := T1293) (g' := (mkF m 265 #[.val (.int p0), .val (.int p1), .val (.int p2), .val (.int p3), .val (.int p4), .val (.int (p0 &&& (3 : Int32))), .val (.ref o6), .val (.long (((Int32.ofNat nN) - (1 : Int32)).toInt64)), .second, .val (.int tt), .val (.int v1244_10), .val (.long (f11 (0 : Int64) (f9 (tt.toInt64) ((v1289_13 - (20 : Int64)) + ((p3 &&& (31 : Int32)).toInt64))))), .second, .val (.int pp), .unset, .unset, .unset, .unset] [(.ref o6), (.ref b1293), (.ref b1293)])) (fun tq kt => ?_) ?_
          · show Steps p.tables e below (T1293.setTop (mkF m 262 #[.val (.int p0), .val (.int p1), .val (.int p2), .val (.int p3), .val (.int p4), .val (.int (p0 &&& (3 : Int32))), .val (.ref o6), .val (.long (((Int32.ofNat nN) - (1 : Int32)).toInt64)), .second, .val (.int tt), .val (.int v1244_10), .val (.long (f11 (0 : Int64) (f9 (tt.toInt64) ((v1289_13 - (20 : Int64)) + ((p3 &&& (31 : Int32)).toInt64))))), .second, .val (.int pp), .unset, .unset, .unset, .unset] [(.ref b1293)])) _
            refine XS.dup X1293.here hx rfl (hb hby at_262) rfl rfl ?_
            show Steps p.tables e below (T1293.setTop (mkF m 263 #[.val (.int p0), .val (.int p1), .val (.int p2), .val (.int p3), .val (.int p4), .val (.int (p0 &&& (3 : Int32))), .val (.ref o6), .val (.long (((Int32.ofNat nN) - (1 : Int32)).toInt64)), .second, .val (.int tt), .val (.int v1244_10), .val (.long (f11 (0 : Int64) (f9 (tt.toInt64) ((v1289_13 - (20 : Int64)) + ((p3 &&& (31 : Int32)).toInt64))))), .second, .val (.int pp), .unset, .unset, .unset, .unset] [(.ref b1293), (.ref b1293)])) _
            refine XS.aload X1293.here hx rfl (hb hby at_263) rfl rfl ?_
            exact kt
          obtain ⟨_, _, ⟨T1296, L1296, k1296, n1296⟩, -, X1296, ⟨Lc1296, hQ1296, l1296, y1296, z1296⟩, st1296⟩ := X1293.specialBack hx (y := (⟨"com/example/sidestep/sidestep/Starts", "<init>", "([I)V"⟩ : MethodName)) rfl hown (mvT hZ (hw _ (List.mem_of_getElem? (i := 5) rfl))) (mvT hZ (hw _ (List.mem_of_getElem? (i := 6) rfl))) (mvT hZ (hw _ (List.mem_of_getElem? (i := 7) rfl))) (by decide) (backOf (W := 1) (rm1 l Z a0 hw [] b1293 o6 nN us k6 h1293 n0 Z1_1294 gn_b1293 A1293 F1293_marks F1293_nonzeroWords F1293_fewBusyBlocks F1293_places F1293_listedInWindow F1293_tallies F1293_length F1293_exact F1293_lastOffset F1293_secondOffset F1293_thirdOffset F1293_penultimateOffset F1293_firstBytes F1293_secondBytes F1293_thirdBytes F1293_penultimateBytes F1293_lastBytes F1293_patternWords F1293_lastWordOffset F1293_lastWordMask F1293_source F1293_copiedTo F1293_lowBytes F1293_to F1293_placesEnd F1293_wholeEnd F1293_decidedEnd F1293_placed F1293_taken F1293_listedTo F1293_dense F1293_marking F1293_sections F1293_handedSections V6_1295 ne_o6_b1293 hN) hZ (hw _ (List.mem_of_getElem? (i := 7) rfl)) (hw _ (List.mem_of_getElem? (i := 4) rfl)) (by decide) (by decide)) (g := (mkF m 265 #[.val (.int p0), .val (.int p1), .val (.int p2), .val (.int p3), .val (.int p4), .val (.int (p0 &&& (3 : Int32))), .val (.ref o6), .val (.long (((Int32.ofNat nN) - (1 : Int32)).toInt64)), .second, .val (.int tt), .val (.int v1244_10), .val (.long (f11 (0 : Int64) (f9 (tt.toInt64) ((v1289_13 - (20 : Int64)) + ((p3 &&& (31 : Int32)).toInt64))))), .second, .val (.int pp), .unset, .unset, .unset, .unset] [(.ref o6), (.ref b1293), (.ref b1293)])) rfl (by rw [hml]; rfl) (Steps.refl _) (a := b1293) (argsL := [(.ref o6)]) (rest := [(.ref b1293)]) (lenOf pd_4 rfl) rfl (by show 2 * 0 + _ ≤ _; exact Nat.le_of_eq rfl) (hb hby at_265) (fun _ _ => ⟨rfl, e1293, (by decide : 2 + 6 ≤ _), (by decide : 51 + 43 ≤ _)⟩)
          dsimp only [Pt.U, Pt.locs, Pt.cells, Pt.slots] at X1296 l1296 y1296 z1296 st1296 hQ1296
          subst y1296 z1296
          obtain ⟨h1296, e1296⟩ : ∃ z, T1296.heap = z := ⟨_, rfl⟩
          rw [e1296] at hQ1296
          obtain ⟨rfl, Nq1296, K1296, E1296, G1296_lastOffset, G1296_length, G1296_source, G1296_copiedTo, G1296_lowBytes, G1296_to, G1296_placesEnd, G1296_wholeEnd, G1296_decidedEnd, G1296_placed, G1296_taken, G1296_listedTo, G1296_dense, G1296_marking, G1296_sections, G1296_handedSections, ow, kw, nw, vs, new, szw, Gpw, Vw⟩ := hQ1296
          have N1296 : Fr n0 L1296 := by rw [l1296]; exact Fr.app N1292 Nq1296
          have Z1_1297 : n0 ≤ h1296.size := (Nat.le_trans Z1_1294 K1296.1)
          have V6_1298 : Arv Z h1296 o6 k6 .int (Int32.ofNat nN) (us.map Value.int) (.int (0 : Int32)) := (V6_1295.keep K1296 (ninS ne_o6_b1293 nin0))
          have A1293_1299 : Exa Z h1296 b1293 "com/example/sidestep/sidestep/Starts" := (A1293.keep K1296)
          refine Got.hop st1296 ?_
          show Got p e below s _ _ _ _ T1296 (mkF m 268 #[.val (.int p0), .val (.int p1), .val (.int p2), .val (.int p3), .val (.int p4), .val (.int (p0 &&& (3 : Int32))), .val (.ref o6), .val (.long (((Int32.ofNat nN) - (1 : Int32)).toInt64)), .second, .val (.int tt), .val (.int v1244_10), .val (.long (f11 (0 : Int64) (f9 (tt.toInt64) ((v1289_13 - (20 : Int64)) + ((p3 &&& (31 : Int32)).toInt64))))), .second, .val (.int pp), .unset, .unset, .unset, .unset] [(.ref b1293)])
          refine Got.step (T' := T1296) (g' := (mkF m 273 #[.val (.int p0), .val (.int p1), .val (.int p2), .val (.int p3), .val (.int p4), .val (.int (p0 &&& (3 : Int32))), .val (.ref o6), .val (.long (((Int32.ofNat nN) - (1 : Int32)).toInt64)), .second, .val (.int tt), .val (.int v1244_10), .val (.long (f11 (0 : Int64) (f9 (tt.toInt64) ((v1289_13 - (20 : Int64)) + ((p3 &&& (31 : Int32)).toInt64))))), .second, .val (.int pp), .val (.ref b1293), .unset, .unset, .unset] [(.int (0 : Int32)), (.ref b1293)])) (fun tq kt => ?_) ?_
          · show Steps p.tables e below (T1296.setTop (mkF m 268 #[.val (.int p0), .val (.int p1), .val (.int p2), .val (.int p3), .val (.int p4), .val (.int (p0 &&& (3 : Int32))), .val (.ref o6), .val (.long (((Int32.ofNat nN) - (1 : Int32)).toInt64)), .second, .val (.int tt), .val (.int v1244_10), .val (.long (f11 (0 : Int64) (f9 (tt.toInt64) ((v1289_13 - (20 : Int64)) + ((p3 &&& (31 : Int32)).toInt64))))), .second, .val (.int pp), .unset, .unset, .unset, .unset] [(.ref b1293)])) _
            refine XS.astore X1296.here hx rfl (hb hby at_268) rfl rfl (l' := #[.val (.int p0), .val (.int p1), .val (.int p2), .val (.int p3), .val (.int p4), .val (.int (p0 &&& (3 : Int32))), .val (.ref o6), .val (.long (((Int32.ofNat nN) - (1 : Int32)).toInt64)), .second, .val (.int tt), .val (.int v1244_10), .val (.long (f11 (0 : Int64) (f9 (tt.toInt64) ((v1289_13 - (20 : Int64)) + ((p3 &&& (31 : Int32)).toInt64))))), .second, .val (.int pp), .val (.ref b1293), .unset, .unset, .unset]) rfl ?_
            show Steps p.tables e below (T1296.setTop (mkF m 270 #[.val (.int p0), .val (.int p1), .val (.int p2), .val (.int p3), .val (.int p4), .val (.int (p0 &&& (3 : Int32))), .val (.ref o6), .val (.long (((Int32.ofNat nN) - (1 : Int32)).toInt64)), .second, .val (.int tt), .val (.int v1244_10), .val (.long (f11 (0 : Int64) (f9 (tt.toInt64) ((v1289_13 - (20 : Int64)) + ((p3 &&& (31 : Int32)).toInt64))))), .second, .val (.int pp), .val (.ref b1293), .unset, .unset, .unset] [])) _
            refine XS.aload X1296.here hx rfl (hb hby at_270) rfl rfl ?_
            show Steps p.tables e below (T1296.setTop (mkF m 272 #[.val (.int p0), .val (.int p1), .val (.int p2), .val (.int p3), .val (.int p4), .val (.int (p0 &&& (3 : Int32))), .val (.ref o6), .val (.long (((Int32.ofNat nN) - (1 : Int32)).toInt64)), .second, .val (.int tt), .val (.int v1244_10), .val (.long (f11 (0 : Int64) (f9 (tt.toInt64) ((v1289_13 - (20 : Int64)) + ((p3 &&& (31 : Int32)).toInt64))))), .second, .val (.int pp), .val (.ref b1293), .unset, .unset, .unset] [(.ref b1293)])) _
            refine XS.iconst X1296.here hx rfl (hb hby at_272) ?_
            exact kt
          obtain ⟨T1300, h1300, k1300, X1300, e1300, E1300, A1300, st1300⟩ := newP X1296 hx hZ (hw _ (List.mem_of_getElem? (i := 64) rfl)) e1296 (g := (mkF m 273 #[.val (.int p0), .val (.int p1), .val (.int p2), .val (.int p3), .val (.int p4), .val (.int (p0 &&& (3 : Int32))), .val (.ref o6), .val (.long (((Int32.ofNat nN) - (1 : Int32)).toInt64)), .second, .val (.int tt), .val (.int v1244_10), .val (.long (f11 (0 : Int64) (f9 (tt.toInt64) ((v1289_13 - (20 : Int64)) + ((p3 &&& (31 : Int32)).toInt64))))), .second, .val (.int pp), .val (.ref b1293), .unset, .unset, .unset] [(.int (0 : Int32)), (.ref b1293)])) rfl (hb hby at_273) rfl (by decide) (cap := 0) (by decide) (by decide) (by decide) (by decide)
          obtain ⟨b1300, g1300⟩ : ∃ z, z = h1296.size := ⟨_, rfl⟩
          rw [← g1300] at A1300 st1300
          have ne_o6_b1300 : o6 ≠ b1300 := by rw [g1300]; exact Nat.ne_of_lt V6_1298.lt
          have ne_b1293_b1300 : b1293 ≠ b1300 := by rw [g1300]; exact Nat.ne_of_lt A1293_1299.lt
          have ne_ow_b1300 : ow ≠ b1300 := by rw [g1300]; exact Nat.ne_of_lt Vw.lt
          have gn_b1300 : n0 ≤ b1300 := by rw [g1300]; exact Z1_1297
          have Z1_1301 : n0 ≤ h1300.size := (Nat.le_trans Z1_1297 E1300.1)
          have V6_1302 : Arv Z h1300 o6 k6 .int (Int32.ofNat nN) (us.map Value.int) (.int (0 : Int32)) := (V6_1298.ext E1300)
          have A1293_1303 : Exa Z h1300 b1293 "com/example/sidestep/sidestep/Starts" := (A1293_1299.ext E1300)
          have G1296_lastOffset_1304 : Fld Z h1300 b1293 "com/example/sidestep/sidestep/Starts" "lastOffset" "I" (.int ((Int32.ofNat nN) - (1 : Int32))) := (G1296_lastOffset.ext E1300)
          have G1296_length_1305 : Fld Z h1300 b1293 "com/example/sidestep/sidestep/Starts" "length" "I" (.int (Int32.ofNat nN)) := (G1296_length.ext E1300)
          have G1296_source_1306 : Fld Z h1300 b1293 "com/example/sidestep/sidestep/Starts" "source" "Lcom/example/sidestep/sidestep/Starts$LowBytes;" .null := (G1296_source.ext E1300)
          have G1296_copiedTo_1307 : Fld Z h1300 b1293 "com/example/sidestep/sidestep/Starts" "copiedTo" "I" (.int (0 : Int32)) := (G1296_copiedTo.ext E1300)
          have G1296_lowBytes_1308 : Fld Z h1300 b1293 "com/example/sidestep/sidestep/Starts" "lowBytes" "[B" .null := (G1296_lowBytes.ext E1300)
          have G1296_to_1309 : Fld Z h1300 b1293 "com/example/sidestep/sidestep/Starts" "to" "I" (.int (0 : Int32)) := (G1296_to.ext E1300)
          have G1296_placesEnd_1310 : Fld Z h1300 b1293 "com/example/sidestep/sidestep/Starts" "placesEnd" "I" (.int (0 : Int32)) := (G1296_placesEnd.ext E1300)
          have G1296_wholeEnd_1311 : Fld Z h1300 b1293 "com/example/sidestep/sidestep/Starts" "wholeEnd" "I" (.int (0 : Int32)) := (G1296_wholeEnd.ext E1300)
          have G1296_decidedEnd_1312 : Fld Z h1300 b1293 "com/example/sidestep/sidestep/Starts" "decidedEnd" "I" (.int (0 : Int32)) := (G1296_decidedEnd.ext E1300)
          have G1296_placed_1313 : Fld Z h1300 b1293 "com/example/sidestep/sidestep/Starts" "placed" "I" (.int (0 : Int32)) := (G1296_placed.ext E1300)
          have G1296_taken_1314 : Fld Z h1300 b1293 "com/example/sidestep/sidestep/Starts" "taken" "I" (.int (0 : Int32)) := (G1296_taken.ext E1300)
          have G1296_listedTo_1315 : Fld Z h1300 b1293 "com/example/sidestep/sidestep/Starts" "listedTo" "I" (.int (0 : Int32)) := (G1296_listedTo.ext E1300)
          have G1296_dense_1316 : Fld Z h1300 b1293 "com/example/sidestep/sidestep/Starts" "dense" "Z" (.int (0 : Int32)) := (G1296_dense.ext E1300)
          have G1296_marking_1317 : Fld Z h1300 b1293 "com/example/sidestep/sidestep/Starts" "marking" "I" (.int (0 : Int32)) := (G1296_marking.ext E1300)
          have G1296_sections_1318 : Fld Z h1300 b1293 "com/example/sidestep/sidestep/Starts" "sections" "I" (.int (0 : Int32)) := (G1296_sections.ext E1300)
          have G1296_handedSections_1319 : Fld Z h1300 b1293 "com/example/sidestep/sidestep/Starts" "handedSections" "I" (.int (0 : Int32)) := (G1296_handedSections.ext E1300)
          have Gpw_1320 : Fld Z h1300 b1293 "com/example/sidestep/sidestep/Starts" "patternWords" "[J" (.ref ow) := (Gpw.ext E1300)
          have Vw_1321 : Arv Z h1300 ow kw .long nw vs (.long (0 : Int64)) := (Vw.ext E1300)
          have V1300 : Arv Z h1300 b1300 k1300 .byte (0 : Int32) [] (.int (0 : Int32)) := (Arv.new A1300 (by decide)).pad (pad_rep [] (.int (0 : Int32)) 0)
          refine Got.step st1300 ?_
          show Got p e below s _ _ _ _ T1300 (mkF m 275 #[.val (.int p0), .val (.int p1), .val (.int p2), .val (.int p3), .val (.int p4), .val (.int (p0 &&& (3 : Int32))), .val (.ref o6), .val (.long (((Int32.ofNat nN) - (1 : Int32)).toInt64)), .second, .val (.int tt), .val (.int v1244_10), .val (.long (f11 (0 : Int64) (f9 (tt.toInt64) ((v1289_13 - (20 : Int64)) + ((p3 &&& (31 : Int32)).toInt64))))), .second, .val (.int pp), .val (.ref b1293), .unset, .unset, .unset] [(.ref b1300), (.ref b1293)])
          refine Got.step (T' := T1300) (g' := (mkF m 279 #[.val (.int p0), .val (.int p1), .val (.int p2), .val (.int p3), .val (.int p4), .val (.int (p0 &&& (3 : Int32))), .val (.ref o6), .val (.long (((Int32.ofNat nN) - (1 : Int32)).toInt64)), .second, .val (.int tt), .val (.int v1244_10), .val (.long (f11 (0 : Int64) (f9 (tt.toInt64) ((v1289_13 - (20 : Int64)) + ((p3 &&& (31 : Int32)).toInt64))))), .second, .val (.int pp), .val (.ref b1293), .unset, .unset, .unset] [(.int tt), (.int v1244_10), (.ref b1300), (.ref b1293)])) (fun tq kt => ?_) ?_
          · show Steps p.tables e below (T1300.setTop (mkF m 275 #[.val (.int p0), .val (.int p1), .val (.int p2), .val (.int p3), .val (.int p4), .val (.int (p0 &&& (3 : Int32))), .val (.ref o6), .val (.long (((Int32.ofNat nN) - (1 : Int32)).toInt64)), .second, .val (.int tt), .val (.int v1244_10), .val (.long (f11 (0 : Int64) (f9 (tt.toInt64) ((v1289_13 - (20 : Int64)) + ((p3 &&& (31 : Int32)).toInt64))))), .second, .val (.int pp), .val (.ref b1293), .unset, .unset, .unset] [(.ref b1300), (.ref b1293)])) _
            refine XS.iload X1300.here hx rfl (hb hby at_275) rfl ?_
            show Steps p.tables e below (T1300.setTop (mkF m 277 #[.val (.int p0), .val (.int p1), .val (.int p2), .val (.int p3), .val (.int p4), .val (.int (p0 &&& (3 : Int32))), .val (.ref o6), .val (.long (((Int32.ofNat nN) - (1 : Int32)).toInt64)), .second, .val (.int tt), .val (.int v1244_10), .val (.long (f11 (0 : Int64) (f9 (tt.toInt64) ((v1289_13 - (20 : Int64)) + ((p3 &&& (31 : Int32)).toInt64))))), .second, .val (.int pp), .val (.ref b1293), .unset, .unset, .unset] [(.int v1244_10), (.ref b1300), (.ref b1293)])) _
            refine XS.iload X1300.here hx rfl (hb hby at_277) rfl ?_
            exact kt
          obtain ⟨cq1322, kq1322, qa1322, qb1322, qc1322⟩ := isOf hZ e1300 A1293_1303
          obtain ⟨_, _, ⟨T1322, L1322, k1322, n1322⟩, -, X1322, ⟨Lc1322, hQ1322, l1322, y1322, z1322⟩, st1322⟩ := X1300.virtualBack hx (y := (⟨"com/example/sidestep/sidestep/Starts", "over", "([BII)V"⟩ : MethodName)) (z := (⟨"com/example/sidestep/sidestep/Starts", "over", "([BII)V"⟩ : MethodName)) hown (mvT hZ (hw _ (List.mem_of_getElem? (i := 65) rfl))) (mvT hZ (hw _ (List.mem_of_getElem? (i := 66) rfl))) (notFace_of_selects (args := #[]) (mvT hZ (hw _ (List.mem_of_getElem? (i := 68) rfl)))) (mvT hZ (hw _ (List.mem_of_getElem? (i := 68) rfl))) (mvT hZ (hw _ (List.mem_of_getElem? (i := 67) rfl))) (by decide) (backOf (W := 0) (rm6 l Z a0 hw [] b1293 b1300 v1244_10 tt ((Int32.ofNat nN) - (1 : Int32)) (Int32.ofNat nN) ow kw nw vs h1300 n0 Z1_1301 gn_b1293 A1293_1303 G1296_lastOffset_1304 G1296_length_1305 Gpw_1320 G1296_source_1306 G1296_copiedTo_1307 G1296_lowBytes_1308 G1296_to_1309 G1296_placesEnd_1310 G1296_wholeEnd_1311 G1296_decidedEnd_1312 G1296_placed_1313 G1296_taken_1314 G1296_listedTo_1315 G1296_dense_1316 G1296_marking_1317 G1296_sections_1318 G1296_handedSections_1319 Vw_1321 new) hZ (hw _ (List.mem_of_getElem? (i := 69) rfl)) (hw _ (List.mem_of_getElem? (i := 4) rfl)) (by decide) (by decide)) qa1322 qc1322 (g := (mkF m 279 #[.val (.int p0), .val (.int p1), .val (.int p2), .val (.int p3), .val (.int p4), .val (.int (p0 &&& (3 : Int32))), .val (.ref o6), .val (.long (((Int32.ofNat nN) - (1 : Int32)).toInt64)), .second, .val (.int tt), .val (.int v1244_10), .val (.long (f11 (0 : Int64) (f9 (tt.toInt64) ((v1289_13 - (20 : Int64)) + ((p3 &&& (31 : Int32)).toInt64))))), .second, .val (.int pp), .val (.ref b1293), .unset, .unset, .unset] [(.int tt), (.int v1244_10), (.ref b1300), (.ref b1293)])) rfl (by rw [hml]; rfl) (Steps.refl _) (argsL := [(.ref b1300), (.int v1244_10), (.int tt)]) (rest := []) (lenOf pd_5 rfl) rfl (by show 2 * 0 + _ ≤ _; exact Nat.le_of_eq rfl) (hb hby at_279) (fun _ _ => ⟨rfl, e1300, (by decide : 9 + 0 ≤ _), (by decide : 94 + 0 ≤ _)⟩)
          dsimp only [Pt.U, Pt.locs, Pt.cells, Pt.slots] at X1322 l1322 y1322 z1322 st1322 hQ1322
          subst y1322 z1322
          obtain ⟨h1322, e1322⟩ : ∃ z, T1322.heap = z := ⟨_, rfl⟩
          rw [e1322] at hQ1322
          obtain ⟨rfl, Nq1322, K1322, E1322, G1322_wholeEnd⟩ := hQ1322
          have N1322 : Fr n0 L1322 := by rw [l1322]; exact Fr.app N1296 Nq1322
          have Z1_1323 : n0 ≤ h1322.size := (Nat.le_trans Z1_1301 K1322.1)
          have V6_1324 : Arv Z h1322 o6 k6 .int (Int32.ofNat nN) (us.map Value.int) (.int (0 : Int32)) := (V6_1302.keep K1322 (ninS ne_o6_b1293 nin0))
          have A1293_1325 : Exa Z h1322 b1293 "com/example/sidestep/sidestep/Starts" := (A1293_1303.keep K1322)
          have Vw_1326 : Arv Z h1322 ow kw .long nw vs (.long (0 : Int64)) := (Vw_1321.keep K1322 (ninS new nin0))
          have V1300_1327 : Arv Z h1322 b1300 k1300 .byte (0 : Int32) [] (.int (0 : Int32)) := (V1300.keep K1322 (ninS (Ne.symm ne_b1293_b1300) nin0))
          refine Got.hop st1322 ?_
          show Got p e below s _ _ _ _ T1322 (mkF m 282 #[.val (.int p0), .val (.int p1), .val (.int p2), .val (.int p3), .val (.int p4), .val (.int (p0 &&& (3 : Int32))), .val (.ref o6), .val (.long (((Int32.ofNat nN) - (1 : Int32)).toInt64)), .second, .val (.int tt), .val (.int v1244_10), .val (.long (f11 (0 : Int64) (f9 (tt.toInt64) ((v1289_13 - (20 : Int64)) + ((p3 &&& (31 : Int32)).toInt64))))), .second, .val (.int pp), .val (.ref b1293), .unset, .unset, .unset] [])
          refine Got.step (T' := T1322) (g' := (mkF m 291 #[.val (.int p0), .val (.int p1), .val (.int p2), .val (.int p3), .val (.int p4), .val (.int (p0 &&& (3 : Int32))), .val (.ref o6), .val (.long (((Int32.ofNat nN) - (1 : Int32)).toInt64)), .second, .val (.int tt), .val (.int v1244_10), .val (.long (f11 (0 : Int64) (f9 (tt.toInt64) ((v1289_13 - (20 : Int64)) + ((p3 &&& (31 : Int32)).toInt64))))), .second, .val (.int pp), .val (.ref b1293), .unset, .unset, .unset] [(.long ((tt.toInt64) - (((Int32.ofNat nN) - (1 : Int32)).toInt64))), (.long (v1244_10.toInt64))])) (fun tq kt => ?_) ?_
          · show Steps p.tables e below (T1322.setTop (mkF m 282 #[.val (.int p0), .val (.int p1), .val (.int p2), .val (.int p3), .val (.int p4), .val (.int (p0 &&& (3 : Int32))), .val (.ref o6), .val (.long (((Int32.ofNat nN) - (1 : Int32)).toInt64)), .second, .val (.int tt), .val (.int v1244_10), .val (.long (f11 (0 : Int64) (f9 (tt.toInt64) ((v1289_13 - (20 : Int64)) + ((p3 &&& (31 : Int32)).toInt64))))), .second, .val (.int pp), .val (.ref b1293), .unset, .unset, .unset] [])) _
            refine XS.iload X1322.here hx rfl (hb hby at_282) rfl ?_
            show Steps p.tables e below (T1322.setTop (mkF m 284 #[.val (.int p0), .val (.int p1), .val (.int p2), .val (.int p3), .val (.int p4), .val (.int (p0 &&& (3 : Int32))), .val (.ref o6), .val (.long (((Int32.ofNat nN) - (1 : Int32)).toInt64)), .second, .val (.int tt), .val (.int v1244_10), .val (.long (f11 (0 : Int64) (f9 (tt.toInt64) ((v1289_13 - (20 : Int64)) + ((p3 &&& (31 : Int32)).toInt64))))), .second, .val (.int pp), .val (.ref b1293), .unset, .unset, .unset] [(.int v1244_10)])) _
            refine XS.i2l X1322.here hx rfl (hb hby at_284) rfl ?_
            show Steps p.tables e below (T1322.setTop (mkF m 285 #[.val (.int p0), .val (.int p1), .val (.int p2), .val (.int p3), .val (.int p4), .val (.int (p0 &&& (3 : Int32))), .val (.ref o6), .val (.long (((Int32.ofNat nN) - (1 : Int32)).toInt64)), .second, .val (.int tt), .val (.int v1244_10), .val (.long (f11 (0 : Int64) (f9 (tt.toInt64) ((v1289_13 - (20 : Int64)) + ((p3 &&& (31 : Int32)).toInt64))))), .second, .val (.int pp), .val (.ref b1293), .unset, .unset, .unset] [(.long (v1244_10.toInt64))])) _
            refine XS.iload X1322.here hx rfl (hb hby at_285) rfl ?_
            show Steps p.tables e below (T1322.setTop (mkF m 287 #[.val (.int p0), .val (.int p1), .val (.int p2), .val (.int p3), .val (.int p4), .val (.int (p0 &&& (3 : Int32))), .val (.ref o6), .val (.long (((Int32.ofNat nN) - (1 : Int32)).toInt64)), .second, .val (.int tt), .val (.int v1244_10), .val (.long (f11 (0 : Int64) (f9 (tt.toInt64) ((v1289_13 - (20 : Int64)) + ((p3 &&& (31 : Int32)).toInt64))))), .second, .val (.int pp), .val (.ref b1293), .unset, .unset, .unset] [(.int tt), (.long (v1244_10.toInt64))])) _
            refine XS.i2l X1322.here hx rfl (hb hby at_287) rfl ?_
            show Steps p.tables e below (T1322.setTop (mkF m 288 #[.val (.int p0), .val (.int p1), .val (.int p2), .val (.int p3), .val (.int p4), .val (.int (p0 &&& (3 : Int32))), .val (.ref o6), .val (.long (((Int32.ofNat nN) - (1 : Int32)).toInt64)), .second, .val (.int tt), .val (.int v1244_10), .val (.long (f11 (0 : Int64) (f9 (tt.toInt64) ((v1289_13 - (20 : Int64)) + ((p3 &&& (31 : Int32)).toInt64))))), .second, .val (.int pp), .val (.ref b1293), .unset, .unset, .unset] [(.long (tt.toInt64)), (.long (v1244_10.toInt64))])) _
            refine XS.lload X1322.here hx rfl (hb hby at_288) rfl ?_
            show Steps p.tables e below (T1322.setTop (mkF m 290 #[.val (.int p0), .val (.int p1), .val (.int p2), .val (.int p3), .val (.int p4), .val (.int (p0 &&& (3 : Int32))), .val (.ref o6), .val (.long (((Int32.ofNat nN) - (1 : Int32)).toInt64)), .second, .val (.int tt), .val (.int v1244_10), .val (.long (f11 (0 : Int64) (f9 (tt.toInt64) ((v1289_13 - (20 : Int64)) + ((p3 &&& (31 : Int32)).toInt64))))), .second, .val (.int pp), .val (.ref b1293), .unset, .unset, .unset] [(.long (((Int32.ofNat nN) - (1 : Int32)).toInt64)), (.long (tt.toInt64)), (.long (v1244_10.toInt64))])) _
            refine XS.lsub X1322.here hx rfl (hb hby at_290) rfl ?_
            exact kt
          obtain ⟨_, _, ⟨T1328, L1328, k1328, n1328⟩, -, X1328, ⟨Lc1328, hQ1328, l1328, y1328, z1328⟩, st1328⟩ := Jvm.LawKit.callS X1322 hx (y := (⟨"java/lang/Math", "min", "(JJ)J"⟩ : MethodName)) hown (mvT hZ (hw _ (List.mem_of_getElem? (i := 107) rfl))) (mvT hZ (hw _ (List.mem_of_getElem? (i := 108) rfl))) (mvT hZ (hw _ (List.mem_of_getElem? (i := 32) rfl))) (mvT hZ (hw _ (List.mem_of_getElem? (i := 109) rfl))) (by decide) (backOf (W := 0) (rm9 l Z a0 hw [] (v1244_10.toInt64) ((tt.toInt64) - (((Int32.ofNat nN) - (1 : Int32)).toInt64)) h1322 n0 Z1_1323) hZ (hw _ (List.mem_of_getElem? (i := 109) rfl)) (hw _ (List.mem_of_getElem? (i := 32) rfl)) (by decide) (by decide)) (g := (mkF m 291 #[.val (.int p0), .val (.int p1), .val (.int p2), .val (.int p3), .val (.int p4), .val (.int (p0 &&& (3 : Int32))), .val (.ref o6), .val (.long (((Int32.ofNat nN) - (1 : Int32)).toInt64)), .second, .val (.int tt), .val (.int v1244_10), .val (.long (f11 (0 : Int64) (f9 (tt.toInt64) ((v1289_13 - (20 : Int64)) + ((p3 &&& (31 : Int32)).toInt64))))), .second, .val (.int pp), .val (.ref b1293), .unset, .unset, .unset] [(.long ((tt.toInt64) - (((Int32.ofNat nN) - (1 : Int32)).toInt64))), (.long (v1244_10.toInt64))])) rfl (by rw [hml]; rfl) (argsL := [(.long (v1244_10.toInt64)), (.long ((tt.toInt64) - (((Int32.ofNat nN) - (1 : Int32)).toInt64)))]) (rest := []) (lenOf pd_6 rfl) rfl (by show 2 * 0 + _ ≤ _; exact Nat.le_of_eq rfl) (hb hby at_291) (fun _ _ => ⟨rfl, e1322, (by decide : 9 + 0 ≤ _), (by decide : 94 + 0 ≤ _)⟩)
          dsimp only [Pt.U, Pt.locs, Pt.cells, Pt.slots] at X1328 l1328 y1328 z1328 st1328 hQ1328
          subst y1328 z1328
          obtain ⟨rfl, Nq1328, e1328⟩ := hQ1328
          have N1328 : Fr n0 L1328 := by rw [l1328]; exact Fr.app N1322 Nq1328
          refine Got.step st1328 ?_
          show Got p e below s _ _ _ _ T1328 (mkF m 294 #[.val (.int p0), .val (.int p1), .val (.int p2), .val (.int p3), .val (.int p4), .val (.int (p0 &&& (3 : Int32))), .val (.ref o6), .val (.long (((Int32.ofNat nN) - (1 : Int32)).toInt64)), .second, .val (.int tt), .val (.int v1244_10), .val (.long (f11 (0 : Int64) (f9 (tt.toInt64) ((v1289_13 - (20 : Int64)) + ((p3 &&& (31 : Int32)).toInt64))))), .second, .val (.int pp), .val (.ref b1293), .unset, .unset, .unset] [(.long (f9 (v1244_10.toInt64) ((tt.toInt64) - (((Int32.ofNat nN) - (1 : Int32)).toInt64))))])
          refine Got.step (T' := T1328) (g' := (mkF m 306 #[.val (.int p0), .val (.int p1), .val (.int p2), .val (.int p3), .val (.int p4), .val (.int (p0 &&& (3 : Int32))), .val (.ref o6), .val (.long (((Int32.ofNat nN) - (1 : Int32)).toInt64)), .second, .val (.int tt), .val (.int v1244_10), .val (.long (f11 (0 : Int64) (f9 (tt.toInt64) ((v1289_13 - (20 : Int64)) + ((p3 &&& (31 : Int32)).toInt64))))), .second, .val (.int pp), .val (.ref b1293), .val (.long (f9 (v1244_10.toInt64) ((tt.toInt64) - (((Int32.ofNat nN) - (1 : Int32)).toInt64)))), .second, .unset] [(.int (XT.cmpL ((pp.toInt64) + (8 : Int64)) (f9 (v1244_10.toInt64) ((tt.toInt64) - (((Int32.ofNat nN) - (1 : Int32)).toInt64)))))])) (fun tq kt => ?_) ?_
          · show Steps p.tables e below (T1328.setTop (mkF m 294 #[.val (.int p0), .val (.int p1), .val (.int p2), .val (.int p3), .val (.int p4), .val (.int (p0 &&& (3 : Int32))), .val (.ref o6), .val (.long (((Int32.ofNat nN) - (1 : Int32)).toInt64)), .second, .val (.int tt), .val (.int v1244_10), .val (.long (f11 (0 : Int64) (f9 (tt.toInt64) ((v1289_13 - (20 : Int64)) + ((p3 &&& (31 : Int32)).toInt64))))), .second, .val (.int pp), .val (.ref b1293), .unset, .unset, .unset] [(.long (f9 (v1244_10.toInt64) ((tt.toInt64) - (((Int32.ofNat nN) - (1 : Int32)).toInt64))))])) _
            refine XS.lstore X1328.here hx rfl (hb hby at_294) rfl (l' := #[.val (.int p0), .val (.int p1), .val (.int p2), .val (.int p3), .val (.int p4), .val (.int (p0 &&& (3 : Int32))), .val (.ref o6), .val (.long (((Int32.ofNat nN) - (1 : Int32)).toInt64)), .second, .val (.int tt), .val (.int v1244_10), .val (.long (f11 (0 : Int64) (f9 (tt.toInt64) ((v1289_13 - (20 : Int64)) + ((p3 &&& (31 : Int32)).toInt64))))), .second, .val (.int pp), .val (.ref b1293), .val (.long (f9 (v1244_10.toInt64) ((tt.toInt64) - (((Int32.ofNat nN) - (1 : Int32)).toInt64)))), .second, .unset]) rfl ?_
            show Steps p.tables e below (T1328.setTop (mkF m 296 #[.val (.int p0), .val (.int p1), .val (.int p2), .val (.int p3), .val (.int p4), .val (.int (p0 &&& (3 : Int32))), .val (.ref o6), .val (.long (((Int32.ofNat nN) - (1 : Int32)).toInt64)), .second, .val (.int tt), .val (.int v1244_10), .val (.long (f11 (0 : Int64) (f9 (tt.toInt64) ((v1289_13 - (20 : Int64)) + ((p3 &&& (31 : Int32)).toInt64))))), .second, .val (.int pp), .val (.ref b1293), .val (.long (f9 (v1244_10.toInt64) ((tt.toInt64) - (((Int32.ofNat nN) - (1 : Int32)).toInt64)))), .second, .unset] [])) _
            refine XS.iload X1328.here hx rfl (hb hby at_296) rfl ?_
            show Steps p.tables e below (T1328.setTop (mkF m 298 #[.val (.int p0), .val (.int p1), .val (.int p2), .val (.int p3), .val (.int p4), .val (.int (p0 &&& (3 : Int32))), .val (.ref o6), .val (.long (((Int32.ofNat nN) - (1 : Int32)).toInt64)), .second, .val (.int tt), .val (.int v1244_10), .val (.long (f11 (0 : Int64) (f9 (tt.toInt64) ((v1289_13 - (20 : Int64)) + ((p3 &&& (31 : Int32)).toInt64))))), .second, .val (.int pp), .val (.ref b1293), .val (.long (f9 (v1244_10.toInt64) ((tt.toInt64) - (((Int32.ofNat nN) - (1 : Int32)).toInt64)))), .second, .unset] [(.int pp)])) _
            refine XS.i2l X1328.here hx rfl (hb hby at_298) rfl ?_
            show Steps p.tables e below (T1328.setTop (mkF m 299 #[.val (.int p0), .val (.int p1), .val (.int p2), .val (.int p3), .val (.int p4), .val (.int (p0 &&& (3 : Int32))), .val (.ref o6), .val (.long (((Int32.ofNat nN) - (1 : Int32)).toInt64)), .second, .val (.int tt), .val (.int v1244_10), .val (.long (f11 (0 : Int64) (f9 (tt.toInt64) ((v1289_13 - (20 : Int64)) + ((p3 &&& (31 : Int32)).toInt64))))), .second, .val (.int pp), .val (.ref b1293), .val (.long (f9 (v1244_10.toInt64) ((tt.toInt64) - (((Int32.ofNat nN) - (1 : Int32)).toInt64)))), .second, .unset] [(.long (pp.toInt64))])) _
            refine X1328.ldc2J hx hown (mvT hZ (hw _ (List.mem_of_getElem? (i := 110) rfl))) rfl (hb hby at_299) ?_
            show Steps p.tables e below (T1328.setTop (mkF m 302 #[.val (.int p0), .val (.int p1), .val (.int p2), .val (.int p3), .val (.int p4), .val (.int (p0 &&& (3 : Int32))), .val (.ref o6), .val (.long (((Int32.ofNat nN) - (1 : Int32)).toInt64)), .second, .val (.int tt), .val (.int v1244_10), .val (.long (f11 (0 : Int64) (f9 (tt.toInt64) ((v1289_13 - (20 : Int64)) + ((p3 &&& (31 : Int32)).toInt64))))), .second, .val (.int pp), .val (.ref b1293), .val (.long (f9 (v1244_10.toInt64) ((tt.toInt64) - (((Int32.ofNat nN) - (1 : Int32)).toInt64)))), .second, .unset] [(.long (8 : Int64)), (.long (pp.toInt64))])) _
            refine XS.ladd X1328.here hx rfl (hb hby at_302) rfl ?_
            show Steps p.tables e below (T1328.setTop (mkF m 303 #[.val (.int p0), .val (.int p1), .val (.int p2), .val (.int p3), .val (.int p4), .val (.int (p0 &&& (3 : Int32))), .val (.ref o6), .val (.long (((Int32.ofNat nN) - (1 : Int32)).toInt64)), .second, .val (.int tt), .val (.int v1244_10), .val (.long (f11 (0 : Int64) (f9 (tt.toInt64) ((v1289_13 - (20 : Int64)) + ((p3 &&& (31 : Int32)).toInt64))))), .second, .val (.int pp), .val (.ref b1293), .val (.long (f9 (v1244_10.toInt64) ((tt.toInt64) - (((Int32.ofNat nN) - (1 : Int32)).toInt64)))), .second, .unset] [(.long ((pp.toInt64) + (8 : Int64)))])) _
            refine XS.lload X1328.here hx rfl (hb hby at_303) rfl ?_
            show Steps p.tables e below (T1328.setTop (mkF m 305 #[.val (.int p0), .val (.int p1), .val (.int p2), .val (.int p3), .val (.int p4), .val (.int (p0 &&& (3 : Int32))), .val (.ref o6), .val (.long (((Int32.ofNat nN) - (1 : Int32)).toInt64)), .second, .val (.int tt), .val (.int v1244_10), .val (.long (f11 (0 : Int64) (f9 (tt.toInt64) ((v1289_13 - (20 : Int64)) + ((p3 &&& (31 : Int32)).toInt64))))), .second, .val (.int pp), .val (.ref b1293), .val (.long (f9 (v1244_10.toInt64) ((tt.toInt64) - (((Int32.ofNat nN) - (1 : Int32)).toInt64)))), .second, .unset] [(.long (f9 (v1244_10.toInt64) ((tt.toInt64) - (((Int32.ofNat nN) - (1 : Int32)).toInt64)))), (.long ((pp.toInt64) + (8 : Int64)))])) _
            refine XT.lcmp X1328.here hx rfl (hb hby at_305) rfl ?_
            exact kt
          have J1329 : ∀ (k1329_0 : Int32), k1329_0 = (if (f9 (v1244_10.toInt64) ((tt.toInt64) - (((Int32.ofNat nN) - (1 : Int32)).toInt64))) < ((pp.toInt64) + (8 : Int64)) then (0 : Int32) else (1 : Int32)) → Got p e below s (fun _ L => Fr n0 L) room_1.cells room_1.slots (some (.int (1 : Int32))) T1328 (mkF m 314 #[.val (.int p0), .val (.int p1), .val (.int p2), .val (.int p3), .val (.int p4), .val (.int (p0 &&& (3 : Int32))), .val (.ref o6), .val (.long (((Int32.ofNat nN) - (1 : Int32)).toInt64)), .second, .val (.int tt), .val (.int v1244_10), .val (.long (f11 (0 : Int64) (f9 (tt.toInt64) ((v1289_13 - (20 : Int64)) + ((p3 &&& (31 : Int32)).toInt64))))), .second, .val (.int pp), .val (.ref b1293), .val (.long (f9 (v1244_10.toInt64) ((tt.toInt64) - (((Int32.ofNat nN) - (1 : Int32)).toInt64)))), .second, .unset] [(.int k1329_0)]) := by
            intro k1329_0 hk1329_0
            refine Got.step (T' := T1328) (g' := (mkF m 320 #[.val (.int p0), .val (.int p1), .val (.int p2), .val (.int p3), .val (.int p4), .val (.int (p0 &&& (3 : Int32))), .val (.ref o6), .val (.long (((Int32.ofNat nN) - (1 : Int32)).toInt64)), .second, .val (.int tt), .val (.int v1244_10), .val (.long (f11 (0 : Int64) (f9 (tt.toInt64) ((v1289_13 - (20 : Int64)) + ((p3 &&& (31 : Int32)).toInt64))))), .second, .val (.int pp), .val (.ref b1293), .val (.long (f9 (v1244_10.toInt64) ((tt.toInt64) - (((Int32.ofNat nN) - (1 : Int32)).toInt64)))), .second, .val (.int k1329_0)] [(.int pp), (.ref b1293)])) (fun tq kt => ?_) ?_
            · show Steps p.tables e below (T1328.setTop (mkF m 314 #[.val (.int p0), .val (.int p1), .val (.int p2), .val (.int p3), .val (.int p4), .val (.int (p0 &&& (3 : Int32))), .val (.ref o6), .val (.long (((Int32.ofNat nN) - (1 : Int32)).toInt64)), .second, .val (.int tt), .val (.int v1244_10), .val (.long (f11 (0 : Int64) (f9 (tt.toInt64) ((v1289_13 - (20 : Int64)) + ((p3 &&& (31 : Int32)).toInt64))))), .second, .val (.int pp), .val (.ref b1293), .val (.long (f9 (v1244_10.toInt64) ((tt.toInt64) - (((Int32.ofNat nN) - (1 : Int32)).toInt64)))), .second, .unset] [(.int k1329_0)])) _
              refine XS.istore X1328.here hx rfl (hb hby at_314) rfl (l' := #[.val (.int p0), .val (.int p1), .val (.int p2), .val (.int p3), .val (.int p4), .val (.int (p0 &&& (3 : Int32))), .val (.ref o6), .val (.long (((Int32.ofNat nN) - (1 : Int32)).toInt64)), .second, .val (.int tt), .val (.int v1244_10), .val (.long (f11 (0 : Int64) (f9 (tt.toInt64) ((v1289_13 - (20 : Int64)) + ((p3 &&& (31 : Int32)).toInt64))))), .second, .val (.int pp), .val (.ref b1293), .val (.long (f9 (v1244_10.toInt64) ((tt.toInt64) - (((Int32.ofNat nN) - (1 : Int32)).toInt64)))), .second, .val (.int k1329_0)]) rfl ?_
              show Steps p.tables e below (T1328.setTop (mkF m 316 #[.val (.int p0), .val (.int p1), .val (.int p2), .val (.int p3), .val (.int p4), .val (.int (p0 &&& (3 : Int32))), .val (.ref o6), .val (.long (((Int32.ofNat nN) - (1 : Int32)).toInt64)), .second, .val (.int tt), .val (.int v1244_10), .val (.long (f11 (0 : Int64) (f9 (tt.toInt64) ((v1289_13 - (20 : Int64)) + ((p3 &&& (31 : Int32)).toInt64))))), .second, .val (.int pp), .val (.ref b1293), .val (.long (f9 (v1244_10.toInt64) ((tt.toInt64) - (((Int32.ofNat nN) - (1 : Int32)).toInt64)))), .second, .val (.int k1329_0)] [])) _
              refine XS.aload X1328.here hx rfl (hb hby at_316) rfl rfl ?_
              show Steps p.tables e below (T1328.setTop (mkF m 318 #[.val (.int p0), .val (.int p1), .val (.int p2), .val (.int p3), .val (.int p4), .val (.int (p0 &&& (3 : Int32))), .val (.ref o6), .val (.long (((Int32.ofNat nN) - (1 : Int32)).toInt64)), .second, .val (.int tt), .val (.int v1244_10), .val (.long (f11 (0 : Int64) (f9 (tt.toInt64) ((v1289_13 - (20 : Int64)) + ((p3 &&& (31 : Int32)).toInt64))))), .second, .val (.int pp), .val (.ref b1293), .val (.long (f9 (v1244_10.toInt64) ((tt.toInt64) - (((Int32.ofNat nN) - (1 : Int32)).toInt64)))), .second, .val (.int k1329_0)] [(.ref b1293)])) _
              refine XS.iload X1328.here hx rfl (hb hby at_318) rfl ?_
              exact kt
            obtain ⟨cq1331, kq1331, qa1331, qb1331, qc1331⟩ := isOf hZ e1328 A1293_1325
            obtain ⟨_, _, ⟨T1331, L1331, k1331, n1331⟩, -, X1331, ⟨Lc1331, hQ1331, l1331, y1331, z1331⟩, st1331⟩ := X1328.virtualBack hx (y := (⟨"com/example/sidestep/sidestep/Starts", "talliesFrom", "(I)Z"⟩ : MethodName)) (z := (⟨"com/example/sidestep/sidestep/Starts", "talliesFrom", "(I)Z"⟩ : MethodName)) hown (mvT hZ (hw _ (List.mem_of_getElem? (i := 111) rfl))) (mvT hZ (hw _ (List.mem_of_getElem? (i := 112) rfl))) (notFace_of_selects (args := #[]) (mvT hZ (hw _ (List.mem_of_getElem? (i := 114) rfl)))) (mvT hZ (hw _ (List.mem_of_getElem? (i := 114) rfl))) (mvT hZ (hw _ (List.mem_of_getElem? (i := 113) rfl))) (by decide) (backOf (W := 0) (rm10 l Z a0 hw [] b1293 pp (f3 v1244_10 (tt - ((Int32.ofNat nN) - (1 : Int32)))) h1322 n0 Z1_1323 A1293_1325 G1322_wholeEnd ) hZ (hw _ (List.mem_of_getElem? (i := 115) rfl)) (hw _ (List.mem_of_getElem? (i := 4) rfl)) (by decide) (by decide)) qa1331 qc1331 (g := (mkF m 320 #[.val (.int p0), .val (.int p1), .val (.int p2), .val (.int p3), .val (.int p4), .val (.int (p0 &&& (3 : Int32))), .val (.ref o6), .val (.long (((Int32.ofNat nN) - (1 : Int32)).toInt64)), .second, .val (.int tt), .val (.int v1244_10), .val (.long (f11 (0 : Int64) (f9 (tt.toInt64) ((v1289_13 - (20 : Int64)) + ((p3 &&& (31 : Int32)).toInt64))))), .second, .val (.int pp), .val (.ref b1293), .val (.long (f9 (v1244_10.toInt64) ((tt.toInt64) - (((Int32.ofNat nN) - (1 : Int32)).toInt64)))), .second, .val (.int k1329_0)] [(.int pp), (.ref b1293)])) rfl (by rw [hml]; rfl) (Steps.refl _) (argsL := [(.int pp)]) (rest := []) (lenOf pd_7 rfl) rfl (by show 2 * 0 + _ ≤ _; exact Nat.le_of_eq rfl) (hb hby at_320) (fun _ _ => ⟨rfl, e1328, (by decide : 9 + 0 ≤ _), (by decide : 94 + 0 ≤ _)⟩)
            dsimp only [Pt.U, Pt.locs, Pt.cells, Pt.slots] at X1331 l1331 y1331 z1331 st1331 hQ1331
            subst y1331 z1331
            obtain ⟨rfl, Nq1331, e1331⟩ := hQ1331
            have N1331 : Fr n0 L1331 := by rw [l1331]; exact Fr.app N1328 Nq1331
            refine Got.hop st1331 ?_
            show Got p e below s _ _ _ _ T1331 (mkF m 323 #[.val (.int p0), .val (.int p1), .val (.int p2), .val (.int p3), .val (.int p4), .val (.int (p0 &&& (3 : Int32))), .val (.ref o6), .val (.long (((Int32.ofNat nN) - (1 : Int32)).toInt64)), .second, .val (.int tt), .val (.int v1244_10), .val (.long (f11 (0 : Int64) (f9 (tt.toInt64) ((v1289_13 - (20 : Int64)) + ((p3 &&& (31 : Int32)).toInt64))))), .second, .val (.int pp), .val (.ref b1293), .val (.long (f9 (v1244_10.toInt64) ((tt.toInt64) - (((Int32.ofNat nN) - (1 : Int32)).toInt64)))), .second, .val (.int k1329_0)] [(.int (f10 pp (f3 v1244_10 (tt - ((Int32.ofNat nN) - (1 : Int32))))))])
            refine Got.step (T' := T1331) (g' := (mkF m 333 #[.val (.int p0), .val (.int p1), .val (.int p2), .val (.int p3), .val (.int p4), .val (.int (p0 &&& (3 : Int32))), .val (.ref o6), .val (.long (((Int32.ofNat nN) - (1 : Int32)).toInt64)), .second, .val (.int tt), .val (.int v1244_10), .val (.long (f11 (0 : Int64) (f9 (tt.toInt64) ((v1289_13 - (20 : Int64)) + ((p3 &&& (31 : Int32)).toInt64))))), .second, .val (.int pp), .val (.ref b1293), .val (.long (f9 (v1244_10.toInt64) ((tt.toInt64) - (((Int32.ofNat nN) - (1 : Int32)).toInt64)))), .second, .val (.int k1329_0)] [(.int (1 : Int32))])) (fun tq kt => ?_) ?_
            · show Steps p.tables e below (T1331.setTop (mkF m 323 #[.val (.int p0), .val (.int p1), .val (.int p2), .val (.int p3), .val (.int p4), .val (.int (p0 &&& (3 : Int32))), .val (.ref o6), .val (.long (((Int32.ofNat nN) - (1 : Int32)).toInt64)), .second, .val (.int tt), .val (.int v1244_10), .val (.long (f11 (0 : Int64) (f9 (tt.toInt64) ((v1289_13 - (20 : Int64)) + ((p3 &&& (31 : Int32)).toInt64))))), .second, .val (.int pp), .val (.ref b1293), .val (.long (f9 (v1244_10.toInt64) ((tt.toInt64) - (((Int32.ofNat nN) - (1 : Int32)).toInt64)))), .second, .val (.int k1329_0)] [(.int (f10 pp (f3 v1244_10 (tt - ((Int32.ofNat nN) - (1 : Int32))))))])) _
              refine XS.iload X1331.here hx rfl (hb hby at_323) rfl ?_
              show Steps p.tables e below (T1331.setTop (mkF m 325 #[.val (.int p0), .val (.int p1), .val (.int p2), .val (.int p3), .val (.int p4), .val (.int (p0 &&& (3 : Int32))), .val (.ref o6), .val (.long (((Int32.ofNat nN) - (1 : Int32)).toInt64)), .second, .val (.int tt), .val (.int v1244_10), .val (.long (f11 (0 : Int64) (f9 (tt.toInt64) ((v1289_13 - (20 : Int64)) + ((p3 &&& (31 : Int32)).toInt64))))), .second, .val (.int pp), .val (.ref b1293), .val (.long (f9 (v1244_10.toInt64) ((tt.toInt64) - (((Int32.ofNat nN) - (1 : Int32)).toInt64)))), .second, .val (.int k1329_0)] [(.int k1329_0), (.int (f10 pp (f3 v1244_10 (tt - ((Int32.ofNat nN) - (1 : Int32))))))])) _
              refine XS.icmpNo X1331.here hx rfl (hb hby at_325) rfl (XT.ii_ne_f (own_fb (w := 0) hN htt hv1244_10 hk1329_0 hpp)) ?_
              show Steps p.tables e below (T1331.setTop (mkF m 328 #[.val (.int p0), .val (.int p1), .val (.int p2), .val (.int p3), .val (.int p4), .val (.int (p0 &&& (3 : Int32))), .val (.ref o6), .val (.long (((Int32.ofNat nN) - (1 : Int32)).toInt64)), .second, .val (.int tt), .val (.int v1244_10), .val (.long (f11 (0 : Int64) (f9 (tt.toInt64) ((v1289_13 - (20 : Int64)) + ((p3 &&& (31 : Int32)).toInt64))))), .second, .val (.int pp), .val (.ref b1293), .val (.long (f9 (v1244_10.toInt64) ((tt.toInt64) - (((Int32.ofNat nN) - (1 : Int32)).toInt64)))), .second, .val (.int k1329_0)] [])) _
              refine XS.iconst X1331.here hx rfl (hb hby at_328) ?_
              show Steps p.tables e below (T1331.setTop (mkF m 329 #[.val (.int p0), .val (.int p1), .val (.int p2), .val (.int p3), .val (.int p4), .val (.int (p0 &&& (3 : Int32))), .val (.ref o6), .val (.long (((Int32.ofNat nN) - (1 : Int32)).toInt64)), .second, .val (.int tt), .val (.int v1244_10), .val (.long (f11 (0 : Int64) (f9 (tt.toInt64) ((v1289_13 - (20 : Int64)) + ((p3 &&& (31 : Int32)).toInt64))))), .second, .val (.int pp), .val (.ref b1293), .val (.long (f9 (v1244_10.toInt64) ((tt.toInt64) - (((Int32.ofNat nN) - (1 : Int32)).toInt64)))), .second, .val (.int k1329_0)] [(.int (1 : Int32))])) _
              refine XS.goto X1331.here hx rfl (pc0 := 329) (pc' := 333) rfl (hb hby at_329) (by decide) (by decide) ?_
              exact kt
            exact Got.retN (y := (1 : Int32)) (t := .boolean) X1331 hx Bd.returns (by simp) hlk (hb hby at_333) (by decide) N1331 (by decide) (by decide)
          by_cases hc1330 : ((f9 (v1244_10.toInt64) ((tt.toInt64) - (((Int32.ofNat nN) - (1 : Int32)).toInt64))) < ((pp.toInt64) + (8 : Int64)))
          · refine Got.step (T' := T1328) (g' := (mkF m 314 #[.val (.int p0), .val (.int p1), .val (.int p2), .val (.int p3), .val (.int p4), .val (.int (p0 &&& (3 : Int32))), .val (.ref o6), .val (.long (((Int32.ofNat nN) - (1 : Int32)).toInt64)), .second, .val (.int tt), .val (.int v1244_10), .val (.long (f11 (0 : Int64) (f9 (tt.toInt64) ((v1289_13 - (20 : Int64)) + ((p3 &&& (31 : Int32)).toInt64))))), .second, .val (.int pp), .val (.ref b1293), .val (.long (f9 (v1244_10.toInt64) ((tt.toInt64) - (((Int32.ofNat nN) - (1 : Int32)).toInt64)))), .second, .unset] [(.int (0 : Int32))])) (fun tq kt => ?_) ?_
            · show Steps p.tables e below (T1328.setTop (mkF m 306 #[.val (.int p0), .val (.int p1), .val (.int p2), .val (.int p3), .val (.int p4), .val (.int (p0 &&& (3 : Int32))), .val (.ref o6), .val (.long (((Int32.ofNat nN) - (1 : Int32)).toInt64)), .second, .val (.int tt), .val (.int v1244_10), .val (.long (f11 (0 : Int64) (f9 (tt.toInt64) ((v1289_13 - (20 : Int64)) + ((p3 &&& (31 : Int32)).toInt64))))), .second, .val (.int pp), .val (.ref b1293), .val (.long (f9 (v1244_10.toInt64) ((tt.toInt64) - (((Int32.ofNat nN) - (1 : Int32)).toInt64)))), .second, .unset] [(.int (XT.cmpL ((pp.toInt64) + (8 : Int64)) (f9 (v1244_10.toInt64) ((tt.toInt64) - (((Int32.ofNat nN) - (1 : Int32)).toInt64)))))])) _
              refine XS.ifYes X1328.here hx rfl (pc0 := 306) (pc' := 313) rfl (hb hby at_306) rfl (XT.ll_gt_t hc1330) (by decide) (by decide) ?_
              show Steps p.tables e below (T1328.setTop (mkF m 313 #[.val (.int p0), .val (.int p1), .val (.int p2), .val (.int p3), .val (.int p4), .val (.int (p0 &&& (3 : Int32))), .val (.ref o6), .val (.long (((Int32.ofNat nN) - (1 : Int32)).toInt64)), .second, .val (.int tt), .val (.int v1244_10), .val (.long (f11 (0 : Int64) (f9 (tt.toInt64) ((v1289_13 - (20 : Int64)) + ((p3 &&& (31 : Int32)).toInt64))))), .second, .val (.int pp), .val (.ref b1293), .val (.long (f9 (v1244_10.toInt64) ((tt.toInt64) - (((Int32.ofNat nN) - (1 : Int32)).toInt64)))), .second, .unset] [])) _
              refine XS.iconst X1328.here hx rfl (hb hby at_313) ?_
              exact kt
            exact J1329 (0 : Int32) (if_pos hc1330).symm
          · refine Got.step (T' := T1328) (g' := (mkF m 314 #[.val (.int p0), .val (.int p1), .val (.int p2), .val (.int p3), .val (.int p4), .val (.int (p0 &&& (3 : Int32))), .val (.ref o6), .val (.long (((Int32.ofNat nN) - (1 : Int32)).toInt64)), .second, .val (.int tt), .val (.int v1244_10), .val (.long (f11 (0 : Int64) (f9 (tt.toInt64) ((v1289_13 - (20 : Int64)) + ((p3 &&& (31 : Int32)).toInt64))))), .second, .val (.int pp), .val (.ref b1293), .val (.long (f9 (v1244_10.toInt64) ((tt.toInt64) - (((Int32.ofNat nN) - (1 : Int32)).toInt64)))), .second, .unset] [(.int (1 : Int32))])) (fun tq kt => ?_) ?_
            · show Steps p.tables e below (T1328.setTop (mkF m 306 #[.val (.int p0), .val (.int p1), .val (.int p2), .val (.int p3), .val (.int p4), .val (.int (p0 &&& (3 : Int32))), .val (.ref o6), .val (.long (((Int32.ofNat nN) - (1 : Int32)).toInt64)), .second, .val (.int tt), .val (.int v1244_10), .val (.long (f11 (0 : Int64) (f9 (tt.toInt64) ((v1289_13 - (20 : Int64)) + ((p3 &&& (31 : Int32)).toInt64))))), .second, .val (.int pp), .val (.ref b1293), .val (.long (f9 (v1244_10.toInt64) ((tt.toInt64) - (((Int32.ofNat nN) - (1 : Int32)).toInt64)))), .second, .unset] [(.int (XT.cmpL ((pp.toInt64) + (8 : Int64)) (f9 (v1244_10.toInt64) ((tt.toInt64) - (((Int32.ofNat nN) - (1 : Int32)).toInt64)))))])) _
              refine XS.ifNo X1328.here hx rfl (hb hby at_306) rfl (XT.ll_gt_f hc1330) ?_
              show Steps p.tables e below (T1328.setTop (mkF m 309 #[.val (.int p0), .val (.int p1), .val (.int p2), .val (.int p3), .val (.int p4), .val (.int (p0 &&& (3 : Int32))), .val (.ref o6), .val (.long (((Int32.ofNat nN) - (1 : Int32)).toInt64)), .second, .val (.int tt), .val (.int v1244_10), .val (.long (f11 (0 : Int64) (f9 (tt.toInt64) ((v1289_13 - (20 : Int64)) + ((p3 &&& (31 : Int32)).toInt64))))), .second, .val (.int pp), .val (.ref b1293), .val (.long (f9 (v1244_10.toInt64) ((tt.toInt64) - (((Int32.ofNat nN) - (1 : Int32)).toInt64)))), .second, .unset] [])) _
              refine XS.iconst X1328.here hx rfl (hb hby at_309) ?_
              show Steps p.tables e below (T1328.setTop (mkF m 310 #[.val (.int p0), .val (.int p1), .val (.int p2), .val (.int p3), .val (.int p4), .val (.int (p0 &&& (3 : Int32))), .val (.ref o6), .val (.long (((Int32.ofNat nN) - (1 : Int32)).toInt64)), .second, .val (.int tt), .val (.int v1244_10), .val (.long (f11 (0 : Int64) (f9 (tt.toInt64) ((v1289_13 - (20 : Int64)) + ((p3 &&& (31 : Int32)).toInt64))))), .second, .val (.int pp), .val (.ref b1293), .val (.long (f9 (v1244_10.toInt64) ((tt.toInt64) - (((Int32.ofNat nN) - (1 : Int32)).toInt64)))), .second, .unset] [(.int (1 : Int32))])) _
              refine XS.goto X1328.here hx rfl (pc0 := 310) (pc' := 314) rfl (hb hby at_310) (by decide) (by decide) ?_
              exact kt
            exact J1329 (1 : Int32) (if_neg hc1330).symm
        by_cases hc1290 : ((((p4.toUInt32 >>> ((1 : Int32) &&& 31).toUInt32).toInt32) &&& (1 : Int32)) = 0)
        · refine Got.step (T' := T1244) (g' := (mkF m 226 #[.val (.int p0), .val (.int p1), .val (.int p2), .val (.int p3), .val (.int p4), .val (.int (p0 &&& (3 : Int32))), .val (.ref o6), .val (.long (((Int32.ofNat nN) - (1 : Int32)).toInt64)), .second, .val (.int tt), .val (.int v1244_10), .unset, .unset, .val (.long ((tt.toInt64) - (((Int32.ofNat nN) - (1 : Int32)).toInt64))), .second, .unset, .unset, .unset] [])) (fun tq kt => ?_) ?_
          · show Steps p.tables e below (T1244.setTop (mkF m 207 #[.val (.int p0), .val (.int p1), .val (.int p2), .val (.int p3), .val (.int p4), .val (.int (p0 &&& (3 : Int32))), .val (.ref o6), .val (.long (((Int32.ofNat nN) - (1 : Int32)).toInt64)), .second, .val (.int tt), .val (.int v1244_10), .unset, .unset, .unset, .unset, .unset, .unset, .unset] [(.int (((p4.toUInt32 >>> ((1 : Int32) &&& 31).toUInt32).toInt32) &&& (1 : Int32)))])) _
            refine XS.ifYes X1244.here hx rfl (pc0 := 207) (pc' := 218) rfl (hb hby at_207) rfl (XT.i0_eq_t hc1290) (by decide) (by decide) ?_
            show Steps p.tables e below (T1244.setTop (mkF m 218 #[.val (.int p0), .val (.int p1), .val (.int p2), .val (.int p3), .val (.int p4), .val (.int (p0 &&& (3 : Int32))), .val (.ref o6), .val (.long (((Int32.ofNat nN) - (1 : Int32)).toInt64)), .second, .val (.int tt), .val (.int v1244_10), .unset, .unset, .unset, .unset, .unset, .unset, .unset] [])) _
            refine XS.iload X1244.here hx rfl (hb hby at_218) rfl ?_
            show Steps p.tables e below (T1244.setTop (mkF m 220 #[.val (.int p0), .val (.int p1), .val (.int p2), .val (.int p3), .val (.int p4), .val (.int (p0 &&& (3 : Int32))), .val (.ref o6), .val (.long (((Int32.ofNat nN) - (1 : Int32)).toInt64)), .second, .val (.int tt), .val (.int v1244_10), .unset, .unset, .unset, .unset, .unset, .unset, .unset] [(.int tt)])) _
            refine XS.i2l X1244.here hx rfl (hb hby at_220) rfl ?_
            show Steps p.tables e below (T1244.setTop (mkF m 221 #[.val (.int p0), .val (.int p1), .val (.int p2), .val (.int p3), .val (.int p4), .val (.int (p0 &&& (3 : Int32))), .val (.ref o6), .val (.long (((Int32.ofNat nN) - (1 : Int32)).toInt64)), .second, .val (.int tt), .val (.int v1244_10), .unset, .unset, .unset, .unset, .unset, .unset, .unset] [(.long (tt.toInt64))])) _
            refine XS.lload X1244.here hx rfl (hb hby at_221) rfl ?_
            show Steps p.tables e below (T1244.setTop (mkF m 223 #[.val (.int p0), .val (.int p1), .val (.int p2), .val (.int p3), .val (.int p4), .val (.int (p0 &&& (3 : Int32))), .val (.ref o6), .val (.long (((Int32.ofNat nN) - (1 : Int32)).toInt64)), .second, .val (.int tt), .val (.int v1244_10), .unset, .unset, .unset, .unset, .unset, .unset, .unset] [(.long (((Int32.ofNat nN) - (1 : Int32)).toInt64)), (.long (tt.toInt64))])) _
            refine XS.lsub X1244.here hx rfl (hb hby at_223) rfl ?_
            show Steps p.tables e below (T1244.setTop (mkF m 224 #[.val (.int p0), .val (.int p1), .val (.int p2), .val (.int p3), .val (.int p4), .val (.int (p0 &&& (3 : Int32))), .val (.ref o6), .val (.long (((Int32.ofNat nN) - (1 : Int32)).toInt64)), .second, .val (.int tt), .val (.int v1244_10), .unset, .unset, .unset, .unset, .unset, .unset, .unset] [(.long ((tt.toInt64) - (((Int32.ofNat nN) - (1 : Int32)).toInt64)))])) _
            refine XS.lstore X1244.here hx rfl (hb hby at_224) rfl (l' := #[.val (.int p0), .val (.int p1), .val (.int p2), .val (.int p3), .val (.int p4), .val (.int (p0 &&& (3 : Int32))), .val (.ref o6), .val (.long (((Int32.ofNat nN) - (1 : Int32)).toInt64)), .second, .val (.int tt), .val (.int v1244_10), .unset, .unset, .val (.long ((tt.toInt64) - (((Int32.ofNat nN) - (1 : Int32)).toInt64))), .second, .unset, .unset, .unset]) rfl ?_
            exact kt
          exact J1289 ((tt.toInt64) - (((Int32.ofNat nN) - (1 : Int32)).toInt64)) (if_pos hc1290).symm
        · refine Got.step (T' := T1244) (g' := (mkF m 226 #[.val (.int p0), .val (.int p1), .val (.int p2), .val (.int p3), .val (.int p4), .val (.int (p0 &&& (3 : Int32))), .val (.ref o6), .val (.long (((Int32.ofNat nN) - (1 : Int32)).toInt64)), .second, .val (.int tt), .val (.int v1244_10), .unset, .unset, .val (.long (v1244_10.toInt64)), .second, .unset, .unset, .unset] [])) (fun tq kt => ?_) ?_
          · show Steps p.tables e below (T1244.setTop (mkF m 207 #[.val (.int p0), .val (.int p1), .val (.int p2), .val (.int p3), .val (.int p4), .val (.int (p0 &&& (3 : Int32))), .val (.ref o6), .val (.long (((Int32.ofNat nN) - (1 : Int32)).toInt64)), .second, .val (.int tt), .val (.int v1244_10), .unset, .unset, .unset, .unset, .unset, .unset, .unset] [(.int (((p4.toUInt32 >>> ((1 : Int32) &&& 31).toUInt32).toInt32) &&& (1 : Int32)))])) _
            refine XS.ifNo X1244.here hx rfl (hb hby at_207) rfl (XT.i0_eq_f hc1290) ?_
            show Steps p.tables e below (T1244.setTop (mkF m 210 #[.val (.int p0), .val (.int p1), .val (.int p2), .val (.int p3), .val (.int p4), .val (.int (p0 &&& (3 : Int32))), .val (.ref o6), .val (.long (((Int32.ofNat nN) - (1 : Int32)).toInt64)), .second, .val (.int tt), .val (.int v1244_10), .unset, .unset, .unset, .unset, .unset, .unset, .unset] [])) _
            refine XS.iload X1244.here hx rfl (hb hby at_210) rfl ?_
            show Steps p.tables e below (T1244.setTop (mkF m 212 #[.val (.int p0), .val (.int p1), .val (.int p2), .val (.int p3), .val (.int p4), .val (.int (p0 &&& (3 : Int32))), .val (.ref o6), .val (.long (((Int32.ofNat nN) - (1 : Int32)).toInt64)), .second, .val (.int tt), .val (.int v1244_10), .unset, .unset, .unset, .unset, .unset, .unset, .unset] [(.int v1244_10)])) _
            refine XS.i2l X1244.here hx rfl (hb hby at_212) rfl ?_
            show Steps p.tables e below (T1244.setTop (mkF m 213 #[.val (.int p0), .val (.int p1), .val (.int p2), .val (.int p3), .val (.int p4), .val (.int (p0 &&& (3 : Int32))), .val (.ref o6), .val (.long (((Int32.ofNat nN) - (1 : Int32)).toInt64)), .second, .val (.int tt), .val (.int v1244_10), .unset, .unset, .unset, .unset, .unset, .unset, .unset] [(.long (v1244_10.toInt64))])) _
            refine XS.lstore X1244.here hx rfl (hb hby at_213) rfl (l' := #[.val (.int p0), .val (.int p1), .val (.int p2), .val (.int p3), .val (.int p4), .val (.int (p0 &&& (3 : Int32))), .val (.ref o6), .val (.long (((Int32.ofNat nN) - (1 : Int32)).toInt64)), .second, .val (.int tt), .val (.int v1244_10), .unset, .unset, .val (.long (v1244_10.toInt64)), .second, .unset, .unset, .unset]) rfl ?_
            show Steps p.tables e below (T1244.setTop (mkF m 215 #[.val (.int p0), .val (.int p1), .val (.int p2), .val (.int p3), .val (.int p4), .val (.int (p0 &&& (3 : Int32))), .val (.ref o6), .val (.long (((Int32.ofNat nN) - (1 : Int32)).toInt64)), .second, .val (.int tt), .val (.int v1244_10), .unset, .unset, .val (.long (v1244_10.toInt64)), .second, .unset, .unset, .unset] [])) _
            refine XS.goto X1244.here hx rfl (pc0 := 215) (pc' := 226) rfl (hb hby at_215) (by decide) (by decide) ?_
            exact kt
          exact J1289 (v1244_10.toInt64) (if_neg hc1290).symm
    by_cases hc1245 : ((((p4.toUInt32 >>> ((2 : Int32) &&& 31).toUInt32).toInt32) &&& (1 : Int32)) = 0)
    · refine Got.step (T' := T1) (g' := (mkF m 178 #[.val (.int p0), .val (.int p1), .val (.int p2), .val (.int p3), .val (.int p4), .val (.int (p0 &&& (3 : Int32))), .val (.ref o6), .val (.long (((Int32.ofNat nN) - (1 : Int32)).toInt64)), .second, .val (.int tt), .val (.int ((((p1 &&& (2147483647 : Int32)).toInt64) % ((tt.toInt64) + (1 : Int64))).toInt32)), .unset, .unset, .unset, .unset, .unset, .unset, .unset] [])) (fun tq kt => ?_) ?_
      · show Steps p.tables e below (T1.setTop (mkF m 145 #[.val (.int p0), .val (.int p1), .val (.int p2), .val (.int p3), .val (.int p4), .val (.int (p0 &&& (3 : Int32))), .val (.ref o6), .val (.long (((Int32.ofNat nN) - (1 : Int32)).toInt64)), .second, .val (.int tt), .unset, .unset, .unset, .unset, .unset, .unset, .unset, .unset] [(.int (((p4.toUInt32 >>> ((2 : Int32) &&& 31).toUInt32).toInt32) &&& (1 : Int32)))])) _
        refine XS.ifYes X1.here hx rfl (pc0 := 145) (pc' := 164) rfl (hb hby at_145) rfl (XT.i0_eq_t hc1245) (by decide) (by decide) ?_
        show Steps p.tables e below (T1.setTop (mkF m 164 #[.val (.int p0), .val (.int p1), .val (.int p2), .val (.int p3), .val (.int p4), .val (.int (p0 &&& (3 : Int32))), .val (.ref o6), .val (.long (((Int32.ofNat nN) - (1 : Int32)).toInt64)), .second, .val (.int tt), .unset, .unset, .unset, .unset, .unset, .unset, .unset, .unset] [])) _
        refine XS.iloadN X1.here hx rfl (hb hby at_164) rfl ?_
        show Steps p.tables e below (T1.setTop (mkF m 165 #[.val (.int p0), .val (.int p1), .val (.int p2), .val (.int p3), .val (.int p4), .val (.int (p0 &&& (3 : Int32))), .val (.ref o6), .val (.long (((Int32.ofNat nN) - (1 : Int32)).toInt64)), .second, .val (.int tt), .unset, .unset, .unset, .unset, .unset, .unset, .unset, .unset] [(.int p1)])) _
        refine X1.ldcI hx hown (mvT hZ (hw _ (List.mem_of_getElem? (i := 1) rfl))) rfl (hb hby at_165) ?_
        show Steps p.tables e below (T1.setTop (mkF m 167 #[.val (.int p0), .val (.int p1), .val (.int p2), .val (.int p3), .val (.int p4), .val (.int (p0 &&& (3 : Int32))), .val (.ref o6), .val (.long (((Int32.ofNat nN) - (1 : Int32)).toInt64)), .second, .val (.int tt), .unset, .unset, .unset, .unset, .unset, .unset, .unset, .unset] [(.int (2147483647 : Int32)), (.int p1)])) _
        refine XS.iand X1.here hx rfl (hb hby at_167) rfl ?_
        show Steps p.tables e below (T1.setTop (mkF m 168 #[.val (.int p0), .val (.int p1), .val (.int p2), .val (.int p3), .val (.int p4), .val (.int (p0 &&& (3 : Int32))), .val (.ref o6), .val (.long (((Int32.ofNat nN) - (1 : Int32)).toInt64)), .second, .val (.int tt), .unset, .unset, .unset, .unset, .unset, .unset, .unset, .unset] [(.int (p1 &&& (2147483647 : Int32)))])) _
        refine XS.i2l X1.here hx rfl (hb hby at_168) rfl ?_
        show Steps p.tables e below (T1.setTop (mkF m 169 #[.val (.int p0), .val (.int p1), .val (.int p2), .val (.int p3), .val (.int p4), .val (.int (p0 &&& (3 : Int32))), .val (.ref o6), .val (.long (((Int32.ofNat nN) - (1 : Int32)).toInt64)), .second, .val (.int tt), .unset, .unset, .unset, .unset, .unset, .unset, .unset, .unset] [(.long ((p1 &&& (2147483647 : Int32)).toInt64))])) _
        refine XS.iload X1.here hx rfl (hb hby at_169) rfl ?_
        show Steps p.tables e below (T1.setTop (mkF m 171 #[.val (.int p0), .val (.int p1), .val (.int p2), .val (.int p3), .val (.int p4), .val (.int (p0 &&& (3 : Int32))), .val (.ref o6), .val (.long (((Int32.ofNat nN) - (1 : Int32)).toInt64)), .second, .val (.int tt), .unset, .unset, .unset, .unset, .unset, .unset, .unset, .unset] [(.int tt), (.long ((p1 &&& (2147483647 : Int32)).toInt64))])) _
        refine XS.i2l X1.here hx rfl (hb hby at_171) rfl ?_
        show Steps p.tables e below (T1.setTop (mkF m 172 #[.val (.int p0), .val (.int p1), .val (.int p2), .val (.int p3), .val (.int p4), .val (.int (p0 &&& (3 : Int32))), .val (.ref o6), .val (.long (((Int32.ofNat nN) - (1 : Int32)).toInt64)), .second, .val (.int tt), .unset, .unset, .unset, .unset, .unset, .unset, .unset, .unset] [(.long (tt.toInt64)), (.long ((p1 &&& (2147483647 : Int32)).toInt64))])) _
        refine XS.lconst X1.here hx rfl (hb hby at_172) ?_
        show Steps p.tables e below (T1.setTop (mkF m 173 #[.val (.int p0), .val (.int p1), .val (.int p2), .val (.int p3), .val (.int p4), .val (.int (p0 &&& (3 : Int32))), .val (.ref o6), .val (.long (((Int32.ofNat nN) - (1 : Int32)).toInt64)), .second, .val (.int tt), .unset, .unset, .unset, .unset, .unset, .unset, .unset, .unset] [(.long (1 : Int64)), (.long (tt.toInt64)), (.long ((p1 &&& (2147483647 : Int32)).toInt64))])) _
        refine XS.ladd X1.here hx rfl (hb hby at_173) rfl ?_
        show Steps p.tables e below (T1.setTop (mkF m 174 #[.val (.int p0), .val (.int p1), .val (.int p2), .val (.int p3), .val (.int p4), .val (.int (p0 &&& (3 : Int32))), .val (.ref o6), .val (.long (((Int32.ofNat nN) - (1 : Int32)).toInt64)), .second, .val (.int tt), .unset, .unset, .unset, .unset, .unset, .unset, .unset, .unset] [(.long ((tt.toInt64) + (1 : Int64))), (.long ((p1 &&& (2147483647 : Int32)).toInt64))])) _
        refine remJ X1 hx rfl (hb hby at_174) rfl (own_nz p2 htt) ?_
        show Steps p.tables e below (T1.setTop (mkF m 175 #[.val (.int p0), .val (.int p1), .val (.int p2), .val (.int p3), .val (.int p4), .val (.int (p0 &&& (3 : Int32))), .val (.ref o6), .val (.long (((Int32.ofNat nN) - (1 : Int32)).toInt64)), .second, .val (.int tt), .unset, .unset, .unset, .unset, .unset, .unset, .unset, .unset] [(.long (((p1 &&& (2147483647 : Int32)).toInt64) % ((tt.toInt64) + (1 : Int64))))])) _
        refine XS.l2i X1.here hx rfl (hb hby at_175) rfl ?_
        show Steps p.tables e below (T1.setTop (mkF m 176 #[.val (.int p0), .val (.int p1), .val (.int p2), .val (.int p3), .val (.int p4), .val (.int (p0 &&& (3 : Int32))), .val (.ref o6), .val (.long (((Int32.ofNat nN) - (1 : Int32)).toInt64)), .second, .val (.int tt), .unset, .unset, .unset, .unset, .unset, .unset, .unset, .unset] [(.int ((((p1 &&& (2147483647 : Int32)).toInt64) % ((tt.toInt64) + (1 : Int64))).toInt32))])) _
        refine XS.istore X1.here hx rfl (hb hby at_176) rfl (l' := #[.val (.int p0), .val (.int p1), .val (.int p2), .val (.int p3), .val (.int p4), .val (.int (p0 &&& (3 : Int32))), .val (.ref o6), .val (.long (((Int32.ofNat nN) - (1 : Int32)).toInt64)), .second, .val (.int tt), .val (.int ((((p1 &&& (2147483647 : Int32)).toInt64) % ((tt.toInt64) + (1 : Int64))).toInt32)), .unset, .unset, .unset, .unset, .unset, .unset, .unset]) rfl ?_
        exact kt
      exact J1244 _ _ _ X1 e1 N1 ((((p1 &&& (2147483647 : Int32)).toInt64) % ((tt.toInt64) + (1 : Int64))).toInt32) (if_pos hc1245).symm Z1 V6
    · refine Got.step (T' := T1) (g' := (mkF m 156 #[.val (.int p0), .val (.int p1), .val (.int p2), .val (.int p3), .val (.int p4), .val (.int (p0 &&& (3 : Int32))), .val (.ref o6), .val (.long (((Int32.ofNat nN) - (1 : Int32)).toInt64)), .second, .val (.int tt), .unset, .unset, .unset, .unset, .unset, .unset, .unset, .unset] [(.int (tt - (p1 &&& (15 : Int32)))), (.int (0 : Int32))])) (fun tq kt => ?_) ?_
      · show Steps p.tables e below (T1.setTop (mkF m 145 #[.val (.int p0), .val (.int p1), .val (.int p2), .val (.int p3), .val (.int p4), .val (.int (p0 &&& (3 : Int32))), .val (.ref o6), .val (.long (((Int32.ofNat nN) - (1 : Int32)).toInt64)), .second, .val (.int tt), .unset, .unset, .unset, .unset, .unset, .unset, .unset, .unset] [(.int (((p4.toUInt32 >>> ((2 : Int32) &&& 31).toUInt32).toInt32) &&& (1 : Int32)))])) _
        refine XS.ifNo X1.here hx rfl (hb hby at_145) rfl (XT.i0_eq_f hc1245) ?_
        show Steps p.tables e below (T1.setTop (mkF m 148 #[.val (.int p0), .val (.int p1), .val (.int p2), .val (.int p3), .val (.int p4), .val (.int (p0 &&& (3 : Int32))), .val (.ref o6), .val (.long (((Int32.ofNat nN) - (1 : Int32)).toInt64)), .second, .val (.int tt), .unset, .unset, .unset, .unset, .unset, .unset, .unset, .unset] [])) _
        refine XS.iconst X1.here hx rfl (hb hby at_148) ?_
        show Steps p.tables e below (T1.setTop (mkF m 149 #[.val (.int p0), .val (.int p1), .val (.int p2), .val (.int p3), .val (.int p4), .val (.int (p0 &&& (3 : Int32))), .val (.ref o6), .val (.long (((Int32.ofNat nN) - (1 : Int32)).toInt64)), .second, .val (.int tt), .unset, .unset, .unset, .unset, .unset, .unset, .unset, .unset] [(.int (0 : Int32))])) _
        refine XS.iload X1.here hx rfl (hb hby at_149) rfl ?_
        show Steps p.tables e below (T1.setTop (mkF m 151 #[.val (.int p0), .val (.int p1), .val (.int p2), .val (.int p3), .val (.int p4), .val (.int (p0 &&& (3 : Int32))), .val (.ref o6), .val (.long (((Int32.ofNat nN) - (1 : Int32)).toInt64)), .second, .val (.int tt), .unset, .unset, .unset, .unset, .unset, .unset, .unset, .unset] [(.int tt), (.int (0 : Int32))])) _
        refine XS.iloadN X1.here hx rfl (hb hby at_151) rfl ?_
        show Steps p.tables e below (T1.setTop (mkF m 152 #[.val (.int p0), .val (.int p1), .val (.int p2), .val (.int p3), .val (.int p4), .val (.int (p0 &&& (3 : Int32))), .val (.ref o6), .val (.long (((Int32.ofNat nN) - (1 : Int32)).toInt64)), .second, .val (.int tt), .unset, .unset, .unset, .unset, .unset, .unset, .unset, .unset] [(.int p1), (.int tt), (.int (0 : Int32))])) _
        refine XS.bipush X1.here hx rfl (hb hby at_152) ?_
        show Steps p.tables e below (T1.setTop (mkF m 154 #[.val (.int p0), .val (.int p1), .val (.int p2), .val (.int p3), .val (.int p4), .val (.int (p0 &&& (3 : Int32))), .val (.ref o6), .val (.long (((Int32.ofNat nN) - (1 : Int32)).toInt64)), .second, .val (.int tt), .unset, .unset, .unset, .unset, .unset, .unset, .unset, .unset] [(.int (15 : Int32)), (.int p1), (.int tt), (.int (0 : Int32))])) _
        refine XS.iand X1.here hx rfl (hb hby at_154) rfl ?_
        show Steps p.tables e below (T1.setTop (mkF m 155 #[.val (.int p0), .val (.int p1), .val (.int p2), .val (.int p3), .val (.int p4), .val (.int (p0 &&& (3 : Int32))), .val (.ref o6), .val (.long (((Int32.ofNat nN) - (1 : Int32)).toInt64)), .second, .val (.int tt), .unset, .unset, .unset, .unset, .unset, .unset, .unset, .unset] [(.int (p1 &&& (15 : Int32))), (.int tt), (.int (0 : Int32))])) _
        refine XS.isub X1.here hx rfl (hb hby at_155) rfl ?_
        exact kt
      obtain ⟨_, _, ⟨T1246, L1246, k1246, n1246⟩, -, X1246, ⟨Lc1246, hQ1246, l1246, y1246, z1246⟩, st1246⟩ := Jvm.LawKit.callS X1 hx (y := (⟨"java/lang/Math", "max", "(II)I"⟩ : MethodName)) hown (mvT hZ (hw _ (List.mem_of_getElem? (i := 116) rfl))) (mvT hZ (hw _ (List.mem_of_getElem? (i := 39) rfl))) (mvT hZ (hw _ (List.mem_of_getElem? (i := 32) rfl))) (mvT hZ (hw _ (List.mem_of_getElem? (i := 40) rfl))) (by decide) (backOf (W := 0) (rm4 l Z a0 hw [] (0 : Int32) (tt - (p1 &&& (15 : Int32))) h1 n0 Z1) hZ (hw _ (List.mem_of_getElem? (i := 40) rfl)) (hw _ (List.mem_of_getElem? (i := 32) rfl)) (by decide) (by decide)) (g := (mkF m 156 #[.val (.int p0), .val (.int p1), .val (.int p2), .val (.int p3), .val (.int p4), .val (.int (p0 &&& (3 : Int32))), .val (.ref o6), .val (.long (((Int32.ofNat nN) - (1 : Int32)).toInt64)), .second, .val (.int tt), .unset, .unset, .unset, .unset, .unset, .unset, .unset, .unset] [(.int (tt - (p1 &&& (15 : Int32)))), (.int (0 : Int32))])) rfl (by rw [hml]; rfl) (argsL := [(.int (0 : Int32)), (.int (tt - (p1 &&& (15 : Int32))))]) (rest := []) (lenOf pd_0 rfl) rfl (by show 2 * 0 + _ ≤ _; exact Nat.le_of_eq rfl) (hb hby at_156) (fun _ _ => ⟨rfl, e1, (by decide : 1 + 0 ≤ _), (by decide : 9 + 0 ≤ _)⟩)
      dsimp only [Pt.U, Pt.locs, Pt.cells, Pt.slots] at X1246 l1246 y1246 z1246 st1246 hQ1246
      subst y1246 z1246
      obtain ⟨rfl, Nq1246, e1246⟩ := hQ1246
      have N1246 : Fr n0 L1246 := by rw [l1246]; exact Fr.app N1 Nq1246
      refine Got.step st1246 ?_
      show Got p e below s _ _ _ _ T1246 (mkF m 159 #[.val (.int p0), .val (.int p1), .val (.int p2), .val (.int p3), .val (.int p4), .val (.int (p0 &&& (3 : Int32))), .val (.ref o6), .val (.long (((Int32.ofNat nN) - (1 : Int32)).toInt64)), .second, .val (.int tt), .unset, .unset, .unset, .unset, .unset, .unset, .unset, .unset] [(.int (f4 (0 : Int32) (tt - (p1 &&& (15 : Int32)))))])
      refine Got.step (T' := T1246) (g' := (mkF m 178 #[.val (.int p0), .val (.int p1), .val (.int p2), .val (.int p3), .val (.int p4), .val (.int (p0 &&& (3 : Int32))), .val (.ref o6), .val (.long (((Int32.ofNat nN) - (1 : Int32)).toInt64)), .second, .val (.int tt), .val (.int (f4 (0 : Int32) (tt - (p1 &&& (15 : Int32))))), .unset, .unset, .unset, .unset, .unset, .unset, .unset] [])) (fun tq kt => ?_) ?_
      · show Steps p.tables e below (T1246.setTop (mkF m 159 #[.val (.int p0), .val (.int p1), .val (.int p2), .val (.int p3), .val (.int p4), .val (.int (p0 &&& (3 : Int32))), .val (.ref o6), .val (.long (((Int32.ofNat nN) - (1 : Int32)).toInt64)), .second, .val (.int tt), .unset, .unset, .unset, .unset, .unset, .unset, .unset, .unset] [(.int (f4 (0 : Int32) (tt - (p1 &&& (15 : Int32)))))])) _
        refine XS.istore X1246.here hx rfl (hb hby at_159) rfl (l' := #[.val (.int p0), .val (.int p1), .val (.int p2), .val (.int p3), .val (.int p4), .val (.int (p0 &&& (3 : Int32))), .val (.ref o6), .val (.long (((Int32.ofNat nN) - (1 : Int32)).toInt64)), .second, .val (.int tt), .val (.int (f4 (0 : Int32) (tt - (p1 &&& (15 : Int32))))), .unset, .unset, .unset, .unset, .unset, .unset, .unset]) rfl ?_
        show Steps p.tables e below (T1246.setTop (mkF m 161 #[.val (.int p0), .val (.int p1), .val (.int p2), .val (.int p3), .val (.int p4), .val (.int (p0 &&& (3 : Int32))), .val (.ref o6), .val (.long (((Int32.ofNat nN) - (1 : Int32)).toInt64)), .second, .val (.int tt), .val (.int (f4 (0 : Int32) (tt - (p1 &&& (15 : Int32))))), .unset, .unset, .unset, .unset, .unset, .unset, .unset] [])) _
        refine XS.goto X1246.here hx rfl (pc0 := 161) (pc' := 178) rfl (hb hby at_161) (by decide) (by decide) ?_
        exact kt
      exact J1244 _ _ _ X1246 e1246 N1246 (f4 (0 : Int32) (tt - (p1 &&& (15 : Int32)))) (if_neg hc1245).symm Z1 V6
  refine Got.step (T' := s₁) (g' := (mkF m 7 #[.val (.int p0), .val (.int p1), .val (.int p2), .val (.int p3), .val (.int p4), .val (.int (p0 &&& (3 : Int32))), .unset, .unset, .unset, .unset, .unset, .unset, .unset, .unset, .unset, .unset, .unset, .unset] [(.int (p0 &&& (3 : Int32)))])) (fun tq kt => ?_) ?_
  · show Steps p.tables e below (s₁.setTop (mkF m 0 #[.val (.int p0), .val (.int p1), .val (.int p2), .val (.int p3), .val (.int p4), .unset, .unset, .unset, .unset, .unset, .unset, .unset, .unset, .unset, .unset, .unset, .unset, .unset] [])) _
    refine XS.iloadN X0.here hx rfl (hb hby at_0) rfl ?_
    show Steps p.tables e below (s₁.setTop (mkF m 1 #[.val (.int p0), .val (.int p1), .val (.int p2), .val (.int p3), .val (.int p4), .unset, .unset, .unset, .unset, .unset, .unset, .unset, .unset, .unset, .unset, .unset, .unset, .unset] [(.int p0)])) _
    refine XS.iconst X0.here hx rfl (hb hby at_1) ?_
    show Steps p.tables e below (s₁.setTop (mkF m 2 #[.val (.int p0), .val (.int p1), .val (.int p2), .val (.int p3), .val (.int p4), .unset, .unset, .unset, .unset, .unset, .unset, .unset, .unset, .unset, .unset, .unset, .unset, .unset] [(.int (3 : Int32)), (.int p0)])) _
    refine XS.iand X0.here hx rfl (hb hby at_2) rfl ?_
    show Steps p.tables e below (s₁.setTop (mkF m 3 #[.val (.int p0), .val (.int p1), .val (.int p2), .val (.int p3), .val (.int p4), .unset, .unset, .unset, .unset, .unset, .unset, .unset, .unset, .unset, .unset, .unset, .unset, .unset] [(.int (p0 &&& (3 : Int32)))])) _
    refine XS.istore X0.here hx rfl (hb hby at_3) rfl (l' := #[.val (.int p0), .val (.int p1), .val (.int p2), .val (.int p3), .val (.int p4), .val (.int (p0 &&& (3 : Int32))), .unset, .unset, .unset, .unset, .unset, .unset, .unset, .unset, .unset, .unset, .unset, .unset]) rfl ?_
    show Steps p.tables e below (s₁.setTop (mkF m 5 #[.val (.int p0), .val (.int p1), .val (.int p2), .val (.int p3), .val (.int p4), .val (.int (p0 &&& (3 : Int32))), .unset, .unset, .unset, .unset, .unset, .unset, .unset, .unset, .unset, .unset, .unset, .unset] [])) _
    refine XS.iload X0.here hx rfl (hb hby at_5) rfl ?_
    exact kt
  by_cases hc1198 : ((p0 &&& (3 : Int32)) = 0)
  · refine Got.step (T' := s₁) (g' := (mkF m 11 #[.val (.int p0), .val (.int p1), .val (.int p2), .val (.int p3), .val (.int p4), .val (.int (p0 &&& (3 : Int32))), .unset, .unset, .unset, .unset, .unset, .unset, .unset, .unset, .unset, .unset, .unset, .unset] [(.int (1 : Int32))])) (fun tq kt => ?_) ?_
    · show Steps p.tables e below (s₁.setTop (mkF m 7 #[.val (.int p0), .val (.int p1), .val (.int p2), .val (.int p3), .val (.int p4), .val (.int (p0 &&& (3 : Int32))), .unset, .unset, .unset, .unset, .unset, .unset, .unset, .unset, .unset, .unset, .unset, .unset] [(.int (p0 &&& (3 : Int32)))])) _
      refine XS.ifNo X0.here hx rfl (hb hby at_7) rfl (XT.i0_ne_f hc1198) ?_
      show Steps p.tables e below (s₁.setTop (mkF m 10 #[.val (.int p0), .val (.int p1), .val (.int p2), .val (.int p3), .val (.int p4), .val (.int (p0 &&& (3 : Int32))), .unset, .unset, .unset, .unset, .unset, .unset, .unset, .unset, .unset, .unset, .unset, .unset] [])) _
      refine XS.iconst X0.here hx rfl (hb hby at_10) ?_
      exact kt
    obtain ⟨T1199, h1199, k1199, X1199, e1199, E1199, A1199, st1199⟩ := newP X0 hx hZ (hw _ (List.mem_of_getElem? (i := 0) rfl)) e0 (g := (mkF m 11 #[.val (.int p0), .val (.int p1), .val (.int p2), .val (.int p3), .val (.int p4), .val (.int (p0 &&& (3 : Int32))), .unset, .unset, .unset, .unset, .unset, .unset, .unset, .unset, .unset, .unset, .unset, .unset] [(.int (1 : Int32))])) rfl (hb hby at_11) rfl (by decide) (cap := 1) (by decide) (by decide) (by decide) (by decide)
    obtain ⟨b1199, g1199⟩ : ∃ z, z = h0.size := ⟨_, rfl⟩
    rw [← g1199] at A1199 st1199
    have gn_b1199 : n0 ≤ b1199 := by rw [g1199]; exact Z0
    have Z0_1200 : n0 ≤ h1199.size := (Nat.le_trans Z0 E1199.1)
    have V1199 : Arv Z h1199 b1199 k1199 .int (1 : Int32) [(.int (0 : Int32))] (.int (0 : Int32)) := (Arv.new A1199 (by decide)).pad (pad_rep [] (.int (0 : Int32)) 1)
    refine Got.step st1199 ?_
    show Got p e below s _ _ _ _ T1199 (mkF m 13 #[.val (.int p0), .val (.int p1), .val (.int p2), .val (.int p3), .val (.int p4), .val (.int (p0 &&& (3 : Int32))), .unset, .unset, .unset, .unset, .unset, .unset, .unset, .unset, .unset, .unset, .unset, .unset] [(.ref b1199)])
    refine Got.step (T' := T1199) (g' := (mkF m 16 #[.val (.int p0), .val (.int p1), .val (.int p2), .val (.int p3), .val (.int p4), .val (.int (p0 &&& (3 : Int32))), .unset, .unset, .unset, .unset, .unset, .unset, .unset, .unset, .unset, .unset, .unset, .unset] [(.int p0), (.int (0 : Int32)), (.ref b1199), (.ref b1199)])) (fun tq kt => ?_) ?_
    · show Steps p.tables e below (T1199.setTop (mkF m 13 #[.val (.int p0), .val (.int p1), .val (.int p2), .val (.int p3), .val (.int p4), .val (.int (p0 &&& (3 : Int32))), .unset, .unset, .unset, .unset, .unset, .unset, .unset, .unset, .unset, .unset, .unset, .unset] [(.ref b1199)])) _
      refine XS.dup X1199.here hx rfl (hb hby at_13) rfl rfl ?_
      show Steps p.tables e below (T1199.setTop (mkF m 14 #[.val (.int p0), .val (.int p1), .val (.int p2), .val (.int p3), .val (.int p4), .val (.int (p0 &&& (3 : Int32))), .unset, .unset, .unset, .unset, .unset, .unset, .unset, .unset, .unset, .unset, .unset, .unset] [(.ref b1199), (.ref b1199)])) _
      refine XS.iconst X1199.here hx rfl (hb hby at_14) ?_
      show Steps p.tables e below (T1199.setTop (mkF m 15 #[.val (.int p0), .val (.int p1), .val (.int p2), .val (.int p3), .val (.int p4), .val (.int (p0 &&& (3 : Int32))), .unset, .unset, .unset, .unset, .unset, .unset, .unset, .unset, .unset, .unset, .unset, .unset] [(.int (0 : Int32)), (.ref b1199), (.ref b1199)])) _
      refine XS.iloadN X1199.here hx rfl (hb hby at_15) rfl ?_
      exact kt
    obtain ⟨cl1201, Ar1201, q1201, S1201, M1201, H1201, G1201⟩ := (id V1199)
    have hin1201 : ¬ ((0 : Int32) < 0 ∨ cl1201.slots.size ≤ ((0 : Int32)).toNatClampNeg) := inb_of S1201 ⟨by decide, by decide⟩
    obtain ⟨T1201, h1201, X1201, e1201, W1201, st1201⟩ := stI X1199 hx hZ e1199 Ar1201 (j := (0 : Int32)) hin1201 (g := (mkF m 16 #[.val (.int p0), .val (.int p1), .val (.int p2), .val (.int p3), .val (.int p4), .val (.int (p0 &&& (3 : Int32))), .unset, .unset, .unset, .unset, .unset, .unset, .unset, .unset, .unset, .unset, .unset, .unset] [(.int p0), (.int (0 : Int32)), (.ref b1199), (.ref b1199)])) rfl rfl (hb hby at_16)
    have Z0_1202 : n0 ≤ h1201.size := (Nat.le_trans Z0_1200 (Keep.of_wr W1201).1)
    have V1201 : Arv Z h1201 b1199 k1199 .int (1 : Int32) [(.int p0)] (.int (0 : Int32)) := Arv.set Ar1201 q1201 S1201 M1201 H1201 G1201 rfl W1201 0 rfl (Nat.le_of_ble_eq_true rfl)
    have N1201 := Fr.snoc X1201 N0 gn_b1199
    refine Got.step st1201 ?_
    show Got p e below s _ _ _ _ T1201 (mkF m 17 #[.val (.int p0), .val (.int p1), .val (.int p2), .val (.int p3), .val (.int p4), .val (.int (p0 &&& (3 : Int32))), .unset, .unset, .unset, .unset, .unset, .unset, .unset, .unset, .unset, .unset, .unset, .unset] [(.ref b1199)])
    refine Got.step (T' := T1201) (g' := (mkF m 125 #[.val (.int p0), .val (.int p1), .val (.int p2), .val (.int p3), .val (.int p4), .val (.int (p0 &&& (3 : Int32))), .val (.ref b1199), .unset, .unset, .unset, .unset, .unset, .unset, .unset, .unset, .unset, .unset, .unset] [])) (fun tq kt => ?_) ?_
    · show Steps p.tables e below (T1201.setTop (mkF m 17 #[.val (.int p0), .val (.int p1), .val (.int p2), .val (.int p3), .val (.int p4), .val (.int (p0 &&& (3 : Int32))), .unset, .unset, .unset, .unset, .unset, .unset, .unset, .unset, .unset, .unset, .unset, .unset] [(.ref b1199)])) _
      refine XS.astore X1201.here hx rfl (hb hby at_17) rfl rfl (l' := #[.val (.int p0), .val (.int p1), .val (.int p2), .val (.int p3), .val (.int p4), .val (.int (p0 &&& (3 : Int32))), .val (.ref b1199), .unset, .unset, .unset, .unset, .unset, .unset, .unset, .unset, .unset, .unset, .unset]) rfl ?_
      show Steps p.tables e below (T1201.setTop (mkF m 19 #[.val (.int p0), .val (.int p1), .val (.int p2), .val (.int p3), .val (.int p4), .val (.int (p0 &&& (3 : Int32))), .val (.ref b1199), .unset, .unset, .unset, .unset, .unset, .unset, .unset, .unset, .unset, .unset, .unset] [])) _
      refine XS.goto X1201.here hx rfl (pc0 := 19) (pc' := 125) rfl (hb hby at_19) (by decide) (by decide) ?_
      exact kt
    exact J125 _ _ _ (X1201.more (by decide) (by decide)) e1201 N1201 Z0_1202 b1199 gn_b1199 k1199 1 [p0] (by decide) V1201
  · refine Got.step (T' := s₁) (g' := (mkF m 25 #[.val (.int p0), .val (.int p1), .val (.int p2), .val (.int p3), .val (.int p4), .val (.int (p0 &&& (3 : Int32))), .unset, .unset, .unset, .unset, .unset, .unset, .unset, .unset, .unset, .unset, .unset, .unset] [(.int (1 : Int32)), (.int (p0 &&& (3 : Int32)))])) (fun tq kt => ?_) ?_
    · show Steps p.tables e below (s₁.setTop (mkF m 7 #[.val (.int p0), .val (.int p1), .val (.int p2), .val (.int p3), .val (.int p4), .val (.int (p0 &&& (3 : Int32))), .unset, .unset, .unset, .unset, .unset, .unset, .unset, .unset, .unset, .unset, .unset, .unset] [(.int (p0 &&& (3 : Int32)))])) _
      refine XS.ifYes X0.here hx rfl (pc0 := 7) (pc' := 22) rfl (hb hby at_7) rfl (XT.i0_ne_t hc1198) (by decide) (by decide) ?_
      show Steps p.tables e below (s₁.setTop (mkF m 22 #[.val (.int p0), .val (.int p1), .val (.int p2), .val (.int p3), .val (.int p4), .val (.int (p0 &&& (3 : Int32))), .unset, .unset, .unset, .unset, .unset, .unset, .unset, .unset, .unset, .unset, .unset, .unset] [])) _
      refine XS.iload X0.here hx rfl (hb hby at_22) rfl ?_
      show Steps p.tables e below (s₁.setTop (mkF m 24 #[.val (.int p0), .val (.int p1), .val (.int p2), .val (.int p3), .val (.int p4), .val (.int (p0 &&& (3 : Int32))), .unset, .unset, .unset, .unset, .unset, .unset, .unset, .unset, .unset, .unset, .unset, .unset] [(.int (p0 &&& (3 : Int32)))])) _
      refine XS.iconst X0.here hx rfl (hb hby at_24) ?_
      exact kt
    by_cases hc1203 : ((p0 &&& (3 : Int32)) = (1 : Int32))
    · refine Got.step (T' := s₁) (g' := (mkF m 29 #[.val (.int p0), .val (.int p1), .val (.int p2), .val (.int p3), .val (.int p4), .val (.int (p0 &&& (3 : Int32))), .unset, .unset, .unset, .unset, .unset, .unset, .unset, .unset, .unset, .unset, .unset, .unset] [(.int (2 : Int32))])) (fun tq kt => ?_) ?_
      · show Steps p.tables e below (s₁.setTop (mkF m 25 #[.val (.int p0), .val (.int p1), .val (.int p2), .val (.int p3), .val (.int p4), .val (.int (p0 &&& (3 : Int32))), .unset, .unset, .unset, .unset, .unset, .unset, .unset, .unset, .unset, .unset, .unset, .unset] [(.int (1 : Int32)), (.int (p0 &&& (3 : Int32)))])) _
        refine XS.icmpNo X0.here hx rfl (hb hby at_25) rfl (XT.ii_ne_f hc1203) ?_
        show Steps p.tables e below (s₁.setTop (mkF m 28 #[.val (.int p0), .val (.int p1), .val (.int p2), .val (.int p3), .val (.int p4), .val (.int (p0 &&& (3 : Int32))), .unset, .unset, .unset, .unset, .unset, .unset, .unset, .unset, .unset, .unset, .unset, .unset] [])) _
        refine XS.iconst X0.here hx rfl (hb hby at_28) ?_
        exact kt
      obtain ⟨T1204, h1204, k1204, X1204, e1204, E1204, A1204, st1204⟩ := newP X0 hx hZ (hw _ (List.mem_of_getElem? (i := 0) rfl)) e0 (g := (mkF m 29 #[.val (.int p0), .val (.int p1), .val (.int p2), .val (.int p3), .val (.int p4), .val (.int (p0 &&& (3 : Int32))), .unset, .unset, .unset, .unset, .unset, .unset, .unset, .unset, .unset, .unset, .unset, .unset] [(.int (2 : Int32))])) rfl (hb hby at_29) rfl (by decide) (cap := 2) (by decide) (by decide) (by decide) (by decide)
      obtain ⟨b1204, g1204⟩ : ∃ z, z = h0.size := ⟨_, rfl⟩
      rw [← g1204] at A1204 st1204
      have gn_b1204 : n0 ≤ b1204 := by rw [g1204]; exact Z0
      have Z0_1205 : n0 ≤ h1204.size := (Nat.le_trans Z0 E1204.1)
      have V1204 : Arv Z h1204 b1204 k1204 .int (2 : Int32) [(.int (0 : Int32)), (.int (0 : Int32))] (.int (0 : Int32)) := (Arv.new A1204 (by decide)).pad (pad_rep [] (.int (0 : Int32)) 2)
      refine Got.step st1204 ?_
      show Got p e below s _ _ _ _ T1204 (mkF m 31 #[.val (.int p0), .val (.int p1), .val (.int p2), .val (.int p3), .val (.int p4), .val (.int (p0 &&& (3 : Int32))), .unset, .unset, .unset, .unset, .unset, .unset, .unset, .unset, .unset, .unset, .unset, .unset] [(.ref b1204)])
      refine Got.step (T' := T1204) (g' := (mkF m 34 #[.val (.int p0), .val (.int p1), .val (.int p2), .val (.int p3), .val (.int p4), .val (.int (p0 &&& (3 : Int32))), .unset, .unset, .unset, .unset, .unset, .unset, .unset, .unset, .unset, .unset, .unset, .unset] [(.int p0), (.int (0 : Int32)), (.ref b1204), (.ref b1204)])) (fun tq kt => ?_) ?_
      · show Steps p.tables e below (T1204.setTop (mkF m 31 #[.val (.int p0), .val (.int p1), .val (.int p2), .val (.int p3), .val (.int p4), .val (.int (p0 &&& (3 : Int32))), .unset, .unset, .unset, .unset, .unset, .unset, .unset, .unset, .unset, .unset, .unset, .unset] [(.ref b1204)])) _
        refine XS.dup X1204.here hx rfl (hb hby at_31) rfl rfl ?_
        show Steps p.tables e below (T1204.setTop (mkF m 32 #[.val (.int p0), .val (.int p1), .val (.int p2), .val (.int p3), .val (.int p4), .val (.int (p0 &&& (3 : Int32))), .unset, .unset, .unset, .unset, .unset, .unset, .unset, .unset, .unset, .unset, .unset, .unset] [(.ref b1204), (.ref b1204)])) _
        refine XS.iconst X1204.here hx rfl (hb hby at_32) ?_
        show Steps p.tables e below (T1204.setTop (mkF m 33 #[.val (.int p0), .val (.int p1), .val (.int p2), .val (.int p3), .val (.int p4), .val (.int (p0 &&& (3 : Int32))), .unset, .unset, .unset, .unset, .unset, .unset, .unset, .unset, .unset, .unset, .unset, .unset] [(.int (0 : Int32)), (.ref b1204), (.ref b1204)])) _
        refine XS.iloadN X1204.here hx rfl (hb hby at_33) rfl ?_
        exact kt
      obtain ⟨cl1206, Ar1206, q1206, S1206, M1206, H1206, G1206⟩ := (id V1204)
      have hin1206 : ¬ ((0 : Int32) < 0 ∨ cl1206.slots.size ≤ ((0 : Int32)).toNatClampNeg) := inb_of S1206 ⟨by decide, by decide⟩
      obtain ⟨T1206, h1206, X1206, e1206, W1206, st1206⟩ := stI X1204 hx hZ e1204 Ar1206 (j := (0 : Int32)) hin1206 (g := (mkF m 34 #[.val (.int p0), .val (.int p1), .val (.int p2), .val (.int p3), .val (.int p4), .val (.int (p0 &&& (3 : Int32))), .unset, .unset, .unset, .unset, .unset, .unset, .unset, .unset, .unset, .unset, .unset, .unset] [(.int p0), (.int (0 : Int32)), (.ref b1204), (.ref b1204)])) rfl rfl (hb hby at_34)
      have Z0_1207 : n0 ≤ h1206.size := (Nat.le_trans Z0_1205 (Keep.of_wr W1206).1)
      have V1206 : Arv Z h1206 b1204 k1204 .int (2 : Int32) [(.int p0), (.int (0 : Int32))] (.int (0 : Int32)) := Arv.set Ar1206 q1206 S1206 M1206 H1206 G1206 rfl W1206 0 rfl (Nat.le_of_ble_eq_true rfl)
      have N1206 := Fr.snoc X1206 N0 gn_b1204
      refine Got.step st1206 ?_
      show Got p e below s _ _ _ _ T1206 (mkF m 35 #[.val (.int p0), .val (.int p1), .val (.int p2), .val (.int p3), .val (.int p4), .val (.int (p0 &&& (3 : Int32))), .unset, .unset, .unset, .unset, .unset, .unset, .unset, .unset, .unset, .unset, .unset, .unset] [(.ref b1204)])
      refine Got.step (T' := T1206) (g' := (mkF m 38 #[.val (.int p0), .val (.int p1), .val (.int p2), .val (.int p3), .val (.int p4), .val (.int (p0 &&& (3 : Int32))), .unset, .unset, .unset, .unset, .unset, .unset, .unset, .unset, .unset, .unset, .unset, .unset] [(.int p1), (.int (1 : Int32)), (.ref b1204), (.ref b1204)])) (fun tq kt => ?_) ?_
      · show Steps p.tables e below (T1206.setTop (mkF m 35 #[.val (.int p0), .val (.int p1), .val (.int p2), .val (.int p3), .val (.int p4), .val (.int (p0 &&& (3 : Int32))), .unset, .unset, .unset, .unset, .unset, .unset, .unset, .unset, .unset, .unset, .unset, .unset] [(.ref b1204)])) _
        refine XS.dup X1206.here hx rfl (hb hby at_35) rfl rfl ?_
        show Steps p.tables e below (T1206.setTop (mkF m 36 #[.val (.int p0), .val (.int p1), .val (.int p2), .val (.int p3), .val (.int p4), .val (.int (p0 &&& (3 : Int32))), .unset, .unset, .unset, .unset, .unset, .unset, .unset, .unset, .unset, .unset, .unset, .unset] [(.ref b1204), (.ref b1204)])) _
        refine XS.iconst X1206.here hx rfl (hb hby at_36) ?_
        show Steps p.tables e below (T1206.setTop (mkF m 37 #[.val (.int p0), .val (.int p1), .val (.int p2), .val (.int p3), .val (.int p4), .val (.int (p0 &&& (3 : Int32))), .unset, .unset, .unset, .unset, .unset, .unset, .unset, .unset, .unset, .unset, .unset, .unset] [(.int (1 : Int32)), (.ref b1204), (.ref b1204)])) _
        refine XS.iloadN X1206.here hx rfl (hb hby at_37) rfl ?_
        exact kt
      obtain ⟨cl1208, Ar1208, q1208, S1208, M1208, H1208, G1208⟩ := (id V1206)
      have hin1208 : ¬ ((1 : Int32) < 0 ∨ cl1208.slots.size ≤ ((1 : Int32)).toNatClampNeg) := inb_of S1208 ⟨by decide, by decide⟩
      obtain ⟨T1208, h1208, X1208, e1208, W1208, st1208⟩ := stI X1206 hx hZ e1206 Ar1208 (j := (1 : Int32)) hin1208 (g := (mkF m 38 #[.val (.int p0), .val (.int p1), .val (.int p2), .val (.int p3), .val (.int p4), .val (.int (p0 &&& (3 : Int32))), .unset, .unset, .unset, .unset, .unset, .unset, .unset, .unset, .unset, .unset, .unset, .unset] [(.int p1), (.int (1 : Int32)), (.ref b1204), (.ref b1204)])) rfl rfl (hb hby at_38)
      have Z0_1209 : n0 ≤ h1208.size := (Nat.le_trans Z0_1207 (Keep.of_wr W1208).1)
      have V1208 : Arv Z h1208 b1204 k1204 .int (2 : Int32) [(.int p0), (.int p1)] (.int (0 : Int32)) := Arv.set Ar1208 q1208 S1208 M1208 H1208 G1208 rfl W1208 1 rfl (Nat.le_of_ble_eq_true rfl)
      have N1208 := Fr.snoc X1208 N1206 gn_b1204
      refine Got.step st1208 ?_
      show Got p e below s _ _ _ _ T1208 (mkF m 39 #[.val (.int p0), .val (.int p1), .val (.int p2), .val (.int p3), .val (.int p4), .val (.int (p0 &&& (3 : Int32))), .unset, .unset, .unset, .unset, .unset, .unset, .unset, .unset, .unset, .unset, .unset, .unset] [(.ref b1204)])
      refine Got.step (T' := T1208) (g' := (mkF m 125 #[.val (.int p0), .val (.int p1), .val (.int p2), .val (.int p3), .val (.int p4), .val (.int (p0 &&& (3 : Int32))), .val (.ref b1204), .unset, .unset, .unset, .unset, .unset, .unset, .unset, .unset, .unset, .unset, .unset] [])) (fun tq kt => ?_) ?_
      · show Steps p.tables e below (T1208.setTop (mkF m 39 #[.val (.int p0), .val (.int p1), .val (.int p2), .val (.int p3), .val (.int p4), .val (.int (p0 &&& (3 : Int32))), .unset, .unset, .unset, .unset, .unset, .unset, .unset, .unset, .unset, .unset, .unset, .unset] [(.ref b1204)])) _
        refine XS.astore X1208.here hx rfl (hb hby at_39) rfl rfl (l' := #[.val (.int p0), .val (.int p1), .val (.int p2), .val (.int p3), .val (.int p4), .val (.int (p0 &&& (3 : Int32))), .val (.ref b1204), .unset, .unset, .unset, .unset, .unset, .unset, .unset, .unset, .unset, .unset, .unset]) rfl ?_
        show Steps p.tables e below (T1208.setTop (mkF m 41 #[.val (.int p0), .val (.int p1), .val (.int p2), .val (.int p3), .val (.int p4), .val (.int (p0 &&& (3 : Int32))), .val (.ref b1204), .unset, .unset, .unset, .unset, .unset, .unset, .unset, .unset, .unset, .unset, .unset] [])) _
        refine XS.goto X1208.here hx rfl (pc0 := 41) (pc' := 125) rfl (hb hby at_41) (by decide) (by decide) ?_
        exact kt
      exact J125 _ _ _ (X1208.more (by decide) (by decide)) e1208 N1208 Z0_1209 b1204 gn_b1204 k1204 2 [p0, p1] (by decide) V1208
    · refine Got.step (T' := s₁) (g' := (mkF m 47 #[.val (.int p0), .val (.int p1), .val (.int p2), .val (.int p3), .val (.int p4), .val (.int (p0 &&& (3 : Int32))), .unset, .unset, .unset, .unset, .unset, .unset, .unset, .unset, .unset, .unset, .unset, .unset] [(.int (2 : Int32)), (.int (p0 &&& (3 : Int32)))])) (fun tq kt => ?_) ?_
      · show Steps p.tables e below (s₁.setTop (mkF m 25 #[.val (.int p0), .val (.int p1), .val (.int p2), .val (.int p3), .val (.int p4), .val (.int (p0 &&& (3 : Int32))), .unset, .unset, .unset, .unset, .unset, .unset, .unset, .unset, .unset, .unset, .unset, .unset] [(.int (1 : Int32)), (.int (p0 &&& (3 : Int32)))])) _
        refine XS.icmpYes X0.here hx rfl (pc0 := 25) (pc' := 44) rfl (hb hby at_25) rfl (XT.ii_ne_t hc1203) (by decide) (by decide) ?_
        show Steps p.tables e below (s₁.setTop (mkF m 44 #[.val (.int p0), .val (.int p1), .val (.int p2), .val (.int p3), .val (.int p4), .val (.int (p0 &&& (3 : Int32))), .unset, .unset, .unset, .unset, .unset, .unset, .unset, .unset, .unset, .unset, .unset, .unset] [])) _
        refine XS.iload X0.here hx rfl (hb hby at_44) rfl ?_
        show Steps p.tables e below (s₁.setTop (mkF m 46 #[.val (.int p0), .val (.int p1), .val (.int p2), .val (.int p3), .val (.int p4), .val (.int (p0 &&& (3 : Int32))), .unset, .unset, .unset, .unset, .unset, .unset, .unset, .unset, .unset, .unset, .unset, .unset] [(.int (p0 &&& (3 : Int32)))])) _
        refine XS.iconst X0.here hx rfl (hb hby at_46) ?_
        exact kt
      by_cases hc1210 : ((p0 &&& (3 : Int32)) = (2 : Int32))
      · refine Got.step (T' := s₁) (g' := (mkF m 51 #[.val (.int p0), .val (.int p1), .val (.int p2), .val (.int p3), .val (.int p4), .val (.int (p0 &&& (3 : Int32))), .unset, .unset, .unset, .unset, .unset, .unset, .unset, .unset, .unset, .unset, .unset, .unset] [(.int (5 : Int32))])) (fun tq kt => ?_) ?_
        · show Steps p.tables e below (s₁.setTop (mkF m 47 #[.val (.int p0), .val (.int p1), .val (.int p2), .val (.int p3), .val (.int p4), .val (.int (p0 &&& (3 : Int32))), .unset, .unset, .unset, .unset, .unset, .unset, .unset, .unset, .unset, .unset, .unset, .unset] [(.int (2 : Int32)), (.int (p0 &&& (3 : Int32)))])) _
          refine XS.icmpNo X0.here hx rfl (hb hby at_47) rfl (XT.ii_ne_f hc1210) ?_
          show Steps p.tables e below (s₁.setTop (mkF m 50 #[.val (.int p0), .val (.int p1), .val (.int p2), .val (.int p3), .val (.int p4), .val (.int (p0 &&& (3 : Int32))), .unset, .unset, .unset, .unset, .unset, .unset, .unset, .unset, .unset, .unset, .unset, .unset] [])) _
          refine XS.iconst X0.here hx rfl (hb hby at_50) ?_
          exact kt
        obtain ⟨T1211, h1211, k1211, X1211, e1211, E1211, A1211, st1211⟩ := newP X0 hx hZ (hw _ (List.mem_of_getElem? (i := 0) rfl)) e0 (g := (mkF m 51 #[.val (.int p0), .val (.int p1), .val (.int p2), .val (.int p3), .val (.int p4), .val (.int (p0 &&& (3 : Int32))), .unset, .unset, .unset, .unset, .unset, .unset, .unset, .unset, .unset, .unset, .unset, .unset] [(.int (5 : Int32))])) rfl (hb hby at_51) rfl (by decide) (cap := 5) (by decide) (by decide) (by decide) (by decide)
        obtain ⟨b1211, g1211⟩ : ∃ z, z = h0.size := ⟨_, rfl⟩
        rw [← g1211] at A1211 st1211
        have gn_b1211 : n0 ≤ b1211 := by rw [g1211]; exact Z0
        have Z0_1212 : n0 ≤ h1211.size := (Nat.le_trans Z0 E1211.1)
        have V1211 : Arv Z h1211 b1211 k1211 .int (5 : Int32) [(.int (0 : Int32)), (.int (0 : Int32)), (.int (0 : Int32)), (.int (0 : Int32)), (.int (0 : Int32))] (.int (0 : Int32)) := (Arv.new A1211 (by decide)).pad (pad_rep [] (.int (0 : Int32)) 5)
        refine Got.step st1211 ?_
        show Got p e below s _ _ _ _ T1211 (mkF m 53 #[.val (.int p0), .val (.int p1), .val (.int p2), .val (.int p3), .val (.int p4), .val (.int (p0 &&& (3 : Int32))), .unset, .unset, .unset, .unset, .unset, .unset, .unset, .unset, .unset, .unset, .unset, .unset] [(.ref b1211)])
        refine Got.step (T' := T1211) (g' := (mkF m 56 #[.val (.int p0), .val (.int p1), .val (.int p2), .val (.int p3), .val (.int p4), .val (.int (p0 &&& (3 : Int32))), .unset, .unset, .unset, .unset, .unset, .unset, .unset, .unset, .unset, .unset, .unset, .unset] [(.int p0), (.int (0 : Int32)), (.ref b1211), (.ref b1211)])) (fun tq kt => ?_) ?_
        · show Steps p.tables e below (T1211.setTop (mkF m 53 #[.val (.int p0), .val (.int p1), .val (.int p2), .val (.int p3), .val (.int p4), .val (.int (p0 &&& (3 : Int32))), .unset, .unset, .unset, .unset, .unset, .unset, .unset, .unset, .unset, .unset, .unset, .unset] [(.ref b1211)])) _
          refine XS.dup X1211.here hx rfl (hb hby at_53) rfl rfl ?_
          show Steps p.tables e below (T1211.setTop (mkF m 54 #[.val (.int p0), .val (.int p1), .val (.int p2), .val (.int p3), .val (.int p4), .val (.int (p0 &&& (3 : Int32))), .unset, .unset, .unset, .unset, .unset, .unset, .unset, .unset, .unset, .unset, .unset, .unset] [(.ref b1211), (.ref b1211)])) _
          refine XS.iconst X1211.here hx rfl (hb hby at_54) ?_
          show Steps p.tables e below (T1211.setTop (mkF m 55 #[.val (.int p0), .val (.int p1), .val (.int p2), .val (.int p3), .val (.int p4), .val (.int (p0 &&& (3 : Int32))), .unset, .unset, .unset, .unset, .unset, .unset, .unset, .unset, .unset, .unset, .unset, .unset] [(.int (0 : Int32)), (.ref b1211), (.ref b1211)])) _
          refine XS.iloadN X1211.here hx rfl (hb hby at_55) rfl ?_
          exact kt
        obtain ⟨cl1213, Ar1213, q1213, S1213, M1213, H1213, G1213⟩ := (id V1211)
        have hin1213 : ¬ ((0 : Int32) < 0 ∨ cl1213.slots.size ≤ ((0 : Int32)).toNatClampNeg) := inb_of S1213 ⟨by decide, by decide⟩
        obtain ⟨T1213, h1213, X1213, e1213, W1213, st1213⟩ := stI X1211 hx hZ e1211 Ar1213 (j := (0 : Int32)) hin1213 (g := (mkF m 56 #[.val (.int p0), .val (.int p1), .val (.int p2), .val (.int p3), .val (.int p4), .val (.int (p0 &&& (3 : Int32))), .unset, .unset, .unset, .unset, .unset, .unset, .unset, .unset, .unset, .unset, .unset, .unset] [(.int p0), (.int (0 : Int32)), (.ref b1211), (.ref b1211)])) rfl rfl (hb hby at_56)
        have Z0_1214 : n0 ≤ h1213.size := (Nat.le_trans Z0_1212 (Keep.of_wr W1213).1)
        have V1213 : Arv Z h1213 b1211 k1211 .int (5 : Int32) [(.int p0), (.int (0 : Int32)), (.int (0 : Int32)), (.int (0 : Int32)), (.int (0 : Int32))] (.int (0 : Int32)) := Arv.set Ar1213 q1213 S1213 M1213 H1213 G1213 rfl W1213 0 rfl (Nat.le_of_ble_eq_true rfl)
        have N1213 := Fr.snoc X1213 N0 gn_b1211
        refine Got.step st1213 ?_
        show Got p e below s _ _ _ _ T1213 (mkF m 57 #[.val (.int p0), .val (.int p1), .val (.int p2), .val (.int p3), .val (.int p4), .val (.int (p0 &&& (3 : Int32))), .unset, .unset, .unset, .unset, .unset, .unset, .unset, .unset, .unset, .unset, .unset, .unset] [(.ref b1211)])
        refine Got.step (T' := T1213) (g' := (mkF m 60 #[.val (.int p0), .val (.int p1), .val (.int p2), .val (.int p3), .val (.int p4), .val (.int (p0 &&& (3 : Int32))), .unset, .unset, .unset, .unset, .unset, .unset, .unset, .unset, .unset, .unset, .unset, .unset] [(.int p1), (.int (1 : Int32)), (.ref b1211), (.ref b1211)])) (fun tq kt => ?_) ?_
        · show Steps p.tables e below (T1213.setTop (mkF m 57 #[.val (.int p0), .val (.int p1), .val (.int p2), .val (.int p3), .val (.int p4), .val (.int (p0 &&& (3 : Int32))), .unset, .unset, .unset, .unset, .unset, .unset, .unset, .unset, .unset, .unset, .unset, .unset] [(.ref b1211)])) _
          refine XS.dup X1213.here hx rfl (hb hby at_57) rfl rfl ?_
          show Steps p.tables e below (T1213.setTop (mkF m 58 #[.val (.int p0), .val (.int p1), .val (.int p2), .val (.int p3), .val (.int p4), .val (.int (p0 &&& (3 : Int32))), .unset, .unset, .unset, .unset, .unset, .unset, .unset, .unset, .unset, .unset, .unset, .unset] [(.ref b1211), (.ref b1211)])) _
          refine XS.iconst X1213.here hx rfl (hb hby at_58) ?_
          show Steps p.tables e below (T1213.setTop (mkF m 59 #[.val (.int p0), .val (.int p1), .val (.int p2), .val (.int p3), .val (.int p4), .val (.int (p0 &&& (3 : Int32))), .unset, .unset, .unset, .unset, .unset, .unset, .unset, .unset, .unset, .unset, .unset, .unset] [(.int (1 : Int32)), (.ref b1211), (.ref b1211)])) _
          refine XS.iloadN X1213.here hx rfl (hb hby at_59) rfl ?_
          exact kt
        obtain ⟨cl1215, Ar1215, q1215, S1215, M1215, H1215, G1215⟩ := (id V1213)
        have hin1215 : ¬ ((1 : Int32) < 0 ∨ cl1215.slots.size ≤ ((1 : Int32)).toNatClampNeg) := inb_of S1215 ⟨by decide, by decide⟩
        obtain ⟨T1215, h1215, X1215, e1215, W1215, st1215⟩ := stI X1213 hx hZ e1213 Ar1215 (j := (1 : Int32)) hin1215 (g := (mkF m 60 #[.val (.int p0), .val (.int p1), .val (.int p2), .val (.int p3), .val (.int p4), .val (.int (p0 &&& (3 : Int32))), .unset, .unset, .unset, .unset, .unset, .unset, .unset, .unset, .unset, .unset, .unset, .unset] [(.int p1), (.int (1 : Int32)), (.ref b1211), (.ref b1211)])) rfl rfl (hb hby at_60)
        have Z0_1216 : n0 ≤ h1215.size := (Nat.le_trans Z0_1214 (Keep.of_wr W1215).1)
        have V1215 : Arv Z h1215 b1211 k1211 .int (5 : Int32) [(.int p0), (.int p1), (.int (0 : Int32)), (.int (0 : Int32)), (.int (0 : Int32))] (.int (0 : Int32)) := Arv.set Ar1215 q1215 S1215 M1215 H1215 G1215 rfl W1215 1 rfl (Nat.le_of_ble_eq_true rfl)
        have N1215 := Fr.snoc X1215 N1213 gn_b1211
        refine Got.step st1215 ?_
        show Got p e below s _ _ _ _ T1215 (mkF m 61 #[.val (.int p0), .val (.int p1), .val (.int p2), .val (.int p3), .val (.int p4), .val (.int (p0 &&& (3 : Int32))), .unset, .unset, .unset, .unset, .unset, .unset, .unset, .unset, .unset, .unset, .unset, .unset] [(.ref b1211)])
        refine Got.step (T' := T1215) (g' := (mkF m 64 #[.val (.int p0), .val (.int p1), .val (.int p2), .val (.int p3), .val (.int p4), .val (.int (p0 &&& (3 : Int32))), .unset, .unset, .unset, .unset, .unset, .unset, .unset, .unset, .unset, .unset, .unset, .unset] [(.int p2), (.int (2 : Int32)), (.ref b1211), (.ref b1211)])) (fun tq kt => ?_) ?_
        · show Steps p.tables e below (T1215.setTop (mkF m 61 #[.val (.int p0), .val (.int p1), .val (.int p2), .val (.int p3), .val (.int p4), .val (.int (p0 &&& (3 : Int32))), .unset, .unset, .unset, .unset, .unset, .unset, .unset, .unset, .unset, .unset, .unset, .unset] [(.ref b1211)])) _
          refine XS.dup X1215.here hx rfl (hb hby at_61) rfl rfl ?_
          show Steps p.tables e below (T1215.setTop (mkF m 62 #[.val (.int p0), .val (.int p1), .val (.int p2), .val (.int p3), .val (.int p4), .val (.int (p0 &&& (3 : Int32))), .unset, .unset, .unset, .unset, .unset, .unset, .unset, .unset, .unset, .unset, .unset, .unset] [(.ref b1211), (.ref b1211)])) _
          refine XS.iconst X1215.here hx rfl (hb hby at_62) ?_
          show Steps p.tables e below (T1215.setTop (mkF m 63 #[.val (.int p0), .val (.int p1), .val (.int p2), .val (.int p3), .val (.int p4), .val (.int (p0 &&& (3 : Int32))), .unset, .unset, .unset, .unset, .unset, .unset, .unset, .unset, .unset, .unset, .unset, .unset] [(.int (2 : Int32)), (.ref b1211), (.ref b1211)])) _
          refine XS.iloadN X1215.here hx rfl (hb hby at_63) rfl ?_
          exact kt
        obtain ⟨cl1217, Ar1217, q1217, S1217, M1217, H1217, G1217⟩ := (id V1215)
        have hin1217 : ¬ ((2 : Int32) < 0 ∨ cl1217.slots.size ≤ ((2 : Int32)).toNatClampNeg) := inb_of S1217 ⟨by decide, by decide⟩
        obtain ⟨T1217, h1217, X1217, e1217, W1217, st1217⟩ := stI X1215 hx hZ e1215 Ar1217 (j := (2 : Int32)) hin1217 (g := (mkF m 64 #[.val (.int p0), .val (.int p1), .val (.int p2), .val (.int p3), .val (.int p4), .val (.int (p0 &&& (3 : Int32))), .unset, .unset, .unset, .unset, .unset, .unset, .unset, .unset, .unset, .unset, .unset, .unset] [(.int p2), (.int (2 : Int32)), (.ref b1211), (.ref b1211)])) rfl rfl (hb hby at_64)
        have Z0_1218 : n0 ≤ h1217.size := (Nat.le_trans Z0_1216 (Keep.of_wr W1217).1)
        have V1217 : Arv Z h1217 b1211 k1211 .int (5 : Int32) [(.int p0), (.int p1), (.int p2), (.int (0 : Int32)), (.int (0 : Int32))] (.int (0 : Int32)) := Arv.set Ar1217 q1217 S1217 M1217 H1217 G1217 rfl W1217 2 rfl (Nat.le_of_ble_eq_true rfl)
        have N1217 := Fr.snoc X1217 N1215 gn_b1211
        refine Got.step st1217 ?_
        show Got p e below s _ _ _ _ T1217 (mkF m 65 #[.val (.int p0), .val (.int p1), .val (.int p2), .val (.int p3), .val (.int p4), .val (.int (p0 &&& (3 : Int32))), .unset, .unset, .unset, .unset, .unset, .unset, .unset, .unset, .unset, .unset, .unset, .unset] [(.ref b1211)])
        refine Got.step (T' := T1217) (g' := (mkF m 68 #[.val (.int p0), .val (.int p1), .val (.int p2), .val (.int p3), .val (.int p4), .val (.int (p0 &&& (3 : Int32))), .unset, .unset, .unset, .unset, .unset, .unset, .unset, .unset, .unset, .unset, .unset, .unset] [(.int p3), (.int (3 : Int32)), (.ref b1211), (.ref b1211)])) (fun tq kt => ?_) ?_
        · show Steps p.tables e below (T1217.setTop (mkF m 65 #[.val (.int p0), .val (.int p1), .val (.int p2), .val (.int p3), .val (.int p4), .val (.int (p0 &&& (3 : Int32))), .unset, .unset, .unset, .unset, .unset, .unset, .unset, .unset, .unset, .unset, .unset, .unset] [(.ref b1211)])) _
          refine XS.dup X1217.here hx rfl (hb hby at_65) rfl rfl ?_
          show Steps p.tables e below (T1217.setTop (mkF m 66 #[.val (.int p0), .val (.int p1), .val (.int p2), .val (.int p3), .val (.int p4), .val (.int (p0 &&& (3 : Int32))), .unset, .unset, .unset, .unset, .unset, .unset, .unset, .unset, .unset, .unset, .unset, .unset] [(.ref b1211), (.ref b1211)])) _
          refine XS.iconst X1217.here hx rfl (hb hby at_66) ?_
          show Steps p.tables e below (T1217.setTop (mkF m 67 #[.val (.int p0), .val (.int p1), .val (.int p2), .val (.int p3), .val (.int p4), .val (.int (p0 &&& (3 : Int32))), .unset, .unset, .unset, .unset, .unset, .unset, .unset, .unset, .unset, .unset, .unset, .unset] [(.int (3 : Int32)), (.ref b1211), (.ref b1211)])) _
          refine XS.iloadN X1217.here hx rfl (hb hby at_67) rfl ?_
          exact kt
        obtain ⟨cl1219, Ar1219, q1219, S1219, M1219, H1219, G1219⟩ := (id V1217)
        have hin1219 : ¬ ((3 : Int32) < 0 ∨ cl1219.slots.size ≤ ((3 : Int32)).toNatClampNeg) := inb_of S1219 ⟨by decide, by decide⟩
        obtain ⟨T1219, h1219, X1219, e1219, W1219, st1219⟩ := stI X1217 hx hZ e1217 Ar1219 (j := (3 : Int32)) hin1219 (g := (mkF m 68 #[.val (.int p0), .val (.int p1), .val (.int p2), .val (.int p3), .val (.int p4), .val (.int (p0 &&& (3 : Int32))), .unset, .unset, .unset, .unset, .unset, .unset, .unset, .unset, .unset, .unset, .unset, .unset] [(.int p3), (.int (3 : Int32)), (.ref b1211), (.ref b1211)])) rfl rfl (hb hby at_68)
        have Z0_1220 : n0 ≤ h1219.size := (Nat.le_trans Z0_1218 (Keep.of_wr W1219).1)
        have V1219 : Arv Z h1219 b1211 k1211 .int (5 : Int32) [(.int p0), (.int p1), (.int p2), (.int p3), (.int (0 : Int32))] (.int (0 : Int32)) := Arv.set Ar1219 q1219 S1219 M1219 H1219 G1219 rfl W1219 3 rfl (Nat.le_of_ble_eq_true rfl)
        have N1219 := Fr.snoc X1219 N1217 gn_b1211
        refine Got.step st1219 ?_
        show Got p e below s _ _ _ _ T1219 (mkF m 69 #[.val (.int p0), .val (.int p1), .val (.int p2), .val (.int p3), .val (.int p4), .val (.int (p0 &&& (3 : Int32))), .unset, .unset, .unset, .unset, .unset, .unset, .unset, .unset, .unset, .unset, .unset, .unset] [(.ref b1211)])
        refine Got.step (T' := T1219) (g' := (mkF m 73 #[.val (.int p0), .val (.int p1), .val (.int p2), .val (.int p3), .val (.int p4), .val (.int (p0 &&& (3 : Int32))), .unset, .unset, .unset, .unset, .unset, .unset, .unset, .unset, .unset, .unset, .unset, .unset] [(.int p4), (.int (4 : Int32)), (.ref b1211), (.ref b1211)])) (fun tq kt => ?_) ?_
        · show Steps p.tables e below (T1219.setTop (mkF m 69 #[.val (.int p0), .val (.int p1), .val (.int p2), .val (.int p3), .val (.int p4), .val (.int (p0 &&& (3 : Int32))), .unset, .unset, .unset, .unset, .unset, .unset, .unset, .unset, .unset, .unset, .unset, .unset] [(.ref b1211)])) _
          refine XS.dup X1219.here hx rfl (hb hby at_69) rfl rfl ?_
          show Steps p.tables e below (T1219.setTop (mkF m 70 #[.val (.int p0), .val (.int p1), .val (.int p2), .val (.int p3), .val (.int p4), .val (.int (p0 &&& (3 : Int32))), .unset, .unset, .unset, .unset, .unset, .unset, .unset, .unset, .unset, .unset, .unset, .unset] [(.ref b1211), (.ref b1211)])) _
          refine XS.iconst X1219.here hx rfl (hb hby at_70) ?_
          show Steps p.tables e below (T1219.setTop (mkF m 71 #[.val (.int p0), .val (.int p1), .val (.int p2), .val (.int p3), .val (.int p4), .val (.int (p0 &&& (3 : Int32))), .unset, .unset, .unset, .unset, .unset, .unset, .unset, .unset, .unset, .unset, .unset, .unset] [(.int (4 : Int32)), (.ref b1211), (.ref b1211)])) _
          refine XS.iload X1219.here hx rfl (hb hby at_71) rfl ?_
          exact kt
        obtain ⟨cl1221, Ar1221, q1221, S1221, M1221, H1221, G1221⟩ := (id V1219)
        have hin1221 : ¬ ((4 : Int32) < 0 ∨ cl1221.slots.size ≤ ((4 : Int32)).toNatClampNeg) := inb_of S1221 ⟨by decide, by decide⟩
        obtain ⟨T1221, h1221, X1221, e1221, W1221, st1221⟩ := stI X1219 hx hZ e1219 Ar1221 (j := (4 : Int32)) hin1221 (g := (mkF m 73 #[.val (.int p0), .val (.int p1), .val (.int p2), .val (.int p3), .val (.int p4), .val (.int (p0 &&& (3 : Int32))), .unset, .unset, .unset, .unset, .unset, .unset, .unset, .unset, .unset, .unset, .unset, .unset] [(.int p4), (.int (4 : Int32)), (.ref b1211), (.ref b1211)])) rfl rfl (hb hby at_73)
        have Z0_1222 : n0 ≤ h1221.size := (Nat.le_trans Z0_1220 (Keep.of_wr W1221).1)
        have V1221 : Arv Z h1221 b1211 k1211 .int (5 : Int32) [(.int p0), (.int p1), (.int p2), (.int p3), (.int p4)] (.int (0 : Int32)) := Arv.set Ar1221 q1221 S1221 M1221 H1221 G1221 rfl W1221 4 rfl (Nat.le_of_ble_eq_true rfl)
        have N1221 := Fr.snoc X1221 N1219 gn_b1211
        refine Got.step st1221 ?_
        show Got p e below s _ _ _ _ T1221 (mkF m 74 #[.val (.int p0), .val (.int p1), .val (.int p2), .val (.int p3), .val (.int p4), .val (.int (p0 &&& (3 : Int32))), .unset, .unset, .unset, .unset, .unset, .unset, .unset, .unset, .unset, .unset, .unset, .unset] [(.ref b1211)])
        refine Got.step (T' := T1221) (g' := (mkF m 125 #[.val (.int p0), .val (.int p1), .val (.int p2), .val (.int p3), .val (.int p4), .val (.int (p0 &&& (3 : Int32))), .val (.ref b1211), .unset, .unset, .unset, .unset, .unset, .unset, .unset, .unset, .unset, .unset, .unset] [])) (fun tq kt => ?_) ?_
        · show Steps p.tables e below (T1221.setTop (mkF m 74 #[.val (.int p0), .val (.int p1), .val (.int p2), .val (.int p3), .val (.int p4), .val (.int (p0 &&& (3 : Int32))), .unset, .unset, .unset, .unset, .unset, .unset, .unset, .unset, .unset, .unset, .unset, .unset] [(.ref b1211)])) _
          refine XS.astore X1221.here hx rfl (hb hby at_74) rfl rfl (l' := #[.val (.int p0), .val (.int p1), .val (.int p2), .val (.int p3), .val (.int p4), .val (.int (p0 &&& (3 : Int32))), .val (.ref b1211), .unset, .unset, .unset, .unset, .unset, .unset, .unset, .unset, .unset, .unset, .unset]) rfl ?_
          show Steps p.tables e below (T1221.setTop (mkF m 76 #[.val (.int p0), .val (.int p1), .val (.int p2), .val (.int p3), .val (.int p4), .val (.int (p0 &&& (3 : Int32))), .val (.ref b1211), .unset, .unset, .unset, .unset, .unset, .unset, .unset, .unset, .unset, .unset, .unset] [])) _
          refine XS.goto X1221.here hx rfl (pc0 := 76) (pc' := 125) rfl (hb hby at_76) (by decide) (by decide) ?_
          exact kt
        exact J125 _ _ _ (X1221.more (by decide) (by decide)) e1221 N1221 Z0_1222 b1211 gn_b1211 k1211 5 [p0, p1, p2, p3, p4] (by decide) V1221
      · refine Got.step (T' := s₁) (g' := (mkF m 81 #[.val (.int p0), .val (.int p1), .val (.int p2), .val (.int p3), .val (.int p4), .val (.int (p0 &&& (3 : Int32))), .unset, .unset, .unset, .unset, .unset, .unset, .unset, .unset, .unset, .unset, .unset, .unset] [(.int (9 : Int32))])) (fun tq kt => ?_) ?_
        · show Steps p.tables e below (s₁.setTop (mkF m 47 #[.val (.int p0), .val (.int p1), .val (.int p2), .val (.int p3), .val (.int p4), .val (.int (p0 &&& (3 : Int32))), .unset, .unset, .unset, .unset, .unset, .unset, .unset, .unset, .unset, .unset, .unset, .unset] [(.int (2 : Int32)), (.int (p0 &&& (3 : Int32)))])) _
          refine XS.icmpYes X0.here hx rfl (pc0 := 47) (pc' := 79) rfl (hb hby at_47) rfl (XT.ii_ne_t hc1210) (by decide) (by decide) ?_
          show Steps p.tables e below (s₁.setTop (mkF m 79 #[.val (.int p0), .val (.int p1), .val (.int p2), .val (.int p3), .val (.int p4), .val (.int (p0 &&& (3 : Int32))), .unset, .unset, .unset, .unset, .unset, .unset, .unset, .unset, .unset, .unset, .unset, .unset] [])) _
          refine XS.bipush X0.here hx rfl (hb hby at_79) ?_
          exact kt
        obtain ⟨T1223, h1223, k1223, X1223, e1223, E1223, A1223, st1223⟩ := newP X0 hx hZ (hw _ (List.mem_of_getElem? (i := 0) rfl)) e0 (g := (mkF m 81 #[.val (.int p0), .val (.int p1), .val (.int p2), .val (.int p3), .val (.int p4), .val (.int (p0 &&& (3 : Int32))), .unset, .unset, .unset, .unset, .unset, .unset, .unset, .unset, .unset, .unset, .unset, .unset] [(.int (9 : Int32))])) rfl (hb hby at_81) rfl (by decide) (cap := 9) (by decide) (by decide) (by decide) (by decide)
        obtain ⟨b1223, g1223⟩ : ∃ z, z = h0.size := ⟨_, rfl⟩
        rw [← g1223] at A1223 st1223
        have gn_b1223 : n0 ≤ b1223 := by rw [g1223]; exact Z0
        have Z0_1224 : n0 ≤ h1223.size := (Nat.le_trans Z0 E1223.1)
        have V1223 : Arv Z h1223 b1223 k1223 .int (9 : Int32) [(.int (0 : Int32)), (.int (0 : Int32)), (.int (0 : Int32)), (.int (0 : Int32)), (.int (0 : Int32)), (.int (0 : Int32)), (.int (0 : Int32)), (.int (0 : Int32)), (.int (0 : Int32))] (.int (0 : Int32)) := (Arv.new A1223 (by decide)).pad (pad_rep [] (.int (0 : Int32)) 9)
        refine Got.step st1223 ?_
        show Got p e below s _ _ _ _ T1223 (mkF m 83 #[.val (.int p0), .val (.int p1), .val (.int p2), .val (.int p3), .val (.int p4), .val (.int (p0 &&& (3 : Int32))), .unset, .unset, .unset, .unset, .unset, .unset, .unset, .unset, .unset, .unset, .unset, .unset] [(.ref b1223)])
        refine Got.step (T' := T1223) (g' := (mkF m 86 #[.val (.int p0), .val (.int p1), .val (.int p2), .val (.int p3), .val (.int p4), .val (.int (p0 &&& (3 : Int32))), .unset, .unset, .unset, .unset, .unset, .unset, .unset, .unset, .unset, .unset, .unset, .unset] [(.int p0), (.int (0 : Int32)), (.ref b1223), (.ref b1223)])) (fun tq kt => ?_) ?_
        · show Steps p.tables e below (T1223.setTop (mkF m 83 #[.val (.int p0), .val (.int p1), .val (.int p2), .val (.int p3), .val (.int p4), .val (.int (p0 &&& (3 : Int32))), .unset, .unset, .unset, .unset, .unset, .unset, .unset, .unset, .unset, .unset, .unset, .unset] [(.ref b1223)])) _
          refine XS.dup X1223.here hx rfl (hb hby at_83) rfl rfl ?_
          show Steps p.tables e below (T1223.setTop (mkF m 84 #[.val (.int p0), .val (.int p1), .val (.int p2), .val (.int p3), .val (.int p4), .val (.int (p0 &&& (3 : Int32))), .unset, .unset, .unset, .unset, .unset, .unset, .unset, .unset, .unset, .unset, .unset, .unset] [(.ref b1223), (.ref b1223)])) _
          refine XS.iconst X1223.here hx rfl (hb hby at_84) ?_
          show Steps p.tables e below (T1223.setTop (mkF m 85 #[.val (.int p0), .val (.int p1), .val (.int p2), .val (.int p3), .val (.int p4), .val (.int (p0 &&& (3 : Int32))), .unset, .unset, .unset, .unset, .unset, .unset, .unset, .unset, .unset, .unset, .unset, .unset] [(.int (0 : Int32)), (.ref b1223), (.ref b1223)])) _
          refine XS.iloadN X1223.here hx rfl (hb hby at_85) rfl ?_
          exact kt
        obtain ⟨cl1225, Ar1225, q1225, S1225, M1225, H1225, G1225⟩ := (id V1223)
        have hin1225 : ¬ ((0 : Int32) < 0 ∨ cl1225.slots.size ≤ ((0 : Int32)).toNatClampNeg) := inb_of S1225 ⟨by decide, by decide⟩
        obtain ⟨T1225, h1225, X1225, e1225, W1225, st1225⟩ := stI X1223 hx hZ e1223 Ar1225 (j := (0 : Int32)) hin1225 (g := (mkF m 86 #[.val (.int p0), .val (.int p1), .val (.int p2), .val (.int p3), .val (.int p4), .val (.int (p0 &&& (3 : Int32))), .unset, .unset, .unset, .unset, .unset, .unset, .unset, .unset, .unset, .unset, .unset, .unset] [(.int p0), (.int (0 : Int32)), (.ref b1223), (.ref b1223)])) rfl rfl (hb hby at_86)
        have Z0_1226 : n0 ≤ h1225.size := (Nat.le_trans Z0_1224 (Keep.of_wr W1225).1)
        have V1225 : Arv Z h1225 b1223 k1223 .int (9 : Int32) [(.int p0), (.int (0 : Int32)), (.int (0 : Int32)), (.int (0 : Int32)), (.int (0 : Int32)), (.int (0 : Int32)), (.int (0 : Int32)), (.int (0 : Int32)), (.int (0 : Int32))] (.int (0 : Int32)) := Arv.set Ar1225 q1225 S1225 M1225 H1225 G1225 rfl W1225 0 rfl (Nat.le_of_ble_eq_true rfl)
        have N1225 := Fr.snoc X1225 N0 gn_b1223
        refine Got.step st1225 ?_
        show Got p e below s _ _ _ _ T1225 (mkF m 87 #[.val (.int p0), .val (.int p1), .val (.int p2), .val (.int p3), .val (.int p4), .val (.int (p0 &&& (3 : Int32))), .unset, .unset, .unset, .unset, .unset, .unset, .unset, .unset, .unset, .unset, .unset, .unset] [(.ref b1223)])
        refine Got.step (T' := T1225) (g' := (mkF m 90 #[.val (.int p0), .val (.int p1), .val (.int p2), .val (.int p3), .val (.int p4), .val (.int (p0 &&& (3 : Int32))), .unset, .unset, .unset, .unset, .unset, .unset, .unset, .unset, .unset, .unset, .unset, .unset] [(.int p1), (.int (1 : Int32)), (.ref b1223), (.ref b1223)])) (fun tq kt => ?_) ?_
        · show Steps p.tables e below (T1225.setTop (mkF m 87 #[.val (.int p0), .val (.int p1), .val (.int p2), .val (.int p3), .val (.int p4), .val (.int (p0 &&& (3 : Int32))), .unset, .unset, .unset, .unset, .unset, .unset, .unset, .unset, .unset, .unset, .unset, .unset] [(.ref b1223)])) _
          refine XS.dup X1225.here hx rfl (hb hby at_87) rfl rfl ?_
          show Steps p.tables e below (T1225.setTop (mkF m 88 #[.val (.int p0), .val (.int p1), .val (.int p2), .val (.int p3), .val (.int p4), .val (.int (p0 &&& (3 : Int32))), .unset, .unset, .unset, .unset, .unset, .unset, .unset, .unset, .unset, .unset, .unset, .unset] [(.ref b1223), (.ref b1223)])) _
          refine XS.iconst X1225.here hx rfl (hb hby at_88) ?_
          show Steps p.tables e below (T1225.setTop (mkF m 89 #[.val (.int p0), .val (.int p1), .val (.int p2), .val (.int p3), .val (.int p4), .val (.int (p0 &&& (3 : Int32))), .unset, .unset, .unset, .unset, .unset, .unset, .unset, .unset, .unset, .unset, .unset, .unset] [(.int (1 : Int32)), (.ref b1223), (.ref b1223)])) _
          refine XS.iloadN X1225.here hx rfl (hb hby at_89) rfl ?_
          exact kt
        obtain ⟨cl1227, Ar1227, q1227, S1227, M1227, H1227, G1227⟩ := (id V1225)
        have hin1227 : ¬ ((1 : Int32) < 0 ∨ cl1227.slots.size ≤ ((1 : Int32)).toNatClampNeg) := inb_of S1227 ⟨by decide, by decide⟩
        obtain ⟨T1227, h1227, X1227, e1227, W1227, st1227⟩ := stI X1225 hx hZ e1225 Ar1227 (j := (1 : Int32)) hin1227 (g := (mkF m 90 #[.val (.int p0), .val (.int p1), .val (.int p2), .val (.int p3), .val (.int p4), .val (.int (p0 &&& (3 : Int32))), .unset, .unset, .unset, .unset, .unset, .unset, .unset, .unset, .unset, .unset, .unset, .unset] [(.int p1), (.int (1 : Int32)), (.ref b1223), (.ref b1223)])) rfl rfl (hb hby at_90)
        have Z0_1228 : n0 ≤ h1227.size := (Nat.le_trans Z0_1226 (Keep.of_wr W1227).1)
        have V1227 : Arv Z h1227 b1223 k1223 .int (9 : Int32) [(.int p0), (.int p1), (.int (0 : Int32)), (.int (0 : Int32)), (.int (0 : Int32)), (.int (0 : Int32)), (.int (0 : Int32)), (.int (0 : Int32)), (.int (0 : Int32))] (.int (0 : Int32)) := Arv.set Ar1227 q1227 S1227 M1227 H1227 G1227 rfl W1227 1 rfl (Nat.le_of_ble_eq_true rfl)
        have N1227 := Fr.snoc X1227 N1225 gn_b1223
        refine Got.step st1227 ?_
        show Got p e below s _ _ _ _ T1227 (mkF m 91 #[.val (.int p0), .val (.int p1), .val (.int p2), .val (.int p3), .val (.int p4), .val (.int (p0 &&& (3 : Int32))), .unset, .unset, .unset, .unset, .unset, .unset, .unset, .unset, .unset, .unset, .unset, .unset] [(.ref b1223)])
        refine Got.step (T' := T1227) (g' := (mkF m 94 #[.val (.int p0), .val (.int p1), .val (.int p2), .val (.int p3), .val (.int p4), .val (.int (p0 &&& (3 : Int32))), .unset, .unset, .unset, .unset, .unset, .unset, .unset, .unset, .unset, .unset, .unset, .unset] [(.int p2), (.int (2 : Int32)), (.ref b1223), (.ref b1223)])) (fun tq kt => ?_) ?_
        · show Steps p.tables e below (T1227.setTop (mkF m 91 #[.val (.int p0), .val (.int p1), .val (.int p2), .val (.int p3), .val (.int p4), .val (.int (p0 &&& (3 : Int32))), .unset, .unset, .unset, .unset, .unset, .unset, .unset, .unset, .unset, .unset, .unset, .unset] [(.ref b1223)])) _
          refine XS.dup X1227.here hx rfl (hb hby at_91) rfl rfl ?_
          show Steps p.tables e below (T1227.setTop (mkF m 92 #[.val (.int p0), .val (.int p1), .val (.int p2), .val (.int p3), .val (.int p4), .val (.int (p0 &&& (3 : Int32))), .unset, .unset, .unset, .unset, .unset, .unset, .unset, .unset, .unset, .unset, .unset, .unset] [(.ref b1223), (.ref b1223)])) _
          refine XS.iconst X1227.here hx rfl (hb hby at_92) ?_
          show Steps p.tables e below (T1227.setTop (mkF m 93 #[.val (.int p0), .val (.int p1), .val (.int p2), .val (.int p3), .val (.int p4), .val (.int (p0 &&& (3 : Int32))), .unset, .unset, .unset, .unset, .unset, .unset, .unset, .unset, .unset, .unset, .unset, .unset] [(.int (2 : Int32)), (.ref b1223), (.ref b1223)])) _
          refine XS.iloadN X1227.here hx rfl (hb hby at_93) rfl ?_
          exact kt
        obtain ⟨cl1229, Ar1229, q1229, S1229, M1229, H1229, G1229⟩ := (id V1227)
        have hin1229 : ¬ ((2 : Int32) < 0 ∨ cl1229.slots.size ≤ ((2 : Int32)).toNatClampNeg) := inb_of S1229 ⟨by decide, by decide⟩
        obtain ⟨T1229, h1229, X1229, e1229, W1229, st1229⟩ := stI X1227 hx hZ e1227 Ar1229 (j := (2 : Int32)) hin1229 (g := (mkF m 94 #[.val (.int p0), .val (.int p1), .val (.int p2), .val (.int p3), .val (.int p4), .val (.int (p0 &&& (3 : Int32))), .unset, .unset, .unset, .unset, .unset, .unset, .unset, .unset, .unset, .unset, .unset, .unset] [(.int p2), (.int (2 : Int32)), (.ref b1223), (.ref b1223)])) rfl rfl (hb hby at_94)
        have Z0_1230 : n0 ≤ h1229.size := (Nat.le_trans Z0_1228 (Keep.of_wr W1229).1)
        have V1229 : Arv Z h1229 b1223 k1223 .int (9 : Int32) [(.int p0), (.int p1), (.int p2), (.int (0 : Int32)), (.int (0 : Int32)), (.int (0 : Int32)), (.int (0 : Int32)), (.int (0 : Int32)), (.int (0 : Int32))] (.int (0 : Int32)) := Arv.set Ar1229 q1229 S1229 M1229 H1229 G1229 rfl W1229 2 rfl (Nat.le_of_ble_eq_true rfl)
        have N1229 := Fr.snoc X1229 N1227 gn_b1223
        refine Got.step st1229 ?_
        show Got p e below s _ _ _ _ T1229 (mkF m 95 #[.val (.int p0), .val (.int p1), .val (.int p2), .val (.int p3), .val (.int p4), .val (.int (p0 &&& (3 : Int32))), .unset, .unset, .unset, .unset, .unset, .unset, .unset, .unset, .unset, .unset, .unset, .unset] [(.ref b1223)])
        refine Got.step (T' := T1229) (g' := (mkF m 98 #[.val (.int p0), .val (.int p1), .val (.int p2), .val (.int p3), .val (.int p4), .val (.int (p0 &&& (3 : Int32))), .unset, .unset, .unset, .unset, .unset, .unset, .unset, .unset, .unset, .unset, .unset, .unset] [(.int p3), (.int (3 : Int32)), (.ref b1223), (.ref b1223)])) (fun tq kt => ?_) ?_
        · show Steps p.tables e below (T1229.setTop (mkF m 95 #[.val (.int p0), .val (.int p1), .val (.int p2), .val (.int p3), .val (.int p4), .val (.int (p0 &&& (3 : Int32))), .unset, .unset, .unset, .unset, .unset, .unset, .unset, .unset, .unset, .unset, .unset, .unset] [(.ref b1223)])) _
          refine XS.dup X1229.here hx rfl (hb hby at_95) rfl rfl ?_
          show Steps p.tables e below (T1229.setTop (mkF m 96 #[.val (.int p0), .val (.int p1), .val (.int p2), .val (.int p3), .val (.int p4), .val (.int (p0 &&& (3 : Int32))), .unset, .unset, .unset, .unset, .unset, .unset, .unset, .unset, .unset, .unset, .unset, .unset] [(.ref b1223), (.ref b1223)])) _
          refine XS.iconst X1229.here hx rfl (hb hby at_96) ?_
          show Steps p.tables e below (T1229.setTop (mkF m 97 #[.val (.int p0), .val (.int p1), .val (.int p2), .val (.int p3), .val (.int p4), .val (.int (p0 &&& (3 : Int32))), .unset, .unset, .unset, .unset, .unset, .unset, .unset, .unset, .unset, .unset, .unset, .unset] [(.int (3 : Int32)), (.ref b1223), (.ref b1223)])) _
          refine XS.iloadN X1229.here hx rfl (hb hby at_97) rfl ?_
          exact kt
        obtain ⟨cl1231, Ar1231, q1231, S1231, M1231, H1231, G1231⟩ := (id V1229)
        have hin1231 : ¬ ((3 : Int32) < 0 ∨ cl1231.slots.size ≤ ((3 : Int32)).toNatClampNeg) := inb_of S1231 ⟨by decide, by decide⟩
        obtain ⟨T1231, h1231, X1231, e1231, W1231, st1231⟩ := stI X1229 hx hZ e1229 Ar1231 (j := (3 : Int32)) hin1231 (g := (mkF m 98 #[.val (.int p0), .val (.int p1), .val (.int p2), .val (.int p3), .val (.int p4), .val (.int (p0 &&& (3 : Int32))), .unset, .unset, .unset, .unset, .unset, .unset, .unset, .unset, .unset, .unset, .unset, .unset] [(.int p3), (.int (3 : Int32)), (.ref b1223), (.ref b1223)])) rfl rfl (hb hby at_98)
        have Z0_1232 : n0 ≤ h1231.size := (Nat.le_trans Z0_1230 (Keep.of_wr W1231).1)
        have V1231 : Arv Z h1231 b1223 k1223 .int (9 : Int32) [(.int p0), (.int p1), (.int p2), (.int p3), (.int (0 : Int32)), (.int (0 : Int32)), (.int (0 : Int32)), (.int (0 : Int32)), (.int (0 : Int32))] (.int (0 : Int32)) := Arv.set Ar1231 q1231 S1231 M1231 H1231 G1231 rfl W1231 3 rfl (Nat.le_of_ble_eq_true rfl)
        have N1231 := Fr.snoc X1231 N1229 gn_b1223
        refine Got.step st1231 ?_
        show Got p e below s _ _ _ _ T1231 (mkF m 99 #[.val (.int p0), .val (.int p1), .val (.int p2), .val (.int p3), .val (.int p4), .val (.int (p0 &&& (3 : Int32))), .unset, .unset, .unset, .unset, .unset, .unset, .unset, .unset, .unset, .unset, .unset, .unset] [(.ref b1223)])
        refine Got.step (T' := T1231) (g' := (mkF m 103 #[.val (.int p0), .val (.int p1), .val (.int p2), .val (.int p3), .val (.int p4), .val (.int (p0 &&& (3 : Int32))), .unset, .unset, .unset, .unset, .unset, .unset, .unset, .unset, .unset, .unset, .unset, .unset] [(.int p4), (.int (4 : Int32)), (.ref b1223), (.ref b1223)])) (fun tq kt => ?_) ?_
        · show Steps p.tables e below (T1231.setTop (mkF m 99 #[.val (.int p0), .val (.int p1), .val (.int p2), .val (.int p3), .val (.int p4), .val (.int (p0 &&& (3 : Int32))), .unset, .unset, .unset, .unset, .unset, .unset, .unset, .unset, .unset, .unset, .unset, .unset] [(.ref b1223)])) _
          refine XS.dup X1231.here hx rfl (hb hby at_99) rfl rfl ?_
          show Steps p.tables e below (T1231.setTop (mkF m 100 #[.val (.int p0), .val (.int p1), .val (.int p2), .val (.int p3), .val (.int p4), .val (.int (p0 &&& (3 : Int32))), .unset, .unset, .unset, .unset, .unset, .unset, .unset, .unset, .unset, .unset, .unset, .unset] [(.ref b1223), (.ref b1223)])) _
          refine XS.iconst X1231.here hx rfl (hb hby at_100) ?_
          show Steps p.tables e below (T1231.setTop (mkF m 101 #[.val (.int p0), .val (.int p1), .val (.int p2), .val (.int p3), .val (.int p4), .val (.int (p0 &&& (3 : Int32))), .unset, .unset, .unset, .unset, .unset, .unset, .unset, .unset, .unset, .unset, .unset, .unset] [(.int (4 : Int32)), (.ref b1223), (.ref b1223)])) _
          refine XS.iload X1231.here hx rfl (hb hby at_101) rfl ?_
          exact kt
        obtain ⟨cl1233, Ar1233, q1233, S1233, M1233, H1233, G1233⟩ := (id V1231)
        have hin1233 : ¬ ((4 : Int32) < 0 ∨ cl1233.slots.size ≤ ((4 : Int32)).toNatClampNeg) := inb_of S1233 ⟨by decide, by decide⟩
        obtain ⟨T1233, h1233, X1233, e1233, W1233, st1233⟩ := stI X1231 hx hZ e1231 Ar1233 (j := (4 : Int32)) hin1233 (g := (mkF m 103 #[.val (.int p0), .val (.int p1), .val (.int p2), .val (.int p3), .val (.int p4), .val (.int (p0 &&& (3 : Int32))), .unset, .unset, .unset, .unset, .unset, .unset, .unset, .unset, .unset, .unset, .unset, .unset] [(.int p4), (.int (4 : Int32)), (.ref b1223), (.ref b1223)])) rfl rfl (hb hby at_103)
        have Z0_1234 : n0 ≤ h1233.size := (Nat.le_trans Z0_1232 (Keep.of_wr W1233).1)
        have V1233 : Arv Z h1233 b1223 k1223 .int (9 : Int32) [(.int p0), (.int p1), (.int p2), (.int p3), (.int p4), (.int (0 : Int32)), (.int (0 : Int32)), (.int (0 : Int32)), (.int (0 : Int32))] (.int (0 : Int32)) := Arv.set Ar1233 q1233 S1233 M1233 H1233 G1233 rfl W1233 4 rfl (Nat.le_of_ble_eq_true rfl)
        have N1233 := Fr.snoc X1233 N1231 gn_b1223
        refine Got.step st1233 ?_
        show Got p e below s _ _ _ _ T1233 (mkF m 104 #[.val (.int p0), .val (.int p1), .val (.int p2), .val (.int p3), .val (.int p4), .val (.int (p0 &&& (3 : Int32))), .unset, .unset, .unset, .unset, .unset, .unset, .unset, .unset, .unset, .unset, .unset, .unset] [(.ref b1223)])
        refine Got.step (T' := T1233) (g' := (mkF m 107 #[.val (.int p0), .val (.int p1), .val (.int p2), .val (.int p3), .val (.int p4), .val (.int (p0 &&& (3 : Int32))), .unset, .unset, .unset, .unset, .unset, .unset, .unset, .unset, .unset, .unset, .unset, .unset] [(.int p0), (.int (5 : Int32)), (.ref b1223), (.ref b1223)])) (fun tq kt => ?_) ?_
        · show Steps p.tables e below (T1233.setTop (mkF m 104 #[.val (.int p0), .val (.int p1), .val (.int p2), .val (.int p3), .val (.int p4), .val (.int (p0 &&& (3 : Int32))), .unset, .unset, .unset, .unset, .unset, .unset, .unset, .unset, .unset, .unset, .unset, .unset] [(.ref b1223)])) _
          refine XS.dup X1233.here hx rfl (hb hby at_104) rfl rfl ?_
          show Steps p.tables e below (T1233.setTop (mkF m 105 #[.val (.int p0), .val (.int p1), .val (.int p2), .val (.int p3), .val (.int p4), .val (.int (p0 &&& (3 : Int32))), .unset, .unset, .unset, .unset, .unset, .unset, .unset, .unset, .unset, .unset, .unset, .unset] [(.ref b1223), (.ref b1223)])) _
          refine XS.iconst X1233.here hx rfl (hb hby at_105) ?_
          show Steps p.tables e below (T1233.setTop (mkF m 106 #[.val (.int p0), .val (.int p1), .val (.int p2), .val (.int p3), .val (.int p4), .val (.int (p0 &&& (3 : Int32))), .unset, .unset, .unset, .unset, .unset, .unset, .unset, .unset, .unset, .unset, .unset, .unset] [(.int (5 : Int32)), (.ref b1223), (.ref b1223)])) _
          refine XS.iloadN X1233.here hx rfl (hb hby at_106) rfl ?_
          exact kt
        obtain ⟨cl1235, Ar1235, q1235, S1235, M1235, H1235, G1235⟩ := (id V1233)
        have hin1235 : ¬ ((5 : Int32) < 0 ∨ cl1235.slots.size ≤ ((5 : Int32)).toNatClampNeg) := inb_of S1235 ⟨by decide, by decide⟩
        obtain ⟨T1235, h1235, X1235, e1235, W1235, st1235⟩ := stI X1233 hx hZ e1233 Ar1235 (j := (5 : Int32)) hin1235 (g := (mkF m 107 #[.val (.int p0), .val (.int p1), .val (.int p2), .val (.int p3), .val (.int p4), .val (.int (p0 &&& (3 : Int32))), .unset, .unset, .unset, .unset, .unset, .unset, .unset, .unset, .unset, .unset, .unset, .unset] [(.int p0), (.int (5 : Int32)), (.ref b1223), (.ref b1223)])) rfl rfl (hb hby at_107)
        have Z0_1236 : n0 ≤ h1235.size := (Nat.le_trans Z0_1234 (Keep.of_wr W1235).1)
        have V1235 : Arv Z h1235 b1223 k1223 .int (9 : Int32) [(.int p0), (.int p1), (.int p2), (.int p3), (.int p4), (.int p0), (.int (0 : Int32)), (.int (0 : Int32)), (.int (0 : Int32))] (.int (0 : Int32)) := Arv.set Ar1235 q1235 S1235 M1235 H1235 G1235 rfl W1235 5 rfl (Nat.le_of_ble_eq_true rfl)
        have N1235 := Fr.snoc X1235 N1233 gn_b1223
        refine Got.step st1235 ?_
        show Got p e below s _ _ _ _ T1235 (mkF m 108 #[.val (.int p0), .val (.int p1), .val (.int p2), .val (.int p3), .val (.int p4), .val (.int (p0 &&& (3 : Int32))), .unset, .unset, .unset, .unset, .unset, .unset, .unset, .unset, .unset, .unset, .unset, .unset] [(.ref b1223)])
        refine Got.step (T' := T1235) (g' := (mkF m 112 #[.val (.int p0), .val (.int p1), .val (.int p2), .val (.int p3), .val (.int p4), .val (.int (p0 &&& (3 : Int32))), .unset, .unset, .unset, .unset, .unset, .unset, .unset, .unset, .unset, .unset, .unset, .unset] [(.int p1), (.int (6 : Int32)), (.ref b1223), (.ref b1223)])) (fun tq kt => ?_) ?_
        · show Steps p.tables e below (T1235.setTop (mkF m 108 #[.val (.int p0), .val (.int p1), .val (.int p2), .val (.int p3), .val (.int p4), .val (.int (p0 &&& (3 : Int32))), .unset, .unset, .unset, .unset, .unset, .unset, .unset, .unset, .unset, .unset, .unset, .unset] [(.ref b1223)])) _
          refine XS.dup X1235.here hx rfl (hb hby at_108) rfl rfl ?_
          show Steps p.tables e below (T1235.setTop (mkF m 109 #[.val (.int p0), .val (.int p1), .val (.int p2), .val (.int p3), .val (.int p4), .val (.int (p0 &&& (3 : Int32))), .unset, .unset, .unset, .unset, .unset, .unset, .unset, .unset, .unset, .unset, .unset, .unset] [(.ref b1223), (.ref b1223)])) _
          refine XS.bipush X1235.here hx rfl (hb hby at_109) ?_
          show Steps p.tables e below (T1235.setTop (mkF m 111 #[.val (.int p0), .val (.int p1), .val (.int p2), .val (.int p3), .val (.int p4), .val (.int (p0 &&& (3 : Int32))), .unset, .unset, .unset, .unset, .unset, .unset, .unset, .unset, .unset, .unset, .unset, .unset] [(.int (6 : Int32)), (.ref b1223), (.ref b1223)])) _
          refine XS.iloadN X1235.here hx rfl (hb hby at_111) rfl ?_
          exact kt
        obtain ⟨cl1237, Ar1237, q1237, S1237, M1237, H1237, G1237⟩ := (id V1235)
        have hin1237 : ¬ ((6 : Int32) < 0 ∨ cl1237.slots.size ≤ ((6 : Int32)).toNatClampNeg) := inb_of S1237 ⟨by decide, by decide⟩
        obtain ⟨T1237, h1237, X1237, e1237, W1237, st1237⟩ := stI X1235 hx hZ e1235 Ar1237 (j := (6 : Int32)) hin1237 (g := (mkF m 112 #[.val (.int p0), .val (.int p1), .val (.int p2), .val (.int p3), .val (.int p4), .val (.int (p0 &&& (3 : Int32))), .unset, .unset, .unset, .unset, .unset, .unset, .unset, .unset, .unset, .unset, .unset, .unset] [(.int p1), (.int (6 : Int32)), (.ref b1223), (.ref b1223)])) rfl rfl (hb hby at_112)
        have Z0_1238 : n0 ≤ h1237.size := (Nat.le_trans Z0_1236 (Keep.of_wr W1237).1)
        have V1237 : Arv Z h1237 b1223 k1223 .int (9 : Int32) [(.int p0), (.int p1), (.int p2), (.int p3), (.int p4), (.int p0), (.int p1), (.int (0 : Int32)), (.int (0 : Int32))] (.int (0 : Int32)) := Arv.set Ar1237 q1237 S1237 M1237 H1237 G1237 rfl W1237 6 rfl (Nat.le_of_ble_eq_true rfl)
        have N1237 := Fr.snoc X1237 N1235 gn_b1223
        refine Got.step st1237 ?_
        show Got p e below s _ _ _ _ T1237 (mkF m 113 #[.val (.int p0), .val (.int p1), .val (.int p2), .val (.int p3), .val (.int p4), .val (.int (p0 &&& (3 : Int32))), .unset, .unset, .unset, .unset, .unset, .unset, .unset, .unset, .unset, .unset, .unset, .unset] [(.ref b1223)])
        refine Got.step (T' := T1237) (g' := (mkF m 117 #[.val (.int p0), .val (.int p1), .val (.int p2), .val (.int p3), .val (.int p4), .val (.int (p0 &&& (3 : Int32))), .unset, .unset, .unset, .unset, .unset, .unset, .unset, .unset, .unset, .unset, .unset, .unset] [(.int p2), (.int (7 : Int32)), (.ref b1223), (.ref b1223)])) (fun tq kt => ?_) ?_
        · show Steps p.tables e below (T1237.setTop (mkF m 113 #[.val (.int p0), .val (.int p1), .val (.int p2), .val (.int p3), .val (.int p4), .val (.int (p0 &&& (3 : Int32))), .unset, .unset, .unset, .unset, .unset, .unset, .unset, .unset, .unset, .unset, .unset, .unset] [(.ref b1223)])) _
          refine XS.dup X1237.here hx rfl (hb hby at_113) rfl rfl ?_
          show Steps p.tables e below (T1237.setTop (mkF m 114 #[.val (.int p0), .val (.int p1), .val (.int p2), .val (.int p3), .val (.int p4), .val (.int (p0 &&& (3 : Int32))), .unset, .unset, .unset, .unset, .unset, .unset, .unset, .unset, .unset, .unset, .unset, .unset] [(.ref b1223), (.ref b1223)])) _
          refine XS.bipush X1237.here hx rfl (hb hby at_114) ?_
          show Steps p.tables e below (T1237.setTop (mkF m 116 #[.val (.int p0), .val (.int p1), .val (.int p2), .val (.int p3), .val (.int p4), .val (.int (p0 &&& (3 : Int32))), .unset, .unset, .unset, .unset, .unset, .unset, .unset, .unset, .unset, .unset, .unset, .unset] [(.int (7 : Int32)), (.ref b1223), (.ref b1223)])) _
          refine XS.iloadN X1237.here hx rfl (hb hby at_116) rfl ?_
          exact kt
        obtain ⟨cl1239, Ar1239, q1239, S1239, M1239, H1239, G1239⟩ := (id V1237)
        have hin1239 : ¬ ((7 : Int32) < 0 ∨ cl1239.slots.size ≤ ((7 : Int32)).toNatClampNeg) := inb_of S1239 ⟨by decide, by decide⟩
        obtain ⟨T1239, h1239, X1239, e1239, W1239, st1239⟩ := stI X1237 hx hZ e1237 Ar1239 (j := (7 : Int32)) hin1239 (g := (mkF m 117 #[.val (.int p0), .val (.int p1), .val (.int p2), .val (.int p3), .val (.int p4), .val (.int (p0 &&& (3 : Int32))), .unset, .unset, .unset, .unset, .unset, .unset, .unset, .unset, .unset, .unset, .unset, .unset] [(.int p2), (.int (7 : Int32)), (.ref b1223), (.ref b1223)])) rfl rfl (hb hby at_117)
        have Z0_1240 : n0 ≤ h1239.size := (Nat.le_trans Z0_1238 (Keep.of_wr W1239).1)
        have V1239 : Arv Z h1239 b1223 k1223 .int (9 : Int32) [(.int p0), (.int p1), (.int p2), (.int p3), (.int p4), (.int p0), (.int p1), (.int p2), (.int (0 : Int32))] (.int (0 : Int32)) := Arv.set Ar1239 q1239 S1239 M1239 H1239 G1239 rfl W1239 7 rfl (Nat.le_of_ble_eq_true rfl)
        have N1239 := Fr.snoc X1239 N1237 gn_b1223
        refine Got.step st1239 ?_
        show Got p e below s _ _ _ _ T1239 (mkF m 118 #[.val (.int p0), .val (.int p1), .val (.int p2), .val (.int p3), .val (.int p4), .val (.int (p0 &&& (3 : Int32))), .unset, .unset, .unset, .unset, .unset, .unset, .unset, .unset, .unset, .unset, .unset, .unset] [(.ref b1223)])
        refine Got.step (T' := T1239) (g' := (mkF m 122 #[.val (.int p0), .val (.int p1), .val (.int p2), .val (.int p3), .val (.int p4), .val (.int (p0 &&& (3 : Int32))), .unset, .unset, .unset, .unset, .unset, .unset, .unset, .unset, .unset, .unset, .unset, .unset] [(.int p3), (.int (8 : Int32)), (.ref b1223), (.ref b1223)])) (fun tq kt => ?_) ?_
        · show Steps p.tables e below (T1239.setTop (mkF m 118 #[.val (.int p0), .val (.int p1), .val (.int p2), .val (.int p3), .val (.int p4), .val (.int (p0 &&& (3 : Int32))), .unset, .unset, .unset, .unset, .unset, .unset, .unset, .unset, .unset, .unset, .unset, .unset] [(.ref b1223)])) _
          refine XS.dup X1239.here hx rfl (hb hby at_118) rfl rfl ?_
          show Steps p.tables e below (T1239.setTop (mkF m 119 #[.val (.int p0), .val (.int p1), .val (.int p2), .val (.int p3), .val (.int p4), .val (.int (p0 &&& (3 : Int32))), .unset, .unset, .unset, .unset, .unset, .unset, .unset, .unset, .unset, .unset, .unset, .unset] [(.ref b1223), (.ref b1223)])) _
          refine XS.bipush X1239.here hx rfl (hb hby at_119) ?_
          show Steps p.tables e below (T1239.setTop (mkF m 121 #[.val (.int p0), .val (.int p1), .val (.int p2), .val (.int p3), .val (.int p4), .val (.int (p0 &&& (3 : Int32))), .unset, .unset, .unset, .unset, .unset, .unset, .unset, .unset, .unset, .unset, .unset, .unset] [(.int (8 : Int32)), (.ref b1223), (.ref b1223)])) _
          refine XS.iloadN X1239.here hx rfl (hb hby at_121) rfl ?_
          exact kt
        obtain ⟨cl1241, Ar1241, q1241, S1241, M1241, H1241, G1241⟩ := (id V1239)
        have hin1241 : ¬ ((8 : Int32) < 0 ∨ cl1241.slots.size ≤ ((8 : Int32)).toNatClampNeg) := inb_of S1241 ⟨by decide, by decide⟩
        obtain ⟨T1241, h1241, X1241, e1241, W1241, st1241⟩ := stI X1239 hx hZ e1239 Ar1241 (j := (8 : Int32)) hin1241 (g := (mkF m 122 #[.val (.int p0), .val (.int p1), .val (.int p2), .val (.int p3), .val (.int p4), .val (.int (p0 &&& (3 : Int32))), .unset, .unset, .unset, .unset, .unset, .unset, .unset, .unset, .unset, .unset, .unset, .unset] [(.int p3), (.int (8 : Int32)), (.ref b1223), (.ref b1223)])) rfl rfl (hb hby at_122)
        have Z0_1242 : n0 ≤ h1241.size := (Nat.le_trans Z0_1240 (Keep.of_wr W1241).1)
        have V1241 : Arv Z h1241 b1223 k1223 .int (9 : Int32) [(.int p0), (.int p1), (.int p2), (.int p3), (.int p4), (.int p0), (.int p1), (.int p2), (.int p3)] (.int (0 : Int32)) := Arv.set Ar1241 q1241 S1241 M1241 H1241 G1241 rfl W1241 8 rfl (Nat.le_of_ble_eq_true rfl)
        have N1241 := Fr.snoc X1241 N1239 gn_b1223
        refine Got.step st1241 ?_
        show Got p e below s _ _ _ _ T1241 (mkF m 123 #[.val (.int p0), .val (.int p1), .val (.int p2), .val (.int p3), .val (.int p4), .val (.int (p0 &&& (3 : Int32))), .unset, .unset, .unset, .unset, .unset, .unset, .unset, .unset, .unset, .unset, .unset, .unset] [(.ref b1223)])
        refine Got.step (T' := T1241) (g' := (mkF m 125 #[.val (.int p0), .val (.int p1), .val (.int p2), .val (.int p3), .val (.int p4), .val (.int (p0 &&& (3 : Int32))), .val (.ref b1223), .unset, .unset, .unset, .unset, .unset, .unset, .unset, .unset, .unset, .unset, .unset] [])) (fun tq kt => ?_) ?_
        · show Steps p.tables e below (T1241.setTop (mkF m 123 #[.val (.int p0), .val (.int p1), .val (.int p2), .val (.int p3), .val (.int p4), .val (.int (p0 &&& (3 : Int32))), .unset, .unset, .unset, .unset, .unset, .unset, .unset, .unset, .unset, .unset, .unset, .unset] [(.ref b1223)])) _
          refine XS.astore X1241.here hx rfl (hb hby at_123) rfl rfl (l' := #[.val (.int p0), .val (.int p1), .val (.int p2), .val (.int p3), .val (.int p4), .val (.int (p0 &&& (3 : Int32))), .val (.ref b1223), .unset, .unset, .unset, .unset, .unset, .unset, .unset, .unset, .unset, .unset, .unset]) rfl ?_
          exact kt
        exact J125 _ _ _ (X1241.more (by decide) (by decide)) e1241 N1241 Z0_1242 b1223 gn_b1223 k1223 9 [p0, p1, p2, p3, p4, p0, p1, p2, p3] (by decide) V1241
set_option maxRecDepth 65536 in
set_option maxHeartbeats 40000000 in
theorem comes_1 {Post : Tables → Env → Array Value → State → Outcome → State → Prop} (hpost : ∀ tb e args s v u, (limb_1_1.after args s (.returned v) u = true ∧ limb_1_2.after args s (.returned v) u = true ∧ True) → FrameEnd s (.returned v) u (Jvm.fieldLocs frame_1_writes args s ++ Jvm.arrayLocs frame_1_arrays args s ++ Jvm.staticLocs frame_1_statics s) 32 256 → Post tb e args s (.returned v) u) :
    ArmFor flags0 classFile x code maxLocals ret World_1 tables_1 room_1 Calls_1 rest_1 Pre_1 Post := by
  intro l hfl _ _ p e ha hc hk s m args below hf hA hF happ hP
  obtain ⟨hcalls, hrest, hpre⟩ := hP
  obtain ⟨-, -, -, hnamed, -, -, -, hat⟩ := (Spec.applies_iff hf).mp happ
  obtain ⟨hg, hn⟩ := and_e (Cond.before_iff.mp (show (Jvm.Cond.and given_1 narrow_1).before args s = true from hpre))
  obtain ⟨h1, g0⟩ := and_e hg
  obtain ⟨c0, g1⟩ := and_e g0
  obtain ⟨c1, g2⟩ := and_e g1
  obtain ⟨c2, g3⟩ := and_e g2
  obtain ⟨c3, g4⟩ := and_e g3
  obtain ⟨w0, w1, w2, w3, w4, rfl⟩ : ∃ w0 w1 w2 w3 w4 : Value, args = #[w0, w1, w2, w3, w4] := by
    have hs : args.size = 5 := by simpa [Cond.value, given_1] using h1
    obtain ⟨L⟩ := args
    match L, hs with
    | [w0, w1, w2, w3, w4], _ => exact ⟨w0, w1, w2, w3, w4, rfl⟩
  have hw := fun d (hd : d ∈ tables_1) => atoms_spec (ws := Jvm.Cond.code x code maxLocals ret :: tables_1) hat d (List.mem_cons_of_mem _ hd)
  obtain ⟨i0, e0⟩ := is_v c0
  obtain rfl : w0 = (.int i0) := Option.some.inj e0
  obtain ⟨i1, e1⟩ := is_v c1
  obtain rfl : w1 = (.int i1) := Option.some.inj e1
  obtain ⟨i2, e2⟩ := is_v c2
  obtain rfl : w2 = (.int i2) := Option.some.inj e2
  obtain ⟨i3, e3⟩ := is_v c3
  obtain rfl : w3 = (.int i3) := Option.some.inj e3
  obtain ⟨i4, e4⟩ := is_v g4
  obtain rfl : w4 = (.int i4) := Option.some.inj e4
  obtain ⟨n, o, h1, h2, h3, vq, L, rfl, ⟨hv, N⟩, hq⟩ := rm0 l s _ hw tables_1 i0 i1 i2 i3 i4  s.heap s.heap.size (Nat.le_refl _)  p e ha hc hk s m _ below hf ((Spec.applies_iff_loose hf).mp happ).1 ⟨rfl, State.Warmed39.refl s, rfl⟩ trivial
  subst hv
  refine ⟨n, _, h1, h2, h3, hpost _ _ _ _ _ _ ⟨Cond.after_iff.mpr rfl, Cond.after_iff.mpr (eq_i res_at (Term.int_eval (1)) rfl), trivial⟩ ⟨hq.1, hq.2.1, (hq.2.2.sift fun y hy => Or.inr (N y hy)).mono (by decide) (by decide)⟩⟩
theorem main_1_1 : Claimed_1_1 := comes_1 fun _ _ _ _ _ _ h hF => ⟨h.1, hF⟩
theorem main_1_2 : Claimed_1_2 := comes_1 fun _ _ _ _ _ _ h hF => ⟨h.2.1, hF⟩
end Jvm.Pilot.@@N@@
namespace Jvm.Pilot.@@N@@
open Jvm Jvm.ClassFile Sem Op Lib Jvm.Free Jvm.Stand Jvm.Pilot.@@N@@.Jvm.D
/-! MADE BY PROGRAM (witnessworld.py) out of the Statement's table words and the real class files: 12 classes; the members and pool entries that the words name. The judged class is class 1, her method 1. -/
namespace start1
open Jvm.ClassFile
def u (s : String) : CpInfo := .utf8 (stringToUtf16 s)
/-- a pool by its gaps: so many unusable entries, then the entry; so many at the end -/
def gap : Nat → List CpInfo → List CpInfo
  | 0, r => r
  | n + 1, r => .unusable :: gap n r
def poolList (es : List (Nat × CpInfo)) (last : Nat) : List CpInfo := es.foldr (fun e r => gap e.1 (e.2 :: r)) (gap last [])
def pool (es : List (Nat × CpInfo)) (last : Nat) : Array CpInfo := ⟨poolList es last⟩
def fileOf (pool : Array CpInfo) (this : Nat) (attrs : Array Attribute := #[]) (ms : Array MethodInfo := #[]) (fl : Nat := 33) (sup : Nat := 0) (ifs : Array Nat := #[]) (fds : Array FieldInfo := #[]) : ClassFile where
  minorVersion := 0
  majorVersion := 65
  constantPool := pool
  accessFlags := fl
  thisClass := this
  superClass := sup
  interfaces := ifs
  fields := fds
  methods := ms
  attributes := attrs
def plain (name : String) (sup : Option ClassId) : Class where
  name := name
  kind := .ordinary
  loader := none
  accessFlags := 33
  super := sup
  interfaces := #[]
  cf := none
  fields := #[]
  methods := #[]
  instanceTypes := #[]
  staticTypes := #[]
  resolved := #[]
  callSites := []
  init := .initialized
  statics := none
  mirror := none

def pool0 : Array CpInfo := pool [(5, u "<init>"), (0, u "()V"), (1, .class_ 10), (1, u "java/lang/Object")] 113

def k0c0 : Code := { maxStack := 0, maxLocals := 1, code := object_method_1_code, exceptionTable := #[], attributes := #[] }
def k0m0 : Method := { name := "<init>", desc := "()V", sig := { parameters := [], returnType := none }, accessFlags := 1, code := some k0c0 }
/-- java/lang/Object -/
def k0 : Class := { plain "java/lang/Object" none with
  accessFlags := 33
  interfaces := #[]
  cf := some (fileOf pool0 8 #[] #[{ accessFlags := 1, nameIndex := 5, descriptorIndex := 6, attributes := #[] }] 33 0 #[] #[])
  fields := #[]
  methods := #[k0m0]
  instanceTypes := #[]
  staticTypes := #[]
  resolved := Array.replicate 124 none
  statics := none }

def pool1 : Array CpInfo := pool [(2, .class_ 4), (1, u "java/lang/Object"), (0, u "<init>"), (0, u "()V"), (0, .integer 2147483647), (0, .methodref 9 10), (0, .class_ 11), (0, .nameAndType 12 13), (0, u "java/lang/Math"), (0, u "max"), (0, u "(II)I"), (0, .long 20), (1, .methodref 9 17), (0, .nameAndType 18 19), (0, u "min"), (0, u "(JJ)J"), (0, .methodref 9 21), (0, .nameAndType 12 19), (0, .class_ 23), (0, u "com/example/sidestep/sidestep/Starts"), (0, .methodref 22 25), (0, .nameAndType 5 26), (0, u "([I)V"), (0, .methodref 22 28), (0, .nameAndType 29 30), (0, u "over"), (0, u "([BII)V"), (0, .long 8), (1, .methodref 22 34), (0, .nameAndType 35 36), (0, u "talliesFrom"), (0, u "(I)Z"), (0, .class_ 38), (0, u "com/example/sidestep/sidestep/StartsTalliesFromPinLaw"), (2, u "law"), (0, u "(IIIII)Z")] 5

def k1m0 : Method := { name := "<init>", desc := "()V", sig := { parameters := [], returnType := none }, accessFlags := 1, code := none }
def k1c1 : Code := { maxStack := 6, maxLocals := 18, code := code, exceptionTable := #[], attributes := #[] }
def k1m1 : Method := { name := "law", desc := "(IIIII)Z", sig := { parameters := [.int, .int, .int, .int, .int], returnType := some .boolean }, accessFlags := 9, code := some k1c1 }
/-- com/example/sidestep/sidestep/StartsTalliesFromPinLaw -/
def k1 : Class := { plain "com/example/sidestep/sidestep/StartsTalliesFromPinLaw" (some 0) with
  accessFlags := 49
  interfaces := #[]
  cf := some (fileOf pool1 37 #[] #[{ accessFlags := 1, nameIndex := 5, descriptorIndex := 6, attributes := #[] }, { accessFlags := 9, nameIndex := 41, descriptorIndex := 42, attributes := #[] }] 49 2 #[] #[])
  fields := #[]
  methods := #[k1m0, k1m1]
  instanceTypes := #[]
  staticTypes := #[]
  resolved := Array.replicate 48 none
  statics := none }

def pool2 : Array CpInfo := pool [(1, .class_ 2), (0, u "com/example/sidestep/sidestep/Starts"), (4, .methodref 8 9), (0, .class_ 10), (0, .nameAndType 11 12), (0, u "java/lang/Object"), (0, u "<init>"), (0, u "()V"), (0, .fieldref 1 14), (0, .nameAndType 15 16), (0, u "marks"), (0, u "[J"), (0, .fieldref 1 18), (0, .nameAndType 19 16), (0, u "nonzeroWords"), (0, .fieldref 1 21), (0, .nameAndType 22 23), (0, u "fewBusyBlocks"), (0, u "Z"), (0, .fieldref 1 25), (0, .nameAndType 26 27), (0, u "places"), (0, u "[I"), (0, .fieldref 1 29), (0, .nameAndType 30 27), (0, u "listedInWindow"), (0, .fieldref 1 32), (0, .nameAndType 33 16), (0, u "tallies"), (0, .fieldref 1 35), (0, .nameAndType 36 37), (0, u "length"), (0, u "I"), (0, .fieldref 1 39), (0, .nameAndType 40 23), (0, u "exact"), (0, .fieldref 1 42), (0, .nameAndType 43 37), (0, u "lastOffset"), (0, .methodref 45 46), (0, .class_ 47), (0, .nameAndType 48 49), (0, u "java/lang/Math"), (0, u "min"), (0, u "(II)I"), (0, .fieldref 1 51), (0, .nameAndType 52 37), (0, u "secondOffset"), (0, .fieldref 1 54), (0, .nameAndType 55 37), (0, u "thirdOffset"), (0, .methodref 45 57), (0, .nameAndType 58 49), (0, u "max"), (0, .fieldref 1 60), (0, .nameAndType 61 37), (0, u "penultimateOffset"), (0, .methodref 1 63), (0, .nameAndType 64 65), (0, u "everyByte"), (0, u "(I)J"), (0, .fieldref 1 67), (0, .nameAndType 68 69), (0, u "firstBytes"), (0, u "J"), (0, .fieldref 1 71), (0, .nameAndType 72 69), (0, u "secondBytes"), (0, .fieldref 1 74), (0, .nameAndType 75 69), (0, u "thirdBytes"), (0, .fieldref 1 77), (0, .nameAndType 78 69), (0, u "penultimateBytes"), (0, .fieldref 1 80), (0, .nameAndType 81 69), (0, u "lastBytes"), (0, .fieldref 1 83), (0, .nameAndType 84 16), (0, u "patternWords"), (0, .fieldref 1 86), (0, .nameAndType 87 37), (0, u "lastWordOffset"), (0, .long 18446744073709551615), (1, .fieldref 1 91), (0, .nameAndType 92 69), (0, u "lastWordMask"), (0, .long 255), (1, .methodref 1 96), (0, .nameAndType 97 98), (0, u "over"), (0, u "([BIILcom/example/sidestep/sidestep/Starts$LowBytes;)V"), (0, .fieldref 1 100), (0, .nameAndType 101 102), (0, u "source"), (0, u "Lcom/example/sidestep/sidestep/Starts$LowBytes;"), (0, .fieldref 1 104), (0, .nameAndType 105 37), (0, u "copiedTo"), (0, .fieldref 1 107), (0, .nameAndType 108 109), (0, u "lowBytes"), (0, u "[B"), (0, .fieldref 1 111), (0, .nameAndType 112 37), (0, u "to"), (0, .fieldref 1 114), (0, .nameAndType 115 37), (0, u "placesEnd"), (0, .fieldref 1 117), (0, .nameAndType 118 37), (0, u "wholeEnd"), (0, .fieldref 1 120), (0, .nameAndType 121 37), (0, u "decidedEnd"), (0, .fieldref 1 123), (0, .nameAndType 124 37), (0, u "placed"), (0, .fieldref 1 126), (0, .nameAndType 127 37), (0, u "taken"), (0, .fieldref 1 129), (0, .nameAndType 130 37), (0, u "listedTo"), (0, .fieldref 1 132), (0, .nameAndType 133 23), (0, u "dense"), (0, .methodref 1 135), (0, .nameAndType 136 12), (0, u "forgetGroup"), (3, u "(I)Z"), (8, u "countsWhole"), (2, u "talliedWindows"), (2, u "untaken"), (6, u "counted"), (7, .fieldref 1 171), (0, .nameAndType 172 37), (0, u "handedSections"), (0, .fieldref 1 174), (0, .nameAndType 175 37), (0, u "sections"), (2, u "room"), (9, u "windows"), (0, .fieldref 1 190), (0, .nameAndType 191 37), (0, u "marking"), (2, u "groupStart"), (8, u "groupWords"), (39, .class_ 245), (1, u "com/example/sidestep/sidestep/Starts$LowBytes"), (1, u "([BII)V"), (0, .long 72340172838076673), (3, u "WORDS"), (0, u "Ljava/lang/invoke/VarHandle;"), (18, u "LOW_BITS"), (1, u "LOW_SEVEN_BITS"), (0, u "HIGH_BITS"), (0, u "WINDOW"), (1, u "WINDOW_WORDS"), (1, u "FIRST_WINDOW"), (1, u "FIRST_WINDOWS"), (1, u "SECTIONS"), (1, u "GROUP"), (0, u "DENSE"), (0, u "EXACT_LENGTH"), (1, u "DECIDED_LENGTH"), (0, u "MOST_TALLIED_WINDOWS"), (1, u "EVEN_BYTES"), (0, u "LOW_BIT_OF_EACH_LANE"), (0, u "([I)V"), (12, u "talliesFrom")] 8

def k2c0 : Code := { maxStack := 8, maxLocals := 5, code := prog_6_method_1_code, exceptionTable := #[], attributes := #[] }
def k2m0 : Method := { name := "<init>", desc := "([I)V", sig := { parameters := [(.array .int)], returnType := none }, accessFlags := 0, code := some k2c0 }
def k2c1 : Code := { maxStack := 5, maxLocals := 4, code := prog_6_method_2_code, exceptionTable := #[], attributes := #[] }
def k2m1 : Method := { name := "over", desc := "([BII)V", sig := { parameters := [(.array .byte), .int, .int], returnType := none }, accessFlags := 0, code := some k2c1 }
def k2c2 : Code := { maxStack := 5, maxLocals := 5, code := prog_6_method_3_code, exceptionTable := #[], attributes := #[] }
def k2m2 : Method := { name := "over", desc := "([BIILcom/example/sidestep/sidestep/Starts$LowBytes;)V", sig := { parameters := [(.array .byte), .int, .int, (.object "com/example/sidestep/sidestep/Starts$LowBytes")], returnType := none }, accessFlags := 0, code := some k2c2 }
def k2c3 : Code := { maxStack := 2, maxLocals := 2, code := prog_6_method_9_code, exceptionTable := #[], attributes := #[] }
def k2m3 : Method := { name := "talliesFrom", desc := "(I)Z", sig := { parameters := [.int], returnType := some .boolean }, accessFlags := 0, code := some k2c3 }
def k2c4 : Code := { maxStack := 2, maxLocals := 1, code := prog_6_method_18_code, exceptionTable := #[], attributes := #[] }
def k2m4 : Method := { name := "forgetGroup", desc := "()V", sig := { parameters := [], returnType := none }, accessFlags := 2, code := some k2c4 }
def k2c5 : Code := { maxStack := 4, maxLocals := 1, code := prog_6_method_22_code, exceptionTable := #[], attributes := #[] }
def k2m5 : Method := { name := "everyByte", desc := "(I)J", sig := { parameters := [.int], returnType := some .long }, accessFlags := 10, code := some k2c5 }
/-- com/example/sidestep/sidestep/Starts -/
def k2 : Class := { plain "com/example/sidestep/sidestep/Starts" (some 0) with
  accessFlags := 48
  interfaces := #[]
  cf := some (fileOf pool2 1 #[.nestMembers #[243]] #[{ accessFlags := 0, nameIndex := 11, descriptorIndex := 295, attributes := #[] }, { accessFlags := 0, nameIndex := 97, descriptorIndex := 247, attributes := #[] }, { accessFlags := 0, nameIndex := 97, descriptorIndex := 98, attributes := #[] }, { accessFlags := 0, nameIndex := 308, descriptorIndex := 140, attributes := #[] }, { accessFlags := 2, nameIndex := 136, descriptorIndex := 12, attributes := #[] }, { accessFlags := 10, nameIndex := 64, descriptorIndex := 65, attributes := #[] }] 48 8 #[] #[{ accessFlags := 26, nameIndex := 252, descriptorIndex := 253, attributes := #[] }, { accessFlags := 26, nameIndex := 272, descriptorIndex := 69, attributes := #[] }, { accessFlags := 26, nameIndex := 274, descriptorIndex := 69, attributes := #[] }, { accessFlags := 26, nameIndex := 275, descriptorIndex := 69, attributes := #[] }, { accessFlags := 24, nameIndex := 276, descriptorIndex := 37, attributes := #[] }, { accessFlags := 26, nameIndex := 278, descriptorIndex := 37, attributes := #[] }, { accessFlags := 26, nameIndex := 280, descriptorIndex := 37, attributes := #[] }, { accessFlags := 26, nameIndex := 282, descriptorIndex := 37, attributes := #[] }, { accessFlags := 26, nameIndex := 284, descriptorIndex := 37, attributes := #[] }, { accessFlags := 24, nameIndex := 286, descriptorIndex := 37, attributes := #[] }, { accessFlags := 26, nameIndex := 287, descriptorIndex := 37, attributes := #[] }, { accessFlags := 26, nameIndex := 288, descriptorIndex := 37, attributes := #[] }, { accessFlags := 26, nameIndex := 290, descriptorIndex := 37, attributes := #[] }, { accessFlags := 26, nameIndex := 291, descriptorIndex := 37, attributes := #[] }, { accessFlags := 26, nameIndex := 293, descriptorIndex := 69, attributes := #[] }, { accessFlags := 26, nameIndex := 294, descriptorIndex := 69, attributes := #[] }, { accessFlags := 18, nameIndex := 36, descriptorIndex := 37, attributes := #[] }, { accessFlags := 18, nameIndex := 40, descriptorIndex := 23, attributes := #[] }, { accessFlags := 18, nameIndex := 52, descriptorIndex := 37, attributes := #[] }, { accessFlags := 18, nameIndex := 55, descriptorIndex := 37, attributes := #[] }, { accessFlags := 18, nameIndex := 61, descriptorIndex := 37, attributes := #[] }, { accessFlags := 18, nameIndex := 43, descriptorIndex := 37, attributes := #[] }, { accessFlags := 18, nameIndex := 68, descriptorIndex := 69, attributes := #[] }, { accessFlags := 18, nameIndex := 72, descriptorIndex := 69, attributes := #[] }, { accessFlags := 18, nameIndex := 75, descriptorIndex := 69, attributes := #[] }, { accessFlags := 18, nameIndex := 78, descriptorIndex := 69, attributes := #[] }, { accessFlags := 18, nameIndex := 81, descriptorIndex := 69, attributes := #[] }, { accessFlags := 18, nameIndex := 84, descriptorIndex := 16, attributes := #[] }, { accessFlags := 18, nameIndex := 87, descriptorIndex := 37, attributes := #[] }, { accessFlags := 18, nameIndex := 92, descriptorIndex := 69, attributes := #[] }, { accessFlags := 2, nameIndex := 108, descriptorIndex := 109, attributes := #[] }, { accessFlags := 2, nameIndex := 112, descriptorIndex := 37, attributes := #[] }, { accessFlags := 2, nameIndex := 101, descriptorIndex := 102, attributes := #[] }, { accessFlags := 2, nameIndex := 105, descriptorIndex := 37, attributes := #[] }, { accessFlags := 2, nameIndex := 115, descriptorIndex := 37, attributes := #[] }, { accessFlags := 2, nameIndex := 118, descriptorIndex := 37, attributes := #[] }, { accessFlags := 2, nameIndex := 121, descriptorIndex := 37, attributes := #[] }, { accessFlags := 2, nameIndex := 15, descriptorIndex := 16, attributes := #[] }, { accessFlags := 2, nameIndex := 194, descriptorIndex := 37, attributes := #[] }, { accessFlags := 2, nameIndex := 203, descriptorIndex := 37, attributes := #[] }, { accessFlags := 2, nameIndex := 191, descriptorIndex := 37, attributes := #[] }, { accessFlags := 2, nameIndex := 175, descriptorIndex := 37, attributes := #[] }, { accessFlags := 2, nameIndex := 172, descriptorIndex := 37, attributes := #[] }, { accessFlags := 18, nameIndex := 19, descriptorIndex := 16, attributes := #[] }, { accessFlags := 2, nameIndex := 22, descriptorIndex := 23, attributes := #[] }, { accessFlags := 2, nameIndex := 26, descriptorIndex := 27, attributes := #[] }, { accessFlags := 2, nameIndex := 178, descriptorIndex := 37, attributes := #[] }, { accessFlags := 18, nameIndex := 30, descriptorIndex := 27, attributes := #[] }, { accessFlags := 2, nameIndex := 124, descriptorIndex := 37, attributes := #[] }, { accessFlags := 2, nameIndex := 127, descriptorIndex := 37, attributes := #[] }, { accessFlags := 2, nameIndex := 130, descriptorIndex := 37, attributes := #[] }, { accessFlags := 2, nameIndex := 133, descriptorIndex := 23, attributes := #[] }, { accessFlags := 2, nameIndex := 162, descriptorIndex := 37, attributes := #[] }, { accessFlags := 2, nameIndex := 149, descriptorIndex := 23, attributes := #[] }, { accessFlags := 2, nameIndex := 33, descriptorIndex := 16, attributes := #[] }, { accessFlags := 2, nameIndex := 152, descriptorIndex := 37, attributes := #[] }, { accessFlags := 2, nameIndex := 155, descriptorIndex := 69, attributes := #[] }, { accessFlags := 2, nameIndex := 188, descriptorIndex := 37, attributes := #[] }])
  fields := #[{ name := "WORDS", type := (.object "java/lang/invoke/VarHandle"), accessFlags := 26, slot := 0, constantValue := 0 }, { name := "LOW_BITS", type := .long, accessFlags := 26, slot := 1, constantValue := 0 }, { name := "LOW_SEVEN_BITS", type := .long, accessFlags := 26, slot := 2, constantValue := 0 }, { name := "HIGH_BITS", type := .long, accessFlags := 26, slot := 3, constantValue := 0 }, { name := "WINDOW", type := .int, accessFlags := 24, slot := 4, constantValue := 0 }, { name := "WINDOW_WORDS", type := .int, accessFlags := 26, slot := 5, constantValue := 0 }, { name := "FIRST_WINDOW", type := .int, accessFlags := 26, slot := 6, constantValue := 0 }, { name := "FIRST_WINDOWS", type := .int, accessFlags := 26, slot := 7, constantValue := 0 }, { name := "SECTIONS", type := .int, accessFlags := 26, slot := 8, constantValue := 0 }, { name := "GROUP", type := .int, accessFlags := 24, slot := 9, constantValue := 0 }, { name := "DENSE", type := .int, accessFlags := 26, slot := 10, constantValue := 0 }, { name := "EXACT_LENGTH", type := .int, accessFlags := 26, slot := 11, constantValue := 0 }, { name := "DECIDED_LENGTH", type := .int, accessFlags := 26, slot := 12, constantValue := 0 }, { name := "MOST_TALLIED_WINDOWS", type := .int, accessFlags := 26, slot := 13, constantValue := 0 }, { name := "EVEN_BYTES", type := .long, accessFlags := 26, slot := 14, constantValue := 0 }, { name := "LOW_BIT_OF_EACH_LANE", type := .long, accessFlags := 26, slot := 15, constantValue := 0 }, { name := "length", type := .int, accessFlags := 18, slot := 0, constantValue := 0 }, { name := "exact", type := .boolean, accessFlags := 18, slot := 1, constantValue := 0 }, { name := "secondOffset", type := .int, accessFlags := 18, slot := 2, constantValue := 0 }, { name := "thirdOffset", type := .int, accessFlags := 18, slot := 3, constantValue := 0 }, { name := "penultimateOffset", type := .int, accessFlags := 18, slot := 4, constantValue := 0 }, { name := "lastOffset", type := .int, accessFlags := 18, slot := 5, constantValue := 0 }, { name := "firstBytes", type := .long, accessFlags := 18, slot := 6, constantValue := 0 }, { name := "secondBytes", type := .long, accessFlags := 18, slot := 7, constantValue := 0 }, { name := "thirdBytes", type := .long, accessFlags := 18, slot := 8, constantValue := 0 }, { name := "penultimateBytes", type := .long, accessFlags := 18, slot := 9, constantValue := 0 }, { name := "lastBytes", type := .long, accessFlags := 18, slot := 10, constantValue := 0 }, { name := "patternWords", type := (.array .long), accessFlags := 18, slot := 11, constantValue := 0 }, { name := "lastWordOffset", type := .int, accessFlags := 18, slot := 12, constantValue := 0 }, { name := "lastWordMask", type := .long, accessFlags := 18, slot := 13, constantValue := 0 }, { name := "lowBytes", type := (.array .byte), accessFlags := 2, slot := 14, constantValue := 0 }, { name := "to", type := .int, accessFlags := 2, slot := 15, constantValue := 0 }, { name := "source", type := (.object "com/example/sidestep/sidestep/Starts$LowBytes"), accessFlags := 2, slot := 16, constantValue := 0 }, { name := "copiedTo", type := .int, accessFlags := 2, slot := 17, constantValue := 0 }, { name := "placesEnd", type := .int, accessFlags := 2, slot := 18, constantValue := 0 }, { name := "wholeEnd", type := .int, accessFlags := 2, slot := 19, constantValue := 0 }, { name := "decidedEnd", type := .int, accessFlags := 2, slot := 20, constantValue := 0 }, { name := "marks", type := (.array .long), accessFlags := 2, slot := 21, constantValue := 0 }, { name := "groupStart", type := .int, accessFlags := 2, slot := 22, constantValue := 0 }, { name := "groupWords", type := .int, accessFlags := 2, slot := 23, constantValue := 0 }, { name := "marking", type := .int, accessFlags := 2, slot := 24, constantValue := 0 }, { name := "sections", type := .int, accessFlags := 2, slot := 25, constantValue := 0 }, { name := "handedSections", type := .int, accessFlags := 2, slot := 26, constantValue := 0 }, { name := "nonzeroWords", type := (.array .long), accessFlags := 18, slot := 27, constantValue := 0 }, { name := "fewBusyBlocks", type := .boolean, accessFlags := 2, slot := 28, constantValue := 0 }, { name := "places", type := (.array .int), accessFlags := 2, slot := 29, constantValue := 0 }, { name := "room", type := .int, accessFlags := 2, slot := 30, constantValue := 0 }, { name := "listedInWindow", type := (.array .int), accessFlags := 18, slot := 31, constantValue := 0 }, { name := "placed", type := .int, accessFlags := 2, slot := 32, constantValue := 0 }, { name := "taken", type := .int, accessFlags := 2, slot := 33, constantValue := 0 }, { name := "listedTo", type := .int, accessFlags := 2, slot := 34, constantValue := 0 }, { name := "dense", type := .boolean, accessFlags := 2, slot := 35, constantValue := 0 }, { name := "counted", type := .int, accessFlags := 2, slot := 36, constantValue := 0 }, { name := "countsWhole", type := .boolean, accessFlags := 2, slot := 37, constantValue := 0 }, { name := "tallies", type := (.array .long), accessFlags := 2, slot := 38, constantValue := 0 }, { name := "talliedWindows", type := .int, accessFlags := 2, slot := 39, constantValue := 0 }, { name := "untaken", type := .long, accessFlags := 2, slot := 40, constantValue := 0 }, { name := "windows", type := .int, accessFlags := 2, slot := 41, constantValue := 0 }]
  methods := #[k2m0, k2m1, k2m2, k2m3, k2m4, k2m5]
  instanceTypes := #[.int, .boolean, .int, .int, .int, .int, .long, .long, .long, .long, .long, (.array .long), .int, .long, (.array .byte), .int, (.object "com/example/sidestep/sidestep/Starts$LowBytes"), .int, .int, .int, .int, (.array .long), .int, .int, .int, .int, .int, (.array .long), .boolean, (.array .int), .int, (.array .int), .int, .int, .int, .boolean, .int, .boolean, (.array .long), .int, .long, .int]
  staticTypes := #[(.object "java/lang/invoke/VarHandle"), .long, .long, .long, .int, .int, .int, .int, .int, .int, .int, .int, .int, .int, .long, .long]
  resolved := Array.replicate 317 none
  statics := none }

def pool3 : Array CpInfo := pool [(1, .class_ 2), (0, u "java/lang/Math"), (1, .class_ 6), (1, u "java/lang/Object"), (0, u "<init>"), (0, u "()V"), (89, .class_ 100), (1, u "java/lang/Math$RandomNumberGeneratorHolder"), (20, u "(JJ)J"), (50, u "negativeZeroFloatBits"), (0, u "J"), (2, u "negativeZeroDoubleBits"), (21, u "max"), (2, u "min"), (43, u "$assertionsDisabled"), (0, u "Z"), (88, u "(II)I"), (2, u "twoToTheDoubleScaleDown"), (0, u "D"), (4, u "twoToTheDoubleScaleUp"), (9, u "E"), (3, u "PI"), (2, u "TAU"), (2, u "DEGREES_TO_RADIANS"), (0, u "RADIANS_TO_DEGREES")] 94

def k3m0 : Method := { name := "<init>", desc := "()V", sig := { parameters := [], returnType := none }, accessFlags := 2, code := none }
def k3c1 : Code := { maxStack := 2, maxLocals := 2, code := jdk_29_method_65_code, exceptionTable := #[], attributes := #[] }
def k3m1 : Method := { name := "max", desc := "(II)I", sig := { parameters := [.int, .int], returnType := some .int }, accessFlags := 9, code := some k3c1 }
def k3c2 : Code := { maxStack := 4, maxLocals := 4, code := jdk_29_method_66_code, exceptionTable := #[], attributes := #[] }
def k3m2 : Method := { name := "max", desc := "(JJ)J", sig := { parameters := [.long, .long], returnType := some .long }, accessFlags := 9, code := some k3c2 }
def k3c3 : Code := { maxStack := 2, maxLocals := 2, code := jdk_29_method_69_code, exceptionTable := #[], attributes := #[] }
def k3m3 : Method := { name := "min", desc := "(II)I", sig := { parameters := [.int, .int], returnType := some .int }, accessFlags := 9, code := some k3c3 }
def k3c4 : Code := { maxStack := 4, maxLocals := 4, code := jdk_29_method_70_code, exceptionTable := #[], attributes := #[] }
def k3m4 : Method := { name := "min", desc := "(JJ)J", sig := { parameters := [.long, .long], returnType := some .long }, accessFlags := 9, code := some k3c4 }
/-- java/lang/Math -/
def k3 : Class := { plain "java/lang/Math" (some 0) with
  accessFlags := 49
  interfaces := #[]
  cf := some (fileOf pool3 1 #[.nestMembers #[98]] #[{ accessFlags := 2, nameIndex := 7, descriptorIndex := 8, attributes := #[] }, { accessFlags := 9, nameIndex := 198, descriptorIndex := 335, attributes := #[] }, { accessFlags := 9, nameIndex := 198, descriptorIndex := 121, attributes := #[] }, { accessFlags := 9, nameIndex := 201, descriptorIndex := 335, attributes := #[] }, { accessFlags := 9, nameIndex := 201, descriptorIndex := 121, attributes := #[] }] 49 4 #[] #[{ accessFlags := 25, nameIndex := 354, descriptorIndex := 339, attributes := #[] }, { accessFlags := 25, nameIndex := 358, descriptorIndex := 339, attributes := #[] }, { accessFlags := 25, nameIndex := 361, descriptorIndex := 339, attributes := #[] }, { accessFlags := 26, nameIndex := 364, descriptorIndex := 339, attributes := #[] }, { accessFlags := 26, nameIndex := 365, descriptorIndex := 339, attributes := #[] }, { accessFlags := 26, nameIndex := 172, descriptorIndex := 173, attributes := #[] }, { accessFlags := 26, nameIndex := 176, descriptorIndex := 173, attributes := #[] }, { accessFlags := 8, nameIndex := 344, descriptorIndex := 339, attributes := #[] }, { accessFlags := 8, nameIndex := 338, descriptorIndex := 339, attributes := #[] }, { accessFlags := 4120, nameIndex := 245, descriptorIndex := 246, attributes := #[] }])
  fields := #[{ name := "E", type := .double, accessFlags := 25, slot := 0, constantValue := 0 }, { name := "PI", type := .double, accessFlags := 25, slot := 1, constantValue := 0 }, { name := "TAU", type := .double, accessFlags := 25, slot := 2, constantValue := 0 }, { name := "DEGREES_TO_RADIANS", type := .double, accessFlags := 26, slot := 3, constantValue := 0 }, { name := "RADIANS_TO_DEGREES", type := .double, accessFlags := 26, slot := 4, constantValue := 0 }, { name := "negativeZeroFloatBits", type := .long, accessFlags := 26, slot := 5, constantValue := 0 }, { name := "negativeZeroDoubleBits", type := .long, accessFlags := 26, slot := 6, constantValue := 0 }, { name := "twoToTheDoubleScaleUp", type := .double, accessFlags := 8, slot := 7, constantValue := 0 }, { name := "twoToTheDoubleScaleDown", type := .double, accessFlags := 8, slot := 8, constantValue := 0 }, { name := "$assertionsDisabled", type := .boolean, accessFlags := 4120, slot := 9, constantValue := 0 }]
  methods := #[k3m0, k3m1, k3m2, k3m3, k3m4]
  instanceTypes := #[]
  staticTypes := #[.double, .double, .double, .double, .double, .long, .long, .double, .double, .boolean]
  resolved := Array.replicate 460 none
  statics := none }

def pool4 : Array CpInfo := pool [(1, u "java/lang/Cloneable"), (0, .class_ 1), (0, u "java/lang/Object"), (0, .class_ 3)] 3

/-- java/lang/Cloneable -/
def k4 : Class := { plain "java/lang/Cloneable" (some 0) with
  accessFlags := 1537
  interfaces := #[]
  cf := some (fileOf pool4 2 #[] #[] 1537 4 #[] #[])
  fields := #[]
  methods := #[]
  instanceTypes := #[]
  staticTypes := #[]
  resolved := Array.replicate 8 none
  statics := none }

def pool5 : Array CpInfo := pool [(1, u "java/io/Serializable"), (0, .class_ 1), (0, u "java/lang/Object"), (0, .class_ 3)] 3

/-- java/io/Serializable -/
def k5 : Class := { plain "java/io/Serializable" (some 0) with
  accessFlags := 1537
  interfaces := #[]
  cf := some (fileOf pool5 2 #[] #[] 1537 4 #[] #[])
  fields := #[]
  methods := #[]
  instanceTypes := #[]
  staticTypes := #[]
  resolved := Array.replicate 8 none
  statics := none }

/-- the primitive byte -/
def k6 : Class := { plain "byte" none with kind := .primitive 'B', accessFlags := 0x411 }
/-- [B -/
def k7 : Class := { plain "[B" (some 0) with kind := .array 6 .byte, interfaces := #[4, 5], accessFlags := 1041 }

/-- the primitive int -/
def k8 : Class := { plain "int" none with kind := .primitive 'I', accessFlags := 0x411 }
/-- [I -/
def k9 : Class := { plain "[I" (some 0) with kind := .array 8 .int, interfaces := #[4, 5], accessFlags := 1041 }

/-- the primitive long -/
def k10 : Class := { plain "long" none with kind := .primitive 'J', accessFlags := 0x411 }
/-- [J -/
def k11 : Class := { plain "[J" (some 0) with kind := .array 10 .long, interfaces := #[4, 5], accessFlags := 1041 }

def heap : Heap := #[]
def classes : Array Class := #[k0, k1, k2, k3, k4, k5, k6, k7, k8, k9, k10, k11]
def interned : List (Array UInt16 × Addr) := []
def slotsUsed : Nat := 0
def theMethod : MethodId := ⟨1, 1⟩
def args0 : Array Value := #[.int 5, .int 3, .int 4, .int 9, .int 7]
def aboutOver (below : List Frame) : State where
  vm := { classes := classes, interned := interned.toArray }
  heap := heap
  slotsUsed := slotsUsed
  threads := #[{ frames := .invoking theMethod args0 :: below }]
def below0 : List Frame := [.native { method := ⟨0, 0⟩, args := #[] }]
def about1 : State := aboutOver below0
def p0 : Program := .bare "" "" ""
def e0 : Env := launch0.env 0 0 0
theorem w_frames : about1.frames = Frame.invoking theMethod args0 :: below0 := rfl
set_option maxRecDepth 65536 in
theorem w_args : argsFit about1.vm theMethod args0 = true := by decide +kernel
set_option maxRecDepth 65536 in
theorem w_heap : heapFits about1 = true := by decide +kernel
set_option maxRecDepth 65536 in
theorem w_runnable : about1.curStatus? = some .runnable := by decide +kernel
set_option maxRecDepth 65536 in
theorem w_alone : about1.alone = true := by decide +kernel
set_option maxRecDepth 65536 in
theorem w_named : about1.methodNamed? x = some theMethod := by decide +kernel
set_option maxRecDepth 65536 in
theorem w_hears : about1.hears theMethod below0 = true := by decide +kernel
set_option maxRecDepth 65536 in
theorem w_ripe : about1.ripe theMethod args0 below0 = true := by decide +kernel
theorem w_running : about1.status = .running := rfl
set_option maxRecDepth 65536 in
theorem w_room : about1.hasRoom e0.platform room_1 = true :=
  launch0.hasRoom_least _ room_1 (by decide +kernel) (by decide +kernel) (by decide +kernel) (by decide +kernel) (by decide +kernel) (by decide +kernel)
theorem allAtoms_all (ts : List Jvm.Cond) (a : Array Jvm.Value) (st : Jvm.State) : (allAtoms ts).before a st = ts.all (fun c => c.before a st) := by
  induction ts with
  | nil => rfl
  | cons c t ih =>
    show (Jvm.Cond.and c (allAtoms t)).before a st = _
    rw [Jvm.Cond.before_and, ih, List.all_cons]
def words1 : List Jvm.Cond := Jvm.Cond.code x code maxLocals ret :: tables_1
/-- a 'code' word, met by the world's own term for the bytes: nothing is compared byte by byte -/
theorem code_word {y : MethodName} {bytes : ByteArray} {mx : Nat} {rt : Option FieldType} {a : Array Value} {s : State} {m : MethodId} {meth : Method} {c : Code} (h1 : s.methodNamed? y = some m) (h2 : s.vm.method? m = some meth) (h3 : meth.code = some c) (h4 : c.code = bytes)
    (h5 : (c.maxLocals == mx && c.exceptionTable.isEmpty && decide (c.maxStack ≤ mostOperands) && decide (meth.sig.returnType = rt) && !meth.locks && decide (parseMethodDescriptor y.desc = some meth.sig)) = true) : (Jvm.Cond.code y bytes mx rt).before a s = true := by
  simp only [Bool.and_eq_true, beq_iff_eq, Bool.not_eq_true', decide_eq_true_eq] at h5
  obtain ⟨⟨⟨⟨⟨g1, g2⟩, g3⟩, g4⟩, g5⟩, g6⟩ := h5
  simp [Cond.before, Cond.holds, Cond.value, h1, h2, h3, h4, g1, g2, g3, g4, g5, g6]
def isCode : Jvm.Cond → Bool
  | .code _ _ _ _ => true
  | _ => false
theorem all_split {L : List Jvm.Cond} {P : Jvm.Cond → Bool} (h1 : L.all (fun c => isCode c || P c) = true) (h2 : ∀ c ∈ L.filter isCode, P c = true) : L.all P = true := by
  refine List.all_eq_true.mpr fun c hc => ?_
  have h := List.all_eq_true.mp h1 c hc
  rcases Bool.eq_false_or_eq_true (isCode c) with hi | hi
  · exact h2 c (List.mem_filter.mpr ⟨hc, hi⟩)
  · simpa [hi] using h
set_option maxRecDepth 65536 in
theorem w_c0 : (Jvm.Cond.code x code maxLocals ret).before args0 about1 = true := code_word (m := ⟨1, 1⟩) (meth := k1m1) (c := k1c1) (by decide +kernel) rfl rfl rfl (by decide +kernel)
set_option maxRecDepth 65536 in
theorem w_c1 : (Jvm.Cond.code ({ cls := "com/example/sidestep/sidestep/Starts", name := "<init>", desc := "([I)V" } : Jvm.MethodName) prog_6_method_1_code (5 : Nat) (Option.none : Option Jvm.ClassFile.FieldType)).before args0 about1 = true := code_word (m := ⟨2, 0⟩) (meth := k2m0) (c := k2c0) (by decide +kernel) rfl rfl rfl (by decide +kernel)
set_option maxRecDepth 65536 in
theorem w_c2 : (Jvm.Cond.code ({ cls := "java/lang/Object", name := "<init>", desc := "()V" } : Jvm.MethodName) object_method_1_code (1 : Nat) (Option.none : Option Jvm.ClassFile.FieldType)).before args0 about1 = true := code_word (m := ⟨0, 0⟩) (meth := k0m0) (c := k0c0) (by decide +kernel) rfl rfl rfl (by decide +kernel)
set_option maxRecDepth 65536 in
theorem w_c3 : (Jvm.Cond.code ({ cls := "java/lang/Math", name := "min", desc := "(II)I" } : Jvm.MethodName) jdk_29_method_69_code (2 : Nat) (Option.some Jvm.ClassFile.FieldType.int)).before args0 about1 = true := code_word (m := ⟨3, 3⟩) (meth := k3m3) (c := k3c3) (by decide +kernel) rfl rfl rfl (by decide +kernel)
set_option maxRecDepth 65536 in
theorem w_c4 : (Jvm.Cond.code ({ cls := "java/lang/Math", name := "max", desc := "(II)I" } : Jvm.MethodName) jdk_29_method_65_code (2 : Nat) (Option.some Jvm.ClassFile.FieldType.int)).before args0 about1 = true := code_word (m := ⟨3, 1⟩) (meth := k3m1) (c := k3c1) (by decide +kernel) rfl rfl rfl (by decide +kernel)
set_option maxRecDepth 65536 in
theorem w_c5 : (Jvm.Cond.code ({ cls := "com/example/sidestep/sidestep/Starts", name := "everyByte", desc := "(I)J" } : Jvm.MethodName) prog_6_method_22_code (1 : Nat) (Option.some Jvm.ClassFile.FieldType.long)).before args0 about1 = true := code_word (m := ⟨2, 5⟩) (meth := k2m5) (c := k2c5) (by decide +kernel) rfl rfl rfl (by decide +kernel)
set_option maxRecDepth 65536 in
theorem w_c6 : (Jvm.Cond.code ({ cls := "com/example/sidestep/sidestep/Starts", name := "over", desc := "([BII)V" } : Jvm.MethodName) prog_6_method_2_code (4 : Nat) (Option.none : Option Jvm.ClassFile.FieldType)).before args0 about1 = true := code_word (m := ⟨2, 1⟩) (meth := k2m1) (c := k2c1) (by decide +kernel) rfl rfl rfl (by decide +kernel)
set_option maxRecDepth 65536 in
theorem w_c7 : (Jvm.Cond.code ({ cls := "com/example/sidestep/sidestep/Starts", name := "over", desc := "([BIILcom/example/sidestep/sidestep/Starts$LowBytes;)V" } : Jvm.MethodName) prog_6_method_3_code (5 : Nat) (Option.none : Option Jvm.ClassFile.FieldType)).before args0 about1 = true := code_word (m := ⟨2, 2⟩) (meth := k2m2) (c := k2c2) (by decide +kernel) rfl rfl rfl (by decide +kernel)
set_option maxRecDepth 65536 in
theorem w_c8 : (Jvm.Cond.code ({ cls := "com/example/sidestep/sidestep/Starts", name := "forgetGroup", desc := "()V" } : Jvm.MethodName) prog_6_method_18_code (1 : Nat) (Option.none : Option Jvm.ClassFile.FieldType)).before args0 about1 = true := code_word (m := ⟨2, 4⟩) (meth := k2m4) (c := k2c4) (by decide +kernel) rfl rfl rfl (by decide +kernel)
set_option maxRecDepth 65536 in
theorem w_c9 : (Jvm.Cond.code ({ cls := "java/lang/Math", name := "min", desc := "(JJ)J" } : Jvm.MethodName) jdk_29_method_70_code (4 : Nat) (Option.some Jvm.ClassFile.FieldType.long)).before args0 about1 = true := code_word (m := ⟨3, 4⟩) (meth := k3m4) (c := k3c4) (by decide +kernel) rfl rfl rfl (by decide +kernel)
set_option maxRecDepth 65536 in
theorem w_c10 : (Jvm.Cond.code ({ cls := "com/example/sidestep/sidestep/Starts", name := "talliesFrom", desc := "(I)Z" } : Jvm.MethodName) prog_6_method_9_code (2 : Nat) (Option.some Jvm.ClassFile.FieldType.boolean)).before args0 about1 = true := code_word (m := ⟨2, 3⟩) (meth := k2m3) (c := k2c3) (by decide +kernel) rfl rfl rfl (by decide +kernel)
set_option maxRecDepth 65536 in
theorem w_c11 : (Jvm.Cond.code ({ cls := "java/lang/Math", name := "max", desc := "(JJ)J" } : Jvm.MethodName) jdk_29_method_66_code (4 : Nat) (Option.some Jvm.ClassFile.FieldType.long)).before args0 about1 = true := code_word (m := ⟨3, 2⟩) (meth := k3m2) (c := k3c2) (by decide +kernel) rfl rfl rfl (by decide +kernel)
def codes1 : List Jvm.Cond := [Jvm.Cond.code x code maxLocals ret, Jvm.Cond.code ({ cls := "com/example/sidestep/sidestep/Starts", name := "<init>", desc := "([I)V" } : Jvm.MethodName) prog_6_method_1_code (5 : Nat) (Option.none : Option Jvm.ClassFile.FieldType), Jvm.Cond.code ({ cls := "java/lang/Object", name := "<init>", desc := "()V" } : Jvm.MethodName) object_method_1_code (1 : Nat) (Option.none : Option Jvm.ClassFile.FieldType), Jvm.Cond.code ({ cls := "java/lang/Math", name := "min", desc := "(II)I" } : Jvm.MethodName) jdk_29_method_69_code (2 : Nat) (Option.some Jvm.ClassFile.FieldType.int), Jvm.Cond.code ({ cls := "java/lang/Math", name := "max", desc := "(II)I" } : Jvm.MethodName) jdk_29_method_65_code (2 : Nat) (Option.some Jvm.ClassFile.FieldType.int), Jvm.Cond.code ({ cls := "com/example/sidestep/sidestep/Starts", name := "everyByte", desc := "(I)J" } : Jvm.MethodName) prog_6_method_22_code (1 : Nat) (Option.some Jvm.ClassFile.FieldType.long), Jvm.Cond.code ({ cls := "com/example/sidestep/sidestep/Starts", name := "over", desc := "([BII)V" } : Jvm.MethodName) prog_6_method_2_code (4 : Nat) (Option.none : Option Jvm.ClassFile.FieldType), Jvm.Cond.code ({ cls := "com/example/sidestep/sidestep/Starts", name := "over", desc := "([BIILcom/example/sidestep/sidestep/Starts$LowBytes;)V" } : Jvm.MethodName) prog_6_method_3_code (5 : Nat) (Option.none : Option Jvm.ClassFile.FieldType), Jvm.Cond.code ({ cls := "com/example/sidestep/sidestep/Starts", name := "forgetGroup", desc := "()V" } : Jvm.MethodName) prog_6_method_18_code (1 : Nat) (Option.none : Option Jvm.ClassFile.FieldType), Jvm.Cond.code ({ cls := "java/lang/Math", name := "min", desc := "(JJ)J" } : Jvm.MethodName) jdk_29_method_70_code (4 : Nat) (Option.some Jvm.ClassFile.FieldType.long), Jvm.Cond.code ({ cls := "com/example/sidestep/sidestep/Starts", name := "talliesFrom", desc := "(I)Z" } : Jvm.MethodName) prog_6_method_9_code (2 : Nat) (Option.some Jvm.ClassFile.FieldType.boolean), Jvm.Cond.code ({ cls := "java/lang/Math", name := "max", desc := "(JJ)J" } : Jvm.MethodName) jdk_29_method_66_code (4 : Nat) (Option.some Jvm.ClassFile.FieldType.long)]
set_option maxRecDepth 65536 in
theorem codes_eq : words1.filter isCode = codes1 := rfl
theorem w_codes : ∀ c ∈ words1.filter isCode, c.before args0 about1 = true := by
  rw [codes_eq]
  intro c hc
  simp only [codes1, List.mem_cons, List.not_mem_nil, or_false] at hc
  rcases hc with rfl | rfl | rfl | rfl | rfl | rfl | rfl | rfl | rfl | rfl | rfl | rfl
  · exact w_c0
  · exact w_c1
  · exact w_c2
  · exact w_c3
  · exact w_c4
  · exact w_c5
  · exact w_c6
  · exact w_c7
  · exact w_c8
  · exact w_c9
  · exact w_c10
  · exact w_c11
set_option maxRecDepth 65536 in
theorem w_t1 : (words1.take 24).all (fun c => isCode c || c.before args0 about1) = true := by decide +kernel
set_option maxRecDepth 65536 in
theorem w_t2 : ((words1.drop 24).take 24).all (fun c => isCode c || c.before args0 about1) = true := by decide +kernel
set_option maxRecDepth 65536 in
theorem w_t3 : (((words1.drop 24).drop 24).take 24).all (fun c => isCode c || c.before args0 about1) = true := by decide +kernel
set_option maxRecDepth 65536 in
theorem w_t4 : ((((words1.drop 24).drop 24).drop 24).take 24).all (fun c => isCode c || c.before args0 about1) = true := by decide +kernel
set_option maxRecDepth 65536 in
theorem w_t5 : (((((words1.drop 24).drop 24).drop 24).drop 24).take 24).all (fun c => isCode c || c.before args0 about1) = true := by decide +kernel
set_option maxRecDepth 65536 in
theorem w_t6 : (((((words1.drop 24).drop 24).drop 24).drop 24).drop 24).all (fun c => isCode c || c.before args0 about1) = true := by decide +kernel
theorem w_tables : (allAtoms (Jvm.Cond.code x code maxLocals ret :: tables_1)).before args0 about1 = true := by
  rw [allAtoms_all]
  show words1.all (fun c => c.before args0 about1) = true
  refine all_split ?_ w_codes
  rw [← List.take_append_drop 24 words1, List.all_append, w_t1, ← List.take_append_drop 24 (words1.drop 24), List.all_append, w_t2, ← List.take_append_drop 24 ((words1.drop 24).drop 24), List.all_append, w_t3, ← List.take_append_drop 24 (((words1.drop 24).drop 24).drop 24), List.all_append, w_t4, ← List.take_append_drop 24 ((((words1.drop 24).drop 24).drop 24).drop 24), List.all_append, w_t5, w_t6]
  rfl
set_option maxRecDepth 65536 in
theorem w_case : (Jvm.Cond.and given_1 narrow_1).before args0 about1 = true := by decide +kernel
theorem w_applies : (headSpec (Jvm.Cond.code x code maxLocals ret :: tables_1) room_1).applies x e0.platform about1 = true :=
  (Spec.applies_iff w_frames).mpr ⟨w_running, w_runnable, w_alone, w_named, w_hears, w_ripe, w_room, w_tables⟩
theorem atStart : AtStart classFile x code maxLocals ret World_1 tables_1 room_1 Calls_1 rest_1 Pre_1 launch0 p0 e0 about1 theMethod args0 below0 :=
  ⟨lists_1, trivial, launch0.admits_env _ _ _, launch0.least_env, fairChoices_fair.cas, fairChoices_fair.clock, w_frames, w_args, w_heap, w_applies, trivial, trivial, w_case⟩
end start1
theorem witness_1 : WitnessClaimed_1 := ⟨start1.p0, start1.e0, start1.about1, start1.theMethod, start1.args0, start1.below0, start1.atStart⟩
end Jvm.Pilot.@@N@@
