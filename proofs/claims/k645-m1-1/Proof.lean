import JvmDerived
import JvmDerived.Pilot.@@N@@Statement
import JvmDerived.Pilot.@@N@@Code
set_option linter.unusedVariables false
set_option linter.unusedSimpArgs false
namespace Jvm.RoadKit
open Sem ClassFile Op Lib Jvm.Stand Jvm.Free Jvm.LawKit
section New
variable {p : Program} {l : Launch} {e : Env} {R : Room} {s : State} {m : MethodId} {args : Array Value} {below : List Frame} {meth : Method} {c : Code} {T T' : State} {locs : List Loc} {cells slots : Nat}
/-- what a body leaves: the value, and what is known of the heap and of the places written -/
def QV (w : Option Value) (P : Heap → List Loc → Prop) (v : Option Value) (h : Heap) (L : List Loc) : Prop := v = w ∧ P h L
/-- a body that writes nothing -/
def PureP (n0 : Nat) (h0 : Heap) (h : Heap) (L : List Loc) : Prop := Fr n0 L ∧ h = h0
/-- from here the body returns w and leaves P -/
def Got (p : Program) (e : Env) (below : List Frame) (s : State) (P : Heap → List Loc → Prop) (ck cs : Nat) (w : Option Value) (T : State) (g : JFrame) : Prop :=
  ∃ s₂ L, Steps p.tables e below (T.setTop g) s₂ ∧ s₂.status = .running ∧ Ended s₂ below (.returned w) ∧ P s₂.heap L ∧ FrameEnd s (.returned w) s₂ L ck cs
variable {P : Heap → List Loc → Prop} {ck cs : Nat} {w : Option Value} {g g' : JFrame}
theorem Got.step (h : ∀ t, Steps p.tables e below (T'.setTop g') t → Steps p.tables e below (T.setTop g) t) (k : Got p e below s P ck cs w T' g') : Got p e below s P ck cs w T g := by
  obtain ⟨s₂, L, h1, r⟩ := k
  exact ⟨s₂, L, h _ h1, r⟩
theorem Got.hop (h : Steps p.tables e below (T.setTop g) (T'.setTop g')) (k : Got p e below s P ck cs w T' g') : Got p e below s P ck cs w T g := Got.step (fun _ q => h.trans q) k
theorem Got.ite {q : Prop} [Decidable q] {x y : Int32} (h1 : q → Got p e below s P ck cs (some (.int x)) T g) (h2 : ¬ q → Got p e below s P ck cs (some (.int y)) T g) : Got p e below s P ck cs (some (.int (if q then x else y))) T g := by
  by_cases h : q
  · rw [if_pos h]; exact h1 h
  · rw [if_neg h]; exact h2 h
theorem Got.iteJ {q : Prop} [Decidable q] {x y : Int64} (h1 : q → Got p e below s P ck cs (some (.long x)) T g) (h2 : ¬ q → Got p e below s P ck cs (some (.long y)) T g) : Got p e below s P ck cs (some (.long (if q then x else y))) T g := by
  by_cases h : q
  · rw [if_pos h]; exact h1 h
  · rw [if_neg h]; exact h2 h
theorem Got.iteR {q : Prop} [Decidable q] {x y : Addr} (h1 : q → Got p e below s P ck cs (some (.ref x)) T g) (h2 : ¬ q → Got p e below s P ck cs (some (.ref y)) T g) : Got p e below s P ck cs (some (.ref (if q then x else y))) T g := by
  by_cases h : q
  · rw [if_pos h]; exact h1 h
  · rw [if_neg h]; exact h2 h
theorem Got.body {n : Nat} {as' : Array Value} (hg : entryFrame m as' n = g) (k : Got p e below s P ck cs w T g) :
    ∃ s₂ o, Steps p.tables e below (T.setTop (entryFrame m as' n)) s₂ ∧ s₂.status = .running ∧ Ended s₂ below o ∧ ∃ v L, o = .returned v ∧ QV w P v s₂.heap L ∧ FrameEnd s o s₂ L ck cs := by
  obtain ⟨s₂, L, h1, h2, h3, h4, h5⟩ := k
  exact ⟨s₂, _, by rw [hg]; exact h1, h2, h3, w, L, rfl, ⟨rfl, h4⟩, h5⟩
theorem Got.retN (X : Stand p l e R s m args below meth c T locs cells slots) (hx : p.tables.exec = Jvm.exec) {t : FieldType} (hret : meth.sig.returnType = some t) (ht : t = .boolean ∨ t = .byte ∨ t = .char ∨ t = .short) (hlk : meth.locks = false) {pc : Nat} {Ls : Array Slot} {z y : Int32} {rest : List Value}
    (hd : decode c.code pc = .ok (.ireturn, 1)) (hy : nar t z = y) (hP : P T.heap locs) (hc : cells ≤ ck) (hs : slots ≤ cs) : Got p e below s P ck cs (some (.int y)) T (mkF m pc Ls (.int z :: rest)) := by
  subst hy
  obtain ⟨fs, hr, hrun, hended, hW, hsame⟩ := X.leave (v := some (.int (nar t z))) (fun h => by rw [hret] at h; cases h) hlk
  exact ⟨_, locs, Jvm.RoadKit.retN X hx hret ht hd hr, hrun, hended, hP, ⟨_, rfl⟩, hW, hsame.mono hc hs⟩
theorem Got.retI (X : Stand p l e R s m args below meth c T locs cells slots) (hx : p.tables.exec = Jvm.exec) (hret : meth.sig.returnType = some .int) (hlk : meth.locks = false) {pc : Nat} {Ls : Array Slot} {z y : Int32} {rest : List Value}
    (hd : decode c.code pc = .ok (.ireturn, 1)) (hy : z = y) (hP : P T.heap locs) (hc : cells ≤ ck) (hs : slots ≤ cs) : Got p e below s P ck cs (some (.int y)) T (mkF m pc Ls (.int z :: rest)) := by
  subst hy
  obtain ⟨fs, hr, hrun, hended, hW, hsame⟩ := X.leave (v := some (.int z)) (fun h => by rw [hret] at h; cases h) hlk
  exact ⟨_, locs, retOut X hx hret rfl (Or.inl ⟨rfl, Or.inl rfl, z, rfl⟩) hd hr, hrun, hended, hP, ⟨_, rfl⟩, hW, hsame.mono hc hs⟩
theorem Got.retJ (X : Stand p l e R s m args below meth c T locs cells slots) (hx : p.tables.exec = Jvm.exec) (hret : meth.sig.returnType = some .long) (hlk : meth.locks = false) {pc : Nat} {Ls : Array Slot} {z y : Int64}
    (hd : decode c.code pc = .ok (.lreturn, 1)) (hy : z = y) (hP : P T.heap locs) (hc : cells ≤ ck) (hs : slots ≤ cs) : Got p e below s P ck cs (some (.long y)) T (mkF m pc Ls [.long z]) := by
  subst hy
  obtain ⟨fs, hr, hrun, hended, hW, hsame⟩ := X.leave (v := some (.long z)) (fun h => by rw [hret] at h; cases h) hlk
  exact ⟨_, locs, X.lreturnOut hx hret hd hr, hrun, hended, hP, ⟨_, rfl⟩, hW, hsame.mono hc hs⟩
theorem Got.retV (X : Stand p l e R s m args below meth c T locs cells slots) (hx : p.tables.exec = Jvm.exec) (hret : meth.sig.returnType = none) (hlk : meth.locks = false) {pc : Nat} {Ls : Array Slot}
    (hd : decode c.code pc = .ok (.return_, 1)) (hP : P T.heap locs) (hc : cells ≤ ck) (hs : slots ≤ cs) : Got p e below s P ck cs none T (mkF m pc Ls []) := by
  obtain ⟨fs, hr, hrun, hended, hW, hsame⟩ := X.leave (v := none) (fun _ => rfl) hlk
  exact ⟨_, locs, X.returnOut hx hret hd hr, hrun, hended, hP, ⟨_, rfl⟩, hW, hsame.mono hc hs⟩
theorem Got.retA (X : Stand p l e R s m args below meth c T locs cells slots) (hx : p.tables.exec = Jvm.exec) {t : FieldType} (hret : meth.sig.returnType = some t) (ht : t.isReference = true) (hlk : meth.locks = false) {pc : Nat} {Ls : Array Slot} {a : Addr} {rest : List Value}
    (hd : decode c.code pc = .ok (.areturn, 1)) (hn : narrow t (.ref a) = .ref a) (hP : P T.heap locs) (hc : cells ≤ ck) (hs : slots ≤ cs) : Got p e below s P ck cs (some (.ref a)) T (mkF m pc Ls (.ref a :: rest)) := by
  obtain ⟨fs, hr, hrun, hended, hW, hsame⟩ := X.leave (v := some (.ref a)) (fun h => by rw [hret] at h; cases h) hlk
  exact ⟨_, locs, retOut X hx hret hn (Or.inr (Or.inr (Or.inr (Or.inr ⟨rfl, ht, rfl⟩)))) hd hr, hrun, hended, hP, ⟨_, rfl⟩, hW, hsame.mono hc hs⟩
theorem remJ {g : JFrame} {target : State} (X : Stand p l e R s m args below meth c T locs cells slots) (hx : p.tables.exec = Jvm.exec) (hg : g.method = m) {x y : Int64} {rest : List Value} (hd : decode c.code g.pc = .ok (.lrem, 1)) (hs : g.stack = .long y :: .long x :: rest) (hy : y ≠ 0)
    (hr : Steps p.tables e below (T.setTop { g with pc := g.pc + 1, stack := .long (x % y) :: rest }) target) : Steps p.tables e below (T.setTop g) target := by
  rw [← lrem_mod x y] at hr
  exact XS.lrem X.here hx hg hd hs hy hr
theorem one_unset : One .unset := Or.inl rfl
theorem one_int (x : Int32) : One (.val (.int x)) := Or.inr ⟨_, rfl, rfl⟩
theorem one_ref (x : Addr) : One (.val (.ref x)) := Or.inr ⟨_, rfl, rfl⟩
theorem narB (x : Int32) : nar .byte x.toInt8.toInt32 = x.toInt8.toInt32 := by simp [nar]
end New
end Jvm.RoadKit
namespace Jvm.RoadKit
open Sem ClassFile Op Lib Jvm.Stand Jvm.Free Jvm.LawKit
section Wide
variable {p : Program} {l : Launch} {e : Env} {R : Room} {s : State} {m : MethodId} {args : Array Value} {below : List Frame} {meth : Method} {c : Code} {T T' : State} {locs : List Loc} {cells slots : Nat}
/-- the end of a walk that has interned a text -/
def FEW (s : State) (o : Outcome) (t : State) (L : List Loc) (k n : Nat) : Prop := (∃ v : Option Value, o = Outcome.returned v) ∧ s.Warmed39 t.vm ∧ s.Booked t.vm t.heap.size ∧ s.sameButNew ({ t with vm := s.vm } : State) L k n
def GotW (p : Program) (e : Env) (below : List Frame) (s : State) (P : Heap → List Loc → Prop) (ck cs : Nat) (w : Option Value) (T : State) (g : JFrame) : Prop :=
  ∃ s₂ L, Steps p.tables e below (T.setTop g) s₂ ∧ s₂.status = .running ∧ Ended s₂ below (.returned w) ∧ P s₂.heap L ∧ FEW s (.returned w) s₂ L ck cs
variable {P : Heap → List Loc → Prop} {ck cs : Nat} {w : Option Value} {g g' : JFrame}
theorem GotW.step (h : ∀ t, Steps p.tables e below (T'.setTop g') t → Steps p.tables e below (T.setTop g) t) (k : GotW p e below s P ck cs w T' g') : GotW p e below s P ck cs w T g := by
  obtain ⟨s₂, L, h1, r⟩ := k
  exact ⟨s₂, L, h _ h1, r⟩
theorem GotW.hop (h : Steps p.tables e below (T.setTop g) (T'.setTop g')) (k : GotW p e below s P ck cs w T' g') : GotW p e below s P ck cs w T g := GotW.step (fun _ q => h.trans q) k
theorem GotW.body {n : Nat} {as' : Array Value} (hg : entryFrame m as' n = g) (k : GotW p e below s P ck cs w T g) :
    ∃ s₂ o, Steps p.tables e below (T.setTop (entryFrame m as' n)) s₂ ∧ s₂.status = .running ∧ Ended s₂ below o ∧ ∃ v L, o = .returned v ∧ QV w P v s₂.heap L ∧ FEW s o s₂ L ck cs := by
  obtain ⟨s₂, L, h1, h2, h3, h4, h5⟩ := k
  exact ⟨s₂, _, by rw [hg]; exact h1, h2, h3, w, L, rfl, ⟨rfl, h4⟩, h5⟩
theorem GotW.retN {sL : State} {vm1 : Vm} {k1 : Nat} (hsL : sL = s.setVm vm1) (hS : s.Since vm1 k1) (hk : k1 ≤ T.heap.size) (X : Stand p l e R sL m args below meth c T locs cells slots) (hx : p.tables.exec = Jvm.exec) {t : FieldType} (hret : meth.sig.returnType = some t) (ht : t = .boolean ∨ t = .byte ∨ t = .char ∨ t = .short) (hlk : meth.locks = false) {pc : Nat} {Ls : Array Slot} {z y : Int32} {rest : List Value}
    (hd : decode c.code pc = .ok (.ireturn, 1)) (hy : nar t z = y) (hP : P T.heap locs) (hc : cells ≤ ck) (hs : slots ≤ cs) : GotW p e below s P ck cs (some (.int y)) T (mkF m pc Ls (.int z :: rest)) := by
  subst hy hsL
  obtain ⟨fs, hr, hrun, hended, hW, hsame⟩ := X.leave (v := some (.int (nar t z))) (fun h => by rw [hret] at h; cases h) hlk
  have E := hS.ended (U := T.setFrames fs) hW hk hsame
  exact ⟨_, locs, Jvm.RoadKit.retN X hx hret ht hd hr, hrun, hended, hP, ⟨_, rfl⟩, E.1, E.2.1, E.2.2.mono hc hs⟩
end Wide
end Jvm.RoadKit
namespace Jvm.Pilot.@@N@@
open Jvm Jvm.ClassFile Sem Op Lib Jvm.Free Jvm.Stand Jvm.LawKit Jvm.RoadKit Bundle Jvm.Pilot.@@N@@.Jvm.D
def cx (bs : List Int32) (fa fo : Nat) : Nat → Nat → Int32
  | 0, i => (if (bs.getD (fo + i) 0) = (-1 : Int32) then ((0 : Int32) - (0 : Int32)) else ((0 : Int32) - (1 : Int32)))
  | k + 1, i => (if (bs.getD (fa + i) 0) = (-1 : Int32) then (if (bs.getD (fo + i) 0) = (-1 : Int32) then ((0 : Int32) - (0 : Int32)) else ((0 : Int32) - (1 : Int32))) else (if (bs.getD (fo + i) 0) = (-1 : Int32) then ((1 : Int32) - (0 : Int32)) else (if (((bs.getD (fa + i) 0) &&& (255 : Int32)) - ((bs.getD (fo + i) 0) &&& (255 : Int32))) = 0 then cx bs fa fo k (i + 1) else (((bs.getD (fa + i) 0) &&& (255 : Int32)) - ((bs.getD (fo + i) 0) &&& (255 : Int32))))))
theorem own_i {i : Nat} (h : i < 2147483648) : (Int32.ofNat i).toInt = i := Int32.toInt_ofNat_of_lt h
theorem own_n32 {i : Nat} (h : i < 2147483648) : (Int32.ofNat i).toNatClampNeg = i := by rw [Int32.toNatClampNeg, own_i h]; rfl
theorem own_one (i : Nat) : Int32.ofNat i + (1 : Int32) = Int32.ofNat (i + 1) := (Int32.ofNat_add i 1).symm
theorem own_lt8 {n : Nat} (h : n < 8) : ¬ Int32.ofNat n < 0 ∧ Int32.ofNat n < 8 := by
  have z : (0 : Int32).toInt = 0 := rfl
  have z7 : (8 : Int32).toInt = 8 := rfl
  rw [Int32.lt_iff_toInt_lt, Int32.lt_iff_toInt_lt, own_i (by omega), z, z7]; omega
theorem own_in8 {f i : Nat} (hf : f ≤ 4) (hi : i ≤ 3) : ¬ (Int32.ofNat f + Int32.ofNat i) < 0 ∧ (Int32.ofNat f + Int32.ofNat i) < 8 := by
  rw [← Int32.ofNat_add]; exact own_lt8 (by omega)
theorem own_getD (bs : List Int32) (n : Nat) : (bs.map Value.int).getD n (.int (0 : Int32)) = .int (bs.getD n 0) := by
  rw [List.getD_eq_getElem?_getD, List.getD_eq_getElem?_getD, List.getElem?_map]
  cases bs[n]? <;> rfl
theorem own_rd (bs : List Int32) {f i : Nat} (h : f + i < 8) : (bs.map Value.int).getD (Int32.ofNat f + Int32.ofNat i).toNatClampNeg (.int (0 : Int32)) = .int (bs.getD (f + i) 0) := by
  rw [← Int32.ofNat_add, own_n32 (by omega), own_getD]

theorem own_wS {a0 : Array Value} {Z : State} (hw : ∀ d ∈ tables_1, d.before a0 Z = true) : ∀ a ∈ Bundle.stringAtoms, a.before a0 Z = true := fun a ha => by
  simp only [Bundle.stringAtoms, List.mem_cons, List.not_mem_nil, or_false] at ha
  rcases ha with rfl | rfl | rfl | rfl | rfl | rfl | rfl
  · exact (hw _ (List.mem_of_getElem? (i := 5) rfl))
  · exact (hw _ (List.mem_of_getElem? (i := 6) rfl))
  · exact (hw _ (List.mem_of_getElem? (i := 0) rfl))
  · exact (hw _ (List.mem_of_getElem? (i := 7) rfl))
  · exact (hw _ (List.mem_of_getElem? (i := 8) rfl))
  · exact (hw _ (List.mem_of_getElem? (i := 9) rfl))
  · exact (hw _ (List.mem_of_getElem? (i := 10) rfl))
def f4 (p0 : Int32) (p1 : Int32)  : Int32 := (if p1 < p0 then p1 else p0)
theorem ef_4 (m : MethodId) (x0 : Int32) (x1 : Int32) : entryFrame m #[(.int x0), (.int x1)] 2 = mkF m 0 #[.val (.int x0), .val (.int x1)] [] := by first | (simp [entryFrame, mkF, argsToLocals, Value.category]; done) | rfl
theorem d4_0 : decode jdk_29_method_69_code 0 = .ok (.iload_n 0, 1) := by decide +kernel
theorem d4_1 : decode jdk_29_method_69_code 1 = .ok (.iload_n 1, 1) := by decide +kernel
theorem d4_2 : decode jdk_29_method_69_code 2 = .ok (.if_icmp .gt 7, 3) := by decide +kernel
theorem d4_5 : decode jdk_29_method_69_code 5 = .ok (.iload_n 0, 1) := by decide +kernel
theorem d4_6 : decode jdk_29_method_69_code 6 = .ok (.goto 4, 3) := by decide +kernel
theorem d4_9 : decode jdk_29_method_69_code 9 = .ok (.iload_n 1, 1) := by decide +kernel
theorem d4_10 : decode jdk_29_method_69_code 10 = .ok (.ireturn, 1) := by decide +kernel
set_option maxRecDepth 65536 in
set_option maxHeartbeats 40000000 in
theorem rm4 (l : Launch) (Z : State) (a0 : Array Value) (hw : ∀ d ∈ tables_1, d.before a0 Z = true) (ws : List Jvm.Cond) (p0 : Int32) (p1 : Int32)  (h0 : Heap) (n0 : Nat) (Z0 : n0 ≤ h0.size)  :
    MetFree l (⟨"java/lang/Math", "min", "(II)I"⟩ : MethodName) (head1 (Jvm.Cond.code (⟨"java/lang/Math", "min", "(II)I"⟩ : MethodName) jdk_29_method_69_code 2 (some .int) :: ws) ({ frames := 0, cells := 0, slots := 0, locals := 0 } : Room)) (fun a U => a = #[(.int p0), (.int p1)] ∧ Z.Warmed39 U.vm ∧ U.heap = h0) (fun _ _ _ _ _ => True) (fun _ U o U' => ∃ v L, o = .returned v ∧ QV (some (.int (f4 p0 p1))) (PureP n0 h0) v U'.heap L ∧ FrameEnd U o U' L ({ frames := 0, cells := 0, slots := 0, locals := 0 } : Room).cells ({ frames := 0, cells := 0, slots := 0, locals := 0 } : Room).slots) := by
  refine MetFree.of_bodySF (Jvm.Free.JP.mathPlain rfl (by decide +kernel)) hisR ?_
  intro p e s m args below meth c s₁ Bd hml0 hP hK
  obtain ⟨rfl, hZ, hh⟩ := hP
  have hx := Bd.exec
  have hby := Bd.bytes
  have hml : c.maxLocals = 2 := hml0
  have hown : s.vm.findClass "java/lang/Math" = some m.cls := findClass_of_methodNamed Bd.named
  have hnm := (name_of_methodNamed Bd.named Bd.method).1
  have hlk : meth.locks = false := BodyLoose.notSynchronized Bd
  have X0 : Stand p l e ({ frames := 0, cells := 0, slots := 0, locals := 0 } : Room) s m #[(.int p0), (.int p1)] below meth c s₁ [] 0 0 := Stand.of_body Bd
  have e0 : s₁.heap = h0 := by rw [← hh, Bd.state]; rfl
  have N0 := Fr.nil n0
  refine Got.body (ef_4 m p0 p1) ?_
  refine Got.step (T' := s₁) (g' := (mkF m 2 #[.val (.int p0), .val (.int p1)] [(.int p1), (.int p0)])) (fun tq kt => ?_) ?_
  · show Steps p.tables e below (s₁.setTop (mkF m 0 #[.val (.int p0), .val (.int p1)] [])) _
    refine XS.iloadN X0.here hx rfl (hb hby d4_0) rfl ?_
    show Steps p.tables e below (s₁.setTop (mkF m 1 #[.val (.int p0), .val (.int p1)] [(.int p0)])) _
    refine XS.iloadN X0.here hx rfl (hb hby d4_1) rfl ?_
    exact kt
  refine Got.ite (q := (p1 < p0)) (fun hc1 => ?_) (fun hc1 => ?_)
  · refine Got.step (T' := s₁) (g' := (mkF m 10 #[.val (.int p0), .val (.int p1)] [(.int p1)])) (fun tq kt => ?_) ?_
    · show Steps p.tables e below (s₁.setTop (mkF m 2 #[.val (.int p0), .val (.int p1)] [(.int p1), (.int p0)])) _
      refine XS.icmpYes X0.here hx rfl (pc0 := 2) (pc' := 9) rfl (hb hby d4_2) rfl (XT.ii_gt_t hc1) (by decide) (by decide) ?_
      show Steps p.tables e below (s₁.setTop (mkF m 9 #[.val (.int p0), .val (.int p1)] [])) _
      refine XS.iloadN X0.here hx rfl (hb hby d4_9) rfl ?_
      exact kt
    exact Got.retI (y := p1) X0 hx Bd.returns hlk (hb hby d4_10) rfl ⟨N0, e0⟩ (by decide) (by decide)
  · refine Got.step (T' := s₁) (g' := (mkF m 10 #[.val (.int p0), .val (.int p1)] [(.int p0)])) (fun tq kt => ?_) ?_
    · show Steps p.tables e below (s₁.setTop (mkF m 2 #[.val (.int p0), .val (.int p1)] [(.int p1), (.int p0)])) _
      refine XS.icmpNo X0.here hx rfl (hb hby d4_2) rfl (XT.ii_gt_f hc1) ?_
      show Steps p.tables e below (s₁.setTop (mkF m 5 #[.val (.int p0), .val (.int p1)] [])) _
      refine XS.iloadN X0.here hx rfl (hb hby d4_5) rfl ?_
      show Steps p.tables e below (s₁.setTop (mkF m 6 #[.val (.int p0), .val (.int p1)] [(.int p0)])) _
      refine XS.goto X0.here hx rfl (pc0 := 6) (pc' := 10) rfl (hb hby d4_6) (by decide) (by decide) ?_
      exact kt
    exact Got.retI (y := p0) X0 hx Bd.returns hlk (hb hby d4_10) rfl ⟨N0, e0⟩ (by decide) (by decide)
theorem pd_0 : parseMethodDescriptor "(II)I" = some ⟨[.int, .int], some .int⟩ := by decide +kernel
def f3_79 (p0 : Int32) (p1 : Int32) (p2 : Int32) (p3 : Int32) (p4 : Int32) (p5 : Int32) (p6 : Int32) (p7 : Int32)  : Int32 := (if p3 < p7 then (-1 : Int32) else (if p7 < p3 then (1 : Int32) else (0 : Int32)))
def f3_55 (p0 : Int32) (p1 : Int32) (p2 : Int32) (p3 : Int32) (p4 : Int32) (p5 : Int32) (p6 : Int32) (p7 : Int32)  : Int32 := (if (2 : Int32) < (f4 p3 p7) then (if p2 = p6 then (f3_79 p0 p1 p2 p3 p4 p5 p6 p7 ) else (if p2 < p6 then (-1 : Int32) else (1 : Int32))) else (f3_79 p0 p1 p2 p3 p4 p5 p6 p7 ))
def f3_31 (p0 : Int32) (p1 : Int32) (p2 : Int32) (p3 : Int32) (p4 : Int32) (p5 : Int32) (p6 : Int32) (p7 : Int32)  : Int32 := (if (1 : Int32) < (f4 p3 p7) then (if p1 = p5 then (f3_55 p0 p1 p2 p3 p4 p5 p6 p7 ) else (if p1 < p5 then (-1 : Int32) else (1 : Int32))) else (f3_55 p0 p1 p2 p3 p4 p5 p6 p7 ))
def f3 (p0 : Int32) (p1 : Int32) (p2 : Int32) (p3 : Int32) (p4 : Int32) (p5 : Int32) (p6 : Int32) (p7 : Int32)  : Int32 := (if 0 < (f4 p3 p7) then (if p0 = p4 then (f3_31 p0 p1 p2 p3 p4 p5 p6 p7 ) else (if p0 < p4 then (-1 : Int32) else (1 : Int32))) else (f3_31 p0 p1 p2 p3 p4 p5 p6 p7 ))
theorem ef_3 (m : MethodId) (x0 : Int32) (x1 : Int32) (x2 : Int32) (x3 : Int32) (x4 : Int32) (x5 : Int32) (x6 : Int32) (x7 : Int32) : entryFrame m #[(.int x0), (.int x1), (.int x2), (.int x3), (.int x4), (.int x5), (.int x6), (.int x7)] 9 = mkF m 0 #[.val (.int x0), .val (.int x1), .val (.int x2), .val (.int x3), .val (.int x4), .val (.int x5), .val (.int x6), .val (.int x7), .unset] [] := by first | (simp [entryFrame, mkF, argsToLocals, Value.category]; done) | rfl
theorem pn_0 : plainName "com/example/kenning/kenning/index/DecoderCompareTextsPinLaw" = true := by first | (simp [plainName, overriddenIn]; done) | decide +kernel
theorem d3_0 : decode method_3_code 0 = .ok (.iload_n 3, 1) := by decide +kernel
theorem d3_1 : decode method_3_code 1 = .ok (.iload 7, 2) := by decide +kernel
theorem d3_3 : decode method_3_code 3 = .ok (.invokestatic 28, 3) := by decide +kernel
theorem d3_6 : decode method_3_code 6 = .ok (.istore 8, 2) := by decide +kernel
theorem d3_8 : decode method_3_code 8 = .ok (.iload 8, 2) := by decide +kernel
theorem d3_10 : decode method_3_code 10 = .ok (.ifCond .le 21, 3) := by decide +kernel
theorem d3_13 : decode method_3_code 13 = .ok (.iload_n 0, 1) := by decide +kernel
theorem d3_14 : decode method_3_code 14 = .ok (.iload 4, 2) := by decide +kernel
theorem d3_16 : decode method_3_code 16 = .ok (.if_icmp .eq 15, 3) := by decide +kernel
theorem d3_19 : decode method_3_code 19 = .ok (.iload_n 0, 1) := by decide +kernel
theorem d3_20 : decode method_3_code 20 = .ok (.iload 4, 2) := by decide +kernel
theorem d3_22 : decode method_3_code 22 = .ok (.if_icmp .ge 7, 3) := by decide +kernel
theorem d3_25 : decode method_3_code 25 = .ok (.iconst (-1), 1) := by decide +kernel
theorem d3_26 : decode method_3_code 26 = .ok (.goto 4, 3) := by decide +kernel
theorem d3_29 : decode method_3_code 29 = .ok (.iconst 1, 1) := by decide +kernel
theorem d3_30 : decode method_3_code 30 = .ok (.ireturn, 1) := by decide +kernel
theorem d3_31 : decode method_3_code 31 = .ok (.iload 8, 2) := by decide +kernel
theorem d3_33 : decode method_3_code 33 = .ok (.iconst 1, 1) := by decide +kernel
theorem d3_34 : decode method_3_code 34 = .ok (.if_icmp .le 21, 3) := by decide +kernel
theorem d3_37 : decode method_3_code 37 = .ok (.iload_n 1, 1) := by decide +kernel
theorem d3_38 : decode method_3_code 38 = .ok (.iload 5, 2) := by decide +kernel
theorem d3_40 : decode method_3_code 40 = .ok (.if_icmp .eq 15, 3) := by decide +kernel
theorem d3_43 : decode method_3_code 43 = .ok (.iload_n 1, 1) := by decide +kernel
theorem d3_44 : decode method_3_code 44 = .ok (.iload 5, 2) := by decide +kernel
theorem d3_46 : decode method_3_code 46 = .ok (.if_icmp .ge 7, 3) := by decide +kernel
theorem d3_49 : decode method_3_code 49 = .ok (.iconst (-1), 1) := by decide +kernel
theorem d3_50 : decode method_3_code 50 = .ok (.goto 4, 3) := by decide +kernel
theorem d3_53 : decode method_3_code 53 = .ok (.iconst 1, 1) := by decide +kernel
theorem d3_54 : decode method_3_code 54 = .ok (.ireturn, 1) := by decide +kernel
theorem d3_55 : decode method_3_code 55 = .ok (.iload 8, 2) := by decide +kernel
theorem d3_57 : decode method_3_code 57 = .ok (.iconst 2, 1) := by decide +kernel
theorem d3_58 : decode method_3_code 58 = .ok (.if_icmp .le 21, 3) := by decide +kernel
theorem d3_61 : decode method_3_code 61 = .ok (.iload_n 2, 1) := by decide +kernel
theorem d3_62 : decode method_3_code 62 = .ok (.iload 6, 2) := by decide +kernel
theorem d3_64 : decode method_3_code 64 = .ok (.if_icmp .eq 15, 3) := by decide +kernel
theorem d3_67 : decode method_3_code 67 = .ok (.iload_n 2, 1) := by decide +kernel
theorem d3_68 : decode method_3_code 68 = .ok (.iload 6, 2) := by decide +kernel
theorem d3_70 : decode method_3_code 70 = .ok (.if_icmp .ge 7, 3) := by decide +kernel
theorem d3_73 : decode method_3_code 73 = .ok (.iconst (-1), 1) := by decide +kernel
theorem d3_74 : decode method_3_code 74 = .ok (.goto 4, 3) := by decide +kernel
theorem d3_77 : decode method_3_code 77 = .ok (.iconst 1, 1) := by decide +kernel
theorem d3_78 : decode method_3_code 78 = .ok (.ireturn, 1) := by decide +kernel
theorem d3_79 : decode method_3_code 79 = .ok (.iload_n 3, 1) := by decide +kernel
theorem d3_80 : decode method_3_code 80 = .ok (.iload 7, 2) := by decide +kernel
theorem d3_82 : decode method_3_code 82 = .ok (.if_icmp .ge 5, 3) := by decide +kernel
theorem d3_85 : decode method_3_code 85 = .ok (.iconst (-1), 1) := by decide +kernel
theorem d3_86 : decode method_3_code 86 = .ok (.ireturn, 1) := by decide +kernel
theorem d3_87 : decode method_3_code 87 = .ok (.iload_n 3, 1) := by decide +kernel
theorem d3_88 : decode method_3_code 88 = .ok (.iload 7, 2) := by decide +kernel
theorem d3_90 : decode method_3_code 90 = .ok (.if_icmp .le 5, 3) := by decide +kernel
theorem d3_93 : decode method_3_code 93 = .ok (.iconst 1, 1) := by decide +kernel
theorem d3_94 : decode method_3_code 94 = .ok (.ireturn, 1) := by decide +kernel
theorem d3_95 : decode method_3_code 95 = .ok (.iconst 0, 1) := by decide +kernel
theorem d3_96 : decode method_3_code 96 = .ok (.ireturn, 1) := by decide +kernel
set_option maxRecDepth 65536 in
set_option maxHeartbeats 40000000 in
theorem rm3 (l : Launch) (Z : State) (a0 : Array Value) (hw : ∀ d ∈ tables_1, d.before a0 Z = true) (ws : List Jvm.Cond) (p0 : Int32) (p1 : Int32) (p2 : Int32) (p3 : Int32) (p4 : Int32) (p5 : Int32) (p6 : Int32) (p7 : Int32)  (h0 : Heap) (n0 : Nat) (Z0 : n0 ≤ h0.size)  :
    MetFree l (⟨"com/example/kenning/kenning/index/DecoderCompareTextsPinLaw", "reference", "(IIIIIIII)I"⟩ : MethodName) (head1 (Jvm.Cond.code (⟨"com/example/kenning/kenning/index/DecoderCompareTextsPinLaw", "reference", "(IIIIIIII)I"⟩ : MethodName) method_3_code 9 (some .int) :: ws) ({ frames := 1, cells := 0, slots := 0, locals := 13 } : Room)) (fun a U => a = #[(.int p0), (.int p1), (.int p2), (.int p3), (.int p4), (.int p5), (.int p6), (.int p7)] ∧ Z.Warmed39 U.vm ∧ U.heap = h0) (fun _ _ _ _ _ => True) (fun _ U o U' => ∃ v L, o = .returned v ∧ QV (some (.int (f3 p0 p1 p2 p3 p4 p5 p6 p7))) (PureP n0 h0) v U'.heap L ∧ FrameEnd U o U' L ({ frames := 1, cells := 0, slots := 0, locals := 13 } : Room).cells ({ frames := 1, cells := 0, slots := 0, locals := 13 } : Room).slots) := by
  refine MetFree.of_bodySF (plainFor_of_name pn_0) hisR ?_
  intro p e s m args below meth c s₁ Bd hml0 hP hK
  obtain ⟨rfl, hZ, hh⟩ := hP
  have hx := Bd.exec
  have hby := Bd.bytes
  have hml : c.maxLocals = 9 := hml0
  have hown : s.vm.findClass "com/example/kenning/kenning/index/DecoderCompareTextsPinLaw" = some m.cls := findClass_of_methodNamed Bd.named
  have hnm := (name_of_methodNamed Bd.named Bd.method).1
  have hlk : meth.locks = false := BodyLoose.notSynchronized Bd
  have X0 : Stand p l e ({ frames := 1, cells := 0, slots := 0, locals := 13 } : Room) s m #[(.int p0), (.int p1), (.int p2), (.int p3), (.int p4), (.int p5), (.int p6), (.int p7)] below meth c s₁ [] 0 0 := Stand.of_body Bd
  have e0 : s₁.heap = h0 := by rw [← hh, Bd.state]; rfl
  have N0 := Fr.nil n0
  refine Got.body (ef_3 m p0 p1 p2 p3 p4 p5 p6 p7) ?_
  have J79 : ∀ (T_79 : State) (L_79 : List Loc), Stand p l e ({ frames := 1, cells := 0, slots := 0, locals := 13 } : Room) s m #[(.int p0), (.int p1), (.int p2), (.int p3), (.int p4), (.int p5), (.int p6), (.int p7)] below meth c T_79 L_79 0 0 → T_79.heap = h0 → Fr n0 L_79 → Got p e below s (PureP n0 h0) 0 0 (some (.int (f3_79 p0 p1 p2 p3 p4 p5 p6 p7 ))) T_79 (mkF m 79 #[.val (.int p0), .val (.int p1), .val (.int p2), .val (.int p3), .val (.int p4), .val (.int p5), .val (.int p6), .val (.int p7), .val (.int (f4 p3 p7))] []) := by
    intro T_79 L_79 X_79 e_79 N_79 
    refine Got.step (T' := T_79) (g' := (mkF m 82 #[.val (.int p0), .val (.int p1), .val (.int p2), .val (.int p3), .val (.int p4), .val (.int p5), .val (.int p6), .val (.int p7), .val (.int (f4 p3 p7))] [(.int p7), (.int p3)])) (fun tq kt => ?_) ?_
    · show Steps p.tables e below (T_79.setTop (mkF m 79 #[.val (.int p0), .val (.int p1), .val (.int p2), .val (.int p3), .val (.int p4), .val (.int p5), .val (.int p6), .val (.int p7), .val (.int (f4 p3 p7))] [])) _
      refine XS.iloadN X_79.here hx rfl (hb hby d3_79) rfl ?_
      show Steps p.tables e below (T_79.setTop (mkF m 80 #[.val (.int p0), .val (.int p1), .val (.int p2), .val (.int p3), .val (.int p4), .val (.int p5), .val (.int p6), .val (.int p7), .val (.int (f4 p3 p7))] [(.int p3)])) _
      refine XS.iload X_79.here hx rfl (hb hby d3_80) rfl ?_
      exact kt
    refine Got.ite (q := (p3 < p7)) (fun hc12 => ?_) (fun hc12 => ?_)
    · refine Got.step (T' := T_79) (g' := (mkF m 86 #[.val (.int p0), .val (.int p1), .val (.int p2), .val (.int p3), .val (.int p4), .val (.int p5), .val (.int p6), .val (.int p7), .val (.int (f4 p3 p7))] [(.int (-1 : Int32))])) (fun tq kt => ?_) ?_
      · show Steps p.tables e below (T_79.setTop (mkF m 82 #[.val (.int p0), .val (.int p1), .val (.int p2), .val (.int p3), .val (.int p4), .val (.int p5), .val (.int p6), .val (.int p7), .val (.int (f4 p3 p7))] [(.int p7), (.int p3)])) _
        refine XS.icmpNo X_79.here hx rfl (hb hby d3_82) rfl (XT.ii_ge_f hc12) ?_
        show Steps p.tables e below (T_79.setTop (mkF m 85 #[.val (.int p0), .val (.int p1), .val (.int p2), .val (.int p3), .val (.int p4), .val (.int p5), .val (.int p6), .val (.int p7), .val (.int (f4 p3 p7))] [])) _
        refine XS.iconst X_79.here hx rfl (hb hby d3_85) ?_
        exact kt
      exact Got.retI (y := (-1 : Int32)) X_79 hx Bd.returns hlk (hb hby d3_86) rfl ⟨N_79, e_79⟩ (by decide) (by decide)
    · refine Got.step (T' := T_79) (g' := (mkF m 90 #[.val (.int p0), .val (.int p1), .val (.int p2), .val (.int p3), .val (.int p4), .val (.int p5), .val (.int p6), .val (.int p7), .val (.int (f4 p3 p7))] [(.int p7), (.int p3)])) (fun tq kt => ?_) ?_
      · show Steps p.tables e below (T_79.setTop (mkF m 82 #[.val (.int p0), .val (.int p1), .val (.int p2), .val (.int p3), .val (.int p4), .val (.int p5), .val (.int p6), .val (.int p7), .val (.int (f4 p3 p7))] [(.int p7), (.int p3)])) _
        refine XS.icmpYes X_79.here hx rfl (pc0 := 82) (pc' := 87) rfl (hb hby d3_82) rfl (XT.ii_ge_t hc12) (by decide) (by decide) ?_
        show Steps p.tables e below (T_79.setTop (mkF m 87 #[.val (.int p0), .val (.int p1), .val (.int p2), .val (.int p3), .val (.int p4), .val (.int p5), .val (.int p6), .val (.int p7), .val (.int (f4 p3 p7))] [])) _
        refine XS.iloadN X_79.here hx rfl (hb hby d3_87) rfl ?_
        show Steps p.tables e below (T_79.setTop (mkF m 88 #[.val (.int p0), .val (.int p1), .val (.int p2), .val (.int p3), .val (.int p4), .val (.int p5), .val (.int p6), .val (.int p7), .val (.int (f4 p3 p7))] [(.int p3)])) _
        refine XS.iload X_79.here hx rfl (hb hby d3_88) rfl ?_
        exact kt
      refine Got.ite (q := (p7 < p3)) (fun hc13 => ?_) (fun hc13 => ?_)
      · refine Got.step (T' := T_79) (g' := (mkF m 94 #[.val (.int p0), .val (.int p1), .val (.int p2), .val (.int p3), .val (.int p4), .val (.int p5), .val (.int p6), .val (.int p7), .val (.int (f4 p3 p7))] [(.int (1 : Int32))])) (fun tq kt => ?_) ?_
        · show Steps p.tables e below (T_79.setTop (mkF m 90 #[.val (.int p0), .val (.int p1), .val (.int p2), .val (.int p3), .val (.int p4), .val (.int p5), .val (.int p6), .val (.int p7), .val (.int (f4 p3 p7))] [(.int p7), (.int p3)])) _
          refine XS.icmpNo X_79.here hx rfl (hb hby d3_90) rfl (XT.ii_le_f hc13) ?_
          show Steps p.tables e below (T_79.setTop (mkF m 93 #[.val (.int p0), .val (.int p1), .val (.int p2), .val (.int p3), .val (.int p4), .val (.int p5), .val (.int p6), .val (.int p7), .val (.int (f4 p3 p7))] [])) _
          refine XS.iconst X_79.here hx rfl (hb hby d3_93) ?_
          exact kt
        exact Got.retI (y := (1 : Int32)) X_79 hx Bd.returns hlk (hb hby d3_94) rfl ⟨N_79, e_79⟩ (by decide) (by decide)
      · refine Got.step (T' := T_79) (g' := (mkF m 96 #[.val (.int p0), .val (.int p1), .val (.int p2), .val (.int p3), .val (.int p4), .val (.int p5), .val (.int p6), .val (.int p7), .val (.int (f4 p3 p7))] [(.int (0 : Int32))])) (fun tq kt => ?_) ?_
        · show Steps p.tables e below (T_79.setTop (mkF m 90 #[.val (.int p0), .val (.int p1), .val (.int p2), .val (.int p3), .val (.int p4), .val (.int p5), .val (.int p6), .val (.int p7), .val (.int (f4 p3 p7))] [(.int p7), (.int p3)])) _
          refine XS.icmpYes X_79.here hx rfl (pc0 := 90) (pc' := 95) rfl (hb hby d3_90) rfl (XT.ii_le_t hc13) (by decide) (by decide) ?_
          show Steps p.tables e below (T_79.setTop (mkF m 95 #[.val (.int p0), .val (.int p1), .val (.int p2), .val (.int p3), .val (.int p4), .val (.int p5), .val (.int p6), .val (.int p7), .val (.int (f4 p3 p7))] [])) _
          refine XS.iconst X_79.here hx rfl (hb hby d3_95) ?_
          exact kt
        exact Got.retI (y := (0 : Int32)) X_79 hx Bd.returns hlk (hb hby d3_96) rfl ⟨N_79, e_79⟩ (by decide) (by decide)
  have J55 : ∀ (T_55 : State) (L_55 : List Loc), Stand p l e ({ frames := 1, cells := 0, slots := 0, locals := 13 } : Room) s m #[(.int p0), (.int p1), (.int p2), (.int p3), (.int p4), (.int p5), (.int p6), (.int p7)] below meth c T_55 L_55 0 0 → T_55.heap = h0 → Fr n0 L_55 → Got p e below s (PureP n0 h0) 0 0 (some (.int (f3_55 p0 p1 p2 p3 p4 p5 p6 p7 ))) T_55 (mkF m 55 #[.val (.int p0), .val (.int p1), .val (.int p2), .val (.int p3), .val (.int p4), .val (.int p5), .val (.int p6), .val (.int p7), .val (.int (f4 p3 p7))] []) := by
    intro T_55 L_55 X_55 e_55 N_55 
    refine Got.step (T' := T_55) (g' := (mkF m 58 #[.val (.int p0), .val (.int p1), .val (.int p2), .val (.int p3), .val (.int p4), .val (.int p5), .val (.int p6), .val (.int p7), .val (.int (f4 p3 p7))] [(.int (2 : Int32)), (.int (f4 p3 p7))])) (fun tq kt => ?_) ?_
    · show Steps p.tables e below (T_55.setTop (mkF m 55 #[.val (.int p0), .val (.int p1), .val (.int p2), .val (.int p3), .val (.int p4), .val (.int p5), .val (.int p6), .val (.int p7), .val (.int (f4 p3 p7))] [])) _
      refine XS.iload X_55.here hx rfl (hb hby d3_55) rfl ?_
      show Steps p.tables e below (T_55.setTop (mkF m 57 #[.val (.int p0), .val (.int p1), .val (.int p2), .val (.int p3), .val (.int p4), .val (.int p5), .val (.int p6), .val (.int p7), .val (.int (f4 p3 p7))] [(.int (f4 p3 p7))])) _
      refine XS.iconst X_55.here hx rfl (hb hby d3_57) ?_
      exact kt
    refine Got.ite (q := ((2 : Int32) < (f4 p3 p7))) (fun hc9 => ?_) (fun hc9 => ?_)
    · refine Got.step (T' := T_55) (g' := (mkF m 64 #[.val (.int p0), .val (.int p1), .val (.int p2), .val (.int p3), .val (.int p4), .val (.int p5), .val (.int p6), .val (.int p7), .val (.int (f4 p3 p7))] [(.int p6), (.int p2)])) (fun tq kt => ?_) ?_
      · show Steps p.tables e below (T_55.setTop (mkF m 58 #[.val (.int p0), .val (.int p1), .val (.int p2), .val (.int p3), .val (.int p4), .val (.int p5), .val (.int p6), .val (.int p7), .val (.int (f4 p3 p7))] [(.int (2 : Int32)), (.int (f4 p3 p7))])) _
        refine XS.icmpNo X_55.here hx rfl (hb hby d3_58) rfl (XT.ii_le_f hc9) ?_
        show Steps p.tables e below (T_55.setTop (mkF m 61 #[.val (.int p0), .val (.int p1), .val (.int p2), .val (.int p3), .val (.int p4), .val (.int p5), .val (.int p6), .val (.int p7), .val (.int (f4 p3 p7))] [])) _
        refine XS.iloadN X_55.here hx rfl (hb hby d3_61) rfl ?_
        show Steps p.tables e below (T_55.setTop (mkF m 62 #[.val (.int p0), .val (.int p1), .val (.int p2), .val (.int p3), .val (.int p4), .val (.int p5), .val (.int p6), .val (.int p7), .val (.int (f4 p3 p7))] [(.int p2)])) _
        refine XS.iload X_55.here hx rfl (hb hby d3_62) rfl ?_
        exact kt
      refine Got.ite (q := (p2 = p6)) (fun hc10 => ?_) (fun hc10 => ?_)
      · refine Got.step (T' := T_55) (g' := (mkF m 79 #[.val (.int p0), .val (.int p1), .val (.int p2), .val (.int p3), .val (.int p4), .val (.int p5), .val (.int p6), .val (.int p7), .val (.int (f4 p3 p7))] [])) (fun tq kt => ?_) ?_
        · show Steps p.tables e below (T_55.setTop (mkF m 64 #[.val (.int p0), .val (.int p1), .val (.int p2), .val (.int p3), .val (.int p4), .val (.int p5), .val (.int p6), .val (.int p7), .val (.int (f4 p3 p7))] [(.int p6), (.int p2)])) _
          refine XS.icmpYes X_55.here hx rfl (pc0 := 64) (pc' := 79) rfl (hb hby d3_64) rfl (XT.ii_eq_t hc10) (by decide) (by decide) ?_
          exact kt
        exact J79 _ _ X_55 e_55 N_55 
      · refine Got.step (T' := T_55) (g' := (mkF m 70 #[.val (.int p0), .val (.int p1), .val (.int p2), .val (.int p3), .val (.int p4), .val (.int p5), .val (.int p6), .val (.int p7), .val (.int (f4 p3 p7))] [(.int p6), (.int p2)])) (fun tq kt => ?_) ?_
        · show Steps p.tables e below (T_55.setTop (mkF m 64 #[.val (.int p0), .val (.int p1), .val (.int p2), .val (.int p3), .val (.int p4), .val (.int p5), .val (.int p6), .val (.int p7), .val (.int (f4 p3 p7))] [(.int p6), (.int p2)])) _
          refine XS.icmpNo X_55.here hx rfl (hb hby d3_64) rfl (XT.ii_eq_f hc10) ?_
          show Steps p.tables e below (T_55.setTop (mkF m 67 #[.val (.int p0), .val (.int p1), .val (.int p2), .val (.int p3), .val (.int p4), .val (.int p5), .val (.int p6), .val (.int p7), .val (.int (f4 p3 p7))] [])) _
          refine XS.iloadN X_55.here hx rfl (hb hby d3_67) rfl ?_
          show Steps p.tables e below (T_55.setTop (mkF m 68 #[.val (.int p0), .val (.int p1), .val (.int p2), .val (.int p3), .val (.int p4), .val (.int p5), .val (.int p6), .val (.int p7), .val (.int (f4 p3 p7))] [(.int p2)])) _
          refine XS.iload X_55.here hx rfl (hb hby d3_68) rfl ?_
          exact kt
        refine Got.ite (q := (p2 < p6)) (fun hc11 => ?_) (fun hc11 => ?_)
        · refine Got.step (T' := T_55) (g' := (mkF m 78 #[.val (.int p0), .val (.int p1), .val (.int p2), .val (.int p3), .val (.int p4), .val (.int p5), .val (.int p6), .val (.int p7), .val (.int (f4 p3 p7))] [(.int (-1 : Int32))])) (fun tq kt => ?_) ?_
          · show Steps p.tables e below (T_55.setTop (mkF m 70 #[.val (.int p0), .val (.int p1), .val (.int p2), .val (.int p3), .val (.int p4), .val (.int p5), .val (.int p6), .val (.int p7), .val (.int (f4 p3 p7))] [(.int p6), (.int p2)])) _
            refine XS.icmpNo X_55.here hx rfl (hb hby d3_70) rfl (XT.ii_ge_f hc11) ?_
            show Steps p.tables e below (T_55.setTop (mkF m 73 #[.val (.int p0), .val (.int p1), .val (.int p2), .val (.int p3), .val (.int p4), .val (.int p5), .val (.int p6), .val (.int p7), .val (.int (f4 p3 p7))] [])) _
            refine XS.iconst X_55.here hx rfl (hb hby d3_73) ?_
            show Steps p.tables e below (T_55.setTop (mkF m 74 #[.val (.int p0), .val (.int p1), .val (.int p2), .val (.int p3), .val (.int p4), .val (.int p5), .val (.int p6), .val (.int p7), .val (.int (f4 p3 p7))] [(.int (-1 : Int32))])) _
            refine XS.goto X_55.here hx rfl (pc0 := 74) (pc' := 78) rfl (hb hby d3_74) (by decide) (by decide) ?_
            exact kt
          exact Got.retI (y := (-1 : Int32)) X_55 hx Bd.returns hlk (hb hby d3_78) rfl ⟨N_55, e_55⟩ (by decide) (by decide)
        · refine Got.step (T' := T_55) (g' := (mkF m 78 #[.val (.int p0), .val (.int p1), .val (.int p2), .val (.int p3), .val (.int p4), .val (.int p5), .val (.int p6), .val (.int p7), .val (.int (f4 p3 p7))] [(.int (1 : Int32))])) (fun tq kt => ?_) ?_
          · show Steps p.tables e below (T_55.setTop (mkF m 70 #[.val (.int p0), .val (.int p1), .val (.int p2), .val (.int p3), .val (.int p4), .val (.int p5), .val (.int p6), .val (.int p7), .val (.int (f4 p3 p7))] [(.int p6), (.int p2)])) _
            refine XS.icmpYes X_55.here hx rfl (pc0 := 70) (pc' := 77) rfl (hb hby d3_70) rfl (XT.ii_ge_t hc11) (by decide) (by decide) ?_
            show Steps p.tables e below (T_55.setTop (mkF m 77 #[.val (.int p0), .val (.int p1), .val (.int p2), .val (.int p3), .val (.int p4), .val (.int p5), .val (.int p6), .val (.int p7), .val (.int (f4 p3 p7))] [])) _
            refine XS.iconst X_55.here hx rfl (hb hby d3_77) ?_
            exact kt
          exact Got.retI (y := (1 : Int32)) X_55 hx Bd.returns hlk (hb hby d3_78) rfl ⟨N_55, e_55⟩ (by decide) (by decide)
    · refine Got.step (T' := T_55) (g' := (mkF m 79 #[.val (.int p0), .val (.int p1), .val (.int p2), .val (.int p3), .val (.int p4), .val (.int p5), .val (.int p6), .val (.int p7), .val (.int (f4 p3 p7))] [])) (fun tq kt => ?_) ?_
      · show Steps p.tables e below (T_55.setTop (mkF m 58 #[.val (.int p0), .val (.int p1), .val (.int p2), .val (.int p3), .val (.int p4), .val (.int p5), .val (.int p6), .val (.int p7), .val (.int (f4 p3 p7))] [(.int (2 : Int32)), (.int (f4 p3 p7))])) _
        refine XS.icmpYes X_55.here hx rfl (pc0 := 58) (pc' := 79) rfl (hb hby d3_58) rfl (XT.ii_le_t hc9) (by decide) (by decide) ?_
        exact kt
      exact J79 _ _ X_55 e_55 N_55 
  have J31 : ∀ (T_31 : State) (L_31 : List Loc), Stand p l e ({ frames := 1, cells := 0, slots := 0, locals := 13 } : Room) s m #[(.int p0), (.int p1), (.int p2), (.int p3), (.int p4), (.int p5), (.int p6), (.int p7)] below meth c T_31 L_31 0 0 → T_31.heap = h0 → Fr n0 L_31 → Got p e below s (PureP n0 h0) 0 0 (some (.int (f3_31 p0 p1 p2 p3 p4 p5 p6 p7 ))) T_31 (mkF m 31 #[.val (.int p0), .val (.int p1), .val (.int p2), .val (.int p3), .val (.int p4), .val (.int p5), .val (.int p6), .val (.int p7), .val (.int (f4 p3 p7))] []) := by
    intro T_31 L_31 X_31 e_31 N_31 
    refine Got.step (T' := T_31) (g' := (mkF m 34 #[.val (.int p0), .val (.int p1), .val (.int p2), .val (.int p3), .val (.int p4), .val (.int p5), .val (.int p6), .val (.int p7), .val (.int (f4 p3 p7))] [(.int (1 : Int32)), (.int (f4 p3 p7))])) (fun tq kt => ?_) ?_
    · show Steps p.tables e below (T_31.setTop (mkF m 31 #[.val (.int p0), .val (.int p1), .val (.int p2), .val (.int p3), .val (.int p4), .val (.int p5), .val (.int p6), .val (.int p7), .val (.int (f4 p3 p7))] [])) _
      refine XS.iload X_31.here hx rfl (hb hby d3_31) rfl ?_
      show Steps p.tables e below (T_31.setTop (mkF m 33 #[.val (.int p0), .val (.int p1), .val (.int p2), .val (.int p3), .val (.int p4), .val (.int p5), .val (.int p6), .val (.int p7), .val (.int (f4 p3 p7))] [(.int (f4 p3 p7))])) _
      refine XS.iconst X_31.here hx rfl (hb hby d3_33) ?_
      exact kt
    refine Got.ite (q := ((1 : Int32) < (f4 p3 p7))) (fun hc6 => ?_) (fun hc6 => ?_)
    · refine Got.step (T' := T_31) (g' := (mkF m 40 #[.val (.int p0), .val (.int p1), .val (.int p2), .val (.int p3), .val (.int p4), .val (.int p5), .val (.int p6), .val (.int p7), .val (.int (f4 p3 p7))] [(.int p5), (.int p1)])) (fun tq kt => ?_) ?_
      · show Steps p.tables e below (T_31.setTop (mkF m 34 #[.val (.int p0), .val (.int p1), .val (.int p2), .val (.int p3), .val (.int p4), .val (.int p5), .val (.int p6), .val (.int p7), .val (.int (f4 p3 p7))] [(.int (1 : Int32)), (.int (f4 p3 p7))])) _
        refine XS.icmpNo X_31.here hx rfl (hb hby d3_34) rfl (XT.ii_le_f hc6) ?_
        show Steps p.tables e below (T_31.setTop (mkF m 37 #[.val (.int p0), .val (.int p1), .val (.int p2), .val (.int p3), .val (.int p4), .val (.int p5), .val (.int p6), .val (.int p7), .val (.int (f4 p3 p7))] [])) _
        refine XS.iloadN X_31.here hx rfl (hb hby d3_37) rfl ?_
        show Steps p.tables e below (T_31.setTop (mkF m 38 #[.val (.int p0), .val (.int p1), .val (.int p2), .val (.int p3), .val (.int p4), .val (.int p5), .val (.int p6), .val (.int p7), .val (.int (f4 p3 p7))] [(.int p1)])) _
        refine XS.iload X_31.here hx rfl (hb hby d3_38) rfl ?_
        exact kt
      refine Got.ite (q := (p1 = p5)) (fun hc7 => ?_) (fun hc7 => ?_)
      · refine Got.step (T' := T_31) (g' := (mkF m 55 #[.val (.int p0), .val (.int p1), .val (.int p2), .val (.int p3), .val (.int p4), .val (.int p5), .val (.int p6), .val (.int p7), .val (.int (f4 p3 p7))] [])) (fun tq kt => ?_) ?_
        · show Steps p.tables e below (T_31.setTop (mkF m 40 #[.val (.int p0), .val (.int p1), .val (.int p2), .val (.int p3), .val (.int p4), .val (.int p5), .val (.int p6), .val (.int p7), .val (.int (f4 p3 p7))] [(.int p5), (.int p1)])) _
          refine XS.icmpYes X_31.here hx rfl (pc0 := 40) (pc' := 55) rfl (hb hby d3_40) rfl (XT.ii_eq_t hc7) (by decide) (by decide) ?_
          exact kt
        exact J55 _ _ X_31 e_31 N_31 
      · refine Got.step (T' := T_31) (g' := (mkF m 46 #[.val (.int p0), .val (.int p1), .val (.int p2), .val (.int p3), .val (.int p4), .val (.int p5), .val (.int p6), .val (.int p7), .val (.int (f4 p3 p7))] [(.int p5), (.int p1)])) (fun tq kt => ?_) ?_
        · show Steps p.tables e below (T_31.setTop (mkF m 40 #[.val (.int p0), .val (.int p1), .val (.int p2), .val (.int p3), .val (.int p4), .val (.int p5), .val (.int p6), .val (.int p7), .val (.int (f4 p3 p7))] [(.int p5), (.int p1)])) _
          refine XS.icmpNo X_31.here hx rfl (hb hby d3_40) rfl (XT.ii_eq_f hc7) ?_
          show Steps p.tables e below (T_31.setTop (mkF m 43 #[.val (.int p0), .val (.int p1), .val (.int p2), .val (.int p3), .val (.int p4), .val (.int p5), .val (.int p6), .val (.int p7), .val (.int (f4 p3 p7))] [])) _
          refine XS.iloadN X_31.here hx rfl (hb hby d3_43) rfl ?_
          show Steps p.tables e below (T_31.setTop (mkF m 44 #[.val (.int p0), .val (.int p1), .val (.int p2), .val (.int p3), .val (.int p4), .val (.int p5), .val (.int p6), .val (.int p7), .val (.int (f4 p3 p7))] [(.int p1)])) _
          refine XS.iload X_31.here hx rfl (hb hby d3_44) rfl ?_
          exact kt
        refine Got.ite (q := (p1 < p5)) (fun hc8 => ?_) (fun hc8 => ?_)
        · refine Got.step (T' := T_31) (g' := (mkF m 54 #[.val (.int p0), .val (.int p1), .val (.int p2), .val (.int p3), .val (.int p4), .val (.int p5), .val (.int p6), .val (.int p7), .val (.int (f4 p3 p7))] [(.int (-1 : Int32))])) (fun tq kt => ?_) ?_
          · show Steps p.tables e below (T_31.setTop (mkF m 46 #[.val (.int p0), .val (.int p1), .val (.int p2), .val (.int p3), .val (.int p4), .val (.int p5), .val (.int p6), .val (.int p7), .val (.int (f4 p3 p7))] [(.int p5), (.int p1)])) _
            refine XS.icmpNo X_31.here hx rfl (hb hby d3_46) rfl (XT.ii_ge_f hc8) ?_
            show Steps p.tables e below (T_31.setTop (mkF m 49 #[.val (.int p0), .val (.int p1), .val (.int p2), .val (.int p3), .val (.int p4), .val (.int p5), .val (.int p6), .val (.int p7), .val (.int (f4 p3 p7))] [])) _
            refine XS.iconst X_31.here hx rfl (hb hby d3_49) ?_
            show Steps p.tables e below (T_31.setTop (mkF m 50 #[.val (.int p0), .val (.int p1), .val (.int p2), .val (.int p3), .val (.int p4), .val (.int p5), .val (.int p6), .val (.int p7), .val (.int (f4 p3 p7))] [(.int (-1 : Int32))])) _
            refine XS.goto X_31.here hx rfl (pc0 := 50) (pc' := 54) rfl (hb hby d3_50) (by decide) (by decide) ?_
            exact kt
          exact Got.retI (y := (-1 : Int32)) X_31 hx Bd.returns hlk (hb hby d3_54) rfl ⟨N_31, e_31⟩ (by decide) (by decide)
        · refine Got.step (T' := T_31) (g' := (mkF m 54 #[.val (.int p0), .val (.int p1), .val (.int p2), .val (.int p3), .val (.int p4), .val (.int p5), .val (.int p6), .val (.int p7), .val (.int (f4 p3 p7))] [(.int (1 : Int32))])) (fun tq kt => ?_) ?_
          · show Steps p.tables e below (T_31.setTop (mkF m 46 #[.val (.int p0), .val (.int p1), .val (.int p2), .val (.int p3), .val (.int p4), .val (.int p5), .val (.int p6), .val (.int p7), .val (.int (f4 p3 p7))] [(.int p5), (.int p1)])) _
            refine XS.icmpYes X_31.here hx rfl (pc0 := 46) (pc' := 53) rfl (hb hby d3_46) rfl (XT.ii_ge_t hc8) (by decide) (by decide) ?_
            show Steps p.tables e below (T_31.setTop (mkF m 53 #[.val (.int p0), .val (.int p1), .val (.int p2), .val (.int p3), .val (.int p4), .val (.int p5), .val (.int p6), .val (.int p7), .val (.int (f4 p3 p7))] [])) _
            refine XS.iconst X_31.here hx rfl (hb hby d3_53) ?_
            exact kt
          exact Got.retI (y := (1 : Int32)) X_31 hx Bd.returns hlk (hb hby d3_54) rfl ⟨N_31, e_31⟩ (by decide) (by decide)
    · refine Got.step (T' := T_31) (g' := (mkF m 55 #[.val (.int p0), .val (.int p1), .val (.int p2), .val (.int p3), .val (.int p4), .val (.int p5), .val (.int p6), .val (.int p7), .val (.int (f4 p3 p7))] [])) (fun tq kt => ?_) ?_
      · show Steps p.tables e below (T_31.setTop (mkF m 34 #[.val (.int p0), .val (.int p1), .val (.int p2), .val (.int p3), .val (.int p4), .val (.int p5), .val (.int p6), .val (.int p7), .val (.int (f4 p3 p7))] [(.int (1 : Int32)), (.int (f4 p3 p7))])) _
        refine XS.icmpYes X_31.here hx rfl (pc0 := 34) (pc' := 55) rfl (hb hby d3_34) rfl (XT.ii_le_t hc6) (by decide) (by decide) ?_
        exact kt
      exact J55 _ _ X_31 e_31 N_31 
  refine Got.step (T' := s₁) (g' := (mkF m 3 #[.val (.int p0), .val (.int p1), .val (.int p2), .val (.int p3), .val (.int p4), .val (.int p5), .val (.int p6), .val (.int p7), .unset] [(.int p7), (.int p3)])) (fun tq kt => ?_) ?_
  · show Steps p.tables e below (s₁.setTop (mkF m 0 #[.val (.int p0), .val (.int p1), .val (.int p2), .val (.int p3), .val (.int p4), .val (.int p5), .val (.int p6), .val (.int p7), .unset] [])) _
    refine XS.iloadN X0.here hx rfl (hb hby d3_0) rfl ?_
    show Steps p.tables e below (s₁.setTop (mkF m 1 #[.val (.int p0), .val (.int p1), .val (.int p2), .val (.int p3), .val (.int p4), .val (.int p5), .val (.int p6), .val (.int p7), .unset] [(.int p3)])) _
    refine XS.iload X0.here hx rfl (hb hby d3_1) rfl ?_
    exact kt
  obtain ⟨_, _, ⟨T2, L2, k2, n2⟩, -, X2, ⟨Lc2, hQ2, l2, y2, z2⟩, st2⟩ := Jvm.LawKit.callS X0 hx (y := (⟨"java/lang/Math", "min", "(II)I"⟩ : MethodName)) hown (mvT hZ (hw _ (List.mem_of_getElem? (i := 31) rfl))) (mvT hZ (hw _ (List.mem_of_getElem? (i := 32) rfl))) (mvT hZ (hw _ (List.mem_of_getElem? (i := 33) rfl))) (mvT hZ (hw _ (List.mem_of_getElem? (i := 34) rfl))) (by decide) (backOf (W := 0) (rm4 l Z a0 hw [] p3 p7 h0 n0 Z0) hZ (hw _ (List.mem_of_getElem? (i := 34) rfl)) (hw _ (List.mem_of_getElem? (i := 33) rfl)) (by decide) (by decide)) (g := (mkF m 3 #[.val (.int p0), .val (.int p1), .val (.int p2), .val (.int p3), .val (.int p4), .val (.int p5), .val (.int p6), .val (.int p7), .unset] [(.int p7), (.int p3)])) rfl (by rw [hml]; rfl) (argsL := [(.int p3), (.int p7)]) (rest := []) (lenOf pd_0 rfl) rfl (by show 2 * 0 + _ ≤ _; exact Nat.le_of_eq rfl) (hb hby d3_3) (fun _ _ => ⟨rfl, e0, (by decide : 0 + 0 ≤ _), (by decide : 0 + 0 ≤ _)⟩)
  dsimp only [Pt.U, Pt.locs, Pt.cells, Pt.slots] at X2 l2 y2 z2 st2 hQ2
  subst y2 z2
  obtain ⟨rfl, Nq2, e2⟩ := hQ2
  have N2 : Fr n0 L2 := by rw [l2]; exact Fr.app N0 Nq2
  refine Got.step st2 ?_
  show Got p e below s _ _ _ _ T2 (mkF m 6 #[.val (.int p0), .val (.int p1), .val (.int p2), .val (.int p3), .val (.int p4), .val (.int p5), .val (.int p6), .val (.int p7), .unset] [(.int (f4 p3 p7))])
  refine Got.step (T' := T2) (g' := (mkF m 10 #[.val (.int p0), .val (.int p1), .val (.int p2), .val (.int p3), .val (.int p4), .val (.int p5), .val (.int p6), .val (.int p7), .val (.int (f4 p3 p7))] [(.int (f4 p3 p7))])) (fun tq kt => ?_) ?_
  · show Steps p.tables e below (T2.setTop (mkF m 6 #[.val (.int p0), .val (.int p1), .val (.int p2), .val (.int p3), .val (.int p4), .val (.int p5), .val (.int p6), .val (.int p7), .unset] [(.int (f4 p3 p7))])) _
    refine XS.istore X2.here hx rfl (hb hby d3_6) rfl (l' := #[.val (.int p0), .val (.int p1), .val (.int p2), .val (.int p3), .val (.int p4), .val (.int p5), .val (.int p6), .val (.int p7), .val (.int (f4 p3 p7))]) rfl ?_
    show Steps p.tables e below (T2.setTop (mkF m 8 #[.val (.int p0), .val (.int p1), .val (.int p2), .val (.int p3), .val (.int p4), .val (.int p5), .val (.int p6), .val (.int p7), .val (.int (f4 p3 p7))] [])) _
    refine XS.iload X2.here hx rfl (hb hby d3_8) rfl ?_
    exact kt
  refine Got.ite (q := (0 < (f4 p3 p7))) (fun hc3 => ?_) (fun hc3 => ?_)
  · refine Got.step (T' := T2) (g' := (mkF m 16 #[.val (.int p0), .val (.int p1), .val (.int p2), .val (.int p3), .val (.int p4), .val (.int p5), .val (.int p6), .val (.int p7), .val (.int (f4 p3 p7))] [(.int p4), (.int p0)])) (fun tq kt => ?_) ?_
    · show Steps p.tables e below (T2.setTop (mkF m 10 #[.val (.int p0), .val (.int p1), .val (.int p2), .val (.int p3), .val (.int p4), .val (.int p5), .val (.int p6), .val (.int p7), .val (.int (f4 p3 p7))] [(.int (f4 p3 p7))])) _
      refine XS.ifNo X2.here hx rfl (hb hby d3_10) rfl (XT.i0_le_f hc3) ?_
      show Steps p.tables e below (T2.setTop (mkF m 13 #[.val (.int p0), .val (.int p1), .val (.int p2), .val (.int p3), .val (.int p4), .val (.int p5), .val (.int p6), .val (.int p7), .val (.int (f4 p3 p7))] [])) _
      refine XS.iloadN X2.here hx rfl (hb hby d3_13) rfl ?_
      show Steps p.tables e below (T2.setTop (mkF m 14 #[.val (.int p0), .val (.int p1), .val (.int p2), .val (.int p3), .val (.int p4), .val (.int p5), .val (.int p6), .val (.int p7), .val (.int (f4 p3 p7))] [(.int p0)])) _
      refine XS.iload X2.here hx rfl (hb hby d3_14) rfl ?_
      exact kt
    refine Got.ite (q := (p0 = p4)) (fun hc4 => ?_) (fun hc4 => ?_)
    · refine Got.step (T' := T2) (g' := (mkF m 31 #[.val (.int p0), .val (.int p1), .val (.int p2), .val (.int p3), .val (.int p4), .val (.int p5), .val (.int p6), .val (.int p7), .val (.int (f4 p3 p7))] [])) (fun tq kt => ?_) ?_
      · show Steps p.tables e below (T2.setTop (mkF m 16 #[.val (.int p0), .val (.int p1), .val (.int p2), .val (.int p3), .val (.int p4), .val (.int p5), .val (.int p6), .val (.int p7), .val (.int (f4 p3 p7))] [(.int p4), (.int p0)])) _
        refine XS.icmpYes X2.here hx rfl (pc0 := 16) (pc' := 31) rfl (hb hby d3_16) rfl (XT.ii_eq_t hc4) (by decide) (by decide) ?_
        exact kt
      exact J31 _ _ X2 e2 N2 
    · refine Got.step (T' := T2) (g' := (mkF m 22 #[.val (.int p0), .val (.int p1), .val (.int p2), .val (.int p3), .val (.int p4), .val (.int p5), .val (.int p6), .val (.int p7), .val (.int (f4 p3 p7))] [(.int p4), (.int p0)])) (fun tq kt => ?_) ?_
      · show Steps p.tables e below (T2.setTop (mkF m 16 #[.val (.int p0), .val (.int p1), .val (.int p2), .val (.int p3), .val (.int p4), .val (.int p5), .val (.int p6), .val (.int p7), .val (.int (f4 p3 p7))] [(.int p4), (.int p0)])) _
        refine XS.icmpNo X2.here hx rfl (hb hby d3_16) rfl (XT.ii_eq_f hc4) ?_
        show Steps p.tables e below (T2.setTop (mkF m 19 #[.val (.int p0), .val (.int p1), .val (.int p2), .val (.int p3), .val (.int p4), .val (.int p5), .val (.int p6), .val (.int p7), .val (.int (f4 p3 p7))] [])) _
        refine XS.iloadN X2.here hx rfl (hb hby d3_19) rfl ?_
        show Steps p.tables e below (T2.setTop (mkF m 20 #[.val (.int p0), .val (.int p1), .val (.int p2), .val (.int p3), .val (.int p4), .val (.int p5), .val (.int p6), .val (.int p7), .val (.int (f4 p3 p7))] [(.int p0)])) _
        refine XS.iload X2.here hx rfl (hb hby d3_20) rfl ?_
        exact kt
      refine Got.ite (q := (p0 < p4)) (fun hc5 => ?_) (fun hc5 => ?_)
      · refine Got.step (T' := T2) (g' := (mkF m 30 #[.val (.int p0), .val (.int p1), .val (.int p2), .val (.int p3), .val (.int p4), .val (.int p5), .val (.int p6), .val (.int p7), .val (.int (f4 p3 p7))] [(.int (-1 : Int32))])) (fun tq kt => ?_) ?_
        · show Steps p.tables e below (T2.setTop (mkF m 22 #[.val (.int p0), .val (.int p1), .val (.int p2), .val (.int p3), .val (.int p4), .val (.int p5), .val (.int p6), .val (.int p7), .val (.int (f4 p3 p7))] [(.int p4), (.int p0)])) _
          refine XS.icmpNo X2.here hx rfl (hb hby d3_22) rfl (XT.ii_ge_f hc5) ?_
          show Steps p.tables e below (T2.setTop (mkF m 25 #[.val (.int p0), .val (.int p1), .val (.int p2), .val (.int p3), .val (.int p4), .val (.int p5), .val (.int p6), .val (.int p7), .val (.int (f4 p3 p7))] [])) _
          refine XS.iconst X2.here hx rfl (hb hby d3_25) ?_
          show Steps p.tables e below (T2.setTop (mkF m 26 #[.val (.int p0), .val (.int p1), .val (.int p2), .val (.int p3), .val (.int p4), .val (.int p5), .val (.int p6), .val (.int p7), .val (.int (f4 p3 p7))] [(.int (-1 : Int32))])) _
          refine XS.goto X2.here hx rfl (pc0 := 26) (pc' := 30) rfl (hb hby d3_26) (by decide) (by decide) ?_
          exact kt
        exact Got.retI (y := (-1 : Int32)) X2 hx Bd.returns hlk (hb hby d3_30) rfl ⟨N2, e2⟩ (by decide) (by decide)
      · refine Got.step (T' := T2) (g' := (mkF m 30 #[.val (.int p0), .val (.int p1), .val (.int p2), .val (.int p3), .val (.int p4), .val (.int p5), .val (.int p6), .val (.int p7), .val (.int (f4 p3 p7))] [(.int (1 : Int32))])) (fun tq kt => ?_) ?_
        · show Steps p.tables e below (T2.setTop (mkF m 22 #[.val (.int p0), .val (.int p1), .val (.int p2), .val (.int p3), .val (.int p4), .val (.int p5), .val (.int p6), .val (.int p7), .val (.int (f4 p3 p7))] [(.int p4), (.int p0)])) _
          refine XS.icmpYes X2.here hx rfl (pc0 := 22) (pc' := 29) rfl (hb hby d3_22) rfl (XT.ii_ge_t hc5) (by decide) (by decide) ?_
          show Steps p.tables e below (T2.setTop (mkF m 29 #[.val (.int p0), .val (.int p1), .val (.int p2), .val (.int p3), .val (.int p4), .val (.int p5), .val (.int p6), .val (.int p7), .val (.int (f4 p3 p7))] [])) _
          refine XS.iconst X2.here hx rfl (hb hby d3_29) ?_
          exact kt
        exact Got.retI (y := (1 : Int32)) X2 hx Bd.returns hlk (hb hby d3_30) rfl ⟨N2, e2⟩ (by decide) (by decide)
  · refine Got.step (T' := T2) (g' := (mkF m 31 #[.val (.int p0), .val (.int p1), .val (.int p2), .val (.int p3), .val (.int p4), .val (.int p5), .val (.int p6), .val (.int p7), .val (.int (f4 p3 p7))] [])) (fun tq kt => ?_) ?_
    · show Steps p.tables e below (T2.setTop (mkF m 10 #[.val (.int p0), .val (.int p1), .val (.int p2), .val (.int p3), .val (.int p4), .val (.int p5), .val (.int p6), .val (.int p7), .val (.int (f4 p3 p7))] [(.int (f4 p3 p7))])) _
      refine XS.ifYes X2.here hx rfl (pc0 := 10) (pc' := 31) rfl (hb hby d3_10) rfl (XT.i0_le_t hc3) (by decide) (by decide) ?_
      exact kt
    exact J31 _ _ X2 e2 N2 
def f6 (p0 : Int32)  : Int32 := (if p0 < 0 then (-1 : Int32) else (if 0 < p0 then (1 : Int32) else (0 : Int32)))
theorem ef_6 (m : MethodId) (x0 : Int32) : entryFrame m #[(.int x0)] 1 = mkF m 0 #[.val (.int x0)] [] := by first | (simp [entryFrame, mkF, argsToLocals, Value.category]; done) | rfl
theorem d6_0 : decode method_4_code 0 = .ok (.iload_n 0, 1) := by decide +kernel
theorem d6_1 : decode method_4_code 1 = .ok (.ifCond .ge 5, 3) := by decide +kernel
theorem d6_4 : decode method_4_code 4 = .ok (.iconst (-1), 1) := by decide +kernel
theorem d6_5 : decode method_4_code 5 = .ok (.ireturn, 1) := by decide +kernel
theorem d6_6 : decode method_4_code 6 = .ok (.iload_n 0, 1) := by decide +kernel
theorem d6_7 : decode method_4_code 7 = .ok (.ifCond .le 5, 3) := by decide +kernel
theorem d6_10 : decode method_4_code 10 = .ok (.iconst 1, 1) := by decide +kernel
theorem d6_11 : decode method_4_code 11 = .ok (.ireturn, 1) := by decide +kernel
theorem d6_12 : decode method_4_code 12 = .ok (.iconst 0, 1) := by decide +kernel
theorem d6_13 : decode method_4_code 13 = .ok (.ireturn, 1) := by decide +kernel
set_option maxRecDepth 65536 in
set_option maxHeartbeats 40000000 in
theorem rm6 (l : Launch) (Z : State) (a0 : Array Value) (hw : ∀ d ∈ tables_1, d.before a0 Z = true) (ws : List Jvm.Cond) (p0 : Int32)  (h0 : Heap) (n0 : Nat) (Z0 : n0 ≤ h0.size)  :
    MetFree l (⟨"com/example/kenning/kenning/index/DecoderCompareTextsPinLaw", "sign", "(I)I"⟩ : MethodName) (head1 (Jvm.Cond.code (⟨"com/example/kenning/kenning/index/DecoderCompareTextsPinLaw", "sign", "(I)I"⟩ : MethodName) method_4_code 1 (some .int) :: ws) ({ frames := 0, cells := 0, slots := 0, locals := 0 } : Room)) (fun a U => a = #[(.int p0)] ∧ Z.Warmed39 U.vm ∧ U.heap = h0) (fun _ _ _ _ _ => True) (fun _ U o U' => ∃ v L, o = .returned v ∧ QV (some (.int (f6 p0))) (PureP n0 h0) v U'.heap L ∧ FrameEnd U o U' L ({ frames := 0, cells := 0, slots := 0, locals := 0 } : Room).cells ({ frames := 0, cells := 0, slots := 0, locals := 0 } : Room).slots) := by
  refine MetFree.of_bodySF (plainFor_of_name pn_0) hisR ?_
  intro p e s m args below meth c s₁ Bd hml0 hP hK
  obtain ⟨rfl, hZ, hh⟩ := hP
  have hx := Bd.exec
  have hby := Bd.bytes
  have hml : c.maxLocals = 1 := hml0
  have hown : s.vm.findClass "com/example/kenning/kenning/index/DecoderCompareTextsPinLaw" = some m.cls := findClass_of_methodNamed Bd.named
  have hnm := (name_of_methodNamed Bd.named Bd.method).1
  have hlk : meth.locks = false := BodyLoose.notSynchronized Bd
  have X0 : Stand p l e ({ frames := 0, cells := 0, slots := 0, locals := 0 } : Room) s m #[(.int p0)] below meth c s₁ [] 0 0 := Stand.of_body Bd
  have e0 : s₁.heap = h0 := by rw [← hh, Bd.state]; rfl
  have N0 := Fr.nil n0
  refine Got.body (ef_6 m p0) ?_
  refine Got.step (T' := s₁) (g' := (mkF m 1 #[.val (.int p0)] [(.int p0)])) (fun tq kt => ?_) ?_
  · show Steps p.tables e below (s₁.setTop (mkF m 0 #[.val (.int p0)] [])) _
    refine XS.iloadN X0.here hx rfl (hb hby d6_0) rfl ?_
    exact kt
  refine Got.ite (q := (p0 < 0)) (fun hc14 => ?_) (fun hc14 => ?_)
  · refine Got.step (T' := s₁) (g' := (mkF m 5 #[.val (.int p0)] [(.int (-1 : Int32))])) (fun tq kt => ?_) ?_
    · show Steps p.tables e below (s₁.setTop (mkF m 1 #[.val (.int p0)] [(.int p0)])) _
      refine XS.ifNo X0.here hx rfl (hb hby d6_1) rfl (XT.i0_ge_f hc14) ?_
      show Steps p.tables e below (s₁.setTop (mkF m 4 #[.val (.int p0)] [])) _
      refine XS.iconst X0.here hx rfl (hb hby d6_4) ?_
      exact kt
    exact Got.retI (y := (-1 : Int32)) X0 hx Bd.returns hlk (hb hby d6_5) rfl ⟨N0, e0⟩ (by decide) (by decide)
  · refine Got.step (T' := s₁) (g' := (mkF m 7 #[.val (.int p0)] [(.int p0)])) (fun tq kt => ?_) ?_
    · show Steps p.tables e below (s₁.setTop (mkF m 1 #[.val (.int p0)] [(.int p0)])) _
      refine XS.ifYes X0.here hx rfl (pc0 := 1) (pc' := 6) rfl (hb hby d6_1) rfl (XT.i0_ge_t hc14) (by decide) (by decide) ?_
      show Steps p.tables e below (s₁.setTop (mkF m 6 #[.val (.int p0)] [])) _
      refine XS.iloadN X0.here hx rfl (hb hby d6_6) rfl ?_
      exact kt
    refine Got.ite (q := (0 < p0)) (fun hc15 => ?_) (fun hc15 => ?_)
    · refine Got.step (T' := s₁) (g' := (mkF m 11 #[.val (.int p0)] [(.int (1 : Int32))])) (fun tq kt => ?_) ?_
      · show Steps p.tables e below (s₁.setTop (mkF m 7 #[.val (.int p0)] [(.int p0)])) _
        refine XS.ifNo X0.here hx rfl (hb hby d6_7) rfl (XT.i0_le_f hc15) ?_
        show Steps p.tables e below (s₁.setTop (mkF m 10 #[.val (.int p0)] [])) _
        refine XS.iconst X0.here hx rfl (hb hby d6_10) ?_
        exact kt
      exact Got.retI (y := (1 : Int32)) X0 hx Bd.returns hlk (hb hby d6_11) rfl ⟨N0, e0⟩ (by decide) (by decide)
    · refine Got.step (T' := s₁) (g' := (mkF m 13 #[.val (.int p0)] [(.int (0 : Int32))])) (fun tq kt => ?_) ?_
      · show Steps p.tables e below (s₁.setTop (mkF m 7 #[.val (.int p0)] [(.int p0)])) _
        refine XS.ifYes X0.here hx rfl (pc0 := 7) (pc' := 12) rfl (hb hby d6_7) rfl (XT.i0_le_t hc15) (by decide) (by decide) ?_
        show Steps p.tables e below (s₁.setTop (mkF m 12 #[.val (.int p0)] [])) _
        refine XS.iconst X0.here hx rfl (hb hby d6_12) ?_
        exact kt
      exact Got.retI (y := (0 : Int32)) X0 hx Bd.returns hlk (hb hby d6_13) rfl ⟨N0, e0⟩ (by decide) (by decide)
theorem ef_1 (m : MethodId) (x0 : Addr) (x1 : Addr) (x2 : Addr) : entryFrame m #[(.ref x0), (.ref x1), (.ref x2)] 3 = mkF m 0 #[.val (.ref x0), .val (.ref x1), .val (.ref x2)] [] := by first | (simp [entryFrame, mkF, argsToLocals, Value.category]; done) | rfl
theorem pn_1 : plainName "com/example/kenning/kenning/index/Decoder" = true := by first | (simp [plainName, overriddenIn]; done) | decide +kernel
theorem d1_0 : decode prog_179_method_1_code 0 = .ok (.aload_n 0, 1) := by decide +kernel
theorem d1_1 : decode prog_179_method_1_code 1 = .ok (.invokespecial 1, 3) := by decide +kernel
theorem d1_4 : decode prog_179_method_1_code 4 = .ok (.aload_n 0, 1) := by decide +kernel
theorem d1_5 : decode prog_179_method_1_code 5 = .ok (.aload_n 1, 1) := by decide +kernel
theorem d1_6 : decode prog_179_method_1_code 6 = .ok (.putfield 7, 3) := by decide +kernel
theorem d1_9 : decode prog_179_method_1_code 9 = .ok (.aload_n 0, 1) := by decide +kernel
theorem d1_10 : decode prog_179_method_1_code 10 = .ok (.aload_n 1, 1) := by decide +kernel
theorem d1_11 : decode prog_179_method_1_code 11 = .ok (.arraylength, 1) := by decide +kernel
theorem d1_12 : decode prog_179_method_1_code 12 = .ok (.putfield 13, 3) := by decide +kernel
theorem d1_15 : decode prog_179_method_1_code 15 = .ok (.aload_n 0, 1) := by decide +kernel
theorem d1_16 : decode prog_179_method_1_code 16 = .ok (.aload_n 2, 1) := by decide +kernel
theorem d1_17 : decode prog_179_method_1_code 17 = .ok (.putfield 17, 3) := by decide +kernel
theorem d1_20 : decode prog_179_method_1_code 20 = .ok (.aload_n 0, 1) := by decide +kernel
theorem d1_21 : decode prog_179_method_1_code 21 = .ok (.aconst_null, 1) := by decide +kernel
theorem d1_22 : decode prog_179_method_1_code 22 = .ok (.putfield 21, 3) := by decide +kernel
theorem d1_25 : decode prog_179_method_1_code 25 = .ok (.aload_n 0, 1) := by decide +kernel
theorem d1_26 : decode prog_179_method_1_code 26 = .ok (.aload_n 0, 1) := by decide +kernel
theorem d1_27 : decode prog_179_method_1_code 27 = .ok (.getfield 13, 3) := by decide +kernel
theorem d1_30 : decode prog_179_method_1_code 30 = .ok (.putfield 25, 3) := by decide +kernel
theorem d1_33 : decode prog_179_method_1_code 33 = .ok (.return_, 1) := by decide +kernel
set_option maxRecDepth 65536 in
set_option maxHeartbeats 40000000 in
theorem rm1 (l : Launch) (Z : State) (a0 : Array Value) (hw : ∀ d ∈ tables_1, d.before a0 Z = true) (ws : List Jvm.Cond) (o0 : Addr) (o1 : Addr) (o2 : Addr) (bs : List Int32) (nn : Int32) (kc : ClassId) (h0 : Heap) (n0 : Nat) (Z0 : n0 ≤ h0.size) (gn_o0 : n0 ≤ o0) (E_o0 : Exa Z h0 o0 "com/example/kenning/kenning/index/Decoder") (F_bytes : Fld Z h0 o0 "com/example/kenning/kenning/index/Decoder" "bytes" "[B" .null) (F_limit : Fld Z h0 o0 "com/example/kenning/kenning/index/Decoder" "limit" "I" (.int (0 : Int32))) (F_source : Fld Z h0 o0 "com/example/kenning/kenning/index/Decoder" "source" "Ljava/lang/String;" .null) (F_pages : Fld Z h0 o0 "com/example/kenning/kenning/index/Decoder" "pages" "Lcom/example/kenning/kenning/index/Pages;" .null) (F_ready : Fld Z h0 o0 "com/example/kenning/kenning/index/Decoder" "ready" "I" (.int (0 : Int32))) (V1 : Arv Z h0 o1 kc .byte nn (bs.map Value.int) (.int (0 : Int32))) (hne : o1 ≠ o0) :
    MetFree l (⟨"com/example/kenning/kenning/index/Decoder", "<init>", "([BLjava/lang/String;)V"⟩ : MethodName) (head1 (Jvm.Cond.code (⟨"com/example/kenning/kenning/index/Decoder", "<init>", "([BLjava/lang/String;)V"⟩ : MethodName) prog_179_method_1_code 3 none :: ws) ({ frames := 1, cells := 0, slots := 0, locals := 12 } : Room)) (fun a U => a = #[(.ref o0), (.ref o1), (.ref o2)] ∧ Z.Warmed39 U.vm ∧ U.heap = h0) (fun _ _ _ _ _ => True) (fun _ U o U' => ∃ v L, o = .returned v ∧ QV none (fun h L => Fr n0 L ∧ Keep h0 h [o0] ∧ Exa Z h o0 "com/example/kenning/kenning/index/Decoder" ∧ Fld Z h o0 "com/example/kenning/kenning/index/Decoder" "bytes" "[B" (.ref o1)) v U'.heap L ∧ FrameEnd U o U' L ({ frames := 1, cells := 0, slots := 0, locals := 12 } : Room).cells ({ frames := 1, cells := 0, slots := 0, locals := 12 } : Room).slots) := by
  refine MetFree.of_bodySF (plainFor_of_name pn_1) hisR ?_
  intro p e s m args below meth c s₁ Bd hml0 hP hK
  obtain ⟨rfl, hZ, hh⟩ := hP
  have hx := Bd.exec
  have hby := Bd.bytes
  have hml : c.maxLocals = 3 := hml0
  have hown : s.vm.findClass "com/example/kenning/kenning/index/Decoder" = some m.cls := findClass_of_methodNamed Bd.named
  have hnm := (name_of_methodNamed Bd.named Bd.method).1
  have hlk : meth.locks = false := BodyLoose.notSynchronized Bd
  have X0 : Stand p l e ({ frames := 1, cells := 0, slots := 0, locals := 12 } : Room) s m #[(.ref o0), (.ref o1), (.ref o2)] below meth c s₁ [] 0 0 := Stand.of_body Bd
  have e0 : s₁.heap = h0 := by rw [← hh, Bd.state]; rfl
  have N0 := Fr.nil n0
  refine Got.body (ef_1 m o0 o1 o2) ?_
  have K0 := Keep.refl h0 [o0]
  refine Got.step (T' := s₁) (g' := (mkF m 1 #[.val (.ref o0), .val (.ref o1), .val (.ref o2)] [(.ref o0)])) (fun tq kt => ?_) ?_
  · show Steps p.tables e below (s₁.setTop (mkF m 0 #[.val (.ref o0), .val (.ref o1), .val (.ref o2)] [])) _
    refine XS.aloadN X0.here hx rfl (hb hby d1_0) rfl rfl ?_
    exact kt
  obtain ⟨T16, X16, e16, st16⟩ := initO X0 hx hZ hown (hw _ (List.mem_of_getElem? (i := 14) rfl)) (hw _ (List.mem_of_getElem? (i := 15) rfl)) (hw _ (List.mem_of_getElem? (i := 16) rfl)) e0 (g := (mkF m 1 #[.val (.ref o0), .val (.ref o1), .val (.ref o2)] [(.ref o0)])) rfl (by rw [hml]; rfl) rfl (hb hby d1_1) (by decide) (W := 0) (by show 2 * 0 + _ ≤ _; exact Nat.le_of_eq rfl) (by decide)
  refine Got.step st16 ?_
  show Got p e below s _ _ _ _ T16 (mkF m 4 #[.val (.ref o0), .val (.ref o1), .val (.ref o2)] [])
  refine Got.step (T' := T16) (g' := (mkF m 6 #[.val (.ref o0), .val (.ref o1), .val (.ref o2)] [(.ref o1), (.ref o0)])) (fun tq kt => ?_) ?_
  · show Steps p.tables e below (T16.setTop (mkF m 4 #[.val (.ref o0), .val (.ref o1), .val (.ref o2)] [])) _
    refine XS.aloadN X16.here hx rfl (hb hby d1_4) rfl rfl ?_
    show Steps p.tables e below (T16.setTop (mkF m 5 #[.val (.ref o0), .val (.ref o1), .val (.ref o2)] [(.ref o0)])) _
    refine XS.aloadN X16.here hx rfl (hb hby d1_5) rfl rfl ?_
    exact kt
  obtain ⟨T17, h17, X17, e17, W17, st17⟩ := putF X16 hx hZ hown (host := "") (Or.inl (hw _ (List.mem_of_getElem? (i := 17) rfl))) Via.refl e16 F_bytes E_o0 (Or.inr ⟨(hw _ (List.mem_of_getElem? (i := 18) rfl)), rfl, hnm⟩) (hw _ (List.mem_of_getElem? (i := 2) rfl)) (ty := (.array .byte)) (by decide) rfl rfl (g := (mkF m 6 #[.val (.ref o0), .val (.ref o1), .val (.ref o2)] [(.ref o1), (.ref o0)])) rfl rfl (hb hby d1_6)
  have Z0_18 : n0 ≤ h17.size := (Nat.le_trans Z0 (Keep.of_wr W17).1)
  have K0_19 : Keep h0 h17 [o0] := (K0.wr W17 (Or.inl (List.mem_of_getElem? (i := 0) rfl)))
  have E_o0_20 : Exa Z h17 o0 "com/example/kenning/kenning/index/Decoder" := (E_o0.wr W17)
  have F_bytes_21 : Fld Z h17 o0 "com/example/kenning/kenning/index/Decoder" "bytes" "[B" (.ref o1) := (F_bytes.same W17)
  have F_limit_22 : Fld Z h17 o0 "com/example/kenning/kenning/index/Decoder" "limit" "I" (.int (0 : Int32)) := (F_limit.other W17 (Or.inr (slot_ne (Or.inr (hw _ (List.mem_of_getElem? (i := 20) rfl))) (Or.inr (hw _ (List.mem_of_getElem? (i := 18) rfl))) (by decide) (t := .int) (t' := (.array .byte)) (by decide) (by decide))))
  have F_source_23 : Fld Z h17 o0 "com/example/kenning/kenning/index/Decoder" "source" "Ljava/lang/String;" .null := (F_source.other W17 (Or.inr (slot_ne (Or.inr (hw _ (List.mem_of_getElem? (i := 22) rfl))) (Or.inr (hw _ (List.mem_of_getElem? (i := 18) rfl))) (by decide) (t := (.object "java/lang/String")) (t' := (.array .byte)) (by decide) (by decide))))
  have F_pages_24 : Fld Z h17 o0 "com/example/kenning/kenning/index/Decoder" "pages" "Lcom/example/kenning/kenning/index/Pages;" .null := (F_pages.other W17 (Or.inr (slot_ne (Or.inr (hw _ (List.mem_of_getElem? (i := 24) rfl))) (Or.inr (hw _ (List.mem_of_getElem? (i := 18) rfl))) (by decide) (t := (.object "com/example/kenning/kenning/index/Pages")) (t' := (.array .byte)) (by decide) (by decide))))
  have F_ready_25 : Fld Z h17 o0 "com/example/kenning/kenning/index/Decoder" "ready" "I" (.int (0 : Int32)) := (F_ready.other W17 (Or.inr (slot_ne (Or.inl (hw _ (List.mem_of_getElem? (i := 26) rfl))) (Or.inr (hw _ (List.mem_of_getElem? (i := 18) rfl))) (by decide) (t := .int) (t' := (.array .byte)) (by decide) (by decide))))
  have V1_26 : Arv Z h17 o1 kc .byte nn (bs.map Value.int) (.int (0 : Int32)) := (V1.other W17 hne)
  have N17 := Fr.snoc X17 N0 gn_o0
  refine Got.step st17 ?_
  show Got p e below s _ _ _ _ T17 (mkF m 9 #[.val (.ref o0), .val (.ref o1), .val (.ref o2)] [])
  refine Got.step (T' := T17) (g' := (mkF m 11 #[.val (.ref o0), .val (.ref o1), .val (.ref o2)] [(.ref o1), (.ref o0)])) (fun tq kt => ?_) ?_
  · show Steps p.tables e below (T17.setTop (mkF m 9 #[.val (.ref o0), .val (.ref o1), .val (.ref o2)] [])) _
    refine XS.aloadN X17.here hx rfl (hb hby d1_9) rfl rfl ?_
    show Steps p.tables e below (T17.setTop (mkF m 10 #[.val (.ref o0), .val (.ref o1), .val (.ref o2)] [(.ref o0)])) _
    refine XS.aloadN X17.here hx rfl (hb hby d1_10) rfl rfl ?_
    exact kt
  obtain ⟨cl27, Ar27, q27, S27, M27, H27, G27⟩ := (id V1_26)
  refine Got.step (T' := T17) (fun tq kt => X17.arraylength hx (cell := cl27) (by rw [e17]; exact Ar27.1) (State.isArrayOf_alike hZ.alike Ar27.2.1) (g := (mkF m 11 #[.val (.ref o0), .val (.ref o1), .val (.ref o2)] [(.ref o1), (.ref o0)])) rfl (rest := [(.ref o0)]) rfl (hb hby d1_11) tq kt) ?_
  rw [len_of S27 M27]
  show Got p e below s _ _ _ _ T17 (mkF m 12 #[.val (.ref o0), .val (.ref o1), .val (.ref o2)] [(.int nn), (.ref o0)])
  obtain ⟨T28, h28, X28, e28, W28, st28⟩ := putF X17 hx hZ hown (host := "") (Or.inl (hw _ (List.mem_of_getElem? (i := 19) rfl))) Via.refl e17 F_limit_22 E_o0_20 (Or.inr ⟨(hw _ (List.mem_of_getElem? (i := 20) rfl)), rfl, hnm⟩) (hw _ (List.mem_of_getElem? (i := 2) rfl)) (ty := .int) (by decide) rfl rfl (g := (mkF m 12 #[.val (.ref o0), .val (.ref o1), .val (.ref o2)] [(.int nn), (.ref o0)])) rfl rfl (hb hby d1_12)
  have Z0_29 : n0 ≤ h28.size := (Nat.le_trans Z0_18 (Keep.of_wr W28).1)
  have K0_30 : Keep h0 h28 [o0] := (K0_19.wr W28 (Or.inl (List.mem_of_getElem? (i := 0) rfl)))
  have E_o0_31 : Exa Z h28 o0 "com/example/kenning/kenning/index/Decoder" := (E_o0_20.wr W28)
  have F_bytes_32 : Fld Z h28 o0 "com/example/kenning/kenning/index/Decoder" "bytes" "[B" (.ref o1) := (F_bytes_21.other W28 (Or.inr (slot_ne (Or.inr (hw _ (List.mem_of_getElem? (i := 18) rfl))) (Or.inr (hw _ (List.mem_of_getElem? (i := 20) rfl))) (by decide) (t := (.array .byte)) (t' := .int) (by decide) (by decide))))
  have F_limit_33 : Fld Z h28 o0 "com/example/kenning/kenning/index/Decoder" "limit" "I" (.int nn) := (F_limit_22.same W28)
  have F_source_34 : Fld Z h28 o0 "com/example/kenning/kenning/index/Decoder" "source" "Ljava/lang/String;" .null := (F_source_23.other W28 (Or.inr (slot_ne (Or.inr (hw _ (List.mem_of_getElem? (i := 22) rfl))) (Or.inr (hw _ (List.mem_of_getElem? (i := 20) rfl))) (by decide) (t := (.object "java/lang/String")) (t' := .int) (by decide) (by decide))))
  have F_pages_35 : Fld Z h28 o0 "com/example/kenning/kenning/index/Decoder" "pages" "Lcom/example/kenning/kenning/index/Pages;" .null := (F_pages_24.other W28 (Or.inr (slot_ne (Or.inr (hw _ (List.mem_of_getElem? (i := 24) rfl))) (Or.inr (hw _ (List.mem_of_getElem? (i := 20) rfl))) (by decide) (t := (.object "com/example/kenning/kenning/index/Pages")) (t' := .int) (by decide) (by decide))))
  have F_ready_36 : Fld Z h28 o0 "com/example/kenning/kenning/index/Decoder" "ready" "I" (.int (0 : Int32)) := (F_ready_25.other W28 (Or.inr (slot_ne (Or.inl (hw _ (List.mem_of_getElem? (i := 26) rfl))) (Or.inr (hw _ (List.mem_of_getElem? (i := 20) rfl))) (by decide) (t := .int) (t' := .int) (by decide) (by decide))))
  have V1_37 : Arv Z h28 o1 kc .byte nn (bs.map Value.int) (.int (0 : Int32)) := (V1_26.other W28 hne)
  have N28 := Fr.snoc X28 N17 gn_o0
  refine Got.step st28 ?_
  show Got p e below s _ _ _ _ T28 (mkF m 15 #[.val (.ref o0), .val (.ref o1), .val (.ref o2)] [])
  refine Got.step (T' := T28) (g' := (mkF m 17 #[.val (.ref o0), .val (.ref o1), .val (.ref o2)] [(.ref o2), (.ref o0)])) (fun tq kt => ?_) ?_
  · show Steps p.tables e below (T28.setTop (mkF m 15 #[.val (.ref o0), .val (.ref o1), .val (.ref o2)] [])) _
    refine XS.aloadN X28.here hx rfl (hb hby d1_15) rfl rfl ?_
    show Steps p.tables e below (T28.setTop (mkF m 16 #[.val (.ref o0), .val (.ref o1), .val (.ref o2)] [(.ref o0)])) _
    refine XS.aloadN X28.here hx rfl (hb hby d1_16) rfl rfl ?_
    exact kt
  obtain ⟨T38, h38, X38, e38, W38, st38⟩ := putF X28 hx hZ hown (host := "") (Or.inl (hw _ (List.mem_of_getElem? (i := 21) rfl))) Via.refl e28 F_source_34 E_o0_31 (Or.inr ⟨(hw _ (List.mem_of_getElem? (i := 22) rfl)), rfl, hnm⟩) (hw _ (List.mem_of_getElem? (i := 2) rfl)) (ty := (.object "java/lang/String")) (by decide) rfl rfl (g := (mkF m 17 #[.val (.ref o0), .val (.ref o1), .val (.ref o2)] [(.ref o2), (.ref o0)])) rfl rfl (hb hby d1_17)
  have Z0_39 : n0 ≤ h38.size := (Nat.le_trans Z0_29 (Keep.of_wr W38).1)
  have K0_40 : Keep h0 h38 [o0] := (K0_30.wr W38 (Or.inl (List.mem_of_getElem? (i := 0) rfl)))
  have E_o0_41 : Exa Z h38 o0 "com/example/kenning/kenning/index/Decoder" := (E_o0_31.wr W38)
  have F_bytes_42 : Fld Z h38 o0 "com/example/kenning/kenning/index/Decoder" "bytes" "[B" (.ref o1) := (F_bytes_32.other W38 (Or.inr (slot_ne (Or.inr (hw _ (List.mem_of_getElem? (i := 18) rfl))) (Or.inr (hw _ (List.mem_of_getElem? (i := 22) rfl))) (by decide) (t := (.array .byte)) (t' := (.object "java/lang/String")) (by decide) (by decide))))
  have F_limit_43 : Fld Z h38 o0 "com/example/kenning/kenning/index/Decoder" "limit" "I" (.int nn) := (F_limit_33.other W38 (Or.inr (slot_ne (Or.inr (hw _ (List.mem_of_getElem? (i := 20) rfl))) (Or.inr (hw _ (List.mem_of_getElem? (i := 22) rfl))) (by decide) (t := .int) (t' := (.object "java/lang/String")) (by decide) (by decide))))
  have F_source_44 : Fld Z h38 o0 "com/example/kenning/kenning/index/Decoder" "source" "Ljava/lang/String;" (.ref o2) := (F_source_34.same W38)
  have F_pages_45 : Fld Z h38 o0 "com/example/kenning/kenning/index/Decoder" "pages" "Lcom/example/kenning/kenning/index/Pages;" .null := (F_pages_35.other W38 (Or.inr (slot_ne (Or.inr (hw _ (List.mem_of_getElem? (i := 24) rfl))) (Or.inr (hw _ (List.mem_of_getElem? (i := 22) rfl))) (by decide) (t := (.object "com/example/kenning/kenning/index/Pages")) (t' := (.object "java/lang/String")) (by decide) (by decide))))
  have F_ready_46 : Fld Z h38 o0 "com/example/kenning/kenning/index/Decoder" "ready" "I" (.int (0 : Int32)) := (F_ready_36.other W38 (Or.inr (slot_ne (Or.inl (hw _ (List.mem_of_getElem? (i := 26) rfl))) (Or.inr (hw _ (List.mem_of_getElem? (i := 22) rfl))) (by decide) (t := .int) (t' := (.object "java/lang/String")) (by decide) (by decide))))
  have V1_47 : Arv Z h38 o1 kc .byte nn (bs.map Value.int) (.int (0 : Int32)) := (V1_37.other W38 hne)
  have N38 := Fr.snoc X38 N28 gn_o0
  refine Got.step st38 ?_
  show Got p e below s _ _ _ _ T38 (mkF m 20 #[.val (.ref o0), .val (.ref o1), .val (.ref o2)] [])
  refine Got.step (T' := T38) (g' := (mkF m 22 #[.val (.ref o0), .val (.ref o1), .val (.ref o2)] [.null, (.ref o0)])) (fun tq kt => ?_) ?_
  · show Steps p.tables e below (T38.setTop (mkF m 20 #[.val (.ref o0), .val (.ref o1), .val (.ref o2)] [])) _
    refine XS.aloadN X38.here hx rfl (hb hby d1_20) rfl rfl ?_
    show Steps p.tables e below (T38.setTop (mkF m 21 #[.val (.ref o0), .val (.ref o1), .val (.ref o2)] [(.ref o0)])) _
    refine XS.aconstNull X38.here hx rfl (hb hby d1_21) ?_
    exact kt
  obtain ⟨T48, h48, X48, e48, W48, st48⟩ := putF X38 hx hZ hown (host := "") (Or.inl (hw _ (List.mem_of_getElem? (i := 23) rfl))) Via.refl e38 F_pages_45 E_o0_41 (Or.inr ⟨(hw _ (List.mem_of_getElem? (i := 24) rfl)), rfl, hnm⟩) (hw _ (List.mem_of_getElem? (i := 2) rfl)) (ty := (.object "com/example/kenning/kenning/index/Pages")) (by decide) rfl rfl (g := (mkF m 22 #[.val (.ref o0), .val (.ref o1), .val (.ref o2)] [.null, (.ref o0)])) rfl rfl (hb hby d1_22)
  have Z0_49 : n0 ≤ h48.size := (Nat.le_trans Z0_39 (Keep.of_wr W48).1)
  have K0_50 : Keep h0 h48 [o0] := (K0_40.wr W48 (Or.inl (List.mem_of_getElem? (i := 0) rfl)))
  have E_o0_51 : Exa Z h48 o0 "com/example/kenning/kenning/index/Decoder" := (E_o0_41.wr W48)
  have F_bytes_52 : Fld Z h48 o0 "com/example/kenning/kenning/index/Decoder" "bytes" "[B" (.ref o1) := (F_bytes_42.other W48 (Or.inr (slot_ne (Or.inr (hw _ (List.mem_of_getElem? (i := 18) rfl))) (Or.inr (hw _ (List.mem_of_getElem? (i := 24) rfl))) (by decide) (t := (.array .byte)) (t' := (.object "com/example/kenning/kenning/index/Pages")) (by decide) (by decide))))
  have F_limit_53 : Fld Z h48 o0 "com/example/kenning/kenning/index/Decoder" "limit" "I" (.int nn) := (F_limit_43.other W48 (Or.inr (slot_ne (Or.inr (hw _ (List.mem_of_getElem? (i := 20) rfl))) (Or.inr (hw _ (List.mem_of_getElem? (i := 24) rfl))) (by decide) (t := .int) (t' := (.object "com/example/kenning/kenning/index/Pages")) (by decide) (by decide))))
  have F_source_54 : Fld Z h48 o0 "com/example/kenning/kenning/index/Decoder" "source" "Ljava/lang/String;" (.ref o2) := (F_source_44.other W48 (Or.inr (slot_ne (Or.inr (hw _ (List.mem_of_getElem? (i := 22) rfl))) (Or.inr (hw _ (List.mem_of_getElem? (i := 24) rfl))) (by decide) (t := (.object "java/lang/String")) (t' := (.object "com/example/kenning/kenning/index/Pages")) (by decide) (by decide))))
  have F_pages_55 : Fld Z h48 o0 "com/example/kenning/kenning/index/Decoder" "pages" "Lcom/example/kenning/kenning/index/Pages;" .null := (F_pages_45.same W48)
  have F_ready_56 : Fld Z h48 o0 "com/example/kenning/kenning/index/Decoder" "ready" "I" (.int (0 : Int32)) := (F_ready_46.other W48 (Or.inr (slot_ne (Or.inl (hw _ (List.mem_of_getElem? (i := 26) rfl))) (Or.inr (hw _ (List.mem_of_getElem? (i := 24) rfl))) (by decide) (t := .int) (t' := (.object "com/example/kenning/kenning/index/Pages")) (by decide) (by decide))))
  have V1_57 : Arv Z h48 o1 kc .byte nn (bs.map Value.int) (.int (0 : Int32)) := (V1_47.other W48 hne)
  have N48 := Fr.snoc X48 N38 gn_o0
  refine Got.step st48 ?_
  show Got p e below s _ _ _ _ T48 (mkF m 25 #[.val (.ref o0), .val (.ref o1), .val (.ref o2)] [])
  refine Got.step (T' := T48) (g' := (mkF m 27 #[.val (.ref o0), .val (.ref o1), .val (.ref o2)] [(.ref o0), (.ref o0)])) (fun tq kt => ?_) ?_
  · show Steps p.tables e below (T48.setTop (mkF m 25 #[.val (.ref o0), .val (.ref o1), .val (.ref o2)] [])) _
    refine XS.aloadN X48.here hx rfl (hb hby d1_25) rfl rfl ?_
    show Steps p.tables e below (T48.setTop (mkF m 26 #[.val (.ref o0), .val (.ref o1), .val (.ref o2)] [(.ref o0)])) _
    refine XS.aloadN X48.here hx rfl (hb hby d1_26) rfl rfl ?_
    exact kt
  obtain ⟨T58, X58, e58, st58⟩ := getF X48 hx hZ hown (host := "") (Or.inl (hw _ (List.mem_of_getElem? (i := 19) rfl))) Via.refl e48 F_limit_53 (g := (mkF m 27 #[.val (.ref o0), .val (.ref o1), .val (.ref o2)] [(.ref o0), (.ref o0)])) rfl rfl (hb hby d1_27)
  refine Got.step st58 ?_
  show Got p e below s _ _ _ _ T58 (mkF m 30 #[.val (.ref o0), .val (.ref o1), .val (.ref o2)] [(.int nn), (.ref o0)])
  obtain ⟨T59, h59, X59, e59, W59, st59⟩ := putF X58 hx hZ hown (host := "") (Or.inl (hw _ (List.mem_of_getElem? (i := 25) rfl))) Via.refl e58 F_ready_56 E_o0_51 (Or.inl (hw _ (List.mem_of_getElem? (i := 26) rfl))) (hw _ (List.mem_of_getElem? (i := 2) rfl)) (ty := .int) (by decide) rfl rfl (g := (mkF m 30 #[.val (.ref o0), .val (.ref o1), .val (.ref o2)] [(.int nn), (.ref o0)])) rfl rfl (hb hby d1_30)
  have Z0_60 : n0 ≤ h59.size := (Nat.le_trans Z0_49 (Keep.of_wr W59).1)
  have K0_61 : Keep h0 h59 [o0] := (K0_50.wr W59 (Or.inl (List.mem_of_getElem? (i := 0) rfl)))
  have E_o0_62 : Exa Z h59 o0 "com/example/kenning/kenning/index/Decoder" := (E_o0_51.wr W59)
  have F_bytes_63 : Fld Z h59 o0 "com/example/kenning/kenning/index/Decoder" "bytes" "[B" (.ref o1) := (F_bytes_52.other W59 (Or.inr (slot_ne (Or.inr (hw _ (List.mem_of_getElem? (i := 18) rfl))) (Or.inl (hw _ (List.mem_of_getElem? (i := 26) rfl))) (by decide) (t := (.array .byte)) (t' := .int) (by decide) (by decide))))
  have F_limit_64 : Fld Z h59 o0 "com/example/kenning/kenning/index/Decoder" "limit" "I" (.int nn) := (F_limit_53.other W59 (Or.inr (slot_ne (Or.inr (hw _ (List.mem_of_getElem? (i := 20) rfl))) (Or.inl (hw _ (List.mem_of_getElem? (i := 26) rfl))) (by decide) (t := .int) (t' := .int) (by decide) (by decide))))
  have F_source_65 : Fld Z h59 o0 "com/example/kenning/kenning/index/Decoder" "source" "Ljava/lang/String;" (.ref o2) := (F_source_54.other W59 (Or.inr (slot_ne (Or.inr (hw _ (List.mem_of_getElem? (i := 22) rfl))) (Or.inl (hw _ (List.mem_of_getElem? (i := 26) rfl))) (by decide) (t := (.object "java/lang/String")) (t' := .int) (by decide) (by decide))))
  have F_pages_66 : Fld Z h59 o0 "com/example/kenning/kenning/index/Decoder" "pages" "Lcom/example/kenning/kenning/index/Pages;" .null := (F_pages_55.other W59 (Or.inr (slot_ne (Or.inr (hw _ (List.mem_of_getElem? (i := 24) rfl))) (Or.inl (hw _ (List.mem_of_getElem? (i := 26) rfl))) (by decide) (t := (.object "com/example/kenning/kenning/index/Pages")) (t' := .int) (by decide) (by decide))))
  have F_ready_67 : Fld Z h59 o0 "com/example/kenning/kenning/index/Decoder" "ready" "I" (.int nn) := (F_ready_56.same W59)
  have V1_68 : Arv Z h59 o1 kc .byte nn (bs.map Value.int) (.int (0 : Int32)) := (V1_57.other W59 hne)
  have N59 := Fr.snoc X59 N48 gn_o0
  refine Got.step st59 ?_
  show Got p e below s _ _ _ _ T59 (mkF m 33 #[.val (.ref o0), .val (.ref o1), .val (.ref o2)] [])
  exact Got.retV X59 hx Bd.returns hlk (hb hby d1_33) ⟨N59, by rw [e59]; exact K0_61, by rw [e59]; exact E_o0_62, by rw [e59]; exact F_bytes_63⟩ (by decide) (by decide)
theorem os71 {z0 : Value} {z1 : Value} {z2 : Value} {z3 : Value} {s4 : Slot} {s5 : Slot} {s6 : Slot} {v : Int32} (h : One s4) : storeLocals #[.val z0, .val z1, .val z2, .val z3, s4, s5, s6] 4 (.int v) = some #[.val z0, .val z1, .val z2, .val z3, .val (.int v), s5, s6] := by
  rcases h with rfl | ⟨w, rfl, hw⟩
  · rfl
  · cases w <;> first | rfl | (simp [Value.category] at hw)
theorem os75 {z0 : Value} {z1 : Value} {z2 : Value} {z3 : Value} {z4 : Value} {s5 : Slot} {s6 : Slot} {v : Int32} (h : One s5) : storeLocals #[.val z0, .val z1, .val z2, .val z3, .val z4, s5, s6] 5 (.int v) = some #[.val z0, .val z1, .val z2, .val z3, .val z4, .val (.int v), s6] := by
  rcases h with rfl | ⟨w, rfl, hw⟩
  · rfl
  · cases w <;> first | rfl | (simp [Value.category] at hw)
theorem os76 {z0 : Value} {z1 : Value} {z2 : Value} {z3 : Value} {z4 : Value} {s5 : Slot} {s6 : Slot} {v : Int32} (h : One s5) : storeLocals #[.val z0, .val z1, .val z2, .val z3, .val z4, s5, s6] 5 (.int v) = some #[.val z0, .val z1, .val z2, .val z3, .val z4, .val (.int v), s6] := by
  rcases h with rfl | ⟨w, rfl, hw⟩
  · rfl
  · cases w <;> first | rfl | (simp [Value.category] at hw)
theorem os80 {z0 : Value} {z1 : Value} {z2 : Value} {z3 : Value} {s4 : Slot} {s5 : Slot} {s6 : Slot} {v : Int32} (h : One s4) : storeLocals #[.val z0, .val z1, .val z2, .val z3, s4, s5, s6] 4 (.int v) = some #[.val z0, .val z1, .val z2, .val z3, .val (.int v), s5, s6] := by
  rcases h with rfl | ⟨w, rfl, hw⟩
  · rfl
  · cases w <;> first | rfl | (simp [Value.category] at hw)
theorem os84 {z0 : Value} {z1 : Value} {z2 : Value} {z3 : Value} {z4 : Value} {s5 : Slot} {s6 : Slot} {v : Int32} (h : One s5) : storeLocals #[.val z0, .val z1, .val z2, .val z3, .val z4, s5, s6] 5 (.int v) = some #[.val z0, .val z1, .val z2, .val z3, .val z4, .val (.int v), s6] := by
  rcases h with rfl | ⟨w, rfl, hw⟩
  · rfl
  · cases w <;> first | rfl | (simp [Value.category] at hw)
theorem os85 {z0 : Value} {z1 : Value} {z2 : Value} {z3 : Value} {z4 : Value} {s5 : Slot} {s6 : Slot} {v : Int32} (h : One s5) : storeLocals #[.val z0, .val z1, .val z2, .val z3, .val z4, s5, s6] 5 (.int v) = some #[.val z0, .val z1, .val z2, .val z3, .val z4, .val (.int v), s6] := by
  rcases h with rfl | ⟨w, rfl, hw⟩
  · rfl
  · cases w <;> first | rfl | (simp [Value.category] at hw)
theorem os86 {z0 : Value} {z1 : Value} {z2 : Value} {z3 : Value} {s4 : Slot} {s5 : Slot} {s6 : Slot} {v : Int32} (h : One s4) : storeLocals #[.val z0, .val z1, .val z2, .val z3, s4, s5, s6] 4 (.int v) = some #[.val z0, .val z1, .val z2, .val z3, .val (.int v), s5, s6] := by
  rcases h with rfl | ⟨w, rfl, hw⟩
  · rfl
  · cases w <;> first | rfl | (simp [Value.category] at hw)
theorem os90 {z0 : Value} {z1 : Value} {z2 : Value} {z3 : Value} {z4 : Value} {s5 : Slot} {s6 : Slot} {v : Int32} (h : One s5) : storeLocals #[.val z0, .val z1, .val z2, .val z3, .val z4, s5, s6] 5 (.int v) = some #[.val z0, .val z1, .val z2, .val z3, .val z4, .val (.int v), s6] := by
  rcases h with rfl | ⟨w, rfl, hw⟩
  · rfl
  · cases w <;> first | rfl | (simp [Value.category] at hw)
theorem os91 {z0 : Value} {z1 : Value} {z2 : Value} {z3 : Value} {z4 : Value} {s5 : Slot} {s6 : Slot} {v : Int32} (h : One s5) : storeLocals #[.val z0, .val z1, .val z2, .val z3, .val z4, s5, s6] 5 (.int v) = some #[.val z0, .val z1, .val z2, .val z3, .val z4, .val (.int v), s6] := by
  rcases h with rfl | ⟨w, rfl, hw⟩
  · rfl
  · cases w <;> first | rfl | (simp [Value.category] at hw)
theorem os96 {z0 : Value} {z1 : Value} {z2 : Value} {z3 : Value} {z4 : Value} {z5 : Value} {s6 : Slot} {v : Int32} (h : One s6) : storeLocals #[.val z0, .val z1, .val z2, .val z3, .val z4, .val z5, s6] 6 (.int v) = some #[.val z0, .val z1, .val z2, .val z3, .val z4, .val z5, .val (.int v)] := by
  rcases h with rfl | ⟨w, rfl, hw⟩
  · rfl
  · cases w <;> first | rfl | (simp [Value.category] at hw)
theorem ef_5 (m : MethodId) (x0 : Addr) (x1 : Int32) (x2 : Int32) : entryFrame m #[(.ref x0), (.int x1), (.int x2)] 7 = mkF m 0 #[.val (.ref x0), .val (.int x1), .val (.int x2), .unset, .unset, .unset, .unset] [] := by first | (simp [entryFrame, mkF, argsToLocals, Value.category]; done) | rfl
theorem d5_0 : decode prog_179_method_22_code 0 = .ok (.iconst 0, 1) := by decide +kernel
theorem d5_1 : decode prog_179_method_22_code 1 = .ok (.istore_n 3, 1) := by decide +kernel
theorem d5_2 : decode prog_179_method_22_code 2 = .ok (.aload_n 0, 1) := by decide +kernel
theorem d5_3 : decode prog_179_method_22_code 3 = .ok (.getfield 7, 3) := by decide +kernel
theorem d5_6 : decode prog_179_method_22_code 6 = .ok (.iload_n 1, 1) := by decide +kernel
theorem d5_7 : decode prog_179_method_22_code 7 = .ok (.iload_n 3, 1) := by decide +kernel
theorem d5_8 : decode prog_179_method_22_code 8 = .ok (.iadd, 1) := by decide +kernel
theorem d5_9 : decode prog_179_method_22_code 9 = .ok (.baload, 1) := by decide +kernel
theorem d5_10 : decode prog_179_method_22_code 10 = .ok (.iconst (-1), 1) := by decide +kernel
theorem d5_11 : decode prog_179_method_22_code 11 = .ok (.if_icmp .ne 7, 3) := by decide +kernel
theorem d5_14 : decode prog_179_method_22_code 14 = .ok (.iconst 1, 1) := by decide +kernel
theorem d5_15 : decode prog_179_method_22_code 15 = .ok (.goto 4, 3) := by decide +kernel
theorem d5_18 : decode prog_179_method_22_code 18 = .ok (.iconst 0, 1) := by decide +kernel
theorem d5_19 : decode prog_179_method_22_code 19 = .ok (.istore 4, 2) := by decide +kernel
theorem d5_21 : decode prog_179_method_22_code 21 = .ok (.aload_n 0, 1) := by decide +kernel
theorem d5_22 : decode prog_179_method_22_code 22 = .ok (.getfield 7, 3) := by decide +kernel
theorem d5_25 : decode prog_179_method_22_code 25 = .ok (.iload_n 2, 1) := by decide +kernel
theorem d5_26 : decode prog_179_method_22_code 26 = .ok (.iload_n 3, 1) := by decide +kernel
theorem d5_27 : decode prog_179_method_22_code 27 = .ok (.iadd, 1) := by decide +kernel
theorem d5_28 : decode prog_179_method_22_code 28 = .ok (.baload, 1) := by decide +kernel
theorem d5_29 : decode prog_179_method_22_code 29 = .ok (.iconst (-1), 1) := by decide +kernel
theorem d5_30 : decode prog_179_method_22_code 30 = .ok (.if_icmp .ne 7, 3) := by decide +kernel
theorem d5_33 : decode prog_179_method_22_code 33 = .ok (.iconst 1, 1) := by decide +kernel
theorem d5_34 : decode prog_179_method_22_code 34 = .ok (.goto 4, 3) := by decide +kernel
theorem d5_37 : decode prog_179_method_22_code 37 = .ok (.iconst 0, 1) := by decide +kernel
theorem d5_38 : decode prog_179_method_22_code 38 = .ok (.istore 5, 2) := by decide +kernel
theorem d5_40 : decode prog_179_method_22_code 40 = .ok (.iload 4, 2) := by decide +kernel
theorem d5_42 : decode prog_179_method_22_code 42 = .ok (.ifCond .ne 8, 3) := by decide +kernel
theorem d5_45 : decode prog_179_method_22_code 45 = .ok (.iload 5, 2) := by decide +kernel
theorem d5_47 : decode prog_179_method_22_code 47 = .ok (.ifCond .eq 25, 3) := by decide +kernel
theorem d5_50 : decode prog_179_method_22_code 50 = .ok (.iload 4, 2) := by decide +kernel
theorem d5_52 : decode prog_179_method_22_code 52 = .ok (.ifCond .eq 7, 3) := by decide +kernel
theorem d5_55 : decode prog_179_method_22_code 55 = .ok (.iconst 0, 1) := by decide +kernel
theorem d5_56 : decode prog_179_method_22_code 56 = .ok (.goto 4, 3) := by decide +kernel
theorem d5_59 : decode prog_179_method_22_code 59 = .ok (.iconst 1, 1) := by decide +kernel
theorem d5_60 : decode prog_179_method_22_code 60 = .ok (.iload 5, 2) := by decide +kernel
theorem d5_62 : decode prog_179_method_22_code 62 = .ok (.ifCond .eq 7, 3) := by decide +kernel
theorem d5_65 : decode prog_179_method_22_code 65 = .ok (.iconst 0, 1) := by decide +kernel
theorem d5_66 : decode prog_179_method_22_code 66 = .ok (.goto 4, 3) := by decide +kernel
theorem d5_69 : decode prog_179_method_22_code 69 = .ok (.iconst 1, 1) := by decide +kernel
theorem d5_70 : decode prog_179_method_22_code 70 = .ok (.isub, 1) := by decide +kernel
theorem d5_71 : decode prog_179_method_22_code 71 = .ok (.ireturn, 1) := by decide +kernel
theorem d5_72 : decode prog_179_method_22_code 72 = .ok (.aload_n 0, 1) := by decide +kernel
theorem d5_73 : decode prog_179_method_22_code 73 = .ok (.getfield 7, 3) := by decide +kernel
theorem d5_76 : decode prog_179_method_22_code 76 = .ok (.iload_n 1, 1) := by decide +kernel
theorem d5_77 : decode prog_179_method_22_code 77 = .ok (.iload_n 3, 1) := by decide +kernel
theorem d5_78 : decode prog_179_method_22_code 78 = .ok (.iadd, 1) := by decide +kernel
theorem d5_79 : decode prog_179_method_22_code 79 = .ok (.baload, 1) := by decide +kernel
theorem d5_80 : decode prog_179_method_22_code 80 = .ok (.sipush 255, 3) := by decide +kernel
theorem d5_83 : decode prog_179_method_22_code 83 = .ok (.iand, 1) := by decide +kernel
theorem d5_84 : decode prog_179_method_22_code 84 = .ok (.aload_n 0, 1) := by decide +kernel
theorem d5_85 : decode prog_179_method_22_code 85 = .ok (.getfield 7, 3) := by decide +kernel
theorem d5_88 : decode prog_179_method_22_code 88 = .ok (.iload_n 2, 1) := by decide +kernel
theorem d5_89 : decode prog_179_method_22_code 89 = .ok (.iload_n 3, 1) := by decide +kernel
theorem d5_90 : decode prog_179_method_22_code 90 = .ok (.iadd, 1) := by decide +kernel
theorem d5_91 : decode prog_179_method_22_code 91 = .ok (.baload, 1) := by decide +kernel
theorem d5_92 : decode prog_179_method_22_code 92 = .ok (.sipush 255, 3) := by decide +kernel
theorem d5_95 : decode prog_179_method_22_code 95 = .ok (.iand, 1) := by decide +kernel
theorem d5_96 : decode prog_179_method_22_code 96 = .ok (.isub, 1) := by decide +kernel
theorem d5_97 : decode prog_179_method_22_code 97 = .ok (.istore 6, 2) := by decide +kernel
theorem d5_99 : decode prog_179_method_22_code 99 = .ok (.iload 6, 2) := by decide +kernel
theorem d5_101 : decode prog_179_method_22_code 101 = .ok (.ifCond .eq 6, 3) := by decide +kernel
theorem d5_104 : decode prog_179_method_22_code 104 = .ok (.iload 6, 2) := by decide +kernel
theorem d5_106 : decode prog_179_method_22_code 106 = .ok (.ireturn, 1) := by decide +kernel
theorem d5_107 : decode prog_179_method_22_code 107 = .ok (.iinc 3 1, 3) := by decide +kernel
theorem d5_110 : decode prog_179_method_22_code 110 = .ok (.goto (-108), 3) := by decide +kernel
set_option maxRecDepth 65536 in
set_option maxHeartbeats 40000000 in
theorem rm5 (l : Launch) (Z : State) (a0 : Array Value) (hw : ∀ d ∈ tables_1, d.before a0 Z = true) (ws : List Jvm.Cond) (o0 : Addr) (fa fo la : Nat) (bs : List Int32) (o7 : Addr) (kb : ClassId) (h0 : Heap) (n0 : Nat) (Z0 : n0 ≤ h0.size) (F0 : Fld Z h0 o0 "com/example/kenning/kenning/index/Decoder" "bytes" "[B" (.ref o7)) (V7 : Arv Z h0 o7 kb .byte (8 : Int32) (bs.map Value.int) (.int (0 : Int32))) (hfa : fa ≤ 4) (hfo : fo ≤ 4) (hla3 : la ≤ 3) (hla : bs.getD (fa + la) 0 = -1) :
    MetFree l (⟨"com/example/kenning/kenning/index/Decoder", "compareTexts", "(II)I"⟩ : MethodName) (head1 (Jvm.Cond.code (⟨"com/example/kenning/kenning/index/Decoder", "compareTexts", "(II)I"⟩ : MethodName) prog_179_method_22_code 7 (some .int) :: ws) ({ frames := 0, cells := 0, slots := 0, locals := 0 } : Room)) (fun a U => a = #[(.ref o0), (.int (Int32.ofNat fa)), (.int (Int32.ofNat fo))] ∧ Z.Warmed39 U.vm ∧ U.heap = h0) (fun _ _ _ _ _ => True) (fun _ U o U' => ∃ v L, o = .returned v ∧ QV (some (.int (cx bs fa fo la 0))) (PureP n0 h0) v U'.heap L ∧ FrameEnd U o U' L ({ frames := 0, cells := 0, slots := 0, locals := 0 } : Room).cells ({ frames := 0, cells := 0, slots := 0, locals := 0 } : Room).slots) := by
  refine MetFree.of_bodySF (plainFor_of_name pn_1) hisR ?_
  intro p e s m args below meth c s₁ Bd hml0 hP hK
  obtain ⟨rfl, hZ, hh⟩ := hP
  have hx := Bd.exec
  have hby := Bd.bytes
  have hml : c.maxLocals = 7 := hml0
  have hown : s.vm.findClass "com/example/kenning/kenning/index/Decoder" = some m.cls := findClass_of_methodNamed Bd.named
  have hnm := (name_of_methodNamed Bd.named Bd.method).1
  have hlk : meth.locks = false := BodyLoose.notSynchronized Bd
  have X0 : Stand p l e ({ frames := 0, cells := 0, slots := 0, locals := 0 } : Room) s m #[(.ref o0), (.int (Int32.ofNat fa)), (.int (Int32.ofNat fo))] below meth c s₁ [] 0 0 := Stand.of_body Bd
  have e0 : s₁.heap = h0 := by rw [← hh, Bd.state]; rfl
  have N0 := Fr.nil n0
  refine Got.body (ef_5 m o0 (Int32.ofNat fa) (Int32.ofNat fo)) ?_
  have J : ∀ (k i : Nat), i + k = la → ∀ (T1 : State), Stand p l e ({ frames := 0, cells := 0, slots := 0, locals := 0 } : Room) s m #[(.ref o0), (.int (Int32.ofNat fa)), (.int (Int32.ofNat fo))] below meth c T1 [] 0 0 → T1.heap = h0 → ∀ (s4 : Slot), One s4 → ∀ (s5 : Slot), One s5 → ∀ (s6 : Slot), One s6 → Got p e below s (PureP n0 h0) 0 0 (some (.int (cx bs fa fo k i))) T1 (mkF m 2 #[.val (.ref o0), .val (.int (Int32.ofNat fa)), .val (.int (Int32.ofNat fo)), .val (.int (Int32.ofNat i)), s4, s5, s6] []) := by
    intro k
    induction k with
    | zero =>
      intro i hi T1 X1 e1 s4 hs4 s5 hs5 s6 hs6
      have hA : (bs.getD (fa + i) 0) = (-1 : Int32) := by rw [show i = la by omega]; exact hla
      show Got p e below s (PureP n0 h0) 0 0 (some (.int (if (bs.getD (fo + i) 0) = (-1 : Int32) then ((0 : Int32) - (0 : Int32)) else ((0 : Int32) - (1 : Int32))))) T1 (mkF m 2 #[.val (.ref o0), .val (.int (Int32.ofNat fa)), .val (.int (Int32.ofNat fo)), .val (.int (Int32.ofNat i)), s4, s5, s6] [])
      refine Got.step (T' := T1) (g' := (mkF m 3 #[.val (.ref o0), .val (.int (Int32.ofNat fa)), .val (.int (Int32.ofNat fo)), .val (.int (Int32.ofNat i)), s4, s5, s6] [(.ref o0)])) (fun tq kt => ?_) ?_
      · show Steps p.tables e below (T1.setTop (mkF m 2 #[.val (.ref o0), .val (.int (Int32.ofNat fa)), .val (.int (Int32.ofNat fo)), .val (.int (Int32.ofNat i)), s4, s5, s6] [])) _
        refine XS.aloadN X1.here hx rfl (hb hby d5_2) rfl rfl ?_
        exact kt
      obtain ⟨T69, X69, e69, st69⟩ := getF X1 hx hZ hown (host := "") (Or.inl (hw _ (List.mem_of_getElem? (i := 17) rfl))) Via.refl e1 F0 (g := (mkF m 3 #[.val (.ref o0), .val (.int (Int32.ofNat fa)), .val (.int (Int32.ofNat fo)), .val (.int (Int32.ofNat i)), s4, s5, s6] [(.ref o0)])) rfl rfl (hb hby d5_3)
      refine Got.step st69 ?_
      show Got p e below s _ _ _ _ T69 (mkF m 6 #[.val (.ref o0), .val (.int (Int32.ofNat fa)), .val (.int (Int32.ofNat fo)), .val (.int (Int32.ofNat i)), s4, s5, s6] [(.ref o7)])
      refine Got.step (T' := T69) (g' := (mkF m 9 #[.val (.ref o0), .val (.int (Int32.ofNat fa)), .val (.int (Int32.ofNat fo)), .val (.int (Int32.ofNat i)), s4, s5, s6] [(.int ((Int32.ofNat fa) + (Int32.ofNat i))), (.ref o7)])) (fun tq kt => ?_) ?_
      · show Steps p.tables e below (T69.setTop (mkF m 6 #[.val (.ref o0), .val (.int (Int32.ofNat fa)), .val (.int (Int32.ofNat fo)), .val (.int (Int32.ofNat i)), s4, s5, s6] [(.ref o7)])) _
        refine XS.iloadN X69.here hx rfl (hb hby d5_6) rfl ?_
        show Steps p.tables e below (T69.setTop (mkF m 7 #[.val (.ref o0), .val (.int (Int32.ofNat fa)), .val (.int (Int32.ofNat fo)), .val (.int (Int32.ofNat i)), s4, s5, s6] [(.int (Int32.ofNat fa)), (.ref o7)])) _
        refine XS.iloadN X69.here hx rfl (hb hby d5_7) rfl ?_
        show Steps p.tables e below (T69.setTop (mkF m 8 #[.val (.ref o0), .val (.int (Int32.ofNat fa)), .val (.int (Int32.ofNat fo)), .val (.int (Int32.ofNat i)), s4, s5, s6] [(.int (Int32.ofNat i)), (.int (Int32.ofNat fa)), (.ref o7)])) _
        refine XS.iadd X69.here hx rfl (hb hby d5_8) rfl ?_
        exact kt
      obtain ⟨cl70, Ar70, q70, S70, M70, H70, G70⟩ := (id V7)
      have hin70 : ¬ (((Int32.ofNat fa) + (Int32.ofNat i)) < 0 ∨ cl70.slots.size ≤ (((Int32.ofNat fa) + (Int32.ofNat i))).toNatClampNeg) := inb_of S70 (own_in8 hfa (by omega))
      refine Got.step (T' := T69) (fun tq kt => X69.baloadBytes hx (j := ((Int32.ofNat fa) + (Int32.ofNat i))) (v := (.int (bs.getD (fa + i) 0))) (by rw [e69]; exact Ar70.1) (State.isArrayOf_alike hZ.alike Ar70.2.1) Ar70.2.2 hin70 (H70.at hin70 (own_rd _ (by omega))) (g := (mkF m 9 #[.val (.ref o0), .val (.int (Int32.ofNat fa)), .val (.int (Int32.ofNat fo)), .val (.int (Int32.ofNat i)), s4, s5, s6] [(.int ((Int32.ofNat fa) + (Int32.ofNat i))), (.ref o7)])) rfl rfl (hb hby d5_9) tq kt) ?_
      show Got p e below s _ _ _ _ T69 (mkF m 10 #[.val (.ref o0), .val (.int (Int32.ofNat fa)), .val (.int (Int32.ofNat fo)), .val (.int (Int32.ofNat i)), s4, s5, s6] [(.int (bs.getD (fa + i) 0))])
      refine Got.step (T' := T69) (g' := (mkF m 22 #[.val (.ref o0), .val (.int (Int32.ofNat fa)), .val (.int (Int32.ofNat fo)), .val (.int (Int32.ofNat i)), .val (.int (1 : Int32)), s5, s6] [(.ref o0)])) (fun tq kt => ?_) ?_
      · show Steps p.tables e below (T69.setTop (mkF m 10 #[.val (.ref o0), .val (.int (Int32.ofNat fa)), .val (.int (Int32.ofNat fo)), .val (.int (Int32.ofNat i)), s4, s5, s6] [(.int (bs.getD (fa + i) 0))])) _
        refine XS.iconst X69.here hx rfl (hb hby d5_10) ?_
        show Steps p.tables e below (T69.setTop (mkF m 11 #[.val (.ref o0), .val (.int (Int32.ofNat fa)), .val (.int (Int32.ofNat fo)), .val (.int (Int32.ofNat i)), s4, s5, s6] [(.int (-1 : Int32)), (.int (bs.getD (fa + i) 0))])) _
        refine XS.icmpNo X69.here hx rfl (hb hby d5_11) rfl (XT.ii_ne_f hA) ?_
        show Steps p.tables e below (T69.setTop (mkF m 14 #[.val (.ref o0), .val (.int (Int32.ofNat fa)), .val (.int (Int32.ofNat fo)), .val (.int (Int32.ofNat i)), s4, s5, s6] [])) _
        refine XS.iconst X69.here hx rfl (hb hby d5_14) ?_
        show Steps p.tables e below (T69.setTop (mkF m 15 #[.val (.ref o0), .val (.int (Int32.ofNat fa)), .val (.int (Int32.ofNat fo)), .val (.int (Int32.ofNat i)), s4, s5, s6] [(.int (1 : Int32))])) _
        refine XS.goto X69.here hx rfl (pc0 := 15) (pc' := 19) rfl (hb hby d5_15) (by decide) (by decide) ?_
        show Steps p.tables e below (T69.setTop (mkF m 19 #[.val (.ref o0), .val (.int (Int32.ofNat fa)), .val (.int (Int32.ofNat fo)), .val (.int (Int32.ofNat i)), s4, s5, s6] [(.int (1 : Int32))])) _
        refine XS.istore X69.here hx rfl (hb hby d5_19) rfl (l' := #[.val (.ref o0), .val (.int (Int32.ofNat fa)), .val (.int (Int32.ofNat fo)), .val (.int (Int32.ofNat i)), .val (.int (1 : Int32)), s5, s6]) (os71 hs4) ?_
        show Steps p.tables e below (T69.setTop (mkF m 21 #[.val (.ref o0), .val (.int (Int32.ofNat fa)), .val (.int (Int32.ofNat fo)), .val (.int (Int32.ofNat i)), .val (.int (1 : Int32)), s5, s6] [])) _
        refine XS.aloadN X69.here hx rfl (hb hby d5_21) rfl rfl ?_
        exact kt
      obtain ⟨T72, X72, e72, st72⟩ := getF X69 hx hZ hown (host := "") (Or.inl (hw _ (List.mem_of_getElem? (i := 17) rfl))) Via.refl e69 F0 (g := (mkF m 22 #[.val (.ref o0), .val (.int (Int32.ofNat fa)), .val (.int (Int32.ofNat fo)), .val (.int (Int32.ofNat i)), .val (.int (1 : Int32)), s5, s6] [(.ref o0)])) rfl rfl (hb hby d5_22)
      refine Got.step st72 ?_
      show Got p e below s _ _ _ _ T72 (mkF m 25 #[.val (.ref o0), .val (.int (Int32.ofNat fa)), .val (.int (Int32.ofNat fo)), .val (.int (Int32.ofNat i)), .val (.int (1 : Int32)), s5, s6] [(.ref o7)])
      refine Got.step (T' := T72) (g' := (mkF m 28 #[.val (.ref o0), .val (.int (Int32.ofNat fa)), .val (.int (Int32.ofNat fo)), .val (.int (Int32.ofNat i)), .val (.int (1 : Int32)), s5, s6] [(.int ((Int32.ofNat fo) + (Int32.ofNat i))), (.ref o7)])) (fun tq kt => ?_) ?_
      · show Steps p.tables e below (T72.setTop (mkF m 25 #[.val (.ref o0), .val (.int (Int32.ofNat fa)), .val (.int (Int32.ofNat fo)), .val (.int (Int32.ofNat i)), .val (.int (1 : Int32)), s5, s6] [(.ref o7)])) _
        refine XS.iloadN X72.here hx rfl (hb hby d5_25) rfl ?_
        show Steps p.tables e below (T72.setTop (mkF m 26 #[.val (.ref o0), .val (.int (Int32.ofNat fa)), .val (.int (Int32.ofNat fo)), .val (.int (Int32.ofNat i)), .val (.int (1 : Int32)), s5, s6] [(.int (Int32.ofNat fo)), (.ref o7)])) _
        refine XS.iloadN X72.here hx rfl (hb hby d5_26) rfl ?_
        show Steps p.tables e below (T72.setTop (mkF m 27 #[.val (.ref o0), .val (.int (Int32.ofNat fa)), .val (.int (Int32.ofNat fo)), .val (.int (Int32.ofNat i)), .val (.int (1 : Int32)), s5, s6] [(.int (Int32.ofNat i)), (.int (Int32.ofNat fo)), (.ref o7)])) _
        refine XS.iadd X72.here hx rfl (hb hby d5_27) rfl ?_
        exact kt
      obtain ⟨cl73, Ar73, q73, S73, M73, H73, G73⟩ := (id V7)
      have hin73 : ¬ (((Int32.ofNat fo) + (Int32.ofNat i)) < 0 ∨ cl73.slots.size ≤ (((Int32.ofNat fo) + (Int32.ofNat i))).toNatClampNeg) := inb_of S73 (own_in8 hfo (by omega))
      refine Got.step (T' := T72) (fun tq kt => X72.baloadBytes hx (j := ((Int32.ofNat fo) + (Int32.ofNat i))) (v := (.int (bs.getD (fo + i) 0))) (by rw [e72]; exact Ar73.1) (State.isArrayOf_alike hZ.alike Ar73.2.1) Ar73.2.2 hin73 (H73.at hin73 (own_rd _ (by omega))) (g := (mkF m 28 #[.val (.ref o0), .val (.int (Int32.ofNat fa)), .val (.int (Int32.ofNat fo)), .val (.int (Int32.ofNat i)), .val (.int (1 : Int32)), s5, s6] [(.int ((Int32.ofNat fo) + (Int32.ofNat i))), (.ref o7)])) rfl rfl (hb hby d5_28) tq kt) ?_
      show Got p e below s _ _ _ _ T72 (mkF m 29 #[.val (.ref o0), .val (.int (Int32.ofNat fa)), .val (.int (Int32.ofNat fo)), .val (.int (Int32.ofNat i)), .val (.int (1 : Int32)), s5, s6] [(.int (bs.getD (fo + i) 0))])
      refine Got.step (T' := T72) (g' := (mkF m 30 #[.val (.ref o0), .val (.int (Int32.ofNat fa)), .val (.int (Int32.ofNat fo)), .val (.int (Int32.ofNat i)), .val (.int (1 : Int32)), s5, s6] [(.int (-1 : Int32)), (.int (bs.getD (fo + i) 0))])) (fun tq kt => ?_) ?_
      · show Steps p.tables e below (T72.setTop (mkF m 29 #[.val (.ref o0), .val (.int (Int32.ofNat fa)), .val (.int (Int32.ofNat fo)), .val (.int (Int32.ofNat i)), .val (.int (1 : Int32)), s5, s6] [(.int (bs.getD (fo + i) 0))])) _
        refine XS.iconst X72.here hx rfl (hb hby d5_29) ?_
        exact kt
      refine Got.ite (q := ((bs.getD (fo + i) 0) = (-1 : Int32))) (fun hc74 => ?_) (fun hc74 => ?_)
      · refine Got.step (T' := T72) (g' := (mkF m 71 #[.val (.ref o0), .val (.int (Int32.ofNat fa)), .val (.int (Int32.ofNat fo)), .val (.int (Int32.ofNat i)), .val (.int (1 : Int32)), .val (.int (1 : Int32)), s6] [(.int ((0 : Int32) - (0 : Int32)))])) (fun tq kt => ?_) ?_
        · show Steps p.tables e below (T72.setTop (mkF m 30 #[.val (.ref o0), .val (.int (Int32.ofNat fa)), .val (.int (Int32.ofNat fo)), .val (.int (Int32.ofNat i)), .val (.int (1 : Int32)), s5, s6] [(.int (-1 : Int32)), (.int (bs.getD (fo + i) 0))])) _
          refine XS.icmpNo X72.here hx rfl (hb hby d5_30) rfl (XT.ii_ne_f hc74) ?_
          show Steps p.tables e below (T72.setTop (mkF m 33 #[.val (.ref o0), .val (.int (Int32.ofNat fa)), .val (.int (Int32.ofNat fo)), .val (.int (Int32.ofNat i)), .val (.int (1 : Int32)), s5, s6] [])) _
          refine XS.iconst X72.here hx rfl (hb hby d5_33) ?_
          show Steps p.tables e below (T72.setTop (mkF m 34 #[.val (.ref o0), .val (.int (Int32.ofNat fa)), .val (.int (Int32.ofNat fo)), .val (.int (Int32.ofNat i)), .val (.int (1 : Int32)), s5, s6] [(.int (1 : Int32))])) _
          refine XS.goto X72.here hx rfl (pc0 := 34) (pc' := 38) rfl (hb hby d5_34) (by decide) (by decide) ?_
          show Steps p.tables e below (T72.setTop (mkF m 38 #[.val (.ref o0), .val (.int (Int32.ofNat fa)), .val (.int (Int32.ofNat fo)), .val (.int (Int32.ofNat i)), .val (.int (1 : Int32)), s5, s6] [(.int (1 : Int32))])) _
          refine XS.istore X72.here hx rfl (hb hby d5_38) rfl (l' := #[.val (.ref o0), .val (.int (Int32.ofNat fa)), .val (.int (Int32.ofNat fo)), .val (.int (Int32.ofNat i)), .val (.int (1 : Int32)), .val (.int (1 : Int32)), s6]) (os75 hs5) ?_
          show Steps p.tables e below (T72.setTop (mkF m 40 #[.val (.ref o0), .val (.int (Int32.ofNat fa)), .val (.int (Int32.ofNat fo)), .val (.int (Int32.ofNat i)), .val (.int (1 : Int32)), .val (.int (1 : Int32)), s6] [])) _
          refine XS.iload X72.here hx rfl (hb hby d5_40) rfl ?_
          show Steps p.tables e below (T72.setTop (mkF m 42 #[.val (.ref o0), .val (.int (Int32.ofNat fa)), .val (.int (Int32.ofNat fo)), .val (.int (Int32.ofNat i)), .val (.int (1 : Int32)), .val (.int (1 : Int32)), s6] [(.int (1 : Int32))])) _
          refine XS.ifYes X72.here hx rfl (pc0 := 42) (pc' := 50) rfl (hb hby d5_42) rfl (XT.i0_ne_t (by decide)) (by decide) (by decide) ?_
          show Steps p.tables e below (T72.setTop (mkF m 50 #[.val (.ref o0), .val (.int (Int32.ofNat fa)), .val (.int (Int32.ofNat fo)), .val (.int (Int32.ofNat i)), .val (.int (1 : Int32)), .val (.int (1 : Int32)), s6] [])) _
          refine XS.iload X72.here hx rfl (hb hby d5_50) rfl ?_
          show Steps p.tables e below (T72.setTop (mkF m 52 #[.val (.ref o0), .val (.int (Int32.ofNat fa)), .val (.int (Int32.ofNat fo)), .val (.int (Int32.ofNat i)), .val (.int (1 : Int32)), .val (.int (1 : Int32)), s6] [(.int (1 : Int32))])) _
          refine XS.ifNo X72.here hx rfl (hb hby d5_52) rfl (XT.i0_eq_f (by decide)) ?_
          show Steps p.tables e below (T72.setTop (mkF m 55 #[.val (.ref o0), .val (.int (Int32.ofNat fa)), .val (.int (Int32.ofNat fo)), .val (.int (Int32.ofNat i)), .val (.int (1 : Int32)), .val (.int (1 : Int32)), s6] [])) _
          refine XS.iconst X72.here hx rfl (hb hby d5_55) ?_
          show Steps p.tables e below (T72.setTop (mkF m 56 #[.val (.ref o0), .val (.int (Int32.ofNat fa)), .val (.int (Int32.ofNat fo)), .val (.int (Int32.ofNat i)), .val (.int (1 : Int32)), .val (.int (1 : Int32)), s6] [(.int (0 : Int32))])) _
          refine XS.goto X72.here hx rfl (pc0 := 56) (pc' := 60) rfl (hb hby d5_56) (by decide) (by decide) ?_
          show Steps p.tables e below (T72.setTop (mkF m 60 #[.val (.ref o0), .val (.int (Int32.ofNat fa)), .val (.int (Int32.ofNat fo)), .val (.int (Int32.ofNat i)), .val (.int (1 : Int32)), .val (.int (1 : Int32)), s6] [(.int (0 : Int32))])) _
          refine XS.iload X72.here hx rfl (hb hby d5_60) rfl ?_
          show Steps p.tables e below (T72.setTop (mkF m 62 #[.val (.ref o0), .val (.int (Int32.ofNat fa)), .val (.int (Int32.ofNat fo)), .val (.int (Int32.ofNat i)), .val (.int (1 : Int32)), .val (.int (1 : Int32)), s6] [(.int (1 : Int32)), (.int (0 : Int32))])) _
          refine XS.ifNo X72.here hx rfl (hb hby d5_62) rfl (XT.i0_eq_f (by decide)) ?_
          show Steps p.tables e below (T72.setTop (mkF m 65 #[.val (.ref o0), .val (.int (Int32.ofNat fa)), .val (.int (Int32.ofNat fo)), .val (.int (Int32.ofNat i)), .val (.int (1 : Int32)), .val (.int (1 : Int32)), s6] [(.int (0 : Int32))])) _
          refine XS.iconst X72.here hx rfl (hb hby d5_65) ?_
          show Steps p.tables e below (T72.setTop (mkF m 66 #[.val (.ref o0), .val (.int (Int32.ofNat fa)), .val (.int (Int32.ofNat fo)), .val (.int (Int32.ofNat i)), .val (.int (1 : Int32)), .val (.int (1 : Int32)), s6] [(.int (0 : Int32)), (.int (0 : Int32))])) _
          refine XS.goto X72.here hx rfl (pc0 := 66) (pc' := 70) rfl (hb hby d5_66) (by decide) (by decide) ?_
          show Steps p.tables e below (T72.setTop (mkF m 70 #[.val (.ref o0), .val (.int (Int32.ofNat fa)), .val (.int (Int32.ofNat fo)), .val (.int (Int32.ofNat i)), .val (.int (1 : Int32)), .val (.int (1 : Int32)), s6] [(.int (0 : Int32)), (.int (0 : Int32))])) _
          refine XS.isub X72.here hx rfl (hb hby d5_70) rfl ?_
          exact kt
        exact Got.retI (y := ((0 : Int32) - (0 : Int32))) X72 hx Bd.returns hlk (hb hby d5_71) rfl ⟨N0, e72⟩ (by decide) (by decide)
      · refine Got.step (T' := T72) (g' := (mkF m 71 #[.val (.ref o0), .val (.int (Int32.ofNat fa)), .val (.int (Int32.ofNat fo)), .val (.int (Int32.ofNat i)), .val (.int (1 : Int32)), .val (.int (0 : Int32)), s6] [(.int ((0 : Int32) - (1 : Int32)))])) (fun tq kt => ?_) ?_
        · show Steps p.tables e below (T72.setTop (mkF m 30 #[.val (.ref o0), .val (.int (Int32.ofNat fa)), .val (.int (Int32.ofNat fo)), .val (.int (Int32.ofNat i)), .val (.int (1 : Int32)), s5, s6] [(.int (-1 : Int32)), (.int (bs.getD (fo + i) 0))])) _
          refine XS.icmpYes X72.here hx rfl (pc0 := 30) (pc' := 37) rfl (hb hby d5_30) rfl (XT.ii_ne_t hc74) (by decide) (by decide) ?_
          show Steps p.tables e below (T72.setTop (mkF m 37 #[.val (.ref o0), .val (.int (Int32.ofNat fa)), .val (.int (Int32.ofNat fo)), .val (.int (Int32.ofNat i)), .val (.int (1 : Int32)), s5, s6] [])) _
          refine XS.iconst X72.here hx rfl (hb hby d5_37) ?_
          show Steps p.tables e below (T72.setTop (mkF m 38 #[.val (.ref o0), .val (.int (Int32.ofNat fa)), .val (.int (Int32.ofNat fo)), .val (.int (Int32.ofNat i)), .val (.int (1 : Int32)), s5, s6] [(.int (0 : Int32))])) _
          refine XS.istore X72.here hx rfl (hb hby d5_38) rfl (l' := #[.val (.ref o0), .val (.int (Int32.ofNat fa)), .val (.int (Int32.ofNat fo)), .val (.int (Int32.ofNat i)), .val (.int (1 : Int32)), .val (.int (0 : Int32)), s6]) (os76 hs5) ?_
          show Steps p.tables e below (T72.setTop (mkF m 40 #[.val (.ref o0), .val (.int (Int32.ofNat fa)), .val (.int (Int32.ofNat fo)), .val (.int (Int32.ofNat i)), .val (.int (1 : Int32)), .val (.int (0 : Int32)), s6] [])) _
          refine XS.iload X72.here hx rfl (hb hby d5_40) rfl ?_
          show Steps p.tables e below (T72.setTop (mkF m 42 #[.val (.ref o0), .val (.int (Int32.ofNat fa)), .val (.int (Int32.ofNat fo)), .val (.int (Int32.ofNat i)), .val (.int (1 : Int32)), .val (.int (0 : Int32)), s6] [(.int (1 : Int32))])) _
          refine XS.ifYes X72.here hx rfl (pc0 := 42) (pc' := 50) rfl (hb hby d5_42) rfl (XT.i0_ne_t (by decide)) (by decide) (by decide) ?_
          show Steps p.tables e below (T72.setTop (mkF m 50 #[.val (.ref o0), .val (.int (Int32.ofNat fa)), .val (.int (Int32.ofNat fo)), .val (.int (Int32.ofNat i)), .val (.int (1 : Int32)), .val (.int (0 : Int32)), s6] [])) _
          refine XS.iload X72.here hx rfl (hb hby d5_50) rfl ?_
          show Steps p.tables e below (T72.setTop (mkF m 52 #[.val (.ref o0), .val (.int (Int32.ofNat fa)), .val (.int (Int32.ofNat fo)), .val (.int (Int32.ofNat i)), .val (.int (1 : Int32)), .val (.int (0 : Int32)), s6] [(.int (1 : Int32))])) _
          refine XS.ifNo X72.here hx rfl (hb hby d5_52) rfl (XT.i0_eq_f (by decide)) ?_
          show Steps p.tables e below (T72.setTop (mkF m 55 #[.val (.ref o0), .val (.int (Int32.ofNat fa)), .val (.int (Int32.ofNat fo)), .val (.int (Int32.ofNat i)), .val (.int (1 : Int32)), .val (.int (0 : Int32)), s6] [])) _
          refine XS.iconst X72.here hx rfl (hb hby d5_55) ?_
          show Steps p.tables e below (T72.setTop (mkF m 56 #[.val (.ref o0), .val (.int (Int32.ofNat fa)), .val (.int (Int32.ofNat fo)), .val (.int (Int32.ofNat i)), .val (.int (1 : Int32)), .val (.int (0 : Int32)), s6] [(.int (0 : Int32))])) _
          refine XS.goto X72.here hx rfl (pc0 := 56) (pc' := 60) rfl (hb hby d5_56) (by decide) (by decide) ?_
          show Steps p.tables e below (T72.setTop (mkF m 60 #[.val (.ref o0), .val (.int (Int32.ofNat fa)), .val (.int (Int32.ofNat fo)), .val (.int (Int32.ofNat i)), .val (.int (1 : Int32)), .val (.int (0 : Int32)), s6] [(.int (0 : Int32))])) _
          refine XS.iload X72.here hx rfl (hb hby d5_60) rfl ?_
          show Steps p.tables e below (T72.setTop (mkF m 62 #[.val (.ref o0), .val (.int (Int32.ofNat fa)), .val (.int (Int32.ofNat fo)), .val (.int (Int32.ofNat i)), .val (.int (1 : Int32)), .val (.int (0 : Int32)), s6] [(.int (0 : Int32)), (.int (0 : Int32))])) _
          refine XS.ifYes X72.here hx rfl (pc0 := 62) (pc' := 69) rfl (hb hby d5_62) rfl (XT.i0_eq_t (by decide)) (by decide) (by decide) ?_
          show Steps p.tables e below (T72.setTop (mkF m 69 #[.val (.ref o0), .val (.int (Int32.ofNat fa)), .val (.int (Int32.ofNat fo)), .val (.int (Int32.ofNat i)), .val (.int (1 : Int32)), .val (.int (0 : Int32)), s6] [(.int (0 : Int32))])) _
          refine XS.iconst X72.here hx rfl (hb hby d5_69) ?_
          show Steps p.tables e below (T72.setTop (mkF m 70 #[.val (.ref o0), .val (.int (Int32.ofNat fa)), .val (.int (Int32.ofNat fo)), .val (.int (Int32.ofNat i)), .val (.int (1 : Int32)), .val (.int (0 : Int32)), s6] [(.int (1 : Int32)), (.int (0 : Int32))])) _
          refine XS.isub X72.here hx rfl (hb hby d5_70) rfl ?_
          exact kt
        exact Got.retI (y := ((0 : Int32) - (1 : Int32))) X72 hx Bd.returns hlk (hb hby d5_71) rfl ⟨N0, e72⟩ (by decide) (by decide)
    | succ k ih =>
      intro i hi T1 X1 e1 s4 hs4 s5 hs5 s6 hs6
      show Got p e below s (PureP n0 h0) 0 0 (some (.int (if (bs.getD (fa + i) 0) = (-1 : Int32) then (if (bs.getD (fo + i) 0) = (-1 : Int32) then ((0 : Int32) - (0 : Int32)) else ((0 : Int32) - (1 : Int32))) else (if (bs.getD (fo + i) 0) = (-1 : Int32) then ((1 : Int32) - (0 : Int32)) else (if (((bs.getD (fa + i) 0) &&& (255 : Int32)) - ((bs.getD (fo + i) 0) &&& (255 : Int32))) = 0 then cx bs fa fo k (i + 1) else (((bs.getD (fa + i) 0) &&& (255 : Int32)) - ((bs.getD (fo + i) 0) &&& (255 : Int32)))))))) T1 (mkF m 2 #[.val (.ref o0), .val (.int (Int32.ofNat fa)), .val (.int (Int32.ofNat fo)), .val (.int (Int32.ofNat i)), s4, s5, s6] [])
      refine Got.step (T' := T1) (g' := (mkF m 3 #[.val (.ref o0), .val (.int (Int32.ofNat fa)), .val (.int (Int32.ofNat fo)), .val (.int (Int32.ofNat i)), s4, s5, s6] [(.ref o0)])) (fun tq kt => ?_) ?_
      · show Steps p.tables e below (T1.setTop (mkF m 2 #[.val (.ref o0), .val (.int (Int32.ofNat fa)), .val (.int (Int32.ofNat fo)), .val (.int (Int32.ofNat i)), s4, s5, s6] [])) _
        refine XS.aloadN X1.here hx rfl (hb hby d5_2) rfl rfl ?_
        exact kt
      obtain ⟨T77, X77, e77, st77⟩ := getF X1 hx hZ hown (host := "") (Or.inl (hw _ (List.mem_of_getElem? (i := 17) rfl))) Via.refl e1 F0 (g := (mkF m 3 #[.val (.ref o0), .val (.int (Int32.ofNat fa)), .val (.int (Int32.ofNat fo)), .val (.int (Int32.ofNat i)), s4, s5, s6] [(.ref o0)])) rfl rfl (hb hby d5_3)
      refine Got.step st77 ?_
      show Got p e below s _ _ _ _ T77 (mkF m 6 #[.val (.ref o0), .val (.int (Int32.ofNat fa)), .val (.int (Int32.ofNat fo)), .val (.int (Int32.ofNat i)), s4, s5, s6] [(.ref o7)])
      refine Got.step (T' := T77) (g' := (mkF m 9 #[.val (.ref o0), .val (.int (Int32.ofNat fa)), .val (.int (Int32.ofNat fo)), .val (.int (Int32.ofNat i)), s4, s5, s6] [(.int ((Int32.ofNat fa) + (Int32.ofNat i))), (.ref o7)])) (fun tq kt => ?_) ?_
      · show Steps p.tables e below (T77.setTop (mkF m 6 #[.val (.ref o0), .val (.int (Int32.ofNat fa)), .val (.int (Int32.ofNat fo)), .val (.int (Int32.ofNat i)), s4, s5, s6] [(.ref o7)])) _
        refine XS.iloadN X77.here hx rfl (hb hby d5_6) rfl ?_
        show Steps p.tables e below (T77.setTop (mkF m 7 #[.val (.ref o0), .val (.int (Int32.ofNat fa)), .val (.int (Int32.ofNat fo)), .val (.int (Int32.ofNat i)), s4, s5, s6] [(.int (Int32.ofNat fa)), (.ref o7)])) _
        refine XS.iloadN X77.here hx rfl (hb hby d5_7) rfl ?_
        show Steps p.tables e below (T77.setTop (mkF m 8 #[.val (.ref o0), .val (.int (Int32.ofNat fa)), .val (.int (Int32.ofNat fo)), .val (.int (Int32.ofNat i)), s4, s5, s6] [(.int (Int32.ofNat i)), (.int (Int32.ofNat fa)), (.ref o7)])) _
        refine XS.iadd X77.here hx rfl (hb hby d5_8) rfl ?_
        exact kt
      obtain ⟨cl78, Ar78, q78, S78, M78, H78, G78⟩ := (id V7)
      have hin78 : ¬ (((Int32.ofNat fa) + (Int32.ofNat i)) < 0 ∨ cl78.slots.size ≤ (((Int32.ofNat fa) + (Int32.ofNat i))).toNatClampNeg) := inb_of S78 (own_in8 hfa (by omega))
      refine Got.step (T' := T77) (fun tq kt => X77.baloadBytes hx (j := ((Int32.ofNat fa) + (Int32.ofNat i))) (v := (.int (bs.getD (fa + i) 0))) (by rw [e77]; exact Ar78.1) (State.isArrayOf_alike hZ.alike Ar78.2.1) Ar78.2.2 hin78 (H78.at hin78 (own_rd _ (by omega))) (g := (mkF m 9 #[.val (.ref o0), .val (.int (Int32.ofNat fa)), .val (.int (Int32.ofNat fo)), .val (.int (Int32.ofNat i)), s4, s5, s6] [(.int ((Int32.ofNat fa) + (Int32.ofNat i))), (.ref o7)])) rfl rfl (hb hby d5_9) tq kt) ?_
      show Got p e below s _ _ _ _ T77 (mkF m 10 #[.val (.ref o0), .val (.int (Int32.ofNat fa)), .val (.int (Int32.ofNat fo)), .val (.int (Int32.ofNat i)), s4, s5, s6] [(.int (bs.getD (fa + i) 0))])
      refine Got.step (T' := T77) (g' := (mkF m 11 #[.val (.ref o0), .val (.int (Int32.ofNat fa)), .val (.int (Int32.ofNat fo)), .val (.int (Int32.ofNat i)), s4, s5, s6] [(.int (-1 : Int32)), (.int (bs.getD (fa + i) 0))])) (fun tq kt => ?_) ?_
      · show Steps p.tables e below (T77.setTop (mkF m 10 #[.val (.ref o0), .val (.int (Int32.ofNat fa)), .val (.int (Int32.ofNat fo)), .val (.int (Int32.ofNat i)), s4, s5, s6] [(.int (bs.getD (fa + i) 0))])) _
        refine XS.iconst X77.here hx rfl (hb hby d5_10) ?_
        exact kt
      refine Got.ite (q := ((bs.getD (fa + i) 0) = (-1 : Int32))) (fun hc79 => ?_) (fun hc79 => ?_)
      · refine Got.step (T' := T77) (g' := (mkF m 22 #[.val (.ref o0), .val (.int (Int32.ofNat fa)), .val (.int (Int32.ofNat fo)), .val (.int (Int32.ofNat i)), .val (.int (1 : Int32)), s5, s6] [(.ref o0)])) (fun tq kt => ?_) ?_
        · show Steps p.tables e below (T77.setTop (mkF m 11 #[.val (.ref o0), .val (.int (Int32.ofNat fa)), .val (.int (Int32.ofNat fo)), .val (.int (Int32.ofNat i)), s4, s5, s6] [(.int (-1 : Int32)), (.int (bs.getD (fa + i) 0))])) _
          refine XS.icmpNo X77.here hx rfl (hb hby d5_11) rfl (XT.ii_ne_f hc79) ?_
          show Steps p.tables e below (T77.setTop (mkF m 14 #[.val (.ref o0), .val (.int (Int32.ofNat fa)), .val (.int (Int32.ofNat fo)), .val (.int (Int32.ofNat i)), s4, s5, s6] [])) _
          refine XS.iconst X77.here hx rfl (hb hby d5_14) ?_
          show Steps p.tables e below (T77.setTop (mkF m 15 #[.val (.ref o0), .val (.int (Int32.ofNat fa)), .val (.int (Int32.ofNat fo)), .val (.int (Int32.ofNat i)), s4, s5, s6] [(.int (1 : Int32))])) _
          refine XS.goto X77.here hx rfl (pc0 := 15) (pc' := 19) rfl (hb hby d5_15) (by decide) (by decide) ?_
          show Steps p.tables e below (T77.setTop (mkF m 19 #[.val (.ref o0), .val (.int (Int32.ofNat fa)), .val (.int (Int32.ofNat fo)), .val (.int (Int32.ofNat i)), s4, s5, s6] [(.int (1 : Int32))])) _
          refine XS.istore X77.here hx rfl (hb hby d5_19) rfl (l' := #[.val (.ref o0), .val (.int (Int32.ofNat fa)), .val (.int (Int32.ofNat fo)), .val (.int (Int32.ofNat i)), .val (.int (1 : Int32)), s5, s6]) (os80 hs4) ?_
          show Steps p.tables e below (T77.setTop (mkF m 21 #[.val (.ref o0), .val (.int (Int32.ofNat fa)), .val (.int (Int32.ofNat fo)), .val (.int (Int32.ofNat i)), .val (.int (1 : Int32)), s5, s6] [])) _
          refine XS.aloadN X77.here hx rfl (hb hby d5_21) rfl rfl ?_
          exact kt
        obtain ⟨T81, X81, e81, st81⟩ := getF X77 hx hZ hown (host := "") (Or.inl (hw _ (List.mem_of_getElem? (i := 17) rfl))) Via.refl e77 F0 (g := (mkF m 22 #[.val (.ref o0), .val (.int (Int32.ofNat fa)), .val (.int (Int32.ofNat fo)), .val (.int (Int32.ofNat i)), .val (.int (1 : Int32)), s5, s6] [(.ref o0)])) rfl rfl (hb hby d5_22)
        refine Got.step st81 ?_
        show Got p e below s _ _ _ _ T81 (mkF m 25 #[.val (.ref o0), .val (.int (Int32.ofNat fa)), .val (.int (Int32.ofNat fo)), .val (.int (Int32.ofNat i)), .val (.int (1 : Int32)), s5, s6] [(.ref o7)])
        refine Got.step (T' := T81) (g' := (mkF m 28 #[.val (.ref o0), .val (.int (Int32.ofNat fa)), .val (.int (Int32.ofNat fo)), .val (.int (Int32.ofNat i)), .val (.int (1 : Int32)), s5, s6] [(.int ((Int32.ofNat fo) + (Int32.ofNat i))), (.ref o7)])) (fun tq kt => ?_) ?_
        · show Steps p.tables e below (T81.setTop (mkF m 25 #[.val (.ref o0), .val (.int (Int32.ofNat fa)), .val (.int (Int32.ofNat fo)), .val (.int (Int32.ofNat i)), .val (.int (1 : Int32)), s5, s6] [(.ref o7)])) _
          refine XS.iloadN X81.here hx rfl (hb hby d5_25) rfl ?_
          show Steps p.tables e below (T81.setTop (mkF m 26 #[.val (.ref o0), .val (.int (Int32.ofNat fa)), .val (.int (Int32.ofNat fo)), .val (.int (Int32.ofNat i)), .val (.int (1 : Int32)), s5, s6] [(.int (Int32.ofNat fo)), (.ref o7)])) _
          refine XS.iloadN X81.here hx rfl (hb hby d5_26) rfl ?_
          show Steps p.tables e below (T81.setTop (mkF m 27 #[.val (.ref o0), .val (.int (Int32.ofNat fa)), .val (.int (Int32.ofNat fo)), .val (.int (Int32.ofNat i)), .val (.int (1 : Int32)), s5, s6] [(.int (Int32.ofNat i)), (.int (Int32.ofNat fo)), (.ref o7)])) _
          refine XS.iadd X81.here hx rfl (hb hby d5_27) rfl ?_
          exact kt
        obtain ⟨cl82, Ar82, q82, S82, M82, H82, G82⟩ := (id V7)
        have hin82 : ¬ (((Int32.ofNat fo) + (Int32.ofNat i)) < 0 ∨ cl82.slots.size ≤ (((Int32.ofNat fo) + (Int32.ofNat i))).toNatClampNeg) := inb_of S82 (own_in8 hfo (by omega))
        refine Got.step (T' := T81) (fun tq kt => X81.baloadBytes hx (j := ((Int32.ofNat fo) + (Int32.ofNat i))) (v := (.int (bs.getD (fo + i) 0))) (by rw [e81]; exact Ar82.1) (State.isArrayOf_alike hZ.alike Ar82.2.1) Ar82.2.2 hin82 (H82.at hin82 (own_rd _ (by omega))) (g := (mkF m 28 #[.val (.ref o0), .val (.int (Int32.ofNat fa)), .val (.int (Int32.ofNat fo)), .val (.int (Int32.ofNat i)), .val (.int (1 : Int32)), s5, s6] [(.int ((Int32.ofNat fo) + (Int32.ofNat i))), (.ref o7)])) rfl rfl (hb hby d5_28) tq kt) ?_
        show Got p e below s _ _ _ _ T81 (mkF m 29 #[.val (.ref o0), .val (.int (Int32.ofNat fa)), .val (.int (Int32.ofNat fo)), .val (.int (Int32.ofNat i)), .val (.int (1 : Int32)), s5, s6] [(.int (bs.getD (fo + i) 0))])
        refine Got.step (T' := T81) (g' := (mkF m 30 #[.val (.ref o0), .val (.int (Int32.ofNat fa)), .val (.int (Int32.ofNat fo)), .val (.int (Int32.ofNat i)), .val (.int (1 : Int32)), s5, s6] [(.int (-1 : Int32)), (.int (bs.getD (fo + i) 0))])) (fun tq kt => ?_) ?_
        · show Steps p.tables e below (T81.setTop (mkF m 29 #[.val (.ref o0), .val (.int (Int32.ofNat fa)), .val (.int (Int32.ofNat fo)), .val (.int (Int32.ofNat i)), .val (.int (1 : Int32)), s5, s6] [(.int (bs.getD (fo + i) 0))])) _
          refine XS.iconst X81.here hx rfl (hb hby d5_29) ?_
          exact kt
        refine Got.ite (q := ((bs.getD (fo + i) 0) = (-1 : Int32))) (fun hc83 => ?_) (fun hc83 => ?_)
        · refine Got.step (T' := T81) (g' := (mkF m 71 #[.val (.ref o0), .val (.int (Int32.ofNat fa)), .val (.int (Int32.ofNat fo)), .val (.int (Int32.ofNat i)), .val (.int (1 : Int32)), .val (.int (1 : Int32)), s6] [(.int ((0 : Int32) - (0 : Int32)))])) (fun tq kt => ?_) ?_
          · show Steps p.tables e below (T81.setTop (mkF m 30 #[.val (.ref o0), .val (.int (Int32.ofNat fa)), .val (.int (Int32.ofNat fo)), .val (.int (Int32.ofNat i)), .val (.int (1 : Int32)), s5, s6] [(.int (-1 : Int32)), (.int (bs.getD (fo + i) 0))])) _
            refine XS.icmpNo X81.here hx rfl (hb hby d5_30) rfl (XT.ii_ne_f hc83) ?_
            show Steps p.tables e below (T81.setTop (mkF m 33 #[.val (.ref o0), .val (.int (Int32.ofNat fa)), .val (.int (Int32.ofNat fo)), .val (.int (Int32.ofNat i)), .val (.int (1 : Int32)), s5, s6] [])) _
            refine XS.iconst X81.here hx rfl (hb hby d5_33) ?_
            show Steps p.tables e below (T81.setTop (mkF m 34 #[.val (.ref o0), .val (.int (Int32.ofNat fa)), .val (.int (Int32.ofNat fo)), .val (.int (Int32.ofNat i)), .val (.int (1 : Int32)), s5, s6] [(.int (1 : Int32))])) _
            refine XS.goto X81.here hx rfl (pc0 := 34) (pc' := 38) rfl (hb hby d5_34) (by decide) (by decide) ?_
            show Steps p.tables e below (T81.setTop (mkF m 38 #[.val (.ref o0), .val (.int (Int32.ofNat fa)), .val (.int (Int32.ofNat fo)), .val (.int (Int32.ofNat i)), .val (.int (1 : Int32)), s5, s6] [(.int (1 : Int32))])) _
            refine XS.istore X81.here hx rfl (hb hby d5_38) rfl (l' := #[.val (.ref o0), .val (.int (Int32.ofNat fa)), .val (.int (Int32.ofNat fo)), .val (.int (Int32.ofNat i)), .val (.int (1 : Int32)), .val (.int (1 : Int32)), s6]) (os84 hs5) ?_
            show Steps p.tables e below (T81.setTop (mkF m 40 #[.val (.ref o0), .val (.int (Int32.ofNat fa)), .val (.int (Int32.ofNat fo)), .val (.int (Int32.ofNat i)), .val (.int (1 : Int32)), .val (.int (1 : Int32)), s6] [])) _
            refine XS.iload X81.here hx rfl (hb hby d5_40) rfl ?_
            show Steps p.tables e below (T81.setTop (mkF m 42 #[.val (.ref o0), .val (.int (Int32.ofNat fa)), .val (.int (Int32.ofNat fo)), .val (.int (Int32.ofNat i)), .val (.int (1 : Int32)), .val (.int (1 : Int32)), s6] [(.int (1 : Int32))])) _
            refine XS.ifYes X81.here hx rfl (pc0 := 42) (pc' := 50) rfl (hb hby d5_42) rfl (XT.i0_ne_t (by decide)) (by decide) (by decide) ?_
            show Steps p.tables e below (T81.setTop (mkF m 50 #[.val (.ref o0), .val (.int (Int32.ofNat fa)), .val (.int (Int32.ofNat fo)), .val (.int (Int32.ofNat i)), .val (.int (1 : Int32)), .val (.int (1 : Int32)), s6] [])) _
            refine XS.iload X81.here hx rfl (hb hby d5_50) rfl ?_
            show Steps p.tables e below (T81.setTop (mkF m 52 #[.val (.ref o0), .val (.int (Int32.ofNat fa)), .val (.int (Int32.ofNat fo)), .val (.int (Int32.ofNat i)), .val (.int (1 : Int32)), .val (.int (1 : Int32)), s6] [(.int (1 : Int32))])) _
            refine XS.ifNo X81.here hx rfl (hb hby d5_52) rfl (XT.i0_eq_f (by decide)) ?_
            show Steps p.tables e below (T81.setTop (mkF m 55 #[.val (.ref o0), .val (.int (Int32.ofNat fa)), .val (.int (Int32.ofNat fo)), .val (.int (Int32.ofNat i)), .val (.int (1 : Int32)), .val (.int (1 : Int32)), s6] [])) _
            refine XS.iconst X81.here hx rfl (hb hby d5_55) ?_
            show Steps p.tables e below (T81.setTop (mkF m 56 #[.val (.ref o0), .val (.int (Int32.ofNat fa)), .val (.int (Int32.ofNat fo)), .val (.int (Int32.ofNat i)), .val (.int (1 : Int32)), .val (.int (1 : Int32)), s6] [(.int (0 : Int32))])) _
            refine XS.goto X81.here hx rfl (pc0 := 56) (pc' := 60) rfl (hb hby d5_56) (by decide) (by decide) ?_
            show Steps p.tables e below (T81.setTop (mkF m 60 #[.val (.ref o0), .val (.int (Int32.ofNat fa)), .val (.int (Int32.ofNat fo)), .val (.int (Int32.ofNat i)), .val (.int (1 : Int32)), .val (.int (1 : Int32)), s6] [(.int (0 : Int32))])) _
            refine XS.iload X81.here hx rfl (hb hby d5_60) rfl ?_
            show Steps p.tables e below (T81.setTop (mkF m 62 #[.val (.ref o0), .val (.int (Int32.ofNat fa)), .val (.int (Int32.ofNat fo)), .val (.int (Int32.ofNat i)), .val (.int (1 : Int32)), .val (.int (1 : Int32)), s6] [(.int (1 : Int32)), (.int (0 : Int32))])) _
            refine XS.ifNo X81.here hx rfl (hb hby d5_62) rfl (XT.i0_eq_f (by decide)) ?_
            show Steps p.tables e below (T81.setTop (mkF m 65 #[.val (.ref o0), .val (.int (Int32.ofNat fa)), .val (.int (Int32.ofNat fo)), .val (.int (Int32.ofNat i)), .val (.int (1 : Int32)), .val (.int (1 : Int32)), s6] [(.int (0 : Int32))])) _
            refine XS.iconst X81.here hx rfl (hb hby d5_65) ?_
            show Steps p.tables e below (T81.setTop (mkF m 66 #[.val (.ref o0), .val (.int (Int32.ofNat fa)), .val (.int (Int32.ofNat fo)), .val (.int (Int32.ofNat i)), .val (.int (1 : Int32)), .val (.int (1 : Int32)), s6] [(.int (0 : Int32)), (.int (0 : Int32))])) _
            refine XS.goto X81.here hx rfl (pc0 := 66) (pc' := 70) rfl (hb hby d5_66) (by decide) (by decide) ?_
            show Steps p.tables e below (T81.setTop (mkF m 70 #[.val (.ref o0), .val (.int (Int32.ofNat fa)), .val (.int (Int32.ofNat fo)), .val (.int (Int32.ofNat i)), .val (.int (1 : Int32)), .val (.int (1 : Int32)), s6] [(.int (0 : Int32)), (.int (0 : Int32))])) _
            refine XS.isub X81.here hx rfl (hb hby d5_70) rfl ?_
            exact kt
          exact Got.retI (y := ((0 : Int32) - (0 : Int32))) X81 hx Bd.returns hlk (hb hby d5_71) rfl ⟨N0, e81⟩ (by decide) (by decide)
        · refine Got.step (T' := T81) (g' := (mkF m 71 #[.val (.ref o0), .val (.int (Int32.ofNat fa)), .val (.int (Int32.ofNat fo)), .val (.int (Int32.ofNat i)), .val (.int (1 : Int32)), .val (.int (0 : Int32)), s6] [(.int ((0 : Int32) - (1 : Int32)))])) (fun tq kt => ?_) ?_
          · show Steps p.tables e below (T81.setTop (mkF m 30 #[.val (.ref o0), .val (.int (Int32.ofNat fa)), .val (.int (Int32.ofNat fo)), .val (.int (Int32.ofNat i)), .val (.int (1 : Int32)), s5, s6] [(.int (-1 : Int32)), (.int (bs.getD (fo + i) 0))])) _
            refine XS.icmpYes X81.here hx rfl (pc0 := 30) (pc' := 37) rfl (hb hby d5_30) rfl (XT.ii_ne_t hc83) (by decide) (by decide) ?_
            show Steps p.tables e below (T81.setTop (mkF m 37 #[.val (.ref o0), .val (.int (Int32.ofNat fa)), .val (.int (Int32.ofNat fo)), .val (.int (Int32.ofNat i)), .val (.int (1 : Int32)), s5, s6] [])) _
            refine XS.iconst X81.here hx rfl (hb hby d5_37) ?_
            show Steps p.tables e below (T81.setTop (mkF m 38 #[.val (.ref o0), .val (.int (Int32.ofNat fa)), .val (.int (Int32.ofNat fo)), .val (.int (Int32.ofNat i)), .val (.int (1 : Int32)), s5, s6] [(.int (0 : Int32))])) _
            refine XS.istore X81.here hx rfl (hb hby d5_38) rfl (l' := #[.val (.ref o0), .val (.int (Int32.ofNat fa)), .val (.int (Int32.ofNat fo)), .val (.int (Int32.ofNat i)), .val (.int (1 : Int32)), .val (.int (0 : Int32)), s6]) (os85 hs5) ?_
            show Steps p.tables e below (T81.setTop (mkF m 40 #[.val (.ref o0), .val (.int (Int32.ofNat fa)), .val (.int (Int32.ofNat fo)), .val (.int (Int32.ofNat i)), .val (.int (1 : Int32)), .val (.int (0 : Int32)), s6] [])) _
            refine XS.iload X81.here hx rfl (hb hby d5_40) rfl ?_
            show Steps p.tables e below (T81.setTop (mkF m 42 #[.val (.ref o0), .val (.int (Int32.ofNat fa)), .val (.int (Int32.ofNat fo)), .val (.int (Int32.ofNat i)), .val (.int (1 : Int32)), .val (.int (0 : Int32)), s6] [(.int (1 : Int32))])) _
            refine XS.ifYes X81.here hx rfl (pc0 := 42) (pc' := 50) rfl (hb hby d5_42) rfl (XT.i0_ne_t (by decide)) (by decide) (by decide) ?_
            show Steps p.tables e below (T81.setTop (mkF m 50 #[.val (.ref o0), .val (.int (Int32.ofNat fa)), .val (.int (Int32.ofNat fo)), .val (.int (Int32.ofNat i)), .val (.int (1 : Int32)), .val (.int (0 : Int32)), s6] [])) _
            refine XS.iload X81.here hx rfl (hb hby d5_50) rfl ?_
            show Steps p.tables e below (T81.setTop (mkF m 52 #[.val (.ref o0), .val (.int (Int32.ofNat fa)), .val (.int (Int32.ofNat fo)), .val (.int (Int32.ofNat i)), .val (.int (1 : Int32)), .val (.int (0 : Int32)), s6] [(.int (1 : Int32))])) _
            refine XS.ifNo X81.here hx rfl (hb hby d5_52) rfl (XT.i0_eq_f (by decide)) ?_
            show Steps p.tables e below (T81.setTop (mkF m 55 #[.val (.ref o0), .val (.int (Int32.ofNat fa)), .val (.int (Int32.ofNat fo)), .val (.int (Int32.ofNat i)), .val (.int (1 : Int32)), .val (.int (0 : Int32)), s6] [])) _
            refine XS.iconst X81.here hx rfl (hb hby d5_55) ?_
            show Steps p.tables e below (T81.setTop (mkF m 56 #[.val (.ref o0), .val (.int (Int32.ofNat fa)), .val (.int (Int32.ofNat fo)), .val (.int (Int32.ofNat i)), .val (.int (1 : Int32)), .val (.int (0 : Int32)), s6] [(.int (0 : Int32))])) _
            refine XS.goto X81.here hx rfl (pc0 := 56) (pc' := 60) rfl (hb hby d5_56) (by decide) (by decide) ?_
            show Steps p.tables e below (T81.setTop (mkF m 60 #[.val (.ref o0), .val (.int (Int32.ofNat fa)), .val (.int (Int32.ofNat fo)), .val (.int (Int32.ofNat i)), .val (.int (1 : Int32)), .val (.int (0 : Int32)), s6] [(.int (0 : Int32))])) _
            refine XS.iload X81.here hx rfl (hb hby d5_60) rfl ?_
            show Steps p.tables e below (T81.setTop (mkF m 62 #[.val (.ref o0), .val (.int (Int32.ofNat fa)), .val (.int (Int32.ofNat fo)), .val (.int (Int32.ofNat i)), .val (.int (1 : Int32)), .val (.int (0 : Int32)), s6] [(.int (0 : Int32)), (.int (0 : Int32))])) _
            refine XS.ifYes X81.here hx rfl (pc0 := 62) (pc' := 69) rfl (hb hby d5_62) rfl (XT.i0_eq_t (by decide)) (by decide) (by decide) ?_
            show Steps p.tables e below (T81.setTop (mkF m 69 #[.val (.ref o0), .val (.int (Int32.ofNat fa)), .val (.int (Int32.ofNat fo)), .val (.int (Int32.ofNat i)), .val (.int (1 : Int32)), .val (.int (0 : Int32)), s6] [(.int (0 : Int32))])) _
            refine XS.iconst X81.here hx rfl (hb hby d5_69) ?_
            show Steps p.tables e below (T81.setTop (mkF m 70 #[.val (.ref o0), .val (.int (Int32.ofNat fa)), .val (.int (Int32.ofNat fo)), .val (.int (Int32.ofNat i)), .val (.int (1 : Int32)), .val (.int (0 : Int32)), s6] [(.int (1 : Int32)), (.int (0 : Int32))])) _
            refine XS.isub X81.here hx rfl (hb hby d5_70) rfl ?_
            exact kt
          exact Got.retI (y := ((0 : Int32) - (1 : Int32))) X81 hx Bd.returns hlk (hb hby d5_71) rfl ⟨N0, e81⟩ (by decide) (by decide)
      · refine Got.step (T' := T77) (g' := (mkF m 22 #[.val (.ref o0), .val (.int (Int32.ofNat fa)), .val (.int (Int32.ofNat fo)), .val (.int (Int32.ofNat i)), .val (.int (0 : Int32)), s5, s6] [(.ref o0)])) (fun tq kt => ?_) ?_
        · show Steps p.tables e below (T77.setTop (mkF m 11 #[.val (.ref o0), .val (.int (Int32.ofNat fa)), .val (.int (Int32.ofNat fo)), .val (.int (Int32.ofNat i)), s4, s5, s6] [(.int (-1 : Int32)), (.int (bs.getD (fa + i) 0))])) _
          refine XS.icmpYes X77.here hx rfl (pc0 := 11) (pc' := 18) rfl (hb hby d5_11) rfl (XT.ii_ne_t hc79) (by decide) (by decide) ?_
          show Steps p.tables e below (T77.setTop (mkF m 18 #[.val (.ref o0), .val (.int (Int32.ofNat fa)), .val (.int (Int32.ofNat fo)), .val (.int (Int32.ofNat i)), s4, s5, s6] [])) _
          refine XS.iconst X77.here hx rfl (hb hby d5_18) ?_
          show Steps p.tables e below (T77.setTop (mkF m 19 #[.val (.ref o0), .val (.int (Int32.ofNat fa)), .val (.int (Int32.ofNat fo)), .val (.int (Int32.ofNat i)), s4, s5, s6] [(.int (0 : Int32))])) _
          refine XS.istore X77.here hx rfl (hb hby d5_19) rfl (l' := #[.val (.ref o0), .val (.int (Int32.ofNat fa)), .val (.int (Int32.ofNat fo)), .val (.int (Int32.ofNat i)), .val (.int (0 : Int32)), s5, s6]) (os86 hs4) ?_
          show Steps p.tables e below (T77.setTop (mkF m 21 #[.val (.ref o0), .val (.int (Int32.ofNat fa)), .val (.int (Int32.ofNat fo)), .val (.int (Int32.ofNat i)), .val (.int (0 : Int32)), s5, s6] [])) _
          refine XS.aloadN X77.here hx rfl (hb hby d5_21) rfl rfl ?_
          exact kt
        obtain ⟨T87, X87, e87, st87⟩ := getF X77 hx hZ hown (host := "") (Or.inl (hw _ (List.mem_of_getElem? (i := 17) rfl))) Via.refl e77 F0 (g := (mkF m 22 #[.val (.ref o0), .val (.int (Int32.ofNat fa)), .val (.int (Int32.ofNat fo)), .val (.int (Int32.ofNat i)), .val (.int (0 : Int32)), s5, s6] [(.ref o0)])) rfl rfl (hb hby d5_22)
        refine Got.step st87 ?_
        show Got p e below s _ _ _ _ T87 (mkF m 25 #[.val (.ref o0), .val (.int (Int32.ofNat fa)), .val (.int (Int32.ofNat fo)), .val (.int (Int32.ofNat i)), .val (.int (0 : Int32)), s5, s6] [(.ref o7)])
        refine Got.step (T' := T87) (g' := (mkF m 28 #[.val (.ref o0), .val (.int (Int32.ofNat fa)), .val (.int (Int32.ofNat fo)), .val (.int (Int32.ofNat i)), .val (.int (0 : Int32)), s5, s6] [(.int ((Int32.ofNat fo) + (Int32.ofNat i))), (.ref o7)])) (fun tq kt => ?_) ?_
        · show Steps p.tables e below (T87.setTop (mkF m 25 #[.val (.ref o0), .val (.int (Int32.ofNat fa)), .val (.int (Int32.ofNat fo)), .val (.int (Int32.ofNat i)), .val (.int (0 : Int32)), s5, s6] [(.ref o7)])) _
          refine XS.iloadN X87.here hx rfl (hb hby d5_25) rfl ?_
          show Steps p.tables e below (T87.setTop (mkF m 26 #[.val (.ref o0), .val (.int (Int32.ofNat fa)), .val (.int (Int32.ofNat fo)), .val (.int (Int32.ofNat i)), .val (.int (0 : Int32)), s5, s6] [(.int (Int32.ofNat fo)), (.ref o7)])) _
          refine XS.iloadN X87.here hx rfl (hb hby d5_26) rfl ?_
          show Steps p.tables e below (T87.setTop (mkF m 27 #[.val (.ref o0), .val (.int (Int32.ofNat fa)), .val (.int (Int32.ofNat fo)), .val (.int (Int32.ofNat i)), .val (.int (0 : Int32)), s5, s6] [(.int (Int32.ofNat i)), (.int (Int32.ofNat fo)), (.ref o7)])) _
          refine XS.iadd X87.here hx rfl (hb hby d5_27) rfl ?_
          exact kt
        obtain ⟨cl88, Ar88, q88, S88, M88, H88, G88⟩ := (id V7)
        have hin88 : ¬ (((Int32.ofNat fo) + (Int32.ofNat i)) < 0 ∨ cl88.slots.size ≤ (((Int32.ofNat fo) + (Int32.ofNat i))).toNatClampNeg) := inb_of S88 (own_in8 hfo (by omega))
        refine Got.step (T' := T87) (fun tq kt => X87.baloadBytes hx (j := ((Int32.ofNat fo) + (Int32.ofNat i))) (v := (.int (bs.getD (fo + i) 0))) (by rw [e87]; exact Ar88.1) (State.isArrayOf_alike hZ.alike Ar88.2.1) Ar88.2.2 hin88 (H88.at hin88 (own_rd _ (by omega))) (g := (mkF m 28 #[.val (.ref o0), .val (.int (Int32.ofNat fa)), .val (.int (Int32.ofNat fo)), .val (.int (Int32.ofNat i)), .val (.int (0 : Int32)), s5, s6] [(.int ((Int32.ofNat fo) + (Int32.ofNat i))), (.ref o7)])) rfl rfl (hb hby d5_28) tq kt) ?_
        show Got p e below s _ _ _ _ T87 (mkF m 29 #[.val (.ref o0), .val (.int (Int32.ofNat fa)), .val (.int (Int32.ofNat fo)), .val (.int (Int32.ofNat i)), .val (.int (0 : Int32)), s5, s6] [(.int (bs.getD (fo + i) 0))])
        refine Got.step (T' := T87) (g' := (mkF m 30 #[.val (.ref o0), .val (.int (Int32.ofNat fa)), .val (.int (Int32.ofNat fo)), .val (.int (Int32.ofNat i)), .val (.int (0 : Int32)), s5, s6] [(.int (-1 : Int32)), (.int (bs.getD (fo + i) 0))])) (fun tq kt => ?_) ?_
        · show Steps p.tables e below (T87.setTop (mkF m 29 #[.val (.ref o0), .val (.int (Int32.ofNat fa)), .val (.int (Int32.ofNat fo)), .val (.int (Int32.ofNat i)), .val (.int (0 : Int32)), s5, s6] [(.int (bs.getD (fo + i) 0))])) _
          refine XS.iconst X87.here hx rfl (hb hby d5_29) ?_
          exact kt
        refine Got.ite (q := ((bs.getD (fo + i) 0) = (-1 : Int32))) (fun hc89 => ?_) (fun hc89 => ?_)
        · refine Got.step (T' := T87) (g' := (mkF m 71 #[.val (.ref o0), .val (.int (Int32.ofNat fa)), .val (.int (Int32.ofNat fo)), .val (.int (Int32.ofNat i)), .val (.int (0 : Int32)), .val (.int (1 : Int32)), s6] [(.int ((1 : Int32) - (0 : Int32)))])) (fun tq kt => ?_) ?_
          · show Steps p.tables e below (T87.setTop (mkF m 30 #[.val (.ref o0), .val (.int (Int32.ofNat fa)), .val (.int (Int32.ofNat fo)), .val (.int (Int32.ofNat i)), .val (.int (0 : Int32)), s5, s6] [(.int (-1 : Int32)), (.int (bs.getD (fo + i) 0))])) _
            refine XS.icmpNo X87.here hx rfl (hb hby d5_30) rfl (XT.ii_ne_f hc89) ?_
            show Steps p.tables e below (T87.setTop (mkF m 33 #[.val (.ref o0), .val (.int (Int32.ofNat fa)), .val (.int (Int32.ofNat fo)), .val (.int (Int32.ofNat i)), .val (.int (0 : Int32)), s5, s6] [])) _
            refine XS.iconst X87.here hx rfl (hb hby d5_33) ?_
            show Steps p.tables e below (T87.setTop (mkF m 34 #[.val (.ref o0), .val (.int (Int32.ofNat fa)), .val (.int (Int32.ofNat fo)), .val (.int (Int32.ofNat i)), .val (.int (0 : Int32)), s5, s6] [(.int (1 : Int32))])) _
            refine XS.goto X87.here hx rfl (pc0 := 34) (pc' := 38) rfl (hb hby d5_34) (by decide) (by decide) ?_
            show Steps p.tables e below (T87.setTop (mkF m 38 #[.val (.ref o0), .val (.int (Int32.ofNat fa)), .val (.int (Int32.ofNat fo)), .val (.int (Int32.ofNat i)), .val (.int (0 : Int32)), s5, s6] [(.int (1 : Int32))])) _
            refine XS.istore X87.here hx rfl (hb hby d5_38) rfl (l' := #[.val (.ref o0), .val (.int (Int32.ofNat fa)), .val (.int (Int32.ofNat fo)), .val (.int (Int32.ofNat i)), .val (.int (0 : Int32)), .val (.int (1 : Int32)), s6]) (os90 hs5) ?_
            show Steps p.tables e below (T87.setTop (mkF m 40 #[.val (.ref o0), .val (.int (Int32.ofNat fa)), .val (.int (Int32.ofNat fo)), .val (.int (Int32.ofNat i)), .val (.int (0 : Int32)), .val (.int (1 : Int32)), s6] [])) _
            refine XS.iload X87.here hx rfl (hb hby d5_40) rfl ?_
            show Steps p.tables e below (T87.setTop (mkF m 42 #[.val (.ref o0), .val (.int (Int32.ofNat fa)), .val (.int (Int32.ofNat fo)), .val (.int (Int32.ofNat i)), .val (.int (0 : Int32)), .val (.int (1 : Int32)), s6] [(.int (0 : Int32))])) _
            refine XS.ifNo X87.here hx rfl (hb hby d5_42) rfl (XT.i0_ne_f (by decide)) ?_
            show Steps p.tables e below (T87.setTop (mkF m 45 #[.val (.ref o0), .val (.int (Int32.ofNat fa)), .val (.int (Int32.ofNat fo)), .val (.int (Int32.ofNat i)), .val (.int (0 : Int32)), .val (.int (1 : Int32)), s6] [])) _
            refine XS.iload X87.here hx rfl (hb hby d5_45) rfl ?_
            show Steps p.tables e below (T87.setTop (mkF m 47 #[.val (.ref o0), .val (.int (Int32.ofNat fa)), .val (.int (Int32.ofNat fo)), .val (.int (Int32.ofNat i)), .val (.int (0 : Int32)), .val (.int (1 : Int32)), s6] [(.int (1 : Int32))])) _
            refine XS.ifNo X87.here hx rfl (hb hby d5_47) rfl (XT.i0_eq_f (by decide)) ?_
            show Steps p.tables e below (T87.setTop (mkF m 50 #[.val (.ref o0), .val (.int (Int32.ofNat fa)), .val (.int (Int32.ofNat fo)), .val (.int (Int32.ofNat i)), .val (.int (0 : Int32)), .val (.int (1 : Int32)), s6] [])) _
            refine XS.iload X87.here hx rfl (hb hby d5_50) rfl ?_
            show Steps p.tables e below (T87.setTop (mkF m 52 #[.val (.ref o0), .val (.int (Int32.ofNat fa)), .val (.int (Int32.ofNat fo)), .val (.int (Int32.ofNat i)), .val (.int (0 : Int32)), .val (.int (1 : Int32)), s6] [(.int (0 : Int32))])) _
            refine XS.ifYes X87.here hx rfl (pc0 := 52) (pc' := 59) rfl (hb hby d5_52) rfl (XT.i0_eq_t (by decide)) (by decide) (by decide) ?_
            show Steps p.tables e below (T87.setTop (mkF m 59 #[.val (.ref o0), .val (.int (Int32.ofNat fa)), .val (.int (Int32.ofNat fo)), .val (.int (Int32.ofNat i)), .val (.int (0 : Int32)), .val (.int (1 : Int32)), s6] [])) _
            refine XS.iconst X87.here hx rfl (hb hby d5_59) ?_
            show Steps p.tables e below (T87.setTop (mkF m 60 #[.val (.ref o0), .val (.int (Int32.ofNat fa)), .val (.int (Int32.ofNat fo)), .val (.int (Int32.ofNat i)), .val (.int (0 : Int32)), .val (.int (1 : Int32)), s6] [(.int (1 : Int32))])) _
            refine XS.iload X87.here hx rfl (hb hby d5_60) rfl ?_
            show Steps p.tables e below (T87.setTop (mkF m 62 #[.val (.ref o0), .val (.int (Int32.ofNat fa)), .val (.int (Int32.ofNat fo)), .val (.int (Int32.ofNat i)), .val (.int (0 : Int32)), .val (.int (1 : Int32)), s6] [(.int (1 : Int32)), (.int (1 : Int32))])) _
            refine XS.ifNo X87.here hx rfl (hb hby d5_62) rfl (XT.i0_eq_f (by decide)) ?_
            show Steps p.tables e below (T87.setTop (mkF m 65 #[.val (.ref o0), .val (.int (Int32.ofNat fa)), .val (.int (Int32.ofNat fo)), .val (.int (Int32.ofNat i)), .val (.int (0 : Int32)), .val (.int (1 : Int32)), s6] [(.int (1 : Int32))])) _
            refine XS.iconst X87.here hx rfl (hb hby d5_65) ?_
            show Steps p.tables e below (T87.setTop (mkF m 66 #[.val (.ref o0), .val (.int (Int32.ofNat fa)), .val (.int (Int32.ofNat fo)), .val (.int (Int32.ofNat i)), .val (.int (0 : Int32)), .val (.int (1 : Int32)), s6] [(.int (0 : Int32)), (.int (1 : Int32))])) _
            refine XS.goto X87.here hx rfl (pc0 := 66) (pc' := 70) rfl (hb hby d5_66) (by decide) (by decide) ?_
            show Steps p.tables e below (T87.setTop (mkF m 70 #[.val (.ref o0), .val (.int (Int32.ofNat fa)), .val (.int (Int32.ofNat fo)), .val (.int (Int32.ofNat i)), .val (.int (0 : Int32)), .val (.int (1 : Int32)), s6] [(.int (0 : Int32)), (.int (1 : Int32))])) _
            refine XS.isub X87.here hx rfl (hb hby d5_70) rfl ?_
            exact kt
          exact Got.retI (y := ((1 : Int32) - (0 : Int32))) X87 hx Bd.returns hlk (hb hby d5_71) rfl ⟨N0, e87⟩ (by decide) (by decide)
        · refine Got.step (T' := T87) (g' := (mkF m 73 #[.val (.ref o0), .val (.int (Int32.ofNat fa)), .val (.int (Int32.ofNat fo)), .val (.int (Int32.ofNat i)), .val (.int (0 : Int32)), .val (.int (0 : Int32)), s6] [(.ref o0)])) (fun tq kt => ?_) ?_
          · show Steps p.tables e below (T87.setTop (mkF m 30 #[.val (.ref o0), .val (.int (Int32.ofNat fa)), .val (.int (Int32.ofNat fo)), .val (.int (Int32.ofNat i)), .val (.int (0 : Int32)), s5, s6] [(.int (-1 : Int32)), (.int (bs.getD (fo + i) 0))])) _
            refine XS.icmpYes X87.here hx rfl (pc0 := 30) (pc' := 37) rfl (hb hby d5_30) rfl (XT.ii_ne_t hc89) (by decide) (by decide) ?_
            show Steps p.tables e below (T87.setTop (mkF m 37 #[.val (.ref o0), .val (.int (Int32.ofNat fa)), .val (.int (Int32.ofNat fo)), .val (.int (Int32.ofNat i)), .val (.int (0 : Int32)), s5, s6] [])) _
            refine XS.iconst X87.here hx rfl (hb hby d5_37) ?_
            show Steps p.tables e below (T87.setTop (mkF m 38 #[.val (.ref o0), .val (.int (Int32.ofNat fa)), .val (.int (Int32.ofNat fo)), .val (.int (Int32.ofNat i)), .val (.int (0 : Int32)), s5, s6] [(.int (0 : Int32))])) _
            refine XS.istore X87.here hx rfl (hb hby d5_38) rfl (l' := #[.val (.ref o0), .val (.int (Int32.ofNat fa)), .val (.int (Int32.ofNat fo)), .val (.int (Int32.ofNat i)), .val (.int (0 : Int32)), .val (.int (0 : Int32)), s6]) (os91 hs5) ?_
            show Steps p.tables e below (T87.setTop (mkF m 40 #[.val (.ref o0), .val (.int (Int32.ofNat fa)), .val (.int (Int32.ofNat fo)), .val (.int (Int32.ofNat i)), .val (.int (0 : Int32)), .val (.int (0 : Int32)), s6] [])) _
            refine XS.iload X87.here hx rfl (hb hby d5_40) rfl ?_
            show Steps p.tables e below (T87.setTop (mkF m 42 #[.val (.ref o0), .val (.int (Int32.ofNat fa)), .val (.int (Int32.ofNat fo)), .val (.int (Int32.ofNat i)), .val (.int (0 : Int32)), .val (.int (0 : Int32)), s6] [(.int (0 : Int32))])) _
            refine XS.ifNo X87.here hx rfl (hb hby d5_42) rfl (XT.i0_ne_f (by decide)) ?_
            show Steps p.tables e below (T87.setTop (mkF m 45 #[.val (.ref o0), .val (.int (Int32.ofNat fa)), .val (.int (Int32.ofNat fo)), .val (.int (Int32.ofNat i)), .val (.int (0 : Int32)), .val (.int (0 : Int32)), s6] [])) _
            refine XS.iload X87.here hx rfl (hb hby d5_45) rfl ?_
            show Steps p.tables e below (T87.setTop (mkF m 47 #[.val (.ref o0), .val (.int (Int32.ofNat fa)), .val (.int (Int32.ofNat fo)), .val (.int (Int32.ofNat i)), .val (.int (0 : Int32)), .val (.int (0 : Int32)), s6] [(.int (0 : Int32))])) _
            refine XS.ifYes X87.here hx rfl (pc0 := 47) (pc' := 72) rfl (hb hby d5_47) rfl (XT.i0_eq_t (by decide)) (by decide) (by decide) ?_
            show Steps p.tables e below (T87.setTop (mkF m 72 #[.val (.ref o0), .val (.int (Int32.ofNat fa)), .val (.int (Int32.ofNat fo)), .val (.int (Int32.ofNat i)), .val (.int (0 : Int32)), .val (.int (0 : Int32)), s6] [])) _
            refine XS.aloadN X87.here hx rfl (hb hby d5_72) rfl rfl ?_
            exact kt
          obtain ⟨T92, X92, e92, st92⟩ := getF X87 hx hZ hown (host := "") (Or.inl (hw _ (List.mem_of_getElem? (i := 17) rfl))) Via.refl e87 F0 (g := (mkF m 73 #[.val (.ref o0), .val (.int (Int32.ofNat fa)), .val (.int (Int32.ofNat fo)), .val (.int (Int32.ofNat i)), .val (.int (0 : Int32)), .val (.int (0 : Int32)), s6] [(.ref o0)])) rfl rfl (hb hby d5_73)
          refine Got.step st92 ?_
          show Got p e below s _ _ _ _ T92 (mkF m 76 #[.val (.ref o0), .val (.int (Int32.ofNat fa)), .val (.int (Int32.ofNat fo)), .val (.int (Int32.ofNat i)), .val (.int (0 : Int32)), .val (.int (0 : Int32)), s6] [(.ref o7)])
          refine Got.step (T' := T92) (g' := (mkF m 79 #[.val (.ref o0), .val (.int (Int32.ofNat fa)), .val (.int (Int32.ofNat fo)), .val (.int (Int32.ofNat i)), .val (.int (0 : Int32)), .val (.int (0 : Int32)), s6] [(.int ((Int32.ofNat fa) + (Int32.ofNat i))), (.ref o7)])) (fun tq kt => ?_) ?_
          · show Steps p.tables e below (T92.setTop (mkF m 76 #[.val (.ref o0), .val (.int (Int32.ofNat fa)), .val (.int (Int32.ofNat fo)), .val (.int (Int32.ofNat i)), .val (.int (0 : Int32)), .val (.int (0 : Int32)), s6] [(.ref o7)])) _
            refine XS.iloadN X92.here hx rfl (hb hby d5_76) rfl ?_
            show Steps p.tables e below (T92.setTop (mkF m 77 #[.val (.ref o0), .val (.int (Int32.ofNat fa)), .val (.int (Int32.ofNat fo)), .val (.int (Int32.ofNat i)), .val (.int (0 : Int32)), .val (.int (0 : Int32)), s6] [(.int (Int32.ofNat fa)), (.ref o7)])) _
            refine XS.iloadN X92.here hx rfl (hb hby d5_77) rfl ?_
            show Steps p.tables e below (T92.setTop (mkF m 78 #[.val (.ref o0), .val (.int (Int32.ofNat fa)), .val (.int (Int32.ofNat fo)), .val (.int (Int32.ofNat i)), .val (.int (0 : Int32)), .val (.int (0 : Int32)), s6] [(.int (Int32.ofNat i)), (.int (Int32.ofNat fa)), (.ref o7)])) _
            refine XS.iadd X92.here hx rfl (hb hby d5_78) rfl ?_
            exact kt
          obtain ⟨cl93, Ar93, q93, S93, M93, H93, G93⟩ := (id V7)
          have hin93 : ¬ (((Int32.ofNat fa) + (Int32.ofNat i)) < 0 ∨ cl93.slots.size ≤ (((Int32.ofNat fa) + (Int32.ofNat i))).toNatClampNeg) := inb_of S93 (own_in8 hfa (by omega))
          refine Got.step (T' := T92) (fun tq kt => X92.baloadBytes hx (j := ((Int32.ofNat fa) + (Int32.ofNat i))) (v := (.int (bs.getD (fa + i) 0))) (by rw [e92]; exact Ar93.1) (State.isArrayOf_alike hZ.alike Ar93.2.1) Ar93.2.2 hin93 (H93.at hin93 (own_rd _ (by omega))) (g := (mkF m 79 #[.val (.ref o0), .val (.int (Int32.ofNat fa)), .val (.int (Int32.ofNat fo)), .val (.int (Int32.ofNat i)), .val (.int (0 : Int32)), .val (.int (0 : Int32)), s6] [(.int ((Int32.ofNat fa) + (Int32.ofNat i))), (.ref o7)])) rfl rfl (hb hby d5_79) tq kt) ?_
          show Got p e below s _ _ _ _ T92 (mkF m 80 #[.val (.ref o0), .val (.int (Int32.ofNat fa)), .val (.int (Int32.ofNat fo)), .val (.int (Int32.ofNat i)), .val (.int (0 : Int32)), .val (.int (0 : Int32)), s6] [(.int (bs.getD (fa + i) 0))])
          refine Got.step (T' := T92) (g' := (mkF m 85 #[.val (.ref o0), .val (.int (Int32.ofNat fa)), .val (.int (Int32.ofNat fo)), .val (.int (Int32.ofNat i)), .val (.int (0 : Int32)), .val (.int (0 : Int32)), s6] [(.ref o0), (.int ((bs.getD (fa + i) 0) &&& (255 : Int32)))])) (fun tq kt => ?_) ?_
          · show Steps p.tables e below (T92.setTop (mkF m 80 #[.val (.ref o0), .val (.int (Int32.ofNat fa)), .val (.int (Int32.ofNat fo)), .val (.int (Int32.ofNat i)), .val (.int (0 : Int32)), .val (.int (0 : Int32)), s6] [(.int (bs.getD (fa + i) 0))])) _
            refine XS.sipush X92.here hx rfl (hb hby d5_80) ?_
            show Steps p.tables e below (T92.setTop (mkF m 83 #[.val (.ref o0), .val (.int (Int32.ofNat fa)), .val (.int (Int32.ofNat fo)), .val (.int (Int32.ofNat i)), .val (.int (0 : Int32)), .val (.int (0 : Int32)), s6] [(.int (255 : Int32)), (.int (bs.getD (fa + i) 0))])) _
            refine XS.iand X92.here hx rfl (hb hby d5_83) rfl ?_
            show Steps p.tables e below (T92.setTop (mkF m 84 #[.val (.ref o0), .val (.int (Int32.ofNat fa)), .val (.int (Int32.ofNat fo)), .val (.int (Int32.ofNat i)), .val (.int (0 : Int32)), .val (.int (0 : Int32)), s6] [(.int ((bs.getD (fa + i) 0) &&& (255 : Int32)))])) _
            refine XS.aloadN X92.here hx rfl (hb hby d5_84) rfl rfl ?_
            exact kt
          obtain ⟨T94, X94, e94, st94⟩ := getF X92 hx hZ hown (host := "") (Or.inl (hw _ (List.mem_of_getElem? (i := 17) rfl))) Via.refl e92 F0 (g := (mkF m 85 #[.val (.ref o0), .val (.int (Int32.ofNat fa)), .val (.int (Int32.ofNat fo)), .val (.int (Int32.ofNat i)), .val (.int (0 : Int32)), .val (.int (0 : Int32)), s6] [(.ref o0), (.int ((bs.getD (fa + i) 0) &&& (255 : Int32)))])) rfl rfl (hb hby d5_85)
          refine Got.step st94 ?_
          show Got p e below s _ _ _ _ T94 (mkF m 88 #[.val (.ref o0), .val (.int (Int32.ofNat fa)), .val (.int (Int32.ofNat fo)), .val (.int (Int32.ofNat i)), .val (.int (0 : Int32)), .val (.int (0 : Int32)), s6] [(.ref o7), (.int ((bs.getD (fa + i) 0) &&& (255 : Int32)))])
          refine Got.step (T' := T94) (g' := (mkF m 91 #[.val (.ref o0), .val (.int (Int32.ofNat fa)), .val (.int (Int32.ofNat fo)), .val (.int (Int32.ofNat i)), .val (.int (0 : Int32)), .val (.int (0 : Int32)), s6] [(.int ((Int32.ofNat fo) + (Int32.ofNat i))), (.ref o7), (.int ((bs.getD (fa + i) 0) &&& (255 : Int32)))])) (fun tq kt => ?_) ?_
          · show Steps p.tables e below (T94.setTop (mkF m 88 #[.val (.ref o0), .val (.int (Int32.ofNat fa)), .val (.int (Int32.ofNat fo)), .val (.int (Int32.ofNat i)), .val (.int (0 : Int32)), .val (.int (0 : Int32)), s6] [(.ref o7), (.int ((bs.getD (fa + i) 0) &&& (255 : Int32)))])) _
            refine XS.iloadN X94.here hx rfl (hb hby d5_88) rfl ?_
            show Steps p.tables e below (T94.setTop (mkF m 89 #[.val (.ref o0), .val (.int (Int32.ofNat fa)), .val (.int (Int32.ofNat fo)), .val (.int (Int32.ofNat i)), .val (.int (0 : Int32)), .val (.int (0 : Int32)), s6] [(.int (Int32.ofNat fo)), (.ref o7), (.int ((bs.getD (fa + i) 0) &&& (255 : Int32)))])) _
            refine XS.iloadN X94.here hx rfl (hb hby d5_89) rfl ?_
            show Steps p.tables e below (T94.setTop (mkF m 90 #[.val (.ref o0), .val (.int (Int32.ofNat fa)), .val (.int (Int32.ofNat fo)), .val (.int (Int32.ofNat i)), .val (.int (0 : Int32)), .val (.int (0 : Int32)), s6] [(.int (Int32.ofNat i)), (.int (Int32.ofNat fo)), (.ref o7), (.int ((bs.getD (fa + i) 0) &&& (255 : Int32)))])) _
            refine XS.iadd X94.here hx rfl (hb hby d5_90) rfl ?_
            exact kt
          obtain ⟨cl95, Ar95, q95, S95, M95, H95, G95⟩ := (id V7)
          have hin95 : ¬ (((Int32.ofNat fo) + (Int32.ofNat i)) < 0 ∨ cl95.slots.size ≤ (((Int32.ofNat fo) + (Int32.ofNat i))).toNatClampNeg) := inb_of S95 (own_in8 hfo (by omega))
          refine Got.step (T' := T94) (fun tq kt => X94.baloadBytes hx (j := ((Int32.ofNat fo) + (Int32.ofNat i))) (v := (.int (bs.getD (fo + i) 0))) (by rw [e94]; exact Ar95.1) (State.isArrayOf_alike hZ.alike Ar95.2.1) Ar95.2.2 hin95 (H95.at hin95 (own_rd _ (by omega))) (g := (mkF m 91 #[.val (.ref o0), .val (.int (Int32.ofNat fa)), .val (.int (Int32.ofNat fo)), .val (.int (Int32.ofNat i)), .val (.int (0 : Int32)), .val (.int (0 : Int32)), s6] [(.int ((Int32.ofNat fo) + (Int32.ofNat i))), (.ref o7), (.int ((bs.getD (fa + i) 0) &&& (255 : Int32)))])) rfl rfl (hb hby d5_91) tq kt) ?_
          show Got p e below s _ _ _ _ T94 (mkF m 92 #[.val (.ref o0), .val (.int (Int32.ofNat fa)), .val (.int (Int32.ofNat fo)), .val (.int (Int32.ofNat i)), .val (.int (0 : Int32)), .val (.int (0 : Int32)), s6] [(.int (bs.getD (fo + i) 0)), (.int ((bs.getD (fa + i) 0) &&& (255 : Int32)))])
          refine Got.step (T' := T94) (g' := (mkF m 101 #[.val (.ref o0), .val (.int (Int32.ofNat fa)), .val (.int (Int32.ofNat fo)), .val (.int (Int32.ofNat i)), .val (.int (0 : Int32)), .val (.int (0 : Int32)), .val (.int (((bs.getD (fa + i) 0) &&& (255 : Int32)) - ((bs.getD (fo + i) 0) &&& (255 : Int32))))] [(.int (((bs.getD (fa + i) 0) &&& (255 : Int32)) - ((bs.getD (fo + i) 0) &&& (255 : Int32))))])) (fun tq kt => ?_) ?_
          · show Steps p.tables e below (T94.setTop (mkF m 92 #[.val (.ref o0), .val (.int (Int32.ofNat fa)), .val (.int (Int32.ofNat fo)), .val (.int (Int32.ofNat i)), .val (.int (0 : Int32)), .val (.int (0 : Int32)), s6] [(.int (bs.getD (fo + i) 0)), (.int ((bs.getD (fa + i) 0) &&& (255 : Int32)))])) _
            refine XS.sipush X94.here hx rfl (hb hby d5_92) ?_
            show Steps p.tables e below (T94.setTop (mkF m 95 #[.val (.ref o0), .val (.int (Int32.ofNat fa)), .val (.int (Int32.ofNat fo)), .val (.int (Int32.ofNat i)), .val (.int (0 : Int32)), .val (.int (0 : Int32)), s6] [(.int (255 : Int32)), (.int (bs.getD (fo + i) 0)), (.int ((bs.getD (fa + i) 0) &&& (255 : Int32)))])) _
            refine XS.iand X94.here hx rfl (hb hby d5_95) rfl ?_
            show Steps p.tables e below (T94.setTop (mkF m 96 #[.val (.ref o0), .val (.int (Int32.ofNat fa)), .val (.int (Int32.ofNat fo)), .val (.int (Int32.ofNat i)), .val (.int (0 : Int32)), .val (.int (0 : Int32)), s6] [(.int ((bs.getD (fo + i) 0) &&& (255 : Int32))), (.int ((bs.getD (fa + i) 0) &&& (255 : Int32)))])) _
            refine XS.isub X94.here hx rfl (hb hby d5_96) rfl ?_
            show Steps p.tables e below (T94.setTop (mkF m 97 #[.val (.ref o0), .val (.int (Int32.ofNat fa)), .val (.int (Int32.ofNat fo)), .val (.int (Int32.ofNat i)), .val (.int (0 : Int32)), .val (.int (0 : Int32)), s6] [(.int (((bs.getD (fa + i) 0) &&& (255 : Int32)) - ((bs.getD (fo + i) 0) &&& (255 : Int32))))])) _
            refine XS.istore X94.here hx rfl (hb hby d5_97) rfl (l' := #[.val (.ref o0), .val (.int (Int32.ofNat fa)), .val (.int (Int32.ofNat fo)), .val (.int (Int32.ofNat i)), .val (.int (0 : Int32)), .val (.int (0 : Int32)), .val (.int (((bs.getD (fa + i) 0) &&& (255 : Int32)) - ((bs.getD (fo + i) 0) &&& (255 : Int32))))]) (os96 hs6) ?_
            show Steps p.tables e below (T94.setTop (mkF m 99 #[.val (.ref o0), .val (.int (Int32.ofNat fa)), .val (.int (Int32.ofNat fo)), .val (.int (Int32.ofNat i)), .val (.int (0 : Int32)), .val (.int (0 : Int32)), .val (.int (((bs.getD (fa + i) 0) &&& (255 : Int32)) - ((bs.getD (fo + i) 0) &&& (255 : Int32))))] [])) _
            refine XS.iload X94.here hx rfl (hb hby d5_99) rfl ?_
            exact kt
          refine Got.ite (q := ((((bs.getD (fa + i) 0) &&& (255 : Int32)) - ((bs.getD (fo + i) 0) &&& (255 : Int32))) = 0)) (fun hc97 => ?_) (fun hc97 => ?_)
          · refine Got.step (T' := T94) (g' := (mkF m 2 #[.val (.ref o0), .val (.int (Int32.ofNat fa)), .val (.int (Int32.ofNat fo)), .val (.int ((Int32.ofNat i) + (1 : Int32))), .val (.int (0 : Int32)), .val (.int (0 : Int32)), .val (.int (((bs.getD (fa + i) 0) &&& (255 : Int32)) - ((bs.getD (fo + i) 0) &&& (255 : Int32))))] [])) (fun tq kt => ?_) ?_
            · show Steps p.tables e below (T94.setTop (mkF m 101 #[.val (.ref o0), .val (.int (Int32.ofNat fa)), .val (.int (Int32.ofNat fo)), .val (.int (Int32.ofNat i)), .val (.int (0 : Int32)), .val (.int (0 : Int32)), .val (.int (((bs.getD (fa + i) 0) &&& (255 : Int32)) - ((bs.getD (fo + i) 0) &&& (255 : Int32))))] [(.int (((bs.getD (fa + i) 0) &&& (255 : Int32)) - ((bs.getD (fo + i) 0) &&& (255 : Int32))))])) _
              refine XS.ifYes X94.here hx rfl (pc0 := 101) (pc' := 107) rfl (hb hby d5_101) rfl (XT.i0_eq_t hc97) (by decide) (by decide) ?_
              show Steps p.tables e below (T94.setTop (mkF m 107 #[.val (.ref o0), .val (.int (Int32.ofNat fa)), .val (.int (Int32.ofNat fo)), .val (.int (Int32.ofNat i)), .val (.int (0 : Int32)), .val (.int (0 : Int32)), .val (.int (((bs.getD (fa + i) 0) &&& (255 : Int32)) - ((bs.getD (fo + i) 0) &&& (255 : Int32))))] [])) _
              refine XS.iinc X94.here hx rfl (hb hby d5_107) rfl (l' := #[.val (.ref o0), .val (.int (Int32.ofNat fa)), .val (.int (Int32.ofNat fo)), .val (.int ((Int32.ofNat i) + (1 : Int32))), .val (.int (0 : Int32)), .val (.int (0 : Int32)), .val (.int (((bs.getD (fa + i) 0) &&& (255 : Int32)) - ((bs.getD (fo + i) 0) &&& (255 : Int32))))]) rfl ?_
              show Steps p.tables e below (T94.setTop (mkF m 110 #[.val (.ref o0), .val (.int (Int32.ofNat fa)), .val (.int (Int32.ofNat fo)), .val (.int ((Int32.ofNat i) + (1 : Int32))), .val (.int (0 : Int32)), .val (.int (0 : Int32)), .val (.int (((bs.getD (fa + i) 0) &&& (255 : Int32)) - ((bs.getD (fo + i) 0) &&& (255 : Int32))))] [])) _
              refine XS.goto X94.here hx rfl (pc0 := 110) (pc' := 2) rfl (hb hby d5_110) (by decide) (by decide) ?_
              exact kt
            rw [own_one i]
            exact ih (i + 1) (by omega) _ X94 e94 _ (one_int _) _ (one_int _) _ (one_int _)
          · refine Got.step (T' := T94) (g' := (mkF m 106 #[.val (.ref o0), .val (.int (Int32.ofNat fa)), .val (.int (Int32.ofNat fo)), .val (.int (Int32.ofNat i)), .val (.int (0 : Int32)), .val (.int (0 : Int32)), .val (.int (((bs.getD (fa + i) 0) &&& (255 : Int32)) - ((bs.getD (fo + i) 0) &&& (255 : Int32))))] [(.int (((bs.getD (fa + i) 0) &&& (255 : Int32)) - ((bs.getD (fo + i) 0) &&& (255 : Int32))))])) (fun tq kt => ?_) ?_
            · show Steps p.tables e below (T94.setTop (mkF m 101 #[.val (.ref o0), .val (.int (Int32.ofNat fa)), .val (.int (Int32.ofNat fo)), .val (.int (Int32.ofNat i)), .val (.int (0 : Int32)), .val (.int (0 : Int32)), .val (.int (((bs.getD (fa + i) 0) &&& (255 : Int32)) - ((bs.getD (fo + i) 0) &&& (255 : Int32))))] [(.int (((bs.getD (fa + i) 0) &&& (255 : Int32)) - ((bs.getD (fo + i) 0) &&& (255 : Int32))))])) _
              refine XS.ifNo X94.here hx rfl (hb hby d5_101) rfl (XT.i0_eq_f hc97) ?_
              show Steps p.tables e below (T94.setTop (mkF m 104 #[.val (.ref o0), .val (.int (Int32.ofNat fa)), .val (.int (Int32.ofNat fo)), .val (.int (Int32.ofNat i)), .val (.int (0 : Int32)), .val (.int (0 : Int32)), .val (.int (((bs.getD (fa + i) 0) &&& (255 : Int32)) - ((bs.getD (fo + i) 0) &&& (255 : Int32))))] [])) _
              refine XS.iload X94.here hx rfl (hb hby d5_104) rfl ?_
              exact kt
            exact Got.retI (y := (((bs.getD (fa + i) 0) &&& (255 : Int32)) - ((bs.getD (fo + i) 0) &&& (255 : Int32)))) X94 hx Bd.returns hlk (hb hby d5_106) rfl ⟨N0, e94⟩ (by decide) (by decide)
  refine Got.step (T' := s₁) (g' := (mkF m 2 #[.val (.ref o0), .val (.int (Int32.ofNat fa)), .val (.int (Int32.ofNat fo)), .val (.int (0 : Int32)), .unset, .unset, .unset] [])) (fun tq kt => ?_) ?_
  · show Steps p.tables e below (s₁.setTop (mkF m 0 #[.val (.ref o0), .val (.int (Int32.ofNat fa)), .val (.int (Int32.ofNat fo)), .unset, .unset, .unset, .unset] [])) _
    refine XS.iconst X0.here hx rfl (hb hby d5_0) ?_
    show Steps p.tables e below (s₁.setTop (mkF m 1 #[.val (.ref o0), .val (.int (Int32.ofNat fa)), .val (.int (Int32.ofNat fo)), .unset, .unset, .unset, .unset] [(.int (0 : Int32))])) _
    refine XS.istoreN X0.here hx rfl (hb hby d5_1) rfl (l' := #[.val (.ref o0), .val (.int (Int32.ofNat fa)), .val (.int (Int32.ofNat fo)), .val (.int (0 : Int32)), .unset, .unset, .unset]) rfl ?_
    exact kt
  exact J la 0 (by omega) _ X0 e0 _ one_unset _ one_unset _ one_unset
theorem own_3 (x : Int32) : ∃ n : Nat, n ≤ 3 ∧ (x &&& (3 : Int32)) = Int32.ofNat n := by
  have h1 := c_mask x 3 2 (by decide) (by decide)
  refine ⟨(x &&& (3 : Int32)).toInt.toNat, by omega, ?_⟩
  rw [← Int32.toInt_inj, own_i (by omega)]; omega
theorem own_b {t : Int32} (h : 0 ≤ t.toInt ∧ t.toInt ≤ 254) : ¬ t.toInt8.toInt32 = (-1 : Int32) ∧ (t.toInt8.toInt32 &&& (255 : Int32)) = t := by
  have e1 : t.toInt8.toInt32.toInt = t.toInt.bmod (2 ^ 8) := by rw [Int8.toInt_toInt32, Int32.toInt_toInt8]
  have e2 : t.toInt.bmod (2 ^ 8) = if t.toInt % 256 < 128 then t.toInt % 256 else t.toInt % 256 - 256 := rfl
  rw [e2] at e1
  constructor
  · intro q
    rw [q] at e1
    have z : (-1 : Int32).toInt = -1 := rfl
    split at e1 <;> omega
  · have m := c_mask t.toInt8.toInt32 255 8 (by decide) (by decide)
    rw [← Int32.toInt_inj, m]
    split at e1 <;> omega
theorem own_st0 {f : Nat} (hf : f ≤ 4) : ¬ Int32.ofNat f < 0 ∧ Int32.ofNat f < 8 := own_lt8 (by omega)
theorem own_hj {f n : Nat} (hf : f ≤ 4) (hn : n ≤ 3) : (Int32.ofNat f + Int32.ofNat n).toNatClampNeg = f + n := by rw [← Int32.ofNat_add, own_n32 (by omega)]
theorem own_hj0 {f : Nat} (hf : f ≤ 4) : (Int32.ofNat f).toNatClampNeg = f := own_n32 (by omega)
theorem own_st1 {f : Nat} (hf : f ≤ 4) : ¬ (Int32.ofNat f + (1 : Int32)) < 0 ∧ (Int32.ofNat f + (1 : Int32)) < 8 := own_in8 (i := 1) hf (by omega)
theorem own_hj1 {f : Nat} (hf : f ≤ 4) : (Int32.ofNat f + (1 : Int32)).toNatClampNeg = f + 1 := own_hj (n := 1) hf (by omega)
theorem own_st2 {f : Nat} (hf : f ≤ 4) : ¬ (Int32.ofNat f + (2 : Int32)) < 0 ∧ (Int32.ofNat f + (2 : Int32)) < 8 := own_in8 (i := 2) hf (by omega)
theorem own_hj2 {f : Nat} (hf : f ≤ 4) : (Int32.ofNat f + (2 : Int32)).toNatClampNeg = f + 2 := own_hj (n := 2) hf (by omega)
theorem own_st3 {f : Nat} (hf : f ≤ 4) : ¬ (Int32.ofNat f + (3 : Int32)) < 0 ∧ (Int32.ofNat f + (3 : Int32)) < 8 := own_in8 (i := 3) hf (by omega)
theorem own_hj3 {f : Nat} (hf : f ≤ 4) : (Int32.ofNat f + (3 : Int32)).toNatClampNeg = f + 3 := own_hj (n := 3) hf (by omega)
theorem own_off {c x y : Int32} (hx : x = (if c = 0 then (0 : Int32) else (4 : Int32))) (hy : y = (if c = 0 then (4 : Int32) else (0 : Int32))) : ∃ fa fb : Nat, x = Int32.ofNat fa ∧ y = Int32.ofNat fb ∧ ((fa = 0 ∧ fb = 4) ∨ (fa = 4 ∧ fb = 0)) := by
  by_cases h : c = 0
  · rw [if_pos h] at hx hy
    exact ⟨0, 4, hx, hy, Or.inl ⟨rfl, rfl⟩⟩
  · rw [if_neg h] at hx hy
    exact ⟨4, 0, hx, hy, Or.inr ⟨rfl, rfl⟩⟩
theorem own_oth {c x : Int32} {fa fb : Nat} (hx : x = (if c = 0 then (Int32.ofNat fb) else (Int32.ofNat fa))) : ∃ fo : Nat, x = Int32.ofNat fo ∧ ((c = 0 ∧ fo = fb) ∨ (¬ c = 0 ∧ fo = fa)) := by
  by_cases h : c = 0
  · rw [if_pos h] at hx; exact ⟨fb, hx, Or.inl ⟨h, rfl⟩⟩
  · rw [if_neg h] at hx; exact ⟨fa, hx, Or.inr ⟨h, rfl⟩⟩
theorem own_r (x : Int32) : 0 ≤ ((x &&& (255 : Int32)) % (255 : Int32)).toInt ∧ ((x &&& (255 : Int32)) % (255 : Int32)).toInt ≤ 254 := by
  have h1 := c_mask x 255 8 (by decide) (by decide)
  have h2 := (c_irem (x &&& 255) 255 255 rfl).1 (by omega)
  omega
set_option maxHeartbeats 40000000 in
theorem own_ff {fa fb la lb : Nat} {B0 bs : List Int32} {a0 a1 a2 b0 b1 b2 : Int32} (hoff : (fa = 0 ∧ fb = 4) ∨ (fa = 4 ∧ fb = 0)) (hla : la ≤ 3) (hlb : lb ≤ 3) (hl : B0.length = 8) (hbs : bs = ((((((((((B0.set fa (a0.toInt8.toInt32)).set (fa + 1) (a1.toInt8.toInt32)).set (fa + 2) (a2.toInt8.toInt32)).set (fa + 3) (0 : Int32)).set (fa + la) (-1 : Int32)).set fb (b0.toInt8.toInt32)).set (fb + 1) (b1.toInt8.toInt32)).set (fb + 2) (b2.toInt8.toInt32)).set (fb + 3) (0 : Int32)).set (fb + lb) (-1 : Int32))) : ((0 < la → bs.getD (fa + 0) 0 = a0.toInt8.toInt32) ∧ (1 < la → bs.getD (fa + 1) 0 = a1.toInt8.toInt32) ∧ (2 < la → bs.getD (fa + 2) 0 = a2.toInt8.toInt32) ∧ bs.getD (fa + la) 0 = -1) ∧ ((0 < lb → bs.getD (fb + 0) 0 = b0.toInt8.toInt32) ∧ (1 < lb → bs.getD (fb + 1) 0 = b1.toInt8.toInt32) ∧ (2 < lb → bs.getD (fb + 2) 0 = b2.toInt8.toInt32) ∧ bs.getD (fb + lb) 0 = -1) := by
  subst hbs
  match B0, hl with
  | [z0, z1, z2, z3, z4, z5, z6, z7], _ =>
    rcases hoff with ⟨rfl, rfl⟩ | ⟨rfl, rfl⟩
    · match la, hla, lb, hlb with
      | 0, _, 0, _ => exact ⟨⟨fun h => absurd h (by decide), fun h => absurd h (by decide), fun h => absurd h (by decide), rfl⟩, ⟨fun h => absurd h (by decide), fun h => absurd h (by decide), fun h => absurd h (by decide), rfl⟩⟩
      | 0, _, 1, _ => exact ⟨⟨fun h => absurd h (by decide), fun h => absurd h (by decide), fun h => absurd h (by decide), rfl⟩, ⟨fun _ => rfl, fun h => absurd h (by decide), fun h => absurd h (by decide), rfl⟩⟩
      | 0, _, 2, _ => exact ⟨⟨fun h => absurd h (by decide), fun h => absurd h (by decide), fun h => absurd h (by decide), rfl⟩, ⟨fun _ => rfl, fun _ => rfl, fun h => absurd h (by decide), rfl⟩⟩
      | 0, _, 3, _ => exact ⟨⟨fun h => absurd h (by decide), fun h => absurd h (by decide), fun h => absurd h (by decide), rfl⟩, ⟨fun _ => rfl, fun _ => rfl, fun _ => rfl, rfl⟩⟩
      | 1, _, 0, _ => exact ⟨⟨fun _ => rfl, fun h => absurd h (by decide), fun h => absurd h (by decide), rfl⟩, ⟨fun h => absurd h (by decide), fun h => absurd h (by decide), fun h => absurd h (by decide), rfl⟩⟩
      | 1, _, 1, _ => exact ⟨⟨fun _ => rfl, fun h => absurd h (by decide), fun h => absurd h (by decide), rfl⟩, ⟨fun _ => rfl, fun h => absurd h (by decide), fun h => absurd h (by decide), rfl⟩⟩
      | 1, _, 2, _ => exact ⟨⟨fun _ => rfl, fun h => absurd h (by decide), fun h => absurd h (by decide), rfl⟩, ⟨fun _ => rfl, fun _ => rfl, fun h => absurd h (by decide), rfl⟩⟩
      | 1, _, 3, _ => exact ⟨⟨fun _ => rfl, fun h => absurd h (by decide), fun h => absurd h (by decide), rfl⟩, ⟨fun _ => rfl, fun _ => rfl, fun _ => rfl, rfl⟩⟩
      | 2, _, 0, _ => exact ⟨⟨fun _ => rfl, fun _ => rfl, fun h => absurd h (by decide), rfl⟩, ⟨fun h => absurd h (by decide), fun h => absurd h (by decide), fun h => absurd h (by decide), rfl⟩⟩
      | 2, _, 1, _ => exact ⟨⟨fun _ => rfl, fun _ => rfl, fun h => absurd h (by decide), rfl⟩, ⟨fun _ => rfl, fun h => absurd h (by decide), fun h => absurd h (by decide), rfl⟩⟩
      | 2, _, 2, _ => exact ⟨⟨fun _ => rfl, fun _ => rfl, fun h => absurd h (by decide), rfl⟩, ⟨fun _ => rfl, fun _ => rfl, fun h => absurd h (by decide), rfl⟩⟩
      | 2, _, 3, _ => exact ⟨⟨fun _ => rfl, fun _ => rfl, fun h => absurd h (by decide), rfl⟩, ⟨fun _ => rfl, fun _ => rfl, fun _ => rfl, rfl⟩⟩
      | 3, _, 0, _ => exact ⟨⟨fun _ => rfl, fun _ => rfl, fun _ => rfl, rfl⟩, ⟨fun h => absurd h (by decide), fun h => absurd h (by decide), fun h => absurd h (by decide), rfl⟩⟩
      | 3, _, 1, _ => exact ⟨⟨fun _ => rfl, fun _ => rfl, fun _ => rfl, rfl⟩, ⟨fun _ => rfl, fun h => absurd h (by decide), fun h => absurd h (by decide), rfl⟩⟩
      | 3, _, 2, _ => exact ⟨⟨fun _ => rfl, fun _ => rfl, fun _ => rfl, rfl⟩, ⟨fun _ => rfl, fun _ => rfl, fun h => absurd h (by decide), rfl⟩⟩
      | 3, _, 3, _ => exact ⟨⟨fun _ => rfl, fun _ => rfl, fun _ => rfl, rfl⟩, ⟨fun _ => rfl, fun _ => rfl, fun _ => rfl, rfl⟩⟩
    · match la, hla, lb, hlb with
      | 0, _, 0, _ => exact ⟨⟨fun h => absurd h (by decide), fun h => absurd h (by decide), fun h => absurd h (by decide), rfl⟩, ⟨fun h => absurd h (by decide), fun h => absurd h (by decide), fun h => absurd h (by decide), rfl⟩⟩
      | 0, _, 1, _ => exact ⟨⟨fun h => absurd h (by decide), fun h => absurd h (by decide), fun h => absurd h (by decide), rfl⟩, ⟨fun _ => rfl, fun h => absurd h (by decide), fun h => absurd h (by decide), rfl⟩⟩
      | 0, _, 2, _ => exact ⟨⟨fun h => absurd h (by decide), fun h => absurd h (by decide), fun h => absurd h (by decide), rfl⟩, ⟨fun _ => rfl, fun _ => rfl, fun h => absurd h (by decide), rfl⟩⟩
      | 0, _, 3, _ => exact ⟨⟨fun h => absurd h (by decide), fun h => absurd h (by decide), fun h => absurd h (by decide), rfl⟩, ⟨fun _ => rfl, fun _ => rfl, fun _ => rfl, rfl⟩⟩
      | 1, _, 0, _ => exact ⟨⟨fun _ => rfl, fun h => absurd h (by decide), fun h => absurd h (by decide), rfl⟩, ⟨fun h => absurd h (by decide), fun h => absurd h (by decide), fun h => absurd h (by decide), rfl⟩⟩
      | 1, _, 1, _ => exact ⟨⟨fun _ => rfl, fun h => absurd h (by decide), fun h => absurd h (by decide), rfl⟩, ⟨fun _ => rfl, fun h => absurd h (by decide), fun h => absurd h (by decide), rfl⟩⟩
      | 1, _, 2, _ => exact ⟨⟨fun _ => rfl, fun h => absurd h (by decide), fun h => absurd h (by decide), rfl⟩, ⟨fun _ => rfl, fun _ => rfl, fun h => absurd h (by decide), rfl⟩⟩
      | 1, _, 3, _ => exact ⟨⟨fun _ => rfl, fun h => absurd h (by decide), fun h => absurd h (by decide), rfl⟩, ⟨fun _ => rfl, fun _ => rfl, fun _ => rfl, rfl⟩⟩
      | 2, _, 0, _ => exact ⟨⟨fun _ => rfl, fun _ => rfl, fun h => absurd h (by decide), rfl⟩, ⟨fun h => absurd h (by decide), fun h => absurd h (by decide), fun h => absurd h (by decide), rfl⟩⟩
      | 2, _, 1, _ => exact ⟨⟨fun _ => rfl, fun _ => rfl, fun h => absurd h (by decide), rfl⟩, ⟨fun _ => rfl, fun h => absurd h (by decide), fun h => absurd h (by decide), rfl⟩⟩
      | 2, _, 2, _ => exact ⟨⟨fun _ => rfl, fun _ => rfl, fun h => absurd h (by decide), rfl⟩, ⟨fun _ => rfl, fun _ => rfl, fun h => absurd h (by decide), rfl⟩⟩
      | 2, _, 3, _ => exact ⟨⟨fun _ => rfl, fun _ => rfl, fun h => absurd h (by decide), rfl⟩, ⟨fun _ => rfl, fun _ => rfl, fun _ => rfl, rfl⟩⟩
      | 3, _, 0, _ => exact ⟨⟨fun _ => rfl, fun _ => rfl, fun _ => rfl, rfl⟩, ⟨fun h => absurd h (by decide), fun h => absurd h (by decide), fun h => absurd h (by decide), rfl⟩⟩
      | 3, _, 1, _ => exact ⟨⟨fun _ => rfl, fun _ => rfl, fun _ => rfl, rfl⟩, ⟨fun _ => rfl, fun h => absurd h (by decide), fun h => absurd h (by decide), rfl⟩⟩
      | 3, _, 2, _ => exact ⟨⟨fun _ => rfl, fun _ => rfl, fun _ => rfl, rfl⟩, ⟨fun _ => rfl, fun _ => rfl, fun h => absurd h (by decide), rfl⟩⟩
      | 3, _, 3, _ => exact ⟨⟨fun _ => rfl, fun _ => rfl, fun _ => rfl, rfl⟩, ⟨fun _ => rfl, fun _ => rfl, fun _ => rfl, rfl⟩⟩
theorem own_hla {fa fb la lb : Nat} {B0 bs : List Int32} {a0 a1 a2 b0 b1 b2 : Int32} (hoff : (fa = 0 ∧ fb = 4) ∨ (fa = 4 ∧ fb = 0)) (hla : la ≤ 3) (hlb : lb ≤ 3) (hl : B0.length = 8) (hbs : bs = ((((((((((B0.set fa (a0.toInt8.toInt32)).set (fa + 1) (a1.toInt8.toInt32)).set (fa + 2) (a2.toInt8.toInt32)).set (fa + 3) (0 : Int32)).set (fa + la) (-1 : Int32)).set fb (b0.toInt8.toInt32)).set (fb + 1) (b1.toInt8.toInt32)).set (fb + 2) (b2.toInt8.toInt32)).set (fb + 3) (0 : Int32)).set (fb + lb) (-1 : Int32))) : bs.getD (fa + la) 0 = -1 := (own_ff hoff hla hlb hl hbs).1.2.2.2
section Cx
variable {bs : List Int32} {fa fo i k : Nat} {a b : Int32}
theorem cx_00 (h : bs.getD (fo + i) 0 = -1) : cx bs fa fo 0 i = 0 := by
  show (if (bs.getD (fo + i) 0) = (-1 : Int32) then ((0 : Int32) - (0 : Int32)) else ((0 : Int32) - (1 : Int32))) = 0
  rw [if_pos h]; decide
theorem cx_01 (h : bs.getD (fo + i) 0 = b.toInt8.toInt32) (hb : 0 ≤ b.toInt ∧ b.toInt ≤ 254) : cx bs fa fo 0 i = -1 := by
  show (if (bs.getD (fo + i) 0) = (-1 : Int32) then ((0 : Int32) - (0 : Int32)) else ((0 : Int32) - (1 : Int32))) = -1
  rw [h, if_neg (own_b hb).1]; decide
theorem cx_s1 (h : bs.getD (fa + i) 0 = a.toInt8.toInt32) (ha : 0 ≤ a.toInt ∧ a.toInt ≤ 254) (g : bs.getD (fo + i) 0 = -1) : cx bs fa fo (k + 1) i = 1 := by
  show (if (bs.getD (fa + i) 0) = (-1 : Int32) then _ else (if (bs.getD (fo + i) 0) = (-1 : Int32) then ((1 : Int32) - (0 : Int32)) else _)) = 1
  rw [h, if_neg (own_b ha).1, if_pos g]; decide
theorem cx_go (h : bs.getD (fa + i) 0 = a.toInt8.toInt32) (ha : 0 ≤ a.toInt ∧ a.toInt ≤ 254) (g : bs.getD (fo + i) 0 = b.toInt8.toInt32) (hb : 0 ≤ b.toInt ∧ b.toInt ≤ 254) : cx bs fa fo (k + 1) i = (if a - b = 0 then cx bs fa fo k (i + 1) else a - b) := by
  show (if (bs.getD (fa + i) 0) = (-1 : Int32) then _ else (if (bs.getD (fo + i) 0) = (-1 : Int32) then ((1 : Int32) - (0 : Int32)) else (if (((bs.getD (fa + i) 0) &&& (255 : Int32)) - ((bs.getD (fo + i) 0) &&& (255 : Int32))) = 0 then cx bs fa fo k (i + 1) else (((bs.getD (fa + i) 0) &&& (255 : Int32)) - ((bs.getD (fo + i) 0) &&& (255 : Int32)))))) = _
  rw [h, g, if_neg (own_b ha).1, if_neg (own_b hb).1, (own_b ha).2, (own_b hb).2]
end Cx
theorem own_sub {a b : Int32} (ha : 0 ≤ a.toInt ∧ a.toInt ≤ 254) (hb : 0 ≤ b.toInt ∧ b.toInt ≤ 254) : (a - b = 0 ↔ a = b) ∧ (¬ a = b → f6 (a - b) = (if a < b then (-1 : Int32) else (1 : Int32))) := by
  have z : (0 : Int32).toInt = 0 := rfl
  have s : (a - b).toInt = a.toInt - b.toInt := XT.sub32 (by unfold XT.fits32; omega)
  refine ⟨by rw [← Int32.toInt_inj, ← Int32.toInt_inj, s, z]; omega, fun h => ?_⟩
  rw [← Int32.toInt_inj] at h
  unfold f6
  by_cases q : a < b
  · rw [if_pos q, if_pos (by rw [Int32.lt_iff_toInt_lt] at q ⊢; rw [s, z]; omega)]
  · rw [if_neg q]
    rw [Int32.lt_iff_toInt_lt] at q
    have n1 : ¬ (a - b) < 0 := by rw [Int32.lt_iff_toInt_lt, s, z]; omega
    have n2 : 0 < (a - b) := by rw [Int32.lt_iff_toInt_lt, s, z]; omega
    rw [if_neg n1, if_pos n2]
theorem own_q0_0 {bs : List Int32} {fa fo : Nat} {a0 a1 a2 b0 b1 b2 : Int32} (r0 : 0 ≤ a0.toInt ∧ a0.toInt ≤ 254) (r1 : 0 ≤ a1.toInt ∧ a1.toInt ≤ 254) (r2 : 0 ≤ a2.toInt ∧ a2.toInt ≤ 254) (q0 : 0 ≤ b0.toInt ∧ b0.toInt ≤ 254) (q1 : 0 ≤ b1.toInt ∧ b1.toInt ≤ 254) (q2 : 0 ≤ b2.toInt ∧ b2.toInt ≤ 254) (A : ((0 < 0 → bs.getD (fa + 0) 0 = a0.toInt8.toInt32) ∧ (1 < 0 → bs.getD (fa + 1) 0 = a1.toInt8.toInt32) ∧ (2 < 0 → bs.getD (fa + 2) 0 = a2.toInt8.toInt32) ∧ bs.getD (fa + 0) 0 = -1)) (B : ((0 < 0 → bs.getD (fo + 0) 0 = b0.toInt8.toInt32) ∧ (1 < 0 → bs.getD (fo + 1) 0 = b1.toInt8.toInt32) ∧ (2 < 0 → bs.getD (fo + 2) 0 = b2.toInt8.toInt32) ∧ bs.getD (fo + 0) 0 = -1)) : f6 (cx bs fa fo 0 0) = f3 a0 a1 a2 (Int32.ofNat 0) b0 b1 b2 (Int32.ofNat 0) := by
  have e4 : f4 (Int32.ofNat 0) (Int32.ofNat 0) = (0 : Int32) := by decide
  unfold f3 f3_31 f3_55 f3_79
  rw [e4]
  rw [cx_00 B.2.2.2]
  rw [if_neg (by decide : ¬ 0 < (0 : Int32)), if_neg (by decide : ¬ (1 : Int32) < (0 : Int32)), if_neg (by decide : ¬ (2 : Int32) < (0 : Int32))]
  decide
theorem own_q0_1 {bs : List Int32} {fa fo : Nat} {a0 a1 a2 b0 b1 b2 : Int32} (r0 : 0 ≤ a0.toInt ∧ a0.toInt ≤ 254) (r1 : 0 ≤ a1.toInt ∧ a1.toInt ≤ 254) (r2 : 0 ≤ a2.toInt ∧ a2.toInt ≤ 254) (q0 : 0 ≤ b0.toInt ∧ b0.toInt ≤ 254) (q1 : 0 ≤ b1.toInt ∧ b1.toInt ≤ 254) (q2 : 0 ≤ b2.toInt ∧ b2.toInt ≤ 254) (A : ((0 < 0 → bs.getD (fa + 0) 0 = a0.toInt8.toInt32) ∧ (1 < 0 → bs.getD (fa + 1) 0 = a1.toInt8.toInt32) ∧ (2 < 0 → bs.getD (fa + 2) 0 = a2.toInt8.toInt32) ∧ bs.getD (fa + 0) 0 = -1)) (B : ((0 < 1 → bs.getD (fo + 0) 0 = b0.toInt8.toInt32) ∧ (1 < 1 → bs.getD (fo + 1) 0 = b1.toInt8.toInt32) ∧ (2 < 1 → bs.getD (fo + 2) 0 = b2.toInt8.toInt32) ∧ bs.getD (fo + 1) 0 = -1)) : f6 (cx bs fa fo 0 0) = f3 a0 a1 a2 (Int32.ofNat 0) b0 b1 b2 (Int32.ofNat 1) := by
  have e4 : f4 (Int32.ofNat 0) (Int32.ofNat 1) = (0 : Int32) := by decide
  unfold f3 f3_31 f3_55 f3_79
  rw [e4]
  rw [cx_01 (B.1 (by decide)) q0]
  rw [if_neg (by decide : ¬ 0 < (0 : Int32)), if_neg (by decide : ¬ (1 : Int32) < (0 : Int32)), if_neg (by decide : ¬ (2 : Int32) < (0 : Int32))]
  decide
theorem own_q0_2 {bs : List Int32} {fa fo : Nat} {a0 a1 a2 b0 b1 b2 : Int32} (r0 : 0 ≤ a0.toInt ∧ a0.toInt ≤ 254) (r1 : 0 ≤ a1.toInt ∧ a1.toInt ≤ 254) (r2 : 0 ≤ a2.toInt ∧ a2.toInt ≤ 254) (q0 : 0 ≤ b0.toInt ∧ b0.toInt ≤ 254) (q1 : 0 ≤ b1.toInt ∧ b1.toInt ≤ 254) (q2 : 0 ≤ b2.toInt ∧ b2.toInt ≤ 254) (A : ((0 < 0 → bs.getD (fa + 0) 0 = a0.toInt8.toInt32) ∧ (1 < 0 → bs.getD (fa + 1) 0 = a1.toInt8.toInt32) ∧ (2 < 0 → bs.getD (fa + 2) 0 = a2.toInt8.toInt32) ∧ bs.getD (fa + 0) 0 = -1)) (B : ((0 < 2 → bs.getD (fo + 0) 0 = b0.toInt8.toInt32) ∧ (1 < 2 → bs.getD (fo + 1) 0 = b1.toInt8.toInt32) ∧ (2 < 2 → bs.getD (fo + 2) 0 = b2.toInt8.toInt32) ∧ bs.getD (fo + 2) 0 = -1)) : f6 (cx bs fa fo 0 0) = f3 a0 a1 a2 (Int32.ofNat 0) b0 b1 b2 (Int32.ofNat 2) := by
  have e4 : f4 (Int32.ofNat 0) (Int32.ofNat 2) = (0 : Int32) := by decide
  unfold f3 f3_31 f3_55 f3_79
  rw [e4]
  rw [cx_01 (B.1 (by decide)) q0]
  rw [if_neg (by decide : ¬ 0 < (0 : Int32)), if_neg (by decide : ¬ (1 : Int32) < (0 : Int32)), if_neg (by decide : ¬ (2 : Int32) < (0 : Int32))]
  decide
theorem own_q0_3 {bs : List Int32} {fa fo : Nat} {a0 a1 a2 b0 b1 b2 : Int32} (r0 : 0 ≤ a0.toInt ∧ a0.toInt ≤ 254) (r1 : 0 ≤ a1.toInt ∧ a1.toInt ≤ 254) (r2 : 0 ≤ a2.toInt ∧ a2.toInt ≤ 254) (q0 : 0 ≤ b0.toInt ∧ b0.toInt ≤ 254) (q1 : 0 ≤ b1.toInt ∧ b1.toInt ≤ 254) (q2 : 0 ≤ b2.toInt ∧ b2.toInt ≤ 254) (A : ((0 < 0 → bs.getD (fa + 0) 0 = a0.toInt8.toInt32) ∧ (1 < 0 → bs.getD (fa + 1) 0 = a1.toInt8.toInt32) ∧ (2 < 0 → bs.getD (fa + 2) 0 = a2.toInt8.toInt32) ∧ bs.getD (fa + 0) 0 = -1)) (B : ((0 < 3 → bs.getD (fo + 0) 0 = b0.toInt8.toInt32) ∧ (1 < 3 → bs.getD (fo + 1) 0 = b1.toInt8.toInt32) ∧ (2 < 3 → bs.getD (fo + 2) 0 = b2.toInt8.toInt32) ∧ bs.getD (fo + 3) 0 = -1)) : f6 (cx bs fa fo 0 0) = f3 a0 a1 a2 (Int32.ofNat 0) b0 b1 b2 (Int32.ofNat 3) := by
  have e4 : f4 (Int32.ofNat 0) (Int32.ofNat 3) = (0 : Int32) := by decide
  unfold f3 f3_31 f3_55 f3_79
  rw [e4]
  rw [cx_01 (B.1 (by decide)) q0]
  rw [if_neg (by decide : ¬ 0 < (0 : Int32)), if_neg (by decide : ¬ (1 : Int32) < (0 : Int32)), if_neg (by decide : ¬ (2 : Int32) < (0 : Int32))]
  decide
theorem own_q1_0 {bs : List Int32} {fa fo : Nat} {a0 a1 a2 b0 b1 b2 : Int32} (r0 : 0 ≤ a0.toInt ∧ a0.toInt ≤ 254) (r1 : 0 ≤ a1.toInt ∧ a1.toInt ≤ 254) (r2 : 0 ≤ a2.toInt ∧ a2.toInt ≤ 254) (q0 : 0 ≤ b0.toInt ∧ b0.toInt ≤ 254) (q1 : 0 ≤ b1.toInt ∧ b1.toInt ≤ 254) (q2 : 0 ≤ b2.toInt ∧ b2.toInt ≤ 254) (A : ((0 < 1 → bs.getD (fa + 0) 0 = a0.toInt8.toInt32) ∧ (1 < 1 → bs.getD (fa + 1) 0 = a1.toInt8.toInt32) ∧ (2 < 1 → bs.getD (fa + 2) 0 = a2.toInt8.toInt32) ∧ bs.getD (fa + 1) 0 = -1)) (B : ((0 < 0 → bs.getD (fo + 0) 0 = b0.toInt8.toInt32) ∧ (1 < 0 → bs.getD (fo + 1) 0 = b1.toInt8.toInt32) ∧ (2 < 0 → bs.getD (fo + 2) 0 = b2.toInt8.toInt32) ∧ bs.getD (fo + 0) 0 = -1)) : f6 (cx bs fa fo 1 0) = f3 a0 a1 a2 (Int32.ofNat 1) b0 b1 b2 (Int32.ofNat 0) := by
  have e4 : f4 (Int32.ofNat 1) (Int32.ofNat 0) = (0 : Int32) := by decide
  unfold f3 f3_31 f3_55 f3_79
  rw [e4]
  rw [cx_s1 (A.1 (by decide)) r0 B.2.2.2]
  rw [if_neg (by decide : ¬ 0 < (0 : Int32)), if_neg (by decide : ¬ (1 : Int32) < (0 : Int32)), if_neg (by decide : ¬ (2 : Int32) < (0 : Int32))]
  decide
theorem own_q1_1 {bs : List Int32} {fa fo : Nat} {a0 a1 a2 b0 b1 b2 : Int32} (r0 : 0 ≤ a0.toInt ∧ a0.toInt ≤ 254) (r1 : 0 ≤ a1.toInt ∧ a1.toInt ≤ 254) (r2 : 0 ≤ a2.toInt ∧ a2.toInt ≤ 254) (q0 : 0 ≤ b0.toInt ∧ b0.toInt ≤ 254) (q1 : 0 ≤ b1.toInt ∧ b1.toInt ≤ 254) (q2 : 0 ≤ b2.toInt ∧ b2.toInt ≤ 254) (A : ((0 < 1 → bs.getD (fa + 0) 0 = a0.toInt8.toInt32) ∧ (1 < 1 → bs.getD (fa + 1) 0 = a1.toInt8.toInt32) ∧ (2 < 1 → bs.getD (fa + 2) 0 = a2.toInt8.toInt32) ∧ bs.getD (fa + 1) 0 = -1)) (B : ((0 < 1 → bs.getD (fo + 0) 0 = b0.toInt8.toInt32) ∧ (1 < 1 → bs.getD (fo + 1) 0 = b1.toInt8.toInt32) ∧ (2 < 1 → bs.getD (fo + 2) 0 = b2.toInt8.toInt32) ∧ bs.getD (fo + 1) 0 = -1)) : f6 (cx bs fa fo 1 0) = f3 a0 a1 a2 (Int32.ofNat 1) b0 b1 b2 (Int32.ofNat 1) := by
  have e4 : f4 (Int32.ofNat 1) (Int32.ofNat 1) = (1 : Int32) := by decide
  unfold f3 f3_31 f3_55 f3_79
  rw [e4]
  rw [cx_go (A.1 (by decide)) r0 (B.1 (by decide)) q0, cx_00 B.2.2.2]
  rw [if_pos (by decide : 0 < (1 : Int32))]
  by_cases e0 : a0 = b0
  case neg => rw [if_neg e0, if_neg (fun h => e0 ((own_sub r0 q0).1.mp h))]; exact (own_sub r0 q0).2 e0
  rw [if_pos e0, if_pos ((own_sub r0 q0).1.mpr e0)]
  rw [if_neg (by decide : ¬ (1 : Int32) < (1 : Int32)), if_neg (by decide : ¬ (2 : Int32) < (1 : Int32))]
  decide
theorem own_q1_2 {bs : List Int32} {fa fo : Nat} {a0 a1 a2 b0 b1 b2 : Int32} (r0 : 0 ≤ a0.toInt ∧ a0.toInt ≤ 254) (r1 : 0 ≤ a1.toInt ∧ a1.toInt ≤ 254) (r2 : 0 ≤ a2.toInt ∧ a2.toInt ≤ 254) (q0 : 0 ≤ b0.toInt ∧ b0.toInt ≤ 254) (q1 : 0 ≤ b1.toInt ∧ b1.toInt ≤ 254) (q2 : 0 ≤ b2.toInt ∧ b2.toInt ≤ 254) (A : ((0 < 1 → bs.getD (fa + 0) 0 = a0.toInt8.toInt32) ∧ (1 < 1 → bs.getD (fa + 1) 0 = a1.toInt8.toInt32) ∧ (2 < 1 → bs.getD (fa + 2) 0 = a2.toInt8.toInt32) ∧ bs.getD (fa + 1) 0 = -1)) (B : ((0 < 2 → bs.getD (fo + 0) 0 = b0.toInt8.toInt32) ∧ (1 < 2 → bs.getD (fo + 1) 0 = b1.toInt8.toInt32) ∧ (2 < 2 → bs.getD (fo + 2) 0 = b2.toInt8.toInt32) ∧ bs.getD (fo + 2) 0 = -1)) : f6 (cx bs fa fo 1 0) = f3 a0 a1 a2 (Int32.ofNat 1) b0 b1 b2 (Int32.ofNat 2) := by
  have e4 : f4 (Int32.ofNat 1) (Int32.ofNat 2) = (1 : Int32) := by decide
  unfold f3 f3_31 f3_55 f3_79
  rw [e4]
  rw [cx_go (A.1 (by decide)) r0 (B.1 (by decide)) q0, cx_01 (B.2.1 (by decide)) q1]
  rw [if_pos (by decide : 0 < (1 : Int32))]
  by_cases e0 : a0 = b0
  case neg => rw [if_neg e0, if_neg (fun h => e0 ((own_sub r0 q0).1.mp h))]; exact (own_sub r0 q0).2 e0
  rw [if_pos e0, if_pos ((own_sub r0 q0).1.mpr e0)]
  rw [if_neg (by decide : ¬ (1 : Int32) < (1 : Int32)), if_neg (by decide : ¬ (2 : Int32) < (1 : Int32))]
  decide
theorem own_q1_3 {bs : List Int32} {fa fo : Nat} {a0 a1 a2 b0 b1 b2 : Int32} (r0 : 0 ≤ a0.toInt ∧ a0.toInt ≤ 254) (r1 : 0 ≤ a1.toInt ∧ a1.toInt ≤ 254) (r2 : 0 ≤ a2.toInt ∧ a2.toInt ≤ 254) (q0 : 0 ≤ b0.toInt ∧ b0.toInt ≤ 254) (q1 : 0 ≤ b1.toInt ∧ b1.toInt ≤ 254) (q2 : 0 ≤ b2.toInt ∧ b2.toInt ≤ 254) (A : ((0 < 1 → bs.getD (fa + 0) 0 = a0.toInt8.toInt32) ∧ (1 < 1 → bs.getD (fa + 1) 0 = a1.toInt8.toInt32) ∧ (2 < 1 → bs.getD (fa + 2) 0 = a2.toInt8.toInt32) ∧ bs.getD (fa + 1) 0 = -1)) (B : ((0 < 3 → bs.getD (fo + 0) 0 = b0.toInt8.toInt32) ∧ (1 < 3 → bs.getD (fo + 1) 0 = b1.toInt8.toInt32) ∧ (2 < 3 → bs.getD (fo + 2) 0 = b2.toInt8.toInt32) ∧ bs.getD (fo + 3) 0 = -1)) : f6 (cx bs fa fo 1 0) = f3 a0 a1 a2 (Int32.ofNat 1) b0 b1 b2 (Int32.ofNat 3) := by
  have e4 : f4 (Int32.ofNat 1) (Int32.ofNat 3) = (1 : Int32) := by decide
  unfold f3 f3_31 f3_55 f3_79
  rw [e4]
  rw [cx_go (A.1 (by decide)) r0 (B.1 (by decide)) q0, cx_01 (B.2.1 (by decide)) q1]
  rw [if_pos (by decide : 0 < (1 : Int32))]
  by_cases e0 : a0 = b0
  case neg => rw [if_neg e0, if_neg (fun h => e0 ((own_sub r0 q0).1.mp h))]; exact (own_sub r0 q0).2 e0
  rw [if_pos e0, if_pos ((own_sub r0 q0).1.mpr e0)]
  rw [if_neg (by decide : ¬ (1 : Int32) < (1 : Int32)), if_neg (by decide : ¬ (2 : Int32) < (1 : Int32))]
  decide
theorem own_q2_0 {bs : List Int32} {fa fo : Nat} {a0 a1 a2 b0 b1 b2 : Int32} (r0 : 0 ≤ a0.toInt ∧ a0.toInt ≤ 254) (r1 : 0 ≤ a1.toInt ∧ a1.toInt ≤ 254) (r2 : 0 ≤ a2.toInt ∧ a2.toInt ≤ 254) (q0 : 0 ≤ b0.toInt ∧ b0.toInt ≤ 254) (q1 : 0 ≤ b1.toInt ∧ b1.toInt ≤ 254) (q2 : 0 ≤ b2.toInt ∧ b2.toInt ≤ 254) (A : ((0 < 2 → bs.getD (fa + 0) 0 = a0.toInt8.toInt32) ∧ (1 < 2 → bs.getD (fa + 1) 0 = a1.toInt8.toInt32) ∧ (2 < 2 → bs.getD (fa + 2) 0 = a2.toInt8.toInt32) ∧ bs.getD (fa + 2) 0 = -1)) (B : ((0 < 0 → bs.getD (fo + 0) 0 = b0.toInt8.toInt32) ∧ (1 < 0 → bs.getD (fo + 1) 0 = b1.toInt8.toInt32) ∧ (2 < 0 → bs.getD (fo + 2) 0 = b2.toInt8.toInt32) ∧ bs.getD (fo + 0) 0 = -1)) : f6 (cx bs fa fo 2 0) = f3 a0 a1 a2 (Int32.ofNat 2) b0 b1 b2 (Int32.ofNat 0) := by
  have e4 : f4 (Int32.ofNat 2) (Int32.ofNat 0) = (0 : Int32) := by decide
  unfold f3 f3_31 f3_55 f3_79
  rw [e4]
  rw [cx_s1 (A.1 (by decide)) r0 B.2.2.2]
  rw [if_neg (by decide : ¬ 0 < (0 : Int32)), if_neg (by decide : ¬ (1 : Int32) < (0 : Int32)), if_neg (by decide : ¬ (2 : Int32) < (0 : Int32))]
  decide
theorem own_q2_1 {bs : List Int32} {fa fo : Nat} {a0 a1 a2 b0 b1 b2 : Int32} (r0 : 0 ≤ a0.toInt ∧ a0.toInt ≤ 254) (r1 : 0 ≤ a1.toInt ∧ a1.toInt ≤ 254) (r2 : 0 ≤ a2.toInt ∧ a2.toInt ≤ 254) (q0 : 0 ≤ b0.toInt ∧ b0.toInt ≤ 254) (q1 : 0 ≤ b1.toInt ∧ b1.toInt ≤ 254) (q2 : 0 ≤ b2.toInt ∧ b2.toInt ≤ 254) (A : ((0 < 2 → bs.getD (fa + 0) 0 = a0.toInt8.toInt32) ∧ (1 < 2 → bs.getD (fa + 1) 0 = a1.toInt8.toInt32) ∧ (2 < 2 → bs.getD (fa + 2) 0 = a2.toInt8.toInt32) ∧ bs.getD (fa + 2) 0 = -1)) (B : ((0 < 1 → bs.getD (fo + 0) 0 = b0.toInt8.toInt32) ∧ (1 < 1 → bs.getD (fo + 1) 0 = b1.toInt8.toInt32) ∧ (2 < 1 → bs.getD (fo + 2) 0 = b2.toInt8.toInt32) ∧ bs.getD (fo + 1) 0 = -1)) : f6 (cx bs fa fo 2 0) = f3 a0 a1 a2 (Int32.ofNat 2) b0 b1 b2 (Int32.ofNat 1) := by
  have e4 : f4 (Int32.ofNat 2) (Int32.ofNat 1) = (1 : Int32) := by decide
  unfold f3 f3_31 f3_55 f3_79
  rw [e4]
  rw [cx_go (A.1 (by decide)) r0 (B.1 (by decide)) q0, cx_s1 (A.2.1 (by decide)) r1 B.2.2.2]
  rw [if_pos (by decide : 0 < (1 : Int32))]
  by_cases e0 : a0 = b0
  case neg => rw [if_neg e0, if_neg (fun h => e0 ((own_sub r0 q0).1.mp h))]; exact (own_sub r0 q0).2 e0
  rw [if_pos e0, if_pos ((own_sub r0 q0).1.mpr e0)]
  rw [if_neg (by decide : ¬ (1 : Int32) < (1 : Int32)), if_neg (by decide : ¬ (2 : Int32) < (1 : Int32))]
  decide
theorem own_q2_2 {bs : List Int32} {fa fo : Nat} {a0 a1 a2 b0 b1 b2 : Int32} (r0 : 0 ≤ a0.toInt ∧ a0.toInt ≤ 254) (r1 : 0 ≤ a1.toInt ∧ a1.toInt ≤ 254) (r2 : 0 ≤ a2.toInt ∧ a2.toInt ≤ 254) (q0 : 0 ≤ b0.toInt ∧ b0.toInt ≤ 254) (q1 : 0 ≤ b1.toInt ∧ b1.toInt ≤ 254) (q2 : 0 ≤ b2.toInt ∧ b2.toInt ≤ 254) (A : ((0 < 2 → bs.getD (fa + 0) 0 = a0.toInt8.toInt32) ∧ (1 < 2 → bs.getD (fa + 1) 0 = a1.toInt8.toInt32) ∧ (2 < 2 → bs.getD (fa + 2) 0 = a2.toInt8.toInt32) ∧ bs.getD (fa + 2) 0 = -1)) (B : ((0 < 2 → bs.getD (fo + 0) 0 = b0.toInt8.toInt32) ∧ (1 < 2 → bs.getD (fo + 1) 0 = b1.toInt8.toInt32) ∧ (2 < 2 → bs.getD (fo + 2) 0 = b2.toInt8.toInt32) ∧ bs.getD (fo + 2) 0 = -1)) : f6 (cx bs fa fo 2 0) = f3 a0 a1 a2 (Int32.ofNat 2) b0 b1 b2 (Int32.ofNat 2) := by
  have e4 : f4 (Int32.ofNat 2) (Int32.ofNat 2) = (2 : Int32) := by decide
  unfold f3 f3_31 f3_55 f3_79
  rw [e4]
  rw [cx_go (A.1 (by decide)) r0 (B.1 (by decide)) q0, cx_go (A.2.1 (by decide)) r1 (B.2.1 (by decide)) q1, cx_00 B.2.2.2]
  rw [if_pos (by decide : 0 < (2 : Int32))]
  by_cases e0 : a0 = b0
  case neg => rw [if_neg e0, if_neg (fun h => e0 ((own_sub r0 q0).1.mp h))]; exact (own_sub r0 q0).2 e0
  rw [if_pos e0, if_pos ((own_sub r0 q0).1.mpr e0)]
  rw [if_pos (by decide : (1 : Int32) < (2 : Int32))]
  by_cases e1 : a1 = b1
  case neg => rw [if_neg e1, if_neg (fun h => e1 ((own_sub r1 q1).1.mp h))]; exact (own_sub r1 q1).2 e1
  rw [if_pos e1, if_pos ((own_sub r1 q1).1.mpr e1)]
  rw [if_neg (by decide : ¬ (2 : Int32) < (2 : Int32))]
  decide
theorem own_q2_3 {bs : List Int32} {fa fo : Nat} {a0 a1 a2 b0 b1 b2 : Int32} (r0 : 0 ≤ a0.toInt ∧ a0.toInt ≤ 254) (r1 : 0 ≤ a1.toInt ∧ a1.toInt ≤ 254) (r2 : 0 ≤ a2.toInt ∧ a2.toInt ≤ 254) (q0 : 0 ≤ b0.toInt ∧ b0.toInt ≤ 254) (q1 : 0 ≤ b1.toInt ∧ b1.toInt ≤ 254) (q2 : 0 ≤ b2.toInt ∧ b2.toInt ≤ 254) (A : ((0 < 2 → bs.getD (fa + 0) 0 = a0.toInt8.toInt32) ∧ (1 < 2 → bs.getD (fa + 1) 0 = a1.toInt8.toInt32) ∧ (2 < 2 → bs.getD (fa + 2) 0 = a2.toInt8.toInt32) ∧ bs.getD (fa + 2) 0 = -1)) (B : ((0 < 3 → bs.getD (fo + 0) 0 = b0.toInt8.toInt32) ∧ (1 < 3 → bs.getD (fo + 1) 0 = b1.toInt8.toInt32) ∧ (2 < 3 → bs.getD (fo + 2) 0 = b2.toInt8.toInt32) ∧ bs.getD (fo + 3) 0 = -1)) : f6 (cx bs fa fo 2 0) = f3 a0 a1 a2 (Int32.ofNat 2) b0 b1 b2 (Int32.ofNat 3) := by
  have e4 : f4 (Int32.ofNat 2) (Int32.ofNat 3) = (2 : Int32) := by decide
  unfold f3 f3_31 f3_55 f3_79
  rw [e4]
  rw [cx_go (A.1 (by decide)) r0 (B.1 (by decide)) q0, cx_go (A.2.1 (by decide)) r1 (B.2.1 (by decide)) q1, cx_01 (B.2.2.1 (by decide)) q2]
  rw [if_pos (by decide : 0 < (2 : Int32))]
  by_cases e0 : a0 = b0
  case neg => rw [if_neg e0, if_neg (fun h => e0 ((own_sub r0 q0).1.mp h))]; exact (own_sub r0 q0).2 e0
  rw [if_pos e0, if_pos ((own_sub r0 q0).1.mpr e0)]
  rw [if_pos (by decide : (1 : Int32) < (2 : Int32))]
  by_cases e1 : a1 = b1
  case neg => rw [if_neg e1, if_neg (fun h => e1 ((own_sub r1 q1).1.mp h))]; exact (own_sub r1 q1).2 e1
  rw [if_pos e1, if_pos ((own_sub r1 q1).1.mpr e1)]
  rw [if_neg (by decide : ¬ (2 : Int32) < (2 : Int32))]
  decide
theorem own_q3_0 {bs : List Int32} {fa fo : Nat} {a0 a1 a2 b0 b1 b2 : Int32} (r0 : 0 ≤ a0.toInt ∧ a0.toInt ≤ 254) (r1 : 0 ≤ a1.toInt ∧ a1.toInt ≤ 254) (r2 : 0 ≤ a2.toInt ∧ a2.toInt ≤ 254) (q0 : 0 ≤ b0.toInt ∧ b0.toInt ≤ 254) (q1 : 0 ≤ b1.toInt ∧ b1.toInt ≤ 254) (q2 : 0 ≤ b2.toInt ∧ b2.toInt ≤ 254) (A : ((0 < 3 → bs.getD (fa + 0) 0 = a0.toInt8.toInt32) ∧ (1 < 3 → bs.getD (fa + 1) 0 = a1.toInt8.toInt32) ∧ (2 < 3 → bs.getD (fa + 2) 0 = a2.toInt8.toInt32) ∧ bs.getD (fa + 3) 0 = -1)) (B : ((0 < 0 → bs.getD (fo + 0) 0 = b0.toInt8.toInt32) ∧ (1 < 0 → bs.getD (fo + 1) 0 = b1.toInt8.toInt32) ∧ (2 < 0 → bs.getD (fo + 2) 0 = b2.toInt8.toInt32) ∧ bs.getD (fo + 0) 0 = -1)) : f6 (cx bs fa fo 3 0) = f3 a0 a1 a2 (Int32.ofNat 3) b0 b1 b2 (Int32.ofNat 0) := by
  have e4 : f4 (Int32.ofNat 3) (Int32.ofNat 0) = (0 : Int32) := by decide
  unfold f3 f3_31 f3_55 f3_79
  rw [e4]
  rw [cx_s1 (A.1 (by decide)) r0 B.2.2.2]
  rw [if_neg (by decide : ¬ 0 < (0 : Int32)), if_neg (by decide : ¬ (1 : Int32) < (0 : Int32)), if_neg (by decide : ¬ (2 : Int32) < (0 : Int32))]
  decide
theorem own_q3_1 {bs : List Int32} {fa fo : Nat} {a0 a1 a2 b0 b1 b2 : Int32} (r0 : 0 ≤ a0.toInt ∧ a0.toInt ≤ 254) (r1 : 0 ≤ a1.toInt ∧ a1.toInt ≤ 254) (r2 : 0 ≤ a2.toInt ∧ a2.toInt ≤ 254) (q0 : 0 ≤ b0.toInt ∧ b0.toInt ≤ 254) (q1 : 0 ≤ b1.toInt ∧ b1.toInt ≤ 254) (q2 : 0 ≤ b2.toInt ∧ b2.toInt ≤ 254) (A : ((0 < 3 → bs.getD (fa + 0) 0 = a0.toInt8.toInt32) ∧ (1 < 3 → bs.getD (fa + 1) 0 = a1.toInt8.toInt32) ∧ (2 < 3 → bs.getD (fa + 2) 0 = a2.toInt8.toInt32) ∧ bs.getD (fa + 3) 0 = -1)) (B : ((0 < 1 → bs.getD (fo + 0) 0 = b0.toInt8.toInt32) ∧ (1 < 1 → bs.getD (fo + 1) 0 = b1.toInt8.toInt32) ∧ (2 < 1 → bs.getD (fo + 2) 0 = b2.toInt8.toInt32) ∧ bs.getD (fo + 1) 0 = -1)) : f6 (cx bs fa fo 3 0) = f3 a0 a1 a2 (Int32.ofNat 3) b0 b1 b2 (Int32.ofNat 1) := by
  have e4 : f4 (Int32.ofNat 3) (Int32.ofNat 1) = (1 : Int32) := by decide
  unfold f3 f3_31 f3_55 f3_79
  rw [e4]
  rw [cx_go (A.1 (by decide)) r0 (B.1 (by decide)) q0, cx_s1 (A.2.1 (by decide)) r1 B.2.2.2]
  rw [if_pos (by decide : 0 < (1 : Int32))]
  by_cases e0 : a0 = b0
  case neg => rw [if_neg e0, if_neg (fun h => e0 ((own_sub r0 q0).1.mp h))]; exact (own_sub r0 q0).2 e0
  rw [if_pos e0, if_pos ((own_sub r0 q0).1.mpr e0)]
  rw [if_neg (by decide : ¬ (1 : Int32) < (1 : Int32)), if_neg (by decide : ¬ (2 : Int32) < (1 : Int32))]
  decide
theorem own_q3_2 {bs : List Int32} {fa fo : Nat} {a0 a1 a2 b0 b1 b2 : Int32} (r0 : 0 ≤ a0.toInt ∧ a0.toInt ≤ 254) (r1 : 0 ≤ a1.toInt ∧ a1.toInt ≤ 254) (r2 : 0 ≤ a2.toInt ∧ a2.toInt ≤ 254) (q0 : 0 ≤ b0.toInt ∧ b0.toInt ≤ 254) (q1 : 0 ≤ b1.toInt ∧ b1.toInt ≤ 254) (q2 : 0 ≤ b2.toInt ∧ b2.toInt ≤ 254) (A : ((0 < 3 → bs.getD (fa + 0) 0 = a0.toInt8.toInt32) ∧ (1 < 3 → bs.getD (fa + 1) 0 = a1.toInt8.toInt32) ∧ (2 < 3 → bs.getD (fa + 2) 0 = a2.toInt8.toInt32) ∧ bs.getD (fa + 3) 0 = -1)) (B : ((0 < 2 → bs.getD (fo + 0) 0 = b0.toInt8.toInt32) ∧ (1 < 2 → bs.getD (fo + 1) 0 = b1.toInt8.toInt32) ∧ (2 < 2 → bs.getD (fo + 2) 0 = b2.toInt8.toInt32) ∧ bs.getD (fo + 2) 0 = -1)) : f6 (cx bs fa fo 3 0) = f3 a0 a1 a2 (Int32.ofNat 3) b0 b1 b2 (Int32.ofNat 2) := by
  have e4 : f4 (Int32.ofNat 3) (Int32.ofNat 2) = (2 : Int32) := by decide
  unfold f3 f3_31 f3_55 f3_79
  rw [e4]
  rw [cx_go (A.1 (by decide)) r0 (B.1 (by decide)) q0, cx_go (A.2.1 (by decide)) r1 (B.2.1 (by decide)) q1, cx_s1 (A.2.2.1 (by decide)) r2 B.2.2.2]
  rw [if_pos (by decide : 0 < (2 : Int32))]
  by_cases e0 : a0 = b0
  case neg => rw [if_neg e0, if_neg (fun h => e0 ((own_sub r0 q0).1.mp h))]; exact (own_sub r0 q0).2 e0
  rw [if_pos e0, if_pos ((own_sub r0 q0).1.mpr e0)]
  rw [if_pos (by decide : (1 : Int32) < (2 : Int32))]
  by_cases e1 : a1 = b1
  case neg => rw [if_neg e1, if_neg (fun h => e1 ((own_sub r1 q1).1.mp h))]; exact (own_sub r1 q1).2 e1
  rw [if_pos e1, if_pos ((own_sub r1 q1).1.mpr e1)]
  rw [if_neg (by decide : ¬ (2 : Int32) < (2 : Int32))]
  decide
theorem own_q3_3 {bs : List Int32} {fa fo : Nat} {a0 a1 a2 b0 b1 b2 : Int32} (r0 : 0 ≤ a0.toInt ∧ a0.toInt ≤ 254) (r1 : 0 ≤ a1.toInt ∧ a1.toInt ≤ 254) (r2 : 0 ≤ a2.toInt ∧ a2.toInt ≤ 254) (q0 : 0 ≤ b0.toInt ∧ b0.toInt ≤ 254) (q1 : 0 ≤ b1.toInt ∧ b1.toInt ≤ 254) (q2 : 0 ≤ b2.toInt ∧ b2.toInt ≤ 254) (A : ((0 < 3 → bs.getD (fa + 0) 0 = a0.toInt8.toInt32) ∧ (1 < 3 → bs.getD (fa + 1) 0 = a1.toInt8.toInt32) ∧ (2 < 3 → bs.getD (fa + 2) 0 = a2.toInt8.toInt32) ∧ bs.getD (fa + 3) 0 = -1)) (B : ((0 < 3 → bs.getD (fo + 0) 0 = b0.toInt8.toInt32) ∧ (1 < 3 → bs.getD (fo + 1) 0 = b1.toInt8.toInt32) ∧ (2 < 3 → bs.getD (fo + 2) 0 = b2.toInt8.toInt32) ∧ bs.getD (fo + 3) 0 = -1)) : f6 (cx bs fa fo 3 0) = f3 a0 a1 a2 (Int32.ofNat 3) b0 b1 b2 (Int32.ofNat 3) := by
  have e4 : f4 (Int32.ofNat 3) (Int32.ofNat 3) = (3 : Int32) := by decide
  unfold f3 f3_31 f3_55 f3_79
  rw [e4]
  rw [cx_go (A.1 (by decide)) r0 (B.1 (by decide)) q0, cx_go (A.2.1 (by decide)) r1 (B.2.1 (by decide)) q1, cx_go (A.2.2.1 (by decide)) r2 (B.2.2.1 (by decide)) q2, cx_00 B.2.2.2]
  rw [if_pos (by decide : 0 < (3 : Int32))]
  by_cases e0 : a0 = b0
  case neg => rw [if_neg e0, if_neg (fun h => e0 ((own_sub r0 q0).1.mp h))]; exact (own_sub r0 q0).2 e0
  rw [if_pos e0, if_pos ((own_sub r0 q0).1.mpr e0)]
  rw [if_pos (by decide : (1 : Int32) < (3 : Int32))]
  by_cases e1 : a1 = b1
  case neg => rw [if_neg e1, if_neg (fun h => e1 ((own_sub r1 q1).1.mp h))]; exact (own_sub r1 q1).2 e1
  rw [if_pos e1, if_pos ((own_sub r1 q1).1.mpr e1)]
  rw [if_pos (by decide : (2 : Int32) < (3 : Int32))]
  by_cases e2 : a2 = b2
  case neg => rw [if_neg e2, if_neg (fun h => e2 ((own_sub r2 q2).1.mp h))]; exact (own_sub r2 q2).2 e2
  rw [if_pos e2, if_pos ((own_sub r2 q2).1.mpr e2)]
  decide
theorem own_s0 {bs : List Int32} {fa : Nat} {a0 a1 a2 : Int32} (r0 : 0 ≤ a0.toInt ∧ a0.toInt ≤ 254) (r1 : 0 ≤ a1.toInt ∧ a1.toInt ≤ 254) (r2 : 0 ≤ a2.toInt ∧ a2.toInt ≤ 254) (A : ((0 < 0 → bs.getD (fa + 0) 0 = a0.toInt8.toInt32) ∧ (1 < 0 → bs.getD (fa + 1) 0 = a1.toInt8.toInt32) ∧ (2 < 0 → bs.getD (fa + 2) 0 = a2.toInt8.toInt32) ∧ bs.getD (fa + 0) 0 = -1)) : f6 (cx bs fa fa 0 0) = 0 := by
  rw [cx_00 A.2.2.2]
  decide
theorem own_s1 {bs : List Int32} {fa : Nat} {a0 a1 a2 : Int32} (r0 : 0 ≤ a0.toInt ∧ a0.toInt ≤ 254) (r1 : 0 ≤ a1.toInt ∧ a1.toInt ≤ 254) (r2 : 0 ≤ a2.toInt ∧ a2.toInt ≤ 254) (A : ((0 < 1 → bs.getD (fa + 0) 0 = a0.toInt8.toInt32) ∧ (1 < 1 → bs.getD (fa + 1) 0 = a1.toInt8.toInt32) ∧ (2 < 1 → bs.getD (fa + 2) 0 = a2.toInt8.toInt32) ∧ bs.getD (fa + 1) 0 = -1)) : f6 (cx bs fa fa 1 0) = 0 := by
  rw [cx_go (A.1 (by decide)) r0 (A.1 (by decide)) r0, if_pos ((own_sub r0 r0).1.mpr rfl), cx_00 A.2.2.2]
  decide
theorem own_s2 {bs : List Int32} {fa : Nat} {a0 a1 a2 : Int32} (r0 : 0 ≤ a0.toInt ∧ a0.toInt ≤ 254) (r1 : 0 ≤ a1.toInt ∧ a1.toInt ≤ 254) (r2 : 0 ≤ a2.toInt ∧ a2.toInt ≤ 254) (A : ((0 < 2 → bs.getD (fa + 0) 0 = a0.toInt8.toInt32) ∧ (1 < 2 → bs.getD (fa + 1) 0 = a1.toInt8.toInt32) ∧ (2 < 2 → bs.getD (fa + 2) 0 = a2.toInt8.toInt32) ∧ bs.getD (fa + 2) 0 = -1)) : f6 (cx bs fa fa 2 0) = 0 := by
  rw [cx_go (A.1 (by decide)) r0 (A.1 (by decide)) r0, if_pos ((own_sub r0 r0).1.mpr rfl), cx_go (A.2.1 (by decide)) r1 (A.2.1 (by decide)) r1, if_pos ((own_sub r1 r1).1.mpr rfl), cx_00 A.2.2.2]
  decide
theorem own_s3 {bs : List Int32} {fa : Nat} {a0 a1 a2 : Int32} (r0 : 0 ≤ a0.toInt ∧ a0.toInt ≤ 254) (r1 : 0 ≤ a1.toInt ∧ a1.toInt ≤ 254) (r2 : 0 ≤ a2.toInt ∧ a2.toInt ≤ 254) (A : ((0 < 3 → bs.getD (fa + 0) 0 = a0.toInt8.toInt32) ∧ (1 < 3 → bs.getD (fa + 1) 0 = a1.toInt8.toInt32) ∧ (2 < 3 → bs.getD (fa + 2) 0 = a2.toInt8.toInt32) ∧ bs.getD (fa + 3) 0 = -1)) : f6 (cx bs fa fa 3 0) = 0 := by
  rw [cx_go (A.1 (by decide)) r0 (A.1 (by decide)) r0, if_pos ((own_sub r0 r0).1.mpr rfl), cx_go (A.2.1 (by decide)) r1 (A.2.1 (by decide)) r1, if_pos ((own_sub r1 r1).1.mpr rfl), cx_go (A.2.2.1 (by decide)) r2 (A.2.2.1 (by decide)) r2, if_pos ((own_sub r2 r2).1.mpr rfl), cx_00 A.2.2.2]
  decide
theorem own_fin {fa fb fo la lb : Nat} {p0 p1 p2 c s x y o v : Int32} {B0 bs : List Int32} {a0 a1 a2 b0 b1 b2 : Int32} (hoff : (fa = 0 ∧ fb = 4) ∨ (fa = 4 ∧ fb = 0)) (hla : la ≤ 3) (hlb : lb ≤ 3) (hl : B0.length = 8) (hbs : bs = ((((((((((B0.set fa (a0.toInt8.toInt32)).set (fa + 1) (a1.toInt8.toInt32)).set (fa + 2) (a2.toInt8.toInt32)).set (fa + 3) (0 : Int32)).set (fa + la) (-1 : Int32)).set fb (b0.toInt8.toInt32)).set (fb + 1) (b1.toInt8.toInt32)).set (fb + 2) (b2.toInt8.toInt32)).set (fb + 3) (0 : Int32)).set (fb + lb) (-1 : Int32))) (hoth : (s = 0 ∧ fo = fb) ∨ (¬ s = 0 ∧ fo = fa)) (ha0 : a0 = ((p0 &&& (255 : Int32)) % (255 : Int32))) (ha1 : a1 = ((((p0.toUInt32 >>> ((8 : Int32) &&& 31).toUInt32).toInt32) &&& (255 : Int32)) % (255 : Int32))) (ha2 : a2 = ((((p0.toUInt32 >>> ((16 : Int32) &&& 31).toUInt32).toInt32) &&& (255 : Int32)) % (255 : Int32))) (hb0 : b0 = (if (p2 &&& (1 : Int32)) = 0 then ((p1 &&& (255 : Int32)) % (255 : Int32)) else a0)) (hb1 : b1 = (if (p2 &&& (2 : Int32)) = 0 then ((((p1.toUInt32 >>> ((8 : Int32) &&& 31).toUInt32).toInt32) &&& (255 : Int32)) % (255 : Int32)) else a1)) (hb2 : b2 = (if (p2 &&& (4 : Int32)) = 0 then ((((p1.toUInt32 >>> ((16 : Int32) &&& 31).toUInt32).toInt32) &&& (255 : Int32)) % (255 : Int32)) else a2)) (hc : c = (if (p2 &&& (8 : Int32)) = 0 then (0 : Int32) else (1 : Int32))) (hs : s = (if (p2 &&& (16 : Int32)) = 0 then (0 : Int32) else (1 : Int32))) (hx : x = (if c = 0 then (0 : Int32) else (4 : Int32))) (hy : y = (if c = 0 then (4 : Int32) else (0 : Int32))) (ho : o = (if s = 0 then (Int32.ofNat fb) else (Int32.ofNat fa))) (hv : v = (if s = 0 then (f3 a0 a1 a2 (Int32.ofNat la) b0 b1 b2 (Int32.ofNat lb)) else (0 : Int32))) : f6 (cx bs fa fo la 0) = v := by
  have r0 : 0 ≤ a0.toInt ∧ a0.toInt ≤ 254 := by rw [ha0]; exact own_r _
  have r1 : 0 ≤ a1.toInt ∧ a1.toInt ≤ 254 := by rw [ha1]; exact own_r _
  have r2 : 0 ≤ a2.toInt ∧ a2.toInt ≤ 254 := by rw [ha2]; exact own_r _
  have q0 : 0 ≤ b0.toInt ∧ b0.toInt ≤ 254 := by
    rw [hb0]; split
    · exact own_r _
    · exact r0
  have q1 : 0 ≤ b1.toInt ∧ b1.toInt ≤ 254 := by
    rw [hb1]; split
    · exact own_r _
    · exact r1
  have q2 : 0 ≤ b2.toInt ∧ b2.toInt ≤ 254 := by
    rw [hb2]; split
    · exact own_r _
    · exact r2
  obtain ⟨A, B⟩ := own_ff hoff hla hlb hl hbs
  clear hbs ha0 ha1 ha2 hb0 hb1 hb2 hc hs hx hy ho hl
  rcases hoth with ⟨h, rfl⟩ | ⟨h, rfl⟩
  · rw [hv, if_pos h]
    match la, hla, lb, hlb with
    | 0, _, 0, _ => exact own_q0_0 r0 r1 r2 q0 q1 q2 A B
    | 0, _, 1, _ => exact own_q0_1 r0 r1 r2 q0 q1 q2 A B
    | 0, _, 2, _ => exact own_q0_2 r0 r1 r2 q0 q1 q2 A B
    | 0, _, 3, _ => exact own_q0_3 r0 r1 r2 q0 q1 q2 A B
    | 1, _, 0, _ => exact own_q1_0 r0 r1 r2 q0 q1 q2 A B
    | 1, _, 1, _ => exact own_q1_1 r0 r1 r2 q0 q1 q2 A B
    | 1, _, 2, _ => exact own_q1_2 r0 r1 r2 q0 q1 q2 A B
    | 1, _, 3, _ => exact own_q1_3 r0 r1 r2 q0 q1 q2 A B
    | 2, _, 0, _ => exact own_q2_0 r0 r1 r2 q0 q1 q2 A B
    | 2, _, 1, _ => exact own_q2_1 r0 r1 r2 q0 q1 q2 A B
    | 2, _, 2, _ => exact own_q2_2 r0 r1 r2 q0 q1 q2 A B
    | 2, _, 3, _ => exact own_q2_3 r0 r1 r2 q0 q1 q2 A B
    | 3, _, 0, _ => exact own_q3_0 r0 r1 r2 q0 q1 q2 A B
    | 3, _, 1, _ => exact own_q3_1 r0 r1 r2 q0 q1 q2 A B
    | 3, _, 2, _ => exact own_q3_2 r0 r1 r2 q0 q1 q2 A B
    | 3, _, 3, _ => exact own_q3_3 r0 r1 r2 q0 q1 q2 A B
  · rw [hv, if_neg h]
    match la, hla with
    | 0, _ => exact own_s0 r0 r1 r2 A
    | 1, _ => exact own_s1 r0 r1 r2 A
    | 2, _ => exact own_s2 r0 r1 r2 A
    | 3, _ => exact own_s3 r0 r1 r2 A

theorem pd_1 : parseMethodDescriptor "([BLjava/lang/String;)V" = some ⟨[(.array .byte), (.object "java/lang/String")], none⟩ := by decide +kernel
theorem pd_2 : parseMethodDescriptor "(IIIIIIII)I" = some ⟨[.int, .int, .int, .int, .int, .int, .int, .int], some .int⟩ := by decide +kernel
theorem pd_3 : parseMethodDescriptor "(I)I" = some ⟨[.int], some .int⟩ := by decide +kernel
theorem ef_0 (m : MethodId) (x0 : Int32) (x1 : Int32) (x2 : Int32) : entryFrame m #[(.int x0), (.int x1), (.int x2)] maxLocals = mkF m 0 #[.val (.int x0), .val (.int x1), .val (.int x2), .unset, .unset, .unset, .unset, .unset, .unset, .unset, .unset, .unset, .unset, .unset, .unset, .unset, .unset, .unset, .unset, .unset] [] := by first | (simp [entryFrame, mkF, argsToLocals, Value.category, maxLocals]; done) | rfl
set_option maxRecDepth 65536 in
set_option maxHeartbeats 40000000 in
theorem rm0 (l : Launch) (Z : State) (a0 : Array Value) (hw : ∀ d ∈ tables_1, d.before a0 Z = true) (ws : List Jvm.Cond) (p0 p1 p2 : Int32) (h0 : Heap) (n0 : Nat) (Z0 : n0 ≤ h0.size)  :
    MetFree l x (head1 (Jvm.Cond.code x code maxLocals ret :: ws) room_1) (fun a U => a = #[(.int p0), (.int p1), (.int p2)] ∧ Z.Warmed39 U.vm ∧ U.heap = h0) (fun _ _ _ _ _ => True) (fun _ U o U' => ∃ v L, o = .returned v ∧ QV (some (.int (1 : Int32))) (fun _ L => Fr n0 L) v U'.heap L ∧ FEW U o U' L room_1.cells room_1.slots) := by
  refine MetFree.of_bodySF (plainFor_of_name pn_0) hisR ?_
  intro p e s m args below meth c s₁ Bd hml0 hP hK
  obtain ⟨rfl, hZ, hh⟩ := hP
  have hx := Bd.exec
  have hby := Bd.bytes
  have hml : c.maxLocals = 20 := hml0
  have hown : s.vm.findClass "com/example/kenning/kenning/index/DecoderCompareTextsPinLaw" = some m.cls := findClass_of_methodNamed Bd.named
  have hnm := (name_of_methodNamed Bd.named Bd.method).1
  have hlk : meth.locks = false := BodyLoose.notSynchronized Bd
  have X0 : Stand p l e room_1 s m #[(.int p0), (.int p1), (.int p2)] below meth c s₁ [] 0 0 := Stand.of_body Bd
  have e0 : s₁.heap = h0 := by rw [← hh, Bd.state]; rfl
  have N0 := Fr.nil n0
  refine GotW.body (ef_0 m p0 p1 p2) ?_
  refine GotW.step (T' := s₁) (g' := (mkF m 46 #[.val (.int p0), .val (.int p1), .val (.int p2), .val (.int ((p0 &&& (255 : Int32)) % (255 : Int32))), .val (.int ((((p0.toUInt32 >>> ((8 : Int32) &&& 31).toUInt32).toInt32) &&& (255 : Int32)) % (255 : Int32))), .val (.int ((((p0.toUInt32 >>> ((16 : Int32) &&& 31).toUInt32).toInt32) &&& (255 : Int32)) % (255 : Int32))), .val (.int (((p0.toUInt32 >>> ((24 : Int32) &&& 31).toUInt32).toInt32) &&& (3 : Int32))), .unset, .unset, .unset, .unset, .unset, .unset, .unset, .unset, .unset, .unset, .unset, .unset, .unset] [])) (fun tq kt => ?_) ?_
  · show Steps p.tables e below (s₁.setTop (mkF m 0 #[.val (.int p0), .val (.int p1), .val (.int p2), .unset, .unset, .unset, .unset, .unset, .unset, .unset, .unset, .unset, .unset, .unset, .unset, .unset, .unset, .unset, .unset, .unset] [])) _
    refine XS.iloadN X0.here hx rfl (hb hby at_0) rfl ?_
    show Steps p.tables e below (s₁.setTop (mkF m 1 #[.val (.int p0), .val (.int p1), .val (.int p2), .unset, .unset, .unset, .unset, .unset, .unset, .unset, .unset, .unset, .unset, .unset, .unset, .unset, .unset, .unset, .unset, .unset] [(.int p0)])) _
    refine XS.sipush X0.here hx rfl (hb hby at_1) ?_
    show Steps p.tables e below (s₁.setTop (mkF m 4 #[.val (.int p0), .val (.int p1), .val (.int p2), .unset, .unset, .unset, .unset, .unset, .unset, .unset, .unset, .unset, .unset, .unset, .unset, .unset, .unset, .unset, .unset, .unset] [(.int (255 : Int32)), (.int p0)])) _
    refine XS.iand X0.here hx rfl (hb hby at_4) rfl ?_
    show Steps p.tables e below (s₁.setTop (mkF m 5 #[.val (.int p0), .val (.int p1), .val (.int p2), .unset, .unset, .unset, .unset, .unset, .unset, .unset, .unset, .unset, .unset, .unset, .unset, .unset, .unset, .unset, .unset, .unset] [(.int (p0 &&& (255 : Int32)))])) _
    refine XS.sipush X0.here hx rfl (hb hby at_5) ?_
    show Steps p.tables e below (s₁.setTop (mkF m 8 #[.val (.int p0), .val (.int p1), .val (.int p2), .unset, .unset, .unset, .unset, .unset, .unset, .unset, .unset, .unset, .unset, .unset, .unset, .unset, .unset, .unset, .unset, .unset] [(.int (255 : Int32)), (.int (p0 &&& (255 : Int32)))])) _
    refine iremM X0 hx rfl (hb hby at_8) rfl (by decide) ?_
    show Steps p.tables e below (s₁.setTop (mkF m 9 #[.val (.int p0), .val (.int p1), .val (.int p2), .unset, .unset, .unset, .unset, .unset, .unset, .unset, .unset, .unset, .unset, .unset, .unset, .unset, .unset, .unset, .unset, .unset] [(.int ((p0 &&& (255 : Int32)) % (255 : Int32)))])) _
    refine XS.istoreN X0.here hx rfl (hb hby at_9) rfl (l' := #[.val (.int p0), .val (.int p1), .val (.int p2), .val (.int ((p0 &&& (255 : Int32)) % (255 : Int32))), .unset, .unset, .unset, .unset, .unset, .unset, .unset, .unset, .unset, .unset, .unset, .unset, .unset, .unset, .unset, .unset]) rfl ?_
    show Steps p.tables e below (s₁.setTop (mkF m 10 #[.val (.int p0), .val (.int p1), .val (.int p2), .val (.int ((p0 &&& (255 : Int32)) % (255 : Int32))), .unset, .unset, .unset, .unset, .unset, .unset, .unset, .unset, .unset, .unset, .unset, .unset, .unset, .unset, .unset, .unset] [])) _
    refine XS.iloadN X0.here hx rfl (hb hby at_10) rfl ?_
    show Steps p.tables e below (s₁.setTop (mkF m 11 #[.val (.int p0), .val (.int p1), .val (.int p2), .val (.int ((p0 &&& (255 : Int32)) % (255 : Int32))), .unset, .unset, .unset, .unset, .unset, .unset, .unset, .unset, .unset, .unset, .unset, .unset, .unset, .unset, .unset, .unset] [(.int p0)])) _
    refine XS.bipush X0.here hx rfl (hb hby at_11) ?_
    show Steps p.tables e below (s₁.setTop (mkF m 13 #[.val (.int p0), .val (.int p1), .val (.int p2), .val (.int ((p0 &&& (255 : Int32)) % (255 : Int32))), .unset, .unset, .unset, .unset, .unset, .unset, .unset, .unset, .unset, .unset, .unset, .unset, .unset, .unset, .unset, .unset] [(.int (8 : Int32)), (.int p0)])) _
    refine XS.iushr X0.here hx rfl (hb hby at_13) rfl ?_
    show Steps p.tables e below (s₁.setTop (mkF m 14 #[.val (.int p0), .val (.int p1), .val (.int p2), .val (.int ((p0 &&& (255 : Int32)) % (255 : Int32))), .unset, .unset, .unset, .unset, .unset, .unset, .unset, .unset, .unset, .unset, .unset, .unset, .unset, .unset, .unset, .unset] [(.int ((p0.toUInt32 >>> ((8 : Int32) &&& 31).toUInt32).toInt32))])) _
    refine XS.sipush X0.here hx rfl (hb hby at_14) ?_
    show Steps p.tables e below (s₁.setTop (mkF m 17 #[.val (.int p0), .val (.int p1), .val (.int p2), .val (.int ((p0 &&& (255 : Int32)) % (255 : Int32))), .unset, .unset, .unset, .unset, .unset, .unset, .unset, .unset, .unset, .unset, .unset, .unset, .unset, .unset, .unset, .unset] [(.int (255 : Int32)), (.int ((p0.toUInt32 >>> ((8 : Int32) &&& 31).toUInt32).toInt32))])) _
    refine XS.iand X0.here hx rfl (hb hby at_17) rfl ?_
    show Steps p.tables e below (s₁.setTop (mkF m 18 #[.val (.int p0), .val (.int p1), .val (.int p2), .val (.int ((p0 &&& (255 : Int32)) % (255 : Int32))), .unset, .unset, .unset, .unset, .unset, .unset, .unset, .unset, .unset, .unset, .unset, .unset, .unset, .unset, .unset, .unset] [(.int (((p0.toUInt32 >>> ((8 : Int32) &&& 31).toUInt32).toInt32) &&& (255 : Int32)))])) _
    refine XS.sipush X0.here hx rfl (hb hby at_18) ?_
    show Steps p.tables e below (s₁.setTop (mkF m 21 #[.val (.int p0), .val (.int p1), .val (.int p2), .val (.int ((p0 &&& (255 : Int32)) % (255 : Int32))), .unset, .unset, .unset, .unset, .unset, .unset, .unset, .unset, .unset, .unset, .unset, .unset, .unset, .unset, .unset, .unset] [(.int (255 : Int32)), (.int (((p0.toUInt32 >>> ((8 : Int32) &&& 31).toUInt32).toInt32) &&& (255 : Int32)))])) _
    refine iremM X0 hx rfl (hb hby at_21) rfl (by decide) ?_
    show Steps p.tables e below (s₁.setTop (mkF m 22 #[.val (.int p0), .val (.int p1), .val (.int p2), .val (.int ((p0 &&& (255 : Int32)) % (255 : Int32))), .unset, .unset, .unset, .unset, .unset, .unset, .unset, .unset, .unset, .unset, .unset, .unset, .unset, .unset, .unset, .unset] [(.int ((((p0.toUInt32 >>> ((8 : Int32) &&& 31).toUInt32).toInt32) &&& (255 : Int32)) % (255 : Int32)))])) _
    refine XS.istore X0.here hx rfl (hb hby at_22) rfl (l' := #[.val (.int p0), .val (.int p1), .val (.int p2), .val (.int ((p0 &&& (255 : Int32)) % (255 : Int32))), .val (.int ((((p0.toUInt32 >>> ((8 : Int32) &&& 31).toUInt32).toInt32) &&& (255 : Int32)) % (255 : Int32))), .unset, .unset, .unset, .unset, .unset, .unset, .unset, .unset, .unset, .unset, .unset, .unset, .unset, .unset, .unset]) rfl ?_
    show Steps p.tables e below (s₁.setTop (mkF m 24 #[.val (.int p0), .val (.int p1), .val (.int p2), .val (.int ((p0 &&& (255 : Int32)) % (255 : Int32))), .val (.int ((((p0.toUInt32 >>> ((8 : Int32) &&& 31).toUInt32).toInt32) &&& (255 : Int32)) % (255 : Int32))), .unset, .unset, .unset, .unset, .unset, .unset, .unset, .unset, .unset, .unset, .unset, .unset, .unset, .unset, .unset] [])) _
    refine XS.iloadN X0.here hx rfl (hb hby at_24) rfl ?_
    show Steps p.tables e below (s₁.setTop (mkF m 25 #[.val (.int p0), .val (.int p1), .val (.int p2), .val (.int ((p0 &&& (255 : Int32)) % (255 : Int32))), .val (.int ((((p0.toUInt32 >>> ((8 : Int32) &&& 31).toUInt32).toInt32) &&& (255 : Int32)) % (255 : Int32))), .unset, .unset, .unset, .unset, .unset, .unset, .unset, .unset, .unset, .unset, .unset, .unset, .unset, .unset, .unset] [(.int p0)])) _
    refine XS.bipush X0.here hx rfl (hb hby at_25) ?_
    show Steps p.tables e below (s₁.setTop (mkF m 27 #[.val (.int p0), .val (.int p1), .val (.int p2), .val (.int ((p0 &&& (255 : Int32)) % (255 : Int32))), .val (.int ((((p0.toUInt32 >>> ((8 : Int32) &&& 31).toUInt32).toInt32) &&& (255 : Int32)) % (255 : Int32))), .unset, .unset, .unset, .unset, .unset, .unset, .unset, .unset, .unset, .unset, .unset, .unset, .unset, .unset, .unset] [(.int (16 : Int32)), (.int p0)])) _
    refine XS.iushr X0.here hx rfl (hb hby at_27) rfl ?_
    show Steps p.tables e below (s₁.setTop (mkF m 28 #[.val (.int p0), .val (.int p1), .val (.int p2), .val (.int ((p0 &&& (255 : Int32)) % (255 : Int32))), .val (.int ((((p0.toUInt32 >>> ((8 : Int32) &&& 31).toUInt32).toInt32) &&& (255 : Int32)) % (255 : Int32))), .unset, .unset, .unset, .unset, .unset, .unset, .unset, .unset, .unset, .unset, .unset, .unset, .unset, .unset, .unset] [(.int ((p0.toUInt32 >>> ((16 : Int32) &&& 31).toUInt32).toInt32))])) _
    refine XS.sipush X0.here hx rfl (hb hby at_28) ?_
    show Steps p.tables e below (s₁.setTop (mkF m 31 #[.val (.int p0), .val (.int p1), .val (.int p2), .val (.int ((p0 &&& (255 : Int32)) % (255 : Int32))), .val (.int ((((p0.toUInt32 >>> ((8 : Int32) &&& 31).toUInt32).toInt32) &&& (255 : Int32)) % (255 : Int32))), .unset, .unset, .unset, .unset, .unset, .unset, .unset, .unset, .unset, .unset, .unset, .unset, .unset, .unset, .unset] [(.int (255 : Int32)), (.int ((p0.toUInt32 >>> ((16 : Int32) &&& 31).toUInt32).toInt32))])) _
    refine XS.iand X0.here hx rfl (hb hby at_31) rfl ?_
    show Steps p.tables e below (s₁.setTop (mkF m 32 #[.val (.int p0), .val (.int p1), .val (.int p2), .val (.int ((p0 &&& (255 : Int32)) % (255 : Int32))), .val (.int ((((p0.toUInt32 >>> ((8 : Int32) &&& 31).toUInt32).toInt32) &&& (255 : Int32)) % (255 : Int32))), .unset, .unset, .unset, .unset, .unset, .unset, .unset, .unset, .unset, .unset, .unset, .unset, .unset, .unset, .unset] [(.int (((p0.toUInt32 >>> ((16 : Int32) &&& 31).toUInt32).toInt32) &&& (255 : Int32)))])) _
    refine XS.sipush X0.here hx rfl (hb hby at_32) ?_
    show Steps p.tables e below (s₁.setTop (mkF m 35 #[.val (.int p0), .val (.int p1), .val (.int p2), .val (.int ((p0 &&& (255 : Int32)) % (255 : Int32))), .val (.int ((((p0.toUInt32 >>> ((8 : Int32) &&& 31).toUInt32).toInt32) &&& (255 : Int32)) % (255 : Int32))), .unset, .unset, .unset, .unset, .unset, .unset, .unset, .unset, .unset, .unset, .unset, .unset, .unset, .unset, .unset] [(.int (255 : Int32)), (.int (((p0.toUInt32 >>> ((16 : Int32) &&& 31).toUInt32).toInt32) &&& (255 : Int32)))])) _
    refine iremM X0 hx rfl (hb hby at_35) rfl (by decide) ?_
    show Steps p.tables e below (s₁.setTop (mkF m 36 #[.val (.int p0), .val (.int p1), .val (.int p2), .val (.int ((p0 &&& (255 : Int32)) % (255 : Int32))), .val (.int ((((p0.toUInt32 >>> ((8 : Int32) &&& 31).toUInt32).toInt32) &&& (255 : Int32)) % (255 : Int32))), .unset, .unset, .unset, .unset, .unset, .unset, .unset, .unset, .unset, .unset, .unset, .unset, .unset, .unset, .unset] [(.int ((((p0.toUInt32 >>> ((16 : Int32) &&& 31).toUInt32).toInt32) &&& (255 : Int32)) % (255 : Int32)))])) _
    refine XS.istore X0.here hx rfl (hb hby at_36) rfl (l' := #[.val (.int p0), .val (.int p1), .val (.int p2), .val (.int ((p0 &&& (255 : Int32)) % (255 : Int32))), .val (.int ((((p0.toUInt32 >>> ((8 : Int32) &&& 31).toUInt32).toInt32) &&& (255 : Int32)) % (255 : Int32))), .val (.int ((((p0.toUInt32 >>> ((16 : Int32) &&& 31).toUInt32).toInt32) &&& (255 : Int32)) % (255 : Int32))), .unset, .unset, .unset, .unset, .unset, .unset, .unset, .unset, .unset, .unset, .unset, .unset, .unset, .unset]) rfl ?_
    show Steps p.tables e below (s₁.setTop (mkF m 38 #[.val (.int p0), .val (.int p1), .val (.int p2), .val (.int ((p0 &&& (255 : Int32)) % (255 : Int32))), .val (.int ((((p0.toUInt32 >>> ((8 : Int32) &&& 31).toUInt32).toInt32) &&& (255 : Int32)) % (255 : Int32))), .val (.int ((((p0.toUInt32 >>> ((16 : Int32) &&& 31).toUInt32).toInt32) &&& (255 : Int32)) % (255 : Int32))), .unset, .unset, .unset, .unset, .unset, .unset, .unset, .unset, .unset, .unset, .unset, .unset, .unset, .unset] [])) _
    refine XS.iloadN X0.here hx rfl (hb hby at_38) rfl ?_
    show Steps p.tables e below (s₁.setTop (mkF m 39 #[.val (.int p0), .val (.int p1), .val (.int p2), .val (.int ((p0 &&& (255 : Int32)) % (255 : Int32))), .val (.int ((((p0.toUInt32 >>> ((8 : Int32) &&& 31).toUInt32).toInt32) &&& (255 : Int32)) % (255 : Int32))), .val (.int ((((p0.toUInt32 >>> ((16 : Int32) &&& 31).toUInt32).toInt32) &&& (255 : Int32)) % (255 : Int32))), .unset, .unset, .unset, .unset, .unset, .unset, .unset, .unset, .unset, .unset, .unset, .unset, .unset, .unset] [(.int p0)])) _
    refine XS.bipush X0.here hx rfl (hb hby at_39) ?_
    show Steps p.tables e below (s₁.setTop (mkF m 41 #[.val (.int p0), .val (.int p1), .val (.int p2), .val (.int ((p0 &&& (255 : Int32)) % (255 : Int32))), .val (.int ((((p0.toUInt32 >>> ((8 : Int32) &&& 31).toUInt32).toInt32) &&& (255 : Int32)) % (255 : Int32))), .val (.int ((((p0.toUInt32 >>> ((16 : Int32) &&& 31).toUInt32).toInt32) &&& (255 : Int32)) % (255 : Int32))), .unset, .unset, .unset, .unset, .unset, .unset, .unset, .unset, .unset, .unset, .unset, .unset, .unset, .unset] [(.int (24 : Int32)), (.int p0)])) _
    refine XS.iushr X0.here hx rfl (hb hby at_41) rfl ?_
    show Steps p.tables e below (s₁.setTop (mkF m 42 #[.val (.int p0), .val (.int p1), .val (.int p2), .val (.int ((p0 &&& (255 : Int32)) % (255 : Int32))), .val (.int ((((p0.toUInt32 >>> ((8 : Int32) &&& 31).toUInt32).toInt32) &&& (255 : Int32)) % (255 : Int32))), .val (.int ((((p0.toUInt32 >>> ((16 : Int32) &&& 31).toUInt32).toInt32) &&& (255 : Int32)) % (255 : Int32))), .unset, .unset, .unset, .unset, .unset, .unset, .unset, .unset, .unset, .unset, .unset, .unset, .unset, .unset] [(.int ((p0.toUInt32 >>> ((24 : Int32) &&& 31).toUInt32).toInt32))])) _
    refine XS.iconst X0.here hx rfl (hb hby at_42) ?_
    show Steps p.tables e below (s₁.setTop (mkF m 43 #[.val (.int p0), .val (.int p1), .val (.int p2), .val (.int ((p0 &&& (255 : Int32)) % (255 : Int32))), .val (.int ((((p0.toUInt32 >>> ((8 : Int32) &&& 31).toUInt32).toInt32) &&& (255 : Int32)) % (255 : Int32))), .val (.int ((((p0.toUInt32 >>> ((16 : Int32) &&& 31).toUInt32).toInt32) &&& (255 : Int32)) % (255 : Int32))), .unset, .unset, .unset, .unset, .unset, .unset, .unset, .unset, .unset, .unset, .unset, .unset, .unset, .unset] [(.int (3 : Int32)), (.int ((p0.toUInt32 >>> ((24 : Int32) &&& 31).toUInt32).toInt32))])) _
    refine XS.iand X0.here hx rfl (hb hby at_43) rfl ?_
    show Steps p.tables e below (s₁.setTop (mkF m 44 #[.val (.int p0), .val (.int p1), .val (.int p2), .val (.int ((p0 &&& (255 : Int32)) % (255 : Int32))), .val (.int ((((p0.toUInt32 >>> ((8 : Int32) &&& 31).toUInt32).toInt32) &&& (255 : Int32)) % (255 : Int32))), .val (.int ((((p0.toUInt32 >>> ((16 : Int32) &&& 31).toUInt32).toInt32) &&& (255 : Int32)) % (255 : Int32))), .unset, .unset, .unset, .unset, .unset, .unset, .unset, .unset, .unset, .unset, .unset, .unset, .unset, .unset] [(.int (((p0.toUInt32 >>> ((24 : Int32) &&& 31).toUInt32).toInt32) &&& (3 : Int32)))])) _
    refine XS.istore X0.here hx rfl (hb hby at_44) rfl (l' := #[.val (.int p0), .val (.int p1), .val (.int p2), .val (.int ((p0 &&& (255 : Int32)) % (255 : Int32))), .val (.int ((((p0.toUInt32 >>> ((8 : Int32) &&& 31).toUInt32).toInt32) &&& (255 : Int32)) % (255 : Int32))), .val (.int ((((p0.toUInt32 >>> ((16 : Int32) &&& 31).toUInt32).toInt32) &&& (255 : Int32)) % (255 : Int32))), .val (.int (((p0.toUInt32 >>> ((24 : Int32) &&& 31).toUInt32).toInt32) &&& (3 : Int32))), .unset, .unset, .unset, .unset, .unset, .unset, .unset, .unset, .unset, .unset, .unset, .unset, .unset]) rfl ?_
    exact kt
  obtain ⟨a0v, ha0v⟩ : ∃ v : Int32, v = ((p0 &&& (255 : Int32)) % (255 : Int32)) := ⟨_, rfl⟩
  rw [← ha0v]
  show GotW p e below s _ _ _ _ s₁ (mkF m 46 #[.val (.int p0), .val (.int p1), .val (.int p2), .val (.int a0v), .val (.int ((((p0.toUInt32 >>> ((8 : Int32) &&& 31).toUInt32).toInt32) &&& (255 : Int32)) % (255 : Int32))), .val (.int ((((p0.toUInt32 >>> ((16 : Int32) &&& 31).toUInt32).toInt32) &&& (255 : Int32)) % (255 : Int32))), .val (.int (((p0.toUInt32 >>> ((24 : Int32) &&& 31).toUInt32).toInt32) &&& (3 : Int32))), .unset, .unset, .unset, .unset, .unset, .unset, .unset, .unset, .unset, .unset, .unset, .unset, .unset] [])
  obtain ⟨a1v, ha1v⟩ : ∃ v : Int32, v = ((((p0.toUInt32 >>> ((8 : Int32) &&& 31).toUInt32).toInt32) &&& (255 : Int32)) % (255 : Int32)) := ⟨_, rfl⟩
  rw [← ha1v]
  show GotW p e below s _ _ _ _ s₁ (mkF m 46 #[.val (.int p0), .val (.int p1), .val (.int p2), .val (.int a0v), .val (.int a1v), .val (.int ((((p0.toUInt32 >>> ((16 : Int32) &&& 31).toUInt32).toInt32) &&& (255 : Int32)) % (255 : Int32))), .val (.int (((p0.toUInt32 >>> ((24 : Int32) &&& 31).toUInt32).toInt32) &&& (3 : Int32))), .unset, .unset, .unset, .unset, .unset, .unset, .unset, .unset, .unset, .unset, .unset, .unset, .unset] [])
  obtain ⟨a2v, ha2v⟩ : ∃ v : Int32, v = ((((p0.toUInt32 >>> ((16 : Int32) &&& 31).toUInt32).toInt32) &&& (255 : Int32)) % (255 : Int32)) := ⟨_, rfl⟩
  rw [← ha2v]
  show GotW p e below s _ _ _ _ s₁ (mkF m 46 #[.val (.int p0), .val (.int p1), .val (.int p2), .val (.int a0v), .val (.int a1v), .val (.int a2v), .val (.int (((p0.toUInt32 >>> ((24 : Int32) &&& 31).toUInt32).toInt32) &&& (3 : Int32))), .unset, .unset, .unset, .unset, .unset, .unset, .unset, .unset, .unset, .unset, .unset, .unset, .unset] [])
  obtain ⟨la, hla, ela⟩ := own_3 ((p0.toUInt32 >>> ((24 : Int32) &&& 31).toUInt32).toInt32)
  rw [ela]
  show GotW p e below s _ _ _ _ s₁ (mkF m 46 #[.val (.int p0), .val (.int p1), .val (.int p2), .val (.int a0v), .val (.int a1v), .val (.int a2v), .val (.int (Int32.ofNat la)), .unset, .unset, .unset, .unset, .unset, .unset, .unset, .unset, .unset, .unset, .unset, .unset, .unset] [])
  refine GotW.step (T' := s₁) (g' := (mkF m 49 #[.val (.int p0), .val (.int p1), .val (.int p2), .val (.int a0v), .val (.int a1v), .val (.int a2v), .val (.int (Int32.ofNat la)), .unset, .unset, .unset, .unset, .unset, .unset, .unset, .unset, .unset, .unset, .unset, .unset, .unset] [(.int (p2 &&& (1 : Int32)))])) (fun tq kt => ?_) ?_
  · show Steps p.tables e below (s₁.setTop (mkF m 46 #[.val (.int p0), .val (.int p1), .val (.int p2), .val (.int a0v), .val (.int a1v), .val (.int a2v), .val (.int (Int32.ofNat la)), .unset, .unset, .unset, .unset, .unset, .unset, .unset, .unset, .unset, .unset, .unset, .unset, .unset] [])) _
    refine XS.iloadN X0.here hx rfl (hb hby at_46) rfl ?_
    show Steps p.tables e below (s₁.setTop (mkF m 47 #[.val (.int p0), .val (.int p1), .val (.int p2), .val (.int a0v), .val (.int a1v), .val (.int a2v), .val (.int (Int32.ofNat la)), .unset, .unset, .unset, .unset, .unset, .unset, .unset, .unset, .unset, .unset, .unset, .unset, .unset] [(.int p2)])) _
    refine XS.iconst X0.here hx rfl (hb hby at_47) ?_
    show Steps p.tables e below (s₁.setTop (mkF m 48 #[.val (.int p0), .val (.int p1), .val (.int p2), .val (.int a0v), .val (.int a1v), .val (.int a2v), .val (.int (Int32.ofNat la)), .unset, .unset, .unset, .unset, .unset, .unset, .unset, .unset, .unset, .unset, .unset, .unset, .unset] [(.int (1 : Int32)), (.int p2)])) _
    refine XS.iand X0.here hx rfl (hb hby at_48) rfl ?_
    exact kt
  have J98 : ∀ (k98_0 : Int32), k98_0 = (if (p2 &&& (1 : Int32)) = 0 then ((p1 &&& (255 : Int32)) % (255 : Int32)) else a0v) → GotW p e below s (fun _ L => Fr n0 L) room_1.cells room_1.slots (some (.int (1 : Int32))) s₁ (mkF m 65 #[.val (.int p0), .val (.int p1), .val (.int p2), .val (.int a0v), .val (.int a1v), .val (.int a2v), .val (.int (Int32.ofNat la)), .unset, .unset, .unset, .unset, .unset, .unset, .unset, .unset, .unset, .unset, .unset, .unset, .unset] [(.int k98_0)]) := by
    intro k98_0 hk98_0
    refine GotW.step (T' := s₁) (g' := (mkF m 70 #[.val (.int p0), .val (.int p1), .val (.int p2), .val (.int a0v), .val (.int a1v), .val (.int a2v), .val (.int (Int32.ofNat la)), .val (.int k98_0), .unset, .unset, .unset, .unset, .unset, .unset, .unset, .unset, .unset, .unset, .unset, .unset] [(.int (p2 &&& (2 : Int32)))])) (fun tq kt => ?_) ?_
    · show Steps p.tables e below (s₁.setTop (mkF m 65 #[.val (.int p0), .val (.int p1), .val (.int p2), .val (.int a0v), .val (.int a1v), .val (.int a2v), .val (.int (Int32.ofNat la)), .unset, .unset, .unset, .unset, .unset, .unset, .unset, .unset, .unset, .unset, .unset, .unset, .unset] [(.int k98_0)])) _
      refine XS.istore X0.here hx rfl (hb hby at_65) rfl (l' := #[.val (.int p0), .val (.int p1), .val (.int p2), .val (.int a0v), .val (.int a1v), .val (.int a2v), .val (.int (Int32.ofNat la)), .val (.int k98_0), .unset, .unset, .unset, .unset, .unset, .unset, .unset, .unset, .unset, .unset, .unset, .unset]) rfl ?_
      show Steps p.tables e below (s₁.setTop (mkF m 67 #[.val (.int p0), .val (.int p1), .val (.int p2), .val (.int a0v), .val (.int a1v), .val (.int a2v), .val (.int (Int32.ofNat la)), .val (.int k98_0), .unset, .unset, .unset, .unset, .unset, .unset, .unset, .unset, .unset, .unset, .unset, .unset] [])) _
      refine XS.iloadN X0.here hx rfl (hb hby at_67) rfl ?_
      show Steps p.tables e below (s₁.setTop (mkF m 68 #[.val (.int p0), .val (.int p1), .val (.int p2), .val (.int a0v), .val (.int a1v), .val (.int a2v), .val (.int (Int32.ofNat la)), .val (.int k98_0), .unset, .unset, .unset, .unset, .unset, .unset, .unset, .unset, .unset, .unset, .unset, .unset] [(.int p2)])) _
      refine XS.iconst X0.here hx rfl (hb hby at_68) ?_
      show Steps p.tables e below (s₁.setTop (mkF m 69 #[.val (.int p0), .val (.int p1), .val (.int p2), .val (.int a0v), .val (.int a1v), .val (.int a2v), .val (.int (Int32.ofNat la)), .val (.int k98_0), .unset, .unset, .unset, .unset, .unset, .unset, .unset, .unset, .unset, .unset, .unset, .unset] [(.int (2 : Int32)), (.int p2)])) _
      refine XS.iand X0.here hx rfl (hb hby at_69) rfl ?_
      exact kt
    have J100 : ∀ (k100_0 : Int32), k100_0 = (if (p2 &&& (2 : Int32)) = 0 then ((((p1.toUInt32 >>> ((8 : Int32) &&& 31).toUInt32).toInt32) &&& (255 : Int32)) % (255 : Int32)) else a1v) → GotW p e below s (fun _ L => Fr n0 L) room_1.cells room_1.slots (some (.int (1 : Int32))) s₁ (mkF m 90 #[.val (.int p0), .val (.int p1), .val (.int p2), .val (.int a0v), .val (.int a1v), .val (.int a2v), .val (.int (Int32.ofNat la)), .val (.int k98_0), .unset, .unset, .unset, .unset, .unset, .unset, .unset, .unset, .unset, .unset, .unset, .unset] [(.int k100_0)]) := by
      intro k100_0 hk100_0
      refine GotW.step (T' := s₁) (g' := (mkF m 95 #[.val (.int p0), .val (.int p1), .val (.int p2), .val (.int a0v), .val (.int a1v), .val (.int a2v), .val (.int (Int32.ofNat la)), .val (.int k98_0), .val (.int k100_0), .unset, .unset, .unset, .unset, .unset, .unset, .unset, .unset, .unset, .unset, .unset] [(.int (p2 &&& (4 : Int32)))])) (fun tq kt => ?_) ?_
      · show Steps p.tables e below (s₁.setTop (mkF m 90 #[.val (.int p0), .val (.int p1), .val (.int p2), .val (.int a0v), .val (.int a1v), .val (.int a2v), .val (.int (Int32.ofNat la)), .val (.int k98_0), .unset, .unset, .unset, .unset, .unset, .unset, .unset, .unset, .unset, .unset, .unset, .unset] [(.int k100_0)])) _
        refine XS.istore X0.here hx rfl (hb hby at_90) rfl (l' := #[.val (.int p0), .val (.int p1), .val (.int p2), .val (.int a0v), .val (.int a1v), .val (.int a2v), .val (.int (Int32.ofNat la)), .val (.int k98_0), .val (.int k100_0), .unset, .unset, .unset, .unset, .unset, .unset, .unset, .unset, .unset, .unset, .unset]) rfl ?_
        show Steps p.tables e below (s₁.setTop (mkF m 92 #[.val (.int p0), .val (.int p1), .val (.int p2), .val (.int a0v), .val (.int a1v), .val (.int a2v), .val (.int (Int32.ofNat la)), .val (.int k98_0), .val (.int k100_0), .unset, .unset, .unset, .unset, .unset, .unset, .unset, .unset, .unset, .unset, .unset] [])) _
        refine XS.iloadN X0.here hx rfl (hb hby at_92) rfl ?_
        show Steps p.tables e below (s₁.setTop (mkF m 93 #[.val (.int p0), .val (.int p1), .val (.int p2), .val (.int a0v), .val (.int a1v), .val (.int a2v), .val (.int (Int32.ofNat la)), .val (.int k98_0), .val (.int k100_0), .unset, .unset, .unset, .unset, .unset, .unset, .unset, .unset, .unset, .unset, .unset] [(.int p2)])) _
        refine XS.iconst X0.here hx rfl (hb hby at_93) ?_
        show Steps p.tables e below (s₁.setTop (mkF m 94 #[.val (.int p0), .val (.int p1), .val (.int p2), .val (.int a0v), .val (.int a1v), .val (.int a2v), .val (.int (Int32.ofNat la)), .val (.int k98_0), .val (.int k100_0), .unset, .unset, .unset, .unset, .unset, .unset, .unset, .unset, .unset, .unset, .unset] [(.int (4 : Int32)), (.int p2)])) _
        refine XS.iand X0.here hx rfl (hb hby at_94) rfl ?_
        exact kt
      have J102 : ∀ (k102_0 : Int32), k102_0 = (if (p2 &&& (4 : Int32)) = 0 then ((((p1.toUInt32 >>> ((16 : Int32) &&& 31).toUInt32).toInt32) &&& (255 : Int32)) % (255 : Int32)) else a2v) → GotW p e below s (fun _ L => Fr n0 L) room_1.cells room_1.slots (some (.int (1 : Int32))) s₁ (mkF m 115 #[.val (.int p0), .val (.int p1), .val (.int p2), .val (.int a0v), .val (.int a1v), .val (.int a2v), .val (.int (Int32.ofNat la)), .val (.int k98_0), .val (.int k100_0), .unset, .unset, .unset, .unset, .unset, .unset, .unset, .unset, .unset, .unset, .unset] [(.int k102_0)]) := by
        intro k102_0 hk102_0
        refine GotW.step (T' := s₁) (g' := (mkF m 125 #[.val (.int p0), .val (.int p1), .val (.int p2), .val (.int a0v), .val (.int a1v), .val (.int a2v), .val (.int (Int32.ofNat la)), .val (.int k98_0), .val (.int k100_0), .val (.int k102_0), .val (.int (((p1.toUInt32 >>> ((24 : Int32) &&& 31).toUInt32).toInt32) &&& (3 : Int32))), .unset, .unset, .unset, .unset, .unset, .unset, .unset, .unset, .unset] [])) (fun tq kt => ?_) ?_
        · show Steps p.tables e below (s₁.setTop (mkF m 115 #[.val (.int p0), .val (.int p1), .val (.int p2), .val (.int a0v), .val (.int a1v), .val (.int a2v), .val (.int (Int32.ofNat la)), .val (.int k98_0), .val (.int k100_0), .unset, .unset, .unset, .unset, .unset, .unset, .unset, .unset, .unset, .unset, .unset] [(.int k102_0)])) _
          refine XS.istore X0.here hx rfl (hb hby at_115) rfl (l' := #[.val (.int p0), .val (.int p1), .val (.int p2), .val (.int a0v), .val (.int a1v), .val (.int a2v), .val (.int (Int32.ofNat la)), .val (.int k98_0), .val (.int k100_0), .val (.int k102_0), .unset, .unset, .unset, .unset, .unset, .unset, .unset, .unset, .unset, .unset]) rfl ?_
          show Steps p.tables e below (s₁.setTop (mkF m 117 #[.val (.int p0), .val (.int p1), .val (.int p2), .val (.int a0v), .val (.int a1v), .val (.int a2v), .val (.int (Int32.ofNat la)), .val (.int k98_0), .val (.int k100_0), .val (.int k102_0), .unset, .unset, .unset, .unset, .unset, .unset, .unset, .unset, .unset, .unset] [])) _
          refine XS.iloadN X0.here hx rfl (hb hby at_117) rfl ?_
          show Steps p.tables e below (s₁.setTop (mkF m 118 #[.val (.int p0), .val (.int p1), .val (.int p2), .val (.int a0v), .val (.int a1v), .val (.int a2v), .val (.int (Int32.ofNat la)), .val (.int k98_0), .val (.int k100_0), .val (.int k102_0), .unset, .unset, .unset, .unset, .unset, .unset, .unset, .unset, .unset, .unset] [(.int p1)])) _
          refine XS.bipush X0.here hx rfl (hb hby at_118) ?_
          show Steps p.tables e below (s₁.setTop (mkF m 120 #[.val (.int p0), .val (.int p1), .val (.int p2), .val (.int a0v), .val (.int a1v), .val (.int a2v), .val (.int (Int32.ofNat la)), .val (.int k98_0), .val (.int k100_0), .val (.int k102_0), .unset, .unset, .unset, .unset, .unset, .unset, .unset, .unset, .unset, .unset] [(.int (24 : Int32)), (.int p1)])) _
          refine XS.iushr X0.here hx rfl (hb hby at_120) rfl ?_
          show Steps p.tables e below (s₁.setTop (mkF m 121 #[.val (.int p0), .val (.int p1), .val (.int p2), .val (.int a0v), .val (.int a1v), .val (.int a2v), .val (.int (Int32.ofNat la)), .val (.int k98_0), .val (.int k100_0), .val (.int k102_0), .unset, .unset, .unset, .unset, .unset, .unset, .unset, .unset, .unset, .unset] [(.int ((p1.toUInt32 >>> ((24 : Int32) &&& 31).toUInt32).toInt32))])) _
          refine XS.iconst X0.here hx rfl (hb hby at_121) ?_
          show Steps p.tables e below (s₁.setTop (mkF m 122 #[.val (.int p0), .val (.int p1), .val (.int p2), .val (.int a0v), .val (.int a1v), .val (.int a2v), .val (.int (Int32.ofNat la)), .val (.int k98_0), .val (.int k100_0), .val (.int k102_0), .unset, .unset, .unset, .unset, .unset, .unset, .unset, .unset, .unset, .unset] [(.int (3 : Int32)), (.int ((p1.toUInt32 >>> ((24 : Int32) &&& 31).toUInt32).toInt32))])) _
          refine XS.iand X0.here hx rfl (hb hby at_122) rfl ?_
          show Steps p.tables e below (s₁.setTop (mkF m 123 #[.val (.int p0), .val (.int p1), .val (.int p2), .val (.int a0v), .val (.int a1v), .val (.int a2v), .val (.int (Int32.ofNat la)), .val (.int k98_0), .val (.int k100_0), .val (.int k102_0), .unset, .unset, .unset, .unset, .unset, .unset, .unset, .unset, .unset, .unset] [(.int (((p1.toUInt32 >>> ((24 : Int32) &&& 31).toUInt32).toInt32) &&& (3 : Int32)))])) _
          refine XS.istore X0.here hx rfl (hb hby at_123) rfl (l' := #[.val (.int p0), .val (.int p1), .val (.int p2), .val (.int a0v), .val (.int a1v), .val (.int a2v), .val (.int (Int32.ofNat la)), .val (.int k98_0), .val (.int k100_0), .val (.int k102_0), .val (.int (((p1.toUInt32 >>> ((24 : Int32) &&& 31).toUInt32).toInt32) &&& (3 : Int32))), .unset, .unset, .unset, .unset, .unset, .unset, .unset, .unset, .unset]) rfl ?_
          exact kt
        obtain ⟨lb, hlb, elb⟩ := own_3 ((p1.toUInt32 >>> ((24 : Int32) &&& 31).toUInt32).toInt32)
        rw [elb]
        show GotW p e below s _ _ _ _ s₁ (mkF m 125 #[.val (.int p0), .val (.int p1), .val (.int p2), .val (.int a0v), .val (.int a1v), .val (.int a2v), .val (.int (Int32.ofNat la)), .val (.int k98_0), .val (.int k100_0), .val (.int k102_0), .val (.int (Int32.ofNat lb)), .unset, .unset, .unset, .unset, .unset, .unset, .unset, .unset, .unset] [])
        refine GotW.step (T' := s₁) (g' := (mkF m 129 #[.val (.int p0), .val (.int p1), .val (.int p2), .val (.int a0v), .val (.int a1v), .val (.int a2v), .val (.int (Int32.ofNat la)), .val (.int k98_0), .val (.int k100_0), .val (.int k102_0), .val (.int (Int32.ofNat lb)), .unset, .unset, .unset, .unset, .unset, .unset, .unset, .unset, .unset] [(.int (p2 &&& (8 : Int32)))])) (fun tq kt => ?_) ?_
        · show Steps p.tables e below (s₁.setTop (mkF m 125 #[.val (.int p0), .val (.int p1), .val (.int p2), .val (.int a0v), .val (.int a1v), .val (.int a2v), .val (.int (Int32.ofNat la)), .val (.int k98_0), .val (.int k100_0), .val (.int k102_0), .val (.int (Int32.ofNat lb)), .unset, .unset, .unset, .unset, .unset, .unset, .unset, .unset, .unset] [])) _
          refine XS.iloadN X0.here hx rfl (hb hby at_125) rfl ?_
          show Steps p.tables e below (s₁.setTop (mkF m 126 #[.val (.int p0), .val (.int p1), .val (.int p2), .val (.int a0v), .val (.int a1v), .val (.int a2v), .val (.int (Int32.ofNat la)), .val (.int k98_0), .val (.int k100_0), .val (.int k102_0), .val (.int (Int32.ofNat lb)), .unset, .unset, .unset, .unset, .unset, .unset, .unset, .unset, .unset] [(.int p2)])) _
          refine XS.bipush X0.here hx rfl (hb hby at_126) ?_
          show Steps p.tables e below (s₁.setTop (mkF m 128 #[.val (.int p0), .val (.int p1), .val (.int p2), .val (.int a0v), .val (.int a1v), .val (.int a2v), .val (.int (Int32.ofNat la)), .val (.int k98_0), .val (.int k100_0), .val (.int k102_0), .val (.int (Int32.ofNat lb)), .unset, .unset, .unset, .unset, .unset, .unset, .unset, .unset, .unset] [(.int (8 : Int32)), (.int p2)])) _
          refine XS.iand X0.here hx rfl (hb hby at_128) rfl ?_
          exact kt
        have J104 : ∀ (k104_0 : Int32), k104_0 = (if (p2 &&& (8 : Int32)) = 0 then (0 : Int32) else (1 : Int32)) → GotW p e below s (fun _ L => Fr n0 L) room_1.cells room_1.slots (some (.int (1 : Int32))) s₁ (mkF m 137 #[.val (.int p0), .val (.int p1), .val (.int p2), .val (.int a0v), .val (.int a1v), .val (.int a2v), .val (.int (Int32.ofNat la)), .val (.int k98_0), .val (.int k100_0), .val (.int k102_0), .val (.int (Int32.ofNat lb)), .unset, .unset, .unset, .unset, .unset, .unset, .unset, .unset, .unset] [(.int k104_0)]) := by
          intro k104_0 hk104_0
          refine GotW.step (T' := s₁) (g' := (mkF m 143 #[.val (.int p0), .val (.int p1), .val (.int p2), .val (.int a0v), .val (.int a1v), .val (.int a2v), .val (.int (Int32.ofNat la)), .val (.int k98_0), .val (.int k100_0), .val (.int k102_0), .val (.int (Int32.ofNat lb)), .val (.int k104_0), .unset, .unset, .unset, .unset, .unset, .unset, .unset, .unset] [(.int (p2 &&& (16 : Int32)))])) (fun tq kt => ?_) ?_
          · show Steps p.tables e below (s₁.setTop (mkF m 137 #[.val (.int p0), .val (.int p1), .val (.int p2), .val (.int a0v), .val (.int a1v), .val (.int a2v), .val (.int (Int32.ofNat la)), .val (.int k98_0), .val (.int k100_0), .val (.int k102_0), .val (.int (Int32.ofNat lb)), .unset, .unset, .unset, .unset, .unset, .unset, .unset, .unset, .unset] [(.int k104_0)])) _
            refine XS.istore X0.here hx rfl (hb hby at_137) rfl (l' := #[.val (.int p0), .val (.int p1), .val (.int p2), .val (.int a0v), .val (.int a1v), .val (.int a2v), .val (.int (Int32.ofNat la)), .val (.int k98_0), .val (.int k100_0), .val (.int k102_0), .val (.int (Int32.ofNat lb)), .val (.int k104_0), .unset, .unset, .unset, .unset, .unset, .unset, .unset, .unset]) rfl ?_
            show Steps p.tables e below (s₁.setTop (mkF m 139 #[.val (.int p0), .val (.int p1), .val (.int p2), .val (.int a0v), .val (.int a1v), .val (.int a2v), .val (.int (Int32.ofNat la)), .val (.int k98_0), .val (.int k100_0), .val (.int k102_0), .val (.int (Int32.ofNat lb)), .val (.int k104_0), .unset, .unset, .unset, .unset, .unset, .unset, .unset, .unset] [])) _
            refine XS.iloadN X0.here hx rfl (hb hby at_139) rfl ?_
            show Steps p.tables e below (s₁.setTop (mkF m 140 #[.val (.int p0), .val (.int p1), .val (.int p2), .val (.int a0v), .val (.int a1v), .val (.int a2v), .val (.int (Int32.ofNat la)), .val (.int k98_0), .val (.int k100_0), .val (.int k102_0), .val (.int (Int32.ofNat lb)), .val (.int k104_0), .unset, .unset, .unset, .unset, .unset, .unset, .unset, .unset] [(.int p2)])) _
            refine XS.bipush X0.here hx rfl (hb hby at_140) ?_
            show Steps p.tables e below (s₁.setTop (mkF m 142 #[.val (.int p0), .val (.int p1), .val (.int p2), .val (.int a0v), .val (.int a1v), .val (.int a2v), .val (.int (Int32.ofNat la)), .val (.int k98_0), .val (.int k100_0), .val (.int k102_0), .val (.int (Int32.ofNat lb)), .val (.int k104_0), .unset, .unset, .unset, .unset, .unset, .unset, .unset, .unset] [(.int (16 : Int32)), (.int p2)])) _
            refine XS.iand X0.here hx rfl (hb hby at_142) rfl ?_
            exact kt
          have J106 : ∀ (k106_0 : Int32), k106_0 = (if (p2 &&& (16 : Int32)) = 0 then (0 : Int32) else (1 : Int32)) → GotW p e below s (fun _ L => Fr n0 L) room_1.cells room_1.slots (some (.int (1 : Int32))) s₁ (mkF m 151 #[.val (.int p0), .val (.int p1), .val (.int p2), .val (.int a0v), .val (.int a1v), .val (.int a2v), .val (.int (Int32.ofNat la)), .val (.int k98_0), .val (.int k100_0), .val (.int k102_0), .val (.int (Int32.ofNat lb)), .val (.int k104_0), .unset, .unset, .unset, .unset, .unset, .unset, .unset, .unset] [(.int k106_0)]) := by
            intro k106_0 hk106_0
            refine GotW.step (T' := s₁) (g' := (mkF m 155 #[.val (.int p0), .val (.int p1), .val (.int p2), .val (.int a0v), .val (.int a1v), .val (.int a2v), .val (.int (Int32.ofNat la)), .val (.int k98_0), .val (.int k100_0), .val (.int k102_0), .val (.int (Int32.ofNat lb)), .val (.int k104_0), .val (.int k106_0), .unset, .unset, .unset, .unset, .unset, .unset, .unset] [(.int k104_0)])) (fun tq kt => ?_) ?_
            · show Steps p.tables e below (s₁.setTop (mkF m 151 #[.val (.int p0), .val (.int p1), .val (.int p2), .val (.int a0v), .val (.int a1v), .val (.int a2v), .val (.int (Int32.ofNat la)), .val (.int k98_0), .val (.int k100_0), .val (.int k102_0), .val (.int (Int32.ofNat lb)), .val (.int k104_0), .unset, .unset, .unset, .unset, .unset, .unset, .unset, .unset] [(.int k106_0)])) _
              refine XS.istore X0.here hx rfl (hb hby at_151) rfl (l' := #[.val (.int p0), .val (.int p1), .val (.int p2), .val (.int a0v), .val (.int a1v), .val (.int a2v), .val (.int (Int32.ofNat la)), .val (.int k98_0), .val (.int k100_0), .val (.int k102_0), .val (.int (Int32.ofNat lb)), .val (.int k104_0), .val (.int k106_0), .unset, .unset, .unset, .unset, .unset, .unset, .unset]) rfl ?_
              show Steps p.tables e below (s₁.setTop (mkF m 153 #[.val (.int p0), .val (.int p1), .val (.int p2), .val (.int a0v), .val (.int a1v), .val (.int a2v), .val (.int (Int32.ofNat la)), .val (.int k98_0), .val (.int k100_0), .val (.int k102_0), .val (.int (Int32.ofNat lb)), .val (.int k104_0), .val (.int k106_0), .unset, .unset, .unset, .unset, .unset, .unset, .unset] [])) _
              refine XS.iload X0.here hx rfl (hb hby at_153) rfl ?_
              exact kt
            have J108 : ∀ (k108_0 : Int32), k108_0 = (if k104_0 = 0 then (0 : Int32) else (4 : Int32)) → GotW p e below s (fun _ L => Fr n0 L) room_1.cells room_1.slots (some (.int (1 : Int32))) s₁ (mkF m 163 #[.val (.int p0), .val (.int p1), .val (.int p2), .val (.int a0v), .val (.int a1v), .val (.int a2v), .val (.int (Int32.ofNat la)), .val (.int k98_0), .val (.int k100_0), .val (.int k102_0), .val (.int (Int32.ofNat lb)), .val (.int k104_0), .val (.int k106_0), .unset, .unset, .unset, .unset, .unset, .unset, .unset] [(.int k108_0)]) := by
              intro k108_0 hk108_0
              refine GotW.step (T' := s₁) (g' := (mkF m 167 #[.val (.int p0), .val (.int p1), .val (.int p2), .val (.int a0v), .val (.int a1v), .val (.int a2v), .val (.int (Int32.ofNat la)), .val (.int k98_0), .val (.int k100_0), .val (.int k102_0), .val (.int (Int32.ofNat lb)), .val (.int k104_0), .val (.int k106_0), .val (.int k108_0), .unset, .unset, .unset, .unset, .unset, .unset] [(.int k104_0)])) (fun tq kt => ?_) ?_
              · show Steps p.tables e below (s₁.setTop (mkF m 163 #[.val (.int p0), .val (.int p1), .val (.int p2), .val (.int a0v), .val (.int a1v), .val (.int a2v), .val (.int (Int32.ofNat la)), .val (.int k98_0), .val (.int k100_0), .val (.int k102_0), .val (.int (Int32.ofNat lb)), .val (.int k104_0), .val (.int k106_0), .unset, .unset, .unset, .unset, .unset, .unset, .unset] [(.int k108_0)])) _
                refine XS.istore X0.here hx rfl (hb hby at_163) rfl (l' := #[.val (.int p0), .val (.int p1), .val (.int p2), .val (.int a0v), .val (.int a1v), .val (.int a2v), .val (.int (Int32.ofNat la)), .val (.int k98_0), .val (.int k100_0), .val (.int k102_0), .val (.int (Int32.ofNat lb)), .val (.int k104_0), .val (.int k106_0), .val (.int k108_0), .unset, .unset, .unset, .unset, .unset, .unset]) rfl ?_
                show Steps p.tables e below (s₁.setTop (mkF m 165 #[.val (.int p0), .val (.int p1), .val (.int p2), .val (.int a0v), .val (.int a1v), .val (.int a2v), .val (.int (Int32.ofNat la)), .val (.int k98_0), .val (.int k100_0), .val (.int k102_0), .val (.int (Int32.ofNat lb)), .val (.int k104_0), .val (.int k106_0), .val (.int k108_0), .unset, .unset, .unset, .unset, .unset, .unset] [])) _
                refine XS.iload X0.here hx rfl (hb hby at_165) rfl ?_
                exact kt
              have J110 : ∀ (k110_0 : Int32), k110_0 = (if k104_0 = 0 then (4 : Int32) else (0 : Int32)) → GotW p e below s (fun _ L => Fr n0 L) room_1.cells room_1.slots (some (.int (1 : Int32))) s₁ (mkF m 175 #[.val (.int p0), .val (.int p1), .val (.int p2), .val (.int a0v), .val (.int a1v), .val (.int a2v), .val (.int (Int32.ofNat la)), .val (.int k98_0), .val (.int k100_0), .val (.int k102_0), .val (.int (Int32.ofNat lb)), .val (.int k104_0), .val (.int k106_0), .val (.int k108_0), .unset, .unset, .unset, .unset, .unset, .unset] [(.int k110_0)]) := by
                intro k110_0 hk110_0
                refine GotW.step (T' := s₁) (g' := (mkF m 177 #[.val (.int p0), .val (.int p1), .val (.int p2), .val (.int a0v), .val (.int a1v), .val (.int a2v), .val (.int (Int32.ofNat la)), .val (.int k98_0), .val (.int k100_0), .val (.int k102_0), .val (.int (Int32.ofNat lb)), .val (.int k104_0), .val (.int k106_0), .val (.int k108_0), .val (.int k110_0), .unset, .unset, .unset, .unset, .unset] [])) (fun tq kt => ?_) ?_
                · show Steps p.tables e below (s₁.setTop (mkF m 175 #[.val (.int p0), .val (.int p1), .val (.int p2), .val (.int a0v), .val (.int a1v), .val (.int a2v), .val (.int (Int32.ofNat la)), .val (.int k98_0), .val (.int k100_0), .val (.int k102_0), .val (.int (Int32.ofNat lb)), .val (.int k104_0), .val (.int k106_0), .val (.int k108_0), .unset, .unset, .unset, .unset, .unset, .unset] [(.int k110_0)])) _
                  refine XS.istore X0.here hx rfl (hb hby at_175) rfl (l' := #[.val (.int p0), .val (.int p1), .val (.int p2), .val (.int a0v), .val (.int a1v), .val (.int a2v), .val (.int (Int32.ofNat la)), .val (.int k98_0), .val (.int k100_0), .val (.int k102_0), .val (.int (Int32.ofNat lb)), .val (.int k104_0), .val (.int k106_0), .val (.int k108_0), .val (.int k110_0), .unset, .unset, .unset, .unset, .unset]) rfl ?_
                  exact kt
                obtain ⟨fa, fb, efa, efb, hoff⟩ := own_off hk108_0 hk110_0
                rw [efa]
                show GotW p e below s _ _ _ _ s₁ (mkF m 177 #[.val (.int p0), .val (.int p1), .val (.int p2), .val (.int a0v), .val (.int a1v), .val (.int a2v), .val (.int (Int32.ofNat la)), .val (.int k98_0), .val (.int k100_0), .val (.int k102_0), .val (.int (Int32.ofNat lb)), .val (.int k104_0), .val (.int k106_0), .val (.int (Int32.ofNat fa)), .val (.int k110_0), .unset, .unset, .unset, .unset, .unset] [])
                rw [efb]
                show GotW p e below s _ _ _ _ s₁ (mkF m 177 #[.val (.int p0), .val (.int p1), .val (.int p2), .val (.int a0v), .val (.int a1v), .val (.int a2v), .val (.int (Int32.ofNat la)), .val (.int k98_0), .val (.int k100_0), .val (.int k102_0), .val (.int (Int32.ofNat lb)), .val (.int k104_0), .val (.int k106_0), .val (.int (Int32.ofNat fa)), .val (.int (Int32.ofNat fb)), .unset, .unset, .unset, .unset, .unset] [])
                have hfa : fa ≤ 4 := by omega
                have hfb : fb ≤ 4 := by omega
                refine GotW.step (T' := s₁) (g' := (mkF m 179 #[.val (.int p0), .val (.int p1), .val (.int p2), .val (.int a0v), .val (.int a1v), .val (.int a2v), .val (.int (Int32.ofNat la)), .val (.int k98_0), .val (.int k100_0), .val (.int k102_0), .val (.int (Int32.ofNat lb)), .val (.int k104_0), .val (.int k106_0), .val (.int (Int32.ofNat fa)), .val (.int (Int32.ofNat fb)), .unset, .unset, .unset, .unset, .unset] [(.int (8 : Int32))])) (fun tq kt => ?_) ?_
                · show Steps p.tables e below (s₁.setTop (mkF m 177 #[.val (.int p0), .val (.int p1), .val (.int p2), .val (.int a0v), .val (.int a1v), .val (.int a2v), .val (.int (Int32.ofNat la)), .val (.int k98_0), .val (.int k100_0), .val (.int k102_0), .val (.int (Int32.ofNat lb)), .val (.int k104_0), .val (.int k106_0), .val (.int (Int32.ofNat fa)), .val (.int (Int32.ofNat fb)), .unset, .unset, .unset, .unset, .unset] [])) _
                  refine XS.bipush X0.here hx rfl (hb hby at_177) ?_
                  exact kt
                obtain ⟨T112, h112, k112, X112, e112, E112, A112, st112⟩ := newP X0 hx hZ (hw _ (List.mem_of_getElem? (i := 0) rfl)) e0 (g := (mkF m 179 #[.val (.int p0), .val (.int p1), .val (.int p2), .val (.int a0v), .val (.int a1v), .val (.int a2v), .val (.int (Int32.ofNat la)), .val (.int k98_0), .val (.int k100_0), .val (.int k102_0), .val (.int (Int32.ofNat lb)), .val (.int k104_0), .val (.int k106_0), .val (.int (Int32.ofNat fa)), .val (.int (Int32.ofNat fb)), .unset, .unset, .unset, .unset, .unset] [(.int (8 : Int32))])) rfl (hb hby at_179) rfl (by decide) (cap := 8) (by decide) (by decide) (by decide) (by decide)
                obtain ⟨b112, g112⟩ : ∃ z, z = h0.size := ⟨_, rfl⟩
                rw [← g112] at A112 st112
                have gn_b112 : n0 ≤ b112 := by rw [g112]; exact Z0
                have Z0_113 : n0 ≤ h112.size := (Nat.le_trans Z0 E112.1)
                have V112 : Arv Z h112 b112 k112 .byte (8 : Int32) [(.int (0 : Int32)), (.int (0 : Int32)), (.int (0 : Int32)), (.int (0 : Int32)), (.int (0 : Int32)), (.int (0 : Int32)), (.int (0 : Int32)), (.int (0 : Int32))] (.int (0 : Int32)) := (Arv.new A112 (by decide)).pad (pad_rep [] (.int (0 : Int32)) 8)
                refine GotW.step st112 ?_
                show GotW p e below s _ _ _ _ T112 (mkF m 181 #[.val (.int p0), .val (.int p1), .val (.int p2), .val (.int a0v), .val (.int a1v), .val (.int a2v), .val (.int (Int32.ofNat la)), .val (.int k98_0), .val (.int k100_0), .val (.int k102_0), .val (.int (Int32.ofNat lb)), .val (.int k104_0), .val (.int k106_0), .val (.int (Int32.ofNat fa)), .val (.int (Int32.ofNat fb)), .unset, .unset, .unset, .unset, .unset] [(.ref b112)])
                refine GotW.step (T' := T112) (g' := (mkF m 183 #[.val (.int p0), .val (.int p1), .val (.int p2), .val (.int a0v), .val (.int a1v), .val (.int a2v), .val (.int (Int32.ofNat la)), .val (.int k98_0), .val (.int k100_0), .val (.int k102_0), .val (.int (Int32.ofNat lb)), .val (.int k104_0), .val (.int k106_0), .val (.int (Int32.ofNat fa)), .val (.int (Int32.ofNat fb)), .val (.ref b112), .unset, .unset, .unset, .unset] [])) (fun tq kt => ?_) ?_
                · show Steps p.tables e below (T112.setTop (mkF m 181 #[.val (.int p0), .val (.int p1), .val (.int p2), .val (.int a0v), .val (.int a1v), .val (.int a2v), .val (.int (Int32.ofNat la)), .val (.int k98_0), .val (.int k100_0), .val (.int k102_0), .val (.int (Int32.ofNat lb)), .val (.int k104_0), .val (.int k106_0), .val (.int (Int32.ofNat fa)), .val (.int (Int32.ofNat fb)), .unset, .unset, .unset, .unset, .unset] [(.ref b112)])) _
                  refine XS.astore X112.here hx rfl (hb hby at_181) rfl rfl (l' := #[.val (.int p0), .val (.int p1), .val (.int p2), .val (.int a0v), .val (.int a1v), .val (.int a2v), .val (.int (Int32.ofNat la)), .val (.int k98_0), .val (.int k100_0), .val (.int k102_0), .val (.int (Int32.ofNat lb)), .val (.int k104_0), .val (.int k106_0), .val (.int (Int32.ofNat fa)), .val (.int (Int32.ofNat fb)), .val (.ref b112), .unset, .unset, .unset, .unset]) rfl ?_
                  exact kt
                obtain ⟨B0, hB0⟩ : ∃ v : List Int32, v = [(0 : Int32), (0 : Int32), (0 : Int32), (0 : Int32), (0 : Int32), (0 : Int32), (0 : Int32), (0 : Int32)] := ⟨_, rfl⟩
                have hl0 : B0.length = 8 := by rw [hB0]; rfl
                have VB0 : Arv Z h112 b112 k112 .byte (8 : Int32) (B0.map Value.int) (.int (0 : Int32)) := by rw [hB0]; exact V112
                refine GotW.step (T' := T112) (g' := (mkF m 189 #[.val (.int p0), .val (.int p1), .val (.int p2), .val (.int a0v), .val (.int a1v), .val (.int a2v), .val (.int (Int32.ofNat la)), .val (.int k98_0), .val (.int k100_0), .val (.int k102_0), .val (.int (Int32.ofNat lb)), .val (.int k104_0), .val (.int k106_0), .val (.int (Int32.ofNat fa)), .val (.int (Int32.ofNat fb)), .val (.ref b112), .unset, .unset, .unset, .unset] [(.int (a0v.toInt8.toInt32)), (.int (Int32.ofNat fa)), (.ref b112)])) (fun tq kt => ?_) ?_
                · show Steps p.tables e below (T112.setTop (mkF m 183 #[.val (.int p0), .val (.int p1), .val (.int p2), .val (.int a0v), .val (.int a1v), .val (.int a2v), .val (.int (Int32.ofNat la)), .val (.int k98_0), .val (.int k100_0), .val (.int k102_0), .val (.int (Int32.ofNat lb)), .val (.int k104_0), .val (.int k106_0), .val (.int (Int32.ofNat fa)), .val (.int (Int32.ofNat fb)), .val (.ref b112), .unset, .unset, .unset, .unset] [])) _
                  refine XS.aload X112.here hx rfl (hb hby at_183) rfl rfl ?_
                  show Steps p.tables e below (T112.setTop (mkF m 185 #[.val (.int p0), .val (.int p1), .val (.int p2), .val (.int a0v), .val (.int a1v), .val (.int a2v), .val (.int (Int32.ofNat la)), .val (.int k98_0), .val (.int k100_0), .val (.int k102_0), .val (.int (Int32.ofNat lb)), .val (.int k104_0), .val (.int k106_0), .val (.int (Int32.ofNat fa)), .val (.int (Int32.ofNat fb)), .val (.ref b112), .unset, .unset, .unset, .unset] [(.ref b112)])) _
                  refine XS.iload X112.here hx rfl (hb hby at_185) rfl ?_
                  show Steps p.tables e below (T112.setTop (mkF m 187 #[.val (.int p0), .val (.int p1), .val (.int p2), .val (.int a0v), .val (.int a1v), .val (.int a2v), .val (.int (Int32.ofNat la)), .val (.int k98_0), .val (.int k100_0), .val (.int k102_0), .val (.int (Int32.ofNat lb)), .val (.int k104_0), .val (.int k106_0), .val (.int (Int32.ofNat fa)), .val (.int (Int32.ofNat fb)), .val (.ref b112), .unset, .unset, .unset, .unset] [(.int (Int32.ofNat fa)), (.ref b112)])) _
                  refine XS.iloadN X112.here hx rfl (hb hby at_187) rfl ?_
                  show Steps p.tables e below (T112.setTop (mkF m 188 #[.val (.int p0), .val (.int p1), .val (.int p2), .val (.int a0v), .val (.int a1v), .val (.int a2v), .val (.int (Int32.ofNat la)), .val (.int k98_0), .val (.int k100_0), .val (.int k102_0), .val (.int (Int32.ofNat lb)), .val (.int k104_0), .val (.int k106_0), .val (.int (Int32.ofNat fa)), .val (.int (Int32.ofNat fb)), .val (.ref b112), .unset, .unset, .unset, .unset] [(.int a0v), (.int (Int32.ofNat fa)), (.ref b112)])) _
                  refine XS.i2b X112.here hx rfl (hb hby at_188) rfl ?_
                  exact kt
                obtain ⟨cl114, Ar114, q114, S114, M114, H114, G114⟩ := (id VB0)
                have hin114 : ¬ ((Int32.ofNat fa) < 0 ∨ cl114.slots.size ≤ ((Int32.ofNat fa)).toNatClampNeg) := inb_of S114 (own_st0 hfa)
                obtain ⟨T114, h114, X114, e114, W114, st114⟩ := stB X112 hx hZ e112 Ar114 (j := (Int32.ofNat fa)) hin114 (g := (mkF m 189 #[.val (.int p0), .val (.int p1), .val (.int p2), .val (.int a0v), .val (.int a1v), .val (.int a2v), .val (.int (Int32.ofNat la)), .val (.int k98_0), .val (.int k100_0), .val (.int k102_0), .val (.int (Int32.ofNat lb)), .val (.int k104_0), .val (.int k106_0), .val (.int (Int32.ofNat fa)), .val (.int (Int32.ofNat fb)), .val (.ref b112), .unset, .unset, .unset, .unset] [(.int (a0v.toInt8.toInt32)), (.int (Int32.ofNat fa)), (.ref b112)])) rfl rfl (hb hby at_189)
                rw [narB] at W114
                have Z0_115 : n0 ≤ h114.size := (Nat.le_trans Z0_113 (Keep.of_wr W114).1)
                have V114 : Arv Z h114 b112 k112 .byte (8 : Int32) ((B0.set fa (a0v.toInt8.toInt32)).map Value.int) (.int (0 : Int32)) := by rw [List.map_set]; exact Arv.set Ar114 q114 S114 M114 H114 G114 (fits_nar_byte _) W114 fa (own_hj0 hfa) (by simp only [List.length_map, List.length_set, hl0]; omega)
                have N114 := Fr.snoc X114 N0 gn_b112
                refine GotW.step st114 ?_
                show GotW p e below s _ _ _ _ T114 (mkF m 190 #[.val (.int p0), .val (.int p1), .val (.int p2), .val (.int a0v), .val (.int a1v), .val (.int a2v), .val (.int (Int32.ofNat la)), .val (.int k98_0), .val (.int k100_0), .val (.int k102_0), .val (.int (Int32.ofNat lb)), .val (.int k104_0), .val (.int k106_0), .val (.int (Int32.ofNat fa)), .val (.int (Int32.ofNat fb)), .val (.ref b112), .unset, .unset, .unset, .unset] [])
                refine GotW.step (T' := T114) (g' := (mkF m 199 #[.val (.int p0), .val (.int p1), .val (.int p2), .val (.int a0v), .val (.int a1v), .val (.int a2v), .val (.int (Int32.ofNat la)), .val (.int k98_0), .val (.int k100_0), .val (.int k102_0), .val (.int (Int32.ofNat lb)), .val (.int k104_0), .val (.int k106_0), .val (.int (Int32.ofNat fa)), .val (.int (Int32.ofNat fb)), .val (.ref b112), .unset, .unset, .unset, .unset] [(.int (a1v.toInt8.toInt32)), (.int ((Int32.ofNat fa) + (1 : Int32))), (.ref b112)])) (fun tq kt => ?_) ?_
                · show Steps p.tables e below (T114.setTop (mkF m 190 #[.val (.int p0), .val (.int p1), .val (.int p2), .val (.int a0v), .val (.int a1v), .val (.int a2v), .val (.int (Int32.ofNat la)), .val (.int k98_0), .val (.int k100_0), .val (.int k102_0), .val (.int (Int32.ofNat lb)), .val (.int k104_0), .val (.int k106_0), .val (.int (Int32.ofNat fa)), .val (.int (Int32.ofNat fb)), .val (.ref b112), .unset, .unset, .unset, .unset] [])) _
                  refine XS.aload X114.here hx rfl (hb hby at_190) rfl rfl ?_
                  show Steps p.tables e below (T114.setTop (mkF m 192 #[.val (.int p0), .val (.int p1), .val (.int p2), .val (.int a0v), .val (.int a1v), .val (.int a2v), .val (.int (Int32.ofNat la)), .val (.int k98_0), .val (.int k100_0), .val (.int k102_0), .val (.int (Int32.ofNat lb)), .val (.int k104_0), .val (.int k106_0), .val (.int (Int32.ofNat fa)), .val (.int (Int32.ofNat fb)), .val (.ref b112), .unset, .unset, .unset, .unset] [(.ref b112)])) _
                  refine XS.iload X114.here hx rfl (hb hby at_192) rfl ?_
                  show Steps p.tables e below (T114.setTop (mkF m 194 #[.val (.int p0), .val (.int p1), .val (.int p2), .val (.int a0v), .val (.int a1v), .val (.int a2v), .val (.int (Int32.ofNat la)), .val (.int k98_0), .val (.int k100_0), .val (.int k102_0), .val (.int (Int32.ofNat lb)), .val (.int k104_0), .val (.int k106_0), .val (.int (Int32.ofNat fa)), .val (.int (Int32.ofNat fb)), .val (.ref b112), .unset, .unset, .unset, .unset] [(.int (Int32.ofNat fa)), (.ref b112)])) _
                  refine XS.iconst X114.here hx rfl (hb hby at_194) ?_
                  show Steps p.tables e below (T114.setTop (mkF m 195 #[.val (.int p0), .val (.int p1), .val (.int p2), .val (.int a0v), .val (.int a1v), .val (.int a2v), .val (.int (Int32.ofNat la)), .val (.int k98_0), .val (.int k100_0), .val (.int k102_0), .val (.int (Int32.ofNat lb)), .val (.int k104_0), .val (.int k106_0), .val (.int (Int32.ofNat fa)), .val (.int (Int32.ofNat fb)), .val (.ref b112), .unset, .unset, .unset, .unset] [(.int (1 : Int32)), (.int (Int32.ofNat fa)), (.ref b112)])) _
                  refine XS.iadd X114.here hx rfl (hb hby at_195) rfl ?_
                  show Steps p.tables e below (T114.setTop (mkF m 196 #[.val (.int p0), .val (.int p1), .val (.int p2), .val (.int a0v), .val (.int a1v), .val (.int a2v), .val (.int (Int32.ofNat la)), .val (.int k98_0), .val (.int k100_0), .val (.int k102_0), .val (.int (Int32.ofNat lb)), .val (.int k104_0), .val (.int k106_0), .val (.int (Int32.ofNat fa)), .val (.int (Int32.ofNat fb)), .val (.ref b112), .unset, .unset, .unset, .unset] [(.int ((Int32.ofNat fa) + (1 : Int32))), (.ref b112)])) _
                  refine XS.iload X114.here hx rfl (hb hby at_196) rfl ?_
                  show Steps p.tables e below (T114.setTop (mkF m 198 #[.val (.int p0), .val (.int p1), .val (.int p2), .val (.int a0v), .val (.int a1v), .val (.int a2v), .val (.int (Int32.ofNat la)), .val (.int k98_0), .val (.int k100_0), .val (.int k102_0), .val (.int (Int32.ofNat lb)), .val (.int k104_0), .val (.int k106_0), .val (.int (Int32.ofNat fa)), .val (.int (Int32.ofNat fb)), .val (.ref b112), .unset, .unset, .unset, .unset] [(.int a1v), (.int ((Int32.ofNat fa) + (1 : Int32))), (.ref b112)])) _
                  refine XS.i2b X114.here hx rfl (hb hby at_198) rfl ?_
                  exact kt
                obtain ⟨cl116, Ar116, q116, S116, M116, H116, G116⟩ := (id V114)
                have hin116 : ¬ (((Int32.ofNat fa) + (1 : Int32)) < 0 ∨ cl116.slots.size ≤ (((Int32.ofNat fa) + (1 : Int32))).toNatClampNeg) := inb_of S116 (own_st1 hfa)
                obtain ⟨T116, h116, X116, e116, W116, st116⟩ := stB X114 hx hZ e114 Ar116 (j := ((Int32.ofNat fa) + (1 : Int32))) hin116 (g := (mkF m 199 #[.val (.int p0), .val (.int p1), .val (.int p2), .val (.int a0v), .val (.int a1v), .val (.int a2v), .val (.int (Int32.ofNat la)), .val (.int k98_0), .val (.int k100_0), .val (.int k102_0), .val (.int (Int32.ofNat lb)), .val (.int k104_0), .val (.int k106_0), .val (.int (Int32.ofNat fa)), .val (.int (Int32.ofNat fb)), .val (.ref b112), .unset, .unset, .unset, .unset] [(.int (a1v.toInt8.toInt32)), (.int ((Int32.ofNat fa) + (1 : Int32))), (.ref b112)])) rfl rfl (hb hby at_199)
                rw [narB] at W116
                have Z0_117 : n0 ≤ h116.size := (Nat.le_trans Z0_115 (Keep.of_wr W116).1)
                have V116 : Arv Z h116 b112 k112 .byte (8 : Int32) (((B0.set fa (a0v.toInt8.toInt32)).set (fa + 1) (a1v.toInt8.toInt32)).map Value.int) (.int (0 : Int32)) := by rw [List.map_set]; exact Arv.set Ar116 q116 S116 M116 H116 G116 (fits_nar_byte _) W116 (fa + 1) (own_hj1 hfa) (by simp only [List.length_map, List.length_set, hl0]; omega)
                have N116 := Fr.snoc X116 N114 gn_b112
                refine GotW.step st116 ?_
                show GotW p e below s _ _ _ _ T116 (mkF m 200 #[.val (.int p0), .val (.int p1), .val (.int p2), .val (.int a0v), .val (.int a1v), .val (.int a2v), .val (.int (Int32.ofNat la)), .val (.int k98_0), .val (.int k100_0), .val (.int k102_0), .val (.int (Int32.ofNat lb)), .val (.int k104_0), .val (.int k106_0), .val (.int (Int32.ofNat fa)), .val (.int (Int32.ofNat fb)), .val (.ref b112), .unset, .unset, .unset, .unset] [])
                refine GotW.step (T' := T116) (g' := (mkF m 209 #[.val (.int p0), .val (.int p1), .val (.int p2), .val (.int a0v), .val (.int a1v), .val (.int a2v), .val (.int (Int32.ofNat la)), .val (.int k98_0), .val (.int k100_0), .val (.int k102_0), .val (.int (Int32.ofNat lb)), .val (.int k104_0), .val (.int k106_0), .val (.int (Int32.ofNat fa)), .val (.int (Int32.ofNat fb)), .val (.ref b112), .unset, .unset, .unset, .unset] [(.int (a2v.toInt8.toInt32)), (.int ((Int32.ofNat fa) + (2 : Int32))), (.ref b112)])) (fun tq kt => ?_) ?_
                · show Steps p.tables e below (T116.setTop (mkF m 200 #[.val (.int p0), .val (.int p1), .val (.int p2), .val (.int a0v), .val (.int a1v), .val (.int a2v), .val (.int (Int32.ofNat la)), .val (.int k98_0), .val (.int k100_0), .val (.int k102_0), .val (.int (Int32.ofNat lb)), .val (.int k104_0), .val (.int k106_0), .val (.int (Int32.ofNat fa)), .val (.int (Int32.ofNat fb)), .val (.ref b112), .unset, .unset, .unset, .unset] [])) _
                  refine XS.aload X116.here hx rfl (hb hby at_200) rfl rfl ?_
                  show Steps p.tables e below (T116.setTop (mkF m 202 #[.val (.int p0), .val (.int p1), .val (.int p2), .val (.int a0v), .val (.int a1v), .val (.int a2v), .val (.int (Int32.ofNat la)), .val (.int k98_0), .val (.int k100_0), .val (.int k102_0), .val (.int (Int32.ofNat lb)), .val (.int k104_0), .val (.int k106_0), .val (.int (Int32.ofNat fa)), .val (.int (Int32.ofNat fb)), .val (.ref b112), .unset, .unset, .unset, .unset] [(.ref b112)])) _
                  refine XS.iload X116.here hx rfl (hb hby at_202) rfl ?_
                  show Steps p.tables e below (T116.setTop (mkF m 204 #[.val (.int p0), .val (.int p1), .val (.int p2), .val (.int a0v), .val (.int a1v), .val (.int a2v), .val (.int (Int32.ofNat la)), .val (.int k98_0), .val (.int k100_0), .val (.int k102_0), .val (.int (Int32.ofNat lb)), .val (.int k104_0), .val (.int k106_0), .val (.int (Int32.ofNat fa)), .val (.int (Int32.ofNat fb)), .val (.ref b112), .unset, .unset, .unset, .unset] [(.int (Int32.ofNat fa)), (.ref b112)])) _
                  refine XS.iconst X116.here hx rfl (hb hby at_204) ?_
                  show Steps p.tables e below (T116.setTop (mkF m 205 #[.val (.int p0), .val (.int p1), .val (.int p2), .val (.int a0v), .val (.int a1v), .val (.int a2v), .val (.int (Int32.ofNat la)), .val (.int k98_0), .val (.int k100_0), .val (.int k102_0), .val (.int (Int32.ofNat lb)), .val (.int k104_0), .val (.int k106_0), .val (.int (Int32.ofNat fa)), .val (.int (Int32.ofNat fb)), .val (.ref b112), .unset, .unset, .unset, .unset] [(.int (2 : Int32)), (.int (Int32.ofNat fa)), (.ref b112)])) _
                  refine XS.iadd X116.here hx rfl (hb hby at_205) rfl ?_
                  show Steps p.tables e below (T116.setTop (mkF m 206 #[.val (.int p0), .val (.int p1), .val (.int p2), .val (.int a0v), .val (.int a1v), .val (.int a2v), .val (.int (Int32.ofNat la)), .val (.int k98_0), .val (.int k100_0), .val (.int k102_0), .val (.int (Int32.ofNat lb)), .val (.int k104_0), .val (.int k106_0), .val (.int (Int32.ofNat fa)), .val (.int (Int32.ofNat fb)), .val (.ref b112), .unset, .unset, .unset, .unset] [(.int ((Int32.ofNat fa) + (2 : Int32))), (.ref b112)])) _
                  refine XS.iload X116.here hx rfl (hb hby at_206) rfl ?_
                  show Steps p.tables e below (T116.setTop (mkF m 208 #[.val (.int p0), .val (.int p1), .val (.int p2), .val (.int a0v), .val (.int a1v), .val (.int a2v), .val (.int (Int32.ofNat la)), .val (.int k98_0), .val (.int k100_0), .val (.int k102_0), .val (.int (Int32.ofNat lb)), .val (.int k104_0), .val (.int k106_0), .val (.int (Int32.ofNat fa)), .val (.int (Int32.ofNat fb)), .val (.ref b112), .unset, .unset, .unset, .unset] [(.int a2v), (.int ((Int32.ofNat fa) + (2 : Int32))), (.ref b112)])) _
                  refine XS.i2b X116.here hx rfl (hb hby at_208) rfl ?_
                  exact kt
                obtain ⟨cl118, Ar118, q118, S118, M118, H118, G118⟩ := (id V116)
                have hin118 : ¬ (((Int32.ofNat fa) + (2 : Int32)) < 0 ∨ cl118.slots.size ≤ (((Int32.ofNat fa) + (2 : Int32))).toNatClampNeg) := inb_of S118 (own_st2 hfa)
                obtain ⟨T118, h118, X118, e118, W118, st118⟩ := stB X116 hx hZ e116 Ar118 (j := ((Int32.ofNat fa) + (2 : Int32))) hin118 (g := (mkF m 209 #[.val (.int p0), .val (.int p1), .val (.int p2), .val (.int a0v), .val (.int a1v), .val (.int a2v), .val (.int (Int32.ofNat la)), .val (.int k98_0), .val (.int k100_0), .val (.int k102_0), .val (.int (Int32.ofNat lb)), .val (.int k104_0), .val (.int k106_0), .val (.int (Int32.ofNat fa)), .val (.int (Int32.ofNat fb)), .val (.ref b112), .unset, .unset, .unset, .unset] [(.int (a2v.toInt8.toInt32)), (.int ((Int32.ofNat fa) + (2 : Int32))), (.ref b112)])) rfl rfl (hb hby at_209)
                rw [narB] at W118
                have Z0_119 : n0 ≤ h118.size := (Nat.le_trans Z0_117 (Keep.of_wr W118).1)
                have V118 : Arv Z h118 b112 k112 .byte (8 : Int32) ((((B0.set fa (a0v.toInt8.toInt32)).set (fa + 1) (a1v.toInt8.toInt32)).set (fa + 2) (a2v.toInt8.toInt32)).map Value.int) (.int (0 : Int32)) := by rw [List.map_set]; exact Arv.set Ar118 q118 S118 M118 H118 G118 (fits_nar_byte _) W118 (fa + 2) (own_hj2 hfa) (by simp only [List.length_map, List.length_set, hl0]; omega)
                have N118 := Fr.snoc X118 N116 gn_b112
                refine GotW.step st118 ?_
                show GotW p e below s _ _ _ _ T118 (mkF m 210 #[.val (.int p0), .val (.int p1), .val (.int p2), .val (.int a0v), .val (.int a1v), .val (.int a2v), .val (.int (Int32.ofNat la)), .val (.int k98_0), .val (.int k100_0), .val (.int k102_0), .val (.int (Int32.ofNat lb)), .val (.int k104_0), .val (.int k106_0), .val (.int (Int32.ofNat fa)), .val (.int (Int32.ofNat fb)), .val (.ref b112), .unset, .unset, .unset, .unset] [])
                refine GotW.step (T' := T118) (g' := (mkF m 217 #[.val (.int p0), .val (.int p1), .val (.int p2), .val (.int a0v), .val (.int a1v), .val (.int a2v), .val (.int (Int32.ofNat la)), .val (.int k98_0), .val (.int k100_0), .val (.int k102_0), .val (.int (Int32.ofNat lb)), .val (.int k104_0), .val (.int k106_0), .val (.int (Int32.ofNat fa)), .val (.int (Int32.ofNat fb)), .val (.ref b112), .unset, .unset, .unset, .unset] [(.int (0 : Int32)), (.int ((Int32.ofNat fa) + (3 : Int32))), (.ref b112)])) (fun tq kt => ?_) ?_
                · show Steps p.tables e below (T118.setTop (mkF m 210 #[.val (.int p0), .val (.int p1), .val (.int p2), .val (.int a0v), .val (.int a1v), .val (.int a2v), .val (.int (Int32.ofNat la)), .val (.int k98_0), .val (.int k100_0), .val (.int k102_0), .val (.int (Int32.ofNat lb)), .val (.int k104_0), .val (.int k106_0), .val (.int (Int32.ofNat fa)), .val (.int (Int32.ofNat fb)), .val (.ref b112), .unset, .unset, .unset, .unset] [])) _
                  refine XS.aload X118.here hx rfl (hb hby at_210) rfl rfl ?_
                  show Steps p.tables e below (T118.setTop (mkF m 212 #[.val (.int p0), .val (.int p1), .val (.int p2), .val (.int a0v), .val (.int a1v), .val (.int a2v), .val (.int (Int32.ofNat la)), .val (.int k98_0), .val (.int k100_0), .val (.int k102_0), .val (.int (Int32.ofNat lb)), .val (.int k104_0), .val (.int k106_0), .val (.int (Int32.ofNat fa)), .val (.int (Int32.ofNat fb)), .val (.ref b112), .unset, .unset, .unset, .unset] [(.ref b112)])) _
                  refine XS.iload X118.here hx rfl (hb hby at_212) rfl ?_
                  show Steps p.tables e below (T118.setTop (mkF m 214 #[.val (.int p0), .val (.int p1), .val (.int p2), .val (.int a0v), .val (.int a1v), .val (.int a2v), .val (.int (Int32.ofNat la)), .val (.int k98_0), .val (.int k100_0), .val (.int k102_0), .val (.int (Int32.ofNat lb)), .val (.int k104_0), .val (.int k106_0), .val (.int (Int32.ofNat fa)), .val (.int (Int32.ofNat fb)), .val (.ref b112), .unset, .unset, .unset, .unset] [(.int (Int32.ofNat fa)), (.ref b112)])) _
                  refine XS.iconst X118.here hx rfl (hb hby at_214) ?_
                  show Steps p.tables e below (T118.setTop (mkF m 215 #[.val (.int p0), .val (.int p1), .val (.int p2), .val (.int a0v), .val (.int a1v), .val (.int a2v), .val (.int (Int32.ofNat la)), .val (.int k98_0), .val (.int k100_0), .val (.int k102_0), .val (.int (Int32.ofNat lb)), .val (.int k104_0), .val (.int k106_0), .val (.int (Int32.ofNat fa)), .val (.int (Int32.ofNat fb)), .val (.ref b112), .unset, .unset, .unset, .unset] [(.int (3 : Int32)), (.int (Int32.ofNat fa)), (.ref b112)])) _
                  refine XS.iadd X118.here hx rfl (hb hby at_215) rfl ?_
                  show Steps p.tables e below (T118.setTop (mkF m 216 #[.val (.int p0), .val (.int p1), .val (.int p2), .val (.int a0v), .val (.int a1v), .val (.int a2v), .val (.int (Int32.ofNat la)), .val (.int k98_0), .val (.int k100_0), .val (.int k102_0), .val (.int (Int32.ofNat lb)), .val (.int k104_0), .val (.int k106_0), .val (.int (Int32.ofNat fa)), .val (.int (Int32.ofNat fb)), .val (.ref b112), .unset, .unset, .unset, .unset] [(.int ((Int32.ofNat fa) + (3 : Int32))), (.ref b112)])) _
                  refine XS.iconst X118.here hx rfl (hb hby at_216) ?_
                  exact kt
                obtain ⟨cl120, Ar120, q120, S120, M120, H120, G120⟩ := (id V118)
                have hin120 : ¬ (((Int32.ofNat fa) + (3 : Int32)) < 0 ∨ cl120.slots.size ≤ (((Int32.ofNat fa) + (3 : Int32))).toNatClampNeg) := inb_of S120 (own_st3 hfa)
                obtain ⟨T120, h120, X120, e120, W120, st120⟩ := stB X118 hx hZ e118 Ar120 (j := ((Int32.ofNat fa) + (3 : Int32))) hin120 (g := (mkF m 217 #[.val (.int p0), .val (.int p1), .val (.int p2), .val (.int a0v), .val (.int a1v), .val (.int a2v), .val (.int (Int32.ofNat la)), .val (.int k98_0), .val (.int k100_0), .val (.int k102_0), .val (.int (Int32.ofNat lb)), .val (.int k104_0), .val (.int k106_0), .val (.int (Int32.ofNat fa)), .val (.int (Int32.ofNat fb)), .val (.ref b112), .unset, .unset, .unset, .unset] [(.int (0 : Int32)), (.int ((Int32.ofNat fa) + (3 : Int32))), (.ref b112)])) rfl rfl (hb hby at_217)
                have Z0_121 : n0 ≤ h120.size := (Nat.le_trans Z0_119 (Keep.of_wr W120).1)
                have V120 : Arv Z h120 b112 k112 .byte (8 : Int32) (((((B0.set fa (a0v.toInt8.toInt32)).set (fa + 1) (a1v.toInt8.toInt32)).set (fa + 2) (a2v.toInt8.toInt32)).set (fa + 3) (0 : Int32)).map Value.int) (.int (0 : Int32)) := by rw [List.map_set]; exact Arv.set Ar120 q120 S120 M120 H120 G120 (by decide) W120 (fa + 3) (own_hj3 hfa) (by simp only [List.length_map, List.length_set, hl0]; omega)
                have N120 := Fr.snoc X120 N118 gn_b112
                refine GotW.step st120 ?_
                show GotW p e below s _ _ _ _ T120 (mkF m 218 #[.val (.int p0), .val (.int p1), .val (.int p2), .val (.int a0v), .val (.int a1v), .val (.int a2v), .val (.int (Int32.ofNat la)), .val (.int k98_0), .val (.int k100_0), .val (.int k102_0), .val (.int (Int32.ofNat lb)), .val (.int k104_0), .val (.int k106_0), .val (.int (Int32.ofNat fa)), .val (.int (Int32.ofNat fb)), .val (.ref b112), .unset, .unset, .unset, .unset] [])
                refine GotW.step (T' := T120) (g' := (mkF m 226 #[.val (.int p0), .val (.int p1), .val (.int p2), .val (.int a0v), .val (.int a1v), .val (.int a2v), .val (.int (Int32.ofNat la)), .val (.int k98_0), .val (.int k100_0), .val (.int k102_0), .val (.int (Int32.ofNat lb)), .val (.int k104_0), .val (.int k106_0), .val (.int (Int32.ofNat fa)), .val (.int (Int32.ofNat fb)), .val (.ref b112), .unset, .unset, .unset, .unset] [(.int (-1 : Int32)), (.int ((Int32.ofNat fa) + (Int32.ofNat la))), (.ref b112)])) (fun tq kt => ?_) ?_
                · show Steps p.tables e below (T120.setTop (mkF m 218 #[.val (.int p0), .val (.int p1), .val (.int p2), .val (.int a0v), .val (.int a1v), .val (.int a2v), .val (.int (Int32.ofNat la)), .val (.int k98_0), .val (.int k100_0), .val (.int k102_0), .val (.int (Int32.ofNat lb)), .val (.int k104_0), .val (.int k106_0), .val (.int (Int32.ofNat fa)), .val (.int (Int32.ofNat fb)), .val (.ref b112), .unset, .unset, .unset, .unset] [])) _
                  refine XS.aload X120.here hx rfl (hb hby at_218) rfl rfl ?_
                  show Steps p.tables e below (T120.setTop (mkF m 220 #[.val (.int p0), .val (.int p1), .val (.int p2), .val (.int a0v), .val (.int a1v), .val (.int a2v), .val (.int (Int32.ofNat la)), .val (.int k98_0), .val (.int k100_0), .val (.int k102_0), .val (.int (Int32.ofNat lb)), .val (.int k104_0), .val (.int k106_0), .val (.int (Int32.ofNat fa)), .val (.int (Int32.ofNat fb)), .val (.ref b112), .unset, .unset, .unset, .unset] [(.ref b112)])) _
                  refine XS.iload X120.here hx rfl (hb hby at_220) rfl ?_
                  show Steps p.tables e below (T120.setTop (mkF m 222 #[.val (.int p0), .val (.int p1), .val (.int p2), .val (.int a0v), .val (.int a1v), .val (.int a2v), .val (.int (Int32.ofNat la)), .val (.int k98_0), .val (.int k100_0), .val (.int k102_0), .val (.int (Int32.ofNat lb)), .val (.int k104_0), .val (.int k106_0), .val (.int (Int32.ofNat fa)), .val (.int (Int32.ofNat fb)), .val (.ref b112), .unset, .unset, .unset, .unset] [(.int (Int32.ofNat fa)), (.ref b112)])) _
                  refine XS.iload X120.here hx rfl (hb hby at_222) rfl ?_
                  show Steps p.tables e below (T120.setTop (mkF m 224 #[.val (.int p0), .val (.int p1), .val (.int p2), .val (.int a0v), .val (.int a1v), .val (.int a2v), .val (.int (Int32.ofNat la)), .val (.int k98_0), .val (.int k100_0), .val (.int k102_0), .val (.int (Int32.ofNat lb)), .val (.int k104_0), .val (.int k106_0), .val (.int (Int32.ofNat fa)), .val (.int (Int32.ofNat fb)), .val (.ref b112), .unset, .unset, .unset, .unset] [(.int (Int32.ofNat la)), (.int (Int32.ofNat fa)), (.ref b112)])) _
                  refine XS.iadd X120.here hx rfl (hb hby at_224) rfl ?_
                  show Steps p.tables e below (T120.setTop (mkF m 225 #[.val (.int p0), .val (.int p1), .val (.int p2), .val (.int a0v), .val (.int a1v), .val (.int a2v), .val (.int (Int32.ofNat la)), .val (.int k98_0), .val (.int k100_0), .val (.int k102_0), .val (.int (Int32.ofNat lb)), .val (.int k104_0), .val (.int k106_0), .val (.int (Int32.ofNat fa)), .val (.int (Int32.ofNat fb)), .val (.ref b112), .unset, .unset, .unset, .unset] [(.int ((Int32.ofNat fa) + (Int32.ofNat la))), (.ref b112)])) _
                  refine XS.iconst X120.here hx rfl (hb hby at_225) ?_
                  exact kt
                obtain ⟨cl122, Ar122, q122, S122, M122, H122, G122⟩ := (id V120)
                have hin122 : ¬ (((Int32.ofNat fa) + (Int32.ofNat la)) < 0 ∨ cl122.slots.size ≤ (((Int32.ofNat fa) + (Int32.ofNat la))).toNatClampNeg) := inb_of S122 (own_in8 hfa hla)
                obtain ⟨T122, h122, X122, e122, W122, st122⟩ := stB X120 hx hZ e120 Ar122 (j := ((Int32.ofNat fa) + (Int32.ofNat la))) hin122 (g := (mkF m 226 #[.val (.int p0), .val (.int p1), .val (.int p2), .val (.int a0v), .val (.int a1v), .val (.int a2v), .val (.int (Int32.ofNat la)), .val (.int k98_0), .val (.int k100_0), .val (.int k102_0), .val (.int (Int32.ofNat lb)), .val (.int k104_0), .val (.int k106_0), .val (.int (Int32.ofNat fa)), .val (.int (Int32.ofNat fb)), .val (.ref b112), .unset, .unset, .unset, .unset] [(.int (-1 : Int32)), (.int ((Int32.ofNat fa) + (Int32.ofNat la))), (.ref b112)])) rfl rfl (hb hby at_226)
                have Z0_123 : n0 ≤ h122.size := (Nat.le_trans Z0_121 (Keep.of_wr W122).1)
                have V122 : Arv Z h122 b112 k112 .byte (8 : Int32) ((((((B0.set fa (a0v.toInt8.toInt32)).set (fa + 1) (a1v.toInt8.toInt32)).set (fa + 2) (a2v.toInt8.toInt32)).set (fa + 3) (0 : Int32)).set (fa + la) (-1 : Int32)).map Value.int) (.int (0 : Int32)) := by rw [List.map_set]; exact Arv.set Ar122 q122 S122 M122 H122 G122 (by decide) W122 (fa + la) (own_hj hfa hla) (by simp only [List.length_map, List.length_set, hl0]; omega)
                have N122 := Fr.snoc X122 N120 gn_b112
                refine GotW.step st122 ?_
                show GotW p e below s _ _ _ _ T122 (mkF m 227 #[.val (.int p0), .val (.int p1), .val (.int p2), .val (.int a0v), .val (.int a1v), .val (.int a2v), .val (.int (Int32.ofNat la)), .val (.int k98_0), .val (.int k100_0), .val (.int k102_0), .val (.int (Int32.ofNat lb)), .val (.int k104_0), .val (.int k106_0), .val (.int (Int32.ofNat fa)), .val (.int (Int32.ofNat fb)), .val (.ref b112), .unset, .unset, .unset, .unset] [])
                refine GotW.step (T' := T122) (g' := (mkF m 234 #[.val (.int p0), .val (.int p1), .val (.int p2), .val (.int a0v), .val (.int a1v), .val (.int a2v), .val (.int (Int32.ofNat la)), .val (.int k98_0), .val (.int k100_0), .val (.int k102_0), .val (.int (Int32.ofNat lb)), .val (.int k104_0), .val (.int k106_0), .val (.int (Int32.ofNat fa)), .val (.int (Int32.ofNat fb)), .val (.ref b112), .unset, .unset, .unset, .unset] [(.int (k98_0.toInt8.toInt32)), (.int (Int32.ofNat fb)), (.ref b112)])) (fun tq kt => ?_) ?_
                · show Steps p.tables e below (T122.setTop (mkF m 227 #[.val (.int p0), .val (.int p1), .val (.int p2), .val (.int a0v), .val (.int a1v), .val (.int a2v), .val (.int (Int32.ofNat la)), .val (.int k98_0), .val (.int k100_0), .val (.int k102_0), .val (.int (Int32.ofNat lb)), .val (.int k104_0), .val (.int k106_0), .val (.int (Int32.ofNat fa)), .val (.int (Int32.ofNat fb)), .val (.ref b112), .unset, .unset, .unset, .unset] [])) _
                  refine XS.aload X122.here hx rfl (hb hby at_227) rfl rfl ?_
                  show Steps p.tables e below (T122.setTop (mkF m 229 #[.val (.int p0), .val (.int p1), .val (.int p2), .val (.int a0v), .val (.int a1v), .val (.int a2v), .val (.int (Int32.ofNat la)), .val (.int k98_0), .val (.int k100_0), .val (.int k102_0), .val (.int (Int32.ofNat lb)), .val (.int k104_0), .val (.int k106_0), .val (.int (Int32.ofNat fa)), .val (.int (Int32.ofNat fb)), .val (.ref b112), .unset, .unset, .unset, .unset] [(.ref b112)])) _
                  refine XS.iload X122.here hx rfl (hb hby at_229) rfl ?_
                  show Steps p.tables e below (T122.setTop (mkF m 231 #[.val (.int p0), .val (.int p1), .val (.int p2), .val (.int a0v), .val (.int a1v), .val (.int a2v), .val (.int (Int32.ofNat la)), .val (.int k98_0), .val (.int k100_0), .val (.int k102_0), .val (.int (Int32.ofNat lb)), .val (.int k104_0), .val (.int k106_0), .val (.int (Int32.ofNat fa)), .val (.int (Int32.ofNat fb)), .val (.ref b112), .unset, .unset, .unset, .unset] [(.int (Int32.ofNat fb)), (.ref b112)])) _
                  refine XS.iload X122.here hx rfl (hb hby at_231) rfl ?_
                  show Steps p.tables e below (T122.setTop (mkF m 233 #[.val (.int p0), .val (.int p1), .val (.int p2), .val (.int a0v), .val (.int a1v), .val (.int a2v), .val (.int (Int32.ofNat la)), .val (.int k98_0), .val (.int k100_0), .val (.int k102_0), .val (.int (Int32.ofNat lb)), .val (.int k104_0), .val (.int k106_0), .val (.int (Int32.ofNat fa)), .val (.int (Int32.ofNat fb)), .val (.ref b112), .unset, .unset, .unset, .unset] [(.int k98_0), (.int (Int32.ofNat fb)), (.ref b112)])) _
                  refine XS.i2b X122.here hx rfl (hb hby at_233) rfl ?_
                  exact kt
                obtain ⟨cl124, Ar124, q124, S124, M124, H124, G124⟩ := (id V122)
                have hin124 : ¬ ((Int32.ofNat fb) < 0 ∨ cl124.slots.size ≤ ((Int32.ofNat fb)).toNatClampNeg) := inb_of S124 (own_st0 hfb)
                obtain ⟨T124, h124, X124, e124, W124, st124⟩ := stB X122 hx hZ e122 Ar124 (j := (Int32.ofNat fb)) hin124 (g := (mkF m 234 #[.val (.int p0), .val (.int p1), .val (.int p2), .val (.int a0v), .val (.int a1v), .val (.int a2v), .val (.int (Int32.ofNat la)), .val (.int k98_0), .val (.int k100_0), .val (.int k102_0), .val (.int (Int32.ofNat lb)), .val (.int k104_0), .val (.int k106_0), .val (.int (Int32.ofNat fa)), .val (.int (Int32.ofNat fb)), .val (.ref b112), .unset, .unset, .unset, .unset] [(.int (k98_0.toInt8.toInt32)), (.int (Int32.ofNat fb)), (.ref b112)])) rfl rfl (hb hby at_234)
                rw [narB] at W124
                have Z0_125 : n0 ≤ h124.size := (Nat.le_trans Z0_123 (Keep.of_wr W124).1)
                have V124 : Arv Z h124 b112 k112 .byte (8 : Int32) (((((((B0.set fa (a0v.toInt8.toInt32)).set (fa + 1) (a1v.toInt8.toInt32)).set (fa + 2) (a2v.toInt8.toInt32)).set (fa + 3) (0 : Int32)).set (fa + la) (-1 : Int32)).set fb (k98_0.toInt8.toInt32)).map Value.int) (.int (0 : Int32)) := by rw [List.map_set]; exact Arv.set Ar124 q124 S124 M124 H124 G124 (fits_nar_byte _) W124 fb (own_hj0 hfb) (by simp only [List.length_map, List.length_set, hl0]; omega)
                have N124 := Fr.snoc X124 N122 gn_b112
                refine GotW.step st124 ?_
                show GotW p e below s _ _ _ _ T124 (mkF m 235 #[.val (.int p0), .val (.int p1), .val (.int p2), .val (.int a0v), .val (.int a1v), .val (.int a2v), .val (.int (Int32.ofNat la)), .val (.int k98_0), .val (.int k100_0), .val (.int k102_0), .val (.int (Int32.ofNat lb)), .val (.int k104_0), .val (.int k106_0), .val (.int (Int32.ofNat fa)), .val (.int (Int32.ofNat fb)), .val (.ref b112), .unset, .unset, .unset, .unset] [])
                refine GotW.step (T' := T124) (g' := (mkF m 244 #[.val (.int p0), .val (.int p1), .val (.int p2), .val (.int a0v), .val (.int a1v), .val (.int a2v), .val (.int (Int32.ofNat la)), .val (.int k98_0), .val (.int k100_0), .val (.int k102_0), .val (.int (Int32.ofNat lb)), .val (.int k104_0), .val (.int k106_0), .val (.int (Int32.ofNat fa)), .val (.int (Int32.ofNat fb)), .val (.ref b112), .unset, .unset, .unset, .unset] [(.int (k100_0.toInt8.toInt32)), (.int ((Int32.ofNat fb) + (1 : Int32))), (.ref b112)])) (fun tq kt => ?_) ?_
                · show Steps p.tables e below (T124.setTop (mkF m 235 #[.val (.int p0), .val (.int p1), .val (.int p2), .val (.int a0v), .val (.int a1v), .val (.int a2v), .val (.int (Int32.ofNat la)), .val (.int k98_0), .val (.int k100_0), .val (.int k102_0), .val (.int (Int32.ofNat lb)), .val (.int k104_0), .val (.int k106_0), .val (.int (Int32.ofNat fa)), .val (.int (Int32.ofNat fb)), .val (.ref b112), .unset, .unset, .unset, .unset] [])) _
                  refine XS.aload X124.here hx rfl (hb hby at_235) rfl rfl ?_
                  show Steps p.tables e below (T124.setTop (mkF m 237 #[.val (.int p0), .val (.int p1), .val (.int p2), .val (.int a0v), .val (.int a1v), .val (.int a2v), .val (.int (Int32.ofNat la)), .val (.int k98_0), .val (.int k100_0), .val (.int k102_0), .val (.int (Int32.ofNat lb)), .val (.int k104_0), .val (.int k106_0), .val (.int (Int32.ofNat fa)), .val (.int (Int32.ofNat fb)), .val (.ref b112), .unset, .unset, .unset, .unset] [(.ref b112)])) _
                  refine XS.iload X124.here hx rfl (hb hby at_237) rfl ?_
                  show Steps p.tables e below (T124.setTop (mkF m 239 #[.val (.int p0), .val (.int p1), .val (.int p2), .val (.int a0v), .val (.int a1v), .val (.int a2v), .val (.int (Int32.ofNat la)), .val (.int k98_0), .val (.int k100_0), .val (.int k102_0), .val (.int (Int32.ofNat lb)), .val (.int k104_0), .val (.int k106_0), .val (.int (Int32.ofNat fa)), .val (.int (Int32.ofNat fb)), .val (.ref b112), .unset, .unset, .unset, .unset] [(.int (Int32.ofNat fb)), (.ref b112)])) _
                  refine XS.iconst X124.here hx rfl (hb hby at_239) ?_
                  show Steps p.tables e below (T124.setTop (mkF m 240 #[.val (.int p0), .val (.int p1), .val (.int p2), .val (.int a0v), .val (.int a1v), .val (.int a2v), .val (.int (Int32.ofNat la)), .val (.int k98_0), .val (.int k100_0), .val (.int k102_0), .val (.int (Int32.ofNat lb)), .val (.int k104_0), .val (.int k106_0), .val (.int (Int32.ofNat fa)), .val (.int (Int32.ofNat fb)), .val (.ref b112), .unset, .unset, .unset, .unset] [(.int (1 : Int32)), (.int (Int32.ofNat fb)), (.ref b112)])) _
                  refine XS.iadd X124.here hx rfl (hb hby at_240) rfl ?_
                  show Steps p.tables e below (T124.setTop (mkF m 241 #[.val (.int p0), .val (.int p1), .val (.int p2), .val (.int a0v), .val (.int a1v), .val (.int a2v), .val (.int (Int32.ofNat la)), .val (.int k98_0), .val (.int k100_0), .val (.int k102_0), .val (.int (Int32.ofNat lb)), .val (.int k104_0), .val (.int k106_0), .val (.int (Int32.ofNat fa)), .val (.int (Int32.ofNat fb)), .val (.ref b112), .unset, .unset, .unset, .unset] [(.int ((Int32.ofNat fb) + (1 : Int32))), (.ref b112)])) _
                  refine XS.iload X124.here hx rfl (hb hby at_241) rfl ?_
                  show Steps p.tables e below (T124.setTop (mkF m 243 #[.val (.int p0), .val (.int p1), .val (.int p2), .val (.int a0v), .val (.int a1v), .val (.int a2v), .val (.int (Int32.ofNat la)), .val (.int k98_0), .val (.int k100_0), .val (.int k102_0), .val (.int (Int32.ofNat lb)), .val (.int k104_0), .val (.int k106_0), .val (.int (Int32.ofNat fa)), .val (.int (Int32.ofNat fb)), .val (.ref b112), .unset, .unset, .unset, .unset] [(.int k100_0), (.int ((Int32.ofNat fb) + (1 : Int32))), (.ref b112)])) _
                  refine XS.i2b X124.here hx rfl (hb hby at_243) rfl ?_
                  exact kt
                obtain ⟨cl126, Ar126, q126, S126, M126, H126, G126⟩ := (id V124)
                have hin126 : ¬ (((Int32.ofNat fb) + (1 : Int32)) < 0 ∨ cl126.slots.size ≤ (((Int32.ofNat fb) + (1 : Int32))).toNatClampNeg) := inb_of S126 (own_st1 hfb)
                obtain ⟨T126, h126, X126, e126, W126, st126⟩ := stB X124 hx hZ e124 Ar126 (j := ((Int32.ofNat fb) + (1 : Int32))) hin126 (g := (mkF m 244 #[.val (.int p0), .val (.int p1), .val (.int p2), .val (.int a0v), .val (.int a1v), .val (.int a2v), .val (.int (Int32.ofNat la)), .val (.int k98_0), .val (.int k100_0), .val (.int k102_0), .val (.int (Int32.ofNat lb)), .val (.int k104_0), .val (.int k106_0), .val (.int (Int32.ofNat fa)), .val (.int (Int32.ofNat fb)), .val (.ref b112), .unset, .unset, .unset, .unset] [(.int (k100_0.toInt8.toInt32)), (.int ((Int32.ofNat fb) + (1 : Int32))), (.ref b112)])) rfl rfl (hb hby at_244)
                rw [narB] at W126
                have Z0_127 : n0 ≤ h126.size := (Nat.le_trans Z0_125 (Keep.of_wr W126).1)
                have V126 : Arv Z h126 b112 k112 .byte (8 : Int32) ((((((((B0.set fa (a0v.toInt8.toInt32)).set (fa + 1) (a1v.toInt8.toInt32)).set (fa + 2) (a2v.toInt8.toInt32)).set (fa + 3) (0 : Int32)).set (fa + la) (-1 : Int32)).set fb (k98_0.toInt8.toInt32)).set (fb + 1) (k100_0.toInt8.toInt32)).map Value.int) (.int (0 : Int32)) := by rw [List.map_set]; exact Arv.set Ar126 q126 S126 M126 H126 G126 (fits_nar_byte _) W126 (fb + 1) (own_hj1 hfb) (by simp only [List.length_map, List.length_set, hl0]; omega)
                have N126 := Fr.snoc X126 N124 gn_b112
                refine GotW.step st126 ?_
                show GotW p e below s _ _ _ _ T126 (mkF m 245 #[.val (.int p0), .val (.int p1), .val (.int p2), .val (.int a0v), .val (.int a1v), .val (.int a2v), .val (.int (Int32.ofNat la)), .val (.int k98_0), .val (.int k100_0), .val (.int k102_0), .val (.int (Int32.ofNat lb)), .val (.int k104_0), .val (.int k106_0), .val (.int (Int32.ofNat fa)), .val (.int (Int32.ofNat fb)), .val (.ref b112), .unset, .unset, .unset, .unset] [])
                refine GotW.step (T' := T126) (g' := (mkF m 254 #[.val (.int p0), .val (.int p1), .val (.int p2), .val (.int a0v), .val (.int a1v), .val (.int a2v), .val (.int (Int32.ofNat la)), .val (.int k98_0), .val (.int k100_0), .val (.int k102_0), .val (.int (Int32.ofNat lb)), .val (.int k104_0), .val (.int k106_0), .val (.int (Int32.ofNat fa)), .val (.int (Int32.ofNat fb)), .val (.ref b112), .unset, .unset, .unset, .unset] [(.int (k102_0.toInt8.toInt32)), (.int ((Int32.ofNat fb) + (2 : Int32))), (.ref b112)])) (fun tq kt => ?_) ?_
                · show Steps p.tables e below (T126.setTop (mkF m 245 #[.val (.int p0), .val (.int p1), .val (.int p2), .val (.int a0v), .val (.int a1v), .val (.int a2v), .val (.int (Int32.ofNat la)), .val (.int k98_0), .val (.int k100_0), .val (.int k102_0), .val (.int (Int32.ofNat lb)), .val (.int k104_0), .val (.int k106_0), .val (.int (Int32.ofNat fa)), .val (.int (Int32.ofNat fb)), .val (.ref b112), .unset, .unset, .unset, .unset] [])) _
                  refine XS.aload X126.here hx rfl (hb hby at_245) rfl rfl ?_
                  show Steps p.tables e below (T126.setTop (mkF m 247 #[.val (.int p0), .val (.int p1), .val (.int p2), .val (.int a0v), .val (.int a1v), .val (.int a2v), .val (.int (Int32.ofNat la)), .val (.int k98_0), .val (.int k100_0), .val (.int k102_0), .val (.int (Int32.ofNat lb)), .val (.int k104_0), .val (.int k106_0), .val (.int (Int32.ofNat fa)), .val (.int (Int32.ofNat fb)), .val (.ref b112), .unset, .unset, .unset, .unset] [(.ref b112)])) _
                  refine XS.iload X126.here hx rfl (hb hby at_247) rfl ?_
                  show Steps p.tables e below (T126.setTop (mkF m 249 #[.val (.int p0), .val (.int p1), .val (.int p2), .val (.int a0v), .val (.int a1v), .val (.int a2v), .val (.int (Int32.ofNat la)), .val (.int k98_0), .val (.int k100_0), .val (.int k102_0), .val (.int (Int32.ofNat lb)), .val (.int k104_0), .val (.int k106_0), .val (.int (Int32.ofNat fa)), .val (.int (Int32.ofNat fb)), .val (.ref b112), .unset, .unset, .unset, .unset] [(.int (Int32.ofNat fb)), (.ref b112)])) _
                  refine XS.iconst X126.here hx rfl (hb hby at_249) ?_
                  show Steps p.tables e below (T126.setTop (mkF m 250 #[.val (.int p0), .val (.int p1), .val (.int p2), .val (.int a0v), .val (.int a1v), .val (.int a2v), .val (.int (Int32.ofNat la)), .val (.int k98_0), .val (.int k100_0), .val (.int k102_0), .val (.int (Int32.ofNat lb)), .val (.int k104_0), .val (.int k106_0), .val (.int (Int32.ofNat fa)), .val (.int (Int32.ofNat fb)), .val (.ref b112), .unset, .unset, .unset, .unset] [(.int (2 : Int32)), (.int (Int32.ofNat fb)), (.ref b112)])) _
                  refine XS.iadd X126.here hx rfl (hb hby at_250) rfl ?_
                  show Steps p.tables e below (T126.setTop (mkF m 251 #[.val (.int p0), .val (.int p1), .val (.int p2), .val (.int a0v), .val (.int a1v), .val (.int a2v), .val (.int (Int32.ofNat la)), .val (.int k98_0), .val (.int k100_0), .val (.int k102_0), .val (.int (Int32.ofNat lb)), .val (.int k104_0), .val (.int k106_0), .val (.int (Int32.ofNat fa)), .val (.int (Int32.ofNat fb)), .val (.ref b112), .unset, .unset, .unset, .unset] [(.int ((Int32.ofNat fb) + (2 : Int32))), (.ref b112)])) _
                  refine XS.iload X126.here hx rfl (hb hby at_251) rfl ?_
                  show Steps p.tables e below (T126.setTop (mkF m 253 #[.val (.int p0), .val (.int p1), .val (.int p2), .val (.int a0v), .val (.int a1v), .val (.int a2v), .val (.int (Int32.ofNat la)), .val (.int k98_0), .val (.int k100_0), .val (.int k102_0), .val (.int (Int32.ofNat lb)), .val (.int k104_0), .val (.int k106_0), .val (.int (Int32.ofNat fa)), .val (.int (Int32.ofNat fb)), .val (.ref b112), .unset, .unset, .unset, .unset] [(.int k102_0), (.int ((Int32.ofNat fb) + (2 : Int32))), (.ref b112)])) _
                  refine XS.i2b X126.here hx rfl (hb hby at_253) rfl ?_
                  exact kt
                obtain ⟨cl128, Ar128, q128, S128, M128, H128, G128⟩ := (id V126)
                have hin128 : ¬ (((Int32.ofNat fb) + (2 : Int32)) < 0 ∨ cl128.slots.size ≤ (((Int32.ofNat fb) + (2 : Int32))).toNatClampNeg) := inb_of S128 (own_st2 hfb)
                obtain ⟨T128, h128, X128, e128, W128, st128⟩ := stB X126 hx hZ e126 Ar128 (j := ((Int32.ofNat fb) + (2 : Int32))) hin128 (g := (mkF m 254 #[.val (.int p0), .val (.int p1), .val (.int p2), .val (.int a0v), .val (.int a1v), .val (.int a2v), .val (.int (Int32.ofNat la)), .val (.int k98_0), .val (.int k100_0), .val (.int k102_0), .val (.int (Int32.ofNat lb)), .val (.int k104_0), .val (.int k106_0), .val (.int (Int32.ofNat fa)), .val (.int (Int32.ofNat fb)), .val (.ref b112), .unset, .unset, .unset, .unset] [(.int (k102_0.toInt8.toInt32)), (.int ((Int32.ofNat fb) + (2 : Int32))), (.ref b112)])) rfl rfl (hb hby at_254)
                rw [narB] at W128
                have Z0_129 : n0 ≤ h128.size := (Nat.le_trans Z0_127 (Keep.of_wr W128).1)
                have V128 : Arv Z h128 b112 k112 .byte (8 : Int32) (((((((((B0.set fa (a0v.toInt8.toInt32)).set (fa + 1) (a1v.toInt8.toInt32)).set (fa + 2) (a2v.toInt8.toInt32)).set (fa + 3) (0 : Int32)).set (fa + la) (-1 : Int32)).set fb (k98_0.toInt8.toInt32)).set (fb + 1) (k100_0.toInt8.toInt32)).set (fb + 2) (k102_0.toInt8.toInt32)).map Value.int) (.int (0 : Int32)) := by rw [List.map_set]; exact Arv.set Ar128 q128 S128 M128 H128 G128 (fits_nar_byte _) W128 (fb + 2) (own_hj2 hfb) (by simp only [List.length_map, List.length_set, hl0]; omega)
                have N128 := Fr.snoc X128 N126 gn_b112
                refine GotW.step st128 ?_
                show GotW p e below s _ _ _ _ T128 (mkF m 255 #[.val (.int p0), .val (.int p1), .val (.int p2), .val (.int a0v), .val (.int a1v), .val (.int a2v), .val (.int (Int32.ofNat la)), .val (.int k98_0), .val (.int k100_0), .val (.int k102_0), .val (.int (Int32.ofNat lb)), .val (.int k104_0), .val (.int k106_0), .val (.int (Int32.ofNat fa)), .val (.int (Int32.ofNat fb)), .val (.ref b112), .unset, .unset, .unset, .unset] [])
                refine GotW.step (T' := T128) (g' := (mkF m 262 #[.val (.int p0), .val (.int p1), .val (.int p2), .val (.int a0v), .val (.int a1v), .val (.int a2v), .val (.int (Int32.ofNat la)), .val (.int k98_0), .val (.int k100_0), .val (.int k102_0), .val (.int (Int32.ofNat lb)), .val (.int k104_0), .val (.int k106_0), .val (.int (Int32.ofNat fa)), .val (.int (Int32.ofNat fb)), .val (.ref b112), .unset, .unset, .unset, .unset] [(.int (0 : Int32)), (.int ((Int32.ofNat fb) + (3 : Int32))), (.ref b112)])) (fun tq kt => ?_) ?_
                · show Steps p.tables e below (T128.setTop (mkF m 255 #[.val (.int p0), .val (.int p1), .val (.int p2), .val (.int a0v), .val (.int a1v), .val (.int a2v), .val (.int (Int32.ofNat la)), .val (.int k98_0), .val (.int k100_0), .val (.int k102_0), .val (.int (Int32.ofNat lb)), .val (.int k104_0), .val (.int k106_0), .val (.int (Int32.ofNat fa)), .val (.int (Int32.ofNat fb)), .val (.ref b112), .unset, .unset, .unset, .unset] [])) _
                  refine XS.aload X128.here hx rfl (hb hby at_255) rfl rfl ?_
                  show Steps p.tables e below (T128.setTop (mkF m 257 #[.val (.int p0), .val (.int p1), .val (.int p2), .val (.int a0v), .val (.int a1v), .val (.int a2v), .val (.int (Int32.ofNat la)), .val (.int k98_0), .val (.int k100_0), .val (.int k102_0), .val (.int (Int32.ofNat lb)), .val (.int k104_0), .val (.int k106_0), .val (.int (Int32.ofNat fa)), .val (.int (Int32.ofNat fb)), .val (.ref b112), .unset, .unset, .unset, .unset] [(.ref b112)])) _
                  refine XS.iload X128.here hx rfl (hb hby at_257) rfl ?_
                  show Steps p.tables e below (T128.setTop (mkF m 259 #[.val (.int p0), .val (.int p1), .val (.int p2), .val (.int a0v), .val (.int a1v), .val (.int a2v), .val (.int (Int32.ofNat la)), .val (.int k98_0), .val (.int k100_0), .val (.int k102_0), .val (.int (Int32.ofNat lb)), .val (.int k104_0), .val (.int k106_0), .val (.int (Int32.ofNat fa)), .val (.int (Int32.ofNat fb)), .val (.ref b112), .unset, .unset, .unset, .unset] [(.int (Int32.ofNat fb)), (.ref b112)])) _
                  refine XS.iconst X128.here hx rfl (hb hby at_259) ?_
                  show Steps p.tables e below (T128.setTop (mkF m 260 #[.val (.int p0), .val (.int p1), .val (.int p2), .val (.int a0v), .val (.int a1v), .val (.int a2v), .val (.int (Int32.ofNat la)), .val (.int k98_0), .val (.int k100_0), .val (.int k102_0), .val (.int (Int32.ofNat lb)), .val (.int k104_0), .val (.int k106_0), .val (.int (Int32.ofNat fa)), .val (.int (Int32.ofNat fb)), .val (.ref b112), .unset, .unset, .unset, .unset] [(.int (3 : Int32)), (.int (Int32.ofNat fb)), (.ref b112)])) _
                  refine XS.iadd X128.here hx rfl (hb hby at_260) rfl ?_
                  show Steps p.tables e below (T128.setTop (mkF m 261 #[.val (.int p0), .val (.int p1), .val (.int p2), .val (.int a0v), .val (.int a1v), .val (.int a2v), .val (.int (Int32.ofNat la)), .val (.int k98_0), .val (.int k100_0), .val (.int k102_0), .val (.int (Int32.ofNat lb)), .val (.int k104_0), .val (.int k106_0), .val (.int (Int32.ofNat fa)), .val (.int (Int32.ofNat fb)), .val (.ref b112), .unset, .unset, .unset, .unset] [(.int ((Int32.ofNat fb) + (3 : Int32))), (.ref b112)])) _
                  refine XS.iconst X128.here hx rfl (hb hby at_261) ?_
                  exact kt
                obtain ⟨cl130, Ar130, q130, S130, M130, H130, G130⟩ := (id V128)
                have hin130 : ¬ (((Int32.ofNat fb) + (3 : Int32)) < 0 ∨ cl130.slots.size ≤ (((Int32.ofNat fb) + (3 : Int32))).toNatClampNeg) := inb_of S130 (own_st3 hfb)
                obtain ⟨T130, h130, X130, e130, W130, st130⟩ := stB X128 hx hZ e128 Ar130 (j := ((Int32.ofNat fb) + (3 : Int32))) hin130 (g := (mkF m 262 #[.val (.int p0), .val (.int p1), .val (.int p2), .val (.int a0v), .val (.int a1v), .val (.int a2v), .val (.int (Int32.ofNat la)), .val (.int k98_0), .val (.int k100_0), .val (.int k102_0), .val (.int (Int32.ofNat lb)), .val (.int k104_0), .val (.int k106_0), .val (.int (Int32.ofNat fa)), .val (.int (Int32.ofNat fb)), .val (.ref b112), .unset, .unset, .unset, .unset] [(.int (0 : Int32)), (.int ((Int32.ofNat fb) + (3 : Int32))), (.ref b112)])) rfl rfl (hb hby at_262)
                have Z0_131 : n0 ≤ h130.size := (Nat.le_trans Z0_129 (Keep.of_wr W130).1)
                have V130 : Arv Z h130 b112 k112 .byte (8 : Int32) ((((((((((B0.set fa (a0v.toInt8.toInt32)).set (fa + 1) (a1v.toInt8.toInt32)).set (fa + 2) (a2v.toInt8.toInt32)).set (fa + 3) (0 : Int32)).set (fa + la) (-1 : Int32)).set fb (k98_0.toInt8.toInt32)).set (fb + 1) (k100_0.toInt8.toInt32)).set (fb + 2) (k102_0.toInt8.toInt32)).set (fb + 3) (0 : Int32)).map Value.int) (.int (0 : Int32)) := by rw [List.map_set]; exact Arv.set Ar130 q130 S130 M130 H130 G130 (by decide) W130 (fb + 3) (own_hj3 hfb) (by simp only [List.length_map, List.length_set, hl0]; omega)
                have N130 := Fr.snoc X130 N128 gn_b112
                refine GotW.step st130 ?_
                show GotW p e below s _ _ _ _ T130 (mkF m 263 #[.val (.int p0), .val (.int p1), .val (.int p2), .val (.int a0v), .val (.int a1v), .val (.int a2v), .val (.int (Int32.ofNat la)), .val (.int k98_0), .val (.int k100_0), .val (.int k102_0), .val (.int (Int32.ofNat lb)), .val (.int k104_0), .val (.int k106_0), .val (.int (Int32.ofNat fa)), .val (.int (Int32.ofNat fb)), .val (.ref b112), .unset, .unset, .unset, .unset] [])
                refine GotW.step (T' := T130) (g' := (mkF m 271 #[.val (.int p0), .val (.int p1), .val (.int p2), .val (.int a0v), .val (.int a1v), .val (.int a2v), .val (.int (Int32.ofNat la)), .val (.int k98_0), .val (.int k100_0), .val (.int k102_0), .val (.int (Int32.ofNat lb)), .val (.int k104_0), .val (.int k106_0), .val (.int (Int32.ofNat fa)), .val (.int (Int32.ofNat fb)), .val (.ref b112), .unset, .unset, .unset, .unset] [(.int (-1 : Int32)), (.int ((Int32.ofNat fb) + (Int32.ofNat lb))), (.ref b112)])) (fun tq kt => ?_) ?_
                · show Steps p.tables e below (T130.setTop (mkF m 263 #[.val (.int p0), .val (.int p1), .val (.int p2), .val (.int a0v), .val (.int a1v), .val (.int a2v), .val (.int (Int32.ofNat la)), .val (.int k98_0), .val (.int k100_0), .val (.int k102_0), .val (.int (Int32.ofNat lb)), .val (.int k104_0), .val (.int k106_0), .val (.int (Int32.ofNat fa)), .val (.int (Int32.ofNat fb)), .val (.ref b112), .unset, .unset, .unset, .unset] [])) _
                  refine XS.aload X130.here hx rfl (hb hby at_263) rfl rfl ?_
                  show Steps p.tables e below (T130.setTop (mkF m 265 #[.val (.int p0), .val (.int p1), .val (.int p2), .val (.int a0v), .val (.int a1v), .val (.int a2v), .val (.int (Int32.ofNat la)), .val (.int k98_0), .val (.int k100_0), .val (.int k102_0), .val (.int (Int32.ofNat lb)), .val (.int k104_0), .val (.int k106_0), .val (.int (Int32.ofNat fa)), .val (.int (Int32.ofNat fb)), .val (.ref b112), .unset, .unset, .unset, .unset] [(.ref b112)])) _
                  refine XS.iload X130.here hx rfl (hb hby at_265) rfl ?_
                  show Steps p.tables e below (T130.setTop (mkF m 267 #[.val (.int p0), .val (.int p1), .val (.int p2), .val (.int a0v), .val (.int a1v), .val (.int a2v), .val (.int (Int32.ofNat la)), .val (.int k98_0), .val (.int k100_0), .val (.int k102_0), .val (.int (Int32.ofNat lb)), .val (.int k104_0), .val (.int k106_0), .val (.int (Int32.ofNat fa)), .val (.int (Int32.ofNat fb)), .val (.ref b112), .unset, .unset, .unset, .unset] [(.int (Int32.ofNat fb)), (.ref b112)])) _
                  refine XS.iload X130.here hx rfl (hb hby at_267) rfl ?_
                  show Steps p.tables e below (T130.setTop (mkF m 269 #[.val (.int p0), .val (.int p1), .val (.int p2), .val (.int a0v), .val (.int a1v), .val (.int a2v), .val (.int (Int32.ofNat la)), .val (.int k98_0), .val (.int k100_0), .val (.int k102_0), .val (.int (Int32.ofNat lb)), .val (.int k104_0), .val (.int k106_0), .val (.int (Int32.ofNat fa)), .val (.int (Int32.ofNat fb)), .val (.ref b112), .unset, .unset, .unset, .unset] [(.int (Int32.ofNat lb)), (.int (Int32.ofNat fb)), (.ref b112)])) _
                  refine XS.iadd X130.here hx rfl (hb hby at_269) rfl ?_
                  show Steps p.tables e below (T130.setTop (mkF m 270 #[.val (.int p0), .val (.int p1), .val (.int p2), .val (.int a0v), .val (.int a1v), .val (.int a2v), .val (.int (Int32.ofNat la)), .val (.int k98_0), .val (.int k100_0), .val (.int k102_0), .val (.int (Int32.ofNat lb)), .val (.int k104_0), .val (.int k106_0), .val (.int (Int32.ofNat fa)), .val (.int (Int32.ofNat fb)), .val (.ref b112), .unset, .unset, .unset, .unset] [(.int ((Int32.ofNat fb) + (Int32.ofNat lb))), (.ref b112)])) _
                  refine XS.iconst X130.here hx rfl (hb hby at_270) ?_
                  exact kt
                obtain ⟨cl132, Ar132, q132, S132, M132, H132, G132⟩ := (id V130)
                have hin132 : ¬ (((Int32.ofNat fb) + (Int32.ofNat lb)) < 0 ∨ cl132.slots.size ≤ (((Int32.ofNat fb) + (Int32.ofNat lb))).toNatClampNeg) := inb_of S132 (own_in8 hfb hlb)
                obtain ⟨T132, h132, X132, e132, W132, st132⟩ := stB X130 hx hZ e130 Ar132 (j := ((Int32.ofNat fb) + (Int32.ofNat lb))) hin132 (g := (mkF m 271 #[.val (.int p0), .val (.int p1), .val (.int p2), .val (.int a0v), .val (.int a1v), .val (.int a2v), .val (.int (Int32.ofNat la)), .val (.int k98_0), .val (.int k100_0), .val (.int k102_0), .val (.int (Int32.ofNat lb)), .val (.int k104_0), .val (.int k106_0), .val (.int (Int32.ofNat fa)), .val (.int (Int32.ofNat fb)), .val (.ref b112), .unset, .unset, .unset, .unset] [(.int (-1 : Int32)), (.int ((Int32.ofNat fb) + (Int32.ofNat lb))), (.ref b112)])) rfl rfl (hb hby at_271)
                have Z0_133 : n0 ≤ h132.size := (Nat.le_trans Z0_131 (Keep.of_wr W132).1)
                have V132 : Arv Z h132 b112 k112 .byte (8 : Int32) (((((((((((B0.set fa (a0v.toInt8.toInt32)).set (fa + 1) (a1v.toInt8.toInt32)).set (fa + 2) (a2v.toInt8.toInt32)).set (fa + 3) (0 : Int32)).set (fa + la) (-1 : Int32)).set fb (k98_0.toInt8.toInt32)).set (fb + 1) (k100_0.toInt8.toInt32)).set (fb + 2) (k102_0.toInt8.toInt32)).set (fb + 3) (0 : Int32)).set (fb + lb) (-1 : Int32)).map Value.int) (.int (0 : Int32)) := by rw [List.map_set]; exact Arv.set Ar132 q132 S132 M132 H132 G132 (by decide) W132 (fb + lb) (own_hj hfb hlb) (by simp only [List.length_map, List.length_set, hl0]; omega)
                have N132 := Fr.snoc X132 N130 gn_b112
                refine GotW.step st132 ?_
                show GotW p e below s _ _ _ _ T132 (mkF m 272 #[.val (.int p0), .val (.int p1), .val (.int p2), .val (.int a0v), .val (.int a1v), .val (.int a2v), .val (.int (Int32.ofNat la)), .val (.int k98_0), .val (.int k100_0), .val (.int k102_0), .val (.int (Int32.ofNat lb)), .val (.int k104_0), .val (.int k106_0), .val (.int (Int32.ofNat fa)), .val (.int (Int32.ofNat fb)), .val (.ref b112), .unset, .unset, .unset, .unset] [])
                obtain ⟨bs, hbs⟩ : ∃ v : List Int32, v = ((((((((((B0.set fa (a0v.toInt8.toInt32)).set (fa + 1) (a1v.toInt8.toInt32)).set (fa + 2) (a2v.toInt8.toInt32)).set (fa + 3) (0 : Int32)).set (fa + la) (-1 : Int32)).set fb (k98_0.toInt8.toInt32)).set (fb + 1) (k100_0.toInt8.toInt32)).set (fb + 2) (k102_0.toInt8.toInt32)).set (fb + 3) (0 : Int32)).set (fb + lb) (-1 : Int32)) := ⟨_, rfl⟩
                have Vbs : Arv Z h132 b112 k112 .byte (8 : Int32) (bs.map Value.int) (.int (0 : Int32)) := by rw [hbs]; exact V132
                have hlb1 := own_hla hoff hla hlb hl0 hbs
                obtain ⟨T134, h134, X134, e134, E134, A134, D134, -, st134⟩ := newO X132 hx hZ hown (hw _ (List.mem_of_getElem? (i := 1) rfl)) (hw _ (List.mem_of_getElem? (i := 2) rfl)) (hw _ (List.mem_of_getElem? (i := 3) rfl)) e132 (g := (mkF m 272 #[.val (.int p0), .val (.int p1), .val (.int p2), .val (.int a0v), .val (.int a1v), .val (.int a2v), .val (.int (Int32.ofNat la)), .val (.int k98_0), .val (.int k100_0), .val (.int k102_0), .val (.int (Int32.ofNat lb)), .val (.int k104_0), .val (.int k106_0), .val (.int (Int32.ofNat fa)), .val (.int (Int32.ofNat fb)), .val (.ref b112), .unset, .unset, .unset, .unset] [])) rfl (hb hby at_272) (by decide) (by decide)
                obtain ⟨b134, g134⟩ : ∃ z, z = h132.size := ⟨_, rfl⟩
                rw [← g134] at A134 D134 st134
                have ne_b112_b134 : b112 ≠ b134 := by rw [g134]; exact Nat.ne_of_lt Vbs.lt
                have gn_b134 : n0 ≤ b134 := by rw [g134]; exact Z0_133
                have Z0_135 : n0 ≤ h134.size := (Nat.le_trans Z0_133 E134.1)
                have Vbs_136 : Arv Z h134 b112 k112 .byte (8 : Int32) (bs.map Value.int) (.int (0 : Int32)) := (Vbs.ext E134)
                have F134_bytes : Fld Z h134 b134 "com/example/kenning/kenning/index/Decoder" "bytes" "[B" .null := D134 (Or.inr (hw _ (List.mem_of_getElem? (i := 18) rfl))) (ty := (.array .byte)) (by decide)
                have F134_limit : Fld Z h134 b134 "com/example/kenning/kenning/index/Decoder" "limit" "I" (.int (0 : Int32)) := D134 (Or.inr (hw _ (List.mem_of_getElem? (i := 20) rfl))) (ty := .int) (by decide)
                have F134_source : Fld Z h134 b134 "com/example/kenning/kenning/index/Decoder" "source" "Ljava/lang/String;" .null := D134 (Or.inr (hw _ (List.mem_of_getElem? (i := 22) rfl))) (ty := (.object "java/lang/String")) (by decide)
                have F134_pages : Fld Z h134 b134 "com/example/kenning/kenning/index/Decoder" "pages" "Lcom/example/kenning/kenning/index/Pages;" .null := D134 (Or.inr (hw _ (List.mem_of_getElem? (i := 24) rfl))) (ty := (.object "com/example/kenning/kenning/index/Pages")) (by decide)
                have F134_ready : Fld Z h134 b134 "com/example/kenning/kenning/index/Decoder" "ready" "I" (.int (0 : Int32)) := D134 (Or.inl (hw _ (List.mem_of_getElem? (i := 26) rfl))) (ty := .int) (by decide)
                refine GotW.step st134 ?_
                show GotW p e below s _ _ _ _ T134 (mkF m 275 #[.val (.int p0), .val (.int p1), .val (.int p2), .val (.int a0v), .val (.int a1v), .val (.int a2v), .val (.int (Int32.ofNat la)), .val (.int k98_0), .val (.int k100_0), .val (.int k102_0), .val (.int (Int32.ofNat lb)), .val (.int k104_0), .val (.int k106_0), .val (.int (Int32.ofNat fa)), .val (.int (Int32.ofNat fb)), .val (.ref b112), .unset, .unset, .unset, .unset] [(.ref b134)])
                refine GotW.step (T' := T134) (g' := (mkF m 278 #[.val (.int p0), .val (.int p1), .val (.int p2), .val (.int a0v), .val (.int a1v), .val (.int a2v), .val (.int (Int32.ofNat la)), .val (.int k98_0), .val (.int k100_0), .val (.int k102_0), .val (.int (Int32.ofNat lb)), .val (.int k104_0), .val (.int k106_0), .val (.int (Int32.ofNat fa)), .val (.int (Int32.ofNat fb)), .val (.ref b112), .unset, .unset, .unset, .unset] [(.ref b112), (.ref b134), (.ref b134)])) (fun tq kt => ?_) ?_
                · show Steps p.tables e below (T134.setTop (mkF m 275 #[.val (.int p0), .val (.int p1), .val (.int p2), .val (.int a0v), .val (.int a1v), .val (.int a2v), .val (.int (Int32.ofNat la)), .val (.int k98_0), .val (.int k100_0), .val (.int k102_0), .val (.int (Int32.ofNat lb)), .val (.int k104_0), .val (.int k106_0), .val (.int (Int32.ofNat fa)), .val (.int (Int32.ofNat fb)), .val (.ref b112), .unset, .unset, .unset, .unset] [(.ref b134)])) _
                  refine XS.dup X134.here hx rfl (hb hby at_275) rfl rfl ?_
                  show Steps p.tables e below (T134.setTop (mkF m 276 #[.val (.int p0), .val (.int p1), .val (.int p2), .val (.int a0v), .val (.int a1v), .val (.int a2v), .val (.int (Int32.ofNat la)), .val (.int k98_0), .val (.int k100_0), .val (.int k102_0), .val (.int (Int32.ofNat lb)), .val (.int k104_0), .val (.int k106_0), .val (.int (Int32.ofNat fa)), .val (.int (Int32.ofNat fb)), .val (.ref b112), .unset, .unset, .unset, .unset] [(.ref b134), (.ref b134)])) _
                  refine XS.aload X134.here hx rfl (hb hby at_276) rfl rfl ?_
                  exact kt
                obtain ⟨as137, T137, h137, kk137, X137, e137, E137, hS137, hk137, hZ137, hown137, st137⟩ := ldcS (s := s) (vm0 := s.vm) X134 hx hZ hown (hw _ (List.mem_of_getElem? (i := 4) rfl)) (own_wS hw) e134 ((State.WarmedH.refl s).since 0) (Nat.zero_le _) (g := (mkF m 278 #[.val (.int p0), .val (.int p1), .val (.int p2), .val (.int a0v), .val (.int a1v), .val (.int a2v), .val (.int (Int32.ofNat la)), .val (.int k98_0), .val (.int k100_0), .val (.int k102_0), .val (.int (Int32.ofNat lb)), .val (.int k104_0), .val (.int k106_0), .val (.int (Int32.ofNat fa)), .val (.int (Int32.ofNat fb)), .val (.ref b112), .unset, .unset, .unset, .unset] [(.ref b112), (.ref b134), (.ref b134)])) rfl (hb hby at_278) (n := 4) (by decide) (by decide) (by decide) (by decide)
                obtain ⟨sL, hsL⟩ : ∃ z, z = s.setVm T137.vm := ⟨_, rfl⟩
                rw [← hsL] at X137 hZ137 hown137
                have hZ := hZ137
                have hown := hown137
                have hS := hS137
                have Z0_138 : n0 ≤ h137.size := (Nat.le_trans Z0_135 E137.1)
                have Vbs_139 : Arv Z h137 b112 k112 .byte (8 : Int32) (bs.map Value.int) (.int (0 : Int32)) := (Vbs_136.ext E137)
                have A134_140 : Exa Z h137 b134 "com/example/kenning/kenning/index/Decoder" := (A134.ext E137)
                have F134_bytes_141 : Fld Z h137 b134 "com/example/kenning/kenning/index/Decoder" "bytes" "[B" .null := (F134_bytes.ext E137)
                have F134_limit_142 : Fld Z h137 b134 "com/example/kenning/kenning/index/Decoder" "limit" "I" (.int (0 : Int32)) := (F134_limit.ext E137)
                have F134_source_143 : Fld Z h137 b134 "com/example/kenning/kenning/index/Decoder" "source" "Ljava/lang/String;" .null := (F134_source.ext E137)
                have F134_pages_144 : Fld Z h137 b134 "com/example/kenning/kenning/index/Decoder" "pages" "Lcom/example/kenning/kenning/index/Pages;" .null := (F134_pages.ext E137)
                have F134_ready_145 : Fld Z h137 b134 "com/example/kenning/kenning/index/Decoder" "ready" "I" (.int (0 : Int32)) := (F134_ready.ext E137)
                refine GotW.step st137 ?_
                show GotW p e below s _ _ _ _ T137 (mkF m 280 #[.val (.int p0), .val (.int p1), .val (.int p2), .val (.int a0v), .val (.int a1v), .val (.int a2v), .val (.int (Int32.ofNat la)), .val (.int k98_0), .val (.int k100_0), .val (.int k102_0), .val (.int (Int32.ofNat lb)), .val (.int k104_0), .val (.int k106_0), .val (.int (Int32.ofNat fa)), .val (.int (Int32.ofNat fb)), .val (.ref b112), .unset, .unset, .unset, .unset] [(.ref as137), (.ref b112), (.ref b134), (.ref b134)])
                obtain ⟨_, _, ⟨T146, L146, k146, n146⟩, -, X146, ⟨Lc146, hQ146, l146, y146, z146⟩, st146⟩ := X137.specialBack hx (y := (⟨"com/example/kenning/kenning/index/Decoder", "<init>", "([BLjava/lang/String;)V"⟩ : MethodName)) rfl hown (mvT hZ (hw _ (List.mem_of_getElem? (i := 11) rfl))) (mvT hZ (hw _ (List.mem_of_getElem? (i := 12) rfl))) (mvT hZ (hw _ (List.mem_of_getElem? (i := 13) rfl))) (by decide) (backOf (W := 1) (rm1 l Z a0 hw [] b134 b112 as137 bs (8 : Int32) k112 h137 n0 Z0_138 gn_b134 A134_140 F134_bytes_141 F134_limit_142 F134_source_143 F134_pages_144 F134_ready_145 Vbs_139 ne_b112_b134) hZ (hw _ (List.mem_of_getElem? (i := 13) rfl)) (hw _ (List.mem_of_getElem? (i := 3) rfl)) (by decide) (by decide)) (g := (mkF m 280 #[.val (.int p0), .val (.int p1), .val (.int p2), .val (.int a0v), .val (.int a1v), .val (.int a2v), .val (.int (Int32.ofNat la)), .val (.int k98_0), .val (.int k100_0), .val (.int k102_0), .val (.int (Int32.ofNat lb)), .val (.int k104_0), .val (.int k106_0), .val (.int (Int32.ofNat fa)), .val (.int (Int32.ofNat fb)), .val (.ref b112), .unset, .unset, .unset, .unset] [(.ref as137), (.ref b112), (.ref b134), (.ref b134)])) rfl (by rw [hml]; rfl) (Steps.refl _) (a := b134) (argsL := [(.ref b112), (.ref as137)]) (rest := [(.ref b134)]) (lenOf pd_1 rfl) rfl (by show 2 * 0 + _ ≤ _; exact Nat.le_of_eq rfl) (hb hby at_280) (fun _ _ => ⟨rfl, e137, (by decide : 4 + 0 ≤ _), (by decide : 22 + 0 ≤ _)⟩)
                dsimp only [Pt.U, Pt.locs, Pt.cells, Pt.slots] at X146 l146 y146 z146 st146 hQ146
                subst y146 z146
                obtain ⟨h146, e146⟩ : ∃ z, T146.heap = z := ⟨_, rfl⟩
                rw [e146] at hQ146
                obtain ⟨rfl, Nq146, K146, E146, G146_bytes⟩ := hQ146
                have N146 : Fr n0 L146 := by rw [l146]; exact Fr.app N132 Nq146
                have Z0_147 : n0 ≤ h146.size := (Nat.le_trans Z0_138 K146.1)
                have Vbs_148 : Arv Z h146 b112 k112 .byte (8 : Int32) (bs.map Value.int) (.int (0 : Int32)) := (Vbs_139.keep K146 (ninS ne_b112_b134 nin0))
                have A134_149 : Exa Z h146 b134 "com/example/kenning/kenning/index/Decoder" := (A134_140.keep K146)
                have hk137_150 : kk137 ≤ h146.size := (Nat.le_trans hk137 K146.1)
                refine GotW.hop st146 ?_
                show GotW p e below s _ _ _ _ T146 (mkF m 283 #[.val (.int p0), .val (.int p1), .val (.int p2), .val (.int a0v), .val (.int a1v), .val (.int a2v), .val (.int (Int32.ofNat la)), .val (.int k98_0), .val (.int k100_0), .val (.int k102_0), .val (.int (Int32.ofNat lb)), .val (.int k104_0), .val (.int k106_0), .val (.int (Int32.ofNat fa)), .val (.int (Int32.ofNat fb)), .val (.ref b112), .unset, .unset, .unset, .unset] [(.ref b134)])
                refine GotW.step (T' := T146) (g' := (mkF m 287 #[.val (.int p0), .val (.int p1), .val (.int p2), .val (.int a0v), .val (.int a1v), .val (.int a2v), .val (.int (Int32.ofNat la)), .val (.int k98_0), .val (.int k100_0), .val (.int k102_0), .val (.int (Int32.ofNat lb)), .val (.int k104_0), .val (.int k106_0), .val (.int (Int32.ofNat fa)), .val (.int (Int32.ofNat fb)), .val (.ref b112), .val (.ref b134), .unset, .unset, .unset] [(.int k106_0)])) (fun tq kt => ?_) ?_
                · show Steps p.tables e below (T146.setTop (mkF m 283 #[.val (.int p0), .val (.int p1), .val (.int p2), .val (.int a0v), .val (.int a1v), .val (.int a2v), .val (.int (Int32.ofNat la)), .val (.int k98_0), .val (.int k100_0), .val (.int k102_0), .val (.int (Int32.ofNat lb)), .val (.int k104_0), .val (.int k106_0), .val (.int (Int32.ofNat fa)), .val (.int (Int32.ofNat fb)), .val (.ref b112), .unset, .unset, .unset, .unset] [(.ref b134)])) _
                  refine XS.astore X146.here hx rfl (hb hby at_283) rfl rfl (l' := #[.val (.int p0), .val (.int p1), .val (.int p2), .val (.int a0v), .val (.int a1v), .val (.int a2v), .val (.int (Int32.ofNat la)), .val (.int k98_0), .val (.int k100_0), .val (.int k102_0), .val (.int (Int32.ofNat lb)), .val (.int k104_0), .val (.int k106_0), .val (.int (Int32.ofNat fa)), .val (.int (Int32.ofNat fb)), .val (.ref b112), .val (.ref b134), .unset, .unset, .unset]) rfl ?_
                  show Steps p.tables e below (T146.setTop (mkF m 285 #[.val (.int p0), .val (.int p1), .val (.int p2), .val (.int a0v), .val (.int a1v), .val (.int a2v), .val (.int (Int32.ofNat la)), .val (.int k98_0), .val (.int k100_0), .val (.int k102_0), .val (.int (Int32.ofNat lb)), .val (.int k104_0), .val (.int k106_0), .val (.int (Int32.ofNat fa)), .val (.int (Int32.ofNat fb)), .val (.ref b112), .val (.ref b134), .unset, .unset, .unset] [])) _
                  refine XS.iload X146.here hx rfl (hb hby at_285) rfl ?_
                  exact kt
                have J151 : ∀ (k151_0 : Int32), k151_0 = (if k106_0 = 0 then (Int32.ofNat fb) else (Int32.ofNat fa)) → GotW p e below s (fun _ L => Fr n0 L) room_1.cells room_1.slots (some (.int (1 : Int32))) T146 (mkF m 297 #[.val (.int p0), .val (.int p1), .val (.int p2), .val (.int a0v), .val (.int a1v), .val (.int a2v), .val (.int (Int32.ofNat la)), .val (.int k98_0), .val (.int k100_0), .val (.int k102_0), .val (.int (Int32.ofNat lb)), .val (.int k104_0), .val (.int k106_0), .val (.int (Int32.ofNat fa)), .val (.int (Int32.ofNat fb)), .val (.ref b112), .val (.ref b134), .unset, .unset, .unset] [(.int k151_0)]) := by
                  intro k151_0 hk151_0
                  refine GotW.step (T' := T146) (g' := (mkF m 301 #[.val (.int p0), .val (.int p1), .val (.int p2), .val (.int a0v), .val (.int a1v), .val (.int a2v), .val (.int (Int32.ofNat la)), .val (.int k98_0), .val (.int k100_0), .val (.int k102_0), .val (.int (Int32.ofNat lb)), .val (.int k104_0), .val (.int k106_0), .val (.int (Int32.ofNat fa)), .val (.int (Int32.ofNat fb)), .val (.ref b112), .val (.ref b134), .val (.int k151_0), .unset, .unset] [(.int k106_0)])) (fun tq kt => ?_) ?_
                  · show Steps p.tables e below (T146.setTop (mkF m 297 #[.val (.int p0), .val (.int p1), .val (.int p2), .val (.int a0v), .val (.int a1v), .val (.int a2v), .val (.int (Int32.ofNat la)), .val (.int k98_0), .val (.int k100_0), .val (.int k102_0), .val (.int (Int32.ofNat lb)), .val (.int k104_0), .val (.int k106_0), .val (.int (Int32.ofNat fa)), .val (.int (Int32.ofNat fb)), .val (.ref b112), .val (.ref b134), .unset, .unset, .unset] [(.int k151_0)])) _
                    refine XS.istore X146.here hx rfl (hb hby at_297) rfl (l' := #[.val (.int p0), .val (.int p1), .val (.int p2), .val (.int a0v), .val (.int a1v), .val (.int a2v), .val (.int (Int32.ofNat la)), .val (.int k98_0), .val (.int k100_0), .val (.int k102_0), .val (.int (Int32.ofNat lb)), .val (.int k104_0), .val (.int k106_0), .val (.int (Int32.ofNat fa)), .val (.int (Int32.ofNat fb)), .val (.ref b112), .val (.ref b134), .val (.int k151_0), .unset, .unset]) rfl ?_
                    show Steps p.tables e below (T146.setTop (mkF m 299 #[.val (.int p0), .val (.int p1), .val (.int p2), .val (.int a0v), .val (.int a1v), .val (.int a2v), .val (.int (Int32.ofNat la)), .val (.int k98_0), .val (.int k100_0), .val (.int k102_0), .val (.int (Int32.ofNat lb)), .val (.int k104_0), .val (.int k106_0), .val (.int (Int32.ofNat fa)), .val (.int (Int32.ofNat fb)), .val (.ref b112), .val (.ref b134), .val (.int k151_0), .unset, .unset] [])) _
                    refine XS.iload X146.here hx rfl (hb hby at_299) rfl ?_
                    exact kt
                  have J153 : ∀ (T153 : State) (h153 : Heap) (L153 : List Loc), Stand p l e room_1 sL m #[(.int p0), (.int p1), (.int p2)] below meth c T153 L153 4 22 → T153.heap = h153 → Fr n0 L153 → ∀ (k153_0 : Int32), k153_0 = (if k106_0 = 0 then (f3 a0v a1v a2v (Int32.ofNat la) k98_0 k100_0 k102_0 (Int32.ofNat lb)) else (0 : Int32)) → n0 ≤ h153.size → Arv Z h153 b112 k112 .byte (8 : Int32) (bs.map Value.int) (.int (0 : Int32)) → Exa Z h153 b134 "com/example/kenning/kenning/index/Decoder" → Fld Z h153 b134 "com/example/kenning/kenning/index/Decoder" "bytes" "[B" (.ref b112) → kk137 ≤ h153.size → GotW p e below s (fun _ L => Fr n0 L) room_1.cells room_1.slots (some (.int (1 : Int32))) T153 (mkF m 326 #[.val (.int p0), .val (.int p1), .val (.int p2), .val (.int a0v), .val (.int a1v), .val (.int a2v), .val (.int (Int32.ofNat la)), .val (.int k98_0), .val (.int k100_0), .val (.int k102_0), .val (.int (Int32.ofNat lb)), .val (.int k104_0), .val (.int k106_0), .val (.int (Int32.ofNat fa)), .val (.int (Int32.ofNat fb)), .val (.ref b112), .val (.ref b134), .val (.int k151_0), .unset, .unset] [(.int k153_0)]) := by
                    intro T153 h153 L153 X153 e153 N153 k153_0 hk153_0 Z0_156 Vbs_157 A134_158 G146_bytes_159 hk137_160
                    refine GotW.step (T' := T153) (g' := (mkF m 328 #[.val (.int p0), .val (.int p1), .val (.int p2), .val (.int a0v), .val (.int a1v), .val (.int a2v), .val (.int (Int32.ofNat la)), .val (.int k98_0), .val (.int k100_0), .val (.int k102_0), .val (.int (Int32.ofNat lb)), .val (.int k104_0), .val (.int k106_0), .val (.int (Int32.ofNat fa)), .val (.int (Int32.ofNat fb)), .val (.ref b112), .val (.ref b134), .val (.int k151_0), .val (.int k153_0), .unset] [])) (fun tq kt => ?_) ?_
                    · show Steps p.tables e below (T153.setTop (mkF m 326 #[.val (.int p0), .val (.int p1), .val (.int p2), .val (.int a0v), .val (.int a1v), .val (.int a2v), .val (.int (Int32.ofNat la)), .val (.int k98_0), .val (.int k100_0), .val (.int k102_0), .val (.int (Int32.ofNat lb)), .val (.int k104_0), .val (.int k106_0), .val (.int (Int32.ofNat fa)), .val (.int (Int32.ofNat fb)), .val (.ref b112), .val (.ref b134), .val (.int k151_0), .unset, .unset] [(.int k153_0)])) _
                      refine XS.istore X153.here hx rfl (hb hby at_326) rfl (l' := #[.val (.int p0), .val (.int p1), .val (.int p2), .val (.int a0v), .val (.int a1v), .val (.int a2v), .val (.int (Int32.ofNat la)), .val (.int k98_0), .val (.int k100_0), .val (.int k102_0), .val (.int (Int32.ofNat lb)), .val (.int k104_0), .val (.int k106_0), .val (.int (Int32.ofNat fa)), .val (.int (Int32.ofNat fb)), .val (.ref b112), .val (.ref b134), .val (.int k151_0), .val (.int k153_0), .unset]) rfl ?_
                      exact kt
                    obtain ⟨fo, efo, hoth⟩ := own_oth hk151_0
                    rw [efo]
                    show GotW p e below s _ _ _ _ T153 (mkF m 328 #[.val (.int p0), .val (.int p1), .val (.int p2), .val (.int a0v), .val (.int a1v), .val (.int a2v), .val (.int (Int32.ofNat la)), .val (.int k98_0), .val (.int k100_0), .val (.int k102_0), .val (.int (Int32.ofNat lb)), .val (.int k104_0), .val (.int k106_0), .val (.int (Int32.ofNat fa)), .val (.int (Int32.ofNat fb)), .val (.ref b112), .val (.ref b134), .val (.int (Int32.ofNat fo)), .val (.int k153_0), .unset] [])
                    have hfo : fo ≤ 4 := by omega
                    refine GotW.step (T' := T153) (g' := (mkF m 334 #[.val (.int p0), .val (.int p1), .val (.int p2), .val (.int a0v), .val (.int a1v), .val (.int a2v), .val (.int (Int32.ofNat la)), .val (.int k98_0), .val (.int k100_0), .val (.int k102_0), .val (.int (Int32.ofNat lb)), .val (.int k104_0), .val (.int k106_0), .val (.int (Int32.ofNat fa)), .val (.int (Int32.ofNat fb)), .val (.ref b112), .val (.ref b134), .val (.int (Int32.ofNat fo)), .val (.int k153_0), .unset] [(.int (Int32.ofNat fo)), (.int (Int32.ofNat fa)), (.ref b134)])) (fun tq kt => ?_) ?_
                    · show Steps p.tables e below (T153.setTop (mkF m 328 #[.val (.int p0), .val (.int p1), .val (.int p2), .val (.int a0v), .val (.int a1v), .val (.int a2v), .val (.int (Int32.ofNat la)), .val (.int k98_0), .val (.int k100_0), .val (.int k102_0), .val (.int (Int32.ofNat lb)), .val (.int k104_0), .val (.int k106_0), .val (.int (Int32.ofNat fa)), .val (.int (Int32.ofNat fb)), .val (.ref b112), .val (.ref b134), .val (.int (Int32.ofNat fo)), .val (.int k153_0), .unset] [])) _
                      refine XS.aload X153.here hx rfl (hb hby at_328) rfl rfl ?_
                      show Steps p.tables e below (T153.setTop (mkF m 330 #[.val (.int p0), .val (.int p1), .val (.int p2), .val (.int a0v), .val (.int a1v), .val (.int a2v), .val (.int (Int32.ofNat la)), .val (.int k98_0), .val (.int k100_0), .val (.int k102_0), .val (.int (Int32.ofNat lb)), .val (.int k104_0), .val (.int k106_0), .val (.int (Int32.ofNat fa)), .val (.int (Int32.ofNat fb)), .val (.ref b112), .val (.ref b134), .val (.int (Int32.ofNat fo)), .val (.int k153_0), .unset] [(.ref b134)])) _
                      refine XS.iload X153.here hx rfl (hb hby at_330) rfl ?_
                      show Steps p.tables e below (T153.setTop (mkF m 332 #[.val (.int p0), .val (.int p1), .val (.int p2), .val (.int a0v), .val (.int a1v), .val (.int a2v), .val (.int (Int32.ofNat la)), .val (.int k98_0), .val (.int k100_0), .val (.int k102_0), .val (.int (Int32.ofNat lb)), .val (.int k104_0), .val (.int k106_0), .val (.int (Int32.ofNat fa)), .val (.int (Int32.ofNat fb)), .val (.ref b112), .val (.ref b134), .val (.int (Int32.ofNat fo)), .val (.int k153_0), .unset] [(.int (Int32.ofNat fa)), (.ref b134)])) _
                      refine XS.iload X153.here hx rfl (hb hby at_332) rfl ?_
                      exact kt
                    obtain ⟨cq161, kq161, qa161, qb161, qc161⟩ := isOf hZ e153 A134_158
                    obtain ⟨_, _, ⟨T161, L161, k161, n161⟩, -, X161, ⟨Lc161, hQ161, l161, y161, z161⟩, st161⟩ := X153.virtualBack hx (y := (⟨"com/example/kenning/kenning/index/Decoder", "compareTexts", "(II)I"⟩ : MethodName)) (z := (⟨"com/example/kenning/kenning/index/Decoder", "compareTexts", "(II)I"⟩ : MethodName)) hown (mvT hZ (hw _ (List.mem_of_getElem? (i := 35) rfl))) (mvT hZ (hw _ (List.mem_of_getElem? (i := 36) rfl))) (notFace_of_selects (args := #[]) (mvT hZ (hw _ (List.mem_of_getElem? (i := 38) rfl)))) (mvT hZ (hw _ (List.mem_of_getElem? (i := 38) rfl))) (mvT hZ (hw _ (List.mem_of_getElem? (i := 37) rfl))) (by decide) (backOf (W := 0) (rm5 l Z a0 hw [] b134 fa fo la bs b112 k112 h153 n0 Z0_156 G146_bytes_159 Vbs_157 hfa hfo hla hlb1) hZ (hw _ (List.mem_of_getElem? (i := 39) rfl)) (hw _ (List.mem_of_getElem? (i := 3) rfl)) (by decide) (by decide)) qa161 qc161 (g := (mkF m 334 #[.val (.int p0), .val (.int p1), .val (.int p2), .val (.int a0v), .val (.int a1v), .val (.int a2v), .val (.int (Int32.ofNat la)), .val (.int k98_0), .val (.int k100_0), .val (.int k102_0), .val (.int (Int32.ofNat lb)), .val (.int k104_0), .val (.int k106_0), .val (.int (Int32.ofNat fa)), .val (.int (Int32.ofNat fb)), .val (.ref b112), .val (.ref b134), .val (.int (Int32.ofNat fo)), .val (.int k153_0), .unset] [(.int (Int32.ofNat fo)), (.int (Int32.ofNat fa)), (.ref b134)])) rfl (by rw [hml]; rfl) (Steps.refl _) (argsL := [(.int (Int32.ofNat fa)), (.int (Int32.ofNat fo))]) (rest := []) (lenOf pd_0 rfl) rfl (by show 2 * 0 + _ ≤ _; exact Nat.le_of_eq rfl) (hb hby at_334) (fun _ _ => ⟨rfl, e153, (by decide : 4 + 0 ≤ _), (by decide : 22 + 0 ≤ _)⟩)
                    dsimp only [Pt.U, Pt.locs, Pt.cells, Pt.slots] at X161 l161 y161 z161 st161 hQ161
                    subst y161 z161
                    obtain ⟨rfl, Nq161, e161⟩ := hQ161
                    have N161 : Fr n0 L161 := by rw [l161]; exact Fr.app N153 Nq161
                    refine GotW.hop st161 ?_
                    show GotW p e below s _ _ _ _ T161 (mkF m 337 #[.val (.int p0), .val (.int p1), .val (.int p2), .val (.int a0v), .val (.int a1v), .val (.int a2v), .val (.int (Int32.ofNat la)), .val (.int k98_0), .val (.int k100_0), .val (.int k102_0), .val (.int (Int32.ofNat lb)), .val (.int k104_0), .val (.int k106_0), .val (.int (Int32.ofNat fa)), .val (.int (Int32.ofNat fb)), .val (.ref b112), .val (.ref b134), .val (.int (Int32.ofNat fo)), .val (.int k153_0), .unset] [(.int (cx bs fa fo la 0))])
                    refine GotW.step (T' := T161) (g' := (mkF m 341 #[.val (.int p0), .val (.int p1), .val (.int p2), .val (.int a0v), .val (.int a1v), .val (.int a2v), .val (.int (Int32.ofNat la)), .val (.int k98_0), .val (.int k100_0), .val (.int k102_0), .val (.int (Int32.ofNat lb)), .val (.int k104_0), .val (.int k106_0), .val (.int (Int32.ofNat fa)), .val (.int (Int32.ofNat fb)), .val (.ref b112), .val (.ref b134), .val (.int (Int32.ofNat fo)), .val (.int k153_0), .val (.int (cx bs fa fo la 0))] [(.int (cx bs fa fo la 0))])) (fun tq kt => ?_) ?_
                    · show Steps p.tables e below (T161.setTop (mkF m 337 #[.val (.int p0), .val (.int p1), .val (.int p2), .val (.int a0v), .val (.int a1v), .val (.int a2v), .val (.int (Int32.ofNat la)), .val (.int k98_0), .val (.int k100_0), .val (.int k102_0), .val (.int (Int32.ofNat lb)), .val (.int k104_0), .val (.int k106_0), .val (.int (Int32.ofNat fa)), .val (.int (Int32.ofNat fb)), .val (.ref b112), .val (.ref b134), .val (.int (Int32.ofNat fo)), .val (.int k153_0), .unset] [(.int (cx bs fa fo la 0))])) _
                      refine XS.istore X161.here hx rfl (hb hby at_337) rfl (l' := #[.val (.int p0), .val (.int p1), .val (.int p2), .val (.int a0v), .val (.int a1v), .val (.int a2v), .val (.int (Int32.ofNat la)), .val (.int k98_0), .val (.int k100_0), .val (.int k102_0), .val (.int (Int32.ofNat lb)), .val (.int k104_0), .val (.int k106_0), .val (.int (Int32.ofNat fa)), .val (.int (Int32.ofNat fb)), .val (.ref b112), .val (.ref b134), .val (.int (Int32.ofNat fo)), .val (.int k153_0), .val (.int (cx bs fa fo la 0))]) rfl ?_
                      show Steps p.tables e below (T161.setTop (mkF m 339 #[.val (.int p0), .val (.int p1), .val (.int p2), .val (.int a0v), .val (.int a1v), .val (.int a2v), .val (.int (Int32.ofNat la)), .val (.int k98_0), .val (.int k100_0), .val (.int k102_0), .val (.int (Int32.ofNat lb)), .val (.int k104_0), .val (.int k106_0), .val (.int (Int32.ofNat fa)), .val (.int (Int32.ofNat fb)), .val (.ref b112), .val (.ref b134), .val (.int (Int32.ofNat fo)), .val (.int k153_0), .val (.int (cx bs fa fo la 0))] [])) _
                      refine XS.iload X161.here hx rfl (hb hby at_339) rfl ?_
                      exact kt
                    obtain ⟨_, _, ⟨T162, L162, k162, n162⟩, -, X162, ⟨Lc162, hQ162, l162, y162, z162⟩, st162⟩ := Jvm.LawKit.callS X161 hx (y := (⟨"com/example/kenning/kenning/index/DecoderCompareTextsPinLaw", "sign", "(I)I"⟩ : MethodName)) hown (mvT hZ (hw _ (List.mem_of_getElem? (i := 40) rfl))) (mvT hZ (hw _ (List.mem_of_getElem? (i := 41) rfl))) (mvT hZ (hw _ (List.mem_of_getElem? (i := 29) rfl))) (mvT hZ (hw _ (List.mem_of_getElem? (i := 42) rfl))) (by decide) (backOf (W := 0) (rm6 l Z a0 hw [] (cx bs fa fo la 0) h153 n0 Z0_156) hZ (hw _ (List.mem_of_getElem? (i := 42) rfl)) (hw _ (List.mem_of_getElem? (i := 29) rfl)) (by decide) (by decide)) (g := (mkF m 341 #[.val (.int p0), .val (.int p1), .val (.int p2), .val (.int a0v), .val (.int a1v), .val (.int a2v), .val (.int (Int32.ofNat la)), .val (.int k98_0), .val (.int k100_0), .val (.int k102_0), .val (.int (Int32.ofNat lb)), .val (.int k104_0), .val (.int k106_0), .val (.int (Int32.ofNat fa)), .val (.int (Int32.ofNat fb)), .val (.ref b112), .val (.ref b134), .val (.int (Int32.ofNat fo)), .val (.int k153_0), .val (.int (cx bs fa fo la 0))] [(.int (cx bs fa fo la 0))])) rfl (by rw [hml]; rfl) (argsL := [(.int (cx bs fa fo la 0))]) (rest := []) (lenOf pd_3 rfl) rfl (by show 2 * 0 + _ ≤ _; exact Nat.le_of_eq rfl) (hb hby at_341) (fun _ _ => ⟨rfl, e161, (by decide : 4 + 0 ≤ _), (by decide : 22 + 0 ≤ _)⟩)
                    dsimp only [Pt.U, Pt.locs, Pt.cells, Pt.slots] at X162 l162 y162 z162 st162 hQ162
                    subst y162 z162
                    obtain ⟨rfl, Nq162, e162⟩ := hQ162
                    have N162 : Fr n0 L162 := by rw [l162]; exact Fr.app N161 Nq162
                    refine GotW.step st162 ?_
                    show GotW p e below s _ _ _ _ T162 (mkF m 344 #[.val (.int p0), .val (.int p1), .val (.int p2), .val (.int a0v), .val (.int a1v), .val (.int a2v), .val (.int (Int32.ofNat la)), .val (.int k98_0), .val (.int k100_0), .val (.int k102_0), .val (.int (Int32.ofNat lb)), .val (.int k104_0), .val (.int k106_0), .val (.int (Int32.ofNat fa)), .val (.int (Int32.ofNat fb)), .val (.ref b112), .val (.ref b134), .val (.int (Int32.ofNat fo)), .val (.int k153_0), .val (.int (cx bs fa fo la 0))] [(.int (f6 (cx bs fa fo la 0)))])
                    refine GotW.step (T' := T162) (g' := (mkF m 354 #[.val (.int p0), .val (.int p1), .val (.int p2), .val (.int a0v), .val (.int a1v), .val (.int a2v), .val (.int (Int32.ofNat la)), .val (.int k98_0), .val (.int k100_0), .val (.int k102_0), .val (.int (Int32.ofNat lb)), .val (.int k104_0), .val (.int k106_0), .val (.int (Int32.ofNat fa)), .val (.int (Int32.ofNat fb)), .val (.ref b112), .val (.ref b134), .val (.int (Int32.ofNat fo)), .val (.int k153_0), .val (.int (cx bs fa fo la 0))] [(.int (1 : Int32))])) (fun tq kt => ?_) ?_
                    · show Steps p.tables e below (T162.setTop (mkF m 344 #[.val (.int p0), .val (.int p1), .val (.int p2), .val (.int a0v), .val (.int a1v), .val (.int a2v), .val (.int (Int32.ofNat la)), .val (.int k98_0), .val (.int k100_0), .val (.int k102_0), .val (.int (Int32.ofNat lb)), .val (.int k104_0), .val (.int k106_0), .val (.int (Int32.ofNat fa)), .val (.int (Int32.ofNat fb)), .val (.ref b112), .val (.ref b134), .val (.int (Int32.ofNat fo)), .val (.int k153_0), .val (.int (cx bs fa fo la 0))] [(.int (f6 (cx bs fa fo la 0)))])) _
                      refine XS.iload X162.here hx rfl (hb hby at_344) rfl ?_
                      show Steps p.tables e below (T162.setTop (mkF m 346 #[.val (.int p0), .val (.int p1), .val (.int p2), .val (.int a0v), .val (.int a1v), .val (.int a2v), .val (.int (Int32.ofNat la)), .val (.int k98_0), .val (.int k100_0), .val (.int k102_0), .val (.int (Int32.ofNat lb)), .val (.int k104_0), .val (.int k106_0), .val (.int (Int32.ofNat fa)), .val (.int (Int32.ofNat fb)), .val (.ref b112), .val (.ref b134), .val (.int (Int32.ofNat fo)), .val (.int k153_0), .val (.int (cx bs fa fo la 0))] [(.int k153_0), (.int (f6 (cx bs fa fo la 0)))])) _
                      refine XS.icmpNo X162.here hx rfl (hb hby at_346) rfl (XT.ii_ne_f (own_fin hoff hla hlb hl0 hbs hoth ha0v ha1v ha2v hk98_0 hk100_0 hk102_0 hk104_0 hk106_0 hk108_0 hk110_0 hk151_0 hk153_0)) ?_
                      show Steps p.tables e below (T162.setTop (mkF m 349 #[.val (.int p0), .val (.int p1), .val (.int p2), .val (.int a0v), .val (.int a1v), .val (.int a2v), .val (.int (Int32.ofNat la)), .val (.int k98_0), .val (.int k100_0), .val (.int k102_0), .val (.int (Int32.ofNat lb)), .val (.int k104_0), .val (.int k106_0), .val (.int (Int32.ofNat fa)), .val (.int (Int32.ofNat fb)), .val (.ref b112), .val (.ref b134), .val (.int (Int32.ofNat fo)), .val (.int k153_0), .val (.int (cx bs fa fo la 0))] [])) _
                      refine XS.iconst X162.here hx rfl (hb hby at_349) ?_
                      show Steps p.tables e below (T162.setTop (mkF m 350 #[.val (.int p0), .val (.int p1), .val (.int p2), .val (.int a0v), .val (.int a1v), .val (.int a2v), .val (.int (Int32.ofNat la)), .val (.int k98_0), .val (.int k100_0), .val (.int k102_0), .val (.int (Int32.ofNat lb)), .val (.int k104_0), .val (.int k106_0), .val (.int (Int32.ofNat fa)), .val (.int (Int32.ofNat fb)), .val (.ref b112), .val (.ref b134), .val (.int (Int32.ofNat fo)), .val (.int k153_0), .val (.int (cx bs fa fo la 0))] [(.int (1 : Int32))])) _
                      refine XS.goto X162.here hx rfl (pc0 := 350) (pc' := 354) rfl (hb hby at_350) (by decide) (by decide) ?_
                      exact kt
                    exact GotW.retN (y := (1 : Int32)) (t := .boolean) hsL hS (by rw [e162]; exact hk137_160) X162 hx Bd.returns (by simp) hlk (hb hby at_354) (by decide) N162 (by decide) (by decide)
                  by_cases hc154 : (k106_0 = 0)
                  · refine GotW.step (T' := T146) (g' := (mkF m 323 #[.val (.int p0), .val (.int p1), .val (.int p2), .val (.int a0v), .val (.int a1v), .val (.int a2v), .val (.int (Int32.ofNat la)), .val (.int k98_0), .val (.int k100_0), .val (.int k102_0), .val (.int (Int32.ofNat lb)), .val (.int k104_0), .val (.int k106_0), .val (.int (Int32.ofNat fa)), .val (.int (Int32.ofNat fb)), .val (.ref b112), .val (.ref b134), .val (.int k151_0), .unset, .unset] [(.int (Int32.ofNat lb)), (.int k102_0), (.int k100_0), (.int k98_0), (.int (Int32.ofNat la)), (.int a2v), (.int a1v), (.int a0v)])) (fun tq kt => ?_) ?_
                    · show Steps p.tables e below (T146.setTop (mkF m 301 #[.val (.int p0), .val (.int p1), .val (.int p2), .val (.int a0v), .val (.int a1v), .val (.int a2v), .val (.int (Int32.ofNat la)), .val (.int k98_0), .val (.int k100_0), .val (.int k102_0), .val (.int (Int32.ofNat lb)), .val (.int k104_0), .val (.int k106_0), .val (.int (Int32.ofNat fa)), .val (.int (Int32.ofNat fb)), .val (.ref b112), .val (.ref b134), .val (.int k151_0), .unset, .unset] [(.int k106_0)])) _
                      refine XS.ifYes X146.here hx rfl (pc0 := 301) (pc' := 308) rfl (hb hby at_301) rfl (XT.i0_eq_t hc154) (by decide) (by decide) ?_
                      show Steps p.tables e below (T146.setTop (mkF m 308 #[.val (.int p0), .val (.int p1), .val (.int p2), .val (.int a0v), .val (.int a1v), .val (.int a2v), .val (.int (Int32.ofNat la)), .val (.int k98_0), .val (.int k100_0), .val (.int k102_0), .val (.int (Int32.ofNat lb)), .val (.int k104_0), .val (.int k106_0), .val (.int (Int32.ofNat fa)), .val (.int (Int32.ofNat fb)), .val (.ref b112), .val (.ref b134), .val (.int k151_0), .unset, .unset] [])) _
                      refine XS.iloadN X146.here hx rfl (hb hby at_308) rfl ?_
                      show Steps p.tables e below (T146.setTop (mkF m 309 #[.val (.int p0), .val (.int p1), .val (.int p2), .val (.int a0v), .val (.int a1v), .val (.int a2v), .val (.int (Int32.ofNat la)), .val (.int k98_0), .val (.int k100_0), .val (.int k102_0), .val (.int (Int32.ofNat lb)), .val (.int k104_0), .val (.int k106_0), .val (.int (Int32.ofNat fa)), .val (.int (Int32.ofNat fb)), .val (.ref b112), .val (.ref b134), .val (.int k151_0), .unset, .unset] [(.int a0v)])) _
                      refine XS.iload X146.here hx rfl (hb hby at_309) rfl ?_
                      show Steps p.tables e below (T146.setTop (mkF m 311 #[.val (.int p0), .val (.int p1), .val (.int p2), .val (.int a0v), .val (.int a1v), .val (.int a2v), .val (.int (Int32.ofNat la)), .val (.int k98_0), .val (.int k100_0), .val (.int k102_0), .val (.int (Int32.ofNat lb)), .val (.int k104_0), .val (.int k106_0), .val (.int (Int32.ofNat fa)), .val (.int (Int32.ofNat fb)), .val (.ref b112), .val (.ref b134), .val (.int k151_0), .unset, .unset] [(.int a1v), (.int a0v)])) _
                      refine XS.iload X146.here hx rfl (hb hby at_311) rfl ?_
                      show Steps p.tables e below (T146.setTop (mkF m 313 #[.val (.int p0), .val (.int p1), .val (.int p2), .val (.int a0v), .val (.int a1v), .val (.int a2v), .val (.int (Int32.ofNat la)), .val (.int k98_0), .val (.int k100_0), .val (.int k102_0), .val (.int (Int32.ofNat lb)), .val (.int k104_0), .val (.int k106_0), .val (.int (Int32.ofNat fa)), .val (.int (Int32.ofNat fb)), .val (.ref b112), .val (.ref b134), .val (.int k151_0), .unset, .unset] [(.int a2v), (.int a1v), (.int a0v)])) _
                      refine XS.iload X146.here hx rfl (hb hby at_313) rfl ?_
                      show Steps p.tables e below (T146.setTop (mkF m 315 #[.val (.int p0), .val (.int p1), .val (.int p2), .val (.int a0v), .val (.int a1v), .val (.int a2v), .val (.int (Int32.ofNat la)), .val (.int k98_0), .val (.int k100_0), .val (.int k102_0), .val (.int (Int32.ofNat lb)), .val (.int k104_0), .val (.int k106_0), .val (.int (Int32.ofNat fa)), .val (.int (Int32.ofNat fb)), .val (.ref b112), .val (.ref b134), .val (.int k151_0), .unset, .unset] [(.int (Int32.ofNat la)), (.int a2v), (.int a1v), (.int a0v)])) _
                      refine XS.iload X146.here hx rfl (hb hby at_315) rfl ?_
                      show Steps p.tables e below (T146.setTop (mkF m 317 #[.val (.int p0), .val (.int p1), .val (.int p2), .val (.int a0v), .val (.int a1v), .val (.int a2v), .val (.int (Int32.ofNat la)), .val (.int k98_0), .val (.int k100_0), .val (.int k102_0), .val (.int (Int32.ofNat lb)), .val (.int k104_0), .val (.int k106_0), .val (.int (Int32.ofNat fa)), .val (.int (Int32.ofNat fb)), .val (.ref b112), .val (.ref b134), .val (.int k151_0), .unset, .unset] [(.int k98_0), (.int (Int32.ofNat la)), (.int a2v), (.int a1v), (.int a0v)])) _
                      refine XS.iload X146.here hx rfl (hb hby at_317) rfl ?_
                      show Steps p.tables e below (T146.setTop (mkF m 319 #[.val (.int p0), .val (.int p1), .val (.int p2), .val (.int a0v), .val (.int a1v), .val (.int a2v), .val (.int (Int32.ofNat la)), .val (.int k98_0), .val (.int k100_0), .val (.int k102_0), .val (.int (Int32.ofNat lb)), .val (.int k104_0), .val (.int k106_0), .val (.int (Int32.ofNat fa)), .val (.int (Int32.ofNat fb)), .val (.ref b112), .val (.ref b134), .val (.int k151_0), .unset, .unset] [(.int k100_0), (.int k98_0), (.int (Int32.ofNat la)), (.int a2v), (.int a1v), (.int a0v)])) _
                      refine XS.iload X146.here hx rfl (hb hby at_319) rfl ?_
                      show Steps p.tables e below (T146.setTop (mkF m 321 #[.val (.int p0), .val (.int p1), .val (.int p2), .val (.int a0v), .val (.int a1v), .val (.int a2v), .val (.int (Int32.ofNat la)), .val (.int k98_0), .val (.int k100_0), .val (.int k102_0), .val (.int (Int32.ofNat lb)), .val (.int k104_0), .val (.int k106_0), .val (.int (Int32.ofNat fa)), .val (.int (Int32.ofNat fb)), .val (.ref b112), .val (.ref b134), .val (.int k151_0), .unset, .unset] [(.int k102_0), (.int k100_0), (.int k98_0), (.int (Int32.ofNat la)), (.int a2v), (.int a1v), (.int a0v)])) _
                      refine XS.iload X146.here hx rfl (hb hby at_321) rfl ?_
                      exact kt
                    obtain ⟨_, _, ⟨T155, L155, k155, n155⟩, -, X155, ⟨Lc155, hQ155, l155, y155, z155⟩, st155⟩ := Jvm.LawKit.callS X146 hx (y := (⟨"com/example/kenning/kenning/index/DecoderCompareTextsPinLaw", "reference", "(IIIIIIII)I"⟩ : MethodName)) hown (mvT hZ (hw _ (List.mem_of_getElem? (i := 27) rfl))) (mvT hZ (hw _ (List.mem_of_getElem? (i := 28) rfl))) (mvT hZ (hw _ (List.mem_of_getElem? (i := 29) rfl))) (mvT hZ (hw _ (List.mem_of_getElem? (i := 30) rfl))) (by decide) (backOf (W := 0) (rm3 l Z a0 hw [] a0v a1v a2v (Int32.ofNat la) k98_0 k100_0 k102_0 (Int32.ofNat lb) h146 n0 Z0_147) hZ (hw _ (List.mem_of_getElem? (i := 30) rfl)) (hw _ (List.mem_of_getElem? (i := 29) rfl)) (by decide) (by decide)) (g := (mkF m 323 #[.val (.int p0), .val (.int p1), .val (.int p2), .val (.int a0v), .val (.int a1v), .val (.int a2v), .val (.int (Int32.ofNat la)), .val (.int k98_0), .val (.int k100_0), .val (.int k102_0), .val (.int (Int32.ofNat lb)), .val (.int k104_0), .val (.int k106_0), .val (.int (Int32.ofNat fa)), .val (.int (Int32.ofNat fb)), .val (.ref b112), .val (.ref b134), .val (.int k151_0), .unset, .unset] [(.int (Int32.ofNat lb)), (.int k102_0), (.int k100_0), (.int k98_0), (.int (Int32.ofNat la)), (.int a2v), (.int a1v), (.int a0v)])) rfl (by rw [hml]; rfl) (argsL := [(.int a0v), (.int a1v), (.int a2v), (.int (Int32.ofNat la)), (.int k98_0), (.int k100_0), (.int k102_0), (.int (Int32.ofNat lb))]) (rest := []) (lenOf pd_2 rfl) rfl (by show 2 * 0 + _ ≤ _; exact Nat.le_of_eq rfl) (hb hby at_323) (fun _ _ => ⟨rfl, e146, (by decide : 4 + 0 ≤ _), (by decide : 22 + 0 ≤ _)⟩)
                    dsimp only [Pt.U, Pt.locs, Pt.cells, Pt.slots] at X155 l155 y155 z155 st155 hQ155
                    subst y155 z155
                    obtain ⟨rfl, Nq155, e155⟩ := hQ155
                    have N155 : Fr n0 L155 := by rw [l155]; exact Fr.app N146 Nq155
                    refine GotW.step st155 ?_
                    show GotW p e below s _ _ _ _ T155 (mkF m 326 #[.val (.int p0), .val (.int p1), .val (.int p2), .val (.int a0v), .val (.int a1v), .val (.int a2v), .val (.int (Int32.ofNat la)), .val (.int k98_0), .val (.int k100_0), .val (.int k102_0), .val (.int (Int32.ofNat lb)), .val (.int k104_0), .val (.int k106_0), .val (.int (Int32.ofNat fa)), .val (.int (Int32.ofNat fb)), .val (.ref b112), .val (.ref b134), .val (.int k151_0), .unset, .unset] [(.int (f3 a0v a1v a2v (Int32.ofNat la) k98_0 k100_0 k102_0 (Int32.ofNat lb)))])
                    exact J153 _ _ _ X155 e155 N155 (f3 a0v a1v a2v (Int32.ofNat la) k98_0 k100_0 k102_0 (Int32.ofNat lb)) (if_pos hc154).symm Z0_147 Vbs_148 A134_149 G146_bytes hk137_150
                  · refine GotW.step (T' := T146) (g' := (mkF m 326 #[.val (.int p0), .val (.int p1), .val (.int p2), .val (.int a0v), .val (.int a1v), .val (.int a2v), .val (.int (Int32.ofNat la)), .val (.int k98_0), .val (.int k100_0), .val (.int k102_0), .val (.int (Int32.ofNat lb)), .val (.int k104_0), .val (.int k106_0), .val (.int (Int32.ofNat fa)), .val (.int (Int32.ofNat fb)), .val (.ref b112), .val (.ref b134), .val (.int k151_0), .unset, .unset] [(.int (0 : Int32))])) (fun tq kt => ?_) ?_
                    · show Steps p.tables e below (T146.setTop (mkF m 301 #[.val (.int p0), .val (.int p1), .val (.int p2), .val (.int a0v), .val (.int a1v), .val (.int a2v), .val (.int (Int32.ofNat la)), .val (.int k98_0), .val (.int k100_0), .val (.int k102_0), .val (.int (Int32.ofNat lb)), .val (.int k104_0), .val (.int k106_0), .val (.int (Int32.ofNat fa)), .val (.int (Int32.ofNat fb)), .val (.ref b112), .val (.ref b134), .val (.int k151_0), .unset, .unset] [(.int k106_0)])) _
                      refine XS.ifNo X146.here hx rfl (hb hby at_301) rfl (XT.i0_eq_f hc154) ?_
                      show Steps p.tables e below (T146.setTop (mkF m 304 #[.val (.int p0), .val (.int p1), .val (.int p2), .val (.int a0v), .val (.int a1v), .val (.int a2v), .val (.int (Int32.ofNat la)), .val (.int k98_0), .val (.int k100_0), .val (.int k102_0), .val (.int (Int32.ofNat lb)), .val (.int k104_0), .val (.int k106_0), .val (.int (Int32.ofNat fa)), .val (.int (Int32.ofNat fb)), .val (.ref b112), .val (.ref b134), .val (.int k151_0), .unset, .unset] [])) _
                      refine XS.iconst X146.here hx rfl (hb hby at_304) ?_
                      show Steps p.tables e below (T146.setTop (mkF m 305 #[.val (.int p0), .val (.int p1), .val (.int p2), .val (.int a0v), .val (.int a1v), .val (.int a2v), .val (.int (Int32.ofNat la)), .val (.int k98_0), .val (.int k100_0), .val (.int k102_0), .val (.int (Int32.ofNat lb)), .val (.int k104_0), .val (.int k106_0), .val (.int (Int32.ofNat fa)), .val (.int (Int32.ofNat fb)), .val (.ref b112), .val (.ref b134), .val (.int k151_0), .unset, .unset] [(.int (0 : Int32))])) _
                      refine XS.goto X146.here hx rfl (pc0 := 305) (pc' := 326) rfl (hb hby at_305) (by decide) (by decide) ?_
                      exact kt
                    exact J153 _ _ _ X146 e146 N146 (0 : Int32) (if_neg hc154).symm Z0_147 Vbs_148 A134_149 G146_bytes hk137_150
                by_cases hc152 : (k106_0 = 0)
                · refine GotW.step (T' := T146) (g' := (mkF m 297 #[.val (.int p0), .val (.int p1), .val (.int p2), .val (.int a0v), .val (.int a1v), .val (.int a2v), .val (.int (Int32.ofNat la)), .val (.int k98_0), .val (.int k100_0), .val (.int k102_0), .val (.int (Int32.ofNat lb)), .val (.int k104_0), .val (.int k106_0), .val (.int (Int32.ofNat fa)), .val (.int (Int32.ofNat fb)), .val (.ref b112), .val (.ref b134), .unset, .unset, .unset] [(.int (Int32.ofNat fb))])) (fun tq kt => ?_) ?_
                  · show Steps p.tables e below (T146.setTop (mkF m 287 #[.val (.int p0), .val (.int p1), .val (.int p2), .val (.int a0v), .val (.int a1v), .val (.int a2v), .val (.int (Int32.ofNat la)), .val (.int k98_0), .val (.int k100_0), .val (.int k102_0), .val (.int (Int32.ofNat lb)), .val (.int k104_0), .val (.int k106_0), .val (.int (Int32.ofNat fa)), .val (.int (Int32.ofNat fb)), .val (.ref b112), .val (.ref b134), .unset, .unset, .unset] [(.int k106_0)])) _
                    refine XS.ifYes X146.here hx rfl (pc0 := 287) (pc' := 295) rfl (hb hby at_287) rfl (XT.i0_eq_t hc152) (by decide) (by decide) ?_
                    show Steps p.tables e below (T146.setTop (mkF m 295 #[.val (.int p0), .val (.int p1), .val (.int p2), .val (.int a0v), .val (.int a1v), .val (.int a2v), .val (.int (Int32.ofNat la)), .val (.int k98_0), .val (.int k100_0), .val (.int k102_0), .val (.int (Int32.ofNat lb)), .val (.int k104_0), .val (.int k106_0), .val (.int (Int32.ofNat fa)), .val (.int (Int32.ofNat fb)), .val (.ref b112), .val (.ref b134), .unset, .unset, .unset] [])) _
                    refine XS.iload X146.here hx rfl (hb hby at_295) rfl ?_
                    exact kt
                  exact J151 (Int32.ofNat fb) (if_pos hc152).symm
                · refine GotW.step (T' := T146) (g' := (mkF m 297 #[.val (.int p0), .val (.int p1), .val (.int p2), .val (.int a0v), .val (.int a1v), .val (.int a2v), .val (.int (Int32.ofNat la)), .val (.int k98_0), .val (.int k100_0), .val (.int k102_0), .val (.int (Int32.ofNat lb)), .val (.int k104_0), .val (.int k106_0), .val (.int (Int32.ofNat fa)), .val (.int (Int32.ofNat fb)), .val (.ref b112), .val (.ref b134), .unset, .unset, .unset] [(.int (Int32.ofNat fa))])) (fun tq kt => ?_) ?_
                  · show Steps p.tables e below (T146.setTop (mkF m 287 #[.val (.int p0), .val (.int p1), .val (.int p2), .val (.int a0v), .val (.int a1v), .val (.int a2v), .val (.int (Int32.ofNat la)), .val (.int k98_0), .val (.int k100_0), .val (.int k102_0), .val (.int (Int32.ofNat lb)), .val (.int k104_0), .val (.int k106_0), .val (.int (Int32.ofNat fa)), .val (.int (Int32.ofNat fb)), .val (.ref b112), .val (.ref b134), .unset, .unset, .unset] [(.int k106_0)])) _
                    refine XS.ifNo X146.here hx rfl (hb hby at_287) rfl (XT.i0_eq_f hc152) ?_
                    show Steps p.tables e below (T146.setTop (mkF m 290 #[.val (.int p0), .val (.int p1), .val (.int p2), .val (.int a0v), .val (.int a1v), .val (.int a2v), .val (.int (Int32.ofNat la)), .val (.int k98_0), .val (.int k100_0), .val (.int k102_0), .val (.int (Int32.ofNat lb)), .val (.int k104_0), .val (.int k106_0), .val (.int (Int32.ofNat fa)), .val (.int (Int32.ofNat fb)), .val (.ref b112), .val (.ref b134), .unset, .unset, .unset] [])) _
                    refine XS.iload X146.here hx rfl (hb hby at_290) rfl ?_
                    show Steps p.tables e below (T146.setTop (mkF m 292 #[.val (.int p0), .val (.int p1), .val (.int p2), .val (.int a0v), .val (.int a1v), .val (.int a2v), .val (.int (Int32.ofNat la)), .val (.int k98_0), .val (.int k100_0), .val (.int k102_0), .val (.int (Int32.ofNat lb)), .val (.int k104_0), .val (.int k106_0), .val (.int (Int32.ofNat fa)), .val (.int (Int32.ofNat fb)), .val (.ref b112), .val (.ref b134), .unset, .unset, .unset] [(.int (Int32.ofNat fa))])) _
                    refine XS.goto X146.here hx rfl (pc0 := 292) (pc' := 297) rfl (hb hby at_292) (by decide) (by decide) ?_
                    exact kt
                  exact J151 (Int32.ofNat fa) (if_neg hc152).symm
              by_cases hc111 : (k104_0 = 0)
              · refine GotW.step (T' := s₁) (g' := (mkF m 175 #[.val (.int p0), .val (.int p1), .val (.int p2), .val (.int a0v), .val (.int a1v), .val (.int a2v), .val (.int (Int32.ofNat la)), .val (.int k98_0), .val (.int k100_0), .val (.int k102_0), .val (.int (Int32.ofNat lb)), .val (.int k104_0), .val (.int k106_0), .val (.int k108_0), .unset, .unset, .unset, .unset, .unset, .unset] [(.int (4 : Int32))])) (fun tq kt => ?_) ?_
                · show Steps p.tables e below (s₁.setTop (mkF m 167 #[.val (.int p0), .val (.int p1), .val (.int p2), .val (.int a0v), .val (.int a1v), .val (.int a2v), .val (.int (Int32.ofNat la)), .val (.int k98_0), .val (.int k100_0), .val (.int k102_0), .val (.int (Int32.ofNat lb)), .val (.int k104_0), .val (.int k106_0), .val (.int k108_0), .unset, .unset, .unset, .unset, .unset, .unset] [(.int k104_0)])) _
                  refine XS.ifYes X0.here hx rfl (pc0 := 167) (pc' := 174) rfl (hb hby at_167) rfl (XT.i0_eq_t hc111) (by decide) (by decide) ?_
                  show Steps p.tables e below (s₁.setTop (mkF m 174 #[.val (.int p0), .val (.int p1), .val (.int p2), .val (.int a0v), .val (.int a1v), .val (.int a2v), .val (.int (Int32.ofNat la)), .val (.int k98_0), .val (.int k100_0), .val (.int k102_0), .val (.int (Int32.ofNat lb)), .val (.int k104_0), .val (.int k106_0), .val (.int k108_0), .unset, .unset, .unset, .unset, .unset, .unset] [])) _
                  refine XS.iconst X0.here hx rfl (hb hby at_174) ?_
                  exact kt
                exact J110 (4 : Int32) (if_pos hc111).symm
              · refine GotW.step (T' := s₁) (g' := (mkF m 175 #[.val (.int p0), .val (.int p1), .val (.int p2), .val (.int a0v), .val (.int a1v), .val (.int a2v), .val (.int (Int32.ofNat la)), .val (.int k98_0), .val (.int k100_0), .val (.int k102_0), .val (.int (Int32.ofNat lb)), .val (.int k104_0), .val (.int k106_0), .val (.int k108_0), .unset, .unset, .unset, .unset, .unset, .unset] [(.int (0 : Int32))])) (fun tq kt => ?_) ?_
                · show Steps p.tables e below (s₁.setTop (mkF m 167 #[.val (.int p0), .val (.int p1), .val (.int p2), .val (.int a0v), .val (.int a1v), .val (.int a2v), .val (.int (Int32.ofNat la)), .val (.int k98_0), .val (.int k100_0), .val (.int k102_0), .val (.int (Int32.ofNat lb)), .val (.int k104_0), .val (.int k106_0), .val (.int k108_0), .unset, .unset, .unset, .unset, .unset, .unset] [(.int k104_0)])) _
                  refine XS.ifNo X0.here hx rfl (hb hby at_167) rfl (XT.i0_eq_f hc111) ?_
                  show Steps p.tables e below (s₁.setTop (mkF m 170 #[.val (.int p0), .val (.int p1), .val (.int p2), .val (.int a0v), .val (.int a1v), .val (.int a2v), .val (.int (Int32.ofNat la)), .val (.int k98_0), .val (.int k100_0), .val (.int k102_0), .val (.int (Int32.ofNat lb)), .val (.int k104_0), .val (.int k106_0), .val (.int k108_0), .unset, .unset, .unset, .unset, .unset, .unset] [])) _
                  refine XS.iconst X0.here hx rfl (hb hby at_170) ?_
                  show Steps p.tables e below (s₁.setTop (mkF m 171 #[.val (.int p0), .val (.int p1), .val (.int p2), .val (.int a0v), .val (.int a1v), .val (.int a2v), .val (.int (Int32.ofNat la)), .val (.int k98_0), .val (.int k100_0), .val (.int k102_0), .val (.int (Int32.ofNat lb)), .val (.int k104_0), .val (.int k106_0), .val (.int k108_0), .unset, .unset, .unset, .unset, .unset, .unset] [(.int (0 : Int32))])) _
                  refine XS.goto X0.here hx rfl (pc0 := 171) (pc' := 175) rfl (hb hby at_171) (by decide) (by decide) ?_
                  exact kt
                exact J110 (0 : Int32) (if_neg hc111).symm
            by_cases hc109 : (k104_0 = 0)
            · refine GotW.step (T' := s₁) (g' := (mkF m 163 #[.val (.int p0), .val (.int p1), .val (.int p2), .val (.int a0v), .val (.int a1v), .val (.int a2v), .val (.int (Int32.ofNat la)), .val (.int k98_0), .val (.int k100_0), .val (.int k102_0), .val (.int (Int32.ofNat lb)), .val (.int k104_0), .val (.int k106_0), .unset, .unset, .unset, .unset, .unset, .unset, .unset] [(.int (0 : Int32))])) (fun tq kt => ?_) ?_
              · show Steps p.tables e below (s₁.setTop (mkF m 155 #[.val (.int p0), .val (.int p1), .val (.int p2), .val (.int a0v), .val (.int a1v), .val (.int a2v), .val (.int (Int32.ofNat la)), .val (.int k98_0), .val (.int k100_0), .val (.int k102_0), .val (.int (Int32.ofNat lb)), .val (.int k104_0), .val (.int k106_0), .unset, .unset, .unset, .unset, .unset, .unset, .unset] [(.int k104_0)])) _
                refine XS.ifYes X0.here hx rfl (pc0 := 155) (pc' := 162) rfl (hb hby at_155) rfl (XT.i0_eq_t hc109) (by decide) (by decide) ?_
                show Steps p.tables e below (s₁.setTop (mkF m 162 #[.val (.int p0), .val (.int p1), .val (.int p2), .val (.int a0v), .val (.int a1v), .val (.int a2v), .val (.int (Int32.ofNat la)), .val (.int k98_0), .val (.int k100_0), .val (.int k102_0), .val (.int (Int32.ofNat lb)), .val (.int k104_0), .val (.int k106_0), .unset, .unset, .unset, .unset, .unset, .unset, .unset] [])) _
                refine XS.iconst X0.here hx rfl (hb hby at_162) ?_
                exact kt
              exact J108 (0 : Int32) (if_pos hc109).symm
            · refine GotW.step (T' := s₁) (g' := (mkF m 163 #[.val (.int p0), .val (.int p1), .val (.int p2), .val (.int a0v), .val (.int a1v), .val (.int a2v), .val (.int (Int32.ofNat la)), .val (.int k98_0), .val (.int k100_0), .val (.int k102_0), .val (.int (Int32.ofNat lb)), .val (.int k104_0), .val (.int k106_0), .unset, .unset, .unset, .unset, .unset, .unset, .unset] [(.int (4 : Int32))])) (fun tq kt => ?_) ?_
              · show Steps p.tables e below (s₁.setTop (mkF m 155 #[.val (.int p0), .val (.int p1), .val (.int p2), .val (.int a0v), .val (.int a1v), .val (.int a2v), .val (.int (Int32.ofNat la)), .val (.int k98_0), .val (.int k100_0), .val (.int k102_0), .val (.int (Int32.ofNat lb)), .val (.int k104_0), .val (.int k106_0), .unset, .unset, .unset, .unset, .unset, .unset, .unset] [(.int k104_0)])) _
                refine XS.ifNo X0.here hx rfl (hb hby at_155) rfl (XT.i0_eq_f hc109) ?_
                show Steps p.tables e below (s₁.setTop (mkF m 158 #[.val (.int p0), .val (.int p1), .val (.int p2), .val (.int a0v), .val (.int a1v), .val (.int a2v), .val (.int (Int32.ofNat la)), .val (.int k98_0), .val (.int k100_0), .val (.int k102_0), .val (.int (Int32.ofNat lb)), .val (.int k104_0), .val (.int k106_0), .unset, .unset, .unset, .unset, .unset, .unset, .unset] [])) _
                refine XS.iconst X0.here hx rfl (hb hby at_158) ?_
                show Steps p.tables e below (s₁.setTop (mkF m 159 #[.val (.int p0), .val (.int p1), .val (.int p2), .val (.int a0v), .val (.int a1v), .val (.int a2v), .val (.int (Int32.ofNat la)), .val (.int k98_0), .val (.int k100_0), .val (.int k102_0), .val (.int (Int32.ofNat lb)), .val (.int k104_0), .val (.int k106_0), .unset, .unset, .unset, .unset, .unset, .unset, .unset] [(.int (4 : Int32))])) _
                refine XS.goto X0.here hx rfl (pc0 := 159) (pc' := 163) rfl (hb hby at_159) (by decide) (by decide) ?_
                exact kt
              exact J108 (4 : Int32) (if_neg hc109).symm
          by_cases hc107 : ((p2 &&& (16 : Int32)) = 0)
          · refine GotW.step (T' := s₁) (g' := (mkF m 151 #[.val (.int p0), .val (.int p1), .val (.int p2), .val (.int a0v), .val (.int a1v), .val (.int a2v), .val (.int (Int32.ofNat la)), .val (.int k98_0), .val (.int k100_0), .val (.int k102_0), .val (.int (Int32.ofNat lb)), .val (.int k104_0), .unset, .unset, .unset, .unset, .unset, .unset, .unset, .unset] [(.int (0 : Int32))])) (fun tq kt => ?_) ?_
            · show Steps p.tables e below (s₁.setTop (mkF m 143 #[.val (.int p0), .val (.int p1), .val (.int p2), .val (.int a0v), .val (.int a1v), .val (.int a2v), .val (.int (Int32.ofNat la)), .val (.int k98_0), .val (.int k100_0), .val (.int k102_0), .val (.int (Int32.ofNat lb)), .val (.int k104_0), .unset, .unset, .unset, .unset, .unset, .unset, .unset, .unset] [(.int (p2 &&& (16 : Int32)))])) _
              refine XS.ifYes X0.here hx rfl (pc0 := 143) (pc' := 150) rfl (hb hby at_143) rfl (XT.i0_eq_t hc107) (by decide) (by decide) ?_
              show Steps p.tables e below (s₁.setTop (mkF m 150 #[.val (.int p0), .val (.int p1), .val (.int p2), .val (.int a0v), .val (.int a1v), .val (.int a2v), .val (.int (Int32.ofNat la)), .val (.int k98_0), .val (.int k100_0), .val (.int k102_0), .val (.int (Int32.ofNat lb)), .val (.int k104_0), .unset, .unset, .unset, .unset, .unset, .unset, .unset, .unset] [])) _
              refine XS.iconst X0.here hx rfl (hb hby at_150) ?_
              exact kt
            exact J106 (0 : Int32) (if_pos hc107).symm
          · refine GotW.step (T' := s₁) (g' := (mkF m 151 #[.val (.int p0), .val (.int p1), .val (.int p2), .val (.int a0v), .val (.int a1v), .val (.int a2v), .val (.int (Int32.ofNat la)), .val (.int k98_0), .val (.int k100_0), .val (.int k102_0), .val (.int (Int32.ofNat lb)), .val (.int k104_0), .unset, .unset, .unset, .unset, .unset, .unset, .unset, .unset] [(.int (1 : Int32))])) (fun tq kt => ?_) ?_
            · show Steps p.tables e below (s₁.setTop (mkF m 143 #[.val (.int p0), .val (.int p1), .val (.int p2), .val (.int a0v), .val (.int a1v), .val (.int a2v), .val (.int (Int32.ofNat la)), .val (.int k98_0), .val (.int k100_0), .val (.int k102_0), .val (.int (Int32.ofNat lb)), .val (.int k104_0), .unset, .unset, .unset, .unset, .unset, .unset, .unset, .unset] [(.int (p2 &&& (16 : Int32)))])) _
              refine XS.ifNo X0.here hx rfl (hb hby at_143) rfl (XT.i0_eq_f hc107) ?_
              show Steps p.tables e below (s₁.setTop (mkF m 146 #[.val (.int p0), .val (.int p1), .val (.int p2), .val (.int a0v), .val (.int a1v), .val (.int a2v), .val (.int (Int32.ofNat la)), .val (.int k98_0), .val (.int k100_0), .val (.int k102_0), .val (.int (Int32.ofNat lb)), .val (.int k104_0), .unset, .unset, .unset, .unset, .unset, .unset, .unset, .unset] [])) _
              refine XS.iconst X0.here hx rfl (hb hby at_146) ?_
              show Steps p.tables e below (s₁.setTop (mkF m 147 #[.val (.int p0), .val (.int p1), .val (.int p2), .val (.int a0v), .val (.int a1v), .val (.int a2v), .val (.int (Int32.ofNat la)), .val (.int k98_0), .val (.int k100_0), .val (.int k102_0), .val (.int (Int32.ofNat lb)), .val (.int k104_0), .unset, .unset, .unset, .unset, .unset, .unset, .unset, .unset] [(.int (1 : Int32))])) _
              refine XS.goto X0.here hx rfl (pc0 := 147) (pc' := 151) rfl (hb hby at_147) (by decide) (by decide) ?_
              exact kt
            exact J106 (1 : Int32) (if_neg hc107).symm
        by_cases hc105 : ((p2 &&& (8 : Int32)) = 0)
        · refine GotW.step (T' := s₁) (g' := (mkF m 137 #[.val (.int p0), .val (.int p1), .val (.int p2), .val (.int a0v), .val (.int a1v), .val (.int a2v), .val (.int (Int32.ofNat la)), .val (.int k98_0), .val (.int k100_0), .val (.int k102_0), .val (.int (Int32.ofNat lb)), .unset, .unset, .unset, .unset, .unset, .unset, .unset, .unset, .unset] [(.int (0 : Int32))])) (fun tq kt => ?_) ?_
          · show Steps p.tables e below (s₁.setTop (mkF m 129 #[.val (.int p0), .val (.int p1), .val (.int p2), .val (.int a0v), .val (.int a1v), .val (.int a2v), .val (.int (Int32.ofNat la)), .val (.int k98_0), .val (.int k100_0), .val (.int k102_0), .val (.int (Int32.ofNat lb)), .unset, .unset, .unset, .unset, .unset, .unset, .unset, .unset, .unset] [(.int (p2 &&& (8 : Int32)))])) _
            refine XS.ifYes X0.here hx rfl (pc0 := 129) (pc' := 136) rfl (hb hby at_129) rfl (XT.i0_eq_t hc105) (by decide) (by decide) ?_
            show Steps p.tables e below (s₁.setTop (mkF m 136 #[.val (.int p0), .val (.int p1), .val (.int p2), .val (.int a0v), .val (.int a1v), .val (.int a2v), .val (.int (Int32.ofNat la)), .val (.int k98_0), .val (.int k100_0), .val (.int k102_0), .val (.int (Int32.ofNat lb)), .unset, .unset, .unset, .unset, .unset, .unset, .unset, .unset, .unset] [])) _
            refine XS.iconst X0.here hx rfl (hb hby at_136) ?_
            exact kt
          exact J104 (0 : Int32) (if_pos hc105).symm
        · refine GotW.step (T' := s₁) (g' := (mkF m 137 #[.val (.int p0), .val (.int p1), .val (.int p2), .val (.int a0v), .val (.int a1v), .val (.int a2v), .val (.int (Int32.ofNat la)), .val (.int k98_0), .val (.int k100_0), .val (.int k102_0), .val (.int (Int32.ofNat lb)), .unset, .unset, .unset, .unset, .unset, .unset, .unset, .unset, .unset] [(.int (1 : Int32))])) (fun tq kt => ?_) ?_
          · show Steps p.tables e below (s₁.setTop (mkF m 129 #[.val (.int p0), .val (.int p1), .val (.int p2), .val (.int a0v), .val (.int a1v), .val (.int a2v), .val (.int (Int32.ofNat la)), .val (.int k98_0), .val (.int k100_0), .val (.int k102_0), .val (.int (Int32.ofNat lb)), .unset, .unset, .unset, .unset, .unset, .unset, .unset, .unset, .unset] [(.int (p2 &&& (8 : Int32)))])) _
            refine XS.ifNo X0.here hx rfl (hb hby at_129) rfl (XT.i0_eq_f hc105) ?_
            show Steps p.tables e below (s₁.setTop (mkF m 132 #[.val (.int p0), .val (.int p1), .val (.int p2), .val (.int a0v), .val (.int a1v), .val (.int a2v), .val (.int (Int32.ofNat la)), .val (.int k98_0), .val (.int k100_0), .val (.int k102_0), .val (.int (Int32.ofNat lb)), .unset, .unset, .unset, .unset, .unset, .unset, .unset, .unset, .unset] [])) _
            refine XS.iconst X0.here hx rfl (hb hby at_132) ?_
            show Steps p.tables e below (s₁.setTop (mkF m 133 #[.val (.int p0), .val (.int p1), .val (.int p2), .val (.int a0v), .val (.int a1v), .val (.int a2v), .val (.int (Int32.ofNat la)), .val (.int k98_0), .val (.int k100_0), .val (.int k102_0), .val (.int (Int32.ofNat lb)), .unset, .unset, .unset, .unset, .unset, .unset, .unset, .unset, .unset] [(.int (1 : Int32))])) _
            refine XS.goto X0.here hx rfl (pc0 := 133) (pc' := 137) rfl (hb hby at_133) (by decide) (by decide) ?_
            exact kt
          exact J104 (1 : Int32) (if_neg hc105).symm
      by_cases hc103 : ((p2 &&& (4 : Int32)) = 0)
      · refine GotW.step (T' := s₁) (g' := (mkF m 115 #[.val (.int p0), .val (.int p1), .val (.int p2), .val (.int a0v), .val (.int a1v), .val (.int a2v), .val (.int (Int32.ofNat la)), .val (.int k98_0), .val (.int k100_0), .unset, .unset, .unset, .unset, .unset, .unset, .unset, .unset, .unset, .unset, .unset] [(.int ((((p1.toUInt32 >>> ((16 : Int32) &&& 31).toUInt32).toInt32) &&& (255 : Int32)) % (255 : Int32)))])) (fun tq kt => ?_) ?_
        · show Steps p.tables e below (s₁.setTop (mkF m 95 #[.val (.int p0), .val (.int p1), .val (.int p2), .val (.int a0v), .val (.int a1v), .val (.int a2v), .val (.int (Int32.ofNat la)), .val (.int k98_0), .val (.int k100_0), .unset, .unset, .unset, .unset, .unset, .unset, .unset, .unset, .unset, .unset, .unset] [(.int (p2 &&& (4 : Int32)))])) _
          refine XS.ifYes X0.here hx rfl (pc0 := 95) (pc' := 103) rfl (hb hby at_95) rfl (XT.i0_eq_t hc103) (by decide) (by decide) ?_
          show Steps p.tables e below (s₁.setTop (mkF m 103 #[.val (.int p0), .val (.int p1), .val (.int p2), .val (.int a0v), .val (.int a1v), .val (.int a2v), .val (.int (Int32.ofNat la)), .val (.int k98_0), .val (.int k100_0), .unset, .unset, .unset, .unset, .unset, .unset, .unset, .unset, .unset, .unset, .unset] [])) _
          refine XS.iloadN X0.here hx rfl (hb hby at_103) rfl ?_
          show Steps p.tables e below (s₁.setTop (mkF m 104 #[.val (.int p0), .val (.int p1), .val (.int p2), .val (.int a0v), .val (.int a1v), .val (.int a2v), .val (.int (Int32.ofNat la)), .val (.int k98_0), .val (.int k100_0), .unset, .unset, .unset, .unset, .unset, .unset, .unset, .unset, .unset, .unset, .unset] [(.int p1)])) _
          refine XS.bipush X0.here hx rfl (hb hby at_104) ?_
          show Steps p.tables e below (s₁.setTop (mkF m 106 #[.val (.int p0), .val (.int p1), .val (.int p2), .val (.int a0v), .val (.int a1v), .val (.int a2v), .val (.int (Int32.ofNat la)), .val (.int k98_0), .val (.int k100_0), .unset, .unset, .unset, .unset, .unset, .unset, .unset, .unset, .unset, .unset, .unset] [(.int (16 : Int32)), (.int p1)])) _
          refine XS.iushr X0.here hx rfl (hb hby at_106) rfl ?_
          show Steps p.tables e below (s₁.setTop (mkF m 107 #[.val (.int p0), .val (.int p1), .val (.int p2), .val (.int a0v), .val (.int a1v), .val (.int a2v), .val (.int (Int32.ofNat la)), .val (.int k98_0), .val (.int k100_0), .unset, .unset, .unset, .unset, .unset, .unset, .unset, .unset, .unset, .unset, .unset] [(.int ((p1.toUInt32 >>> ((16 : Int32) &&& 31).toUInt32).toInt32))])) _
          refine XS.sipush X0.here hx rfl (hb hby at_107) ?_
          show Steps p.tables e below (s₁.setTop (mkF m 110 #[.val (.int p0), .val (.int p1), .val (.int p2), .val (.int a0v), .val (.int a1v), .val (.int a2v), .val (.int (Int32.ofNat la)), .val (.int k98_0), .val (.int k100_0), .unset, .unset, .unset, .unset, .unset, .unset, .unset, .unset, .unset, .unset, .unset] [(.int (255 : Int32)), (.int ((p1.toUInt32 >>> ((16 : Int32) &&& 31).toUInt32).toInt32))])) _
          refine XS.iand X0.here hx rfl (hb hby at_110) rfl ?_
          show Steps p.tables e below (s₁.setTop (mkF m 111 #[.val (.int p0), .val (.int p1), .val (.int p2), .val (.int a0v), .val (.int a1v), .val (.int a2v), .val (.int (Int32.ofNat la)), .val (.int k98_0), .val (.int k100_0), .unset, .unset, .unset, .unset, .unset, .unset, .unset, .unset, .unset, .unset, .unset] [(.int (((p1.toUInt32 >>> ((16 : Int32) &&& 31).toUInt32).toInt32) &&& (255 : Int32)))])) _
          refine XS.sipush X0.here hx rfl (hb hby at_111) ?_
          show Steps p.tables e below (s₁.setTop (mkF m 114 #[.val (.int p0), .val (.int p1), .val (.int p2), .val (.int a0v), .val (.int a1v), .val (.int a2v), .val (.int (Int32.ofNat la)), .val (.int k98_0), .val (.int k100_0), .unset, .unset, .unset, .unset, .unset, .unset, .unset, .unset, .unset, .unset, .unset] [(.int (255 : Int32)), (.int (((p1.toUInt32 >>> ((16 : Int32) &&& 31).toUInt32).toInt32) &&& (255 : Int32)))])) _
          refine iremM X0 hx rfl (hb hby at_114) rfl (by decide) ?_
          exact kt
        exact J102 ((((p1.toUInt32 >>> ((16 : Int32) &&& 31).toUInt32).toInt32) &&& (255 : Int32)) % (255 : Int32)) (if_pos hc103).symm
      · refine GotW.step (T' := s₁) (g' := (mkF m 115 #[.val (.int p0), .val (.int p1), .val (.int p2), .val (.int a0v), .val (.int a1v), .val (.int a2v), .val (.int (Int32.ofNat la)), .val (.int k98_0), .val (.int k100_0), .unset, .unset, .unset, .unset, .unset, .unset, .unset, .unset, .unset, .unset, .unset] [(.int a2v)])) (fun tq kt => ?_) ?_
        · show Steps p.tables e below (s₁.setTop (mkF m 95 #[.val (.int p0), .val (.int p1), .val (.int p2), .val (.int a0v), .val (.int a1v), .val (.int a2v), .val (.int (Int32.ofNat la)), .val (.int k98_0), .val (.int k100_0), .unset, .unset, .unset, .unset, .unset, .unset, .unset, .unset, .unset, .unset, .unset] [(.int (p2 &&& (4 : Int32)))])) _
          refine XS.ifNo X0.here hx rfl (hb hby at_95) rfl (XT.i0_eq_f hc103) ?_
          show Steps p.tables e below (s₁.setTop (mkF m 98 #[.val (.int p0), .val (.int p1), .val (.int p2), .val (.int a0v), .val (.int a1v), .val (.int a2v), .val (.int (Int32.ofNat la)), .val (.int k98_0), .val (.int k100_0), .unset, .unset, .unset, .unset, .unset, .unset, .unset, .unset, .unset, .unset, .unset] [])) _
          refine XS.iload X0.here hx rfl (hb hby at_98) rfl ?_
          show Steps p.tables e below (s₁.setTop (mkF m 100 #[.val (.int p0), .val (.int p1), .val (.int p2), .val (.int a0v), .val (.int a1v), .val (.int a2v), .val (.int (Int32.ofNat la)), .val (.int k98_0), .val (.int k100_0), .unset, .unset, .unset, .unset, .unset, .unset, .unset, .unset, .unset, .unset, .unset] [(.int a2v)])) _
          refine XS.goto X0.here hx rfl (pc0 := 100) (pc' := 115) rfl (hb hby at_100) (by decide) (by decide) ?_
          exact kt
        exact J102 a2v (if_neg hc103).symm
    by_cases hc101 : ((p2 &&& (2 : Int32)) = 0)
    · refine GotW.step (T' := s₁) (g' := (mkF m 90 #[.val (.int p0), .val (.int p1), .val (.int p2), .val (.int a0v), .val (.int a1v), .val (.int a2v), .val (.int (Int32.ofNat la)), .val (.int k98_0), .unset, .unset, .unset, .unset, .unset, .unset, .unset, .unset, .unset, .unset, .unset, .unset] [(.int ((((p1.toUInt32 >>> ((8 : Int32) &&& 31).toUInt32).toInt32) &&& (255 : Int32)) % (255 : Int32)))])) (fun tq kt => ?_) ?_
      · show Steps p.tables e below (s₁.setTop (mkF m 70 #[.val (.int p0), .val (.int p1), .val (.int p2), .val (.int a0v), .val (.int a1v), .val (.int a2v), .val (.int (Int32.ofNat la)), .val (.int k98_0), .unset, .unset, .unset, .unset, .unset, .unset, .unset, .unset, .unset, .unset, .unset, .unset] [(.int (p2 &&& (2 : Int32)))])) _
        refine XS.ifYes X0.here hx rfl (pc0 := 70) (pc' := 78) rfl (hb hby at_70) rfl (XT.i0_eq_t hc101) (by decide) (by decide) ?_
        show Steps p.tables e below (s₁.setTop (mkF m 78 #[.val (.int p0), .val (.int p1), .val (.int p2), .val (.int a0v), .val (.int a1v), .val (.int a2v), .val (.int (Int32.ofNat la)), .val (.int k98_0), .unset, .unset, .unset, .unset, .unset, .unset, .unset, .unset, .unset, .unset, .unset, .unset] [])) _
        refine XS.iloadN X0.here hx rfl (hb hby at_78) rfl ?_
        show Steps p.tables e below (s₁.setTop (mkF m 79 #[.val (.int p0), .val (.int p1), .val (.int p2), .val (.int a0v), .val (.int a1v), .val (.int a2v), .val (.int (Int32.ofNat la)), .val (.int k98_0), .unset, .unset, .unset, .unset, .unset, .unset, .unset, .unset, .unset, .unset, .unset, .unset] [(.int p1)])) _
        refine XS.bipush X0.here hx rfl (hb hby at_79) ?_
        show Steps p.tables e below (s₁.setTop (mkF m 81 #[.val (.int p0), .val (.int p1), .val (.int p2), .val (.int a0v), .val (.int a1v), .val (.int a2v), .val (.int (Int32.ofNat la)), .val (.int k98_0), .unset, .unset, .unset, .unset, .unset, .unset, .unset, .unset, .unset, .unset, .unset, .unset] [(.int (8 : Int32)), (.int p1)])) _
        refine XS.iushr X0.here hx rfl (hb hby at_81) rfl ?_
        show Steps p.tables e below (s₁.setTop (mkF m 82 #[.val (.int p0), .val (.int p1), .val (.int p2), .val (.int a0v), .val (.int a1v), .val (.int a2v), .val (.int (Int32.ofNat la)), .val (.int k98_0), .unset, .unset, .unset, .unset, .unset, .unset, .unset, .unset, .unset, .unset, .unset, .unset] [(.int ((p1.toUInt32 >>> ((8 : Int32) &&& 31).toUInt32).toInt32))])) _
        refine XS.sipush X0.here hx rfl (hb hby at_82) ?_
        show Steps p.tables e below (s₁.setTop (mkF m 85 #[.val (.int p0), .val (.int p1), .val (.int p2), .val (.int a0v), .val (.int a1v), .val (.int a2v), .val (.int (Int32.ofNat la)), .val (.int k98_0), .unset, .unset, .unset, .unset, .unset, .unset, .unset, .unset, .unset, .unset, .unset, .unset] [(.int (255 : Int32)), (.int ((p1.toUInt32 >>> ((8 : Int32) &&& 31).toUInt32).toInt32))])) _
        refine XS.iand X0.here hx rfl (hb hby at_85) rfl ?_
        show Steps p.tables e below (s₁.setTop (mkF m 86 #[.val (.int p0), .val (.int p1), .val (.int p2), .val (.int a0v), .val (.int a1v), .val (.int a2v), .val (.int (Int32.ofNat la)), .val (.int k98_0), .unset, .unset, .unset, .unset, .unset, .unset, .unset, .unset, .unset, .unset, .unset, .unset] [(.int (((p1.toUInt32 >>> ((8 : Int32) &&& 31).toUInt32).toInt32) &&& (255 : Int32)))])) _
        refine XS.sipush X0.here hx rfl (hb hby at_86) ?_
        show Steps p.tables e below (s₁.setTop (mkF m 89 #[.val (.int p0), .val (.int p1), .val (.int p2), .val (.int a0v), .val (.int a1v), .val (.int a2v), .val (.int (Int32.ofNat la)), .val (.int k98_0), .unset, .unset, .unset, .unset, .unset, .unset, .unset, .unset, .unset, .unset, .unset, .unset] [(.int (255 : Int32)), (.int (((p1.toUInt32 >>> ((8 : Int32) &&& 31).toUInt32).toInt32) &&& (255 : Int32)))])) _
        refine iremM X0 hx rfl (hb hby at_89) rfl (by decide) ?_
        exact kt
      exact J100 ((((p1.toUInt32 >>> ((8 : Int32) &&& 31).toUInt32).toInt32) &&& (255 : Int32)) % (255 : Int32)) (if_pos hc101).symm
    · refine GotW.step (T' := s₁) (g' := (mkF m 90 #[.val (.int p0), .val (.int p1), .val (.int p2), .val (.int a0v), .val (.int a1v), .val (.int a2v), .val (.int (Int32.ofNat la)), .val (.int k98_0), .unset, .unset, .unset, .unset, .unset, .unset, .unset, .unset, .unset, .unset, .unset, .unset] [(.int a1v)])) (fun tq kt => ?_) ?_
      · show Steps p.tables e below (s₁.setTop (mkF m 70 #[.val (.int p0), .val (.int p1), .val (.int p2), .val (.int a0v), .val (.int a1v), .val (.int a2v), .val (.int (Int32.ofNat la)), .val (.int k98_0), .unset, .unset, .unset, .unset, .unset, .unset, .unset, .unset, .unset, .unset, .unset, .unset] [(.int (p2 &&& (2 : Int32)))])) _
        refine XS.ifNo X0.here hx rfl (hb hby at_70) rfl (XT.i0_eq_f hc101) ?_
        show Steps p.tables e below (s₁.setTop (mkF m 73 #[.val (.int p0), .val (.int p1), .val (.int p2), .val (.int a0v), .val (.int a1v), .val (.int a2v), .val (.int (Int32.ofNat la)), .val (.int k98_0), .unset, .unset, .unset, .unset, .unset, .unset, .unset, .unset, .unset, .unset, .unset, .unset] [])) _
        refine XS.iload X0.here hx rfl (hb hby at_73) rfl ?_
        show Steps p.tables e below (s₁.setTop (mkF m 75 #[.val (.int p0), .val (.int p1), .val (.int p2), .val (.int a0v), .val (.int a1v), .val (.int a2v), .val (.int (Int32.ofNat la)), .val (.int k98_0), .unset, .unset, .unset, .unset, .unset, .unset, .unset, .unset, .unset, .unset, .unset, .unset] [(.int a1v)])) _
        refine XS.goto X0.here hx rfl (pc0 := 75) (pc' := 90) rfl (hb hby at_75) (by decide) (by decide) ?_
        exact kt
      exact J100 a1v (if_neg hc101).symm
  by_cases hc99 : ((p2 &&& (1 : Int32)) = 0)
  · refine GotW.step (T' := s₁) (g' := (mkF m 65 #[.val (.int p0), .val (.int p1), .val (.int p2), .val (.int a0v), .val (.int a1v), .val (.int a2v), .val (.int (Int32.ofNat la)), .unset, .unset, .unset, .unset, .unset, .unset, .unset, .unset, .unset, .unset, .unset, .unset, .unset] [(.int ((p1 &&& (255 : Int32)) % (255 : Int32)))])) (fun tq kt => ?_) ?_
    · show Steps p.tables e below (s₁.setTop (mkF m 49 #[.val (.int p0), .val (.int p1), .val (.int p2), .val (.int a0v), .val (.int a1v), .val (.int a2v), .val (.int (Int32.ofNat la)), .unset, .unset, .unset, .unset, .unset, .unset, .unset, .unset, .unset, .unset, .unset, .unset, .unset] [(.int (p2 &&& (1 : Int32)))])) _
      refine XS.ifYes X0.here hx rfl (pc0 := 49) (pc' := 56) rfl (hb hby at_49) rfl (XT.i0_eq_t hc99) (by decide) (by decide) ?_
      show Steps p.tables e below (s₁.setTop (mkF m 56 #[.val (.int p0), .val (.int p1), .val (.int p2), .val (.int a0v), .val (.int a1v), .val (.int a2v), .val (.int (Int32.ofNat la)), .unset, .unset, .unset, .unset, .unset, .unset, .unset, .unset, .unset, .unset, .unset, .unset, .unset] [])) _
      refine XS.iloadN X0.here hx rfl (hb hby at_56) rfl ?_
      show Steps p.tables e below (s₁.setTop (mkF m 57 #[.val (.int p0), .val (.int p1), .val (.int p2), .val (.int a0v), .val (.int a1v), .val (.int a2v), .val (.int (Int32.ofNat la)), .unset, .unset, .unset, .unset, .unset, .unset, .unset, .unset, .unset, .unset, .unset, .unset, .unset] [(.int p1)])) _
      refine XS.sipush X0.here hx rfl (hb hby at_57) ?_
      show Steps p.tables e below (s₁.setTop (mkF m 60 #[.val (.int p0), .val (.int p1), .val (.int p2), .val (.int a0v), .val (.int a1v), .val (.int a2v), .val (.int (Int32.ofNat la)), .unset, .unset, .unset, .unset, .unset, .unset, .unset, .unset, .unset, .unset, .unset, .unset, .unset] [(.int (255 : Int32)), (.int p1)])) _
      refine XS.iand X0.here hx rfl (hb hby at_60) rfl ?_
      show Steps p.tables e below (s₁.setTop (mkF m 61 #[.val (.int p0), .val (.int p1), .val (.int p2), .val (.int a0v), .val (.int a1v), .val (.int a2v), .val (.int (Int32.ofNat la)), .unset, .unset, .unset, .unset, .unset, .unset, .unset, .unset, .unset, .unset, .unset, .unset, .unset] [(.int (p1 &&& (255 : Int32)))])) _
      refine XS.sipush X0.here hx rfl (hb hby at_61) ?_
      show Steps p.tables e below (s₁.setTop (mkF m 64 #[.val (.int p0), .val (.int p1), .val (.int p2), .val (.int a0v), .val (.int a1v), .val (.int a2v), .val (.int (Int32.ofNat la)), .unset, .unset, .unset, .unset, .unset, .unset, .unset, .unset, .unset, .unset, .unset, .unset, .unset] [(.int (255 : Int32)), (.int (p1 &&& (255 : Int32)))])) _
      refine iremM X0 hx rfl (hb hby at_64) rfl (by decide) ?_
      exact kt
    exact J98 ((p1 &&& (255 : Int32)) % (255 : Int32)) (if_pos hc99).symm
  · refine GotW.step (T' := s₁) (g' := (mkF m 65 #[.val (.int p0), .val (.int p1), .val (.int p2), .val (.int a0v), .val (.int a1v), .val (.int a2v), .val (.int (Int32.ofNat la)), .unset, .unset, .unset, .unset, .unset, .unset, .unset, .unset, .unset, .unset, .unset, .unset, .unset] [(.int a0v)])) (fun tq kt => ?_) ?_
    · show Steps p.tables e below (s₁.setTop (mkF m 49 #[.val (.int p0), .val (.int p1), .val (.int p2), .val (.int a0v), .val (.int a1v), .val (.int a2v), .val (.int (Int32.ofNat la)), .unset, .unset, .unset, .unset, .unset, .unset, .unset, .unset, .unset, .unset, .unset, .unset, .unset] [(.int (p2 &&& (1 : Int32)))])) _
      refine XS.ifNo X0.here hx rfl (hb hby at_49) rfl (XT.i0_eq_f hc99) ?_
      show Steps p.tables e below (s₁.setTop (mkF m 52 #[.val (.int p0), .val (.int p1), .val (.int p2), .val (.int a0v), .val (.int a1v), .val (.int a2v), .val (.int (Int32.ofNat la)), .unset, .unset, .unset, .unset, .unset, .unset, .unset, .unset, .unset, .unset, .unset, .unset, .unset] [])) _
      refine XS.iloadN X0.here hx rfl (hb hby at_52) rfl ?_
      show Steps p.tables e below (s₁.setTop (mkF m 53 #[.val (.int p0), .val (.int p1), .val (.int p2), .val (.int a0v), .val (.int a1v), .val (.int a2v), .val (.int (Int32.ofNat la)), .unset, .unset, .unset, .unset, .unset, .unset, .unset, .unset, .unset, .unset, .unset, .unset, .unset] [(.int a0v)])) _
      refine XS.goto X0.here hx rfl (pc0 := 53) (pc' := 65) rfl (hb hby at_53) (by decide) (by decide) ?_
      exact kt
    exact J98 a0v (if_neg hc99).symm
set_option maxRecDepth 65536 in
set_option maxHeartbeats 40000000 in
theorem comes_1 {Post : Tables → Env → Array Value → State → Outcome → State → Prop} (hpost : ∀ tb e args s v u, (limb_1_1.after args s (.returned v) u = true ∧ limb_1_2.after args s (.returned v) u = true ∧ True) → FEW s (.returned v) u (Jvm.fieldLocs frame_1_writes args s ++ Jvm.arrayLocs frame_1_arrays args s ++ Jvm.staticLocs frame_1_statics s) 16 1152 → Post tb e args s (.returned v) u) :
    ArmFor flags0 classFile x code maxLocals ret World_1 tables_1 room_1 Calls_1 rest_1 Pre_1 Post := by
  intro l hfl _ _ p e ha hc hk s m args below hf hA hF happ hP
  obtain ⟨hcalls, hrest, hpre⟩ := hP
  obtain ⟨-, -, -, hnamed, -, -, -, hat⟩ := (Spec.applies_iff hf).mp happ
  obtain ⟨hg, hn⟩ := and_e (Cond.before_iff.mp (show (Jvm.Cond.and given_1 narrow_1).before args s = true from hpre))
  obtain ⟨h1, g0⟩ := and_e hg
  obtain ⟨c0, g1⟩ := and_e g0
  obtain ⟨c1, g2⟩ := and_e g1
  obtain ⟨w0, w1, w2, rfl⟩ : ∃ w0 w1 w2 : Value, args = #[w0, w1, w2] := by
    have hs : args.size = 3 := by simpa [Cond.value, given_1] using h1
    obtain ⟨L⟩ := args
    match L, hs with
    | [w0, w1, w2], _ => exact ⟨w0, w1, w2, rfl⟩
  have hw := fun d (hd : d ∈ tables_1) => atoms_spec (ws := Jvm.Cond.code x code maxLocals ret :: tables_1) hat d (List.mem_cons_of_mem _ hd)
  obtain ⟨i0, e0⟩ := is_v c0
  obtain rfl : w0 = (.int i0) := Option.some.inj e0
  obtain ⟨i1, e1⟩ := is_v c1
  obtain rfl : w1 = (.int i1) := Option.some.inj e1
  obtain ⟨i2, e2⟩ := is_v g2
  obtain rfl : w2 = (.int i2) := Option.some.inj e2
  obtain ⟨n, o, h1, h2, h3, vq, L, rfl, ⟨hv, N⟩, hq⟩ := rm0 l s _ hw tables_1 i0 i1 i2  s.heap s.heap.size (Nat.le_refl _)  p e ha hc hk s m _ below hf ((Spec.applies_iff_loose hf).mp happ).1 ⟨rfl, State.Warmed39.refl s, rfl⟩ trivial
  subst hv
  refine ⟨n, _, h1, h2, h3, hpost _ _ _ _ _ _ ⟨Cond.after_iff.mpr rfl, Cond.after_iff.mpr (eq_i res_at (Term.int_eval (1)) rfl), trivial⟩ ⟨hq.1, hq.2.1, hq.2.2.1, (hq.2.2.2.sift fun y hy => Or.inr (N y hy)).mono (by decide) (by decide)⟩⟩
theorem main_1_1 : Claimed_1_1 := comes_1 fun _ _ _ _ _ _ h hF => ⟨h.1, hF.1, hF.2.1, hF.2.2.1, hF.2.2.2⟩
theorem main_1_2 : Claimed_1_2 := comes_1 fun _ _ _ _ _ _ h hF => ⟨h.2.1, hF.1, hF.2.1, hF.2.2.1, hF.2.2.2⟩
end Jvm.Pilot.@@N@@
namespace Jvm.Pilot.@@N@@
open Jvm Jvm.ClassFile Sem Op Lib Jvm.Free Jvm.Stand Jvm.Pilot.@@N@@.Jvm.D
/-! MADE BY PROGRAM (witnessworld.py) out of the Statement's table words and the real class files: 15 classes; the members and pool entries that the words name. The judged class is class 1, her method 1. -/
namespace start1
open Jvm.ClassFile
def u (s : String) : CpInfo := .utf8 (stringToUtf16 s)
/-- a pool by its gaps: so many unusable entries, then the entry; so many at the end -/
def gap : Nat → List CpInfo → List CpInfo
  | 0, r => r
  | n + 1, r => .unusable :: gap n r
def poolList (es : List (Nat × CpInfo)) (last : Nat) : List CpInfo := es.foldr (fun e r => gap e.1 (e.2 :: r)) (gap last [])
def pool (es : List (Nat × CpInfo)) (last : Nat) : Array CpInfo := ⟨poolList es last⟩
def fileOf (pool : Array CpInfo) (this : Nat) (attrs : Array Attribute := #[]) (ms : Array MethodInfo := #[]) (fl : Nat := 33) (sup : Nat := 0) (ifs : Array Nat := #[]) (fds : Array FieldInfo := #[]) : ClassFile where
  minorVersion := 0
  majorVersion := 65
  constantPool := pool
  accessFlags := fl
  thisClass := this
  superClass := sup
  interfaces := ifs
  fields := fds
  methods := ms
  attributes := attrs
def plain (name : String) (sup : Option ClassId) : Class where
  name := name
  kind := .ordinary
  loader := none
  accessFlags := 33
  super := sup
  interfaces := #[]
  cf := none
  fields := #[]
  methods := #[]
  instanceTypes := #[]
  staticTypes := #[]
  resolved := #[]
  callSites := []
  init := .initialized
  statics := none
  mirror := none

def pool0 : Array CpInfo := pool [(5, u "<init>"), (0, u "()V"), (1, .class_ 10), (1, u "java/lang/Object")] 113

def k0c0 : Code := { maxStack := 0, maxLocals := 1, code := object_method_1_code, exceptionTable := #[], attributes := #[] }
def k0m0 : Method := { name := "<init>", desc := "()V", sig := { parameters := [], returnType := none }, accessFlags := 1, code := some k0c0 }
/-- java/lang/Object -/
def k0 : Class := { plain "java/lang/Object" none with
  accessFlags := 33
  interfaces := #[]
  cf := some (fileOf pool0 8 #[] #[{ accessFlags := 1, nameIndex := 5, descriptorIndex := 6, attributes := #[] }] 33 0 #[] #[])
  fields := #[]
  methods := #[k0m0]
  instanceTypes := #[]
  staticTypes := #[]
  resolved := Array.replicate 124 none
  statics := none }

def pool1 : Array CpInfo := pool [(2, .class_ 4), (1, u "java/lang/Object"), (0, u "<init>"), (0, u "()V"), (0, .class_ 8), (0, u "com/example/kenning/kenning/index/Decoder"), (0, .string 10), (0, u "t"), (0, .methodref 7 12), (0, .nameAndType 5 13), (0, u "([BLjava/lang/String;)V"), (0, .methodref 15 16), (0, .class_ 17), (0, .nameAndType 18 19), (0, u "com/example/kenning/kenning/index/DecoderCompareTextsPinLaw"), (0, u "reference"), (0, u "(IIIIIIII)I"), (0, .methodref 7 21), (0, .nameAndType 22 23), (0, u "compareTexts"), (0, u "(II)I"), (0, .methodref 15 25), (0, .nameAndType 26 27), (0, u "sign"), (0, u "(I)I"), (0, .methodref 29 30), (0, .class_ 31), (0, .nameAndType 32 23), (0, u "java/lang/Math"), (0, u "min"), (2, u "law"), (0, u "(III)Z")] 5

def k1m0 : Method := { name := "<init>", desc := "()V", sig := { parameters := [], returnType := none }, accessFlags := 1, code := none }
def k1c1 : Code := { maxStack := 8, maxLocals := 20, code := code, exceptionTable := #[], attributes := #[] }
def k1m1 : Method := { name := "law", desc := "(III)Z", sig := { parameters := [.int, .int, .int], returnType := some .boolean }, accessFlags := 9, code := some k1c1 }
def k1c2 : Code := { maxStack := 2, maxLocals := 9, code := method_3_code, exceptionTable := #[], attributes := #[] }
def k1m2 : Method := { name := "reference", desc := "(IIIIIIII)I", sig := { parameters := [.int, .int, .int, .int, .int, .int, .int, .int], returnType := some .int }, accessFlags := 10, code := some k1c2 }
def k1c3 : Code := { maxStack := 1, maxLocals := 1, code := method_4_code, exceptionTable := #[], attributes := #[] }
def k1m3 : Method := { name := "sign", desc := "(I)I", sig := { parameters := [.int], returnType := some .int }, accessFlags := 10, code := some k1c3 }
/-- com/example/kenning/kenning/index/DecoderCompareTextsPinLaw -/
def k1 : Class := { plain "com/example/kenning/kenning/index/DecoderCompareTextsPinLaw" (some 0) with
  accessFlags := 49
  interfaces := #[]
  cf := some (fileOf pool1 15 #[] #[{ accessFlags := 1, nameIndex := 5, descriptorIndex := 6, attributes := #[] }, { accessFlags := 9, nameIndex := 35, descriptorIndex := 36, attributes := #[] }, { accessFlags := 10, nameIndex := 18, descriptorIndex := 19, attributes := #[] }, { accessFlags := 10, nameIndex := 26, descriptorIndex := 27, attributes := #[] }] 49 2 #[] #[])
  fields := #[]
  methods := #[k1m0, k1m1, k1m2, k1m3]
  instanceTypes := #[]
  staticTypes := #[]
  resolved := Array.replicate 42 none
  statics := none }

def pool2 : Array CpInfo := pool [(1, .methodref 2 3), (0, .class_ 4), (0, .nameAndType 5 6), (0, u "java/lang/Object"), (0, u "<init>"), (0, u "()V"), (0, .fieldref 8 9), (0, .class_ 10), (0, .nameAndType 11 12), (0, u "com/example/kenning/kenning/index/Decoder"), (0, u "bytes"), (0, u "[B"), (0, .fieldref 8 14), (0, .nameAndType 15 16), (0, u "limit"), (0, u "I"), (0, .fieldref 8 18), (0, .nameAndType 19 20), (0, u "source"), (0, u "Ljava/lang/String;"), (0, .fieldref 8 22), (0, .nameAndType 23 24), (0, u "pages"), (0, u "Lcom/example/kenning/kenning/index/Pages;"), (0, .fieldref 8 26), (0, .nameAndType 27 16), (0, u "ready"), (8, u "position"), (10, u "([BLjava/lang/String;)V"), (99, u "compareTexts"), (0, u "(II)I"), (51, u "ENDS_EARLY"), (1, u "TOO_LARGE"), (0, u "SHARES_TOO_MUCH"), (0, u "FOLLOWS_END"), (0, u "MOST_PER_COMPRESSED_BYTE")] 54

def k2c0 : Code := { maxStack := 2, maxLocals := 3, code := prog_179_method_1_code, exceptionTable := #[], attributes := #[] }
def k2m0 : Method := { name := "<init>", desc := "([BLjava/lang/String;)V", sig := { parameters := [(.array .byte), (.object "java/lang/String")], returnType := none }, accessFlags := 0, code := some k2c0 }
def k2c1 : Code := { maxStack := 4, maxLocals := 7, code := prog_179_method_22_code, exceptionTable := #[], attributes := #[] }
def k2m1 : Method := { name := "compareTexts", desc := "(II)I", sig := { parameters := [.int, .int], returnType := some .int }, accessFlags := 0, code := some k2c1 }
/-- com/example/kenning/kenning/index/Decoder -/
def k2 : Class := { plain "com/example/kenning/kenning/index/Decoder" (some 0) with
  accessFlags := 48
  interfaces := #[]
  cf := some (fileOf pool2 8 #[] #[{ accessFlags := 0, nameIndex := 5, descriptorIndex := 47, attributes := #[] }, { accessFlags := 0, nameIndex := 147, descriptorIndex := 148, attributes := #[] }] 48 2 #[] #[{ accessFlags := 24, nameIndex := 200, descriptorIndex := 20, attributes := #[] }, { accessFlags := 24, nameIndex := 202, descriptorIndex := 20, attributes := #[] }, { accessFlags := 24, nameIndex := 203, descriptorIndex := 20, attributes := #[] }, { accessFlags := 24, nameIndex := 204, descriptorIndex := 20, attributes := #[] }, { accessFlags := 26, nameIndex := 205, descriptorIndex := 16, attributes := #[] }, { accessFlags := 18, nameIndex := 11, descriptorIndex := 12, attributes := #[] }, { accessFlags := 18, nameIndex := 15, descriptorIndex := 16, attributes := #[] }, { accessFlags := 18, nameIndex := 19, descriptorIndex := 20, attributes := #[] }, { accessFlags := 18, nameIndex := 23, descriptorIndex := 24, attributes := #[] }, { accessFlags := 2, nameIndex := 27, descriptorIndex := 16, attributes := #[] }, { accessFlags := 2, nameIndex := 36, descriptorIndex := 16, attributes := #[] }])
  fields := #[{ name := "ENDS_EARLY", type := (.object "java/lang/String"), accessFlags := 24, slot := 0, constantValue := 0 }, { name := "TOO_LARGE", type := (.object "java/lang/String"), accessFlags := 24, slot := 1, constantValue := 0 }, { name := "SHARES_TOO_MUCH", type := (.object "java/lang/String"), accessFlags := 24, slot := 2, constantValue := 0 }, { name := "FOLLOWS_END", type := (.object "java/lang/String"), accessFlags := 24, slot := 3, constantValue := 0 }, { name := "MOST_PER_COMPRESSED_BYTE", type := .int, accessFlags := 26, slot := 4, constantValue := 0 }, { name := "bytes", type := (.array .byte), accessFlags := 18, slot := 0, constantValue := 0 }, { name := "limit", type := .int, accessFlags := 18, slot := 1, constantValue := 0 }, { name := "source", type := (.object "java/lang/String"), accessFlags := 18, slot := 2, constantValue := 0 }, { name := "pages", type := (.object "com/example/kenning/kenning/index/Pages"), accessFlags := 18, slot := 3, constantValue := 0 }, { name := "ready", type := .int, accessFlags := 2, slot := 4, constantValue := 0 }, { name := "position", type := .int, accessFlags := 2, slot := 5, constantValue := 0 }]
  methods := #[k2m0, k2m1]
  instanceTypes := #[(.array .byte), .int, (.object "java/lang/String"), (.object "com/example/kenning/kenning/index/Pages"), .int, .int]
  staticTypes := #[(.object "java/lang/String"), (.object "java/lang/String"), (.object "java/lang/String"), (.object "java/lang/String"), .int]
  resolved := Array.replicate 260 none
  statics := none }

def pool3 : Array CpInfo := pool [(1, .class_ 2), (0, u "java/io/Serializable"), (0, .class_ 4), (0, u "java/lang/Object")] 2

/-- java/io/Serializable -/
def k3 : Class := { plain "java/io/Serializable" (some 0) with
  accessFlags := 1537
  interfaces := #[]
  cf := some (fileOf pool3 1 #[] #[] 1537 3 #[] #[])
  fields := #[]
  methods := #[]
  instanceTypes := #[]
  staticTypes := #[]
  resolved := Array.replicate 7 none
  statics := none }

def pool4 : Array CpInfo := pool [(1, .class_ 2), (0, u "java/lang/Comparable"), (0, .class_ 4), (0, u "java/lang/Object")] 7

/-- java/lang/Comparable -/
def k4 : Class := { plain "java/lang/Comparable" (some 0) with
  accessFlags := 1537
  interfaces := #[]
  cf := some (fileOf pool4 1 #[] #[] 1537 3 #[] #[])
  fields := #[]
  methods := #[]
  instanceTypes := #[]
  staticTypes := #[]
  resolved := Array.replicate 12 none
  statics := none }

def pool5 : Array CpInfo := pool [(2, .class_ 4), (1, u "java/lang/CharSequence"), (42, .class_ 48), (0, u "java/lang/CharSequence$1CodePointIterator"), (10, .class_ 60), (0, u "java/lang/CharSequence$1CharIterator"), (5, .class_ 67), (0, u "java/lang/Object")] 63

/-- java/lang/CharSequence -/
def k5 : Class := { plain "java/lang/CharSequence" (some 0) with
  accessFlags := 1537
  interfaces := #[]
  cf := some (fileOf pool5 2 #[.nestMembers #[47, 59]] #[] 1537 66 #[] #[])
  fields := #[]
  methods := #[]
  instanceTypes := #[]
  staticTypes := #[]
  resolved := Array.replicate 131 none
  statics := none }

def pool6 : Array CpInfo := pool [(1, .class_ 2), (0, u "java/lang/constant/Constable"), (0, .class_ 4), (0, u "java/lang/Object")] 6

/-- java/lang/constant/Constable -/
def k6 : Class := { plain "java/lang/constant/Constable" (some 0) with
  accessFlags := 1537
  interfaces := #[]
  cf := some (fileOf pool6 1 #[] #[] 1537 3 #[] #[])
  fields := #[]
  methods := #[]
  instanceTypes := #[]
  staticTypes := #[]
  resolved := Array.replicate 11 none
  statics := none }

def pool7 : Array CpInfo := pool [(1, .class_ 2), (0, u "java/lang/constant/ConstantDesc"), (0, .class_ 4), (0, u "java/lang/Object")] 32

/-- java/lang/constant/ConstantDesc -/
def k7 : Class := { plain "java/lang/constant/ConstantDesc" (some 0) with
  accessFlags := 1537
  interfaces := #[]
  cf := some (fileOf pool7 1 #[] #[] 1537 3 #[] #[])
  fields := #[]
  methods := #[]
  instanceTypes := #[]
  staticTypes := #[]
  resolved := Array.replicate 37 none
  statics := none }

def pool8 : Array CpInfo := pool [(2, .class_ 4), (1, u "java/lang/Object"), (0, u "<init>"), (0, u "()V"), (3, .class_ 12), (1, u "java/lang/String"), (0, u "value"), (0, u "[B"), (2, u "coder"), (0, u "B"), (2, u "hash"), (0, u "I"), (2, u "hashIsZero"), (0, u "Z"), (13, u "COMPACT_STRINGS"), (534, .class_ 576), (0, u "java/lang/CharSequence"), (22, u "CASE_INSENSITIVE_ORDER"), (0, u "Ljava/util/Comparator;"), (500, u "serialPersistentFields"), (0, u "[Ljava/io/ObjectStreamField;"), (0, .class_ 1104), (0, u "java/lang/String$CaseInsensitiveComparator"), (1, .class_ 1107), (0, u "java/io/Serializable"), (0, .class_ 1109), (0, u "java/lang/Comparable"), (0, .class_ 1111), (0, u "java/lang/constant/Constable"), (0, .class_ 1113), (0, u "java/lang/constant/ConstantDesc"), (2, u "serialVersionUID"), (0, u "J"), (3, u "REPL"), (0, u "C"), (2, u "LATIN1"), (1, u "UTF16")] 323

def k8m0 : Method := { name := "<init>", desc := "()V", sig := { parameters := [], returnType := none }, accessFlags := 1, code := none }
/-- java/lang/String -/
def k8 : Class := { plain "java/lang/String" (some 0) with
  accessFlags := 49
  interfaces := #[3, 4, 5, 6, 7]
  cf := some (fileOf pool8 10 #[.nestMembers #[1103]] #[{ accessFlags := 1, nameIndex := 5, descriptorIndex := 6, attributes := #[] }] 49 2 #[1106, 1108, 575, 1110, 1112] #[{ accessFlags := 18, nameIndex := 13, descriptorIndex := 14, attributes := #[] }, { accessFlags := 18, nameIndex := 17, descriptorIndex := 18, attributes := #[] }, { accessFlags := 2, nameIndex := 21, descriptorIndex := 22, attributes := #[] }, { accessFlags := 2, nameIndex := 25, descriptorIndex := 26, attributes := #[] }, { accessFlags := 26, nameIndex := 1116, descriptorIndex := 1117, attributes := #[] }, { accessFlags := 24, nameIndex := 40, descriptorIndex := 26, attributes := #[] }, { accessFlags := 26, nameIndex := 1101, descriptorIndex := 1102, attributes := #[] }, { accessFlags := 26, nameIndex := 1121, descriptorIndex := 1122, attributes := #[] }, { accessFlags := 25, nameIndex := 599, descriptorIndex := 600, attributes := #[] }, { accessFlags := 24, nameIndex := 1125, descriptorIndex := 18, attributes := #[] }, { accessFlags := 24, nameIndex := 1127, descriptorIndex := 18, attributes := #[] }])
  fields := #[{ name := "value", type := (.array .byte), accessFlags := 18, slot := 0, constantValue := 0 }, { name := "coder", type := .byte, accessFlags := 18, slot := 1, constantValue := 0 }, { name := "hash", type := .int, accessFlags := 2, slot := 2, constantValue := 0 }, { name := "hashIsZero", type := .boolean, accessFlags := 2, slot := 3, constantValue := 0 }, { name := "serialVersionUID", type := .long, accessFlags := 26, slot := 0, constantValue := 0 }, { name := "COMPACT_STRINGS", type := .boolean, accessFlags := 24, slot := 1, constantValue := 0 }, { name := "serialPersistentFields", type := (.array (.object "java/io/ObjectStreamField")), accessFlags := 26, slot := 2, constantValue := 0 }, { name := "REPL", type := .char, accessFlags := 26, slot := 3, constantValue := 0 }, { name := "CASE_INSENSITIVE_ORDER", type := (.object "java/util/Comparator"), accessFlags := 25, slot := 4, constantValue := 0 }, { name := "LATIN1", type := .byte, accessFlags := 24, slot := 5, constantValue := 0 }, { name := "UTF16", type := .byte, accessFlags := 24, slot := 6, constantValue := 0 }]
  methods := #[k8m0]
  instanceTypes := #[(.array .byte), .byte, .int, .boolean]
  staticTypes := #[.long, .boolean, (.array (.object "java/io/ObjectStreamField")), .char, (.object "java/util/Comparator"), .byte, .byte]
  resolved := Array.replicate 1451 none
  statics := none }

def pool9 : Array CpInfo := pool [(1, .class_ 2), (0, u "java/lang/Math"), (1, .class_ 6), (1, u "java/lang/Object"), (0, u "<init>"), (0, u "()V"), (89, .class_ 100), (1, u "java/lang/Math$RandomNumberGeneratorHolder"), (71, u "negativeZeroFloatBits"), (0, u "J"), (2, u "negativeZeroDoubleBits"), (24, u "min"), (43, u "$assertionsDisabled"), (0, u "Z"), (88, u "(II)I"), (2, u "twoToTheDoubleScaleDown"), (0, u "D"), (4, u "twoToTheDoubleScaleUp"), (9, u "E"), (3, u "PI"), (2, u "TAU"), (2, u "DEGREES_TO_RADIANS"), (0, u "RADIANS_TO_DEGREES")] 94

def k9m0 : Method := { name := "<init>", desc := "()V", sig := { parameters := [], returnType := none }, accessFlags := 2, code := none }
def k9c1 : Code := { maxStack := 2, maxLocals := 2, code := jdk_29_method_69_code, exceptionTable := #[], attributes := #[] }
def k9m1 : Method := { name := "min", desc := "(II)I", sig := { parameters := [.int, .int], returnType := some .int }, accessFlags := 9, code := some k9c1 }
/-- java/lang/Math -/
def k9 : Class := { plain "java/lang/Math" (some 0) with
  accessFlags := 49
  interfaces := #[]
  cf := some (fileOf pool9 1 #[.nestMembers #[98]] #[{ accessFlags := 2, nameIndex := 7, descriptorIndex := 8, attributes := #[] }, { accessFlags := 9, nameIndex := 201, descriptorIndex := 335, attributes := #[] }] 49 4 #[] #[{ accessFlags := 25, nameIndex := 354, descriptorIndex := 339, attributes := #[] }, { accessFlags := 25, nameIndex := 358, descriptorIndex := 339, attributes := #[] }, { accessFlags := 25, nameIndex := 361, descriptorIndex := 339, attributes := #[] }, { accessFlags := 26, nameIndex := 364, descriptorIndex := 339, attributes := #[] }, { accessFlags := 26, nameIndex := 365, descriptorIndex := 339, attributes := #[] }, { accessFlags := 26, nameIndex := 172, descriptorIndex := 173, attributes := #[] }, { accessFlags := 26, nameIndex := 176, descriptorIndex := 173, attributes := #[] }, { accessFlags := 8, nameIndex := 344, descriptorIndex := 339, attributes := #[] }, { accessFlags := 8, nameIndex := 338, descriptorIndex := 339, attributes := #[] }, { accessFlags := 4120, nameIndex := 245, descriptorIndex := 246, attributes := #[] }])
  fields := #[{ name := "E", type := .double, accessFlags := 25, slot := 0, constantValue := 0 }, { name := "PI", type := .double, accessFlags := 25, slot := 1, constantValue := 0 }, { name := "TAU", type := .double, accessFlags := 25, slot := 2, constantValue := 0 }, { name := "DEGREES_TO_RADIANS", type := .double, accessFlags := 26, slot := 3, constantValue := 0 }, { name := "RADIANS_TO_DEGREES", type := .double, accessFlags := 26, slot := 4, constantValue := 0 }, { name := "negativeZeroFloatBits", type := .long, accessFlags := 26, slot := 5, constantValue := 0 }, { name := "negativeZeroDoubleBits", type := .long, accessFlags := 26, slot := 6, constantValue := 0 }, { name := "twoToTheDoubleScaleUp", type := .double, accessFlags := 8, slot := 7, constantValue := 0 }, { name := "twoToTheDoubleScaleDown", type := .double, accessFlags := 8, slot := 8, constantValue := 0 }, { name := "$assertionsDisabled", type := .boolean, accessFlags := 4120, slot := 9, constantValue := 0 }]
  methods := #[k9m0, k9m1]
  instanceTypes := #[]
  staticTypes := #[.double, .double, .double, .double, .double, .long, .long, .double, .double, .boolean]
  resolved := Array.replicate 460 none
  statics := none }

def pool10 : Array CpInfo := pool [(1, u "java/lang/Cloneable"), (0, .class_ 1), (0, u "java/lang/Object"), (0, .class_ 3)] 3

/-- java/lang/Cloneable -/
def k10 : Class := { plain "java/lang/Cloneable" (some 0) with
  accessFlags := 1537
  interfaces := #[]
  cf := some (fileOf pool10 2 #[] #[] 1537 4 #[] #[])
  fields := #[]
  methods := #[]
  instanceTypes := #[]
  staticTypes := #[]
  resolved := Array.replicate 8 none
  statics := none }

/-- the primitive byte -/
def k11 : Class := { plain "byte" none with kind := .primitive 'B', accessFlags := 0x411 }
/-- [B -/
def k12 : Class := { plain "[B" (some 0) with kind := .array 11 .byte, interfaces := #[10, 3], accessFlags := 1041 }

/-- the primitive int -/
def k13 : Class := { plain "int" none with kind := .primitive 'I', accessFlags := 0x411 }
/-- [I -/
def k14 : Class := { plain "[I" (some 0) with kind := .array 13 .int, interfaces := #[10, 3], accessFlags := 1041 }

def heap : Heap := #[]
def classes : Array Class := #[k0, k1, k2, k3, k4, k5, k6, k7, k8, k9, k10, k11, k12, k13, k14]
def interned : List (Array UInt16 × Addr) := []
def slotsUsed : Nat := 0
def theMethod : MethodId := ⟨1, 1⟩
def args0 : Array Value := #[.int 5, .int 3, .int 4]
def aboutOver (below : List Frame) : State where
  vm := { classes := classes, interned := interned.toArray }
  heap := heap
  slotsUsed := slotsUsed
  threads := #[{ frames := .invoking theMethod args0 :: below }]
def below0 : List Frame := [.native { method := ⟨0, 0⟩, args := #[] }]
def about1 : State := aboutOver below0
def p0 : Program := .bare "" "" ""
def e0 : Env := launch0.env 0 0 0
theorem w_frames : about1.frames = Frame.invoking theMethod args0 :: below0 := rfl
set_option maxRecDepth 65536 in
theorem w_args : argsFit about1.vm theMethod args0 = true := by decide +kernel
set_option maxRecDepth 65536 in
theorem w_heap : heapFits about1 = true := by decide +kernel
set_option maxRecDepth 65536 in
theorem w_runnable : about1.curStatus? = some .runnable := by decide +kernel
set_option maxRecDepth 65536 in
theorem w_alone : about1.alone = true := by decide +kernel
set_option maxRecDepth 65536 in
theorem w_named : about1.methodNamed? x = some theMethod := by decide +kernel
set_option maxRecDepth 65536 in
theorem w_hears : about1.hears theMethod below0 = true := by decide +kernel
set_option maxRecDepth 65536 in
theorem w_ripe : about1.ripe theMethod args0 below0 = true := by decide +kernel
theorem w_running : about1.status = .running := rfl
set_option maxRecDepth 65536 in
theorem w_room : about1.hasRoom e0.platform room_1 = true :=
  launch0.hasRoom_least _ room_1 (by decide +kernel) (by decide +kernel) (by decide +kernel) (by decide +kernel) (by decide +kernel) (by decide +kernel)
theorem allAtoms_all (ts : List Jvm.Cond) (a : Array Jvm.Value) (st : Jvm.State) : (allAtoms ts).before a st = ts.all (fun c => c.before a st) := by
  induction ts with
  | nil => rfl
  | cons c t ih =>
    show (Jvm.Cond.and c (allAtoms t)).before a st = _
    rw [Jvm.Cond.before_and, ih, List.all_cons]
def words1 : List Jvm.Cond := Jvm.Cond.code x code maxLocals ret :: tables_1
/-- a 'code' word, met by the world's own term for the bytes: nothing is compared byte by byte -/
theorem code_word {y : MethodName} {bytes : ByteArray} {mx : Nat} {rt : Option FieldType} {a : Array Value} {s : State} {m : MethodId} {meth : Method} {c : Code} (h1 : s.methodNamed? y = some m) (h2 : s.vm.method? m = some meth) (h3 : meth.code = some c) (h4 : c.code = bytes)
    (h5 : (c.maxLocals == mx && c.exceptionTable.isEmpty && decide (c.maxStack ≤ mostOperands) && decide (meth.sig.returnType = rt) && !meth.locks && decide (parseMethodDescriptor y.desc = some meth.sig)) = true) : (Jvm.Cond.code y bytes mx rt).before a s = true := by
  simp only [Bool.and_eq_true, beq_iff_eq, Bool.not_eq_true', decide_eq_true_eq] at h5
  obtain ⟨⟨⟨⟨⟨g1, g2⟩, g3⟩, g4⟩, g5⟩, g6⟩ := h5
  simp [Cond.before, Cond.holds, Cond.value, h1, h2, h3, h4, g1, g2, g3, g4, g5, g6]
def isCode : Jvm.Cond → Bool
  | .code _ _ _ _ => true
  | _ => false
theorem all_split {L : List Jvm.Cond} {P : Jvm.Cond → Bool} (h1 : L.all (fun c => isCode c || P c) = true) (h2 : ∀ c ∈ L.filter isCode, P c = true) : L.all P = true := by
  refine List.all_eq_true.mpr fun c hc => ?_
  have h := List.all_eq_true.mp h1 c hc
  rcases Bool.eq_false_or_eq_true (isCode c) with hi | hi
  · exact h2 c (List.mem_filter.mpr ⟨hc, hi⟩)
  · simpa [hi] using h
set_option maxRecDepth 65536 in
theorem w_c0 : (Jvm.Cond.code x code maxLocals ret).before args0 about1 = true := code_word (m := ⟨1, 1⟩) (meth := k1m1) (c := k1c1) (by decide +kernel) rfl rfl rfl (by decide +kernel)
set_option maxRecDepth 65536 in
theorem w_c1 : (Jvm.Cond.code ({ cls := "com/example/kenning/kenning/index/Decoder", name := "<init>", desc := "([BLjava/lang/String;)V" } : Jvm.MethodName) prog_179_method_1_code (3 : Nat) (Option.none : Option Jvm.ClassFile.FieldType)).before args0 about1 = true := code_word (m := ⟨2, 0⟩) (meth := k2m0) (c := k2c0) (by decide +kernel) rfl rfl rfl (by decide +kernel)
set_option maxRecDepth 65536 in
theorem w_c2 : (Jvm.Cond.code ({ cls := "java/lang/Object", name := "<init>", desc := "()V" } : Jvm.MethodName) object_method_1_code (1 : Nat) (Option.none : Option Jvm.ClassFile.FieldType)).before args0 about1 = true := code_word (m := ⟨0, 0⟩) (meth := k0m0) (c := k0c0) (by decide +kernel) rfl rfl rfl (by decide +kernel)
set_option maxRecDepth 65536 in
theorem w_c3 : (Jvm.Cond.code ({ cls := "com/example/kenning/kenning/index/DecoderCompareTextsPinLaw", name := "reference", desc := "(IIIIIIII)I" } : Jvm.MethodName) method_3_code (9 : Nat) (Option.some Jvm.ClassFile.FieldType.int)).before args0 about1 = true := code_word (m := ⟨1, 2⟩) (meth := k1m2) (c := k1c2) (by decide +kernel) rfl rfl rfl (by decide +kernel)
set_option maxRecDepth 65536 in
theorem w_c4 : (Jvm.Cond.code ({ cls := "java/lang/Math", name := "min", desc := "(II)I" } : Jvm.MethodName) jdk_29_method_69_code (2 : Nat) (Option.some Jvm.ClassFile.FieldType.int)).before args0 about1 = true := code_word (m := ⟨9, 1⟩) (meth := k9m1) (c := k9c1) (by decide +kernel) rfl rfl rfl (by decide +kernel)
set_option maxRecDepth 65536 in
theorem w_c5 : (Jvm.Cond.code ({ cls := "com/example/kenning/kenning/index/Decoder", name := "compareTexts", desc := "(II)I" } : Jvm.MethodName) prog_179_method_22_code (7 : Nat) (Option.some Jvm.ClassFile.FieldType.int)).before args0 about1 = true := code_word (m := ⟨2, 1⟩) (meth := k2m1) (c := k2c1) (by decide +kernel) rfl rfl rfl (by decide +kernel)
set_option maxRecDepth 65536 in
theorem w_c6 : (Jvm.Cond.code ({ cls := "com/example/kenning/kenning/index/DecoderCompareTextsPinLaw", name := "sign", desc := "(I)I" } : Jvm.MethodName) method_4_code (1 : Nat) (Option.some Jvm.ClassFile.FieldType.int)).before args0 about1 = true := code_word (m := ⟨1, 3⟩) (meth := k1m3) (c := k1c3) (by decide +kernel) rfl rfl rfl (by decide +kernel)
def codes1 : List Jvm.Cond := [Jvm.Cond.code x code maxLocals ret, Jvm.Cond.code ({ cls := "com/example/kenning/kenning/index/Decoder", name := "<init>", desc := "([BLjava/lang/String;)V" } : Jvm.MethodName) prog_179_method_1_code (3 : Nat) (Option.none : Option Jvm.ClassFile.FieldType), Jvm.Cond.code ({ cls := "java/lang/Object", name := "<init>", desc := "()V" } : Jvm.MethodName) object_method_1_code (1 : Nat) (Option.none : Option Jvm.ClassFile.FieldType), Jvm.Cond.code ({ cls := "com/example/kenning/kenning/index/DecoderCompareTextsPinLaw", name := "reference", desc := "(IIIIIIII)I" } : Jvm.MethodName) method_3_code (9 : Nat) (Option.some Jvm.ClassFile.FieldType.int), Jvm.Cond.code ({ cls := "java/lang/Math", name := "min", desc := "(II)I" } : Jvm.MethodName) jdk_29_method_69_code (2 : Nat) (Option.some Jvm.ClassFile.FieldType.int), Jvm.Cond.code ({ cls := "com/example/kenning/kenning/index/Decoder", name := "compareTexts", desc := "(II)I" } : Jvm.MethodName) prog_179_method_22_code (7 : Nat) (Option.some Jvm.ClassFile.FieldType.int), Jvm.Cond.code ({ cls := "com/example/kenning/kenning/index/DecoderCompareTextsPinLaw", name := "sign", desc := "(I)I" } : Jvm.MethodName) method_4_code (1 : Nat) (Option.some Jvm.ClassFile.FieldType.int)]
set_option maxRecDepth 65536 in
theorem codes_eq : words1.filter isCode = codes1 := rfl
theorem w_codes : ∀ c ∈ words1.filter isCode, c.before args0 about1 = true := by
  rw [codes_eq]
  intro c hc
  simp only [codes1, List.mem_cons, List.not_mem_nil, or_false] at hc
  rcases hc with rfl | rfl | rfl | rfl | rfl | rfl | rfl
  · exact w_c0
  · exact w_c1
  · exact w_c2
  · exact w_c3
  · exact w_c4
  · exact w_c5
  · exact w_c6
set_option maxRecDepth 65536 in
theorem w_t1 : (words1.take 24).all (fun c => isCode c || c.before args0 about1) = true := by decide +kernel
set_option maxRecDepth 65536 in
theorem w_t2 : (words1.drop 24).all (fun c => isCode c || c.before args0 about1) = true := by decide +kernel
theorem w_tables : (allAtoms (Jvm.Cond.code x code maxLocals ret :: tables_1)).before args0 about1 = true := by
  rw [allAtoms_all]
  show words1.all (fun c => c.before args0 about1) = true
  refine all_split ?_ w_codes
  rw [← List.take_append_drop 24 words1, List.all_append, w_t1, w_t2]
  rfl
set_option maxRecDepth 65536 in
theorem w_case : (Jvm.Cond.and given_1 narrow_1).before args0 about1 = true := by decide +kernel
theorem w_applies : (headSpec (Jvm.Cond.code x code maxLocals ret :: tables_1) room_1).applies x e0.platform about1 = true :=
  (Spec.applies_iff w_frames).mpr ⟨w_running, w_runnable, w_alone, w_named, w_hears, w_ripe, w_room, w_tables⟩
theorem atStart : AtStart classFile x code maxLocals ret World_1 tables_1 room_1 Calls_1 rest_1 Pre_1 launch0 p0 e0 about1 theMethod args0 below0 :=
  ⟨lists_1, trivial, launch0.admits_env _ _ _, launch0.least_env, fairChoices_fair.cas, fairChoices_fair.clock, w_frames, w_args, w_heap, w_applies, trivial, trivial, w_case⟩
end start1
theorem witness_1 : WitnessClaimed_1 := ⟨start1.p0, start1.e0, start1.about1, start1.theMethod, start1.args0, start1.below0, start1.atStart⟩
end Jvm.Pilot.@@N@@
