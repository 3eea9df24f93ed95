import JvmDerived
import JvmDerived.Pilot.@@N@@Statement
import JvmDerived.Pilot.@@N@@Code
set_option linter.unusedVariables false
set_option linter.unusedSimpArgs false
namespace Jvm.RoadKit
open Sem ClassFile Op Lib Jvm.Stand Jvm.Free Jvm.LawKit
section New
variable {p : Program} {l : Launch} {e : Env} {R : Room} {s : State} {m : MethodId} {args : Array Value} {below : List Frame} {meth : Method} {c : Code} {T T' : State} {locs : List Loc} {cells slots : Nat}
/-- what a body leaves: the value, and what is known of the heap and of the places written -/
def QV (w : Option Value) (P : Heap → List Loc → Prop) (v : Option Value) (h : Heap) (L : List Loc) : Prop := v = w ∧ P h L
/-- a body that writes nothing -/
def PureP (n0 : Nat) (h0 : Heap) (h : Heap) (L : List Loc) : Prop := Fr n0 L ∧ h = h0
/-- from here the body returns w and leaves P -/
def Got (p : Program) (e : Env) (below : List Frame) (s : State) (P : Heap → List Loc → Prop) (ck cs : Nat) (w : Option Value) (T : State) (g : JFrame) : Prop :=
  ∃ s₂ L, Steps p.tables e below (T.setTop g) s₂ ∧ s₂.status = .running ∧ Ended s₂ below (.returned w) ∧ P s₂.heap L ∧ FrameEnd s (.returned w) s₂ L ck cs
variable {P : Heap → List Loc → Prop} {ck cs : Nat} {w : Option Value} {g g' : JFrame}
theorem Got.step (h : ∀ t, Steps p.tables e below (T'.setTop g') t → Steps p.tables e below (T.setTop g) t) (k : Got p e below s P ck cs w T' g') : Got p e below s P ck cs w T g := by
  obtain ⟨s₂, L, h1, r⟩ := k
  exact ⟨s₂, L, h _ h1, r⟩
theorem Got.hop (h : Steps p.tables e below (T.setTop g) (T'.setTop g')) (k : Got p e below s P ck cs w T' g') : Got p e below s P ck cs w T g := Got.step (fun _ q => h.trans q) k
theorem Got.ite {q : Prop} [Decidable q] {x y : Int32} (h1 : q → Got p e below s P ck cs (some (.int x)) T g) (h2 : ¬ q → Got p e below s P ck cs (some (.int y)) T g) : Got p e below s P ck cs (some (.int (if q then x else y))) T g := by
  by_cases h : q
  · rw [if_pos h]; exact h1 h
  · rw [if_neg h]; exact h2 h
theorem Got.iteJ {q : Prop} [Decidable q] {x y : Int64} (h1 : q → Got p e below s P ck cs (some (.long x)) T g) (h2 : ¬ q → Got p e below s P ck cs (some (.long y)) T g) : Got p e below s P ck cs (some (.long (if q then x else y))) T g := by
  by_cases h : q
  · rw [if_pos h]; exact h1 h
  · rw [if_neg h]; exact h2 h
theorem Got.iteR {q : Prop} [Decidable q] {x y : Addr} (h1 : q → Got p e below s P ck cs (some (.ref x)) T g) (h2 : ¬ q → Got p e below s P ck cs (some (.ref y)) T g) : Got p e below s P ck cs (some (.ref (if q then x else y))) T g := by
  by_cases h : q
  · rw [if_pos h]; exact h1 h
  · rw [if_neg h]; exact h2 h
theorem Got.body {n : Nat} {as' : Array Value} (hg : entryFrame m as' n = g) (k : Got p e below s P ck cs w T g) :
    ∃ s₂ o, Steps p.tables e below (T.setTop (entryFrame m as' n)) s₂ ∧ s₂.status = .running ∧ Ended s₂ below o ∧ ∃ v L, o = .returned v ∧ QV w P v s₂.heap L ∧ FrameEnd s o s₂ L ck cs := by
  obtain ⟨s₂, L, h1, h2, h3, h4, h5⟩ := k
  exact ⟨s₂, _, by rw [hg]; exact h1, h2, h3, w, L, rfl, ⟨rfl, h4⟩, h5⟩
theorem Got.retN (X : Stand p l e R s m args below meth c T locs cells slots) (hx : p.tables.exec = Jvm.exec) {t : FieldType} (hret : meth.sig.returnType = some t) (ht : t = .boolean ∨ t = .byte ∨ t = .char ∨ t = .short) (hlk : meth.locks = false) {pc : Nat} {Ls : Array Slot} {z y : Int32} {rest : List Value}
    (hd : decode c.code pc = .ok (.ireturn, 1)) (hy : nar t z = y) (hP : P T.heap locs) (hc : cells ≤ ck) (hs : slots ≤ cs) : Got p e below s P ck cs (some (.int y)) T (mkF m pc Ls (.int z :: rest)) := by
  subst hy
  obtain ⟨fs, hr, hrun, hended, hW, hsame⟩ := X.leave (v := some (.int (nar t z))) (fun h => by rw [hret] at h; cases h) hlk
  exact ⟨_, locs, Jvm.RoadKit.retN X hx hret ht hd hr, hrun, hended, hP, ⟨_, rfl⟩, hW, hsame.mono hc hs⟩
theorem Got.retI (X : Stand p l e R s m args below meth c T locs cells slots) (hx : p.tables.exec = Jvm.exec) (hret : meth.sig.returnType = some .int) (hlk : meth.locks = false) {pc : Nat} {Ls : Array Slot} {z y : Int32} {rest : List Value}
    (hd : decode c.code pc = .ok (.ireturn, 1)) (hy : z = y) (hP : P T.heap locs) (hc : cells ≤ ck) (hs : slots ≤ cs) : Got p e below s P ck cs (some (.int y)) T (mkF m pc Ls (.int z :: rest)) := by
  subst hy
  obtain ⟨fs, hr, hrun, hended, hW, hsame⟩ := X.leave (v := some (.int z)) (fun h => by rw [hret] at h; cases h) hlk
  exact ⟨_, locs, retOut X hx hret rfl (Or.inl ⟨rfl, Or.inl rfl, z, rfl⟩) hd hr, hrun, hended, hP, ⟨_, rfl⟩, hW, hsame.mono hc hs⟩
theorem Got.retJ (X : Stand p l e R s m args below meth c T locs cells slots) (hx : p.tables.exec = Jvm.exec) (hret : meth.sig.returnType = some .long) (hlk : meth.locks = false) {pc : Nat} {Ls : Array Slot} {z y : Int64}
    (hd : decode c.code pc = .ok (.lreturn, 1)) (hy : z = y) (hP : P T.heap locs) (hc : cells ≤ ck) (hs : slots ≤ cs) : Got p e below s P ck cs (some (.long y)) T (mkF m pc Ls [.long z]) := by
  subst hy
  obtain ⟨fs, hr, hrun, hended, hW, hsame⟩ := X.leave (v := some (.long z)) (fun h => by rw [hret] at h; cases h) hlk
  exact ⟨_, locs, X.lreturnOut hx hret hd hr, hrun, hended, hP, ⟨_, rfl⟩, hW, hsame.mono hc hs⟩
theorem Got.retV (X : Stand p l e R s m args below meth c T locs cells slots) (hx : p.tables.exec = Jvm.exec) (hret : meth.sig.returnType = none) (hlk : meth.locks = false) {pc : Nat} {Ls : Array Slot}
    (hd : decode c.code pc = .ok (.return_, 1)) (hP : P T.heap locs) (hc : cells ≤ ck) (hs : slots ≤ cs) : Got p e below s P ck cs none T (mkF m pc Ls []) := by
  obtain ⟨fs, hr, hrun, hended, hW, hsame⟩ := X.leave (v := none) (fun _ => rfl) hlk
  exact ⟨_, locs, X.returnOut hx hret hd hr, hrun, hended, hP, ⟨_, rfl⟩, hW, hsame.mono hc hs⟩
theorem Got.retA (X : Stand p l e R s m args below meth c T locs cells slots) (hx : p.tables.exec = Jvm.exec) {t : FieldType} (hret : meth.sig.returnType = some t) (ht : t.isReference = true) (hlk : meth.locks = false) {pc : Nat} {Ls : Array Slot} {a : Addr} {rest : List Value}
    (hd : decode c.code pc = .ok (.areturn, 1)) (hn : narrow t (.ref a) = .ref a) (hP : P T.heap locs) (hc : cells ≤ ck) (hs : slots ≤ cs) : Got p e below s P ck cs (some (.ref a)) T (mkF m pc Ls (.ref a :: rest)) := by
  obtain ⟨fs, hr, hrun, hended, hW, hsame⟩ := X.leave (v := some (.ref a)) (fun h => by rw [hret] at h; cases h) hlk
  exact ⟨_, locs, retOut X hx hret hn (Or.inr (Or.inr (Or.inr (Or.inr ⟨rfl, ht, rfl⟩)))) hd hr, hrun, hended, hP, ⟨_, rfl⟩, hW, hsame.mono hc hs⟩
theorem remJ {g : JFrame} {target : State} (X : Stand p l e R s m args below meth c T locs cells slots) (hx : p.tables.exec = Jvm.exec) (hg : g.method = m) {x y : Int64} {rest : List Value} (hd : decode c.code g.pc = .ok (.lrem, 1)) (hs : g.stack = .long y :: .long x :: rest) (hy : y ≠ 0)
    (hr : Steps p.tables e below (T.setTop { g with pc := g.pc + 1, stack := .long (x % y) :: rest }) target) : Steps p.tables e below (T.setTop g) target := by
  rw [← lrem_mod x y] at hr
  exact XS.lrem X.here hx hg hd hs hy hr
theorem one_unset : One .unset := Or.inl rfl
theorem one_int (x : Int32) : One (.val (.int x)) := Or.inr ⟨_, rfl, rfl⟩
theorem one_ref (x : Addr) : One (.val (.ref x)) := Or.inr ⟨_, rfl, rfl⟩
theorem narB (x : Int32) : nar .byte x.toInt8.toInt32 = x.toInt8.toInt32 := by simp [nar]
end New
end Jvm.RoadKit
namespace Jvm.Pilot.@@N@@
open Jvm Jvm.ClassFile Sem Op Lib Jvm.Free Jvm.Stand Jvm.LawKit Jvm.RoadKit Bundle Jvm.Pilot.@@N@@.Jvm.D
theorem own_inb1 {n : Int32} (h : ¬ n < (1 : Int32)) : ¬ (0 : Int32) < 0 ∧ (0 : Int32) < n := by
  refine ⟨by decide, ?_⟩
  rw [Int32.lt_iff_toInt_lt] at h ⊢
  have z : (1 : Int32).toInt = 1 := rfl
  have z0 : (0 : Int32).toInt = 0 := rfl
  omega
theorem own_inb2 {n : Int32} (h : ¬ n < (2 : Int32)) : ¬ (1 : Int32) < 0 ∧ (1 : Int32) < n := by
  refine ⟨by decide, ?_⟩
  rw [Int32.lt_iff_toInt_lt] at h ⊢
  have z : (2 : Int32).toInt = 2 := rfl
  have z0 : (1 : Int32).toInt = 1 := rfl
  omega
theorem own_inb3 {n : Int32} (h : ¬ n < (3 : Int32)) : ¬ (2 : Int32) < 0 ∧ (2 : Int32) < n := by
  refine ⟨by decide, ?_⟩
  rw [Int32.lt_iff_toInt_lt] at h ⊢
  have z : (3 : Int32).toInt = 3 := rfl
  have z0 : (2 : Int32).toInt = 2 := rfl
  omega
theorem own_inb0 {n : Int32} (h : ¬ n < (2 : Int32)) : ¬ (0 : Int32) < 0 ∧ (0 : Int32) < n := by
  refine ⟨by decide, ?_⟩
  rw [Int32.lt_iff_toInt_lt] at h ⊢
  have z : (2 : Int32).toInt = 2 := rfl
  have z0 : (0 : Int32).toInt = 0 := rfl
  omega

def f2 (p0 : Int32)  : Int32 := (if (p0 &&& (256 : Int32)) = 0 then (p0.toInt8.toInt32) else (if (((p0.toUInt32 >>> ((9 : Int32) &&& 31).toUInt32).toInt32) &&& (3 : Int32)) = 0 then (-2 : Int32) else (if (((p0.toUInt32 >>> ((9 : Int32) &&& 31).toUInt32).toInt32) &&& (3 : Int32)) = (1 : Int32) then (-1 : Int32) else (if (((p0.toUInt32 >>> ((9 : Int32) &&& 31).toUInt32).toInt32) &&& (3 : Int32)) = (2 : Int32) then (0 : Int32) else (60 : Int32)))))
theorem ef_2 (m : MethodId) (x0 : Int32) : entryFrame m #[(.int x0)] 2 = mkF m 0 #[.val (.int x0), .unset] [] := by first | (simp [entryFrame, mkF, argsToLocals, Value.category]; done) | rfl
theorem pn_0 : plainName "com/example/treegraft/treegraft/xml/EncodingDetectPinLaw" = true := by first | (simp [plainName, overriddenIn]; done) | decide +kernel
theorem d2_0 : decode method_2_code 0 = .ok (.iload_n 0, 1) := by decide +kernel
theorem d2_1 : decode method_2_code 1 = .ok (.sipush 256, 3) := by decide +kernel
theorem d2_4 : decode method_2_code 4 = .ok (.iand, 1) := by decide +kernel
theorem d2_5 : decode method_2_code 5 = .ok (.ifCond .eq 34, 3) := by decide +kernel
theorem d2_8 : decode method_2_code 8 = .ok (.iload_n 0, 1) := by decide +kernel
theorem d2_9 : decode method_2_code 9 = .ok (.bipush 9, 2) := by decide +kernel
theorem d2_11 : decode method_2_code 11 = .ok (.iushr, 1) := by decide +kernel
theorem d2_12 : decode method_2_code 12 = .ok (.iconst 3, 1) := by decide +kernel
theorem d2_13 : decode method_2_code 13 = .ok (.iand, 1) := by decide +kernel
theorem d2_14 : decode method_2_code 14 = .ok (.istore_n 1, 1) := by decide +kernel
theorem d2_15 : decode method_2_code 15 = .ok (.iload_n 1, 1) := by decide +kernel
theorem d2_16 : decode method_2_code 16 = .ok (.ifCond .ne 6, 3) := by decide +kernel
theorem d2_19 : decode method_2_code 19 = .ok (.bipush (-2), 2) := by decide +kernel
theorem d2_21 : decode method_2_code 21 = .ok (.ireturn, 1) := by decide +kernel
theorem d2_22 : decode method_2_code 22 = .ok (.iload_n 1, 1) := by decide +kernel
theorem d2_23 : decode method_2_code 23 = .ok (.iconst 1, 1) := by decide +kernel
theorem d2_24 : decode method_2_code 24 = .ok (.if_icmp .ne 5, 3) := by decide +kernel
theorem d2_27 : decode method_2_code 27 = .ok (.iconst (-1), 1) := by decide +kernel
theorem d2_28 : decode method_2_code 28 = .ok (.ireturn, 1) := by decide +kernel
theorem d2_29 : decode method_2_code 29 = .ok (.iload_n 1, 1) := by decide +kernel
theorem d2_30 : decode method_2_code 30 = .ok (.iconst 2, 1) := by decide +kernel
theorem d2_31 : decode method_2_code 31 = .ok (.if_icmp .ne 5, 3) := by decide +kernel
theorem d2_34 : decode method_2_code 34 = .ok (.iconst 0, 1) := by decide +kernel
theorem d2_35 : decode method_2_code 35 = .ok (.ireturn, 1) := by decide +kernel
theorem d2_36 : decode method_2_code 36 = .ok (.bipush 60, 2) := by decide +kernel
theorem d2_38 : decode method_2_code 38 = .ok (.ireturn, 1) := by decide +kernel
theorem d2_39 : decode method_2_code 39 = .ok (.iload_n 0, 1) := by decide +kernel
theorem d2_40 : decode method_2_code 40 = .ok (.i2b, 1) := by decide +kernel
theorem d2_41 : decode method_2_code 41 = .ok (.ireturn, 1) := by decide +kernel
set_option maxRecDepth 65536 in
set_option maxHeartbeats 40000000 in
theorem rm2 (l : Launch) (Z : State) (a0 : Array Value) (hw : ∀ d ∈ tables_1, d.before a0 Z = true) (ws : List Jvm.Cond) (p0 : Int32)  (h0 : Heap) (n0 : Nat) (Z0 : n0 ≤ h0.size)  :
    MetFree l (⟨"com/example/treegraft/treegraft/xml/EncodingDetectPinLaw", "pick", "(I)B"⟩ : MethodName) (head1 (Jvm.Cond.code (⟨"com/example/treegraft/treegraft/xml/EncodingDetectPinLaw", "pick", "(I)B"⟩ : MethodName) method_2_code 2 (some .byte) :: ws) ({ frames := 0, cells := 0, slots := 0, locals := 0 } : Room)) (fun a U => a = #[(.int p0)] ∧ Z.Warmed39 U.vm ∧ U.heap = h0) (fun _ _ _ _ _ => True) (fun _ U o U' => ∃ v L, o = .returned v ∧ QV (some (.int (f2 p0))) (PureP n0 h0) v U'.heap L ∧ FrameEnd U o U' L ({ frames := 0, cells := 0, slots := 0, locals := 0 } : Room).cells ({ frames := 0, cells := 0, slots := 0, locals := 0 } : Room).slots) := by
  refine MetFree.of_bodySF (plainFor_of_name pn_0) hisR ?_
  intro p e s m args below meth c s₁ Bd hml0 hP hK
  obtain ⟨rfl, hZ, hh⟩ := hP
  have hx := Bd.exec
  have hby := Bd.bytes
  have hml : c.maxLocals = 2 := hml0
  have hown : s.vm.findClass "com/example/treegraft/treegraft/xml/EncodingDetectPinLaw" = some m.cls := findClass_of_methodNamed Bd.named
  have hnm := (name_of_methodNamed Bd.named Bd.method).1
  have hlk : meth.locks = false := BodyLoose.notSynchronized Bd
  have X0 : Stand p l e ({ frames := 0, cells := 0, slots := 0, locals := 0 } : Room) s m #[(.int p0)] below meth c s₁ [] 0 0 := Stand.of_body Bd
  have e0 : s₁.heap = h0 := by rw [← hh, Bd.state]; rfl
  have N0 := Fr.nil n0
  refine Got.body (ef_2 m p0) ?_
  refine Got.step (T' := s₁) (g' := (mkF m 5 #[.val (.int p0), .unset] [(.int (p0 &&& (256 : Int32)))])) (fun tq kt => ?_) ?_
  · show Steps p.tables e below (s₁.setTop (mkF m 0 #[.val (.int p0), .unset] [])) _
    refine XS.iloadN X0.here hx rfl (hb hby d2_0) rfl ?_
    show Steps p.tables e below (s₁.setTop (mkF m 1 #[.val (.int p0), .unset] [(.int p0)])) _
    refine XS.sipush X0.here hx rfl (hb hby d2_1) ?_
    show Steps p.tables e below (s₁.setTop (mkF m 4 #[.val (.int p0), .unset] [(.int (256 : Int32)), (.int p0)])) _
    refine XS.iand X0.here hx rfl (hb hby d2_4) rfl ?_
    exact kt
  refine Got.ite (q := ((p0 &&& (256 : Int32)) = 0)) (fun hc1 => ?_) (fun hc1 => ?_)
  · refine Got.step (T' := s₁) (g' := (mkF m 41 #[.val (.int p0), .unset] [(.int (p0.toInt8.toInt32))])) (fun tq kt => ?_) ?_
    · show Steps p.tables e below (s₁.setTop (mkF m 5 #[.val (.int p0), .unset] [(.int (p0 &&& (256 : Int32)))])) _
      refine XS.ifYes X0.here hx rfl (pc0 := 5) (pc' := 39) rfl (hb hby d2_5) rfl (XT.i0_eq_t hc1) (by decide) (by decide) ?_
      show Steps p.tables e below (s₁.setTop (mkF m 39 #[.val (.int p0), .unset] [])) _
      refine XS.iloadN X0.here hx rfl (hb hby d2_39) rfl ?_
      show Steps p.tables e below (s₁.setTop (mkF m 40 #[.val (.int p0), .unset] [(.int p0)])) _
      refine XS.i2b X0.here hx rfl (hb hby d2_40) rfl ?_
      exact kt
    exact Got.retN (y := (p0.toInt8.toInt32)) (t := .byte) X0 hx Bd.returns (by simp) hlk (hb hby d2_41) (narB _) ⟨N0, e0⟩ (by decide) (by decide)
  · refine Got.step (T' := s₁) (g' := (mkF m 16 #[.val (.int p0), .val (.int (((p0.toUInt32 >>> ((9 : Int32) &&& 31).toUInt32).toInt32) &&& (3 : Int32)))] [(.int (((p0.toUInt32 >>> ((9 : Int32) &&& 31).toUInt32).toInt32) &&& (3 : Int32)))])) (fun tq kt => ?_) ?_
    · show Steps p.tables e below (s₁.setTop (mkF m 5 #[.val (.int p0), .unset] [(.int (p0 &&& (256 : Int32)))])) _
      refine XS.ifNo X0.here hx rfl (hb hby d2_5) rfl (XT.i0_eq_f hc1) ?_
      show Steps p.tables e below (s₁.setTop (mkF m 8 #[.val (.int p0), .unset] [])) _
      refine XS.iloadN X0.here hx rfl (hb hby d2_8) rfl ?_
      show Steps p.tables e below (s₁.setTop (mkF m 9 #[.val (.int p0), .unset] [(.int p0)])) _
      refine XS.bipush X0.here hx rfl (hb hby d2_9) ?_
      show Steps p.tables e below (s₁.setTop (mkF m 11 #[.val (.int p0), .unset] [(.int (9 : Int32)), (.int p0)])) _
      refine XS.iushr X0.here hx rfl (hb hby d2_11) rfl ?_
      show Steps p.tables e below (s₁.setTop (mkF m 12 #[.val (.int p0), .unset] [(.int ((p0.toUInt32 >>> ((9 : Int32) &&& 31).toUInt32).toInt32))])) _
      refine XS.iconst X0.here hx rfl (hb hby d2_12) ?_
      show Steps p.tables e below (s₁.setTop (mkF m 13 #[.val (.int p0), .unset] [(.int (3 : Int32)), (.int ((p0.toUInt32 >>> ((9 : Int32) &&& 31).toUInt32).toInt32))])) _
      refine XS.iand X0.here hx rfl (hb hby d2_13) rfl ?_
      show Steps p.tables e below (s₁.setTop (mkF m 14 #[.val (.int p0), .unset] [(.int (((p0.toUInt32 >>> ((9 : Int32) &&& 31).toUInt32).toInt32) &&& (3 : Int32)))])) _
      refine XS.istoreN X0.here hx rfl (hb hby d2_14) rfl (l' := #[.val (.int p0), .val (.int (((p0.toUInt32 >>> ((9 : Int32) &&& 31).toUInt32).toInt32) &&& (3 : Int32)))]) rfl ?_
      show Steps p.tables e below (s₁.setTop (mkF m 15 #[.val (.int p0), .val (.int (((p0.toUInt32 >>> ((9 : Int32) &&& 31).toUInt32).toInt32) &&& (3 : Int32)))] [])) _
      refine XS.iloadN X0.here hx rfl (hb hby d2_15) rfl ?_
      exact kt
    refine Got.ite (q := ((((p0.toUInt32 >>> ((9 : Int32) &&& 31).toUInt32).toInt32) &&& (3 : Int32)) = 0)) (fun hc2 => ?_) (fun hc2 => ?_)
    · refine Got.step (T' := s₁) (g' := (mkF m 21 #[.val (.int p0), .val (.int (((p0.toUInt32 >>> ((9 : Int32) &&& 31).toUInt32).toInt32) &&& (3 : Int32)))] [(.int (-2 : Int32))])) (fun tq kt => ?_) ?_
      · show Steps p.tables e below (s₁.setTop (mkF m 16 #[.val (.int p0), .val (.int (((p0.toUInt32 >>> ((9 : Int32) &&& 31).toUInt32).toInt32) &&& (3 : Int32)))] [(.int (((p0.toUInt32 >>> ((9 : Int32) &&& 31).toUInt32).toInt32) &&& (3 : Int32)))])) _
        refine XS.ifNo X0.here hx rfl (hb hby d2_16) rfl (XT.i0_ne_f hc2) ?_
        show Steps p.tables e below (s₁.setTop (mkF m 19 #[.val (.int p0), .val (.int (((p0.toUInt32 >>> ((9 : Int32) &&& 31).toUInt32).toInt32) &&& (3 : Int32)))] [])) _
        refine XS.bipush X0.here hx rfl (hb hby d2_19) ?_
        exact kt
      exact Got.retN (y := (-2 : Int32)) (t := .byte) X0 hx Bd.returns (by simp) hlk (hb hby d2_21) (by decide) ⟨N0, e0⟩ (by decide) (by decide)
    · refine Got.step (T' := s₁) (g' := (mkF m 24 #[.val (.int p0), .val (.int (((p0.toUInt32 >>> ((9 : Int32) &&& 31).toUInt32).toInt32) &&& (3 : Int32)))] [(.int (1 : Int32)), (.int (((p0.toUInt32 >>> ((9 : Int32) &&& 31).toUInt32).toInt32) &&& (3 : Int32)))])) (fun tq kt => ?_) ?_
      · show Steps p.tables e below (s₁.setTop (mkF m 16 #[.val (.int p0), .val (.int (((p0.toUInt32 >>> ((9 : Int32) &&& 31).toUInt32).toInt32) &&& (3 : Int32)))] [(.int (((p0.toUInt32 >>> ((9 : Int32) &&& 31).toUInt32).toInt32) &&& (3 : Int32)))])) _
        refine XS.ifYes X0.here hx rfl (pc0 := 16) (pc' := 22) rfl (hb hby d2_16) rfl (XT.i0_ne_t hc2) (by decide) (by decide) ?_
        show Steps p.tables e below (s₁.setTop (mkF m 22 #[.val (.int p0), .val (.int (((p0.toUInt32 >>> ((9 : Int32) &&& 31).toUInt32).toInt32) &&& (3 : Int32)))] [])) _
        refine XS.iloadN X0.here hx rfl (hb hby d2_22) rfl ?_
        show Steps p.tables e below (s₁.setTop (mkF m 23 #[.val (.int p0), .val (.int (((p0.toUInt32 >>> ((9 : Int32) &&& 31).toUInt32).toInt32) &&& (3 : Int32)))] [(.int (((p0.toUInt32 >>> ((9 : Int32) &&& 31).toUInt32).toInt32) &&& (3 : Int32)))])) _
        refine XS.iconst X0.here hx rfl (hb hby d2_23) ?_
        exact kt
      refine Got.ite (q := ((((p0.toUInt32 >>> ((9 : Int32) &&& 31).toUInt32).toInt32) &&& (3 : Int32)) = (1 : Int32))) (fun hc3 => ?_) (fun hc3 => ?_)
      · refine Got.step (T' := s₁) (g' := (mkF m 28 #[.val (.int p0), .val (.int (((p0.toUInt32 >>> ((9 : Int32) &&& 31).toUInt32).toInt32) &&& (3 : Int32)))] [(.int (-1 : Int32))])) (fun tq kt => ?_) ?_
        · show Steps p.tables e below (s₁.setTop (mkF m 24 #[.val (.int p0), .val (.int (((p0.toUInt32 >>> ((9 : Int32) &&& 31).toUInt32).toInt32) &&& (3 : Int32)))] [(.int (1 : Int32)), (.int (((p0.toUInt32 >>> ((9 : Int32) &&& 31).toUInt32).toInt32) &&& (3 : Int32)))])) _
          refine XS.icmpNo X0.here hx rfl (hb hby d2_24) rfl (XT.ii_ne_f hc3) ?_
          show Steps p.tables e below (s₁.setTop (mkF m 27 #[.val (.int p0), .val (.int (((p0.toUInt32 >>> ((9 : Int32) &&& 31).toUInt32).toInt32) &&& (3 : Int32)))] [])) _
          refine XS.iconst X0.here hx rfl (hb hby d2_27) ?_
          exact kt
        exact Got.retN (y := (-1 : Int32)) (t := .byte) X0 hx Bd.returns (by simp) hlk (hb hby d2_28) (by decide) ⟨N0, e0⟩ (by decide) (by decide)
      · refine Got.step (T' := s₁) (g' := (mkF m 31 #[.val (.int p0), .val (.int (((p0.toUInt32 >>> ((9 : Int32) &&& 31).toUInt32).toInt32) &&& (3 : Int32)))] [(.int (2 : Int32)), (.int (((p0.toUInt32 >>> ((9 : Int32) &&& 31).toUInt32).toInt32) &&& (3 : Int32)))])) (fun tq kt => ?_) ?_
        · show Steps p.tables e below (s₁.setTop (mkF m 24 #[.val (.int p0), .val (.int (((p0.toUInt32 >>> ((9 : Int32) &&& 31).toUInt32).toInt32) &&& (3 : Int32)))] [(.int (1 : Int32)), (.int (((p0.toUInt32 >>> ((9 : Int32) &&& 31).toUInt32).toInt32) &&& (3 : Int32)))])) _
          refine XS.icmpYes X0.here hx rfl (pc0 := 24) (pc' := 29) rfl (hb hby d2_24) rfl (XT.ii_ne_t hc3) (by decide) (by decide) ?_
          show Steps p.tables e below (s₁.setTop (mkF m 29 #[.val (.int p0), .val (.int (((p0.toUInt32 >>> ((9 : Int32) &&& 31).toUInt32).toInt32) &&& (3 : Int32)))] [])) _
          refine XS.iloadN X0.here hx rfl (hb hby d2_29) rfl ?_
          show Steps p.tables e below (s₁.setTop (mkF m 30 #[.val (.int p0), .val (.int (((p0.toUInt32 >>> ((9 : Int32) &&& 31).toUInt32).toInt32) &&& (3 : Int32)))] [(.int (((p0.toUInt32 >>> ((9 : Int32) &&& 31).toUInt32).toInt32) &&& (3 : Int32)))])) _
          refine XS.iconst X0.here hx rfl (hb hby d2_30) ?_
          exact kt
        refine Got.ite (q := ((((p0.toUInt32 >>> ((9 : Int32) &&& 31).toUInt32).toInt32) &&& (3 : Int32)) = (2 : Int32))) (fun hc4 => ?_) (fun hc4 => ?_)
        · refine Got.step (T' := s₁) (g' := (mkF m 35 #[.val (.int p0), .val (.int (((p0.toUInt32 >>> ((9 : Int32) &&& 31).toUInt32).toInt32) &&& (3 : Int32)))] [(.int (0 : Int32))])) (fun tq kt => ?_) ?_
          · show Steps p.tables e below (s₁.setTop (mkF m 31 #[.val (.int p0), .val (.int (((p0.toUInt32 >>> ((9 : Int32) &&& 31).toUInt32).toInt32) &&& (3 : Int32)))] [(.int (2 : Int32)), (.int (((p0.toUInt32 >>> ((9 : Int32) &&& 31).toUInt32).toInt32) &&& (3 : Int32)))])) _
            refine XS.icmpNo X0.here hx rfl (hb hby d2_31) rfl (XT.ii_ne_f hc4) ?_
            show Steps p.tables e below (s₁.setTop (mkF m 34 #[.val (.int p0), .val (.int (((p0.toUInt32 >>> ((9 : Int32) &&& 31).toUInt32).toInt32) &&& (3 : Int32)))] [])) _
            refine XS.iconst X0.here hx rfl (hb hby d2_34) ?_
            exact kt
          exact Got.retN (y := (0 : Int32)) (t := .byte) X0 hx Bd.returns (by simp) hlk (hb hby d2_35) (by decide) ⟨N0, e0⟩ (by decide) (by decide)
        · refine Got.step (T' := s₁) (g' := (mkF m 38 #[.val (.int p0), .val (.int (((p0.toUInt32 >>> ((9 : Int32) &&& 31).toUInt32).toInt32) &&& (3 : Int32)))] [(.int (60 : Int32))])) (fun tq kt => ?_) ?_
          · show Steps p.tables e below (s₁.setTop (mkF m 31 #[.val (.int p0), .val (.int (((p0.toUInt32 >>> ((9 : Int32) &&& 31).toUInt32).toInt32) &&& (3 : Int32)))] [(.int (2 : Int32)), (.int (((p0.toUInt32 >>> ((9 : Int32) &&& 31).toUInt32).toInt32) &&& (3 : Int32)))])) _
            refine XS.icmpYes X0.here hx rfl (pc0 := 31) (pc' := 36) rfl (hb hby d2_31) rfl (XT.ii_ne_t hc4) (by decide) (by decide) ?_
            show Steps p.tables e below (s₁.setTop (mkF m 36 #[.val (.int p0), .val (.int (((p0.toUInt32 >>> ((9 : Int32) &&& 31).toUInt32).toInt32) &&& (3 : Int32)))] [])) _
            refine XS.bipush X0.here hx rfl (hb hby d2_36) ?_
            exact kt
          exact Got.retN (y := (60 : Int32)) (t := .byte) X0 hx Bd.returns (by simp) hlk (hb hby d2_38) (by decide) ⟨N0, e0⟩ (by decide) (by decide)
theorem own_pick (x : Int32) : nar .byte (f2 x) = f2 x ∧ fits .byte (.int (f2 x)) = true := by
  unfold f2
  split
  · exact ⟨narB _, fits_nar_byte _⟩
  · split
    · exact ⟨by decide, by decide⟩
    · split
      · exact ⟨by decide, by decide⟩
      · split
        · exact ⟨by decide, by decide⟩
        · exact ⟨by decide, by decide⟩
def f1_71 (n : Int32) (b0 : Int32) (b1 : Int32) (u8 : Addr) (be : Addr) (le : Addr)  : Addr := (if (b0 &&& (255 : Int32)) = (60 : Int32) then (if (b1 &&& (255 : Int32)) = 0 then le else u8) else u8)
def f1_57 (n : Int32) (b0 : Int32) (b1 : Int32) (u8 : Addr) (be : Addr) (le : Addr)  : Addr := (if (b0 &&& (255 : Int32)) = (255 : Int32) then (if (b1 &&& (255 : Int32)) = (254 : Int32) then le else (f1_71 n b0 b1 u8 be le )) else (f1_71 n b0 b1 u8 be le ))
def f1_50 (n : Int32) (b0 : Int32) (b1 : Int32) (u8 : Addr) (be : Addr) (le : Addr)  : Addr := be
def f1_40 (n : Int32) (b0 : Int32) (b1 : Int32) (u8 : Addr) (be : Addr) (le : Addr)  : Addr := (if (b0 &&& (255 : Int32)) = 0 then (if (b1 &&& (255 : Int32)) = (60 : Int32) then (f1_50 n b0 b1 u8 be le ) else (f1_57 n b0 b1 u8 be le )) else (f1_57 n b0 b1 u8 be le ))
def f1 (n : Int32) (b0 : Int32) (b1 : Int32) (u8 : Addr) (be : Addr) (le : Addr)  : Addr := (if n < (2 : Int32) then u8 else (if (b0 &&& (255 : Int32)) = (254 : Int32) then (if (b1 &&& (255 : Int32)) = (255 : Int32) then (f1_50 n b0 b1 u8 be le ) else (f1_40 n b0 b1 u8 be le )) else (f1_40 n b0 b1 u8 be le )))
theorem ef_1 (m : MethodId) (x0 : Addr) : entryFrame m #[(.ref x0)] 4 = mkF m 0 #[.val (.ref x0), .unset, .unset, .unset] [] := by first | (simp [entryFrame, mkF, argsToLocals, Value.category]; done) | rfl
theorem pn_1 : plainName "com/example/treegraft/treegraft/xml/Encoding" = true := by first | (simp [plainName, overriddenIn]; done) | decide +kernel
theorem d1_0 : decode prog_141_method_5_code 0 = .ok (.getstatic 3, 3) := by decide +kernel
theorem d1_3 : decode prog_141_method_5_code 3 = .ok (.astore_n 1, 1) := by decide +kernel
theorem d1_4 : decode prog_141_method_5_code 4 = .ok (.aload_n 0, 1) := by decide +kernel
theorem d1_5 : decode prog_141_method_5_code 5 = .ok (.arraylength, 1) := by decide +kernel
theorem d1_6 : decode prog_141_method_5_code 6 = .ok (.iconst 2, 1) := by decide +kernel
theorem d1_7 : decode prog_141_method_5_code 7 = .ok (.if_icmp .lt 78, 3) := by decide +kernel
theorem d1_10 : decode prog_141_method_5_code 10 = .ok (.aload_n 0, 1) := by decide +kernel
theorem d1_11 : decode prog_141_method_5_code 11 = .ok (.iconst 0, 1) := by decide +kernel
theorem d1_12 : decode prog_141_method_5_code 12 = .ok (.baload, 1) := by decide +kernel
theorem d1_13 : decode prog_141_method_5_code 13 = .ok (.sipush 255, 3) := by decide +kernel
theorem d1_16 : decode prog_141_method_5_code 16 = .ok (.iand, 1) := by decide +kernel
theorem d1_17 : decode prog_141_method_5_code 17 = .ok (.istore_n 2, 1) := by decide +kernel
theorem d1_18 : decode prog_141_method_5_code 18 = .ok (.aload_n 0, 1) := by decide +kernel
theorem d1_19 : decode prog_141_method_5_code 19 = .ok (.iconst 1, 1) := by decide +kernel
theorem d1_20 : decode prog_141_method_5_code 20 = .ok (.baload, 1) := by decide +kernel
theorem d1_21 : decode prog_141_method_5_code 21 = .ok (.sipush 255, 3) := by decide +kernel
theorem d1_24 : decode prog_141_method_5_code 24 = .ok (.iand, 1) := by decide +kernel
theorem d1_25 : decode prog_141_method_5_code 25 = .ok (.istore_n 3, 1) := by decide +kernel
theorem d1_26 : decode prog_141_method_5_code 26 = .ok (.iload_n 2, 1) := by decide +kernel
theorem d1_27 : decode prog_141_method_5_code 27 = .ok (.sipush 254, 3) := by decide +kernel
theorem d1_30 : decode prog_141_method_5_code 30 = .ok (.if_icmp .ne 10, 3) := by decide +kernel
theorem d1_33 : decode prog_141_method_5_code 33 = .ok (.iload_n 3, 1) := by decide +kernel
theorem d1_34 : decode prog_141_method_5_code 34 = .ok (.sipush 255, 3) := by decide +kernel
theorem d1_37 : decode prog_141_method_5_code 37 = .ok (.if_icmp .eq 13, 3) := by decide +kernel
theorem d1_40 : decode prog_141_method_5_code 40 = .ok (.iload_n 2, 1) := by decide +kernel
theorem d1_41 : decode prog_141_method_5_code 41 = .ok (.ifCond .ne 16, 3) := by decide +kernel
theorem d1_44 : decode prog_141_method_5_code 44 = .ok (.iload_n 3, 1) := by decide +kernel
theorem d1_45 : decode prog_141_method_5_code 45 = .ok (.bipush 60, 2) := by decide +kernel
theorem d1_47 : decode prog_141_method_5_code 47 = .ok (.if_icmp .ne 10, 3) := by decide +kernel
theorem d1_50 : decode prog_141_method_5_code 50 = .ok (.getstatic 7, 3) := by decide +kernel
theorem d1_53 : decode prog_141_method_5_code 53 = .ok (.astore_n 1, 1) := by decide +kernel
theorem d1_54 : decode prog_141_method_5_code 54 = .ok (.goto 31, 3) := by decide +kernel
theorem d1_57 : decode prog_141_method_5_code 57 = .ok (.iload_n 2, 1) := by decide +kernel
theorem d1_58 : decode prog_141_method_5_code 58 = .ok (.sipush 255, 3) := by decide +kernel
theorem d1_61 : decode prog_141_method_5_code 61 = .ok (.if_icmp .ne 10, 3) := by decide +kernel
theorem d1_64 : decode prog_141_method_5_code 64 = .ok (.iload_n 3, 1) := by decide +kernel
theorem d1_65 : decode prog_141_method_5_code 65 = .ok (.sipush 254, 3) := by decide +kernel
theorem d1_68 : decode prog_141_method_5_code 68 = .ok (.if_icmp .eq 13, 3) := by decide +kernel
theorem d1_71 : decode prog_141_method_5_code 71 = .ok (.iload_n 2, 1) := by decide +kernel
theorem d1_72 : decode prog_141_method_5_code 72 = .ok (.bipush 60, 2) := by decide +kernel
theorem d1_74 : decode prog_141_method_5_code 74 = .ok (.if_icmp .ne 11, 3) := by decide +kernel
theorem d1_77 : decode prog_141_method_5_code 77 = .ok (.iload_n 3, 1) := by decide +kernel
theorem d1_78 : decode prog_141_method_5_code 78 = .ok (.ifCond .ne 7, 3) := by decide +kernel
theorem d1_81 : decode prog_141_method_5_code 81 = .ok (.getstatic 10, 3) := by decide +kernel
theorem d1_84 : decode prog_141_method_5_code 84 = .ok (.astore_n 1, 1) := by decide +kernel
theorem d1_85 : decode prog_141_method_5_code 85 = .ok (.aload_n 1, 1) := by decide +kernel
theorem d1_86 : decode prog_141_method_5_code 86 = .ok (.areturn, 1) := by decide +kernel
set_option maxRecDepth 65536 in
set_option maxHeartbeats 40000000 in
theorem rm1 (l : Launch) (Z : State) (a0 : Array Value) (hw : ∀ d ∈ tables_1, d.before a0 Z = true) (ws : List Jvm.Cond) (o0 : Addr) (n : Int32) (b0 : Int32) (b1 : Int32) (u8 : Addr) (be : Addr) (le : Addr) (b2 : Int32) (kc : ClassId) (h0 : Heap) (n0 : Nat) (Z0 : n0 ≤ h0.size) (V0 : Arv Z h0 o0 kc .byte n [(.int b0), (.int b1), (.int b2)] (.int (0 : Int32))) (S_UTF_8 : Sta Z h0 "com/example/treegraft/treegraft/xml/Encoding" "UTF_8" "Lcom/example/treegraft/treegraft/xml/Encoding;" (.ref u8)) (S_UTF_16BE : Sta Z h0 "com/example/treegraft/treegraft/xml/Encoding" "UTF_16BE" "Lcom/example/treegraft/treegraft/xml/Encoding;" (.ref be)) (S_UTF_16LE : Sta Z h0 "com/example/treegraft/treegraft/xml/Encoding" "UTF_16LE" "Lcom/example/treegraft/treegraft/xml/Encoding;" (.ref le)) :
    MetFree l (⟨"com/example/treegraft/treegraft/xml/Encoding", "detect", "([B)Lcom/example/treegraft/treegraft/xml/Encoding;"⟩ : MethodName) (head1 (Jvm.Cond.code (⟨"com/example/treegraft/treegraft/xml/Encoding", "detect", "([B)Lcom/example/treegraft/treegraft/xml/Encoding;"⟩ : MethodName) prog_141_method_5_code 4 (some (.object "com/example/treegraft/treegraft/xml/Encoding")) :: ws) ({ frames := 0, cells := 0, slots := 0, locals := 0 } : Room)) (fun a U => a = #[(.ref o0)] ∧ Z.Warmed39 U.vm ∧ U.heap = h0) (fun _ _ _ _ _ => True) (fun _ U o U' => ∃ v L, o = .returned v ∧ QV (some (.ref (f1 n b0 b1 u8 be le))) (PureP n0 h0) v U'.heap L ∧ FrameEnd U o U' L ({ frames := 0, cells := 0, slots := 0, locals := 0 } : Room).cells ({ frames := 0, cells := 0, slots := 0, locals := 0 } : Room).slots) := by
  refine MetFree.of_bodySF (plainFor_of_name pn_1) hisR ?_
  intro p e s m args below meth c s₁ Bd hml0 hP hK
  obtain ⟨rfl, hZ, hh⟩ := hP
  have hx := Bd.exec
  have hby := Bd.bytes
  have hml : c.maxLocals = 4 := hml0
  have hown : s.vm.findClass "com/example/treegraft/treegraft/xml/Encoding" = some m.cls := findClass_of_methodNamed Bd.named
  have hnm := (name_of_methodNamed Bd.named Bd.method).1
  have hlk : meth.locks = false := BodyLoose.notSynchronized Bd
  have X0 : Stand p l e ({ frames := 0, cells := 0, slots := 0, locals := 0 } : Room) s m #[(.ref o0)] below meth c s₁ [] 0 0 := Stand.of_body Bd
  have e0 : s₁.heap = h0 := by rw [← hh, Bd.state]; rfl
  have N0 := Fr.nil n0
  refine Got.body (ef_1 m o0) ?_
  have J71 : ∀ (T_71 : State) (L_71 : List Loc), Stand p l e ({ frames := 0, cells := 0, slots := 0, locals := 0 } : Room) s m #[(.ref o0)] below meth c T_71 L_71 0 0 → T_71.heap = h0 → Fr n0 L_71 → Got p e below s (PureP n0 h0) 0 0 (some (.ref (f1_71 n b0 b1 u8 be le ))) T_71 (mkF m 71 #[.val (.ref o0), .val (.ref u8), .val (.int (b0 &&& (255 : Int32))), .val (.int (b1 &&& (255 : Int32)))] []) := by
    intro T_71 L_71 X_71 e_71 N_71 
    refine Got.step (T' := T_71) (g' := (mkF m 74 #[.val (.ref o0), .val (.ref u8), .val (.int (b0 &&& (255 : Int32))), .val (.int (b1 &&& (255 : Int32)))] [(.int (60 : Int32)), (.int (b0 &&& (255 : Int32)))])) (fun tq kt => ?_) ?_
    · show Steps p.tables e below (T_71.setTop (mkF m 71 #[.val (.ref o0), .val (.ref u8), .val (.int (b0 &&& (255 : Int32))), .val (.int (b1 &&& (255 : Int32)))] [])) _
      refine XS.iloadN X_71.here hx rfl (hb hby d1_71) rfl ?_
      show Steps p.tables e below (T_71.setTop (mkF m 72 #[.val (.ref o0), .val (.ref u8), .val (.int (b0 &&& (255 : Int32))), .val (.int (b1 &&& (255 : Int32)))] [(.int (b0 &&& (255 : Int32)))])) _
      refine XS.bipush X_71.here hx rfl (hb hby d1_72) ?_
      exact kt
    refine Got.iteR (q := ((b0 &&& (255 : Int32)) = (60 : Int32))) (fun hc18 => ?_) (fun hc18 => ?_)
    · refine Got.step (T' := T_71) (g' := (mkF m 78 #[.val (.ref o0), .val (.ref u8), .val (.int (b0 &&& (255 : Int32))), .val (.int (b1 &&& (255 : Int32)))] [(.int (b1 &&& (255 : Int32)))])) (fun tq kt => ?_) ?_
      · show Steps p.tables e below (T_71.setTop (mkF m 74 #[.val (.ref o0), .val (.ref u8), .val (.int (b0 &&& (255 : Int32))), .val (.int (b1 &&& (255 : Int32)))] [(.int (60 : Int32)), (.int (b0 &&& (255 : Int32)))])) _
        refine XS.icmpNo X_71.here hx rfl (hb hby d1_74) rfl (XT.ii_ne_f hc18) ?_
        show Steps p.tables e below (T_71.setTop (mkF m 77 #[.val (.ref o0), .val (.ref u8), .val (.int (b0 &&& (255 : Int32))), .val (.int (b1 &&& (255 : Int32)))] [])) _
        refine XS.iloadN X_71.here hx rfl (hb hby d1_77) rfl ?_
        exact kt
      refine Got.iteR (q := ((b1 &&& (255 : Int32)) = 0)) (fun hc19 => ?_) (fun hc19 => ?_)
      · refine Got.step (T' := T_71) (g' := (mkF m 81 #[.val (.ref o0), .val (.ref u8), .val (.int (b0 &&& (255 : Int32))), .val (.int (b1 &&& (255 : Int32)))] [])) (fun tq kt => ?_) ?_
        · show Steps p.tables e below (T_71.setTop (mkF m 78 #[.val (.ref o0), .val (.ref u8), .val (.int (b0 &&& (255 : Int32))), .val (.int (b1 &&& (255 : Int32)))] [(.int (b1 &&& (255 : Int32)))])) _
          refine XS.ifNo X_71.here hx rfl (hb hby d1_78) rfl (XT.i0_ne_f hc19) ?_
          exact kt
        obtain ⟨T20, X20, e20, st20⟩ := getS2 X_71 hx hZ hown (host := "") (Or.inl (hw _ (List.mem_of_getElem? (i := 17) rfl))) Via.refl e_71 S_UTF_16LE (g := (mkF m 81 #[.val (.ref o0), .val (.ref u8), .val (.int (b0 &&& (255 : Int32))), .val (.int (b1 &&& (255 : Int32)))] [])) rfl (hb hby d1_81)
        refine Got.step st20 ?_
        show Got p e below s _ _ _ _ T20 (mkF m 84 #[.val (.ref o0), .val (.ref u8), .val (.int (b0 &&& (255 : Int32))), .val (.int (b1 &&& (255 : Int32)))] [(.ref le)])
        refine Got.step (T' := T20) (g' := (mkF m 86 #[.val (.ref o0), .val (.ref le), .val (.int (b0 &&& (255 : Int32))), .val (.int (b1 &&& (255 : Int32)))] [(.ref le)])) (fun tq kt => ?_) ?_
        · show Steps p.tables e below (T20.setTop (mkF m 84 #[.val (.ref o0), .val (.ref u8), .val (.int (b0 &&& (255 : Int32))), .val (.int (b1 &&& (255 : Int32)))] [(.ref le)])) _
          refine XS.astoreN X20.here hx rfl (hb hby d1_84) rfl rfl (l' := #[.val (.ref o0), .val (.ref le), .val (.int (b0 &&& (255 : Int32))), .val (.int (b1 &&& (255 : Int32)))]) rfl ?_
          show Steps p.tables e below (T20.setTop (mkF m 85 #[.val (.ref o0), .val (.ref le), .val (.int (b0 &&& (255 : Int32))), .val (.int (b1 &&& (255 : Int32)))] [])) _
          refine XS.aloadN X20.here hx rfl (hb hby d1_85) rfl rfl ?_
          exact kt
        exact Got.retA X20 hx Bd.returns rfl hlk (hb hby d1_86) rfl ⟨N_71, e20⟩ (by decide) (by decide)
      · refine Got.step (T' := T_71) (g' := (mkF m 86 #[.val (.ref o0), .val (.ref u8), .val (.int (b0 &&& (255 : Int32))), .val (.int (b1 &&& (255 : Int32)))] [(.ref u8)])) (fun tq kt => ?_) ?_
        · show Steps p.tables e below (T_71.setTop (mkF m 78 #[.val (.ref o0), .val (.ref u8), .val (.int (b0 &&& (255 : Int32))), .val (.int (b1 &&& (255 : Int32)))] [(.int (b1 &&& (255 : Int32)))])) _
          refine XS.ifYes X_71.here hx rfl (pc0 := 78) (pc' := 85) rfl (hb hby d1_78) rfl (XT.i0_ne_t hc19) (by decide) (by decide) ?_
          show Steps p.tables e below (T_71.setTop (mkF m 85 #[.val (.ref o0), .val (.ref u8), .val (.int (b0 &&& (255 : Int32))), .val (.int (b1 &&& (255 : Int32)))] [])) _
          refine XS.aloadN X_71.here hx rfl (hb hby d1_85) rfl rfl ?_
          exact kt
        exact Got.retA X_71 hx Bd.returns rfl hlk (hb hby d1_86) rfl ⟨N_71, e_71⟩ (by decide) (by decide)
    · refine Got.step (T' := T_71) (g' := (mkF m 86 #[.val (.ref o0), .val (.ref u8), .val (.int (b0 &&& (255 : Int32))), .val (.int (b1 &&& (255 : Int32)))] [(.ref u8)])) (fun tq kt => ?_) ?_
      · show Steps p.tables e below (T_71.setTop (mkF m 74 #[.val (.ref o0), .val (.ref u8), .val (.int (b0 &&& (255 : Int32))), .val (.int (b1 &&& (255 : Int32)))] [(.int (60 : Int32)), (.int (b0 &&& (255 : Int32)))])) _
        refine XS.icmpYes X_71.here hx rfl (pc0 := 74) (pc' := 85) rfl (hb hby d1_74) rfl (XT.ii_ne_t hc18) (by decide) (by decide) ?_
        show Steps p.tables e below (T_71.setTop (mkF m 85 #[.val (.ref o0), .val (.ref u8), .val (.int (b0 &&& (255 : Int32))), .val (.int (b1 &&& (255 : Int32)))] [])) _
        refine XS.aloadN X_71.here hx rfl (hb hby d1_85) rfl rfl ?_
        exact kt
      exact Got.retA X_71 hx Bd.returns rfl hlk (hb hby d1_86) rfl ⟨N_71, e_71⟩ (by decide) (by decide)
  have J57 : ∀ (T_57 : State) (L_57 : List Loc), Stand p l e ({ frames := 0, cells := 0, slots := 0, locals := 0 } : Room) s m #[(.ref o0)] below meth c T_57 L_57 0 0 → T_57.heap = h0 → Fr n0 L_57 → Got p e below s (PureP n0 h0) 0 0 (some (.ref (f1_57 n b0 b1 u8 be le ))) T_57 (mkF m 57 #[.val (.ref o0), .val (.ref u8), .val (.int (b0 &&& (255 : Int32))), .val (.int (b1 &&& (255 : Int32)))] []) := by
    intro T_57 L_57 X_57 e_57 N_57 
    refine Got.step (T' := T_57) (g' := (mkF m 61 #[.val (.ref o0), .val (.ref u8), .val (.int (b0 &&& (255 : Int32))), .val (.int (b1 &&& (255 : Int32)))] [(.int (255 : Int32)), (.int (b0 &&& (255 : Int32)))])) (fun tq kt => ?_) ?_
    · show Steps p.tables e below (T_57.setTop (mkF m 57 #[.val (.ref o0), .val (.ref u8), .val (.int (b0 &&& (255 : Int32))), .val (.int (b1 &&& (255 : Int32)))] [])) _
      refine XS.iloadN X_57.here hx rfl (hb hby d1_57) rfl ?_
      show Steps p.tables e below (T_57.setTop (mkF m 58 #[.val (.ref o0), .val (.ref u8), .val (.int (b0 &&& (255 : Int32))), .val (.int (b1 &&& (255 : Int32)))] [(.int (b0 &&& (255 : Int32)))])) _
      refine XS.sipush X_57.here hx rfl (hb hby d1_58) ?_
      exact kt
    refine Got.iteR (q := ((b0 &&& (255 : Int32)) = (255 : Int32))) (fun hc15 => ?_) (fun hc15 => ?_)
    · refine Got.step (T' := T_57) (g' := (mkF m 68 #[.val (.ref o0), .val (.ref u8), .val (.int (b0 &&& (255 : Int32))), .val (.int (b1 &&& (255 : Int32)))] [(.int (254 : Int32)), (.int (b1 &&& (255 : Int32)))])) (fun tq kt => ?_) ?_
      · show Steps p.tables e below (T_57.setTop (mkF m 61 #[.val (.ref o0), .val (.ref u8), .val (.int (b0 &&& (255 : Int32))), .val (.int (b1 &&& (255 : Int32)))] [(.int (255 : Int32)), (.int (b0 &&& (255 : Int32)))])) _
        refine XS.icmpNo X_57.here hx rfl (hb hby d1_61) rfl (XT.ii_ne_f hc15) ?_
        show Steps p.tables e below (T_57.setTop (mkF m 64 #[.val (.ref o0), .val (.ref u8), .val (.int (b0 &&& (255 : Int32))), .val (.int (b1 &&& (255 : Int32)))] [])) _
        refine XS.iloadN X_57.here hx rfl (hb hby d1_64) rfl ?_
        show Steps p.tables e below (T_57.setTop (mkF m 65 #[.val (.ref o0), .val (.ref u8), .val (.int (b0 &&& (255 : Int32))), .val (.int (b1 &&& (255 : Int32)))] [(.int (b1 &&& (255 : Int32)))])) _
        refine XS.sipush X_57.here hx rfl (hb hby d1_65) ?_
        exact kt
      refine Got.iteR (q := ((b1 &&& (255 : Int32)) = (254 : Int32))) (fun hc16 => ?_) (fun hc16 => ?_)
      · refine Got.step (T' := T_57) (g' := (mkF m 81 #[.val (.ref o0), .val (.ref u8), .val (.int (b0 &&& (255 : Int32))), .val (.int (b1 &&& (255 : Int32)))] [])) (fun tq kt => ?_) ?_
        · show Steps p.tables e below (T_57.setTop (mkF m 68 #[.val (.ref o0), .val (.ref u8), .val (.int (b0 &&& (255 : Int32))), .val (.int (b1 &&& (255 : Int32)))] [(.int (254 : Int32)), (.int (b1 &&& (255 : Int32)))])) _
          refine XS.icmpYes X_57.here hx rfl (pc0 := 68) (pc' := 81) rfl (hb hby d1_68) rfl (XT.ii_eq_t hc16) (by decide) (by decide) ?_
          exact kt
        obtain ⟨T17, X17, e17, st17⟩ := getS2 X_57 hx hZ hown (host := "") (Or.inl (hw _ (List.mem_of_getElem? (i := 17) rfl))) Via.refl e_57 S_UTF_16LE (g := (mkF m 81 #[.val (.ref o0), .val (.ref u8), .val (.int (b0 &&& (255 : Int32))), .val (.int (b1 &&& (255 : Int32)))] [])) rfl (hb hby d1_81)
        refine Got.step st17 ?_
        show Got p e below s _ _ _ _ T17 (mkF m 84 #[.val (.ref o0), .val (.ref u8), .val (.int (b0 &&& (255 : Int32))), .val (.int (b1 &&& (255 : Int32)))] [(.ref le)])
        refine Got.step (T' := T17) (g' := (mkF m 86 #[.val (.ref o0), .val (.ref le), .val (.int (b0 &&& (255 : Int32))), .val (.int (b1 &&& (255 : Int32)))] [(.ref le)])) (fun tq kt => ?_) ?_
        · show Steps p.tables e below (T17.setTop (mkF m 84 #[.val (.ref o0), .val (.ref u8), .val (.int (b0 &&& (255 : Int32))), .val (.int (b1 &&& (255 : Int32)))] [(.ref le)])) _
          refine XS.astoreN X17.here hx rfl (hb hby d1_84) rfl rfl (l' := #[.val (.ref o0), .val (.ref le), .val (.int (b0 &&& (255 : Int32))), .val (.int (b1 &&& (255 : Int32)))]) rfl ?_
          show Steps p.tables e below (T17.setTop (mkF m 85 #[.val (.ref o0), .val (.ref le), .val (.int (b0 &&& (255 : Int32))), .val (.int (b1 &&& (255 : Int32)))] [])) _
          refine XS.aloadN X17.here hx rfl (hb hby d1_85) rfl rfl ?_
          exact kt
        exact Got.retA X17 hx Bd.returns rfl hlk (hb hby d1_86) rfl ⟨N_57, e17⟩ (by decide) (by decide)
      · refine Got.step (T' := T_57) (g' := (mkF m 71 #[.val (.ref o0), .val (.ref u8), .val (.int (b0 &&& (255 : Int32))), .val (.int (b1 &&& (255 : Int32)))] [])) (fun tq kt => ?_) ?_
        · show Steps p.tables e below (T_57.setTop (mkF m 68 #[.val (.ref o0), .val (.ref u8), .val (.int (b0 &&& (255 : Int32))), .val (.int (b1 &&& (255 : Int32)))] [(.int (254 : Int32)), (.int (b1 &&& (255 : Int32)))])) _
          refine XS.icmpNo X_57.here hx rfl (hb hby d1_68) rfl (XT.ii_eq_f hc16) ?_
          exact kt
        exact J71 _ _ X_57 e_57 N_57 
    · refine Got.step (T' := T_57) (g' := (mkF m 71 #[.val (.ref o0), .val (.ref u8), .val (.int (b0 &&& (255 : Int32))), .val (.int (b1 &&& (255 : Int32)))] [])) (fun tq kt => ?_) ?_
      · show Steps p.tables e below (T_57.setTop (mkF m 61 #[.val (.ref o0), .val (.ref u8), .val (.int (b0 &&& (255 : Int32))), .val (.int (b1 &&& (255 : Int32)))] [(.int (255 : Int32)), (.int (b0 &&& (255 : Int32)))])) _
        refine XS.icmpYes X_57.here hx rfl (pc0 := 61) (pc' := 71) rfl (hb hby d1_61) rfl (XT.ii_ne_t hc15) (by decide) (by decide) ?_
        exact kt
      exact J71 _ _ X_57 e_57 N_57 
  have J50 : ∀ (T_50 : State) (L_50 : List Loc), Stand p l e ({ frames := 0, cells := 0, slots := 0, locals := 0 } : Room) s m #[(.ref o0)] below meth c T_50 L_50 0 0 → T_50.heap = h0 → Fr n0 L_50 → Got p e below s (PureP n0 h0) 0 0 (some (.ref (f1_50 n b0 b1 u8 be le ))) T_50 (mkF m 50 #[.val (.ref o0), .val (.ref u8), .val (.int (b0 &&& (255 : Int32))), .val (.int (b1 &&& (255 : Int32)))] []) := by
    intro T_50 L_50 X_50 e_50 N_50 
    obtain ⟨T14, X14, e14, st14⟩ := getS2 X_50 hx hZ hown (host := "") (Or.inl (hw _ (List.mem_of_getElem? (i := 14) rfl))) Via.refl e_50 S_UTF_16BE (g := (mkF m 50 #[.val (.ref o0), .val (.ref u8), .val (.int (b0 &&& (255 : Int32))), .val (.int (b1 &&& (255 : Int32)))] [])) rfl (hb hby d1_50)
    refine Got.step st14 ?_
    show Got p e below s _ _ _ _ T14 (mkF m 53 #[.val (.ref o0), .val (.ref u8), .val (.int (b0 &&& (255 : Int32))), .val (.int (b1 &&& (255 : Int32)))] [(.ref be)])
    refine Got.step (T' := T14) (g' := (mkF m 86 #[.val (.ref o0), .val (.ref be), .val (.int (b0 &&& (255 : Int32))), .val (.int (b1 &&& (255 : Int32)))] [(.ref be)])) (fun tq kt => ?_) ?_
    · show Steps p.tables e below (T14.setTop (mkF m 53 #[.val (.ref o0), .val (.ref u8), .val (.int (b0 &&& (255 : Int32))), .val (.int (b1 &&& (255 : Int32)))] [(.ref be)])) _
      refine XS.astoreN X14.here hx rfl (hb hby d1_53) rfl rfl (l' := #[.val (.ref o0), .val (.ref be), .val (.int (b0 &&& (255 : Int32))), .val (.int (b1 &&& (255 : Int32)))]) rfl ?_
      show Steps p.tables e below (T14.setTop (mkF m 54 #[.val (.ref o0), .val (.ref be), .val (.int (b0 &&& (255 : Int32))), .val (.int (b1 &&& (255 : Int32)))] [])) _
      refine XS.goto X14.here hx rfl (pc0 := 54) (pc' := 85) rfl (hb hby d1_54) (by decide) (by decide) ?_
      show Steps p.tables e below (T14.setTop (mkF m 85 #[.val (.ref o0), .val (.ref be), .val (.int (b0 &&& (255 : Int32))), .val (.int (b1 &&& (255 : Int32)))] [])) _
      refine XS.aloadN X14.here hx rfl (hb hby d1_85) rfl rfl ?_
      exact kt
    exact Got.retA X14 hx Bd.returns rfl hlk (hb hby d1_86) rfl ⟨N_50, e14⟩ (by decide) (by decide)
  have J40 : ∀ (T_40 : State) (L_40 : List Loc), Stand p l e ({ frames := 0, cells := 0, slots := 0, locals := 0 } : Room) s m #[(.ref o0)] below meth c T_40 L_40 0 0 → T_40.heap = h0 → Fr n0 L_40 → Got p e below s (PureP n0 h0) 0 0 (some (.ref (f1_40 n b0 b1 u8 be le ))) T_40 (mkF m 40 #[.val (.ref o0), .val (.ref u8), .val (.int (b0 &&& (255 : Int32))), .val (.int (b1 &&& (255 : Int32)))] []) := by
    intro T_40 L_40 X_40 e_40 N_40 
    refine Got.step (T' := T_40) (g' := (mkF m 41 #[.val (.ref o0), .val (.ref u8), .val (.int (b0 &&& (255 : Int32))), .val (.int (b1 &&& (255 : Int32)))] [(.int (b0 &&& (255 : Int32)))])) (fun tq kt => ?_) ?_
    · show Steps p.tables e below (T_40.setTop (mkF m 40 #[.val (.ref o0), .val (.ref u8), .val (.int (b0 &&& (255 : Int32))), .val (.int (b1 &&& (255 : Int32)))] [])) _
      refine XS.iloadN X_40.here hx rfl (hb hby d1_40) rfl ?_
      exact kt
    refine Got.iteR (q := ((b0 &&& (255 : Int32)) = 0)) (fun hc12 => ?_) (fun hc12 => ?_)
    · refine Got.step (T' := T_40) (g' := (mkF m 47 #[.val (.ref o0), .val (.ref u8), .val (.int (b0 &&& (255 : Int32))), .val (.int (b1 &&& (255 : Int32)))] [(.int (60 : Int32)), (.int (b1 &&& (255 : Int32)))])) (fun tq kt => ?_) ?_
      · show Steps p.tables e below (T_40.setTop (mkF m 41 #[.val (.ref o0), .val (.ref u8), .val (.int (b0 &&& (255 : Int32))), .val (.int (b1 &&& (255 : Int32)))] [(.int (b0 &&& (255 : Int32)))])) _
        refine XS.ifNo X_40.here hx rfl (hb hby d1_41) rfl (XT.i0_ne_f hc12) ?_
        show Steps p.tables e below (T_40.setTop (mkF m 44 #[.val (.ref o0), .val (.ref u8), .val (.int (b0 &&& (255 : Int32))), .val (.int (b1 &&& (255 : Int32)))] [])) _
        refine XS.iloadN X_40.here hx rfl (hb hby d1_44) rfl ?_
        show Steps p.tables e below (T_40.setTop (mkF m 45 #[.val (.ref o0), .val (.ref u8), .val (.int (b0 &&& (255 : Int32))), .val (.int (b1 &&& (255 : Int32)))] [(.int (b1 &&& (255 : Int32)))])) _
        refine XS.bipush X_40.here hx rfl (hb hby d1_45) ?_
        exact kt
      refine Got.iteR (q := ((b1 &&& (255 : Int32)) = (60 : Int32))) (fun hc13 => ?_) (fun hc13 => ?_)
      · refine Got.step (T' := T_40) (g' := (mkF m 50 #[.val (.ref o0), .val (.ref u8), .val (.int (b0 &&& (255 : Int32))), .val (.int (b1 &&& (255 : Int32)))] [])) (fun tq kt => ?_) ?_
        · show Steps p.tables e below (T_40.setTop (mkF m 47 #[.val (.ref o0), .val (.ref u8), .val (.int (b0 &&& (255 : Int32))), .val (.int (b1 &&& (255 : Int32)))] [(.int (60 : Int32)), (.int (b1 &&& (255 : Int32)))])) _
          refine XS.icmpNo X_40.here hx rfl (hb hby d1_47) rfl (XT.ii_ne_f hc13) ?_
          exact kt
        exact J50 _ _ X_40 e_40 N_40 
      · refine Got.step (T' := T_40) (g' := (mkF m 57 #[.val (.ref o0), .val (.ref u8), .val (.int (b0 &&& (255 : Int32))), .val (.int (b1 &&& (255 : Int32)))] [])) (fun tq kt => ?_) ?_
        · show Steps p.tables e below (T_40.setTop (mkF m 47 #[.val (.ref o0), .val (.ref u8), .val (.int (b0 &&& (255 : Int32))), .val (.int (b1 &&& (255 : Int32)))] [(.int (60 : Int32)), (.int (b1 &&& (255 : Int32)))])) _
          refine XS.icmpYes X_40.here hx rfl (pc0 := 47) (pc' := 57) rfl (hb hby d1_47) rfl (XT.ii_ne_t hc13) (by decide) (by decide) ?_
          exact kt
        exact J57 _ _ X_40 e_40 N_40 
    · refine Got.step (T' := T_40) (g' := (mkF m 57 #[.val (.ref o0), .val (.ref u8), .val (.int (b0 &&& (255 : Int32))), .val (.int (b1 &&& (255 : Int32)))] [])) (fun tq kt => ?_) ?_
      · show Steps p.tables e below (T_40.setTop (mkF m 41 #[.val (.ref o0), .val (.ref u8), .val (.int (b0 &&& (255 : Int32))), .val (.int (b1 &&& (255 : Int32)))] [(.int (b0 &&& (255 : Int32)))])) _
        refine XS.ifYes X_40.here hx rfl (pc0 := 41) (pc' := 57) rfl (hb hby d1_41) rfl (XT.i0_ne_t hc12) (by decide) (by decide) ?_
        exact kt
      exact J57 _ _ X_40 e_40 N_40 
  obtain ⟨T5, X5, e5, st5⟩ := getS2 X0 hx hZ hown (host := "") (Or.inl (hw _ (List.mem_of_getElem? (i := 5) rfl))) Via.refl e0 S_UTF_8 (g := (mkF m 0 #[.val (.ref o0), .unset, .unset, .unset] [])) rfl (hb hby d1_0)
  refine Got.step st5 ?_
  show Got p e below s _ _ _ _ T5 (mkF m 3 #[.val (.ref o0), .unset, .unset, .unset] [(.ref u8)])
  refine Got.step (T' := T5) (g' := (mkF m 5 #[.val (.ref o0), .val (.ref u8), .unset, .unset] [(.ref o0)])) (fun tq kt => ?_) ?_
  · show Steps p.tables e below (T5.setTop (mkF m 3 #[.val (.ref o0), .unset, .unset, .unset] [(.ref u8)])) _
    refine XS.astoreN X5.here hx rfl (hb hby d1_3) rfl rfl (l' := #[.val (.ref o0), .val (.ref u8), .unset, .unset]) rfl ?_
    show Steps p.tables e below (T5.setTop (mkF m 4 #[.val (.ref o0), .val (.ref u8), .unset, .unset] [])) _
    refine XS.aloadN X5.here hx rfl (hb hby d1_4) rfl rfl ?_
    exact kt
  obtain ⟨cl6, Ar6, q6, S6, M6, H6, G6⟩ := (id V0)
  refine Got.step (T' := T5) (fun tq kt => X5.arraylength hx (cell := cl6) (by rw [e5]; exact Ar6.1) (State.isArrayOf_alike hZ.alike Ar6.2.1) (g := (mkF m 5 #[.val (.ref o0), .val (.ref u8), .unset, .unset] [(.ref o0)])) rfl (rest := []) rfl (hb hby d1_5) tq kt) ?_
  rw [len_of S6 M6]
  show Got p e below s _ _ _ _ T5 (mkF m 6 #[.val (.ref o0), .val (.ref u8), .unset, .unset] [(.int n)])
  refine Got.step (T' := T5) (g' := (mkF m 7 #[.val (.ref o0), .val (.ref u8), .unset, .unset] [(.int (2 : Int32)), (.int n)])) (fun tq kt => ?_) ?_
  · show Steps p.tables e below (T5.setTop (mkF m 6 #[.val (.ref o0), .val (.ref u8), .unset, .unset] [(.int n)])) _
    refine XS.iconst X5.here hx rfl (hb hby d1_6) ?_
    exact kt
  refine Got.iteR (q := (n < (2 : Int32))) (fun hc7 => ?_) (fun hc7 => ?_)
  · refine Got.step (T' := T5) (g' := (mkF m 86 #[.val (.ref o0), .val (.ref u8), .unset, .unset] [(.ref u8)])) (fun tq kt => ?_) ?_
    · show Steps p.tables e below (T5.setTop (mkF m 7 #[.val (.ref o0), .val (.ref u8), .unset, .unset] [(.int (2 : Int32)), (.int n)])) _
      refine XS.icmpYes X5.here hx rfl (pc0 := 7) (pc' := 85) rfl (hb hby d1_7) rfl (XT.ii_lt_t hc7) (by decide) (by decide) ?_
      show Steps p.tables e below (T5.setTop (mkF m 85 #[.val (.ref o0), .val (.ref u8), .unset, .unset] [])) _
      refine XS.aloadN X5.here hx rfl (hb hby d1_85) rfl rfl ?_
      exact kt
    exact Got.retA X5 hx Bd.returns rfl hlk (hb hby d1_86) rfl ⟨N0, e5⟩ (by decide) (by decide)
  · refine Got.step (T' := T5) (g' := (mkF m 12 #[.val (.ref o0), .val (.ref u8), .unset, .unset] [(.int (0 : Int32)), (.ref o0)])) (fun tq kt => ?_) ?_
    · show Steps p.tables e below (T5.setTop (mkF m 7 #[.val (.ref o0), .val (.ref u8), .unset, .unset] [(.int (2 : Int32)), (.int n)])) _
      refine XS.icmpNo X5.here hx rfl (hb hby d1_7) rfl (XT.ii_lt_f hc7) ?_
      show Steps p.tables e below (T5.setTop (mkF m 10 #[.val (.ref o0), .val (.ref u8), .unset, .unset] [])) _
      refine XS.aloadN X5.here hx rfl (hb hby d1_10) rfl rfl ?_
      show Steps p.tables e below (T5.setTop (mkF m 11 #[.val (.ref o0), .val (.ref u8), .unset, .unset] [(.ref o0)])) _
      refine XS.iconst X5.here hx rfl (hb hby d1_11) ?_
      exact kt
    obtain ⟨cl8, Ar8, q8, S8, M8, H8, G8⟩ := (id V0)
    have hin8 : ¬ ((0 : Int32) < 0 ∨ cl8.slots.size ≤ ((0 : Int32)).toNatClampNeg) := inb_of S8 (own_inb0 hc7)
    refine Got.step (T' := T5) (fun tq kt => X5.baloadBytes hx (j := (0 : Int32)) (v := (.int b0)) (by rw [e5]; exact Ar8.1) (State.isArrayOf_alike hZ.alike Ar8.2.1) Ar8.2.2 hin8 (H8.at hin8 rfl) (g := (mkF m 12 #[.val (.ref o0), .val (.ref u8), .unset, .unset] [(.int (0 : Int32)), (.ref o0)])) rfl rfl (hb hby d1_12) tq kt) ?_
    show Got p e below s _ _ _ _ T5 (mkF m 13 #[.val (.ref o0), .val (.ref u8), .unset, .unset] [(.int b0)])
    refine Got.step (T' := T5) (g' := (mkF m 20 #[.val (.ref o0), .val (.ref u8), .val (.int (b0 &&& (255 : Int32))), .unset] [(.int (1 : Int32)), (.ref o0)])) (fun tq kt => ?_) ?_
    · show Steps p.tables e below (T5.setTop (mkF m 13 #[.val (.ref o0), .val (.ref u8), .unset, .unset] [(.int b0)])) _
      refine XS.sipush X5.here hx rfl (hb hby d1_13) ?_
      show Steps p.tables e below (T5.setTop (mkF m 16 #[.val (.ref o0), .val (.ref u8), .unset, .unset] [(.int (255 : Int32)), (.int b0)])) _
      refine XS.iand X5.here hx rfl (hb hby d1_16) rfl ?_
      show Steps p.tables e below (T5.setTop (mkF m 17 #[.val (.ref o0), .val (.ref u8), .unset, .unset] [(.int (b0 &&& (255 : Int32)))])) _
      refine XS.istoreN X5.here hx rfl (hb hby d1_17) rfl (l' := #[.val (.ref o0), .val (.ref u8), .val (.int (b0 &&& (255 : Int32))), .unset]) rfl ?_
      show Steps p.tables e below (T5.setTop (mkF m 18 #[.val (.ref o0), .val (.ref u8), .val (.int (b0 &&& (255 : Int32))), .unset] [])) _
      refine XS.aloadN X5.here hx rfl (hb hby d1_18) rfl rfl ?_
      show Steps p.tables e below (T5.setTop (mkF m 19 #[.val (.ref o0), .val (.ref u8), .val (.int (b0 &&& (255 : Int32))), .unset] [(.ref o0)])) _
      refine XS.iconst X5.here hx rfl (hb hby d1_19) ?_
      exact kt
    obtain ⟨cl9, Ar9, q9, S9, M9, H9, G9⟩ := (id V0)
    have hin9 : ¬ ((1 : Int32) < 0 ∨ cl9.slots.size ≤ ((1 : Int32)).toNatClampNeg) := inb_of S9 (own_inb2 hc7)
    refine Got.step (T' := T5) (fun tq kt => X5.baloadBytes hx (j := (1 : Int32)) (v := (.int b1)) (by rw [e5]; exact Ar9.1) (State.isArrayOf_alike hZ.alike Ar9.2.1) Ar9.2.2 hin9 (H9.at hin9 rfl) (g := (mkF m 20 #[.val (.ref o0), .val (.ref u8), .val (.int (b0 &&& (255 : Int32))), .unset] [(.int (1 : Int32)), (.ref o0)])) rfl rfl (hb hby d1_20) tq kt) ?_
    show Got p e below s _ _ _ _ T5 (mkF m 21 #[.val (.ref o0), .val (.ref u8), .val (.int (b0 &&& (255 : Int32))), .unset] [(.int b1)])
    refine Got.step (T' := T5) (g' := (mkF m 30 #[.val (.ref o0), .val (.ref u8), .val (.int (b0 &&& (255 : Int32))), .val (.int (b1 &&& (255 : Int32)))] [(.int (254 : Int32)), (.int (b0 &&& (255 : Int32)))])) (fun tq kt => ?_) ?_
    · show Steps p.tables e below (T5.setTop (mkF m 21 #[.val (.ref o0), .val (.ref u8), .val (.int (b0 &&& (255 : Int32))), .unset] [(.int b1)])) _
      refine XS.sipush X5.here hx rfl (hb hby d1_21) ?_
      show Steps p.tables e below (T5.setTop (mkF m 24 #[.val (.ref o0), .val (.ref u8), .val (.int (b0 &&& (255 : Int32))), .unset] [(.int (255 : Int32)), (.int b1)])) _
      refine XS.iand X5.here hx rfl (hb hby d1_24) rfl ?_
      show Steps p.tables e below (T5.setTop (mkF m 25 #[.val (.ref o0), .val (.ref u8), .val (.int (b0 &&& (255 : Int32))), .unset] [(.int (b1 &&& (255 : Int32)))])) _
      refine XS.istoreN X5.here hx rfl (hb hby d1_25) rfl (l' := #[.val (.ref o0), .val (.ref u8), .val (.int (b0 &&& (255 : Int32))), .val (.int (b1 &&& (255 : Int32)))]) rfl ?_
      show Steps p.tables e below (T5.setTop (mkF m 26 #[.val (.ref o0), .val (.ref u8), .val (.int (b0 &&& (255 : Int32))), .val (.int (b1 &&& (255 : Int32)))] [])) _
      refine XS.iloadN X5.here hx rfl (hb hby d1_26) rfl ?_
      show Steps p.tables e below (T5.setTop (mkF m 27 #[.val (.ref o0), .val (.ref u8), .val (.int (b0 &&& (255 : Int32))), .val (.int (b1 &&& (255 : Int32)))] [(.int (b0 &&& (255 : Int32)))])) _
      refine XS.sipush X5.here hx rfl (hb hby d1_27) ?_
      exact kt
    refine Got.iteR (q := ((b0 &&& (255 : Int32)) = (254 : Int32))) (fun hc10 => ?_) (fun hc10 => ?_)
    · refine Got.step (T' := T5) (g' := (mkF m 37 #[.val (.ref o0), .val (.ref u8), .val (.int (b0 &&& (255 : Int32))), .val (.int (b1 &&& (255 : Int32)))] [(.int (255 : Int32)), (.int (b1 &&& (255 : Int32)))])) (fun tq kt => ?_) ?_
      · show Steps p.tables e below (T5.setTop (mkF m 30 #[.val (.ref o0), .val (.ref u8), .val (.int (b0 &&& (255 : Int32))), .val (.int (b1 &&& (255 : Int32)))] [(.int (254 : Int32)), (.int (b0 &&& (255 : Int32)))])) _
        refine XS.icmpNo X5.here hx rfl (hb hby d1_30) rfl (XT.ii_ne_f hc10) ?_
        show Steps p.tables e below (T5.setTop (mkF m 33 #[.val (.ref o0), .val (.ref u8), .val (.int (b0 &&& (255 : Int32))), .val (.int (b1 &&& (255 : Int32)))] [])) _
        refine XS.iloadN X5.here hx rfl (hb hby d1_33) rfl ?_
        show Steps p.tables e below (T5.setTop (mkF m 34 #[.val (.ref o0), .val (.ref u8), .val (.int (b0 &&& (255 : Int32))), .val (.int (b1 &&& (255 : Int32)))] [(.int (b1 &&& (255 : Int32)))])) _
        refine XS.sipush X5.here hx rfl (hb hby d1_34) ?_
        exact kt
      refine Got.iteR (q := ((b1 &&& (255 : Int32)) = (255 : Int32))) (fun hc11 => ?_) (fun hc11 => ?_)
      · refine Got.step (T' := T5) (g' := (mkF m 50 #[.val (.ref o0), .val (.ref u8), .val (.int (b0 &&& (255 : Int32))), .val (.int (b1 &&& (255 : Int32)))] [])) (fun tq kt => ?_) ?_
        · show Steps p.tables e below (T5.setTop (mkF m 37 #[.val (.ref o0), .val (.ref u8), .val (.int (b0 &&& (255 : Int32))), .val (.int (b1 &&& (255 : Int32)))] [(.int (255 : Int32)), (.int (b1 &&& (255 : Int32)))])) _
          refine XS.icmpYes X5.here hx rfl (pc0 := 37) (pc' := 50) rfl (hb hby d1_37) rfl (XT.ii_eq_t hc11) (by decide) (by decide) ?_
          exact kt
        exact J50 _ _ X5 e5 N0 
      · refine Got.step (T' := T5) (g' := (mkF m 40 #[.val (.ref o0), .val (.ref u8), .val (.int (b0 &&& (255 : Int32))), .val (.int (b1 &&& (255 : Int32)))] [])) (fun tq kt => ?_) ?_
        · show Steps p.tables e below (T5.setTop (mkF m 37 #[.val (.ref o0), .val (.ref u8), .val (.int (b0 &&& (255 : Int32))), .val (.int (b1 &&& (255 : Int32)))] [(.int (255 : Int32)), (.int (b1 &&& (255 : Int32)))])) _
          refine XS.icmpNo X5.here hx rfl (hb hby d1_37) rfl (XT.ii_eq_f hc11) ?_
          exact kt
        exact J40 _ _ X5 e5 N0 
    · refine Got.step (T' := T5) (g' := (mkF m 40 #[.val (.ref o0), .val (.ref u8), .val (.int (b0 &&& (255 : Int32))), .val (.int (b1 &&& (255 : Int32)))] [])) (fun tq kt => ?_) ?_
      · show Steps p.tables e below (T5.setTop (mkF m 30 #[.val (.ref o0), .val (.ref u8), .val (.int (b0 &&& (255 : Int32))), .val (.int (b1 &&& (255 : Int32)))] [(.int (254 : Int32)), (.int (b0 &&& (255 : Int32)))])) _
        refine XS.icmpYes X5.here hx rfl (pc0 := 30) (pc' := 40) rfl (hb hby d1_30) rfl (XT.ii_ne_t hc10) (by decide) (by decide) ?_
        exact kt
      exact J40 _ _ X5 e5 N0 
theorem own_n0 (p : Int32) : ¬ (p &&& (3 : Int32)) < 0 := by
  have h := c_and p 3 (by decide)
  rw [Int32.lt_iff_toInt_lt]
  have z : (0 : Int32).toInt = 0 := rfl
  omega
theorem own_n3 (p : Int32) : (p &&& (3 : Int32)).toNatClampNeg ≤ 3 := by
  have h := c_and p 3 (by decide)
  have z : (3 : Int32).toInt = 3 := rfl
  rw [Int32.toNatClampNeg]
  omega
theorem own_key (a b : Int32) (ha : 0 ≤ a.toInt ∧ a.toInt ≤ 255) (hb : 0 ≤ b.toInt ∧ b.toInt ≤ 255) : ((a <<< ((8 : Int32) &&& 31)) ||| b).toInt = a.toInt * 256 + b.toInt := by
  have s := c_ishl a 8 8 (by decide)
  have r1 := Int32.le_toInt (a <<< ((8 : Int32) &&& 31))
  have r2 := Int32.toInt_lt (a <<< ((8 : Int32) &&& 31))
  have e : (a <<< ((8 : Int32) &&& 31)).toInt = a.toInt * 256 := by omega
  have o := c_or (a <<< ((8 : Int32) &&& 31)) b 8 (by decide) 256 (by decide) (by omega) hb.1 (by omega)
  have r3 := Int32.le_toInt ((a <<< ((8 : Int32) &&& 31)) ||| b)
  have r4 := Int32.toInt_lt ((a <<< ((8 : Int32) &&& 31)) ||| b)
  omega
theorem own_eq (p k : Int32) : p = k ↔ p.toInt = k.toInt := Int32.toInt_inj.symm
theorem own_fin {n b0 b1 : Int32} {u8 be le v : Addr} (hv : v = (if n < (2 : Int32) then u8 else (if (((b0 &&& (255 : Int32)) <<< ((8 : Int32) &&& 31)) ||| (b1 &&& (255 : Int32))) = (65279 : Int32) then be else (if (((b0 &&& (255 : Int32)) <<< ((8 : Int32) &&& 31)) ||| (b1 &&& (255 : Int32))) = (60 : Int32) then be else (if (((b0 &&& (255 : Int32)) <<< ((8 : Int32) &&& 31)) ||| (b1 &&& (255 : Int32))) = (65534 : Int32) then le else (if (((b0 &&& (255 : Int32)) <<< ((8 : Int32) &&& 31)) ||| (b1 &&& (255 : Int32))) = (15360 : Int32) then le else u8)))))) :
    Value.ref (f1 n b0 b1 u8 be le) = Value.ref v := by
  have za : (255 : Int32).toInt = 255 := rfl
  have ha := c_and b0 255 (by decide)
  have hb := c_and b1 255 (by decide)
  rw [za] at ha hb
  have k := own_key (b0 &&& 255) (b1 &&& 255) ha hb
  rw [hv]
  congr 1
  unfold f1 f1_50 f1_40 f1_57 f1_71
  by_cases h : n < (2 : Int32)
  · rw [if_pos h, if_pos h]
  · rw [if_neg h, if_neg h]
    simp only [own_eq (b0 &&& (255 : Int32)), own_eq (b1 &&& (255 : Int32)), own_eq (((b0 &&& (255 : Int32)) <<< ((8 : Int32) &&& 31)) ||| (b1 &&& (255 : Int32))), k, show (254 : Int32).toInt = 254 from rfl, show (255 : Int32).toInt = 255 from rfl, show (60 : Int32).toInt = 60 from rfl, show (0 : Int32).toInt = 0 from rfl, show (65279 : Int32).toInt = 65279 from rfl, show (65534 : Int32).toInt = 65534 from rfl, show (15360 : Int32).toInt = 15360 from rfl]
    generalize (b0 &&& (255 : Int32)).toInt = x at *
    generalize (b1 &&& (255 : Int32)).toInt = y at *
    clear hv k
    repeat' split
    all_goals first | rfl | (exfalso; omega)

theorem pd_0 : parseMethodDescriptor "(I)B" = some ⟨[.int], some .byte⟩ := by decide +kernel
theorem pd_1 : parseMethodDescriptor "([B)Lcom/example/treegraft/treegraft/xml/Encoding;" = some ⟨[(.array .byte)], some (.object "com/example/treegraft/treegraft/xml/Encoding")⟩ := by decide +kernel
theorem ef_0 (m : MethodId) (x0 : Int32) (x1 : Int32) (x2 : Int32) (x3 : Int32) : entryFrame m #[(.int x0), (.int x1), (.int x2), (.int x3)] maxLocals = mkF m 0 #[.val (.int x0), .val (.int x1), .val (.int x2), .val (.int x3), .unset, .unset, .unset, .unset, .unset] [] := by first | (simp [entryFrame, mkF, argsToLocals, Value.category, maxLocals]; done) | rfl
set_option maxRecDepth 65536 in
set_option maxHeartbeats 40000000 in
theorem rm0 (l : Launch) (Z : State) (a0 : Array Value) (hw : ∀ d ∈ tables_1, d.before a0 Z = true) (ws : List Jvm.Cond) (p0 p1 p2 p3 : Int32) (u8 be le : Addr) (h0 : Heap) (n0 : Nat) (Z0 : n0 ≤ h0.size) (S_UTF_8 : Sta Z h0 "com/example/treegraft/treegraft/xml/Encoding" "UTF_8" "Lcom/example/treegraft/treegraft/xml/Encoding;" (.ref u8)) (S_UTF_16BE : Sta Z h0 "com/example/treegraft/treegraft/xml/Encoding" "UTF_16BE" "Lcom/example/treegraft/treegraft/xml/Encoding;" (.ref be)) (S_UTF_16LE : Sta Z h0 "com/example/treegraft/treegraft/xml/Encoding" "UTF_16LE" "Lcom/example/treegraft/treegraft/xml/Encoding;" (.ref le)) :
    MetFree l x (head1 (Jvm.Cond.code x code maxLocals ret :: ws) room_1) (fun a U => a = #[(.int p0), (.int p1), (.int p2), (.int p3)] ∧ Z.Warmed39 U.vm ∧ U.heap = h0) (fun _ _ _ _ _ => True) (fun _ U o U' => ∃ v L, o = .returned v ∧ QV (some (.int (1 : Int32))) (fun _ L => Fr n0 L) v U'.heap L ∧ FrameEnd U o U' L room_1.cells room_1.slots) := by
  refine MetFree.of_bodySF (plainFor_of_name pn_0) hisR ?_
  intro p e s m args below meth c s₁ Bd hml0 hP hK
  obtain ⟨rfl, hZ, hh⟩ := hP
  have hx := Bd.exec
  have hby := Bd.bytes
  have hml : c.maxLocals = 9 := hml0
  have hown : s.vm.findClass "com/example/treegraft/treegraft/xml/EncodingDetectPinLaw" = some m.cls := findClass_of_methodNamed Bd.named
  have hnm := (name_of_methodNamed Bd.named Bd.method).1
  have hlk : meth.locks = false := BodyLoose.notSynchronized Bd
  have X0 : Stand p l e room_1 s m #[(.int p0), (.int p1), (.int p2), (.int p3)] below meth c s₁ [] 0 0 := Stand.of_body Bd
  have e0 : s₁.heap = h0 := by rw [← hh, Bd.state]; rfl
  have N0 := Fr.nil n0
  refine Got.body (ef_0 m p0 p1 p2 p3) ?_
  refine Got.step (T' := s₁) (g' := (mkF m 7 #[.val (.int p0), .val (.int p1), .val (.int p2), .val (.int p3), .val (.int (p0 &&& (3 : Int32))), .unset, .unset, .unset, .unset] [(.int (p0 &&& (3 : Int32)))])) (fun tq kt => ?_) ?_
  · show Steps p.tables e below (s₁.setTop (mkF m 0 #[.val (.int p0), .val (.int p1), .val (.int p2), .val (.int p3), .unset, .unset, .unset, .unset, .unset] [])) _
    refine XS.iloadN X0.here hx rfl (hb hby at_0) rfl ?_
    show Steps p.tables e below (s₁.setTop (mkF m 1 #[.val (.int p0), .val (.int p1), .val (.int p2), .val (.int p3), .unset, .unset, .unset, .unset, .unset] [(.int p0)])) _
    refine XS.iconst X0.here hx rfl (hb hby at_1) ?_
    show Steps p.tables e below (s₁.setTop (mkF m 2 #[.val (.int p0), .val (.int p1), .val (.int p2), .val (.int p3), .unset, .unset, .unset, .unset, .unset] [(.int (3 : Int32)), (.int p0)])) _
    refine XS.iand X0.here hx rfl (hb hby at_2) rfl ?_
    show Steps p.tables e below (s₁.setTop (mkF m 3 #[.val (.int p0), .val (.int p1), .val (.int p2), .val (.int p3), .unset, .unset, .unset, .unset, .unset] [(.int (p0 &&& (3 : Int32)))])) _
    refine XS.istore X0.here hx rfl (hb hby at_3) rfl (l' := #[.val (.int p0), .val (.int p1), .val (.int p2), .val (.int p3), .val (.int (p0 &&& (3 : Int32))), .unset, .unset, .unset, .unset]) rfl ?_
    show Steps p.tables e below (s₁.setTop (mkF m 5 #[.val (.int p0), .val (.int p1), .val (.int p2), .val (.int p3), .val (.int (p0 &&& (3 : Int32))), .unset, .unset, .unset, .unset] [])) _
    refine XS.iload X0.here hx rfl (hb hby at_5) rfl ?_
    exact kt
  obtain ⟨T21, h21, k21, X21, e21, E21, A21, st21⟩ := newP X0 hx hZ (hw _ (List.mem_of_getElem? (i := 0) rfl)) e0 (g := (mkF m 7 #[.val (.int p0), .val (.int p1), .val (.int p2), .val (.int p3), .val (.int (p0 &&& (3 : Int32))), .unset, .unset, .unset, .unset] [(.int (p0 &&& (3 : Int32)))])) rfl (hb hby at_7) rfl (own_n0 p0) (cap := 3) (own_n3 p0) (by decide) (by decide) (by decide)
  obtain ⟨b21, g21⟩ : ∃ z, z = h0.size := ⟨_, rfl⟩
  rw [← g21] at A21 st21
  have gn_b21 : n0 ≤ b21 := by rw [g21]; exact Z0
  have Z0_22 : n0 ≤ h21.size := (Nat.le_trans Z0 E21.1)
  have S_UTF_23 : Sta Z h21 "com/example/treegraft/treegraft/xml/Encoding" "UTF_8" "Lcom/example/treegraft/treegraft/xml/Encoding;" (.ref u8) := (S_UTF_8.ext E21)
  have S_UTF_16BE_24 : Sta Z h21 "com/example/treegraft/treegraft/xml/Encoding" "UTF_16BE" "Lcom/example/treegraft/treegraft/xml/Encoding;" (.ref be) := (S_UTF_16BE.ext E21)
  have S_UTF_16LE_25 : Sta Z h21 "com/example/treegraft/treegraft/xml/Encoding" "UTF_16LE" "Lcom/example/treegraft/treegraft/xml/Encoding;" (.ref le) := (S_UTF_16LE.ext E21)
  have V21 : Arv Z h21 b21 k21 .byte (p0 &&& (3 : Int32)) [(.int (0 : Int32)), (.int (0 : Int32)), (.int (0 : Int32))] (.int (0 : Int32)) := (Arv.new A21 (own_n0 p0)).pad (pad_rep [] (.int (0 : Int32)) 3)
  refine Got.step st21 ?_
  show Got p e below s _ _ _ _ T21 (mkF m 9 #[.val (.int p0), .val (.int p1), .val (.int p2), .val (.int p3), .val (.int (p0 &&& (3 : Int32))), .unset, .unset, .unset, .unset] [(.ref b21)])
  refine Got.step (T' := T21) (g' := (mkF m 14 #[.val (.int p0), .val (.int p1), .val (.int p2), .val (.int p3), .val (.int (p0 &&& (3 : Int32))), .val (.ref b21), .unset, .unset, .unset] [(.int (1 : Int32)), (.int (p0 &&& (3 : Int32)))])) (fun tq kt => ?_) ?_
  · show Steps p.tables e below (T21.setTop (mkF m 9 #[.val (.int p0), .val (.int p1), .val (.int p2), .val (.int p3), .val (.int (p0 &&& (3 : Int32))), .unset, .unset, .unset, .unset] [(.ref b21)])) _
    refine XS.astore X21.here hx rfl (hb hby at_9) rfl rfl (l' := #[.val (.int p0), .val (.int p1), .val (.int p2), .val (.int p3), .val (.int (p0 &&& (3 : Int32))), .val (.ref b21), .unset, .unset, .unset]) rfl ?_
    show Steps p.tables e below (T21.setTop (mkF m 11 #[.val (.int p0), .val (.int p1), .val (.int p2), .val (.int p3), .val (.int (p0 &&& (3 : Int32))), .val (.ref b21), .unset, .unset, .unset] [])) _
    refine XS.iload X21.here hx rfl (hb hby at_11) rfl ?_
    show Steps p.tables e below (T21.setTop (mkF m 13 #[.val (.int p0), .val (.int p1), .val (.int p2), .val (.int p3), .val (.int (p0 &&& (3 : Int32))), .val (.ref b21), .unset, .unset, .unset] [(.int (p0 &&& (3 : Int32)))])) _
    refine XS.iconst X21.here hx rfl (hb hby at_13) ?_
    exact kt
  have J26 : ∀ (T26 : State) (h26 : Heap) (L26 : List Loc), Stand p l e room_1 s m #[(.int p0), (.int p1), (.int p2), (.int p3)] below meth c T26 L26 1 3 → T26.heap = h26 → Fr n0 L26 → ∀ (y26_b21_0 : Int32), y26_b21_0 = (if (p0 &&& (3 : Int32)) < (1 : Int32) then (0 : Int32) else (f2 p1)) → n0 ≤ h26.size → Sta Z h26 "com/example/treegraft/treegraft/xml/Encoding" "UTF_8" "Lcom/example/treegraft/treegraft/xml/Encoding;" (.ref u8) → Sta Z h26 "com/example/treegraft/treegraft/xml/Encoding" "UTF_16BE" "Lcom/example/treegraft/treegraft/xml/Encoding;" (.ref be) → Sta Z h26 "com/example/treegraft/treegraft/xml/Encoding" "UTF_16LE" "Lcom/example/treegraft/treegraft/xml/Encoding;" (.ref le) → Arv Z h26 b21 k21 .byte (p0 &&& (3 : Int32)) [(.int y26_b21_0), (.int (0 : Int32)), (.int (0 : Int32))] (.int (0 : Int32)) → Got p e below s (fun _ L => Fr n0 L) room_1.cells room_1.slots (some (.int (1 : Int32))) T26 (mkF m 25 #[.val (.int p0), .val (.int p1), .val (.int p2), .val (.int p3), .val (.int (p0 &&& (3 : Int32))), .val (.ref b21), .unset, .unset, .unset] []) := by
    intro T26 h26 L26 X26 e26 N26 y26_b21_0 hy26_b21_0 Z0_34 S_UTF_35 S_UTF_16BE_36 S_UTF_16LE_37 V21_38
    refine Got.step (T' := T26) (g' := (mkF m 28 #[.val (.int p0), .val (.int p1), .val (.int p2), .val (.int p3), .val (.int (p0 &&& (3 : Int32))), .val (.ref b21), .unset, .unset, .unset] [(.int (2 : Int32)), (.int (p0 &&& (3 : Int32)))])) (fun tq kt => ?_) ?_
    · show Steps p.tables e below (T26.setTop (mkF m 25 #[.val (.int p0), .val (.int p1), .val (.int p2), .val (.int p3), .val (.int (p0 &&& (3 : Int32))), .val (.ref b21), .unset, .unset, .unset] [])) _
      refine XS.iload X26.here hx rfl (hb hby at_25) rfl ?_
      show Steps p.tables e below (T26.setTop (mkF m 27 #[.val (.int p0), .val (.int p1), .val (.int p2), .val (.int p3), .val (.int (p0 &&& (3 : Int32))), .val (.ref b21), .unset, .unset, .unset] [(.int (p0 &&& (3 : Int32)))])) _
      refine XS.iconst X26.here hx rfl (hb hby at_27) ?_
      exact kt
    have J39 : ∀ (T39 : State) (h39 : Heap) (L39 : List Loc), Stand p l e room_1 s m #[(.int p0), (.int p1), (.int p2), (.int p3)] below meth c T39 L39 1 3 → T39.heap = h39 → Fr n0 L39 → ∀ (y39_b21_1 : Int32), y39_b21_1 = (if (p0 &&& (3 : Int32)) < (2 : Int32) then (0 : Int32) else (f2 p2)) → n0 ≤ h39.size → Sta Z h39 "com/example/treegraft/treegraft/xml/Encoding" "UTF_8" "Lcom/example/treegraft/treegraft/xml/Encoding;" (.ref u8) → Sta Z h39 "com/example/treegraft/treegraft/xml/Encoding" "UTF_16BE" "Lcom/example/treegraft/treegraft/xml/Encoding;" (.ref be) → Sta Z h39 "com/example/treegraft/treegraft/xml/Encoding" "UTF_16LE" "Lcom/example/treegraft/treegraft/xml/Encoding;" (.ref le) → Arv Z h39 b21 k21 .byte (p0 &&& (3 : Int32)) [(.int y26_b21_0), (.int y39_b21_1), (.int (0 : Int32))] (.int (0 : Int32)) → Got p e below s (fun _ L => Fr n0 L) room_1.cells room_1.slots (some (.int (1 : Int32))) T39 (mkF m 39 #[.val (.int p0), .val (.int p1), .val (.int p2), .val (.int p3), .val (.int (p0 &&& (3 : Int32))), .val (.ref b21), .unset, .unset, .unset] []) := by
      intro T39 h39 L39 X39 e39 N39 y39_b21_1 hy39_b21_1 Z0_47 S_UTF_48 S_UTF_16BE_49 S_UTF_16LE_50 V21_51
      refine Got.step (T' := T39) (g' := (mkF m 42 #[.val (.int p0), .val (.int p1), .val (.int p2), .val (.int p3), .val (.int (p0 &&& (3 : Int32))), .val (.ref b21), .unset, .unset, .unset] [(.int (3 : Int32)), (.int (p0 &&& (3 : Int32)))])) (fun tq kt => ?_) ?_
      · show Steps p.tables e below (T39.setTop (mkF m 39 #[.val (.int p0), .val (.int p1), .val (.int p2), .val (.int p3), .val (.int (p0 &&& (3 : Int32))), .val (.ref b21), .unset, .unset, .unset] [])) _
        refine XS.iload X39.here hx rfl (hb hby at_39) rfl ?_
        show Steps p.tables e below (T39.setTop (mkF m 41 #[.val (.int p0), .val (.int p1), .val (.int p2), .val (.int p3), .val (.int (p0 &&& (3 : Int32))), .val (.ref b21), .unset, .unset, .unset] [(.int (p0 &&& (3 : Int32)))])) _
        refine XS.iconst X39.here hx rfl (hb hby at_41) ?_
        exact kt
      have J52 : ∀ (T52 : State) (h52 : Heap) (L52 : List Loc), Stand p l e room_1 s m #[(.int p0), (.int p1), (.int p2), (.int p3)] below meth c T52 L52 1 3 → T52.heap = h52 → Fr n0 L52 → ∀ (y52_b21_2 : Int32), y52_b21_2 = (if (p0 &&& (3 : Int32)) < (3 : Int32) then (0 : Int32) else (f2 p3)) → n0 ≤ h52.size → Sta Z h52 "com/example/treegraft/treegraft/xml/Encoding" "UTF_8" "Lcom/example/treegraft/treegraft/xml/Encoding;" (.ref u8) → Sta Z h52 "com/example/treegraft/treegraft/xml/Encoding" "UTF_16BE" "Lcom/example/treegraft/treegraft/xml/Encoding;" (.ref be) → Sta Z h52 "com/example/treegraft/treegraft/xml/Encoding" "UTF_16LE" "Lcom/example/treegraft/treegraft/xml/Encoding;" (.ref le) → Arv Z h52 b21 k21 .byte (p0 &&& (3 : Int32)) [(.int y26_b21_0), (.int y39_b21_1), (.int y52_b21_2)] (.int (0 : Int32)) → Got p e below s (fun _ L => Fr n0 L) room_1.cells room_1.slots (some (.int (1 : Int32))) T52 (mkF m 53 #[.val (.int p0), .val (.int p1), .val (.int p2), .val (.int p3), .val (.int (p0 &&& (3 : Int32))), .val (.ref b21), .unset, .unset, .unset] []) := by
        intro T52 h52 L52 X52 e52 N52 y52_b21_2 hy52_b21_2 Z0_60 S_UTF_61 S_UTF_16BE_62 S_UTF_16LE_63 V21_64
        refine Got.step (T' := T52) (g' := (mkF m 55 #[.val (.int p0), .val (.int p1), .val (.int p2), .val (.int p3), .val (.int (p0 &&& (3 : Int32))), .val (.ref b21), .unset, .unset, .unset] [(.ref b21)])) (fun tq kt => ?_) ?_
        · show Steps p.tables e below (T52.setTop (mkF m 53 #[.val (.int p0), .val (.int p1), .val (.int p2), .val (.int p3), .val (.int (p0 &&& (3 : Int32))), .val (.ref b21), .unset, .unset, .unset] [])) _
          refine XS.aload X52.here hx rfl (hb hby at_53) rfl rfl ?_
          exact kt
        obtain ⟨_, _, ⟨T65, L65, k65, n65⟩, -, X65, ⟨Lc65, hQ65, l65, y65, z65⟩, st65⟩ := Jvm.LawKit.callS X52 hx (y := (⟨"com/example/treegraft/treegraft/xml/Encoding", "detect", "([B)Lcom/example/treegraft/treegraft/xml/Encoding;"⟩ : MethodName)) hown (mvT hZ (hw _ (List.mem_of_getElem? (i := 1) rfl))) (mvT hZ (hw _ (List.mem_of_getElem? (i := 2) rfl))) (mvT hZ (hw _ (List.mem_of_getElem? (i := 3) rfl))) (mvT hZ (hw _ (List.mem_of_getElem? (i := 4) rfl))) (by decide) (backOf (W := 0) (rm1 l Z a0 hw [] b21 (p0 &&& (3 : Int32)) y26_b21_0 y39_b21_1 u8 be le y52_b21_2 k21 h52 n0 Z0_60 V21_64 S_UTF_61 S_UTF_16BE_62 S_UTF_16LE_63) hZ (hw _ (List.mem_of_getElem? (i := 4) rfl)) (hw _ (List.mem_of_getElem? (i := 3) rfl)) (by decide) (by decide)) (g := (mkF m 55 #[.val (.int p0), .val (.int p1), .val (.int p2), .val (.int p3), .val (.int (p0 &&& (3 : Int32))), .val (.ref b21), .unset, .unset, .unset] [(.ref b21)])) rfl (by rw [hml]; rfl) (argsL := [(.ref b21)]) (rest := []) (lenOf pd_1 rfl) rfl (by show 2 * 0 + _ ≤ _; exact Nat.le_of_eq rfl) (hb hby at_55) (fun _ _ => ⟨rfl, e52, (by decide : 1 + 0 ≤ _), (by decide : 3 + 0 ≤ _)⟩)
        dsimp only [Pt.U, Pt.locs, Pt.cells, Pt.slots] at X65 l65 y65 z65 st65 hQ65
        subst y65 z65
        obtain ⟨rfl, Nq65, e65⟩ := hQ65
        have N65 : Fr n0 L65 := by rw [l65]; exact Fr.app N52 Nq65
        refine Got.step st65 ?_
        show Got p e below s _ _ _ _ T65 (mkF m 58 #[.val (.int p0), .val (.int p1), .val (.int p2), .val (.int p3), .val (.int (p0 &&& (3 : Int32))), .val (.ref b21), .unset, .unset, .unset] [(.ref (f1 (p0 &&& (3 : Int32)) y26_b21_0 y39_b21_1 u8 be le))])
        refine Got.step (T' := T65) (g' := (mkF m 60 #[.val (.int p0), .val (.int p1), .val (.int p2), .val (.int p3), .val (.int (p0 &&& (3 : Int32))), .val (.ref b21), .val (.ref (f1 (p0 &&& (3 : Int32)) y26_b21_0 y39_b21_1 u8 be le)), .unset, .unset] [])) (fun tq kt => ?_) ?_
        · show Steps p.tables e below (T65.setTop (mkF m 58 #[.val (.int p0), .val (.int p1), .val (.int p2), .val (.int p3), .val (.int (p0 &&& (3 : Int32))), .val (.ref b21), .unset, .unset, .unset] [(.ref (f1 (p0 &&& (3 : Int32)) y26_b21_0 y39_b21_1 u8 be le))])) _
          refine XS.astore X65.here hx rfl (hb hby at_58) rfl rfl (l' := #[.val (.int p0), .val (.int p1), .val (.int p2), .val (.int p3), .val (.int (p0 &&& (3 : Int32))), .val (.ref b21), .val (.ref (f1 (p0 &&& (3 : Int32)) y26_b21_0 y39_b21_1 u8 be le)), .unset, .unset]) rfl ?_
          exact kt
        obtain ⟨T66, X66, e66, st66⟩ := getS2 X65 hx hZ hown (host := "") (Or.inl (hw _ (List.mem_of_getElem? (i := 7) rfl))) Via.refl e65 S_UTF_61 (g := (mkF m 60 #[.val (.int p0), .val (.int p1), .val (.int p2), .val (.int p3), .val (.int (p0 &&& (3 : Int32))), .val (.ref b21), .val (.ref (f1 (p0 &&& (3 : Int32)) y26_b21_0 y39_b21_1 u8 be le)), .unset, .unset] [])) rfl (hb hby at_60)
        refine Got.step st66 ?_
        show Got p e below s _ _ _ _ T66 (mkF m 63 #[.val (.int p0), .val (.int p1), .val (.int p2), .val (.int p3), .val (.int (p0 &&& (3 : Int32))), .val (.ref b21), .val (.ref (f1 (p0 &&& (3 : Int32)) y26_b21_0 y39_b21_1 u8 be le)), .unset, .unset] [(.ref u8)])
        refine Got.step (T' := T66) (g' := (mkF m 68 #[.val (.int p0), .val (.int p1), .val (.int p2), .val (.int p3), .val (.int (p0 &&& (3 : Int32))), .val (.ref b21), .val (.ref (f1 (p0 &&& (3 : Int32)) y26_b21_0 y39_b21_1 u8 be le)), .val (.ref u8), .unset] [(.int (2 : Int32)), (.int (p0 &&& (3 : Int32)))])) (fun tq kt => ?_) ?_
        · show Steps p.tables e below (T66.setTop (mkF m 63 #[.val (.int p0), .val (.int p1), .val (.int p2), .val (.int p3), .val (.int (p0 &&& (3 : Int32))), .val (.ref b21), .val (.ref (f1 (p0 &&& (3 : Int32)) y26_b21_0 y39_b21_1 u8 be le)), .unset, .unset] [(.ref u8)])) _
          refine XS.astore X66.here hx rfl (hb hby at_63) rfl rfl (l' := #[.val (.int p0), .val (.int p1), .val (.int p2), .val (.int p3), .val (.int (p0 &&& (3 : Int32))), .val (.ref b21), .val (.ref (f1 (p0 &&& (3 : Int32)) y26_b21_0 y39_b21_1 u8 be le)), .val (.ref u8), .unset]) rfl ?_
          show Steps p.tables e below (T66.setTop (mkF m 65 #[.val (.int p0), .val (.int p1), .val (.int p2), .val (.int p3), .val (.int (p0 &&& (3 : Int32))), .val (.ref b21), .val (.ref (f1 (p0 &&& (3 : Int32)) y26_b21_0 y39_b21_1 u8 be le)), .val (.ref u8), .unset] [])) _
          refine XS.iload X66.here hx rfl (hb hby at_65) rfl ?_
          show Steps p.tables e below (T66.setTop (mkF m 67 #[.val (.int p0), .val (.int p1), .val (.int p2), .val (.int p3), .val (.int (p0 &&& (3 : Int32))), .val (.ref b21), .val (.ref (f1 (p0 &&& (3 : Int32)) y26_b21_0 y39_b21_1 u8 be le)), .val (.ref u8), .unset] [(.int (p0 &&& (3 : Int32)))])) _
          refine XS.iconst X66.here hx rfl (hb hby at_67) ?_
          exact kt
        have J67 : ∀ (T67 : State) (h67 : Heap) (L67 : List Loc), Stand p l e room_1 s m #[(.int p0), (.int p1), (.int p2), (.int p3)] below meth c T67 L67 1 3 → T67.heap = h67 → Fr n0 L67 → ∀ (v67_7 : Addr), v67_7 = (if (p0 &&& (3 : Int32)) < (2 : Int32) then u8 else (if (((y26_b21_0 &&& (255 : Int32)) <<< ((8 : Int32) &&& 31)) ||| (y39_b21_1 &&& (255 : Int32))) = (65279 : Int32) then be else (if (((y26_b21_0 &&& (255 : Int32)) <<< ((8 : Int32) &&& 31)) ||| (y39_b21_1 &&& (255 : Int32))) = (60 : Int32) then be else (if (((y26_b21_0 &&& (255 : Int32)) <<< ((8 : Int32) &&& 31)) ||| (y39_b21_1 &&& (255 : Int32))) = (65534 : Int32) then le else (if (((y26_b21_0 &&& (255 : Int32)) <<< ((8 : Int32) &&& 31)) ||| (y39_b21_1 &&& (255 : Int32))) = (15360 : Int32) then le else u8))))) → ∀ (v67_8 : Slot), One v67_8 → n0 ≤ h67.size → Sta Z h67 "com/example/treegraft/treegraft/xml/Encoding" "UTF_8" "Lcom/example/treegraft/treegraft/xml/Encoding;" (.ref u8) → Sta Z h67 "com/example/treegraft/treegraft/xml/Encoding" "UTF_16BE" "Lcom/example/treegraft/treegraft/xml/Encoding;" (.ref be) → Sta Z h67 "com/example/treegraft/treegraft/xml/Encoding" "UTF_16LE" "Lcom/example/treegraft/treegraft/xml/Encoding;" (.ref le) → Arv Z h67 b21 k21 .byte (p0 &&& (3 : Int32)) [(.int y26_b21_0), (.int y39_b21_1), (.int y52_b21_2)] (.int (0 : Int32)) → Got p e below s (fun _ L => Fr n0 L) room_1.cells room_1.slots (some (.int (1 : Int32))) T67 (mkF m 135 #[.val (.int p0), .val (.int p1), .val (.int p2), .val (.int p3), .val (.int (p0 &&& (3 : Int32))), .val (.ref b21), .val (.ref (f1 (p0 &&& (3 : Int32)) y26_b21_0 y39_b21_1 u8 be le)), .val (.ref v67_7), v67_8] []) := by
          intro T67 h67 L67 X67 e67 N67 v67_7 hv67_7 v67_8 hv67_8 Z0_79 S_UTF_80 S_UTF_16BE_81 S_UTF_16LE_82 V21_83
          refine Got.step (T' := T67) (g' := (mkF m 147 #[.val (.int p0), .val (.int p1), .val (.int p2), .val (.int p3), .val (.int (p0 &&& (3 : Int32))), .val (.ref b21), .val (.ref (f1 (p0 &&& (3 : Int32)) y26_b21_0 y39_b21_1 u8 be le)), .val (.ref v67_7), v67_8] [(.int (1 : Int32))])) (fun tq kt => ?_) ?_
          · show Steps p.tables e below (T67.setTop (mkF m 135 #[.val (.int p0), .val (.int p1), .val (.int p2), .val (.int p3), .val (.int (p0 &&& (3 : Int32))), .val (.ref b21), .val (.ref (f1 (p0 &&& (3 : Int32)) y26_b21_0 y39_b21_1 u8 be le)), .val (.ref v67_7), v67_8] [])) _
            refine XS.aload X67.here hx rfl (hb hby at_135) rfl rfl ?_
            show Steps p.tables e below (T67.setTop (mkF m 137 #[.val (.int p0), .val (.int p1), .val (.int p2), .val (.int p3), .val (.int (p0 &&& (3 : Int32))), .val (.ref b21), .val (.ref (f1 (p0 &&& (3 : Int32)) y26_b21_0 y39_b21_1 u8 be le)), .val (.ref v67_7), v67_8] [(.ref (f1 (p0 &&& (3 : Int32)) y26_b21_0 y39_b21_1 u8 be le))])) _
            refine XS.aload X67.here hx rfl (hb hby at_137) rfl rfl ?_
            show Steps p.tables e below (T67.setTop (mkF m 139 #[.val (.int p0), .val (.int p1), .val (.int p2), .val (.int p3), .val (.int (p0 &&& (3 : Int32))), .val (.ref b21), .val (.ref (f1 (p0 &&& (3 : Int32)) y26_b21_0 y39_b21_1 u8 be le)), .val (.ref v67_7), v67_8] [(.ref v67_7), (.ref (f1 (p0 &&& (3 : Int32)) y26_b21_0 y39_b21_1 u8 be le))])) _
            refine XT.acmpNo X67.here hx rfl (hb hby at_139) rfl rfl rfl (XT.aa_ne_f (own_fin hv67_7)) ?_
            show Steps p.tables e below (T67.setTop (mkF m 142 #[.val (.int p0), .val (.int p1), .val (.int p2), .val (.int p3), .val (.int (p0 &&& (3 : Int32))), .val (.ref b21), .val (.ref (f1 (p0 &&& (3 : Int32)) y26_b21_0 y39_b21_1 u8 be le)), .val (.ref v67_7), v67_8] [])) _
            refine XS.iconst X67.here hx rfl (hb hby at_142) ?_
            show Steps p.tables e below (T67.setTop (mkF m 143 #[.val (.int p0), .val (.int p1), .val (.int p2), .val (.int p3), .val (.int (p0 &&& (3 : Int32))), .val (.ref b21), .val (.ref (f1 (p0 &&& (3 : Int32)) y26_b21_0 y39_b21_1 u8 be le)), .val (.ref v67_7), v67_8] [(.int (1 : Int32))])) _
            refine XS.goto X67.here hx rfl (pc0 := 143) (pc' := 147) rfl (hb hby at_143) (by decide) (by decide) ?_
            exact kt
          exact Got.retN (y := (1 : Int32)) (t := .boolean) X67 hx Bd.returns (by simp) hlk (hb hby at_147) (by decide) N67 (by decide) (by decide)
        by_cases hc68 : ((p0 &&& (3 : Int32)) < (2 : Int32))
        · refine Got.step (T' := T66) (g' := (mkF m 135 #[.val (.int p0), .val (.int p1), .val (.int p2), .val (.int p3), .val (.int (p0 &&& (3 : Int32))), .val (.ref b21), .val (.ref (f1 (p0 &&& (3 : Int32)) y26_b21_0 y39_b21_1 u8 be le)), .val (.ref u8), .unset] [])) (fun tq kt => ?_) ?_
          · show Steps p.tables e below (T66.setTop (mkF m 68 #[.val (.int p0), .val (.int p1), .val (.int p2), .val (.int p3), .val (.int (p0 &&& (3 : Int32))), .val (.ref b21), .val (.ref (f1 (p0 &&& (3 : Int32)) y26_b21_0 y39_b21_1 u8 be le)), .val (.ref u8), .unset] [(.int (2 : Int32)), (.int (p0 &&& (3 : Int32)))])) _
            refine XS.icmpYes X66.here hx rfl (pc0 := 68) (pc' := 135) rfl (hb hby at_68) rfl (XT.ii_lt_t hc68) (by decide) (by decide) ?_
            exact kt
          exact J67 _ _ _ X66 e66 N65 u8 (if_pos hc68).symm .unset one_unset Z0_60 S_UTF_61 S_UTF_16BE_62 S_UTF_16LE_63 V21_64
        · refine Got.step (T' := T66) (g' := (mkF m 74 #[.val (.int p0), .val (.int p1), .val (.int p2), .val (.int p3), .val (.int (p0 &&& (3 : Int32))), .val (.ref b21), .val (.ref (f1 (p0 &&& (3 : Int32)) y26_b21_0 y39_b21_1 u8 be le)), .val (.ref u8), .unset] [(.int (0 : Int32)), (.ref b21)])) (fun tq kt => ?_) ?_
          · show Steps p.tables e below (T66.setTop (mkF m 68 #[.val (.int p0), .val (.int p1), .val (.int p2), .val (.int p3), .val (.int (p0 &&& (3 : Int32))), .val (.ref b21), .val (.ref (f1 (p0 &&& (3 : Int32)) y26_b21_0 y39_b21_1 u8 be le)), .val (.ref u8), .unset] [(.int (2 : Int32)), (.int (p0 &&& (3 : Int32)))])) _
            refine XS.icmpNo X66.here hx rfl (hb hby at_68) rfl (XT.ii_lt_f hc68) ?_
            show Steps p.tables e below (T66.setTop (mkF m 71 #[.val (.int p0), .val (.int p1), .val (.int p2), .val (.int p3), .val (.int (p0 &&& (3 : Int32))), .val (.ref b21), .val (.ref (f1 (p0 &&& (3 : Int32)) y26_b21_0 y39_b21_1 u8 be le)), .val (.ref u8), .unset] [])) _
            refine XS.aload X66.here hx rfl (hb hby at_71) rfl rfl ?_
            show Steps p.tables e below (T66.setTop (mkF m 73 #[.val (.int p0), .val (.int p1), .val (.int p2), .val (.int p3), .val (.int (p0 &&& (3 : Int32))), .val (.ref b21), .val (.ref (f1 (p0 &&& (3 : Int32)) y26_b21_0 y39_b21_1 u8 be le)), .val (.ref u8), .unset] [(.ref b21)])) _
            refine XS.iconst X66.here hx rfl (hb hby at_73) ?_
            exact kt
          obtain ⟨cl69, Ar69, q69, S69, M69, H69, G69⟩ := (id V21_64)
          have hin69 : ¬ ((0 : Int32) < 0 ∨ cl69.slots.size ≤ ((0 : Int32)).toNatClampNeg) := inb_of S69 (own_inb0 hc68)
          refine Got.step (T' := T66) (fun tq kt => X66.baloadBytes hx (j := (0 : Int32)) (v := (.int y26_b21_0)) (by rw [e66]; exact Ar69.1) (State.isArrayOf_alike hZ.alike Ar69.2.1) Ar69.2.2 hin69 (H69.at hin69 rfl) (g := (mkF m 74 #[.val (.int p0), .val (.int p1), .val (.int p2), .val (.int p3), .val (.int (p0 &&& (3 : Int32))), .val (.ref b21), .val (.ref (f1 (p0 &&& (3 : Int32)) y26_b21_0 y39_b21_1 u8 be le)), .val (.ref u8), .unset] [(.int (0 : Int32)), (.ref b21)])) rfl rfl (hb hby at_74) tq kt) ?_
          show Got p e below s _ _ _ _ T66 (mkF m 75 #[.val (.int p0), .val (.int p1), .val (.int p2), .val (.int p3), .val (.int (p0 &&& (3 : Int32))), .val (.ref b21), .val (.ref (f1 (p0 &&& (3 : Int32)) y26_b21_0 y39_b21_1 u8 be le)), .val (.ref u8), .unset] [(.int y26_b21_0)])
          refine Got.step (T' := T66) (g' := (mkF m 85 #[.val (.int p0), .val (.int p1), .val (.int p2), .val (.int p3), .val (.int (p0 &&& (3 : Int32))), .val (.ref b21), .val (.ref (f1 (p0 &&& (3 : Int32)) y26_b21_0 y39_b21_1 u8 be le)), .val (.ref u8), .unset] [(.int (1 : Int32)), (.ref b21), (.int ((y26_b21_0 &&& (255 : Int32)) <<< ((8 : Int32) &&& 31)))])) (fun tq kt => ?_) ?_
          · show Steps p.tables e below (T66.setTop (mkF m 75 #[.val (.int p0), .val (.int p1), .val (.int p2), .val (.int p3), .val (.int (p0 &&& (3 : Int32))), .val (.ref b21), .val (.ref (f1 (p0 &&& (3 : Int32)) y26_b21_0 y39_b21_1 u8 be le)), .val (.ref u8), .unset] [(.int y26_b21_0)])) _
            refine XS.sipush X66.here hx rfl (hb hby at_75) ?_
            show Steps p.tables e below (T66.setTop (mkF m 78 #[.val (.int p0), .val (.int p1), .val (.int p2), .val (.int p3), .val (.int (p0 &&& (3 : Int32))), .val (.ref b21), .val (.ref (f1 (p0 &&& (3 : Int32)) y26_b21_0 y39_b21_1 u8 be le)), .val (.ref u8), .unset] [(.int (255 : Int32)), (.int y26_b21_0)])) _
            refine XS.iand X66.here hx rfl (hb hby at_78) rfl ?_
            show Steps p.tables e below (T66.setTop (mkF m 79 #[.val (.int p0), .val (.int p1), .val (.int p2), .val (.int p3), .val (.int (p0 &&& (3 : Int32))), .val (.ref b21), .val (.ref (f1 (p0 &&& (3 : Int32)) y26_b21_0 y39_b21_1 u8 be le)), .val (.ref u8), .unset] [(.int (y26_b21_0 &&& (255 : Int32)))])) _
            refine XS.bipush X66.here hx rfl (hb hby at_79) ?_
            show Steps p.tables e below (T66.setTop (mkF m 81 #[.val (.int p0), .val (.int p1), .val (.int p2), .val (.int p3), .val (.int (p0 &&& (3 : Int32))), .val (.ref b21), .val (.ref (f1 (p0 &&& (3 : Int32)) y26_b21_0 y39_b21_1 u8 be le)), .val (.ref u8), .unset] [(.int (8 : Int32)), (.int (y26_b21_0 &&& (255 : Int32)))])) _
            refine XS.ishl X66.here hx rfl (hb hby at_81) rfl ?_
            show Steps p.tables e below (T66.setTop (mkF m 82 #[.val (.int p0), .val (.int p1), .val (.int p2), .val (.int p3), .val (.int (p0 &&& (3 : Int32))), .val (.ref b21), .val (.ref (f1 (p0 &&& (3 : Int32)) y26_b21_0 y39_b21_1 u8 be le)), .val (.ref u8), .unset] [(.int ((y26_b21_0 &&& (255 : Int32)) <<< ((8 : Int32) &&& 31)))])) _
            refine XS.aload X66.here hx rfl (hb hby at_82) rfl rfl ?_
            show Steps p.tables e below (T66.setTop (mkF m 84 #[.val (.int p0), .val (.int p1), .val (.int p2), .val (.int p3), .val (.int (p0 &&& (3 : Int32))), .val (.ref b21), .val (.ref (f1 (p0 &&& (3 : Int32)) y26_b21_0 y39_b21_1 u8 be le)), .val (.ref u8), .unset] [(.ref b21), (.int ((y26_b21_0 &&& (255 : Int32)) <<< ((8 : Int32) &&& 31)))])) _
            refine XS.iconst X66.here hx rfl (hb hby at_84) ?_
            exact kt
          obtain ⟨cl70, Ar70, q70, S70, M70, H70, G70⟩ := (id V21_64)
          have hin70 : ¬ ((1 : Int32) < 0 ∨ cl70.slots.size ≤ ((1 : Int32)).toNatClampNeg) := inb_of S70 (own_inb2 hc68)
          refine Got.step (T' := T66) (fun tq kt => X66.baloadBytes hx (j := (1 : Int32)) (v := (.int y39_b21_1)) (by rw [e66]; exact Ar70.1) (State.isArrayOf_alike hZ.alike Ar70.2.1) Ar70.2.2 hin70 (H70.at hin70 rfl) (g := (mkF m 85 #[.val (.int p0), .val (.int p1), .val (.int p2), .val (.int p3), .val (.int (p0 &&& (3 : Int32))), .val (.ref b21), .val (.ref (f1 (p0 &&& (3 : Int32)) y26_b21_0 y39_b21_1 u8 be le)), .val (.ref u8), .unset] [(.int (1 : Int32)), (.ref b21), (.int ((y26_b21_0 &&& (255 : Int32)) <<< ((8 : Int32) &&& 31)))])) rfl rfl (hb hby at_85) tq kt) ?_
          show Got p e below s _ _ _ _ T66 (mkF m 86 #[.val (.int p0), .val (.int p1), .val (.int p2), .val (.int p3), .val (.int (p0 &&& (3 : Int32))), .val (.ref b21), .val (.ref (f1 (p0 &&& (3 : Int32)) y26_b21_0 y39_b21_1 u8 be le)), .val (.ref u8), .unset] [(.int y39_b21_1), (.int ((y26_b21_0 &&& (255 : Int32)) <<< ((8 : Int32) &&& 31)))])
          refine Got.step (T' := T66) (g' := (mkF m 97 #[.val (.int p0), .val (.int p1), .val (.int p2), .val (.int p3), .val (.int (p0 &&& (3 : Int32))), .val (.ref b21), .val (.ref (f1 (p0 &&& (3 : Int32)) y26_b21_0 y39_b21_1 u8 be le)), .val (.ref u8), .val (.int (((y26_b21_0 &&& (255 : Int32)) <<< ((8 : Int32) &&& 31)) ||| (y39_b21_1 &&& (255 : Int32))))] [(.int (65279 : Int32)), (.int (((y26_b21_0 &&& (255 : Int32)) <<< ((8 : Int32) &&& 31)) ||| (y39_b21_1 &&& (255 : Int32))))])) (fun tq kt => ?_) ?_
          · show Steps p.tables e below (T66.setTop (mkF m 86 #[.val (.int p0), .val (.int p1), .val (.int p2), .val (.int p3), .val (.int (p0 &&& (3 : Int32))), .val (.ref b21), .val (.ref (f1 (p0 &&& (3 : Int32)) y26_b21_0 y39_b21_1 u8 be le)), .val (.ref u8), .unset] [(.int y39_b21_1), (.int ((y26_b21_0 &&& (255 : Int32)) <<< ((8 : Int32) &&& 31)))])) _
            refine XS.sipush X66.here hx rfl (hb hby at_86) ?_
            show Steps p.tables e below (T66.setTop (mkF m 89 #[.val (.int p0), .val (.int p1), .val (.int p2), .val (.int p3), .val (.int (p0 &&& (3 : Int32))), .val (.ref b21), .val (.ref (f1 (p0 &&& (3 : Int32)) y26_b21_0 y39_b21_1 u8 be le)), .val (.ref u8), .unset] [(.int (255 : Int32)), (.int y39_b21_1), (.int ((y26_b21_0 &&& (255 : Int32)) <<< ((8 : Int32) &&& 31)))])) _
            refine XS.iand X66.here hx rfl (hb hby at_89) rfl ?_
            show Steps p.tables e below (T66.setTop (mkF m 90 #[.val (.int p0), .val (.int p1), .val (.int p2), .val (.int p3), .val (.int (p0 &&& (3 : Int32))), .val (.ref b21), .val (.ref (f1 (p0 &&& (3 : Int32)) y26_b21_0 y39_b21_1 u8 be le)), .val (.ref u8), .unset] [(.int (y39_b21_1 &&& (255 : Int32))), (.int ((y26_b21_0 &&& (255 : Int32)) <<< ((8 : Int32) &&& 31)))])) _
            refine XS.ior X66.here hx rfl (hb hby at_90) rfl ?_
            show Steps p.tables e below (T66.setTop (mkF m 91 #[.val (.int p0), .val (.int p1), .val (.int p2), .val (.int p3), .val (.int (p0 &&& (3 : Int32))), .val (.ref b21), .val (.ref (f1 (p0 &&& (3 : Int32)) y26_b21_0 y39_b21_1 u8 be le)), .val (.ref u8), .unset] [(.int (((y26_b21_0 &&& (255 : Int32)) <<< ((8 : Int32) &&& 31)) ||| (y39_b21_1 &&& (255 : Int32))))])) _
            refine XS.istore X66.here hx rfl (hb hby at_91) rfl (l' := #[.val (.int p0), .val (.int p1), .val (.int p2), .val (.int p3), .val (.int (p0 &&& (3 : Int32))), .val (.ref b21), .val (.ref (f1 (p0 &&& (3 : Int32)) y26_b21_0 y39_b21_1 u8 be le)), .val (.ref u8), .val (.int (((y26_b21_0 &&& (255 : Int32)) <<< ((8 : Int32) &&& 31)) ||| (y39_b21_1 &&& (255 : Int32))))]) rfl ?_
            show Steps p.tables e below (T66.setTop (mkF m 93 #[.val (.int p0), .val (.int p1), .val (.int p2), .val (.int p3), .val (.int (p0 &&& (3 : Int32))), .val (.ref b21), .val (.ref (f1 (p0 &&& (3 : Int32)) y26_b21_0 y39_b21_1 u8 be le)), .val (.ref u8), .val (.int (((y26_b21_0 &&& (255 : Int32)) <<< ((8 : Int32) &&& 31)) ||| (y39_b21_1 &&& (255 : Int32))))] [])) _
            refine XS.iload X66.here hx rfl (hb hby at_93) rfl ?_
            show Steps p.tables e below (T66.setTop (mkF m 95 #[.val (.int p0), .val (.int p1), .val (.int p2), .val (.int p3), .val (.int (p0 &&& (3 : Int32))), .val (.ref b21), .val (.ref (f1 (p0 &&& (3 : Int32)) y26_b21_0 y39_b21_1 u8 be le)), .val (.ref u8), .val (.int (((y26_b21_0 &&& (255 : Int32)) <<< ((8 : Int32) &&& 31)) ||| (y39_b21_1 &&& (255 : Int32))))] [(.int (((y26_b21_0 &&& (255 : Int32)) <<< ((8 : Int32) &&& 31)) ||| (y39_b21_1 &&& (255 : Int32))))])) _
            refine X66.ldcI hx hown (mvT hZ (hw _ (List.mem_of_getElem? (i := 12) rfl))) rfl (hb hby at_95) ?_
            exact kt
          by_cases hc71 : ((((y26_b21_0 &&& (255 : Int32)) <<< ((8 : Int32) &&& 31)) ||| (y39_b21_1 &&& (255 : Int32))) = (65279 : Int32))
          · refine Got.step (T' := T66) (g' := (mkF m 107 #[.val (.int p0), .val (.int p1), .val (.int p2), .val (.int p3), .val (.int (p0 &&& (3 : Int32))), .val (.ref b21), .val (.ref (f1 (p0 &&& (3 : Int32)) y26_b21_0 y39_b21_1 u8 be le)), .val (.ref u8), .val (.int (((y26_b21_0 &&& (255 : Int32)) <<< ((8 : Int32) &&& 31)) ||| (y39_b21_1 &&& (255 : Int32))))] [])) (fun tq kt => ?_) ?_
            · show Steps p.tables e below (T66.setTop (mkF m 97 #[.val (.int p0), .val (.int p1), .val (.int p2), .val (.int p3), .val (.int (p0 &&& (3 : Int32))), .val (.ref b21), .val (.ref (f1 (p0 &&& (3 : Int32)) y26_b21_0 y39_b21_1 u8 be le)), .val (.ref u8), .val (.int (((y26_b21_0 &&& (255 : Int32)) <<< ((8 : Int32) &&& 31)) ||| (y39_b21_1 &&& (255 : Int32))))] [(.int (65279 : Int32)), (.int (((y26_b21_0 &&& (255 : Int32)) <<< ((8 : Int32) &&& 31)) ||| (y39_b21_1 &&& (255 : Int32))))])) _
              refine XS.icmpYes X66.here hx rfl (pc0 := 97) (pc' := 107) rfl (hb hby at_97) rfl (XT.ii_eq_t hc71) (by decide) (by decide) ?_
              exact kt
            obtain ⟨T72, X72, e72, st72⟩ := getS2 X66 hx hZ hown (host := "") (Or.inl (hw _ (List.mem_of_getElem? (i := 16) rfl))) Via.refl e66 S_UTF_16BE_62 (g := (mkF m 107 #[.val (.int p0), .val (.int p1), .val (.int p2), .val (.int p3), .val (.int (p0 &&& (3 : Int32))), .val (.ref b21), .val (.ref (f1 (p0 &&& (3 : Int32)) y26_b21_0 y39_b21_1 u8 be le)), .val (.ref u8), .val (.int (((y26_b21_0 &&& (255 : Int32)) <<< ((8 : Int32) &&& 31)) ||| (y39_b21_1 &&& (255 : Int32))))] [])) rfl (hb hby at_107)
            refine Got.step st72 ?_
            show Got p e below s _ _ _ _ T72 (mkF m 110 #[.val (.int p0), .val (.int p1), .val (.int p2), .val (.int p3), .val (.int (p0 &&& (3 : Int32))), .val (.ref b21), .val (.ref (f1 (p0 &&& (3 : Int32)) y26_b21_0 y39_b21_1 u8 be le)), .val (.ref u8), .val (.int (((y26_b21_0 &&& (255 : Int32)) <<< ((8 : Int32) &&& 31)) ||| (y39_b21_1 &&& (255 : Int32))))] [(.ref be)])
            refine Got.step (T' := T72) (g' := (mkF m 135 #[.val (.int p0), .val (.int p1), .val (.int p2), .val (.int p3), .val (.int (p0 &&& (3 : Int32))), .val (.ref b21), .val (.ref (f1 (p0 &&& (3 : Int32)) y26_b21_0 y39_b21_1 u8 be le)), .val (.ref be), .val (.int (((y26_b21_0 &&& (255 : Int32)) <<< ((8 : Int32) &&& 31)) ||| (y39_b21_1 &&& (255 : Int32))))] [])) (fun tq kt => ?_) ?_
            · show Steps p.tables e below (T72.setTop (mkF m 110 #[.val (.int p0), .val (.int p1), .val (.int p2), .val (.int p3), .val (.int (p0 &&& (3 : Int32))), .val (.ref b21), .val (.ref (f1 (p0 &&& (3 : Int32)) y26_b21_0 y39_b21_1 u8 be le)), .val (.ref u8), .val (.int (((y26_b21_0 &&& (255 : Int32)) <<< ((8 : Int32) &&& 31)) ||| (y39_b21_1 &&& (255 : Int32))))] [(.ref be)])) _
              refine XS.astore X72.here hx rfl (hb hby at_110) rfl rfl (l' := #[.val (.int p0), .val (.int p1), .val (.int p2), .val (.int p3), .val (.int (p0 &&& (3 : Int32))), .val (.ref b21), .val (.ref (f1 (p0 &&& (3 : Int32)) y26_b21_0 y39_b21_1 u8 be le)), .val (.ref be), .val (.int (((y26_b21_0 &&& (255 : Int32)) <<< ((8 : Int32) &&& 31)) ||| (y39_b21_1 &&& (255 : Int32))))]) rfl ?_
              show Steps p.tables e below (T72.setTop (mkF m 112 #[.val (.int p0), .val (.int p1), .val (.int p2), .val (.int p3), .val (.int (p0 &&& (3 : Int32))), .val (.ref b21), .val (.ref (f1 (p0 &&& (3 : Int32)) y26_b21_0 y39_b21_1 u8 be le)), .val (.ref be), .val (.int (((y26_b21_0 &&& (255 : Int32)) <<< ((8 : Int32) &&& 31)) ||| (y39_b21_1 &&& (255 : Int32))))] [])) _
              refine XS.goto X72.here hx rfl (pc0 := 112) (pc' := 135) rfl (hb hby at_112) (by decide) (by decide) ?_
              exact kt
            exact J67 _ _ _ X72 e72 N65 be ((if_neg hc68).trans (if_pos hc71)).symm (.val (.int (((y26_b21_0 &&& (255 : Int32)) <<< ((8 : Int32) &&& 31)) ||| (y39_b21_1 &&& (255 : Int32))))) (one_int _) Z0_60 S_UTF_61 S_UTF_16BE_62 S_UTF_16LE_63 V21_64
          · refine Got.step (T' := T66) (g' := (mkF m 104 #[.val (.int p0), .val (.int p1), .val (.int p2), .val (.int p3), .val (.int (p0 &&& (3 : Int32))), .val (.ref b21), .val (.ref (f1 (p0 &&& (3 : Int32)) y26_b21_0 y39_b21_1 u8 be le)), .val (.ref u8), .val (.int (((y26_b21_0 &&& (255 : Int32)) <<< ((8 : Int32) &&& 31)) ||| (y39_b21_1 &&& (255 : Int32))))] [(.int (60 : Int32)), (.int (((y26_b21_0 &&& (255 : Int32)) <<< ((8 : Int32) &&& 31)) ||| (y39_b21_1 &&& (255 : Int32))))])) (fun tq kt => ?_) ?_
            · show Steps p.tables e below (T66.setTop (mkF m 97 #[.val (.int p0), .val (.int p1), .val (.int p2), .val (.int p3), .val (.int (p0 &&& (3 : Int32))), .val (.ref b21), .val (.ref (f1 (p0 &&& (3 : Int32)) y26_b21_0 y39_b21_1 u8 be le)), .val (.ref u8), .val (.int (((y26_b21_0 &&& (255 : Int32)) <<< ((8 : Int32) &&& 31)) ||| (y39_b21_1 &&& (255 : Int32))))] [(.int (65279 : Int32)), (.int (((y26_b21_0 &&& (255 : Int32)) <<< ((8 : Int32) &&& 31)) ||| (y39_b21_1 &&& (255 : Int32))))])) _
              refine XS.icmpNo X66.here hx rfl (hb hby at_97) rfl (XT.ii_eq_f hc71) ?_
              show Steps p.tables e below (T66.setTop (mkF m 100 #[.val (.int p0), .val (.int p1), .val (.int p2), .val (.int p3), .val (.int (p0 &&& (3 : Int32))), .val (.ref b21), .val (.ref (f1 (p0 &&& (3 : Int32)) y26_b21_0 y39_b21_1 u8 be le)), .val (.ref u8), .val (.int (((y26_b21_0 &&& (255 : Int32)) <<< ((8 : Int32) &&& 31)) ||| (y39_b21_1 &&& (255 : Int32))))] [])) _
              refine XS.iload X66.here hx rfl (hb hby at_100) rfl ?_
              show Steps p.tables e below (T66.setTop (mkF m 102 #[.val (.int p0), .val (.int p1), .val (.int p2), .val (.int p3), .val (.int (p0 &&& (3 : Int32))), .val (.ref b21), .val (.ref (f1 (p0 &&& (3 : Int32)) y26_b21_0 y39_b21_1 u8 be le)), .val (.ref u8), .val (.int (((y26_b21_0 &&& (255 : Int32)) <<< ((8 : Int32) &&& 31)) ||| (y39_b21_1 &&& (255 : Int32))))] [(.int (((y26_b21_0 &&& (255 : Int32)) <<< ((8 : Int32) &&& 31)) ||| (y39_b21_1 &&& (255 : Int32))))])) _
              refine XS.bipush X66.here hx rfl (hb hby at_102) ?_
              exact kt
            by_cases hc73 : ((((y26_b21_0 &&& (255 : Int32)) <<< ((8 : Int32) &&& 31)) ||| (y39_b21_1 &&& (255 : Int32))) = (60 : Int32))
            · refine Got.step (T' := T66) (g' := (mkF m 107 #[.val (.int p0), .val (.int p1), .val (.int p2), .val (.int p3), .val (.int (p0 &&& (3 : Int32))), .val (.ref b21), .val (.ref (f1 (p0 &&& (3 : Int32)) y26_b21_0 y39_b21_1 u8 be le)), .val (.ref u8), .val (.int (((y26_b21_0 &&& (255 : Int32)) <<< ((8 : Int32) &&& 31)) ||| (y39_b21_1 &&& (255 : Int32))))] [])) (fun tq kt => ?_) ?_
              · show Steps p.tables e below (T66.setTop (mkF m 104 #[.val (.int p0), .val (.int p1), .val (.int p2), .val (.int p3), .val (.int (p0 &&& (3 : Int32))), .val (.ref b21), .val (.ref (f1 (p0 &&& (3 : Int32)) y26_b21_0 y39_b21_1 u8 be le)), .val (.ref u8), .val (.int (((y26_b21_0 &&& (255 : Int32)) <<< ((8 : Int32) &&& 31)) ||| (y39_b21_1 &&& (255 : Int32))))] [(.int (60 : Int32)), (.int (((y26_b21_0 &&& (255 : Int32)) <<< ((8 : Int32) &&& 31)) ||| (y39_b21_1 &&& (255 : Int32))))])) _
                refine XS.icmpNo X66.here hx rfl (hb hby at_104) rfl (XT.ii_ne_f hc73) ?_
                exact kt
              obtain ⟨T74, X74, e74, st74⟩ := getS2 X66 hx hZ hown (host := "") (Or.inl (hw _ (List.mem_of_getElem? (i := 16) rfl))) Via.refl e66 S_UTF_16BE_62 (g := (mkF m 107 #[.val (.int p0), .val (.int p1), .val (.int p2), .val (.int p3), .val (.int (p0 &&& (3 : Int32))), .val (.ref b21), .val (.ref (f1 (p0 &&& (3 : Int32)) y26_b21_0 y39_b21_1 u8 be le)), .val (.ref u8), .val (.int (((y26_b21_0 &&& (255 : Int32)) <<< ((8 : Int32) &&& 31)) ||| (y39_b21_1 &&& (255 : Int32))))] [])) rfl (hb hby at_107)
              refine Got.step st74 ?_
              show Got p e below s _ _ _ _ T74 (mkF m 110 #[.val (.int p0), .val (.int p1), .val (.int p2), .val (.int p3), .val (.int (p0 &&& (3 : Int32))), .val (.ref b21), .val (.ref (f1 (p0 &&& (3 : Int32)) y26_b21_0 y39_b21_1 u8 be le)), .val (.ref u8), .val (.int (((y26_b21_0 &&& (255 : Int32)) <<< ((8 : Int32) &&& 31)) ||| (y39_b21_1 &&& (255 : Int32))))] [(.ref be)])
              refine Got.step (T' := T74) (g' := (mkF m 135 #[.val (.int p0), .val (.int p1), .val (.int p2), .val (.int p3), .val (.int (p0 &&& (3 : Int32))), .val (.ref b21), .val (.ref (f1 (p0 &&& (3 : Int32)) y26_b21_0 y39_b21_1 u8 be le)), .val (.ref be), .val (.int (((y26_b21_0 &&& (255 : Int32)) <<< ((8 : Int32) &&& 31)) ||| (y39_b21_1 &&& (255 : Int32))))] [])) (fun tq kt => ?_) ?_
              · show Steps p.tables e below (T74.setTop (mkF m 110 #[.val (.int p0), .val (.int p1), .val (.int p2), .val (.int p3), .val (.int (p0 &&& (3 : Int32))), .val (.ref b21), .val (.ref (f1 (p0 &&& (3 : Int32)) y26_b21_0 y39_b21_1 u8 be le)), .val (.ref u8), .val (.int (((y26_b21_0 &&& (255 : Int32)) <<< ((8 : Int32) &&& 31)) ||| (y39_b21_1 &&& (255 : Int32))))] [(.ref be)])) _
                refine XS.astore X74.here hx rfl (hb hby at_110) rfl rfl (l' := #[.val (.int p0), .val (.int p1), .val (.int p2), .val (.int p3), .val (.int (p0 &&& (3 : Int32))), .val (.ref b21), .val (.ref (f1 (p0 &&& (3 : Int32)) y26_b21_0 y39_b21_1 u8 be le)), .val (.ref be), .val (.int (((y26_b21_0 &&& (255 : Int32)) <<< ((8 : Int32) &&& 31)) ||| (y39_b21_1 &&& (255 : Int32))))]) rfl ?_
                show Steps p.tables e below (T74.setTop (mkF m 112 #[.val (.int p0), .val (.int p1), .val (.int p2), .val (.int p3), .val (.int (p0 &&& (3 : Int32))), .val (.ref b21), .val (.ref (f1 (p0 &&& (3 : Int32)) y26_b21_0 y39_b21_1 u8 be le)), .val (.ref be), .val (.int (((y26_b21_0 &&& (255 : Int32)) <<< ((8 : Int32) &&& 31)) ||| (y39_b21_1 &&& (255 : Int32))))] [])) _
                refine XS.goto X74.here hx rfl (pc0 := 112) (pc' := 135) rfl (hb hby at_112) (by decide) (by decide) ?_
                exact kt
              exact J67 _ _ _ X74 e74 N65 be ((if_neg hc68).trans ((if_neg hc71).trans (if_pos hc73))).symm (.val (.int (((y26_b21_0 &&& (255 : Int32)) <<< ((8 : Int32) &&& 31)) ||| (y39_b21_1 &&& (255 : Int32))))) (one_int _) Z0_60 S_UTF_61 S_UTF_16BE_62 S_UTF_16LE_63 V21_64
            · refine Got.step (T' := T66) (g' := (mkF m 119 #[.val (.int p0), .val (.int p1), .val (.int p2), .val (.int p3), .val (.int (p0 &&& (3 : Int32))), .val (.ref b21), .val (.ref (f1 (p0 &&& (3 : Int32)) y26_b21_0 y39_b21_1 u8 be le)), .val (.ref u8), .val (.int (((y26_b21_0 &&& (255 : Int32)) <<< ((8 : Int32) &&& 31)) ||| (y39_b21_1 &&& (255 : Int32))))] [(.int (65534 : Int32)), (.int (((y26_b21_0 &&& (255 : Int32)) <<< ((8 : Int32) &&& 31)) ||| (y39_b21_1 &&& (255 : Int32))))])) (fun tq kt => ?_) ?_
              · show Steps p.tables e below (T66.setTop (mkF m 104 #[.val (.int p0), .val (.int p1), .val (.int p2), .val (.int p3), .val (.int (p0 &&& (3 : Int32))), .val (.ref b21), .val (.ref (f1 (p0 &&& (3 : Int32)) y26_b21_0 y39_b21_1 u8 be le)), .val (.ref u8), .val (.int (((y26_b21_0 &&& (255 : Int32)) <<< ((8 : Int32) &&& 31)) ||| (y39_b21_1 &&& (255 : Int32))))] [(.int (60 : Int32)), (.int (((y26_b21_0 &&& (255 : Int32)) <<< ((8 : Int32) &&& 31)) ||| (y39_b21_1 &&& (255 : Int32))))])) _
                refine XS.icmpYes X66.here hx rfl (pc0 := 104) (pc' := 115) rfl (hb hby at_104) rfl (XT.ii_ne_t hc73) (by decide) (by decide) ?_
                show Steps p.tables e below (T66.setTop (mkF m 115 #[.val (.int p0), .val (.int p1), .val (.int p2), .val (.int p3), .val (.int (p0 &&& (3 : Int32))), .val (.ref b21), .val (.ref (f1 (p0 &&& (3 : Int32)) y26_b21_0 y39_b21_1 u8 be le)), .val (.ref u8), .val (.int (((y26_b21_0 &&& (255 : Int32)) <<< ((8 : Int32) &&& 31)) ||| (y39_b21_1 &&& (255 : Int32))))] [])) _
                refine XS.iload X66.here hx rfl (hb hby at_115) rfl ?_
                show Steps p.tables e below (T66.setTop (mkF m 117 #[.val (.int p0), .val (.int p1), .val (.int p2), .val (.int p3), .val (.int (p0 &&& (3 : Int32))), .val (.ref b21), .val (.ref (f1 (p0 &&& (3 : Int32)) y26_b21_0 y39_b21_1 u8 be le)), .val (.ref u8), .val (.int (((y26_b21_0 &&& (255 : Int32)) <<< ((8 : Int32) &&& 31)) ||| (y39_b21_1 &&& (255 : Int32))))] [(.int (((y26_b21_0 &&& (255 : Int32)) <<< ((8 : Int32) &&& 31)) ||| (y39_b21_1 &&& (255 : Int32))))])) _
                refine X66.ldcI hx hown (mvT hZ (hw _ (List.mem_of_getElem? (i := 13) rfl))) rfl (hb hby at_117) ?_
                exact kt
              by_cases hc75 : ((((y26_b21_0 &&& (255 : Int32)) <<< ((8 : Int32) &&& 31)) ||| (y39_b21_1 &&& (255 : Int32))) = (65534 : Int32))
              · refine Got.step (T' := T66) (g' := (mkF m 130 #[.val (.int p0), .val (.int p1), .val (.int p2), .val (.int p3), .val (.int (p0 &&& (3 : Int32))), .val (.ref b21), .val (.ref (f1 (p0 &&& (3 : Int32)) y26_b21_0 y39_b21_1 u8 be le)), .val (.ref u8), .val (.int (((y26_b21_0 &&& (255 : Int32)) <<< ((8 : Int32) &&& 31)) ||| (y39_b21_1 &&& (255 : Int32))))] [])) (fun tq kt => ?_) ?_
                · show Steps p.tables e below (T66.setTop (mkF m 119 #[.val (.int p0), .val (.int p1), .val (.int p2), .val (.int p3), .val (.int (p0 &&& (3 : Int32))), .val (.ref b21), .val (.ref (f1 (p0 &&& (3 : Int32)) y26_b21_0 y39_b21_1 u8 be le)), .val (.ref u8), .val (.int (((y26_b21_0 &&& (255 : Int32)) <<< ((8 : Int32) &&& 31)) ||| (y39_b21_1 &&& (255 : Int32))))] [(.int (65534 : Int32)), (.int (((y26_b21_0 &&& (255 : Int32)) <<< ((8 : Int32) &&& 31)) ||| (y39_b21_1 &&& (255 : Int32))))])) _
                  refine XS.icmpYes X66.here hx rfl (pc0 := 119) (pc' := 130) rfl (hb hby at_119) rfl (XT.ii_eq_t hc75) (by decide) (by decide) ?_
                  exact kt
                obtain ⟨T76, X76, e76, st76⟩ := getS2 X66 hx hZ hown (host := "") (Or.inl (hw _ (List.mem_of_getElem? (i := 19) rfl))) Via.refl e66 S_UTF_16LE_63 (g := (mkF m 130 #[.val (.int p0), .val (.int p1), .val (.int p2), .val (.int p3), .val (.int (p0 &&& (3 : Int32))), .val (.ref b21), .val (.ref (f1 (p0 &&& (3 : Int32)) y26_b21_0 y39_b21_1 u8 be le)), .val (.ref u8), .val (.int (((y26_b21_0 &&& (255 : Int32)) <<< ((8 : Int32) &&& 31)) ||| (y39_b21_1 &&& (255 : Int32))))] [])) rfl (hb hby at_130)
                refine Got.step st76 ?_
                show Got p e below s _ _ _ _ T76 (mkF m 133 #[.val (.int p0), .val (.int p1), .val (.int p2), .val (.int p3), .val (.int (p0 &&& (3 : Int32))), .val (.ref b21), .val (.ref (f1 (p0 &&& (3 : Int32)) y26_b21_0 y39_b21_1 u8 be le)), .val (.ref u8), .val (.int (((y26_b21_0 &&& (255 : Int32)) <<< ((8 : Int32) &&& 31)) ||| (y39_b21_1 &&& (255 : Int32))))] [(.ref le)])
                refine Got.step (T' := T76) (g' := (mkF m 135 #[.val (.int p0), .val (.int p1), .val (.int p2), .val (.int p3), .val (.int (p0 &&& (3 : Int32))), .val (.ref b21), .val (.ref (f1 (p0 &&& (3 : Int32)) y26_b21_0 y39_b21_1 u8 be le)), .val (.ref le), .val (.int (((y26_b21_0 &&& (255 : Int32)) <<< ((8 : Int32) &&& 31)) ||| (y39_b21_1 &&& (255 : Int32))))] [])) (fun tq kt => ?_) ?_
                · show Steps p.tables e below (T76.setTop (mkF m 133 #[.val (.int p0), .val (.int p1), .val (.int p2), .val (.int p3), .val (.int (p0 &&& (3 : Int32))), .val (.ref b21), .val (.ref (f1 (p0 &&& (3 : Int32)) y26_b21_0 y39_b21_1 u8 be le)), .val (.ref u8), .val (.int (((y26_b21_0 &&& (255 : Int32)) <<< ((8 : Int32) &&& 31)) ||| (y39_b21_1 &&& (255 : Int32))))] [(.ref le)])) _
                  refine XS.astore X76.here hx rfl (hb hby at_133) rfl rfl (l' := #[.val (.int p0), .val (.int p1), .val (.int p2), .val (.int p3), .val (.int (p0 &&& (3 : Int32))), .val (.ref b21), .val (.ref (f1 (p0 &&& (3 : Int32)) y26_b21_0 y39_b21_1 u8 be le)), .val (.ref le), .val (.int (((y26_b21_0 &&& (255 : Int32)) <<< ((8 : Int32) &&& 31)) ||| (y39_b21_1 &&& (255 : Int32))))]) rfl ?_
                  exact kt
                exact J67 _ _ _ X76 e76 N65 le ((if_neg hc68).trans ((if_neg hc71).trans ((if_neg hc73).trans (if_pos hc75)))).symm (.val (.int (((y26_b21_0 &&& (255 : Int32)) <<< ((8 : Int32) &&& 31)) ||| (y39_b21_1 &&& (255 : Int32))))) (one_int _) Z0_60 S_UTF_61 S_UTF_16BE_62 S_UTF_16LE_63 V21_64
              · refine Got.step (T' := T66) (g' := (mkF m 127 #[.val (.int p0), .val (.int p1), .val (.int p2), .val (.int p3), .val (.int (p0 &&& (3 : Int32))), .val (.ref b21), .val (.ref (f1 (p0 &&& (3 : Int32)) y26_b21_0 y39_b21_1 u8 be le)), .val (.ref u8), .val (.int (((y26_b21_0 &&& (255 : Int32)) <<< ((8 : Int32) &&& 31)) ||| (y39_b21_1 &&& (255 : Int32))))] [(.int (15360 : Int32)), (.int (((y26_b21_0 &&& (255 : Int32)) <<< ((8 : Int32) &&& 31)) ||| (y39_b21_1 &&& (255 : Int32))))])) (fun tq kt => ?_) ?_
                · show Steps p.tables e below (T66.setTop (mkF m 119 #[.val (.int p0), .val (.int p1), .val (.int p2), .val (.int p3), .val (.int (p0 &&& (3 : Int32))), .val (.ref b21), .val (.ref (f1 (p0 &&& (3 : Int32)) y26_b21_0 y39_b21_1 u8 be le)), .val (.ref u8), .val (.int (((y26_b21_0 &&& (255 : Int32)) <<< ((8 : Int32) &&& 31)) ||| (y39_b21_1 &&& (255 : Int32))))] [(.int (65534 : Int32)), (.int (((y26_b21_0 &&& (255 : Int32)) <<< ((8 : Int32) &&& 31)) ||| (y39_b21_1 &&& (255 : Int32))))])) _
                  refine XS.icmpNo X66.here hx rfl (hb hby at_119) rfl (XT.ii_eq_f hc75) ?_
                  show Steps p.tables e below (T66.setTop (mkF m 122 #[.val (.int p0), .val (.int p1), .val (.int p2), .val (.int p3), .val (.int (p0 &&& (3 : Int32))), .val (.ref b21), .val (.ref (f1 (p0 &&& (3 : Int32)) y26_b21_0 y39_b21_1 u8 be le)), .val (.ref u8), .val (.int (((y26_b21_0 &&& (255 : Int32)) <<< ((8 : Int32) &&& 31)) ||| (y39_b21_1 &&& (255 : Int32))))] [])) _
                  refine XS.iload X66.here hx rfl (hb hby at_122) rfl ?_
                  show Steps p.tables e below (T66.setTop (mkF m 124 #[.val (.int p0), .val (.int p1), .val (.int p2), .val (.int p3), .val (.int (p0 &&& (3 : Int32))), .val (.ref b21), .val (.ref (f1 (p0 &&& (3 : Int32)) y26_b21_0 y39_b21_1 u8 be le)), .val (.ref u8), .val (.int (((y26_b21_0 &&& (255 : Int32)) <<< ((8 : Int32) &&& 31)) ||| (y39_b21_1 &&& (255 : Int32))))] [(.int (((y26_b21_0 &&& (255 : Int32)) <<< ((8 : Int32) &&& 31)) ||| (y39_b21_1 &&& (255 : Int32))))])) _
                  refine XS.sipush X66.here hx rfl (hb hby at_124) ?_
                  exact kt
                by_cases hc77 : ((((y26_b21_0 &&& (255 : Int32)) <<< ((8 : Int32) &&& 31)) ||| (y39_b21_1 &&& (255 : Int32))) = (15360 : Int32))
                · refine Got.step (T' := T66) (g' := (mkF m 130 #[.val (.int p0), .val (.int p1), .val (.int p2), .val (.int p3), .val (.int (p0 &&& (3 : Int32))), .val (.ref b21), .val (.ref (f1 (p0 &&& (3 : Int32)) y26_b21_0 y39_b21_1 u8 be le)), .val (.ref u8), .val (.int (((y26_b21_0 &&& (255 : Int32)) <<< ((8 : Int32) &&& 31)) ||| (y39_b21_1 &&& (255 : Int32))))] [])) (fun tq kt => ?_) ?_
                  · show Steps p.tables e below (T66.setTop (mkF m 127 #[.val (.int p0), .val (.int p1), .val (.int p2), .val (.int p3), .val (.int (p0 &&& (3 : Int32))), .val (.ref b21), .val (.ref (f1 (p0 &&& (3 : Int32)) y26_b21_0 y39_b21_1 u8 be le)), .val (.ref u8), .val (.int (((y26_b21_0 &&& (255 : Int32)) <<< ((8 : Int32) &&& 31)) ||| (y39_b21_1 &&& (255 : Int32))))] [(.int (15360 : Int32)), (.int (((y26_b21_0 &&& (255 : Int32)) <<< ((8 : Int32) &&& 31)) ||| (y39_b21_1 &&& (255 : Int32))))])) _
                    refine XS.icmpNo X66.here hx rfl (hb hby at_127) rfl (XT.ii_ne_f hc77) ?_
                    exact kt
                  obtain ⟨T78, X78, e78, st78⟩ := getS2 X66 hx hZ hown (host := "") (Or.inl (hw _ (List.mem_of_getElem? (i := 19) rfl))) Via.refl e66 S_UTF_16LE_63 (g := (mkF m 130 #[.val (.int p0), .val (.int p1), .val (.int p2), .val (.int p3), .val (.int (p0 &&& (3 : Int32))), .val (.ref b21), .val (.ref (f1 (p0 &&& (3 : Int32)) y26_b21_0 y39_b21_1 u8 be le)), .val (.ref u8), .val (.int (((y26_b21_0 &&& (255 : Int32)) <<< ((8 : Int32) &&& 31)) ||| (y39_b21_1 &&& (255 : Int32))))] [])) rfl (hb hby at_130)
                  refine Got.step st78 ?_
                  show Got p e below s _ _ _ _ T78 (mkF m 133 #[.val (.int p0), .val (.int p1), .val (.int p2), .val (.int p3), .val (.int (p0 &&& (3 : Int32))), .val (.ref b21), .val (.ref (f1 (p0 &&& (3 : Int32)) y26_b21_0 y39_b21_1 u8 be le)), .val (.ref u8), .val (.int (((y26_b21_0 &&& (255 : Int32)) <<< ((8 : Int32) &&& 31)) ||| (y39_b21_1 &&& (255 : Int32))))] [(.ref le)])
                  refine Got.step (T' := T78) (g' := (mkF m 135 #[.val (.int p0), .val (.int p1), .val (.int p2), .val (.int p3), .val (.int (p0 &&& (3 : Int32))), .val (.ref b21), .val (.ref (f1 (p0 &&& (3 : Int32)) y26_b21_0 y39_b21_1 u8 be le)), .val (.ref le), .val (.int (((y26_b21_0 &&& (255 : Int32)) <<< ((8 : Int32) &&& 31)) ||| (y39_b21_1 &&& (255 : Int32))))] [])) (fun tq kt => ?_) ?_
                  · show Steps p.tables e below (T78.setTop (mkF m 133 #[.val (.int p0), .val (.int p1), .val (.int p2), .val (.int p3), .val (.int (p0 &&& (3 : Int32))), .val (.ref b21), .val (.ref (f1 (p0 &&& (3 : Int32)) y26_b21_0 y39_b21_1 u8 be le)), .val (.ref u8), .val (.int (((y26_b21_0 &&& (255 : Int32)) <<< ((8 : Int32) &&& 31)) ||| (y39_b21_1 &&& (255 : Int32))))] [(.ref le)])) _
                    refine XS.astore X78.here hx rfl (hb hby at_133) rfl rfl (l' := #[.val (.int p0), .val (.int p1), .val (.int p2), .val (.int p3), .val (.int (p0 &&& (3 : Int32))), .val (.ref b21), .val (.ref (f1 (p0 &&& (3 : Int32)) y26_b21_0 y39_b21_1 u8 be le)), .val (.ref le), .val (.int (((y26_b21_0 &&& (255 : Int32)) <<< ((8 : Int32) &&& 31)) ||| (y39_b21_1 &&& (255 : Int32))))]) rfl ?_
                    exact kt
                  exact J67 _ _ _ X78 e78 N65 le ((if_neg hc68).trans ((if_neg hc71).trans ((if_neg hc73).trans ((if_neg hc75).trans (if_pos hc77))))).symm (.val (.int (((y26_b21_0 &&& (255 : Int32)) <<< ((8 : Int32) &&& 31)) ||| (y39_b21_1 &&& (255 : Int32))))) (one_int _) Z0_60 S_UTF_61 S_UTF_16BE_62 S_UTF_16LE_63 V21_64
                · refine Got.step (T' := T66) (g' := (mkF m 135 #[.val (.int p0), .val (.int p1), .val (.int p2), .val (.int p3), .val (.int (p0 &&& (3 : Int32))), .val (.ref b21), .val (.ref (f1 (p0 &&& (3 : Int32)) y26_b21_0 y39_b21_1 u8 be le)), .val (.ref u8), .val (.int (((y26_b21_0 &&& (255 : Int32)) <<< ((8 : Int32) &&& 31)) ||| (y39_b21_1 &&& (255 : Int32))))] [])) (fun tq kt => ?_) ?_
                  · show Steps p.tables e below (T66.setTop (mkF m 127 #[.val (.int p0), .val (.int p1), .val (.int p2), .val (.int p3), .val (.int (p0 &&& (3 : Int32))), .val (.ref b21), .val (.ref (f1 (p0 &&& (3 : Int32)) y26_b21_0 y39_b21_1 u8 be le)), .val (.ref u8), .val (.int (((y26_b21_0 &&& (255 : Int32)) <<< ((8 : Int32) &&& 31)) ||| (y39_b21_1 &&& (255 : Int32))))] [(.int (15360 : Int32)), (.int (((y26_b21_0 &&& (255 : Int32)) <<< ((8 : Int32) &&& 31)) ||| (y39_b21_1 &&& (255 : Int32))))])) _
                    refine XS.icmpYes X66.here hx rfl (pc0 := 127) (pc' := 135) rfl (hb hby at_127) rfl (XT.ii_ne_t hc77) (by decide) (by decide) ?_
                    exact kt
                  exact J67 _ _ _ X66 e66 N65 u8 ((if_neg hc68).trans ((if_neg hc71).trans ((if_neg hc73).trans ((if_neg hc75).trans (if_neg hc77))))).symm (.val (.int (((y26_b21_0 &&& (255 : Int32)) <<< ((8 : Int32) &&& 31)) ||| (y39_b21_1 &&& (255 : Int32))))) (one_int _) Z0_60 S_UTF_61 S_UTF_16BE_62 S_UTF_16LE_63 V21_64
      by_cases hc53 : ((p0 &&& (3 : Int32)) < (3 : Int32))
      · refine Got.step (T' := T39) (g' := (mkF m 53 #[.val (.int p0), .val (.int p1), .val (.int p2), .val (.int p3), .val (.int (p0 &&& (3 : Int32))), .val (.ref b21), .unset, .unset, .unset] [])) (fun tq kt => ?_) ?_
        · show Steps p.tables e below (T39.setTop (mkF m 42 #[.val (.int p0), .val (.int p1), .val (.int p2), .val (.int p3), .val (.int (p0 &&& (3 : Int32))), .val (.ref b21), .unset, .unset, .unset] [(.int (3 : Int32)), (.int (p0 &&& (3 : Int32)))])) _
          refine XS.icmpYes X39.here hx rfl (pc0 := 42) (pc' := 53) rfl (hb hby at_42) rfl (XT.ii_lt_t hc53) (by decide) (by decide) ?_
          exact kt
        exact J52 _ _ _ X39 e39 N39 (0 : Int32) (if_pos hc53).symm Z0_47 S_UTF_48 S_UTF_16BE_49 S_UTF_16LE_50 V21_51
      · refine Got.step (T' := T39) (g' := (mkF m 49 #[.val (.int p0), .val (.int p1), .val (.int p2), .val (.int p3), .val (.int (p0 &&& (3 : Int32))), .val (.ref b21), .unset, .unset, .unset] [(.int p3), (.int (2 : Int32)), (.ref b21)])) (fun tq kt => ?_) ?_
        · show Steps p.tables e below (T39.setTop (mkF m 42 #[.val (.int p0), .val (.int p1), .val (.int p2), .val (.int p3), .val (.int (p0 &&& (3 : Int32))), .val (.ref b21), .unset, .unset, .unset] [(.int (3 : Int32)), (.int (p0 &&& (3 : Int32)))])) _
          refine XS.icmpNo X39.here hx rfl (hb hby at_42) rfl (XT.ii_lt_f hc53) ?_
          show Steps p.tables e below (T39.setTop (mkF m 45 #[.val (.int p0), .val (.int p1), .val (.int p2), .val (.int p3), .val (.int (p0 &&& (3 : Int32))), .val (.ref b21), .unset, .unset, .unset] [])) _
          refine XS.aload X39.here hx rfl (hb hby at_45) rfl rfl ?_
          show Steps p.tables e below (T39.setTop (mkF m 47 #[.val (.int p0), .val (.int p1), .val (.int p2), .val (.int p3), .val (.int (p0 &&& (3 : Int32))), .val (.ref b21), .unset, .unset, .unset] [(.ref b21)])) _
          refine XS.iconst X39.here hx rfl (hb hby at_47) ?_
          show Steps p.tables e below (T39.setTop (mkF m 48 #[.val (.int p0), .val (.int p1), .val (.int p2), .val (.int p3), .val (.int (p0 &&& (3 : Int32))), .val (.ref b21), .unset, .unset, .unset] [(.int (2 : Int32)), (.ref b21)])) _
          refine XS.iloadN X39.here hx rfl (hb hby at_48) rfl ?_
          exact kt
        obtain ⟨_, _, ⟨T54, L54, k54, n54⟩, -, X54, ⟨Lc54, hQ54, l54, y54, z54⟩, st54⟩ := Jvm.LawKit.callS X39 hx (y := (⟨"com/example/treegraft/treegraft/xml/EncodingDetectPinLaw", "pick", "(I)B"⟩ : MethodName)) hown (mvT hZ (hw _ (List.mem_of_getElem? (i := 8) rfl))) (mvT hZ (hw _ (List.mem_of_getElem? (i := 9) rfl))) (mvT hZ (hw _ (List.mem_of_getElem? (i := 10) rfl))) (mvT hZ (hw _ (List.mem_of_getElem? (i := 11) rfl))) (by decide) (backOf (W := 2) (rm2 l Z a0 hw [] p3 h39 n0 Z0_47) hZ (hw _ (List.mem_of_getElem? (i := 11) rfl)) (hw _ (List.mem_of_getElem? (i := 10) rfl)) (by decide) (by decide)) (g := (mkF m 49 #[.val (.int p0), .val (.int p1), .val (.int p2), .val (.int p3), .val (.int (p0 &&& (3 : Int32))), .val (.ref b21), .unset, .unset, .unset] [(.int p3), (.int (2 : Int32)), (.ref b21)])) rfl (by rw [hml]; rfl) (argsL := [(.int p3)]) (rest := [(.int (2 : Int32)), (.ref b21)]) (lenOf pd_0 rfl) rfl (by show 2 * 0 + _ ≤ _; exact Nat.le_of_eq rfl) (hb hby at_49) (fun _ _ => ⟨rfl, e39, (by decide : 1 + 0 ≤ _), (by decide : 3 + 0 ≤ _)⟩)
        dsimp only [Pt.U, Pt.locs, Pt.cells, Pt.slots] at X54 l54 y54 z54 st54 hQ54
        subst y54 z54
        obtain ⟨rfl, Nq54, e54⟩ := hQ54
        have N54 : Fr n0 L54 := by rw [l54]; exact Fr.app N39 Nq54
        refine Got.step st54 ?_
        show Got p e below s _ _ _ _ T54 (mkF m 52 #[.val (.int p0), .val (.int p1), .val (.int p2), .val (.int p3), .val (.int (p0 &&& (3 : Int32))), .val (.ref b21), .unset, .unset, .unset] [(.int (f2 p3)), (.int (2 : Int32)), (.ref b21)])
        obtain ⟨cl55, Ar55, q55, S55, M55, H55, G55⟩ := (id V21_51)
        have hin55 : ¬ ((2 : Int32) < 0 ∨ cl55.slots.size ≤ ((2 : Int32)).toNatClampNeg) := inb_of S55 (own_inb3 hc53)
        obtain ⟨T55, h55, X55, e55, W55, st55⟩ := stB X54 hx hZ e54 Ar55 (j := (2 : Int32)) hin55 (g := (mkF m 52 #[.val (.int p0), .val (.int p1), .val (.int p2), .val (.int p3), .val (.int (p0 &&& (3 : Int32))), .val (.ref b21), .unset, .unset, .unset] [(.int (f2 p3)), (.int (2 : Int32)), (.ref b21)])) rfl rfl (hb hby at_52)
        rw [(own_pick _).1] at W55
        have Z0_56 : n0 ≤ h55.size := (Nat.le_trans Z0_47 (Keep.of_wr W55).1)
        have S_UTF_57 : Sta Z h55 "com/example/treegraft/treegraft/xml/Encoding" "UTF_8" "Lcom/example/treegraft/treegraft/xml/Encoding;" (.ref u8) := (S_UTF_48.wr W55)
        have S_UTF_16BE_58 : Sta Z h55 "com/example/treegraft/treegraft/xml/Encoding" "UTF_16BE" "Lcom/example/treegraft/treegraft/xml/Encoding;" (.ref be) := (S_UTF_16BE_49.wr W55)
        have S_UTF_16LE_59 : Sta Z h55 "com/example/treegraft/treegraft/xml/Encoding" "UTF_16LE" "Lcom/example/treegraft/treegraft/xml/Encoding;" (.ref le) := (S_UTF_16LE_50.wr W55)
        have V55 : Arv Z h55 b21 k21 .byte (p0 &&& (3 : Int32)) [(.int y26_b21_0), (.int y39_b21_1), (.int (f2 p3))] (.int (0 : Int32)) := Arv.set Ar55 q55 S55 M55 H55 G55 (own_pick _).2 W55 2 rfl (Nat.le_of_ble_eq_true rfl)
        have N55 := Fr.snoc X55 N54 gn_b21
        refine Got.step st55 ?_
        show Got p e below s _ _ _ _ T55 (mkF m 53 #[.val (.int p0), .val (.int p1), .val (.int p2), .val (.int p3), .val (.int (p0 &&& (3 : Int32))), .val (.ref b21), .unset, .unset, .unset] [])
        exact J52 _ _ _ X55 e55 N55 (f2 p3) (if_neg hc53).symm Z0_56 S_UTF_57 S_UTF_16BE_58 S_UTF_16LE_59 V55
    by_cases hc40 : ((p0 &&& (3 : Int32)) < (2 : Int32))
    · refine Got.step (T' := T26) (g' := (mkF m 39 #[.val (.int p0), .val (.int p1), .val (.int p2), .val (.int p3), .val (.int (p0 &&& (3 : Int32))), .val (.ref b21), .unset, .unset, .unset] [])) (fun tq kt => ?_) ?_
      · show Steps p.tables e below (T26.setTop (mkF m 28 #[.val (.int p0), .val (.int p1), .val (.int p2), .val (.int p3), .val (.int (p0 &&& (3 : Int32))), .val (.ref b21), .unset, .unset, .unset] [(.int (2 : Int32)), (.int (p0 &&& (3 : Int32)))])) _
        refine XS.icmpYes X26.here hx rfl (pc0 := 28) (pc' := 39) rfl (hb hby at_28) rfl (XT.ii_lt_t hc40) (by decide) (by decide) ?_
        exact kt
      exact J39 _ _ _ X26 e26 N26 (0 : Int32) (if_pos hc40).symm Z0_34 S_UTF_35 S_UTF_16BE_36 S_UTF_16LE_37 V21_38
    · refine Got.step (T' := T26) (g' := (mkF m 35 #[.val (.int p0), .val (.int p1), .val (.int p2), .val (.int p3), .val (.int (p0 &&& (3 : Int32))), .val (.ref b21), .unset, .unset, .unset] [(.int p2), (.int (1 : Int32)), (.ref b21)])) (fun tq kt => ?_) ?_
      · show Steps p.tables e below (T26.setTop (mkF m 28 #[.val (.int p0), .val (.int p1), .val (.int p2), .val (.int p3), .val (.int (p0 &&& (3 : Int32))), .val (.ref b21), .unset, .unset, .unset] [(.int (2 : Int32)), (.int (p0 &&& (3 : Int32)))])) _
        refine XS.icmpNo X26.here hx rfl (hb hby at_28) rfl (XT.ii_lt_f hc40) ?_
        show Steps p.tables e below (T26.setTop (mkF m 31 #[.val (.int p0), .val (.int p1), .val (.int p2), .val (.int p3), .val (.int (p0 &&& (3 : Int32))), .val (.ref b21), .unset, .unset, .unset] [])) _
        refine XS.aload X26.here hx rfl (hb hby at_31) rfl rfl ?_
        show Steps p.tables e below (T26.setTop (mkF m 33 #[.val (.int p0), .val (.int p1), .val (.int p2), .val (.int p3), .val (.int (p0 &&& (3 : Int32))), .val (.ref b21), .unset, .unset, .unset] [(.ref b21)])) _
        refine XS.iconst X26.here hx rfl (hb hby at_33) ?_
        show Steps p.tables e below (T26.setTop (mkF m 34 #[.val (.int p0), .val (.int p1), .val (.int p2), .val (.int p3), .val (.int (p0 &&& (3 : Int32))), .val (.ref b21), .unset, .unset, .unset] [(.int (1 : Int32)), (.ref b21)])) _
        refine XS.iloadN X26.here hx rfl (hb hby at_34) rfl ?_
        exact kt
      obtain ⟨_, _, ⟨T41, L41, k41, n41⟩, -, X41, ⟨Lc41, hQ41, l41, y41, z41⟩, st41⟩ := Jvm.LawKit.callS X26 hx (y := (⟨"com/example/treegraft/treegraft/xml/EncodingDetectPinLaw", "pick", "(I)B"⟩ : MethodName)) hown (mvT hZ (hw _ (List.mem_of_getElem? (i := 8) rfl))) (mvT hZ (hw _ (List.mem_of_getElem? (i := 9) rfl))) (mvT hZ (hw _ (List.mem_of_getElem? (i := 10) rfl))) (mvT hZ (hw _ (List.mem_of_getElem? (i := 11) rfl))) (by decide) (backOf (W := 2) (rm2 l Z a0 hw [] p2 h26 n0 Z0_34) hZ (hw _ (List.mem_of_getElem? (i := 11) rfl)) (hw _ (List.mem_of_getElem? (i := 10) rfl)) (by decide) (by decide)) (g := (mkF m 35 #[.val (.int p0), .val (.int p1), .val (.int p2), .val (.int p3), .val (.int (p0 &&& (3 : Int32))), .val (.ref b21), .unset, .unset, .unset] [(.int p2), (.int (1 : Int32)), (.ref b21)])) rfl (by rw [hml]; rfl) (argsL := [(.int p2)]) (rest := [(.int (1 : Int32)), (.ref b21)]) (lenOf pd_0 rfl) rfl (by show 2 * 0 + _ ≤ _; exact Nat.le_of_eq rfl) (hb hby at_35) (fun _ _ => ⟨rfl, e26, (by decide : 1 + 0 ≤ _), (by decide : 3 + 0 ≤ _)⟩)
      dsimp only [Pt.U, Pt.locs, Pt.cells, Pt.slots] at X41 l41 y41 z41 st41 hQ41
      subst y41 z41
      obtain ⟨rfl, Nq41, e41⟩ := hQ41
      have N41 : Fr n0 L41 := by rw [l41]; exact Fr.app N26 Nq41
      refine Got.step st41 ?_
      show Got p e below s _ _ _ _ T41 (mkF m 38 #[.val (.int p0), .val (.int p1), .val (.int p2), .val (.int p3), .val (.int (p0 &&& (3 : Int32))), .val (.ref b21), .unset, .unset, .unset] [(.int (f2 p2)), (.int (1 : Int32)), (.ref b21)])
      obtain ⟨cl42, Ar42, q42, S42, M42, H42, G42⟩ := (id V21_38)
      have hin42 : ¬ ((1 : Int32) < 0 ∨ cl42.slots.size ≤ ((1 : Int32)).toNatClampNeg) := inb_of S42 (own_inb2 hc40)
      obtain ⟨T42, h42, X42, e42, W42, st42⟩ := stB X41 hx hZ e41 Ar42 (j := (1 : Int32)) hin42 (g := (mkF m 38 #[.val (.int p0), .val (.int p1), .val (.int p2), .val (.int p3), .val (.int (p0 &&& (3 : Int32))), .val (.ref b21), .unset, .unset, .unset] [(.int (f2 p2)), (.int (1 : Int32)), (.ref b21)])) rfl rfl (hb hby at_38)
      rw [(own_pick _).1] at W42
      have Z0_43 : n0 ≤ h42.size := (Nat.le_trans Z0_34 (Keep.of_wr W42).1)
      have S_UTF_44 : Sta Z h42 "com/example/treegraft/treegraft/xml/Encoding" "UTF_8" "Lcom/example/treegraft/treegraft/xml/Encoding;" (.ref u8) := (S_UTF_35.wr W42)
      have S_UTF_16BE_45 : Sta Z h42 "com/example/treegraft/treegraft/xml/Encoding" "UTF_16BE" "Lcom/example/treegraft/treegraft/xml/Encoding;" (.ref be) := (S_UTF_16BE_36.wr W42)
      have S_UTF_16LE_46 : Sta Z h42 "com/example/treegraft/treegraft/xml/Encoding" "UTF_16LE" "Lcom/example/treegraft/treegraft/xml/Encoding;" (.ref le) := (S_UTF_16LE_37.wr W42)
      have V42 : Arv Z h42 b21 k21 .byte (p0 &&& (3 : Int32)) [(.int y26_b21_0), (.int (f2 p2)), (.int (0 : Int32))] (.int (0 : Int32)) := Arv.set Ar42 q42 S42 M42 H42 G42 (own_pick _).2 W42 1 rfl (Nat.le_of_ble_eq_true rfl)
      have N42 := Fr.snoc X42 N41 gn_b21
      refine Got.step st42 ?_
      show Got p e below s _ _ _ _ T42 (mkF m 39 #[.val (.int p0), .val (.int p1), .val (.int p2), .val (.int p3), .val (.int (p0 &&& (3 : Int32))), .val (.ref b21), .unset, .unset, .unset] [])
      exact J39 _ _ _ X42 e42 N42 (f2 p2) (if_neg hc40).symm Z0_43 S_UTF_44 S_UTF_16BE_45 S_UTF_16LE_46 V42
  by_cases hc27 : ((p0 &&& (3 : Int32)) < (1 : Int32))
  · refine Got.step (T' := T21) (g' := (mkF m 25 #[.val (.int p0), .val (.int p1), .val (.int p2), .val (.int p3), .val (.int (p0 &&& (3 : Int32))), .val (.ref b21), .unset, .unset, .unset] [])) (fun tq kt => ?_) ?_
    · show Steps p.tables e below (T21.setTop (mkF m 14 #[.val (.int p0), .val (.int p1), .val (.int p2), .val (.int p3), .val (.int (p0 &&& (3 : Int32))), .val (.ref b21), .unset, .unset, .unset] [(.int (1 : Int32)), (.int (p0 &&& (3 : Int32)))])) _
      refine XS.icmpYes X21.here hx rfl (pc0 := 14) (pc' := 25) rfl (hb hby at_14) rfl (XT.ii_lt_t hc27) (by decide) (by decide) ?_
      exact kt
    exact J26 _ _ _ X21 e21 N0 (0 : Int32) (if_pos hc27).symm Z0_22 S_UTF_23 S_UTF_16BE_24 S_UTF_16LE_25 V21
  · refine Got.step (T' := T21) (g' := (mkF m 21 #[.val (.int p0), .val (.int p1), .val (.int p2), .val (.int p3), .val (.int (p0 &&& (3 : Int32))), .val (.ref b21), .unset, .unset, .unset] [(.int p1), (.int (0 : Int32)), (.ref b21)])) (fun tq kt => ?_) ?_
    · show Steps p.tables e below (T21.setTop (mkF m 14 #[.val (.int p0), .val (.int p1), .val (.int p2), .val (.int p3), .val (.int (p0 &&& (3 : Int32))), .val (.ref b21), .unset, .unset, .unset] [(.int (1 : Int32)), (.int (p0 &&& (3 : Int32)))])) _
      refine XS.icmpNo X21.here hx rfl (hb hby at_14) rfl (XT.ii_lt_f hc27) ?_
      show Steps p.tables e below (T21.setTop (mkF m 17 #[.val (.int p0), .val (.int p1), .val (.int p2), .val (.int p3), .val (.int (p0 &&& (3 : Int32))), .val (.ref b21), .unset, .unset, .unset] [])) _
      refine XS.aload X21.here hx rfl (hb hby at_17) rfl rfl ?_
      show Steps p.tables e below (T21.setTop (mkF m 19 #[.val (.int p0), .val (.int p1), .val (.int p2), .val (.int p3), .val (.int (p0 &&& (3 : Int32))), .val (.ref b21), .unset, .unset, .unset] [(.ref b21)])) _
      refine XS.iconst X21.here hx rfl (hb hby at_19) ?_
      show Steps p.tables e below (T21.setTop (mkF m 20 #[.val (.int p0), .val (.int p1), .val (.int p2), .val (.int p3), .val (.int (p0 &&& (3 : Int32))), .val (.ref b21), .unset, .unset, .unset] [(.int (0 : Int32)), (.ref b21)])) _
      refine XS.iloadN X21.here hx rfl (hb hby at_20) rfl ?_
      exact kt
    obtain ⟨_, _, ⟨T28, L28, k28, n28⟩, -, X28, ⟨Lc28, hQ28, l28, y28, z28⟩, st28⟩ := Jvm.LawKit.callS X21 hx (y := (⟨"com/example/treegraft/treegraft/xml/EncodingDetectPinLaw", "pick", "(I)B"⟩ : MethodName)) hown (mvT hZ (hw _ (List.mem_of_getElem? (i := 8) rfl))) (mvT hZ (hw _ (List.mem_of_getElem? (i := 9) rfl))) (mvT hZ (hw _ (List.mem_of_getElem? (i := 10) rfl))) (mvT hZ (hw _ (List.mem_of_getElem? (i := 11) rfl))) (by decide) (backOf (W := 2) (rm2 l Z a0 hw [] p1 h21 n0 Z0_22) hZ (hw _ (List.mem_of_getElem? (i := 11) rfl)) (hw _ (List.mem_of_getElem? (i := 10) rfl)) (by decide) (by decide)) (g := (mkF m 21 #[.val (.int p0), .val (.int p1), .val (.int p2), .val (.int p3), .val (.int (p0 &&& (3 : Int32))), .val (.ref b21), .unset, .unset, .unset] [(.int p1), (.int (0 : Int32)), (.ref b21)])) rfl (by rw [hml]; rfl) (argsL := [(.int p1)]) (rest := [(.int (0 : Int32)), (.ref b21)]) (lenOf pd_0 rfl) rfl (by show 2 * 0 + _ ≤ _; exact Nat.le_of_eq rfl) (hb hby at_21) (fun _ _ => ⟨rfl, e21, (by decide : 1 + 0 ≤ _), (by decide : 3 + 0 ≤ _)⟩)
    dsimp only [Pt.U, Pt.locs, Pt.cells, Pt.slots] at X28 l28 y28 z28 st28 hQ28
    subst y28 z28
    obtain ⟨rfl, Nq28, e28⟩ := hQ28
    have N28 : Fr n0 L28 := by rw [l28]; exact Fr.app N0 Nq28
    refine Got.step st28 ?_
    show Got p e below s _ _ _ _ T28 (mkF m 24 #[.val (.int p0), .val (.int p1), .val (.int p2), .val (.int p3), .val (.int (p0 &&& (3 : Int32))), .val (.ref b21), .unset, .unset, .unset] [(.int (f2 p1)), (.int (0 : Int32)), (.ref b21)])
    obtain ⟨cl29, Ar29, q29, S29, M29, H29, G29⟩ := (id V21)
    have hin29 : ¬ ((0 : Int32) < 0 ∨ cl29.slots.size ≤ ((0 : Int32)).toNatClampNeg) := inb_of S29 (own_inb1 hc27)
    obtain ⟨T29, h29, X29, e29, W29, st29⟩ := stB X28 hx hZ e28 Ar29 (j := (0 : Int32)) hin29 (g := (mkF m 24 #[.val (.int p0), .val (.int p1), .val (.int p2), .val (.int p3), .val (.int (p0 &&& (3 : Int32))), .val (.ref b21), .unset, .unset, .unset] [(.int (f2 p1)), (.int (0 : Int32)), (.ref b21)])) rfl rfl (hb hby at_24)
    rw [(own_pick _).1] at W29
    have Z0_30 : n0 ≤ h29.size := (Nat.le_trans Z0_22 (Keep.of_wr W29).1)
    have S_UTF_31 : Sta Z h29 "com/example/treegraft/treegraft/xml/Encoding" "UTF_8" "Lcom/example/treegraft/treegraft/xml/Encoding;" (.ref u8) := (S_UTF_23.wr W29)
    have S_UTF_16BE_32 : Sta Z h29 "com/example/treegraft/treegraft/xml/Encoding" "UTF_16BE" "Lcom/example/treegraft/treegraft/xml/Encoding;" (.ref be) := (S_UTF_16BE_24.wr W29)
    have S_UTF_16LE_33 : Sta Z h29 "com/example/treegraft/treegraft/xml/Encoding" "UTF_16LE" "Lcom/example/treegraft/treegraft/xml/Encoding;" (.ref le) := (S_UTF_16LE_25.wr W29)
    have V29 : Arv Z h29 b21 k21 .byte (p0 &&& (3 : Int32)) [(.int (f2 p1)), (.int (0 : Int32)), (.int (0 : Int32))] (.int (0 : Int32)) := Arv.set Ar29 q29 S29 M29 H29 G29 (own_pick _).2 W29 0 rfl (Nat.le_of_ble_eq_true rfl)
    have N29 := Fr.snoc X29 N28 gn_b21
    refine Got.step st29 ?_
    show Got p e below s _ _ _ _ T29 (mkF m 25 #[.val (.int p0), .val (.int p1), .val (.int p2), .val (.int p3), .val (.int (p0 &&& (3 : Int32))), .val (.ref b21), .unset, .unset, .unset] [])
    exact J26 _ _ _ X29 e29 N29 (f2 p1) (if_neg hc27).symm Z0_30 S_UTF_31 S_UTF_16BE_32 S_UTF_16LE_33 V29
set_option maxRecDepth 65536 in
set_option maxHeartbeats 40000000 in
theorem comes_1 {Post : Tables → Env → Array Value → State → Outcome → State → Prop} (hpost : ∀ tb e args s v u, (limb_1_1.after args s (.returned v) u = true ∧ limb_1_2.after args s (.returned v) u = true ∧ True) → FrameEnd s (.returned v) u (Jvm.fieldLocs frame_1_writes args s ++ Jvm.arrayLocs frame_1_arrays args s ++ Jvm.staticLocs frame_1_statics s) 16 128 → Post tb e args s (.returned v) u) :
    ArmFor flags0 classFile x code maxLocals ret World_1 tables_1 room_1 Calls_1 rest_1 Pre_1 Post := by
  intro l hfl _ _ p e ha hc hk s m args below hf hA hF happ hP
  obtain ⟨hcalls, hrest, hpre⟩ := hP
  obtain ⟨-, -, -, hnamed, -, -, -, hat⟩ := (Spec.applies_iff hf).mp happ
  obtain ⟨hg, hn⟩ := and_e (Cond.before_iff.mp (show (Jvm.Cond.and given_1 narrow_1).before args s = true from hpre))
  obtain ⟨h1, g0⟩ := and_e hg
  obtain ⟨c0, g1⟩ := and_e g0
  obtain ⟨c1, g2⟩ := and_e g1
  obtain ⟨c2, g3⟩ := and_e g2
  obtain ⟨w0, w1, w2, w3, rfl⟩ : ∃ w0 w1 w2 w3 : Value, args = #[w0, w1, w2, w3] := by
    have hs : args.size = 4 := by simpa [Cond.value, given_1] using h1
    obtain ⟨L⟩ := args
    match L, hs with
    | [w0, w1, w2, w3], _ => exact ⟨w0, w1, w2, w3, rfl⟩
  have hw := fun d (hd : d ∈ tables_1) => atoms_spec (ws := Jvm.Cond.code x code maxLocals ret :: tables_1) hat d (List.mem_cons_of_mem _ hd)
  obtain ⟨i0, e0⟩ := is_v c0
  obtain rfl : w0 = (.int i0) := Option.some.inj e0
  obtain ⟨i1, e1⟩ := is_v c1
  obtain rfl : w1 = (.int i1) := Option.some.inj e1
  obtain ⟨i2, e2⟩ := is_v c2
  obtain rfl : w2 = (.int i2) := Option.some.inj e2
  obtain ⟨i3, e3⟩ := is_v g3
  obtain rfl : w3 = (.int i3) := Option.some.inj e3
  obtain ⟨n1, n23⟩ := and_e hn
  obtain ⟨n2, n3⟩ := and_e n23
  obtain ⟨u8, x0⟩ := exa_v n1
  have S0 := Sta.start x0 (Or.inr ⟨(hw _ (List.mem_of_getElem? (i := 3) rfl)), (hw _ (List.mem_of_getElem? (i := 6) rfl))⟩)
  obtain ⟨be, x1⟩ := exa_v n2
  have S1 := Sta.start x1 (Or.inr ⟨(hw _ (List.mem_of_getElem? (i := 3) rfl)), (hw _ (List.mem_of_getElem? (i := 15) rfl))⟩)
  obtain ⟨le, x2⟩ := exa_v n3
  have S2 := Sta.start x2 (Or.inr ⟨(hw _ (List.mem_of_getElem? (i := 3) rfl)), (hw _ (List.mem_of_getElem? (i := 18) rfl))⟩)
  obtain ⟨n, o, h1, h2, h3, vq, L, rfl, ⟨hv, N⟩, hq⟩ := rm0 l s _ hw tables_1 i0 i1 i2 i3 u8 be le s.heap s.heap.size (Nat.le_refl _) S0 S1 S2 p e ha hc hk s m _ below hf ((Spec.applies_iff_loose hf).mp happ).1 ⟨rfl, State.Warmed39.refl s, rfl⟩ trivial
  subst hv
  refine ⟨n, _, h1, h2, h3, hpost _ _ _ _ _ _ ⟨Cond.after_iff.mpr rfl, Cond.after_iff.mpr (eq_i res_at (Term.int_eval (1)) rfl), trivial⟩ ⟨hq.1, hq.2.1, (hq.2.2.sift fun y hy => Or.inr (N y hy)).mono (by decide) (by decide)⟩⟩
theorem main_1_1 : Claimed_1_1 := comes_1 fun _ _ _ _ _ _ h hF => ⟨h.1, hF⟩
theorem main_1_2 : Claimed_1_2 := comes_1 fun _ _ _ _ _ _ h hF => ⟨h.2.1, hF⟩
end Jvm.Pilot.@@N@@
namespace Jvm.Pilot.@@N@@
open Jvm Jvm.ClassFile Sem Op Lib Jvm.Free Jvm.Stand Jvm.Pilot.@@N@@.Jvm.D
/-! MADE BY PROGRAM (witnessworld.py) out of the Statement's table words and the real class files: 12 classes; the members and pool entries that the words name. The judged class is class 1, her method 2. -/
namespace start1
open Jvm.ClassFile
def u (s : String) : CpInfo := .utf8 (stringToUtf16 s)
/-- a pool by its gaps: so many unusable entries, then the entry; so many at the end -/
def gap : Nat → List CpInfo → List CpInfo
  | 0, r => r
  | n + 1, r => .unusable :: gap n r
def poolList (es : List (Nat × CpInfo)) (last : Nat) : List CpInfo := es.foldr (fun e r => gap e.1 (e.2 :: r)) (gap last [])
def pool (es : List (Nat × CpInfo)) (last : Nat) : Array CpInfo := ⟨poolList es last⟩
def fileOf (pool : Array CpInfo) (this : Nat) (attrs : Array Attribute := #[]) (ms : Array MethodInfo := #[]) (fl : Nat := 33) (sup : Nat := 0) (ifs : Array Nat := #[]) (fds : Array FieldInfo := #[]) : ClassFile where
  minorVersion := 0
  majorVersion := 65
  constantPool := pool
  accessFlags := fl
  thisClass := this
  superClass := sup
  interfaces := ifs
  fields := fds
  methods := ms
  attributes := attrs
def plain (name : String) (sup : Option ClassId) : Class where
  name := name
  kind := .ordinary
  loader := none
  accessFlags := 33
  super := sup
  interfaces := #[]
  cf := none
  fields := #[]
  methods := #[]
  instanceTypes := #[]
  staticTypes := #[]
  resolved := #[]
  callSites := []
  init := .initialized
  statics := none
  mirror := none

def pool0 : Array CpInfo := pool [(5, u "<init>"), (0, u "()V"), (1, .class_ 10), (1, u "java/lang/Object")] 113

def k0m0 : Method := { name := "<init>", desc := "()V", sig := { parameters := [], returnType := none }, accessFlags := 1, code := none }
/-- java/lang/Object -/
def k0 : Class := { plain "java/lang/Object" none with
  accessFlags := 33
  interfaces := #[]
  cf := some (fileOf pool0 8 #[] #[{ accessFlags := 1, nameIndex := 5, descriptorIndex := 6, attributes := #[] }] 33 0 #[] #[])
  fields := #[]
  methods := #[k0m0]
  instanceTypes := #[]
  staticTypes := #[]
  resolved := Array.replicate 124 none
  statics := none }

def pool1 : Array CpInfo := pool [(2, .class_ 4), (1, u "java/lang/Object"), (0, u "<init>"), (0, u "()V"), (0, .methodref 8 9), (0, .class_ 10), (0, .nameAndType 11 12), (0, u "com/example/treegraft/treegraft/xml/EncodingDetectPinLaw"), (0, u "pick"), (0, u "(I)B"), (0, .methodref 14 15), (0, .class_ 16), (0, .nameAndType 17 18), (0, u "com/example/treegraft/treegraft/xml/Encoding"), (0, u "detect"), (0, u "([B)Lcom/example/treegraft/treegraft/xml/Encoding;"), (0, .fieldref 14 20), (0, .nameAndType 21 22), (0, u "UTF_8"), (0, u "Lcom/example/treegraft/treegraft/xml/Encoding;"), (0, .integer 65279), (0, .fieldref 14 25), (0, .nameAndType 26 22), (0, u "UTF_16BE"), (0, .integer 65534), (0, .fieldref 14 29), (0, .nameAndType 30 22), (0, u "UTF_16LE"), (3, u "law"), (0, u "(IIII)Z")] 4

def k1m0 : Method := { name := "<init>", desc := "()V", sig := { parameters := [], returnType := none }, accessFlags := 2, code := none }
def k1c1 : Code := { maxStack := 2, maxLocals := 2, code := method_2_code, exceptionTable := #[], attributes := #[] }
def k1m1 : Method := { name := "pick", desc := "(I)B", sig := { parameters := [.int], returnType := some .byte }, accessFlags := 10, code := some k1c1 }
def k1c2 : Code := { maxStack := 3, maxLocals := 9, code := code, exceptionTable := #[], attributes := #[] }
def k1m2 : Method := { name := "law", desc := "(IIII)Z", sig := { parameters := [.int, .int, .int, .int], returnType := some .boolean }, accessFlags := 9, code := some k1c2 }
/-- com/example/treegraft/treegraft/xml/EncodingDetectPinLaw -/
def k1 : Class := { plain "com/example/treegraft/treegraft/xml/EncodingDetectPinLaw" (some 0) with
  accessFlags := 49
  interfaces := #[]
  cf := some (fileOf pool1 8 #[] #[{ accessFlags := 2, nameIndex := 5, descriptorIndex := 6, attributes := #[] }, { accessFlags := 10, nameIndex := 11, descriptorIndex := 12, attributes := #[] }, { accessFlags := 9, nameIndex := 34, descriptorIndex := 35, attributes := #[] }] 49 2 #[] #[])
  fields := #[]
  methods := #[k1m0, k1m1, k1m2]
  instanceTypes := #[]
  staticTypes := #[]
  resolved := Array.replicate 40 none
  statics := none }

def pool2 : Array CpInfo := pool [(1, .class_ 2), (0, u "java/lang/constant/Constable"), (0, .class_ 4), (0, u "java/lang/Object")] 6

/-- java/lang/constant/Constable -/
def k2 : Class := { plain "java/lang/constant/Constable" (some 0) with
  accessFlags := 1537
  interfaces := #[]
  cf := some (fileOf pool2 1 #[] #[] 1537 3 #[] #[])
  fields := #[]
  methods := #[]
  instanceTypes := #[]
  staticTypes := #[]
  resolved := Array.replicate 11 none
  statics := none }

def pool3 : Array CpInfo := pool [(1, .class_ 2), (0, u "java/lang/Comparable"), (0, .class_ 4), (0, u "java/lang/Object")] 7

/-- java/lang/Comparable -/
def k3 : Class := { plain "java/lang/Comparable" (some 0) with
  accessFlags := 1537
  interfaces := #[]
  cf := some (fileOf pool3 1 #[] #[] 1537 3 #[] #[])
  fields := #[]
  methods := #[]
  instanceTypes := #[]
  staticTypes := #[]
  resolved := Array.replicate 12 none
  statics := none }

def pool4 : Array CpInfo := pool [(1, .class_ 2), (0, u "java/io/Serializable"), (0, .class_ 4), (0, u "java/lang/Object")] 2

/-- java/io/Serializable -/
def k4 : Class := { plain "java/io/Serializable" (some 0) with
  accessFlags := 1537
  interfaces := #[]
  cf := some (fileOf pool4 1 #[] #[] 1537 3 #[] #[])
  fields := #[]
  methods := #[]
  instanceTypes := #[]
  staticTypes := #[]
  resolved := Array.replicate 7 none
  statics := none }

def pool5 : Array CpInfo := pool [(2, .class_ 4), (1, u "java/lang/Enum"), (0, u "name"), (0, u "Ljava/lang/String;"), (2, u "ordinal"), (0, u "I"), (1, .class_ 14), (1, u "java/lang/Object"), (4, u "hash"), (86, .class_ 108), (1, u "java/lang/Enum$EnumDesc"), (2, .class_ 112), (0, u "java/lang/constant/Constable"), (0, .class_ 114), (0, u "java/lang/Comparable"), (0, .class_ 116), (0, u "java/io/Serializable")] 87

/-- java/lang/Enum -/
def k5 : Class := { plain "java/lang/Enum" (some 0) with
  accessFlags := 1057
  interfaces := #[2, 3, 4]
  cf := some (fileOf pool5 2 #[.nestMembers #[106]] #[] 1057 12 #[111, 113, 115] #[{ accessFlags := 18, nameIndex := 5, descriptorIndex := 6, attributes := #[] }, { accessFlags := 18, nameIndex := 9, descriptorIndex := 10, attributes := #[] }, { accessFlags := 2, nameIndex := 19, descriptorIndex := 10, attributes := #[] }])
  fields := #[{ name := "name", type := (.object "java/lang/String"), accessFlags := 18, slot := 0, constantValue := 0 }, { name := "ordinal", type := .int, accessFlags := 18, slot := 1, constantValue := 0 }, { name := "hash", type := .int, accessFlags := 2, slot := 2, constantValue := 0 }]
  methods := #[]
  instanceTypes := #[(.object "java/lang/String"), .int, .int]
  staticTypes := #[]
  resolved := Array.replicate 204 none
  statics := none }

def pool6 : Array CpInfo := pool [(1, .class_ 2), (0, u "com/example/treegraft/treegraft/xml/Encoding"), (0, .fieldref 1 4), (0, .nameAndType 5 6), (0, u "UTF_8"), (0, u "Lcom/example/treegraft/treegraft/xml/Encoding;"), (0, .fieldref 1 8), (0, .nameAndType 9 6), (0, u "UTF_16BE"), (0, .fieldref 1 11), (0, .nameAndType 12 6), (0, u "UTF_16LE"), (2, u "ISO_8859_1"), (2, u "US_ASCII"), (2, u "$VALUES"), (0, u "[Lcom/example/treegraft/treegraft/xml/Encoding;"), (6, .class_ 31), (1, u "java/lang/Enum"), (8, u "charset"), (0, u "Ljava/nio/charset/Charset;"), (2, u "lastCodePoint"), (0, u "I"), (175, u "detect"), (0, u "([B)Lcom/example/treegraft/treegraft/xml/Encoding;")] 11

def k6c0 : Code := { maxStack := 2, maxLocals := 4, code := prog_141_method_5_code, exceptionTable := #[], attributes := #[] }
def k6m0 : Method := { name := "detect", desc := "([B)Lcom/example/treegraft/treegraft/xml/Encoding;", sig := { parameters := [(.array .byte)], returnType := some (.object "com/example/treegraft/treegraft/xml/Encoding") }, accessFlags := 8, code := some k6c0 }
/-- com/example/treegraft/treegraft/xml/Encoding -/
def k6 : Class := { plain "com/example/treegraft/treegraft/xml/Encoding" (some 5) with
  accessFlags := 16432
  interfaces := #[]
  cf := some (fileOf pool6 1 #[] #[{ accessFlags := 8, nameIndex := 221, descriptorIndex := 222, attributes := #[] }] 16432 29 #[] #[{ accessFlags := 16409, nameIndex := 5, descriptorIndex := 6, attributes := #[] }, { accessFlags := 16409, nameIndex := 9, descriptorIndex := 6, attributes := #[] }, { accessFlags := 16409, nameIndex := 12, descriptorIndex := 6, attributes := #[] }, { accessFlags := 16409, nameIndex := 15, descriptorIndex := 6, attributes := #[] }, { accessFlags := 16409, nameIndex := 18, descriptorIndex := 6, attributes := #[] }, { accessFlags := 18, nameIndex := 40, descriptorIndex := 41, attributes := #[] }, { accessFlags := 18, nameIndex := 44, descriptorIndex := 45, attributes := #[] }, { accessFlags := 4122, nameIndex := 21, descriptorIndex := 22, attributes := #[] }])
  fields := #[{ name := "UTF_8", type := (.object "com/example/treegraft/treegraft/xml/Encoding"), accessFlags := 16409, slot := 0, constantValue := 0 }, { name := "UTF_16BE", type := (.object "com/example/treegraft/treegraft/xml/Encoding"), accessFlags := 16409, slot := 1, constantValue := 0 }, { name := "UTF_16LE", type := (.object "com/example/treegraft/treegraft/xml/Encoding"), accessFlags := 16409, slot := 2, constantValue := 0 }, { name := "ISO_8859_1", type := (.object "com/example/treegraft/treegraft/xml/Encoding"), accessFlags := 16409, slot := 3, constantValue := 0 }, { name := "US_ASCII", type := (.object "com/example/treegraft/treegraft/xml/Encoding"), accessFlags := 16409, slot := 4, constantValue := 0 }, { name := "charset", type := (.object "java/nio/charset/Charset"), accessFlags := 18, slot := 3, constantValue := 0 }, { name := "lastCodePoint", type := .int, accessFlags := 18, slot := 4, constantValue := 0 }, { name := "$VALUES", type := (.array (.object "com/example/treegraft/treegraft/xml/Encoding")), accessFlags := 4122, slot := 5, constantValue := 0 }]
  methods := #[k6m0]
  instanceTypes := #[(.object "java/lang/String"), .int, .int, (.object "java/nio/charset/Charset"), .int]
  staticTypes := #[(.object "com/example/treegraft/treegraft/xml/Encoding"), (.object "com/example/treegraft/treegraft/xml/Encoding"), (.object "com/example/treegraft/treegraft/xml/Encoding"), (.object "com/example/treegraft/treegraft/xml/Encoding"), (.object "com/example/treegraft/treegraft/xml/Encoding"), (.array (.object "com/example/treegraft/treegraft/xml/Encoding"))]
  resolved := Array.replicate 234 none
  statics := some 0 }

def pool7 : Array CpInfo := pool [(1, u "java/lang/Cloneable"), (0, .class_ 1), (0, u "java/lang/Object"), (0, .class_ 3)] 3

/-- java/lang/Cloneable -/
def k7 : Class := { plain "java/lang/Cloneable" (some 0) with
  accessFlags := 1537
  interfaces := #[]
  cf := some (fileOf pool7 2 #[] #[] 1537 4 #[] #[])
  fields := #[]
  methods := #[]
  instanceTypes := #[]
  staticTypes := #[]
  resolved := Array.replicate 8 none
  statics := none }

/-- the primitive byte -/
def k8 : Class := { plain "byte" none with kind := .primitive 'B', accessFlags := 0x411 }
/-- [B -/
def k9 : Class := { plain "[B" (some 0) with kind := .array 8 .byte, interfaces := #[7, 4], accessFlags := 1041 }

/-- the primitive int -/
def k10 : Class := { plain "int" none with kind := .primitive 'I', accessFlags := 0x411 }
/-- [I -/
def k11 : Class := { plain "[I" (some 0) with kind := .array 10 .int, interfaces := #[7, 4], accessFlags := 1041 }

def heap : Heap := #[{ cls := 6, slots := #[.ref 1, .ref 2, .ref 3, .null, .null, .null], vm := .statics 6 },
  { cls := 6, slots := #[.null, .int 0, .int 0, .null, .int 0], vm := .none },
  { cls := 6, slots := #[.null, .int 0, .int 0, .null, .int 0], vm := .none },
  { cls := 6, slots := #[.null, .int 0, .int 0, .null, .int 0], vm := .none }]
def classes : Array Class := #[k0, k1, k2, k3, k4, k5, k6, k7, k8, k9, k10, k11]
def interned : List (Array UInt16 × Addr) := []
def slotsUsed : Nat := 21
def theMethod : MethodId := ⟨1, 2⟩
def args0 : Array Value := #[.int 5, .int 3, .int 4, .int 9]
def aboutOver (below : List Frame) : State where
  vm := { classes := classes, interned := interned.toArray }
  heap := heap
  slotsUsed := slotsUsed
  threads := #[{ frames := .invoking theMethod args0 :: below }]
def below0 : List Frame := [.native { method := ⟨0, 0⟩, args := #[] }]
def about1 : State := aboutOver below0
def p0 : Program := .bare "" "" ""
def e0 : Env := launch0.env 0 0 0
theorem w_frames : about1.frames = Frame.invoking theMethod args0 :: below0 := rfl
set_option maxRecDepth 65536 in
theorem w_args : argsFit about1.vm theMethod args0 = true := by decide +kernel
set_option maxRecDepth 65536 in
theorem w_heap : heapFits about1 = true := by decide +kernel
set_option maxRecDepth 65536 in
theorem w_runnable : about1.curStatus? = some .runnable := by decide +kernel
set_option maxRecDepth 65536 in
theorem w_alone : about1.alone = true := by decide +kernel
set_option maxRecDepth 65536 in
theorem w_named : about1.methodNamed? x = some theMethod := by decide +kernel
set_option maxRecDepth 65536 in
theorem w_hears : about1.hears theMethod below0 = true := by decide +kernel
set_option maxRecDepth 65536 in
theorem w_ripe : about1.ripe theMethod args0 below0 = true := by decide +kernel
theorem w_running : about1.status = .running := rfl
set_option maxRecDepth 65536 in
theorem w_room : about1.hasRoom e0.platform room_1 = true :=
  launch0.hasRoom_least _ room_1 (by decide +kernel) (by decide +kernel) (by decide +kernel) (by decide +kernel) (by decide +kernel) (by decide +kernel)
theorem allAtoms_all (ts : List Jvm.Cond) (a : Array Jvm.Value) (st : Jvm.State) : (allAtoms ts).before a st = ts.all (fun c => c.before a st) := by
  induction ts with
  | nil => rfl
  | cons c t ih =>
    show (Jvm.Cond.and c (allAtoms t)).before a st = _
    rw [Jvm.Cond.before_and, ih, List.all_cons]
def words1 : List Jvm.Cond := Jvm.Cond.code x code maxLocals ret :: tables_1
/-- a 'code' word, met by the world's own term for the bytes: nothing is compared byte by byte -/
theorem code_word {y : MethodName} {bytes : ByteArray} {mx : Nat} {rt : Option FieldType} {a : Array Value} {s : State} {m : MethodId} {meth : Method} {c : Code} (h1 : s.methodNamed? y = some m) (h2 : s.vm.method? m = some meth) (h3 : meth.code = some c) (h4 : c.code = bytes)
    (h5 : (c.maxLocals == mx && c.exceptionTable.isEmpty && decide (c.maxStack ≤ mostOperands) && decide (meth.sig.returnType = rt) && !meth.locks && decide (parseMethodDescriptor y.desc = some meth.sig)) = true) : (Jvm.Cond.code y bytes mx rt).before a s = true := by
  simp only [Bool.and_eq_true, beq_iff_eq, Bool.not_eq_true', decide_eq_true_eq] at h5
  obtain ⟨⟨⟨⟨⟨g1, g2⟩, g3⟩, g4⟩, g5⟩, g6⟩ := h5
  simp [Cond.before, Cond.holds, Cond.value, h1, h2, h3, h4, g1, g2, g3, g4, g5, g6]
def isCode : Jvm.Cond → Bool
  | .code _ _ _ _ => true
  | _ => false
theorem all_split {L : List Jvm.Cond} {P : Jvm.Cond → Bool} (h1 : L.all (fun c => isCode c || P c) = true) (h2 : ∀ c ∈ L.filter isCode, P c = true) : L.all P = true := by
  refine List.all_eq_true.mpr fun c hc => ?_
  have h := List.all_eq_true.mp h1 c hc
  rcases Bool.eq_false_or_eq_true (isCode c) with hi | hi
  · exact h2 c (List.mem_filter.mpr ⟨hc, hi⟩)
  · simpa [hi] using h
set_option maxRecDepth 65536 in
theorem w_c0 : (Jvm.Cond.code x code maxLocals ret).before args0 about1 = true := code_word (m := ⟨1, 2⟩) (meth := k1m2) (c := k1c2) (by decide +kernel) rfl rfl rfl (by decide +kernel)
set_option maxRecDepth 65536 in
theorem w_c1 : (Jvm.Cond.code ({ cls := "com/example/treegraft/treegraft/xml/Encoding", name := "detect", desc := "([B)Lcom/example/treegraft/treegraft/xml/Encoding;" } : Jvm.MethodName) prog_141_method_5_code (4 : Nat) (Option.some (Jvm.ClassFile.FieldType.object "com/example/treegraft/treegraft/xml/Encoding"))).before args0 about1 = true := code_word (m := ⟨6, 0⟩) (meth := k6m0) (c := k6c0) (by decide +kernel) rfl rfl rfl (by decide +kernel)
set_option maxRecDepth 65536 in
theorem w_c2 : (Jvm.Cond.code ({ cls := "com/example/treegraft/treegraft/xml/EncodingDetectPinLaw", name := "pick", desc := "(I)B" } : Jvm.MethodName) method_2_code (2 : Nat) (Option.some Jvm.ClassFile.FieldType.byte)).before args0 about1 = true := code_word (m := ⟨1, 1⟩) (meth := k1m1) (c := k1c1) (by decide +kernel) rfl rfl rfl (by decide +kernel)
def codes1 : List Jvm.Cond := [Jvm.Cond.code x code maxLocals ret, Jvm.Cond.code ({ cls := "com/example/treegraft/treegraft/xml/Encoding", name := "detect", desc := "([B)Lcom/example/treegraft/treegraft/xml/Encoding;" } : Jvm.MethodName) prog_141_method_5_code (4 : Nat) (Option.some (Jvm.ClassFile.FieldType.object "com/example/treegraft/treegraft/xml/Encoding")), Jvm.Cond.code ({ cls := "com/example/treegraft/treegraft/xml/EncodingDetectPinLaw", name := "pick", desc := "(I)B" } : Jvm.MethodName) method_2_code (2 : Nat) (Option.some Jvm.ClassFile.FieldType.byte)]
set_option maxRecDepth 65536 in
theorem codes_eq : words1.filter isCode = codes1 := rfl
theorem w_codes : ∀ c ∈ words1.filter isCode, c.before args0 about1 = true := by
  rw [codes_eq]
  intro c hc
  simp only [codes1, List.mem_cons, List.not_mem_nil, or_false] at hc
  rcases hc with rfl | rfl | rfl
  · exact w_c0
  · exact w_c1
  · exact w_c2
set_option maxRecDepth 65536 in
theorem w_t1 : words1.all (fun c => isCode c || c.before args0 about1) = true := by decide +kernel
theorem w_tables : (allAtoms (Jvm.Cond.code x code maxLocals ret :: tables_1)).before args0 about1 = true := by
  rw [allAtoms_all]
  show words1.all (fun c => c.before args0 about1) = true
  refine all_split ?_ w_codes
  rw [w_t1]
set_option maxRecDepth 65536 in
theorem w_case : (Jvm.Cond.and given_1 narrow_1).before args0 about1 = true := by decide +kernel
theorem w_applies : (headSpec (Jvm.Cond.code x code maxLocals ret :: tables_1) room_1).applies x e0.platform about1 = true :=
  (Spec.applies_iff w_frames).mpr ⟨w_running, w_runnable, w_alone, w_named, w_hears, w_ripe, w_room, w_tables⟩
theorem atStart : AtStart classFile x code maxLocals ret World_1 tables_1 room_1 Calls_1 rest_1 Pre_1 launch0 p0 e0 about1 theMethod args0 below0 :=
  ⟨lists_1, trivial, launch0.admits_env _ _ _, launch0.least_env, fairChoices_fair.cas, fairChoices_fair.clock, w_frames, w_args, w_heap, w_applies, trivial, trivial, w_case⟩
end start1
theorem witness_1 : WitnessClaimed_1 := ⟨start1.p0, start1.e0, start1.about1, start1.theMethod, start1.args0, start1.below0, start1.atStart⟩
end Jvm.Pilot.@@N@@
