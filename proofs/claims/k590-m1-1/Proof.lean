import JvmDerived
import JvmDerived.Pilot.@@N@@Statement
import JvmDerived.Pilot.@@N@@Code
set_option linter.unusedVariables false
set_option linter.unusedSimpArgs false
namespace Jvm.RoadKit
open Sem ClassFile Op Lib Jvm.Stand Jvm.Free Jvm.LawKit
section New
variable {p : Program} {l : Launch} {e : Env} {R : Room} {s : State} {m : MethodId} {args : Array Value} {below : List Frame} {meth : Method} {c : Code} {T T' : State} {locs : List Loc} {cells slots : Nat}
/-- what a body leaves: the value, and what is known of the heap and of the places written -/
def QV (w : Option Value) (P : Heap → List Loc → Prop) (v : Option Value) (h : Heap) (L : List Loc) : Prop := v = w ∧ P h L
/-- a body that writes nothing -/
def PureP (n0 : Nat) (h0 : Heap) (h : Heap) (L : List Loc) : Prop := Fr n0 L ∧ h = h0
/-- from here the body returns w and leaves P -/
def Got (p : Program) (e : Env) (below : List Frame) (s : State) (P : Heap → List Loc → Prop) (ck cs : Nat) (w : Option Value) (T : State) (g : JFrame) : Prop :=
  ∃ s₂ L, Steps p.tables e below (T.setTop g) s₂ ∧ s₂.status = .running ∧ Ended s₂ below (.returned w) ∧ P s₂.heap L ∧ FrameEnd s (.returned w) s₂ L ck cs
variable {P : Heap → List Loc → Prop} {ck cs : Nat} {w : Option Value} {g g' : JFrame}
theorem Got.step (h : ∀ t, Steps p.tables e below (T'.setTop g') t → Steps p.tables e below (T.setTop g) t) (k : Got p e below s P ck cs w T' g') : Got p e below s P ck cs w T g := by
  obtain ⟨s₂, L, h1, r⟩ := k
  exact ⟨s₂, L, h _ h1, r⟩
theorem Got.hop (h : Steps p.tables e below (T.setTop g) (T'.setTop g')) (k : Got p e below s P ck cs w T' g') : Got p e below s P ck cs w T g := Got.step (fun _ q => h.trans q) k
theorem Got.ite {q : Prop} [Decidable q] {x y : Int32} (h1 : q → Got p e below s P ck cs (some (.int x)) T g) (h2 : ¬ q → Got p e below s P ck cs (some (.int y)) T g) : Got p e below s P ck cs (some (.int (if q then x else y))) T g := by
  by_cases h : q
  · rw [if_pos h]; exact h1 h
  · rw [if_neg h]; exact h2 h
theorem Got.iteJ {q : Prop} [Decidable q] {x y : Int64} (h1 : q → Got p e below s P ck cs (some (.long x)) T g) (h2 : ¬ q → Got p e below s P ck cs (some (.long y)) T g) : Got p e below s P ck cs (some (.long (if q then x else y))) T g := by
  by_cases h : q
  · rw [if_pos h]; exact h1 h
  · rw [if_neg h]; exact h2 h
theorem Got.iteR {q : Prop} [Decidable q] {x y : Addr} (h1 : q → Got p e below s P ck cs (some (.ref x)) T g) (h2 : ¬ q → Got p e below s P ck cs (some (.ref y)) T g) : Got p e below s P ck cs (some (.ref (if q then x else y))) T g := by
  by_cases h : q
  · rw [if_pos h]; exact h1 h
  · rw [if_neg h]; exact h2 h
theorem Got.body {n : Nat} {as' : Array Value} (hg : entryFrame m as' n = g) (k : Got p e below s P ck cs w T g) :
    ∃ s₂ o, Steps p.tables e below (T.setTop (entryFrame m as' n)) s₂ ∧ s₂.status = .running ∧ Ended s₂ below o ∧ ∃ v L, o = .returned v ∧ QV w P v s₂.heap L ∧ FrameEnd s o s₂ L ck cs := by
  obtain ⟨s₂, L, h1, h2, h3, h4, h5⟩ := k
  exact ⟨s₂, _, by rw [hg]; exact h1, h2, h3, w, L, rfl, ⟨rfl, h4⟩, h5⟩
theorem Got.retN (X : Stand p l e R s m args below meth c T locs cells slots) (hx : p.tables.exec = Jvm.exec) {t : FieldType} (hret : meth.sig.returnType = some t) (ht : t = .boolean ∨ t = .byte ∨ t = .char ∨ t = .short) (hlk : meth.locks = false) {pc : Nat} {Ls : Array Slot} {z y : Int32} {rest : List Value}
    (hd : decode c.code pc = .ok (.ireturn, 1)) (hy : nar t z = y) (hP : P T.heap locs) (hc : cells ≤ ck) (hs : slots ≤ cs) : Got p e below s P ck cs (some (.int y)) T (mkF m pc Ls (.int z :: rest)) := by
  subst hy
  obtain ⟨fs, hr, hrun, hended, hW, hsame⟩ := X.leave (v := some (.int (nar t z))) (fun h => by rw [hret] at h; cases h) hlk
  exact ⟨_, locs, Jvm.RoadKit.retN X hx hret ht hd hr, hrun, hended, hP, ⟨_, rfl⟩, hW, hsame.mono hc hs⟩
theorem Got.retI (X : Stand p l e R s m args below meth c T locs cells slots) (hx : p.tables.exec = Jvm.exec) (hret : meth.sig.returnType = some .int) (hlk : meth.locks = false) {pc : Nat} {Ls : Array Slot} {z y : Int32} {rest : List Value}
    (hd : decode c.code pc = .ok (.ireturn, 1)) (hy : z = y) (hP : P T.heap locs) (hc : cells ≤ ck) (hs : slots ≤ cs) : Got p e below s P ck cs (some (.int y)) T (mkF m pc Ls (.int z :: rest)) := by
  subst hy
  obtain ⟨fs, hr, hrun, hended, hW, hsame⟩ := X.leave (v := some (.int z)) (fun h => by rw [hret] at h; cases h) hlk
  exact ⟨_, locs, retOut X hx hret rfl (Or.inl ⟨rfl, Or.inl rfl, z, rfl⟩) hd hr, hrun, hended, hP, ⟨_, rfl⟩, hW, hsame.mono hc hs⟩
theorem Got.retJ (X : Stand p l e R s m args below meth c T locs cells slots) (hx : p.tables.exec = Jvm.exec) (hret : meth.sig.returnType = some .long) (hlk : meth.locks = false) {pc : Nat} {Ls : Array Slot} {z y : Int64}
    (hd : decode c.code pc = .ok (.lreturn, 1)) (hy : z = y) (hP : P T.heap locs) (hc : cells ≤ ck) (hs : slots ≤ cs) : Got p e below s P ck cs (some (.long y)) T (mkF m pc Ls [.long z]) := by
  subst hy
  obtain ⟨fs, hr, hrun, hended, hW, hsame⟩ := X.leave (v := some (.long z)) (fun h => by rw [hret] at h; cases h) hlk
  exact ⟨_, locs, X.lreturnOut hx hret hd hr, hrun, hended, hP, ⟨_, rfl⟩, hW, hsame.mono hc hs⟩
theorem Got.retV (X : Stand p l e R s m args below meth c T locs cells slots) (hx : p.tables.exec = Jvm.exec) (hret : meth.sig.returnType = none) (hlk : meth.locks = false) {pc : Nat} {Ls : Array Slot}
    (hd : decode c.code pc = .ok (.return_, 1)) (hP : P T.heap locs) (hc : cells ≤ ck) (hs : slots ≤ cs) : Got p e below s P ck cs none T (mkF m pc Ls []) := by
  obtain ⟨fs, hr, hrun, hended, hW, hsame⟩ := X.leave (v := none) (fun _ => rfl) hlk
  exact ⟨_, locs, X.returnOut hx hret hd hr, hrun, hended, hP, ⟨_, rfl⟩, hW, hsame.mono hc hs⟩
theorem Got.retA (X : Stand p l e R s m args below meth c T locs cells slots) (hx : p.tables.exec = Jvm.exec) {t : FieldType} (hret : meth.sig.returnType = some t) (ht : t.isReference = true) (hlk : meth.locks = false) {pc : Nat} {Ls : Array Slot} {a : Addr} {rest : List Value}
    (hd : decode c.code pc = .ok (.areturn, 1)) (hn : narrow t (.ref a) = .ref a) (hP : P T.heap locs) (hc : cells ≤ ck) (hs : slots ≤ cs) : Got p e below s P ck cs (some (.ref a)) T (mkF m pc Ls (.ref a :: rest)) := by
  obtain ⟨fs, hr, hrun, hended, hW, hsame⟩ := X.leave (v := some (.ref a)) (fun h => by rw [hret] at h; cases h) hlk
  exact ⟨_, locs, retOut X hx hret hn (Or.inr (Or.inr (Or.inr (Or.inr ⟨rfl, ht, rfl⟩)))) hd hr, hrun, hended, hP, ⟨_, rfl⟩, hW, hsame.mono hc hs⟩
theorem remJ {g : JFrame} {target : State} (X : Stand p l e R s m args below meth c T locs cells slots) (hx : p.tables.exec = Jvm.exec) (hg : g.method = m) {x y : Int64} {rest : List Value} (hd : decode c.code g.pc = .ok (.lrem, 1)) (hs : g.stack = .long y :: .long x :: rest) (hy : y ≠ 0)
    (hr : Steps p.tables e below (T.setTop { g with pc := g.pc + 1, stack := .long (x % y) :: rest }) target) : Steps p.tables e below (T.setTop g) target := by
  rw [← lrem_mod x y] at hr
  exact XS.lrem X.here hx hg hd hs hy hr
theorem one_unset : One .unset := Or.inl rfl
theorem one_int (x : Int32) : One (.val (.int x)) := Or.inr ⟨_, rfl, rfl⟩
theorem one_ref (x : Addr) : One (.val (.ref x)) := Or.inr ⟨_, rfl, rfl⟩
theorem narB (x : Int32) : nar .byte x.toInt8.toInt32 = x.toInt8.toInt32 := by simp [nar]
end New
end Jvm.RoadKit
namespace Jvm.Pilot.@@N@@
open Jvm Jvm.ClassFile Sem Op Lib Jvm.Free Jvm.Stand Jvm.LawKit Jvm.RoadKit Bundle Jvm.Pilot.@@N@@.Jvm.D
def num : Int32 → List Int32 → Int32
  | acc, [] => acc
  | acc, b :: t => if b < (48 : Int32) then (-1 : Int32) else (if (57 : Int32) < b then (-1 : Int32) else num (((acc * (10 : Int32)) + b) - (48 : Int32)) t)
theorem own_i {i : Nat} (h : i < 2147483648) : (Int32.ofNat i).toInt = i := Int32.toInt_ofNat_of_lt h
theorem own_n32 {i : Nat} (h : i < 2147483648) : (Int32.ofNat i).toNatClampNeg = i := by rw [Int32.toNatClampNeg, own_i h]; rfl
theorem own_one (i : Nat) : Int32.ofNat i + (1 : Int32) = Int32.ofNat (i + 1) := (Int32.ofNat_add i 1).symm
theorem own_lt {f d i k : Nat} (hfd : f + d ≤ 7) (h : i + (k + 1) = f + d) : Int32.ofNat i < Int32.ofNat f + Int32.ofNat d := by
  rw [← Int32.ofNat_add, Int32.lt_iff_toInt_lt, own_i (by omega), own_i (by omega)]; omega
theorem own_ge {f d i : Nat} (hfd : f + d ≤ 7) (h : i + 0 = f + d) : ¬ Int32.ofNat i < Int32.ofNat f + Int32.ofNat d := by
  rw [← Int32.ofNat_add, Int32.lt_iff_toInt_lt, own_i (by omega), own_i (by omega)]; omega
theorem own_in {bs : List Int32} {i : Nat} (h : i < bs.length) (hl : bs.length = 7) : ¬ Int32.ofNat i < 0 ∧ Int32.ofNat i < 7 := by
  have z : (0 : Int32).toInt = 0 := rfl
  have z7 : (7 : Int32).toInt = 7 := rfl
  rw [Int32.lt_iff_toInt_lt, Int32.lt_iff_toInt_lt, own_i (by omega), z, z7]; omega
theorem own_getD (bs : List Int32) (n : Nat) : (bs.map Value.int).getD n (.int (0 : Int32)) = .int (bs.getD n 0) := by
  rw [List.getD_eq_getElem?_getD, List.getD_eq_getElem?_getD, List.getElem?_map]
  cases bs[n]? <;> rfl
theorem own_at {bs : List Int32} {i : Nat} (h : i < bs.length) (hl : bs.length = 7) : (bs.map Value.int).getD (Int32.ofNat i).toNatClampNeg (.int (0 : Int32)) = .int bs[i] := by
  rw [own_n32 (by omega), own_getD]
  simp [List.getD_eq_getElem?_getD, h]

def f1 (q0 : Int64) (q1 : Int64) (p2 : Int32) (p3 : Int32)  : Int32 := (if (((p2.toUInt32 >>> (p3 &&& 31).toUInt32).toInt32) &&& (1 : Int32)) = 0 then ((((q0.toUInt64 >>> (((8 : Int32) * p3) &&& 0x3f).toInt64.toUInt64).toInt64).toInt32).toInt8.toInt32) else (((48 : Int32) + (((((q1.toUInt64 >>> (((4 : Int32) * p3) &&& 0x3f).toInt64.toUInt64).toInt64) &&& (15 : Int64)).toInt32) % (10 : Int32))).toInt8.toInt32))
theorem ef_1 (m : MethodId) (x0 : Int64) (x1 : Int64) (x2 : Int32) (x3 : Int32) : entryFrame m #[(.long x0), (.long x1), (.int x2), (.int x3)] 6 = mkF m 0 #[.val (.long x0), .second, .val (.long x1), .second, .val (.int x2), .val (.int x3)] [] := by first | (simp [entryFrame, mkF, argsToLocals, Value.category]; done) | rfl
theorem pn_0 : plainName "lavka/io/Iso2709NumberPinLaw" = true := by first | (simp [plainName, overriddenIn]; done) | decide +kernel
theorem d1_0 : decode method_2_code 0 = .ok (.iload 4, 2) := by decide +kernel
theorem d1_2 : decode method_2_code 2 = .ok (.iload 5, 2) := by decide +kernel
theorem d1_4 : decode method_2_code 4 = .ok (.iushr, 1) := by decide +kernel
theorem d1_5 : decode method_2_code 5 = .ok (.iconst 1, 1) := by decide +kernel
theorem d1_6 : decode method_2_code 6 = .ok (.iand, 1) := by decide +kernel
theorem d1_7 : decode method_2_code 7 = .ok (.ifCond .eq 22, 3) := by decide +kernel
theorem d1_10 : decode method_2_code 10 = .ok (.bipush 48, 2) := by decide +kernel
theorem d1_12 : decode method_2_code 12 = .ok (.lload_n 2, 1) := by decide +kernel
theorem d1_13 : decode method_2_code 13 = .ok (.iconst 4, 1) := by decide +kernel
theorem d1_14 : decode method_2_code 14 = .ok (.iload 5, 2) := by decide +kernel
theorem d1_16 : decode method_2_code 16 = .ok (.imul, 1) := by decide +kernel
theorem d1_17 : decode method_2_code 17 = .ok (.lushr, 1) := by decide +kernel
theorem d1_18 : decode method_2_code 18 = .ok (.ldc2_w 7, 3) := by decide +kernel
theorem d1_21 : decode method_2_code 21 = .ok (.land, 1) := by decide +kernel
theorem d1_22 : decode method_2_code 22 = .ok (.l2i, 1) := by decide +kernel
theorem d1_23 : decode method_2_code 23 = .ok (.bipush 10, 2) := by decide +kernel
theorem d1_25 : decode method_2_code 25 = .ok (.irem, 1) := by decide +kernel
theorem d1_26 : decode method_2_code 26 = .ok (.iadd, 1) := by decide +kernel
theorem d1_27 : decode method_2_code 27 = .ok (.i2b, 1) := by decide +kernel
theorem d1_28 : decode method_2_code 28 = .ok (.ireturn, 1) := by decide +kernel
theorem d1_29 : decode method_2_code 29 = .ok (.lload_n 0, 1) := by decide +kernel
theorem d1_30 : decode method_2_code 30 = .ok (.bipush 8, 2) := by decide +kernel
theorem d1_32 : decode method_2_code 32 = .ok (.iload 5, 2) := by decide +kernel
theorem d1_34 : decode method_2_code 34 = .ok (.imul, 1) := by decide +kernel
theorem d1_35 : decode method_2_code 35 = .ok (.lushr, 1) := by decide +kernel
theorem d1_36 : decode method_2_code 36 = .ok (.l2i, 1) := by decide +kernel
theorem d1_37 : decode method_2_code 37 = .ok (.i2b, 1) := by decide +kernel
theorem d1_38 : decode method_2_code 38 = .ok (.ireturn, 1) := by decide +kernel
set_option maxRecDepth 65536 in
set_option maxHeartbeats 40000000 in
theorem rm1 (l : Launch) (Z : State) (a0 : Array Value) (hw : ∀ d ∈ tables_1, d.before a0 Z = true) (ws : List Jvm.Cond) (q0 : Int64) (q1 : Int64) (p2 : Int32) (p3 : Int32)  (h0 : Heap) (n0 : Nat) (Z0 : n0 ≤ h0.size)  :
    MetFree l (⟨"lavka/io/Iso2709NumberPinLaw", "pick", "(JJII)B"⟩ : MethodName) (head1 (Jvm.Cond.code (⟨"lavka/io/Iso2709NumberPinLaw", "pick", "(JJII)B"⟩ : MethodName) method_2_code 6 (some .byte) :: ws) ({ frames := 0, cells := 0, slots := 0, locals := 0 } : Room)) (fun a U => a = #[(.long q0), (.long q1), (.int p2), (.int p3)] ∧ Z.Warmed39 U.vm ∧ U.heap = h0) (fun _ _ _ _ _ => True) (fun _ U o U' => ∃ v L, o = .returned v ∧ QV (some (.int (f1 q0 q1 p2 p3))) (PureP n0 h0) v U'.heap L ∧ FrameEnd U o U' L ({ frames := 0, cells := 0, slots := 0, locals := 0 } : Room).cells ({ frames := 0, cells := 0, slots := 0, locals := 0 } : Room).slots) := by
  refine MetFree.of_bodySF (plainFor_of_name pn_0) hisR ?_
  intro p e s m args below meth c s₁ Bd hml0 hP hK
  obtain ⟨rfl, hZ, hh⟩ := hP
  have hx := Bd.exec
  have hby := Bd.bytes
  have hml : c.maxLocals = 6 := hml0
  have hown : s.vm.findClass "lavka/io/Iso2709NumberPinLaw" = some m.cls := findClass_of_methodNamed Bd.named
  have hnm := (name_of_methodNamed Bd.named Bd.method).1
  have hlk : meth.locks = false := BodyLoose.notSynchronized Bd
  have X0 : Stand p l e ({ frames := 0, cells := 0, slots := 0, locals := 0 } : Room) s m #[(.long q0), (.long q1), (.int p2), (.int p3)] below meth c s₁ [] 0 0 := Stand.of_body Bd
  have e0 : s₁.heap = h0 := by rw [← hh, Bd.state]; rfl
  have N0 := Fr.nil n0
  refine Got.body (ef_1 m q0 q1 p2 p3) ?_
  refine Got.step (T' := s₁) (g' := (mkF m 7 #[.val (.long q0), .second, .val (.long q1), .second, .val (.int p2), .val (.int p3)] [(.int (((p2.toUInt32 >>> (p3 &&& 31).toUInt32).toInt32) &&& (1 : Int32)))])) (fun tq kt => ?_) ?_
  · show Steps p.tables e below (s₁.setTop (mkF m 0 #[.val (.long q0), .second, .val (.long q1), .second, .val (.int p2), .val (.int p3)] [])) _
    refine XS.iload X0.here hx rfl (hb hby d1_0) rfl ?_
    show Steps p.tables e below (s₁.setTop (mkF m 2 #[.val (.long q0), .second, .val (.long q1), .second, .val (.int p2), .val (.int p3)] [(.int p2)])) _
    refine XS.iload X0.here hx rfl (hb hby d1_2) rfl ?_
    show Steps p.tables e below (s₁.setTop (mkF m 4 #[.val (.long q0), .second, .val (.long q1), .second, .val (.int p2), .val (.int p3)] [(.int p3), (.int p2)])) _
    refine XS.iushr X0.here hx rfl (hb hby d1_4) rfl ?_
    show Steps p.tables e below (s₁.setTop (mkF m 5 #[.val (.long q0), .second, .val (.long q1), .second, .val (.int p2), .val (.int p3)] [(.int ((p2.toUInt32 >>> (p3 &&& 31).toUInt32).toInt32))])) _
    refine XS.iconst X0.here hx rfl (hb hby d1_5) ?_
    show Steps p.tables e below (s₁.setTop (mkF m 6 #[.val (.long q0), .second, .val (.long q1), .second, .val (.int p2), .val (.int p3)] [(.int (1 : Int32)), (.int ((p2.toUInt32 >>> (p3 &&& 31).toUInt32).toInt32))])) _
    refine XS.iand X0.here hx rfl (hb hby d1_6) rfl ?_
    exact kt
  refine Got.ite (q := ((((p2.toUInt32 >>> (p3 &&& 31).toUInt32).toInt32) &&& (1 : Int32)) = 0)) (fun hc1 => ?_) (fun hc1 => ?_)
  · refine Got.step (T' := s₁) (g' := (mkF m 38 #[.val (.long q0), .second, .val (.long q1), .second, .val (.int p2), .val (.int p3)] [(.int ((((q0.toUInt64 >>> (((8 : Int32) * p3) &&& 0x3f).toInt64.toUInt64).toInt64).toInt32).toInt8.toInt32))])) (fun tq kt => ?_) ?_
    · show Steps p.tables e below (s₁.setTop (mkF m 7 #[.val (.long q0), .second, .val (.long q1), .second, .val (.int p2), .val (.int p3)] [(.int (((p2.toUInt32 >>> (p3 &&& 31).toUInt32).toInt32) &&& (1 : Int32)))])) _
      refine XS.ifYes X0.here hx rfl (pc0 := 7) (pc' := 29) rfl (hb hby d1_7) rfl (XT.i0_eq_t hc1) (by decide) (by decide) ?_
      show Steps p.tables e below (s₁.setTop (mkF m 29 #[.val (.long q0), .second, .val (.long q1), .second, .val (.int p2), .val (.int p3)] [])) _
      refine XS.lloadN X0.here hx rfl (hb hby d1_29) rfl ?_
      show Steps p.tables e below (s₁.setTop (mkF m 30 #[.val (.long q0), .second, .val (.long q1), .second, .val (.int p2), .val (.int p3)] [(.long q0)])) _
      refine XS.bipush X0.here hx rfl (hb hby d1_30) ?_
      show Steps p.tables e below (s₁.setTop (mkF m 32 #[.val (.long q0), .second, .val (.long q1), .second, .val (.int p2), .val (.int p3)] [(.int (8 : Int32)), (.long q0)])) _
      refine XS.iload X0.here hx rfl (hb hby d1_32) rfl ?_
      show Steps p.tables e below (s₁.setTop (mkF m 34 #[.val (.long q0), .second, .val (.long q1), .second, .val (.int p2), .val (.int p3)] [(.int p3), (.int (8 : Int32)), (.long q0)])) _
      refine XS.imul X0.here hx rfl (hb hby d1_34) rfl ?_
      show Steps p.tables e below (s₁.setTop (mkF m 35 #[.val (.long q0), .second, .val (.long q1), .second, .val (.int p2), .val (.int p3)] [(.int ((8 : Int32) * p3)), (.long q0)])) _
      refine XS.lushr X0.here hx rfl (hb hby d1_35) rfl ?_
      show Steps p.tables e below (s₁.setTop (mkF m 36 #[.val (.long q0), .second, .val (.long q1), .second, .val (.int p2), .val (.int p3)] [(.long ((q0.toUInt64 >>> (((8 : Int32) * p3) &&& 0x3f).toInt64.toUInt64).toInt64))])) _
      refine XS.l2i X0.here hx rfl (hb hby d1_36) rfl ?_
      show Steps p.tables e below (s₁.setTop (mkF m 37 #[.val (.long q0), .second, .val (.long q1), .second, .val (.int p2), .val (.int p3)] [(.int (((q0.toUInt64 >>> (((8 : Int32) * p3) &&& 0x3f).toInt64.toUInt64).toInt64).toInt32))])) _
      refine XS.i2b X0.here hx rfl (hb hby d1_37) rfl ?_
      exact kt
    exact Got.retN (y := ((((q0.toUInt64 >>> (((8 : Int32) * p3) &&& 0x3f).toInt64.toUInt64).toInt64).toInt32).toInt8.toInt32)) (t := .byte) X0 hx Bd.returns (by simp) hlk (hb hby d1_38) (narB _) ⟨N0, e0⟩ (by decide) (by decide)
  · refine Got.step (T' := s₁) (g' := (mkF m 28 #[.val (.long q0), .second, .val (.long q1), .second, .val (.int p2), .val (.int p3)] [(.int (((48 : Int32) + (((((q1.toUInt64 >>> (((4 : Int32) * p3) &&& 0x3f).toInt64.toUInt64).toInt64) &&& (15 : Int64)).toInt32) % (10 : Int32))).toInt8.toInt32))])) (fun tq kt => ?_) ?_
    · show Steps p.tables e below (s₁.setTop (mkF m 7 #[.val (.long q0), .second, .val (.long q1), .second, .val (.int p2), .val (.int p3)] [(.int (((p2.toUInt32 >>> (p3 &&& 31).toUInt32).toInt32) &&& (1 : Int32)))])) _
      refine XS.ifNo X0.here hx rfl (hb hby d1_7) rfl (XT.i0_eq_f hc1) ?_
      show Steps p.tables e below (s₁.setTop (mkF m 10 #[.val (.long q0), .second, .val (.long q1), .second, .val (.int p2), .val (.int p3)] [])) _
      refine XS.bipush X0.here hx rfl (hb hby d1_10) ?_
      show Steps p.tables e below (s₁.setTop (mkF m 12 #[.val (.long q0), .second, .val (.long q1), .second, .val (.int p2), .val (.int p3)] [(.int (48 : Int32))])) _
      refine XS.lloadN X0.here hx rfl (hb hby d1_12) rfl ?_
      show Steps p.tables e below (s₁.setTop (mkF m 13 #[.val (.long q0), .second, .val (.long q1), .second, .val (.int p2), .val (.int p3)] [(.long q1), (.int (48 : Int32))])) _
      refine XS.iconst X0.here hx rfl (hb hby d1_13) ?_
      show Steps p.tables e below (s₁.setTop (mkF m 14 #[.val (.long q0), .second, .val (.long q1), .second, .val (.int p2), .val (.int p3)] [(.int (4 : Int32)), (.long q1), (.int (48 : Int32))])) _
      refine XS.iload X0.here hx rfl (hb hby d1_14) rfl ?_
      show Steps p.tables e below (s₁.setTop (mkF m 16 #[.val (.long q0), .second, .val (.long q1), .second, .val (.int p2), .val (.int p3)] [(.int p3), (.int (4 : Int32)), (.long q1), (.int (48 : Int32))])) _
      refine XS.imul X0.here hx rfl (hb hby d1_16) rfl ?_
      show Steps p.tables e below (s₁.setTop (mkF m 17 #[.val (.long q0), .second, .val (.long q1), .second, .val (.int p2), .val (.int p3)] [(.int ((4 : Int32) * p3)), (.long q1), (.int (48 : Int32))])) _
      refine XS.lushr X0.here hx rfl (hb hby d1_17) rfl ?_
      show Steps p.tables e below (s₁.setTop (mkF m 18 #[.val (.long q0), .second, .val (.long q1), .second, .val (.int p2), .val (.int p3)] [(.long ((q1.toUInt64 >>> (((4 : Int32) * p3) &&& 0x3f).toInt64.toUInt64).toInt64)), (.int (48 : Int32))])) _
      refine X0.ldc2J hx hown (mvT hZ (hw _ (List.mem_of_getElem? (i := 12) rfl))) rfl (hb hby d1_18) ?_
      show Steps p.tables e below (s₁.setTop (mkF m 21 #[.val (.long q0), .second, .val (.long q1), .second, .val (.int p2), .val (.int p3)] [(.long (15 : Int64)), (.long ((q1.toUInt64 >>> (((4 : Int32) * p3) &&& 0x3f).toInt64.toUInt64).toInt64)), (.int (48 : Int32))])) _
      refine XS.land X0.here hx rfl (hb hby d1_21) rfl ?_
      show Steps p.tables e below (s₁.setTop (mkF m 22 #[.val (.long q0), .second, .val (.long q1), .second, .val (.int p2), .val (.int p3)] [(.long (((q1.toUInt64 >>> (((4 : Int32) * p3) &&& 0x3f).toInt64.toUInt64).toInt64) &&& (15 : Int64))), (.int (48 : Int32))])) _
      refine XS.l2i X0.here hx rfl (hb hby d1_22) rfl ?_
      show Steps p.tables e below (s₁.setTop (mkF m 23 #[.val (.long q0), .second, .val (.long q1), .second, .val (.int p2), .val (.int p3)] [(.int ((((q1.toUInt64 >>> (((4 : Int32) * p3) &&& 0x3f).toInt64.toUInt64).toInt64) &&& (15 : Int64)).toInt32)), (.int (48 : Int32))])) _
      refine XS.bipush X0.here hx rfl (hb hby d1_23) ?_
      show Steps p.tables e below (s₁.setTop (mkF m 25 #[.val (.long q0), .second, .val (.long q1), .second, .val (.int p2), .val (.int p3)] [(.int (10 : Int32)), (.int ((((q1.toUInt64 >>> (((4 : Int32) * p3) &&& 0x3f).toInt64.toUInt64).toInt64) &&& (15 : Int64)).toInt32)), (.int (48 : Int32))])) _
      refine iremM X0 hx rfl (hb hby d1_25) rfl (by decide) ?_
      show Steps p.tables e below (s₁.setTop (mkF m 26 #[.val (.long q0), .second, .val (.long q1), .second, .val (.int p2), .val (.int p3)] [(.int (((((q1.toUInt64 >>> (((4 : Int32) * p3) &&& 0x3f).toInt64.toUInt64).toInt64) &&& (15 : Int64)).toInt32) % (10 : Int32))), (.int (48 : Int32))])) _
      refine XS.iadd X0.here hx rfl (hb hby d1_26) rfl ?_
      show Steps p.tables e below (s₁.setTop (mkF m 27 #[.val (.long q0), .second, .val (.long q1), .second, .val (.int p2), .val (.int p3)] [(.int ((48 : Int32) + (((((q1.toUInt64 >>> (((4 : Int32) * p3) &&& 0x3f).toInt64.toUInt64).toInt64) &&& (15 : Int64)).toInt32) % (10 : Int32))))])) _
      refine XS.i2b X0.here hx rfl (hb hby d1_27) rfl ?_
      exact kt
    exact Got.retN (y := (((48 : Int32) + (((((q1.toUInt64 >>> (((4 : Int32) * p3) &&& 0x3f).toInt64.toUInt64).toInt64) &&& (15 : Int64)).toInt32) % (10 : Int32))).toInt8.toInt32)) (t := .byte) X0 hx Bd.returns (by simp) hlk (hb hby d1_28) (narB _) ⟨N0, e0⟩ (by decide) (by decide)
def f4 (p0 : Int32)  : Int32 := (if p0 = 0 then (1 : Int32) else (if p0 = (1 : Int32) then (10 : Int32) else (if p0 = (2 : Int32) then (100 : Int32) else (if p0 = (3 : Int32) then (1000 : Int32) else (10000 : Int32)))))
theorem ef_4 (m : MethodId) (x0 : Int32) : entryFrame m #[(.int x0)] 1 = mkF m 0 #[.val (.int x0)] [] := by first | (simp [entryFrame, mkF, argsToLocals, Value.category]; done) | rfl
theorem d4_0 : decode method_3_code 0 = .ok (.iload_n 0, 1) := by decide +kernel
theorem d4_1 : decode method_3_code 1 = .ok (.ifCond .ne 5, 3) := by decide +kernel
theorem d4_4 : decode method_3_code 4 = .ok (.iconst 1, 1) := by decide +kernel
theorem d4_5 : decode method_3_code 5 = .ok (.ireturn, 1) := by decide +kernel
theorem d4_6 : decode method_3_code 6 = .ok (.iload_n 0, 1) := by decide +kernel
theorem d4_7 : decode method_3_code 7 = .ok (.iconst 1, 1) := by decide +kernel
theorem d4_8 : decode method_3_code 8 = .ok (.if_icmp .ne 6, 3) := by decide +kernel
theorem d4_11 : decode method_3_code 11 = .ok (.bipush 10, 2) := by decide +kernel
theorem d4_13 : decode method_3_code 13 = .ok (.ireturn, 1) := by decide +kernel
theorem d4_14 : decode method_3_code 14 = .ok (.iload_n 0, 1) := by decide +kernel
theorem d4_15 : decode method_3_code 15 = .ok (.iconst 2, 1) := by decide +kernel
theorem d4_16 : decode method_3_code 16 = .ok (.if_icmp .ne 6, 3) := by decide +kernel
theorem d4_19 : decode method_3_code 19 = .ok (.bipush 100, 2) := by decide +kernel
theorem d4_21 : decode method_3_code 21 = .ok (.ireturn, 1) := by decide +kernel
theorem d4_22 : decode method_3_code 22 = .ok (.iload_n 0, 1) := by decide +kernel
theorem d4_23 : decode method_3_code 23 = .ok (.iconst 3, 1) := by decide +kernel
theorem d4_24 : decode method_3_code 24 = .ok (.if_icmp .ne 7, 3) := by decide +kernel
theorem d4_27 : decode method_3_code 27 = .ok (.sipush 1000, 3) := by decide +kernel
theorem d4_30 : decode method_3_code 30 = .ok (.ireturn, 1) := by decide +kernel
theorem d4_31 : decode method_3_code 31 = .ok (.sipush 10000, 3) := by decide +kernel
theorem d4_34 : decode method_3_code 34 = .ok (.ireturn, 1) := by decide +kernel
set_option maxRecDepth 65536 in
set_option maxHeartbeats 40000000 in
theorem rm4 (l : Launch) (Z : State) (a0 : Array Value) (hw : ∀ d ∈ tables_1, d.before a0 Z = true) (ws : List Jvm.Cond) (p0 : Int32)  (h0 : Heap) (n0 : Nat) (Z0 : n0 ≤ h0.size)  :
    MetFree l (⟨"lavka/io/Iso2709NumberPinLaw", "pow10", "(I)I"⟩ : MethodName) (head1 (Jvm.Cond.code (⟨"lavka/io/Iso2709NumberPinLaw", "pow10", "(I)I"⟩ : MethodName) method_3_code 1 (some .int) :: ws) ({ frames := 0, cells := 0, slots := 0, locals := 0 } : Room)) (fun a U => a = #[(.int p0)] ∧ Z.Warmed39 U.vm ∧ U.heap = h0) (fun _ _ _ _ _ => True) (fun _ U o U' => ∃ v L, o = .returned v ∧ QV (some (.int (f4 p0))) (PureP n0 h0) v U'.heap L ∧ FrameEnd U o U' L ({ frames := 0, cells := 0, slots := 0, locals := 0 } : Room).cells ({ frames := 0, cells := 0, slots := 0, locals := 0 } : Room).slots) := by
  refine MetFree.of_bodySF (plainFor_of_name pn_0) hisR ?_
  intro p e s m args below meth c s₁ Bd hml0 hP hK
  obtain ⟨rfl, hZ, hh⟩ := hP
  have hx := Bd.exec
  have hby := Bd.bytes
  have hml : c.maxLocals = 1 := hml0
  have hown : s.vm.findClass "lavka/io/Iso2709NumberPinLaw" = some m.cls := findClass_of_methodNamed Bd.named
  have hnm := (name_of_methodNamed Bd.named Bd.method).1
  have hlk : meth.locks = false := BodyLoose.notSynchronized Bd
  have X0 : Stand p l e ({ frames := 0, cells := 0, slots := 0, locals := 0 } : Room) s m #[(.int p0)] below meth c s₁ [] 0 0 := Stand.of_body Bd
  have e0 : s₁.heap = h0 := by rw [← hh, Bd.state]; rfl
  have N0 := Fr.nil n0
  refine Got.body (ef_4 m p0) ?_
  refine Got.step (T' := s₁) (g' := (mkF m 1 #[.val (.int p0)] [(.int p0)])) (fun tq kt => ?_) ?_
  · show Steps p.tables e below (s₁.setTop (mkF m 0 #[.val (.int p0)] [])) _
    refine XS.iloadN X0.here hx rfl (hb hby d4_0) rfl ?_
    exact kt
  refine Got.ite (q := (p0 = 0)) (fun hc2 => ?_) (fun hc2 => ?_)
  · refine Got.step (T' := s₁) (g' := (mkF m 5 #[.val (.int p0)] [(.int (1 : Int32))])) (fun tq kt => ?_) ?_
    · show Steps p.tables e below (s₁.setTop (mkF m 1 #[.val (.int p0)] [(.int p0)])) _
      refine XS.ifNo X0.here hx rfl (hb hby d4_1) rfl (XT.i0_ne_f hc2) ?_
      show Steps p.tables e below (s₁.setTop (mkF m 4 #[.val (.int p0)] [])) _
      refine XS.iconst X0.here hx rfl (hb hby d4_4) ?_
      exact kt
    exact Got.retI (y := (1 : Int32)) X0 hx Bd.returns hlk (hb hby d4_5) rfl ⟨N0, e0⟩ (by decide) (by decide)
  · refine Got.step (T' := s₁) (g' := (mkF m 8 #[.val (.int p0)] [(.int (1 : Int32)), (.int p0)])) (fun tq kt => ?_) ?_
    · show Steps p.tables e below (s₁.setTop (mkF m 1 #[.val (.int p0)] [(.int p0)])) _
      refine XS.ifYes X0.here hx rfl (pc0 := 1) (pc' := 6) rfl (hb hby d4_1) rfl (XT.i0_ne_t hc2) (by decide) (by decide) ?_
      show Steps p.tables e below (s₁.setTop (mkF m 6 #[.val (.int p0)] [])) _
      refine XS.iloadN X0.here hx rfl (hb hby d4_6) rfl ?_
      show Steps p.tables e below (s₁.setTop (mkF m 7 #[.val (.int p0)] [(.int p0)])) _
      refine XS.iconst X0.here hx rfl (hb hby d4_7) ?_
      exact kt
    refine Got.ite (q := (p0 = (1 : Int32))) (fun hc3 => ?_) (fun hc3 => ?_)
    · refine Got.step (T' := s₁) (g' := (mkF m 13 #[.val (.int p0)] [(.int (10 : Int32))])) (fun tq kt => ?_) ?_
      · show Steps p.tables e below (s₁.setTop (mkF m 8 #[.val (.int p0)] [(.int (1 : Int32)), (.int p0)])) _
        refine XS.icmpNo X0.here hx rfl (hb hby d4_8) rfl (XT.ii_ne_f hc3) ?_
        show Steps p.tables e below (s₁.setTop (mkF m 11 #[.val (.int p0)] [])) _
        refine XS.bipush X0.here hx rfl (hb hby d4_11) ?_
        exact kt
      exact Got.retI (y := (10 : Int32)) X0 hx Bd.returns hlk (hb hby d4_13) rfl ⟨N0, e0⟩ (by decide) (by decide)
    · refine Got.step (T' := s₁) (g' := (mkF m 16 #[.val (.int p0)] [(.int (2 : Int32)), (.int p0)])) (fun tq kt => ?_) ?_
      · show Steps p.tables e below (s₁.setTop (mkF m 8 #[.val (.int p0)] [(.int (1 : Int32)), (.int p0)])) _
        refine XS.icmpYes X0.here hx rfl (pc0 := 8) (pc' := 14) rfl (hb hby d4_8) rfl (XT.ii_ne_t hc3) (by decide) (by decide) ?_
        show Steps p.tables e below (s₁.setTop (mkF m 14 #[.val (.int p0)] [])) _
        refine XS.iloadN X0.here hx rfl (hb hby d4_14) rfl ?_
        show Steps p.tables e below (s₁.setTop (mkF m 15 #[.val (.int p0)] [(.int p0)])) _
        refine XS.iconst X0.here hx rfl (hb hby d4_15) ?_
        exact kt
      refine Got.ite (q := (p0 = (2 : Int32))) (fun hc4 => ?_) (fun hc4 => ?_)
      · refine Got.step (T' := s₁) (g' := (mkF m 21 #[.val (.int p0)] [(.int (100 : Int32))])) (fun tq kt => ?_) ?_
        · show Steps p.tables e below (s₁.setTop (mkF m 16 #[.val (.int p0)] [(.int (2 : Int32)), (.int p0)])) _
          refine XS.icmpNo X0.here hx rfl (hb hby d4_16) rfl (XT.ii_ne_f hc4) ?_
          show Steps p.tables e below (s₁.setTop (mkF m 19 #[.val (.int p0)] [])) _
          refine XS.bipush X0.here hx rfl (hb hby d4_19) ?_
          exact kt
        exact Got.retI (y := (100 : Int32)) X0 hx Bd.returns hlk (hb hby d4_21) rfl ⟨N0, e0⟩ (by decide) (by decide)
      · refine Got.step (T' := s₁) (g' := (mkF m 24 #[.val (.int p0)] [(.int (3 : Int32)), (.int p0)])) (fun tq kt => ?_) ?_
        · show Steps p.tables e below (s₁.setTop (mkF m 16 #[.val (.int p0)] [(.int (2 : Int32)), (.int p0)])) _
          refine XS.icmpYes X0.here hx rfl (pc0 := 16) (pc' := 22) rfl (hb hby d4_16) rfl (XT.ii_ne_t hc4) (by decide) (by decide) ?_
          show Steps p.tables e below (s₁.setTop (mkF m 22 #[.val (.int p0)] [])) _
          refine XS.iloadN X0.here hx rfl (hb hby d4_22) rfl ?_
          show Steps p.tables e below (s₁.setTop (mkF m 23 #[.val (.int p0)] [(.int p0)])) _
          refine XS.iconst X0.here hx rfl (hb hby d4_23) ?_
          exact kt
        refine Got.ite (q := (p0 = (3 : Int32))) (fun hc5 => ?_) (fun hc5 => ?_)
        · refine Got.step (T' := s₁) (g' := (mkF m 30 #[.val (.int p0)] [(.int (1000 : Int32))])) (fun tq kt => ?_) ?_
          · show Steps p.tables e below (s₁.setTop (mkF m 24 #[.val (.int p0)] [(.int (3 : Int32)), (.int p0)])) _
            refine XS.icmpNo X0.here hx rfl (hb hby d4_24) rfl (XT.ii_ne_f hc5) ?_
            show Steps p.tables e below (s₁.setTop (mkF m 27 #[.val (.int p0)] [])) _
            refine XS.sipush X0.here hx rfl (hb hby d4_27) ?_
            exact kt
          exact Got.retI (y := (1000 : Int32)) X0 hx Bd.returns hlk (hb hby d4_30) rfl ⟨N0, e0⟩ (by decide) (by decide)
        · refine Got.step (T' := s₁) (g' := (mkF m 34 #[.val (.int p0)] [(.int (10000 : Int32))])) (fun tq kt => ?_) ?_
          · show Steps p.tables e below (s₁.setTop (mkF m 24 #[.val (.int p0)] [(.int (3 : Int32)), (.int p0)])) _
            refine XS.icmpYes X0.here hx rfl (pc0 := 24) (pc' := 31) rfl (hb hby d4_24) rfl (XT.ii_ne_t hc5) (by decide) (by decide) ?_
            show Steps p.tables e below (s₁.setTop (mkF m 31 #[.val (.int p0)] [])) _
            refine XS.sipush X0.here hx rfl (hb hby d4_31) ?_
            exact kt
          exact Got.retI (y := (10000 : Int32)) X0 hx Bd.returns hlk (hb hby d4_34) rfl ⟨N0, e0⟩ (by decide) (by decide)
theorem own_pick (a b : Int64) (x i : Int32) : nar .byte (f1 a b x i) = f1 a b x i ∧ fits .byte (.int (f1 a b x i)) = true := by
  unfold f1
  split
  · exact ⟨narB _, fits_nar_byte _⟩
  · exact ⟨narB _, fits_nar_byte _⟩
theorem ef_2 (m : MethodId) (x0 : Addr) (x1 : Int32) (x2 : Int32) : entryFrame m #[(.ref x0), (.int x1), (.int x2)] 5 = mkF m 0 #[.val (.ref x0), .val (.int x1), .val (.int x2), .unset, .unset] [] := by first | (simp [entryFrame, mkF, argsToLocals, Value.category]; done) | rfl
theorem pn_1 : plainName "lavka/io/Iso2709" = true := by first | (simp [plainName, overriddenIn]; done) | decide +kernel
theorem d2_0 : decode prog_9_method_3_code 0 = .ok (.iconst 0, 1) := by decide +kernel
theorem d2_1 : decode prog_9_method_3_code 1 = .ok (.istore_n 3, 1) := by decide +kernel
theorem d2_2 : decode prog_9_method_3_code 2 = .ok (.iload_n 1, 1) := by decide +kernel
theorem d2_3 : decode prog_9_method_3_code 3 = .ok (.istore 4, 2) := by decide +kernel
theorem d2_5 : decode prog_9_method_3_code 5 = .ok (.iload 4, 2) := by decide +kernel
theorem d2_7 : decode prog_9_method_3_code 7 = .ok (.iload_n 1, 1) := by decide +kernel
theorem d2_8 : decode prog_9_method_3_code 8 = .ok (.iload_n 2, 1) := by decide +kernel
theorem d2_9 : decode prog_9_method_3_code 9 = .ok (.iadd, 1) := by decide +kernel
theorem d2_10 : decode prog_9_method_3_code 10 = .ok (.if_icmp .ge 42, 3) := by decide +kernel
theorem d2_13 : decode prog_9_method_3_code 13 = .ok (.aload_n 0, 1) := by decide +kernel
theorem d2_14 : decode prog_9_method_3_code 14 = .ok (.iload 4, 2) := by decide +kernel
theorem d2_16 : decode prog_9_method_3_code 16 = .ok (.baload, 1) := by decide +kernel
theorem d2_17 : decode prog_9_method_3_code 17 = .ok (.bipush 48, 2) := by decide +kernel
theorem d2_19 : decode prog_9_method_3_code 19 = .ok (.if_icmp .lt 12, 3) := by decide +kernel
theorem d2_22 : decode prog_9_method_3_code 22 = .ok (.aload_n 0, 1) := by decide +kernel
theorem d2_23 : decode prog_9_method_3_code 23 = .ok (.iload 4, 2) := by decide +kernel
theorem d2_25 : decode prog_9_method_3_code 25 = .ok (.baload, 1) := by decide +kernel
theorem d2_26 : decode prog_9_method_3_code 26 = .ok (.bipush 57, 2) := by decide +kernel
theorem d2_28 : decode prog_9_method_3_code 28 = .ok (.if_icmp .le 5, 3) := by decide +kernel
theorem d2_31 : decode prog_9_method_3_code 31 = .ok (.iconst (-1), 1) := by decide +kernel
theorem d2_32 : decode prog_9_method_3_code 32 = .ok (.ireturn, 1) := by decide +kernel
theorem d2_33 : decode prog_9_method_3_code 33 = .ok (.iload_n 3, 1) := by decide +kernel
theorem d2_34 : decode prog_9_method_3_code 34 = .ok (.bipush 10, 2) := by decide +kernel
theorem d2_36 : decode prog_9_method_3_code 36 = .ok (.imul, 1) := by decide +kernel
theorem d2_37 : decode prog_9_method_3_code 37 = .ok (.aload_n 0, 1) := by decide +kernel
theorem d2_38 : decode prog_9_method_3_code 38 = .ok (.iload 4, 2) := by decide +kernel
theorem d2_40 : decode prog_9_method_3_code 40 = .ok (.baload, 1) := by decide +kernel
theorem d2_41 : decode prog_9_method_3_code 41 = .ok (.iadd, 1) := by decide +kernel
theorem d2_42 : decode prog_9_method_3_code 42 = .ok (.bipush 48, 2) := by decide +kernel
theorem d2_44 : decode prog_9_method_3_code 44 = .ok (.isub, 1) := by decide +kernel
theorem d2_45 : decode prog_9_method_3_code 45 = .ok (.istore_n 3, 1) := by decide +kernel
theorem d2_46 : decode prog_9_method_3_code 46 = .ok (.iinc 4 1, 3) := by decide +kernel
theorem d2_49 : decode prog_9_method_3_code 49 = .ok (.goto (-44), 3) := by decide +kernel
theorem d2_52 : decode prog_9_method_3_code 52 = .ok (.iload_n 3, 1) := by decide +kernel
theorem d2_53 : decode prog_9_method_3_code 53 = .ok (.ireturn, 1) := by decide +kernel
set_option maxRecDepth 65536 in
set_option maxHeartbeats 40000000 in
theorem rm2 (l : Launch) (Z : State) (a0 : Array Value) (hw : ∀ d ∈ tables_1, d.before a0 Z = true) (ws : List Jvm.Cond) (o0 : Addr) (f d : Nat) (bs : List Int32) (kc : ClassId) (h0 : Heap) (n0 : Nat) (Z0 : n0 ≤ h0.size) (V0 : Arv Z h0 o0 kc .byte (7 : Int32) (bs.map Value.int) (.int (0 : Int32))) (hlen : bs.length = 7) (hfd : f + d ≤ 7) :
    MetFree l (⟨"lavka/io/Iso2709", "number", "([BII)I"⟩ : MethodName) (head1 (Jvm.Cond.code (⟨"lavka/io/Iso2709", "number", "([BII)I"⟩ : MethodName) prog_9_method_3_code 5 (some .int) :: ws) ({ frames := 0, cells := 0, slots := 0, locals := 0 } : Room)) (fun a U => a = #[(.ref o0), (.int (Int32.ofNat f)), (.int (Int32.ofNat d))] ∧ Z.Warmed39 U.vm ∧ U.heap = h0) (fun _ _ _ _ _ => True) (fun _ U o U' => ∃ v L, o = .returned v ∧ QV (some (.int (num 0 ((bs.drop f).take d)))) (PureP n0 h0) v U'.heap L ∧ FrameEnd U o U' L ({ frames := 0, cells := 0, slots := 0, locals := 0 } : Room).cells ({ frames := 0, cells := 0, slots := 0, locals := 0 } : Room).slots) := by
  refine MetFree.of_bodySF (plainFor_of_name pn_1) hisR ?_
  intro p e s m args below meth c s₁ Bd hml0 hP hK
  obtain ⟨rfl, hZ, hh⟩ := hP
  have hx := Bd.exec
  have hby := Bd.bytes
  have hml : c.maxLocals = 5 := hml0
  have hown : s.vm.findClass "lavka/io/Iso2709" = some m.cls := findClass_of_methodNamed Bd.named
  have hnm := (name_of_methodNamed Bd.named Bd.method).1
  have hlk : meth.locks = false := BodyLoose.notSynchronized Bd
  have X0 : Stand p l e ({ frames := 0, cells := 0, slots := 0, locals := 0 } : Room) s m #[(.ref o0), (.int (Int32.ofNat f)), (.int (Int32.ofNat d))] below meth c s₁ [] 0 0 := Stand.of_body Bd
  have e0 : s₁.heap = h0 := by rw [← hh, Bd.state]; rfl
  have N0 := Fr.nil n0
  refine Got.body (ef_2 m o0 (Int32.ofNat f) (Int32.ofNat d)) ?_
  have J : ∀ (k i : Nat) (acc : Int32), i + k = f + d → f ≤ i → Got p e below s (PureP n0 h0) 0 0 (some (.int (num acc ((bs.drop i).take k)))) s₁ (mkF m 5 #[.val (.ref o0), .val (.int (Int32.ofNat f)), .val (.int (Int32.ofNat d)), .val (.int acc), .val (.int (Int32.ofNat i))] []) := by
    intro k
    induction k with
    | zero =>
      intro i acc hi hfi
      rw [List.take_zero]
      refine Got.step (T' := s₁) (g' := (mkF m 53 #[.val (.ref o0), .val (.int (Int32.ofNat f)), .val (.int (Int32.ofNat d)), .val (.int acc), .val (.int (Int32.ofNat i))] [(.int acc)])) (fun tq kt => ?_) ?_
      · show Steps p.tables e below (s₁.setTop (mkF m 5 #[.val (.ref o0), .val (.int (Int32.ofNat f)), .val (.int (Int32.ofNat d)), .val (.int acc), .val (.int (Int32.ofNat i))] [])) _
        refine XS.iload X0.here hx rfl (hb hby d2_5) rfl ?_
        show Steps p.tables e below (s₁.setTop (mkF m 7 #[.val (.ref o0), .val (.int (Int32.ofNat f)), .val (.int (Int32.ofNat d)), .val (.int acc), .val (.int (Int32.ofNat i))] [(.int (Int32.ofNat i))])) _
        refine XS.iloadN X0.here hx rfl (hb hby d2_7) rfl ?_
        show Steps p.tables e below (s₁.setTop (mkF m 8 #[.val (.ref o0), .val (.int (Int32.ofNat f)), .val (.int (Int32.ofNat d)), .val (.int acc), .val (.int (Int32.ofNat i))] [(.int (Int32.ofNat f)), (.int (Int32.ofNat i))])) _
        refine XS.iloadN X0.here hx rfl (hb hby d2_8) rfl ?_
        show Steps p.tables e below (s₁.setTop (mkF m 9 #[.val (.ref o0), .val (.int (Int32.ofNat f)), .val (.int (Int32.ofNat d)), .val (.int acc), .val (.int (Int32.ofNat i))] [(.int (Int32.ofNat d)), (.int (Int32.ofNat f)), (.int (Int32.ofNat i))])) _
        refine XS.iadd X0.here hx rfl (hb hby d2_9) rfl ?_
        show Steps p.tables e below (s₁.setTop (mkF m 10 #[.val (.ref o0), .val (.int (Int32.ofNat f)), .val (.int (Int32.ofNat d)), .val (.int acc), .val (.int (Int32.ofNat i))] [(.int ((Int32.ofNat f) + (Int32.ofNat d))), (.int (Int32.ofNat i))])) _
        refine XS.icmpYes X0.here hx rfl (pc0 := 10) (pc' := 52) rfl (hb hby d2_10) rfl (XT.ii_ge_t (own_ge hfd hi)) (by decide) (by decide) ?_
        show Steps p.tables e below (s₁.setTop (mkF m 52 #[.val (.ref o0), .val (.int (Int32.ofNat f)), .val (.int (Int32.ofNat d)), .val (.int acc), .val (.int (Int32.ofNat i))] [])) _
        refine XS.iloadN X0.here hx rfl (hb hby d2_52) rfl ?_
        exact kt
      exact Got.retI (y := acc) X0 hx Bd.returns hlk (hb hby d2_53) rfl ⟨N0, e0⟩ (by decide) (by decide)
    | succ k ih =>
      intro i acc hi hfi
      have hlt : i < bs.length := by omega
      have hd : (bs.drop i).take (k + 1) = bs[i] :: (bs.drop (i + 1)).take k := by rw [List.drop_eq_getElem_cons hlt, List.take_succ_cons]
      rw [hd]
      show Got p e below s (PureP n0 h0) 0 0 (some (.int (if bs[i] < (48 : Int32) then (-1 : Int32) else (if (57 : Int32) < bs[i] then (-1 : Int32) else num (((acc * (10 : Int32)) + bs[i]) - (48 : Int32)) ((bs.drop (i + 1)).take k))))) s₁ (mkF m 5 #[.val (.ref o0), .val (.int (Int32.ofNat f)), .val (.int (Int32.ofNat d)), .val (.int acc), .val (.int (Int32.ofNat i))] [])
      refine Got.step (T' := s₁) (g' := (mkF m 16 #[.val (.ref o0), .val (.int (Int32.ofNat f)), .val (.int (Int32.ofNat d)), .val (.int acc), .val (.int (Int32.ofNat i))] [(.int (Int32.ofNat i)), (.ref o0)])) (fun tq kt => ?_) ?_
      · show Steps p.tables e below (s₁.setTop (mkF m 5 #[.val (.ref o0), .val (.int (Int32.ofNat f)), .val (.int (Int32.ofNat d)), .val (.int acc), .val (.int (Int32.ofNat i))] [])) _
        refine XS.iload X0.here hx rfl (hb hby d2_5) rfl ?_
        show Steps p.tables e below (s₁.setTop (mkF m 7 #[.val (.ref o0), .val (.int (Int32.ofNat f)), .val (.int (Int32.ofNat d)), .val (.int acc), .val (.int (Int32.ofNat i))] [(.int (Int32.ofNat i))])) _
        refine XS.iloadN X0.here hx rfl (hb hby d2_7) rfl ?_
        show Steps p.tables e below (s₁.setTop (mkF m 8 #[.val (.ref o0), .val (.int (Int32.ofNat f)), .val (.int (Int32.ofNat d)), .val (.int acc), .val (.int (Int32.ofNat i))] [(.int (Int32.ofNat f)), (.int (Int32.ofNat i))])) _
        refine XS.iloadN X0.here hx rfl (hb hby d2_8) rfl ?_
        show Steps p.tables e below (s₁.setTop (mkF m 9 #[.val (.ref o0), .val (.int (Int32.ofNat f)), .val (.int (Int32.ofNat d)), .val (.int acc), .val (.int (Int32.ofNat i))] [(.int (Int32.ofNat d)), (.int (Int32.ofNat f)), (.int (Int32.ofNat i))])) _
        refine XS.iadd X0.here hx rfl (hb hby d2_9) rfl ?_
        show Steps p.tables e below (s₁.setTop (mkF m 10 #[.val (.ref o0), .val (.int (Int32.ofNat f)), .val (.int (Int32.ofNat d)), .val (.int acc), .val (.int (Int32.ofNat i))] [(.int ((Int32.ofNat f) + (Int32.ofNat d))), (.int (Int32.ofNat i))])) _
        refine XS.icmpNo X0.here hx rfl (hb hby d2_10) rfl (XT.ii_ge_f (own_lt hfd hi)) ?_
        show Steps p.tables e below (s₁.setTop (mkF m 13 #[.val (.ref o0), .val (.int (Int32.ofNat f)), .val (.int (Int32.ofNat d)), .val (.int acc), .val (.int (Int32.ofNat i))] [])) _
        refine XS.aloadN X0.here hx rfl (hb hby d2_13) rfl rfl ?_
        show Steps p.tables e below (s₁.setTop (mkF m 14 #[.val (.ref o0), .val (.int (Int32.ofNat f)), .val (.int (Int32.ofNat d)), .val (.int acc), .val (.int (Int32.ofNat i))] [(.ref o0)])) _
        refine XS.iload X0.here hx rfl (hb hby d2_14) rfl ?_
        exact kt
      obtain ⟨cl6, Ar6, q6, S6, M6, H6, G6⟩ := (id V0)
      have hin6 : ¬ ((Int32.ofNat i) < 0 ∨ cl6.slots.size ≤ ((Int32.ofNat i)).toNatClampNeg) := inb_of S6 (own_in hlt hlen)
      refine Got.step (T' := s₁) (fun tq kt => X0.baloadBytes hx (j := (Int32.ofNat i)) (v := (.int bs[i])) (by rw [e0]; exact Ar6.1) (State.isArrayOf_alike hZ.alike Ar6.2.1) Ar6.2.2 hin6 (H6.at hin6 (own_at hlt hlen)) (g := (mkF m 16 #[.val (.ref o0), .val (.int (Int32.ofNat f)), .val (.int (Int32.ofNat d)), .val (.int acc), .val (.int (Int32.ofNat i))] [(.int (Int32.ofNat i)), (.ref o0)])) rfl rfl (hb hby d2_16) tq kt) ?_
      show Got p e below s _ _ _ _ s₁ (mkF m 17 #[.val (.ref o0), .val (.int (Int32.ofNat f)), .val (.int (Int32.ofNat d)), .val (.int acc), .val (.int (Int32.ofNat i))] [(.int bs[i])])
      refine Got.step (T' := s₁) (g' := (mkF m 19 #[.val (.ref o0), .val (.int (Int32.ofNat f)), .val (.int (Int32.ofNat d)), .val (.int acc), .val (.int (Int32.ofNat i))] [(.int (48 : Int32)), (.int bs[i])])) (fun tq kt => ?_) ?_
      · show Steps p.tables e below (s₁.setTop (mkF m 17 #[.val (.ref o0), .val (.int (Int32.ofNat f)), .val (.int (Int32.ofNat d)), .val (.int acc), .val (.int (Int32.ofNat i))] [(.int bs[i])])) _
        refine XS.bipush X0.here hx rfl (hb hby d2_17) ?_
        exact kt
      refine Got.ite (q := (bs[i] < (48 : Int32))) (fun hc7 => ?_) (fun hc7 => ?_)
      · refine Got.step (T' := s₁) (g' := (mkF m 32 #[.val (.ref o0), .val (.int (Int32.ofNat f)), .val (.int (Int32.ofNat d)), .val (.int acc), .val (.int (Int32.ofNat i))] [(.int (-1 : Int32))])) (fun tq kt => ?_) ?_
        · show Steps p.tables e below (s₁.setTop (mkF m 19 #[.val (.ref o0), .val (.int (Int32.ofNat f)), .val (.int (Int32.ofNat d)), .val (.int acc), .val (.int (Int32.ofNat i))] [(.int (48 : Int32)), (.int bs[i])])) _
          refine XS.icmpYes X0.here hx rfl (pc0 := 19) (pc' := 31) rfl (hb hby d2_19) rfl (XT.ii_lt_t hc7) (by decide) (by decide) ?_
          show Steps p.tables e below (s₁.setTop (mkF m 31 #[.val (.ref o0), .val (.int (Int32.ofNat f)), .val (.int (Int32.ofNat d)), .val (.int acc), .val (.int (Int32.ofNat i))] [])) _
          refine XS.iconst X0.here hx rfl (hb hby d2_31) ?_
          exact kt
        exact Got.retI (y := (-1 : Int32)) X0 hx Bd.returns hlk (hb hby d2_32) rfl ⟨N0, e0⟩ (by decide) (by decide)
      · refine Got.step (T' := s₁) (g' := (mkF m 25 #[.val (.ref o0), .val (.int (Int32.ofNat f)), .val (.int (Int32.ofNat d)), .val (.int acc), .val (.int (Int32.ofNat i))] [(.int (Int32.ofNat i)), (.ref o0)])) (fun tq kt => ?_) ?_
        · show Steps p.tables e below (s₁.setTop (mkF m 19 #[.val (.ref o0), .val (.int (Int32.ofNat f)), .val (.int (Int32.ofNat d)), .val (.int acc), .val (.int (Int32.ofNat i))] [(.int (48 : Int32)), (.int bs[i])])) _
          refine XS.icmpNo X0.here hx rfl (hb hby d2_19) rfl (XT.ii_lt_f hc7) ?_
          show Steps p.tables e below (s₁.setTop (mkF m 22 #[.val (.ref o0), .val (.int (Int32.ofNat f)), .val (.int (Int32.ofNat d)), .val (.int acc), .val (.int (Int32.ofNat i))] [])) _
          refine XS.aloadN X0.here hx rfl (hb hby d2_22) rfl rfl ?_
          show Steps p.tables e below (s₁.setTop (mkF m 23 #[.val (.ref o0), .val (.int (Int32.ofNat f)), .val (.int (Int32.ofNat d)), .val (.int acc), .val (.int (Int32.ofNat i))] [(.ref o0)])) _
          refine XS.iload X0.here hx rfl (hb hby d2_23) rfl ?_
          exact kt
        obtain ⟨cl8, Ar8, q8, S8, M8, H8, G8⟩ := (id V0)
        have hin8 : ¬ ((Int32.ofNat i) < 0 ∨ cl8.slots.size ≤ ((Int32.ofNat i)).toNatClampNeg) := inb_of S8 (own_in hlt hlen)
        refine Got.step (T' := s₁) (fun tq kt => X0.baloadBytes hx (j := (Int32.ofNat i)) (v := (.int bs[i])) (by rw [e0]; exact Ar8.1) (State.isArrayOf_alike hZ.alike Ar8.2.1) Ar8.2.2 hin8 (H8.at hin8 (own_at hlt hlen)) (g := (mkF m 25 #[.val (.ref o0), .val (.int (Int32.ofNat f)), .val (.int (Int32.ofNat d)), .val (.int acc), .val (.int (Int32.ofNat i))] [(.int (Int32.ofNat i)), (.ref o0)])) rfl rfl (hb hby d2_25) tq kt) ?_
        show Got p e below s _ _ _ _ s₁ (mkF m 26 #[.val (.ref o0), .val (.int (Int32.ofNat f)), .val (.int (Int32.ofNat d)), .val (.int acc), .val (.int (Int32.ofNat i))] [(.int bs[i])])
        refine Got.step (T' := s₁) (g' := (mkF m 28 #[.val (.ref o0), .val (.int (Int32.ofNat f)), .val (.int (Int32.ofNat d)), .val (.int acc), .val (.int (Int32.ofNat i))] [(.int (57 : Int32)), (.int bs[i])])) (fun tq kt => ?_) ?_
        · show Steps p.tables e below (s₁.setTop (mkF m 26 #[.val (.ref o0), .val (.int (Int32.ofNat f)), .val (.int (Int32.ofNat d)), .val (.int acc), .val (.int (Int32.ofNat i))] [(.int bs[i])])) _
          refine XS.bipush X0.here hx rfl (hb hby d2_26) ?_
          exact kt
        refine Got.ite (q := ((57 : Int32) < bs[i])) (fun hc9 => ?_) (fun hc9 => ?_)
        · refine Got.step (T' := s₁) (g' := (mkF m 32 #[.val (.ref o0), .val (.int (Int32.ofNat f)), .val (.int (Int32.ofNat d)), .val (.int acc), .val (.int (Int32.ofNat i))] [(.int (-1 : Int32))])) (fun tq kt => ?_) ?_
          · show Steps p.tables e below (s₁.setTop (mkF m 28 #[.val (.ref o0), .val (.int (Int32.ofNat f)), .val (.int (Int32.ofNat d)), .val (.int acc), .val (.int (Int32.ofNat i))] [(.int (57 : Int32)), (.int bs[i])])) _
            refine XS.icmpNo X0.here hx rfl (hb hby d2_28) rfl (XT.ii_le_f hc9) ?_
            show Steps p.tables e below (s₁.setTop (mkF m 31 #[.val (.ref o0), .val (.int (Int32.ofNat f)), .val (.int (Int32.ofNat d)), .val (.int acc), .val (.int (Int32.ofNat i))] [])) _
            refine XS.iconst X0.here hx rfl (hb hby d2_31) ?_
            exact kt
          exact Got.retI (y := (-1 : Int32)) X0 hx Bd.returns hlk (hb hby d2_32) rfl ⟨N0, e0⟩ (by decide) (by decide)
        · refine Got.step (T' := s₁) (g' := (mkF m 40 #[.val (.ref o0), .val (.int (Int32.ofNat f)), .val (.int (Int32.ofNat d)), .val (.int acc), .val (.int (Int32.ofNat i))] [(.int (Int32.ofNat i)), (.ref o0), (.int (acc * (10 : Int32)))])) (fun tq kt => ?_) ?_
          · show Steps p.tables e below (s₁.setTop (mkF m 28 #[.val (.ref o0), .val (.int (Int32.ofNat f)), .val (.int (Int32.ofNat d)), .val (.int acc), .val (.int (Int32.ofNat i))] [(.int (57 : Int32)), (.int bs[i])])) _
            refine XS.icmpYes X0.here hx rfl (pc0 := 28) (pc' := 33) rfl (hb hby d2_28) rfl (XT.ii_le_t hc9) (by decide) (by decide) ?_
            show Steps p.tables e below (s₁.setTop (mkF m 33 #[.val (.ref o0), .val (.int (Int32.ofNat f)), .val (.int (Int32.ofNat d)), .val (.int acc), .val (.int (Int32.ofNat i))] [])) _
            refine XS.iloadN X0.here hx rfl (hb hby d2_33) rfl ?_
            show Steps p.tables e below (s₁.setTop (mkF m 34 #[.val (.ref o0), .val (.int (Int32.ofNat f)), .val (.int (Int32.ofNat d)), .val (.int acc), .val (.int (Int32.ofNat i))] [(.int acc)])) _
            refine XS.bipush X0.here hx rfl (hb hby d2_34) ?_
            show Steps p.tables e below (s₁.setTop (mkF m 36 #[.val (.ref o0), .val (.int (Int32.ofNat f)), .val (.int (Int32.ofNat d)), .val (.int acc), .val (.int (Int32.ofNat i))] [(.int (10 : Int32)), (.int acc)])) _
            refine XS.imul X0.here hx rfl (hb hby d2_36) rfl ?_
            show Steps p.tables e below (s₁.setTop (mkF m 37 #[.val (.ref o0), .val (.int (Int32.ofNat f)), .val (.int (Int32.ofNat d)), .val (.int acc), .val (.int (Int32.ofNat i))] [(.int (acc * (10 : Int32)))])) _
            refine XS.aloadN X0.here hx rfl (hb hby d2_37) rfl rfl ?_
            show Steps p.tables e below (s₁.setTop (mkF m 38 #[.val (.ref o0), .val (.int (Int32.ofNat f)), .val (.int (Int32.ofNat d)), .val (.int acc), .val (.int (Int32.ofNat i))] [(.ref o0), (.int (acc * (10 : Int32)))])) _
            refine XS.iload X0.here hx rfl (hb hby d2_38) rfl ?_
            exact kt
          obtain ⟨cl10, Ar10, q10, S10, M10, H10, G10⟩ := (id V0)
          have hin10 : ¬ ((Int32.ofNat i) < 0 ∨ cl10.slots.size ≤ ((Int32.ofNat i)).toNatClampNeg) := inb_of S10 (own_in hlt hlen)
          refine Got.step (T' := s₁) (fun tq kt => X0.baloadBytes hx (j := (Int32.ofNat i)) (v := (.int bs[i])) (by rw [e0]; exact Ar10.1) (State.isArrayOf_alike hZ.alike Ar10.2.1) Ar10.2.2 hin10 (H10.at hin10 (own_at hlt hlen)) (g := (mkF m 40 #[.val (.ref o0), .val (.int (Int32.ofNat f)), .val (.int (Int32.ofNat d)), .val (.int acc), .val (.int (Int32.ofNat i))] [(.int (Int32.ofNat i)), (.ref o0), (.int (acc * (10 : Int32)))])) rfl rfl (hb hby d2_40) tq kt) ?_
          show Got p e below s _ _ _ _ s₁ (mkF m 41 #[.val (.ref o0), .val (.int (Int32.ofNat f)), .val (.int (Int32.ofNat d)), .val (.int acc), .val (.int (Int32.ofNat i))] [(.int bs[i]), (.int (acc * (10 : Int32)))])
          refine Got.step (T' := s₁) (g' := (mkF m 5 #[.val (.ref o0), .val (.int (Int32.ofNat f)), .val (.int (Int32.ofNat d)), .val (.int (((acc * (10 : Int32)) + bs[i]) - (48 : Int32))), .val (.int ((Int32.ofNat i) + (1 : Int32)))] [])) (fun tq kt => ?_) ?_
          · show Steps p.tables e below (s₁.setTop (mkF m 41 #[.val (.ref o0), .val (.int (Int32.ofNat f)), .val (.int (Int32.ofNat d)), .val (.int acc), .val (.int (Int32.ofNat i))] [(.int bs[i]), (.int (acc * (10 : Int32)))])) _
            refine XS.iadd X0.here hx rfl (hb hby d2_41) rfl ?_
            show Steps p.tables e below (s₁.setTop (mkF m 42 #[.val (.ref o0), .val (.int (Int32.ofNat f)), .val (.int (Int32.ofNat d)), .val (.int acc), .val (.int (Int32.ofNat i))] [(.int ((acc * (10 : Int32)) + bs[i]))])) _
            refine XS.bipush X0.here hx rfl (hb hby d2_42) ?_
            show Steps p.tables e below (s₁.setTop (mkF m 44 #[.val (.ref o0), .val (.int (Int32.ofNat f)), .val (.int (Int32.ofNat d)), .val (.int acc), .val (.int (Int32.ofNat i))] [(.int (48 : Int32)), (.int ((acc * (10 : Int32)) + bs[i]))])) _
            refine XS.isub X0.here hx rfl (hb hby d2_44) rfl ?_
            show Steps p.tables e below (s₁.setTop (mkF m 45 #[.val (.ref o0), .val (.int (Int32.ofNat f)), .val (.int (Int32.ofNat d)), .val (.int acc), .val (.int (Int32.ofNat i))] [(.int (((acc * (10 : Int32)) + bs[i]) - (48 : Int32)))])) _
            refine XS.istoreN X0.here hx rfl (hb hby d2_45) rfl (l' := #[.val (.ref o0), .val (.int (Int32.ofNat f)), .val (.int (Int32.ofNat d)), .val (.int (((acc * (10 : Int32)) + bs[i]) - (48 : Int32))), .val (.int (Int32.ofNat i))]) rfl ?_
            show Steps p.tables e below (s₁.setTop (mkF m 46 #[.val (.ref o0), .val (.int (Int32.ofNat f)), .val (.int (Int32.ofNat d)), .val (.int (((acc * (10 : Int32)) + bs[i]) - (48 : Int32))), .val (.int (Int32.ofNat i))] [])) _
            refine XS.iinc X0.here hx rfl (hb hby d2_46) rfl (l' := #[.val (.ref o0), .val (.int (Int32.ofNat f)), .val (.int (Int32.ofNat d)), .val (.int (((acc * (10 : Int32)) + bs[i]) - (48 : Int32))), .val (.int ((Int32.ofNat i) + (1 : Int32)))]) rfl ?_
            show Steps p.tables e below (s₁.setTop (mkF m 49 #[.val (.ref o0), .val (.int (Int32.ofNat f)), .val (.int (Int32.ofNat d)), .val (.int (((acc * (10 : Int32)) + bs[i]) - (48 : Int32))), .val (.int ((Int32.ofNat i) + (1 : Int32)))] [])) _
            refine XS.goto X0.here hx rfl (pc0 := 49) (pc' := 5) rfl (hb hby d2_49) (by decide) (by decide) ?_
            exact kt
          rw [own_one i]
          exact ih (i + 1) _ (by omega) (by omega)
  refine Got.step (T' := s₁) (g' := (mkF m 5 #[.val (.ref o0), .val (.int (Int32.ofNat f)), .val (.int (Int32.ofNat d)), .val (.int (0 : Int32)), .val (.int (Int32.ofNat f))] [])) (fun tq kt => ?_) ?_
  · show Steps p.tables e below (s₁.setTop (mkF m 0 #[.val (.ref o0), .val (.int (Int32.ofNat f)), .val (.int (Int32.ofNat d)), .unset, .unset] [])) _
    refine XS.iconst X0.here hx rfl (hb hby d2_0) ?_
    show Steps p.tables e below (s₁.setTop (mkF m 1 #[.val (.ref o0), .val (.int (Int32.ofNat f)), .val (.int (Int32.ofNat d)), .unset, .unset] [(.int (0 : Int32))])) _
    refine XS.istoreN X0.here hx rfl (hb hby d2_1) rfl (l' := #[.val (.ref o0), .val (.int (Int32.ofNat f)), .val (.int (Int32.ofNat d)), .val (.int (0 : Int32)), .unset]) rfl ?_
    show Steps p.tables e below (s₁.setTop (mkF m 2 #[.val (.ref o0), .val (.int (Int32.ofNat f)), .val (.int (Int32.ofNat d)), .val (.int (0 : Int32)), .unset] [])) _
    refine XS.iloadN X0.here hx rfl (hb hby d2_2) rfl ?_
    show Steps p.tables e below (s₁.setTop (mkF m 3 #[.val (.ref o0), .val (.int (Int32.ofNat f)), .val (.int (Int32.ofNat d)), .val (.int (0 : Int32)), .unset] [(.int (Int32.ofNat f))])) _
    refine XS.istore X0.here hx rfl (hb hby d2_3) rfl (l' := #[.val (.ref o0), .val (.int (Int32.ofNat f)), .val (.int (Int32.ofNat d)), .val (.int (0 : Int32)), .val (.int (Int32.ofNat f))]) rfl ?_
    exact kt
  exact J d f 0 (by omega) (by omega)
theorem pd_0 : parseMethodDescriptor "(I)I" = some ⟨[.int], some .int⟩ := by decide +kernel
def f3 (bs : List Int32) (f : Nat) (d : Nat) (p3 : Int32)  : Int32 := (if p3 < (Int32.ofNat d) then (if (bs.getD (((Int32.ofNat f) + p3)).toNatClampNeg 0) < (48 : Int32) then (-1 : Int32) else (if (57 : Int32) < (bs.getD (((Int32.ofNat f) + p3)).toNatClampNeg 0) then (-1 : Int32) else (((bs.getD (((Int32.ofNat f) + p3)).toNatClampNeg 0) - (48 : Int32)) * (f4 (((Int32.ofNat d) - (1 : Int32)) - p3))))) else (0 : Int32))
theorem ef_3 (m : MethodId) (x0 : Addr) (x1 : Int32) (x2 : Int32) (x3 : Int32) : entryFrame m #[(.ref x0), (.int x1), (.int x2), (.int x3)] 5 = mkF m 0 #[.val (.ref x0), .val (.int x1), .val (.int x2), .val (.int x3), .unset] [] := by first | (simp [entryFrame, mkF, argsToLocals, Value.category]; done) | rfl
theorem d3_0 : decode method_4_code 0 = .ok (.iload_n 3, 1) := by decide +kernel
theorem d3_1 : decode method_4_code 1 = .ok (.iload_n 2, 1) := by decide +kernel
theorem d3_2 : decode method_4_code 2 = .ok (.if_icmp .lt 5, 3) := by decide +kernel
theorem d3_5 : decode method_4_code 5 = .ok (.iconst 0, 1) := by decide +kernel
theorem d3_6 : decode method_4_code 6 = .ok (.ireturn, 1) := by decide +kernel
theorem d3_7 : decode method_4_code 7 = .ok (.aload_n 0, 1) := by decide +kernel
theorem d3_8 : decode method_4_code 8 = .ok (.iload_n 1, 1) := by decide +kernel
theorem d3_9 : decode method_4_code 9 = .ok (.iload_n 3, 1) := by decide +kernel
theorem d3_10 : decode method_4_code 10 = .ok (.iadd, 1) := by decide +kernel
theorem d3_11 : decode method_4_code 11 = .ok (.baload, 1) := by decide +kernel
theorem d3_12 : decode method_4_code 12 = .ok (.istore 4, 2) := by decide +kernel
theorem d3_14 : decode method_4_code 14 = .ok (.iload 4, 2) := by decide +kernel
theorem d3_16 : decode method_4_code 16 = .ok (.bipush 48, 2) := by decide +kernel
theorem d3_18 : decode method_4_code 18 = .ok (.if_icmp .lt 10, 3) := by decide +kernel
theorem d3_21 : decode method_4_code 21 = .ok (.iload 4, 2) := by decide +kernel
theorem d3_23 : decode method_4_code 23 = .ok (.bipush 57, 2) := by decide +kernel
theorem d3_25 : decode method_4_code 25 = .ok (.if_icmp .le 5, 3) := by decide +kernel
theorem d3_28 : decode method_4_code 28 = .ok (.iconst (-1), 1) := by decide +kernel
theorem d3_29 : decode method_4_code 29 = .ok (.ireturn, 1) := by decide +kernel
theorem d3_30 : decode method_4_code 30 = .ok (.iload 4, 2) := by decide +kernel
theorem d3_32 : decode method_4_code 32 = .ok (.bipush 48, 2) := by decide +kernel
theorem d3_34 : decode method_4_code 34 = .ok (.isub, 1) := by decide +kernel
theorem d3_35 : decode method_4_code 35 = .ok (.iload_n 2, 1) := by decide +kernel
theorem d3_36 : decode method_4_code 36 = .ok (.iconst 1, 1) := by decide +kernel
theorem d3_37 : decode method_4_code 37 = .ok (.isub, 1) := by decide +kernel
theorem d3_38 : decode method_4_code 38 = .ok (.iload_n 3, 1) := by decide +kernel
theorem d3_39 : decode method_4_code 39 = .ok (.isub, 1) := by decide +kernel
theorem d3_40 : decode method_4_code 40 = .ok (.invokestatic 9, 3) := by decide +kernel
theorem d3_43 : decode method_4_code 43 = .ok (.imul, 1) := by decide +kernel
theorem d3_44 : decode method_4_code 44 = .ok (.ireturn, 1) := by decide +kernel
set_option maxRecDepth 65536 in
set_option maxHeartbeats 40000000 in
theorem rm3 (l : Launch) (Z : State) (a0 : Array Value) (hw : ∀ d ∈ tables_1, d.before a0 Z = true) (ws : List Jvm.Cond) (o0 : Addr) (f d : Nat) (p3 : Int32) (bs : List Int32) (kc : ClassId) (h0 : Heap) (n0 : Nat) (Z0 : n0 ≤ h0.size) (V0 : Arv Z h0 o0 kc .byte (7 : Int32) (bs.map Value.int) (.int (0 : Int32))) (hin : p3 < Int32.ofNat d → ¬ (Int32.ofNat f + p3) < 0 ∧ (Int32.ofNat f + p3) < 7) :
    MetFree l (⟨"lavka/io/Iso2709NumberPinLaw", "term", "([BIII)I"⟩ : MethodName) (head1 (Jvm.Cond.code (⟨"lavka/io/Iso2709NumberPinLaw", "term", "([BIII)I"⟩ : MethodName) method_4_code 5 (some .int) :: ws) ({ frames := 1, cells := 0, slots := 0, locals := 13 } : Room)) (fun a U => a = #[(.ref o0), (.int (Int32.ofNat f)), (.int (Int32.ofNat d)), (.int p3)] ∧ Z.Warmed39 U.vm ∧ U.heap = h0) (fun _ _ _ _ _ => True) (fun _ U o U' => ∃ v L, o = .returned v ∧ QV (some (.int (f3 bs f d p3))) (PureP n0 h0) v U'.heap L ∧ FrameEnd U o U' L ({ frames := 1, cells := 0, slots := 0, locals := 13 } : Room).cells ({ frames := 1, cells := 0, slots := 0, locals := 13 } : Room).slots) := by
  refine MetFree.of_bodySF (plainFor_of_name pn_0) hisR ?_
  intro p e s m args below meth c s₁ Bd hml0 hP hK
  obtain ⟨rfl, hZ, hh⟩ := hP
  have hx := Bd.exec
  have hby := Bd.bytes
  have hml : c.maxLocals = 5 := hml0
  have hown : s.vm.findClass "lavka/io/Iso2709NumberPinLaw" = some m.cls := findClass_of_methodNamed Bd.named
  have hnm := (name_of_methodNamed Bd.named Bd.method).1
  have hlk : meth.locks = false := BodyLoose.notSynchronized Bd
  have X0 : Stand p l e ({ frames := 1, cells := 0, slots := 0, locals := 13 } : Room) s m #[(.ref o0), (.int (Int32.ofNat f)), (.int (Int32.ofNat d)), (.int p3)] below meth c s₁ [] 0 0 := Stand.of_body Bd
  have e0 : s₁.heap = h0 := by rw [← hh, Bd.state]; rfl
  have N0 := Fr.nil n0
  refine Got.body (ef_3 m o0 (Int32.ofNat f) (Int32.ofNat d) p3) ?_
  refine Got.step (T' := s₁) (g' := (mkF m 2 #[.val (.ref o0), .val (.int (Int32.ofNat f)), .val (.int (Int32.ofNat d)), .val (.int p3), .unset] [(.int (Int32.ofNat d)), (.int p3)])) (fun tq kt => ?_) ?_
  · show Steps p.tables e below (s₁.setTop (mkF m 0 #[.val (.ref o0), .val (.int (Int32.ofNat f)), .val (.int (Int32.ofNat d)), .val (.int p3), .unset] [])) _
    refine XS.iloadN X0.here hx rfl (hb hby d3_0) rfl ?_
    show Steps p.tables e below (s₁.setTop (mkF m 1 #[.val (.ref o0), .val (.int (Int32.ofNat f)), .val (.int (Int32.ofNat d)), .val (.int p3), .unset] [(.int p3)])) _
    refine XS.iloadN X0.here hx rfl (hb hby d3_1) rfl ?_
    exact kt
  refine Got.ite (q := (p3 < (Int32.ofNat d))) (fun hc11 => ?_) (fun hc11 => ?_)
  · refine Got.step (T' := s₁) (g' := (mkF m 11 #[.val (.ref o0), .val (.int (Int32.ofNat f)), .val (.int (Int32.ofNat d)), .val (.int p3), .unset] [(.int ((Int32.ofNat f) + p3)), (.ref o0)])) (fun tq kt => ?_) ?_
    · show Steps p.tables e below (s₁.setTop (mkF m 2 #[.val (.ref o0), .val (.int (Int32.ofNat f)), .val (.int (Int32.ofNat d)), .val (.int p3), .unset] [(.int (Int32.ofNat d)), (.int p3)])) _
      refine XS.icmpYes X0.here hx rfl (pc0 := 2) (pc' := 7) rfl (hb hby d3_2) rfl (XT.ii_lt_t hc11) (by decide) (by decide) ?_
      show Steps p.tables e below (s₁.setTop (mkF m 7 #[.val (.ref o0), .val (.int (Int32.ofNat f)), .val (.int (Int32.ofNat d)), .val (.int p3), .unset] [])) _
      refine XS.aloadN X0.here hx rfl (hb hby d3_7) rfl rfl ?_
      show Steps p.tables e below (s₁.setTop (mkF m 8 #[.val (.ref o0), .val (.int (Int32.ofNat f)), .val (.int (Int32.ofNat d)), .val (.int p3), .unset] [(.ref o0)])) _
      refine XS.iloadN X0.here hx rfl (hb hby d3_8) rfl ?_
      show Steps p.tables e below (s₁.setTop (mkF m 9 #[.val (.ref o0), .val (.int (Int32.ofNat f)), .val (.int (Int32.ofNat d)), .val (.int p3), .unset] [(.int (Int32.ofNat f)), (.ref o0)])) _
      refine XS.iloadN X0.here hx rfl (hb hby d3_9) rfl ?_
      show Steps p.tables e below (s₁.setTop (mkF m 10 #[.val (.ref o0), .val (.int (Int32.ofNat f)), .val (.int (Int32.ofNat d)), .val (.int p3), .unset] [(.int p3), (.int (Int32.ofNat f)), (.ref o0)])) _
      refine XS.iadd X0.here hx rfl (hb hby d3_10) rfl ?_
      exact kt
    obtain ⟨cl12, Ar12, q12, S12, M12, H12, G12⟩ := (id V0)
    have hin12 : ¬ (((Int32.ofNat f) + p3) < 0 ∨ cl12.slots.size ≤ (((Int32.ofNat f) + p3)).toNatClampNeg) := inb_of S12 (hin hc11)
    refine Got.step (T' := s₁) (fun tq kt => X0.baloadBytes hx (j := ((Int32.ofNat f) + p3)) (v := (.int (bs.getD (((Int32.ofNat f) + p3)).toNatClampNeg 0))) (by rw [e0]; exact Ar12.1) (State.isArrayOf_alike hZ.alike Ar12.2.1) Ar12.2.2 hin12 (H12.at hin12 (own_getD _ _)) (g := (mkF m 11 #[.val (.ref o0), .val (.int (Int32.ofNat f)), .val (.int (Int32.ofNat d)), .val (.int p3), .unset] [(.int ((Int32.ofNat f) + p3)), (.ref o0)])) rfl rfl (hb hby d3_11) tq kt) ?_
    show Got p e below s _ _ _ _ s₁ (mkF m 12 #[.val (.ref o0), .val (.int (Int32.ofNat f)), .val (.int (Int32.ofNat d)), .val (.int p3), .unset] [(.int (bs.getD (((Int32.ofNat f) + p3)).toNatClampNeg 0))])
    refine Got.step (T' := s₁) (g' := (mkF m 18 #[.val (.ref o0), .val (.int (Int32.ofNat f)), .val (.int (Int32.ofNat d)), .val (.int p3), .val (.int (bs.getD (((Int32.ofNat f) + p3)).toNatClampNeg 0))] [(.int (48 : Int32)), (.int (bs.getD (((Int32.ofNat f) + p3)).toNatClampNeg 0))])) (fun tq kt => ?_) ?_
    · show Steps p.tables e below (s₁.setTop (mkF m 12 #[.val (.ref o0), .val (.int (Int32.ofNat f)), .val (.int (Int32.ofNat d)), .val (.int p3), .unset] [(.int (bs.getD (((Int32.ofNat f) + p3)).toNatClampNeg 0))])) _
      refine XS.istore X0.here hx rfl (hb hby d3_12) rfl (l' := #[.val (.ref o0), .val (.int (Int32.ofNat f)), .val (.int (Int32.ofNat d)), .val (.int p3), .val (.int (bs.getD (((Int32.ofNat f) + p3)).toNatClampNeg 0))]) rfl ?_
      show Steps p.tables e below (s₁.setTop (mkF m 14 #[.val (.ref o0), .val (.int (Int32.ofNat f)), .val (.int (Int32.ofNat d)), .val (.int p3), .val (.int (bs.getD (((Int32.ofNat f) + p3)).toNatClampNeg 0))] [])) _
      refine XS.iload X0.here hx rfl (hb hby d3_14) rfl ?_
      show Steps p.tables e below (s₁.setTop (mkF m 16 #[.val (.ref o0), .val (.int (Int32.ofNat f)), .val (.int (Int32.ofNat d)), .val (.int p3), .val (.int (bs.getD (((Int32.ofNat f) + p3)).toNatClampNeg 0))] [(.int (bs.getD (((Int32.ofNat f) + p3)).toNatClampNeg 0))])) _
      refine XS.bipush X0.here hx rfl (hb hby d3_16) ?_
      exact kt
    refine Got.ite (q := ((bs.getD (((Int32.ofNat f) + p3)).toNatClampNeg 0) < (48 : Int32))) (fun hc13 => ?_) (fun hc13 => ?_)
    · refine Got.step (T' := s₁) (g' := (mkF m 29 #[.val (.ref o0), .val (.int (Int32.ofNat f)), .val (.int (Int32.ofNat d)), .val (.int p3), .val (.int (bs.getD (((Int32.ofNat f) + p3)).toNatClampNeg 0))] [(.int (-1 : Int32))])) (fun tq kt => ?_) ?_
      · show Steps p.tables e below (s₁.setTop (mkF m 18 #[.val (.ref o0), .val (.int (Int32.ofNat f)), .val (.int (Int32.ofNat d)), .val (.int p3), .val (.int (bs.getD (((Int32.ofNat f) + p3)).toNatClampNeg 0))] [(.int (48 : Int32)), (.int (bs.getD (((Int32.ofNat f) + p3)).toNatClampNeg 0))])) _
        refine XS.icmpYes X0.here hx rfl (pc0 := 18) (pc' := 28) rfl (hb hby d3_18) rfl (XT.ii_lt_t hc13) (by decide) (by decide) ?_
        show Steps p.tables e below (s₁.setTop (mkF m 28 #[.val (.ref o0), .val (.int (Int32.ofNat f)), .val (.int (Int32.ofNat d)), .val (.int p3), .val (.int (bs.getD (((Int32.ofNat f) + p3)).toNatClampNeg 0))] [])) _
        refine XS.iconst X0.here hx rfl (hb hby d3_28) ?_
        exact kt
      exact Got.retI (y := (-1 : Int32)) X0 hx Bd.returns hlk (hb hby d3_29) rfl ⟨N0, e0⟩ (by decide) (by decide)
    · refine Got.step (T' := s₁) (g' := (mkF m 25 #[.val (.ref o0), .val (.int (Int32.ofNat f)), .val (.int (Int32.ofNat d)), .val (.int p3), .val (.int (bs.getD (((Int32.ofNat f) + p3)).toNatClampNeg 0))] [(.int (57 : Int32)), (.int (bs.getD (((Int32.ofNat f) + p3)).toNatClampNeg 0))])) (fun tq kt => ?_) ?_
      · show Steps p.tables e below (s₁.setTop (mkF m 18 #[.val (.ref o0), .val (.int (Int32.ofNat f)), .val (.int (Int32.ofNat d)), .val (.int p3), .val (.int (bs.getD (((Int32.ofNat f) + p3)).toNatClampNeg 0))] [(.int (48 : Int32)), (.int (bs.getD (((Int32.ofNat f) + p3)).toNatClampNeg 0))])) _
        refine XS.icmpNo X0.here hx rfl (hb hby d3_18) rfl (XT.ii_lt_f hc13) ?_
        show Steps p.tables e below (s₁.setTop (mkF m 21 #[.val (.ref o0), .val (.int (Int32.ofNat f)), .val (.int (Int32.ofNat d)), .val (.int p3), .val (.int (bs.getD (((Int32.ofNat f) + p3)).toNatClampNeg 0))] [])) _
        refine XS.iload X0.here hx rfl (hb hby d3_21) rfl ?_
        show Steps p.tables e below (s₁.setTop (mkF m 23 #[.val (.ref o0), .val (.int (Int32.ofNat f)), .val (.int (Int32.ofNat d)), .val (.int p3), .val (.int (bs.getD (((Int32.ofNat f) + p3)).toNatClampNeg 0))] [(.int (bs.getD (((Int32.ofNat f) + p3)).toNatClampNeg 0))])) _
        refine XS.bipush X0.here hx rfl (hb hby d3_23) ?_
        exact kt
      refine Got.ite (q := ((57 : Int32) < (bs.getD (((Int32.ofNat f) + p3)).toNatClampNeg 0))) (fun hc14 => ?_) (fun hc14 => ?_)
      · refine Got.step (T' := s₁) (g' := (mkF m 29 #[.val (.ref o0), .val (.int (Int32.ofNat f)), .val (.int (Int32.ofNat d)), .val (.int p3), .val (.int (bs.getD (((Int32.ofNat f) + p3)).toNatClampNeg 0))] [(.int (-1 : Int32))])) (fun tq kt => ?_) ?_
        · show Steps p.tables e below (s₁.setTop (mkF m 25 #[.val (.ref o0), .val (.int (Int32.ofNat f)), .val (.int (Int32.ofNat d)), .val (.int p3), .val (.int (bs.getD (((Int32.ofNat f) + p3)).toNatClampNeg 0))] [(.int (57 : Int32)), (.int (bs.getD (((Int32.ofNat f) + p3)).toNatClampNeg 0))])) _
          refine XS.icmpNo X0.here hx rfl (hb hby d3_25) rfl (XT.ii_le_f hc14) ?_
          show Steps p.tables e below (s₁.setTop (mkF m 28 #[.val (.ref o0), .val (.int (Int32.ofNat f)), .val (.int (Int32.ofNat d)), .val (.int p3), .val (.int (bs.getD (((Int32.ofNat f) + p3)).toNatClampNeg 0))] [])) _
          refine XS.iconst X0.here hx rfl (hb hby d3_28) ?_
          exact kt
        exact Got.retI (y := (-1 : Int32)) X0 hx Bd.returns hlk (hb hby d3_29) rfl ⟨N0, e0⟩ (by decide) (by decide)
      · refine Got.step (T' := s₁) (g' := (mkF m 40 #[.val (.ref o0), .val (.int (Int32.ofNat f)), .val (.int (Int32.ofNat d)), .val (.int p3), .val (.int (bs.getD (((Int32.ofNat f) + p3)).toNatClampNeg 0))] [(.int (((Int32.ofNat d) - (1 : Int32)) - p3)), (.int ((bs.getD (((Int32.ofNat f) + p3)).toNatClampNeg 0) - (48 : Int32)))])) (fun tq kt => ?_) ?_
        · show Steps p.tables e below (s₁.setTop (mkF m 25 #[.val (.ref o0), .val (.int (Int32.ofNat f)), .val (.int (Int32.ofNat d)), .val (.int p3), .val (.int (bs.getD (((Int32.ofNat f) + p3)).toNatClampNeg 0))] [(.int (57 : Int32)), (.int (bs.getD (((Int32.ofNat f) + p3)).toNatClampNeg 0))])) _
          refine XS.icmpYes X0.here hx rfl (pc0 := 25) (pc' := 30) rfl (hb hby d3_25) rfl (XT.ii_le_t hc14) (by decide) (by decide) ?_
          show Steps p.tables e below (s₁.setTop (mkF m 30 #[.val (.ref o0), .val (.int (Int32.ofNat f)), .val (.int (Int32.ofNat d)), .val (.int p3), .val (.int (bs.getD (((Int32.ofNat f) + p3)).toNatClampNeg 0))] [])) _
          refine XS.iload X0.here hx rfl (hb hby d3_30) rfl ?_
          show Steps p.tables e below (s₁.setTop (mkF m 32 #[.val (.ref o0), .val (.int (Int32.ofNat f)), .val (.int (Int32.ofNat d)), .val (.int p3), .val (.int (bs.getD (((Int32.ofNat f) + p3)).toNatClampNeg 0))] [(.int (bs.getD (((Int32.ofNat f) + p3)).toNatClampNeg 0))])) _
          refine XS.bipush X0.here hx rfl (hb hby d3_32) ?_
          show Steps p.tables e below (s₁.setTop (mkF m 34 #[.val (.ref o0), .val (.int (Int32.ofNat f)), .val (.int (Int32.ofNat d)), .val (.int p3), .val (.int (bs.getD (((Int32.ofNat f) + p3)).toNatClampNeg 0))] [(.int (48 : Int32)), (.int (bs.getD (((Int32.ofNat f) + p3)).toNatClampNeg 0))])) _
          refine XS.isub X0.here hx rfl (hb hby d3_34) rfl ?_
          show Steps p.tables e below (s₁.setTop (mkF m 35 #[.val (.ref o0), .val (.int (Int32.ofNat f)), .val (.int (Int32.ofNat d)), .val (.int p3), .val (.int (bs.getD (((Int32.ofNat f) + p3)).toNatClampNeg 0))] [(.int ((bs.getD (((Int32.ofNat f) + p3)).toNatClampNeg 0) - (48 : Int32)))])) _
          refine XS.iloadN X0.here hx rfl (hb hby d3_35) rfl ?_
          show Steps p.tables e below (s₁.setTop (mkF m 36 #[.val (.ref o0), .val (.int (Int32.ofNat f)), .val (.int (Int32.ofNat d)), .val (.int p3), .val (.int (bs.getD (((Int32.ofNat f) + p3)).toNatClampNeg 0))] [(.int (Int32.ofNat d)), (.int ((bs.getD (((Int32.ofNat f) + p3)).toNatClampNeg 0) - (48 : Int32)))])) _
          refine XS.iconst X0.here hx rfl (hb hby d3_36) ?_
          show Steps p.tables e below (s₁.setTop (mkF m 37 #[.val (.ref o0), .val (.int (Int32.ofNat f)), .val (.int (Int32.ofNat d)), .val (.int p3), .val (.int (bs.getD (((Int32.ofNat f) + p3)).toNatClampNeg 0))] [(.int (1 : Int32)), (.int (Int32.ofNat d)), (.int ((bs.getD (((Int32.ofNat f) + p3)).toNatClampNeg 0) - (48 : Int32)))])) _
          refine XS.isub X0.here hx rfl (hb hby d3_37) rfl ?_
          show Steps p.tables e below (s₁.setTop (mkF m 38 #[.val (.ref o0), .val (.int (Int32.ofNat f)), .val (.int (Int32.ofNat d)), .val (.int p3), .val (.int (bs.getD (((Int32.ofNat f) + p3)).toNatClampNeg 0))] [(.int ((Int32.ofNat d) - (1 : Int32))), (.int ((bs.getD (((Int32.ofNat f) + p3)).toNatClampNeg 0) - (48 : Int32)))])) _
          refine XS.iloadN X0.here hx rfl (hb hby d3_38) rfl ?_
          show Steps p.tables e below (s₁.setTop (mkF m 39 #[.val (.ref o0), .val (.int (Int32.ofNat f)), .val (.int (Int32.ofNat d)), .val (.int p3), .val (.int (bs.getD (((Int32.ofNat f) + p3)).toNatClampNeg 0))] [(.int p3), (.int ((Int32.ofNat d) - (1 : Int32))), (.int ((bs.getD (((Int32.ofNat f) + p3)).toNatClampNeg 0) - (48 : Int32)))])) _
          refine XS.isub X0.here hx rfl (hb hby d3_39) rfl ?_
          exact kt
        obtain ⟨_, _, ⟨T15, L15, k15, n15⟩, -, X15, ⟨Lc15, hQ15, l15, y15, z15⟩, st15⟩ := Jvm.LawKit.callS X0 hx (y := (⟨"lavka/io/Iso2709NumberPinLaw", "pow10", "(I)I"⟩ : MethodName)) hown (mvT hZ (hw _ (List.mem_of_getElem? (i := 13) rfl))) (mvT hZ (hw _ (List.mem_of_getElem? (i := 14) rfl))) (mvT hZ (hw _ (List.mem_of_getElem? (i := 3) rfl))) (mvT hZ (hw _ (List.mem_of_getElem? (i := 15) rfl))) (by decide) (backOf (W := 1) (rm4 l Z a0 hw [] (((Int32.ofNat d) - (1 : Int32)) - p3) h0 n0 Z0) hZ (hw _ (List.mem_of_getElem? (i := 15) rfl)) (hw _ (List.mem_of_getElem? (i := 3) rfl)) (by decide) (by decide)) (g := (mkF m 40 #[.val (.ref o0), .val (.int (Int32.ofNat f)), .val (.int (Int32.ofNat d)), .val (.int p3), .val (.int (bs.getD (((Int32.ofNat f) + p3)).toNatClampNeg 0))] [(.int (((Int32.ofNat d) - (1 : Int32)) - p3)), (.int ((bs.getD (((Int32.ofNat f) + p3)).toNatClampNeg 0) - (48 : Int32)))])) rfl (by rw [hml]; rfl) (argsL := [(.int (((Int32.ofNat d) - (1 : Int32)) - p3))]) (rest := [(.int ((bs.getD (((Int32.ofNat f) + p3)).toNatClampNeg 0) - (48 : Int32)))]) (lenOf pd_0 rfl) rfl (by show 2 * 0 + _ ≤ _; exact Nat.le_of_eq rfl) (hb hby d3_40) (fun _ _ => ⟨rfl, e0, (by decide : 0 + 0 ≤ _), (by decide : 0 + 0 ≤ _)⟩)
        dsimp only [Pt.U, Pt.locs, Pt.cells, Pt.slots] at X15 l15 y15 z15 st15 hQ15
        subst y15 z15
        obtain ⟨rfl, Nq15, e15⟩ := hQ15
        have N15 : Fr n0 L15 := by rw [l15]; exact Fr.app N0 Nq15
        refine Got.step st15 ?_
        show Got p e below s _ _ _ _ T15 (mkF m 43 #[.val (.ref o0), .val (.int (Int32.ofNat f)), .val (.int (Int32.ofNat d)), .val (.int p3), .val (.int (bs.getD (((Int32.ofNat f) + p3)).toNatClampNeg 0))] [(.int (f4 (((Int32.ofNat d) - (1 : Int32)) - p3))), (.int ((bs.getD (((Int32.ofNat f) + p3)).toNatClampNeg 0) - (48 : Int32)))])
        refine Got.step (T' := T15) (g' := (mkF m 44 #[.val (.ref o0), .val (.int (Int32.ofNat f)), .val (.int (Int32.ofNat d)), .val (.int p3), .val (.int (bs.getD (((Int32.ofNat f) + p3)).toNatClampNeg 0))] [(.int (((bs.getD (((Int32.ofNat f) + p3)).toNatClampNeg 0) - (48 : Int32)) * (f4 (((Int32.ofNat d) - (1 : Int32)) - p3))))])) (fun tq kt => ?_) ?_
        · show Steps p.tables e below (T15.setTop (mkF m 43 #[.val (.ref o0), .val (.int (Int32.ofNat f)), .val (.int (Int32.ofNat d)), .val (.int p3), .val (.int (bs.getD (((Int32.ofNat f) + p3)).toNatClampNeg 0))] [(.int (f4 (((Int32.ofNat d) - (1 : Int32)) - p3))), (.int ((bs.getD (((Int32.ofNat f) + p3)).toNatClampNeg 0) - (48 : Int32)))])) _
          refine XS.imul X15.here hx rfl (hb hby d3_43) rfl ?_
          exact kt
        exact Got.retI (y := (((bs.getD (((Int32.ofNat f) + p3)).toNatClampNeg 0) - (48 : Int32)) * (f4 (((Int32.ofNat d) - (1 : Int32)) - p3)))) X15 hx Bd.returns hlk (hb hby d3_44) rfl ⟨N15, e15⟩ (by decide) (by decide)
  · refine Got.step (T' := s₁) (g' := (mkF m 6 #[.val (.ref o0), .val (.int (Int32.ofNat f)), .val (.int (Int32.ofNat d)), .val (.int p3), .unset] [(.int (0 : Int32))])) (fun tq kt => ?_) ?_
    · show Steps p.tables e below (s₁.setTop (mkF m 2 #[.val (.ref o0), .val (.int (Int32.ofNat f)), .val (.int (Int32.ofNat d)), .val (.int p3), .unset] [(.int (Int32.ofNat d)), (.int p3)])) _
      refine XS.icmpNo X0.here hx rfl (hb hby d3_2) rfl (XT.ii_lt_f hc11) ?_
      show Steps p.tables e below (s₁.setTop (mkF m 5 #[.val (.ref o0), .val (.int (Int32.ofNat f)), .val (.int (Int32.ofNat d)), .val (.int p3), .unset] [])) _
      refine XS.iconst X0.here hx rfl (hb hby d3_5) ?_
      exact kt
    exact Got.retI (y := (0 : Int32)) X0 hx Bd.returns hlk (hb hby d3_6) rfl ⟨N0, e0⟩ (by decide) (by decide)
theorem own_f (p : Int32) : ∃ f : Nat, f < 3 ∧ ((p &&& (3 : Int32)) % (3 : Int32)) = Int32.ofNat f := by
  have h1 := c_mask p 3 2 (by decide) (by decide)
  have h2 := (c_irem (p &&& 3) 3 3 rfl).1 (by omega)
  refine ⟨((p &&& (3 : Int32)) % (3 : Int32)).toInt.toNat, by omega, ?_⟩
  rw [← Int32.toInt_inj, own_i (by omega)]; omega
theorem own_d (p : Int32) : ∃ d : Nat, d < 6 ∧ ((((p.toUInt32 >>> ((2 : Int32) &&& 31).toUInt32).toInt32) &&& (7 : Int32)) % (6 : Int32)) = Int32.ofNat d := by
  generalize ((p.toUInt32 >>> ((2 : Int32) &&& 31).toUInt32).toInt32) = q
  have h1 := c_mask q 7 3 (by decide) (by decide)
  have h2 := (c_irem (q &&& 7) 6 6 rfl).1 (by omega)
  refine ⟨((q &&& (7 : Int32)) % (6 : Int32)).toInt.toNat, by omega, ?_⟩
  rw [← Int32.toInt_inj, own_i (by omega)]; omega
theorem own_hin {f d k : Nat} (hf : f < 3) (hd : d < 6) (hk : k < 5) : Int32.ofNat k < Int32.ofNat d → ¬ (Int32.ofNat f + Int32.ofNat k) < 0 ∧ (Int32.ofNat f + Int32.ofNat k) < 7 := fun h => by
  have z : (0 : Int32).toInt = 0 := rfl
  have z7 : (7 : Int32).toInt = 7 := rfl
  rw [Int32.lt_iff_toInt_lt, own_i (by omega), own_i (by omega)] at h
  rw [← Int32.ofNat_add, Int32.lt_iff_toInt_lt, Int32.lt_iff_toInt_lt, own_i (by omega), z, z7]; omega
theorem own_hin0 {f d : Nat} (hf : f < 3) (hd : d < 6) : (0 : Int32) < Int32.ofNat d → ¬ (Int32.ofNat f + (0 : Int32)) < 0 ∧ (Int32.ofNat f + (0 : Int32)) < 7 := own_hin (k := 0) hf hd (by decide)
theorem own_hin1 {f d : Nat} (hf : f < 3) (hd : d < 6) : (1 : Int32) < Int32.ofNat d → ¬ (Int32.ofNat f + (1 : Int32)) < 0 ∧ (Int32.ofNat f + (1 : Int32)) < 7 := own_hin (k := 1) hf hd (by decide)
theorem own_hin2 {f d : Nat} (hf : f < 3) (hd : d < 6) : (2 : Int32) < Int32.ofNat d → ¬ (Int32.ofNat f + (2 : Int32)) < 0 ∧ (Int32.ofNat f + (2 : Int32)) < 7 := own_hin (k := 2) hf hd (by decide)
theorem own_hin3 {f d : Nat} (hf : f < 3) (hd : d < 6) : (3 : Int32) < Int32.ofNat d → ¬ (Int32.ofNat f + (3 : Int32)) < 0 ∧ (Int32.ofNat f + (3 : Int32)) < 7 := own_hin (k := 3) hf hd (by decide)
theorem own_hin4 {f d : Nat} (hf : f < 3) (hd : d < 6) : (4 : Int32) < Int32.ofNat d → ¬ (Int32.ofNat f + (4 : Int32)) < 0 ∧ (Int32.ofNat f + (4 : Int32)) < 7 := own_hin (k := 4) hf hd (by decide)
/-- one digit's worth -/
def own_T (c p : Int32) : Int32 := if c < (48 : Int32) then (-1 : Int32) else (if (57 : Int32) < c then (-1 : Int32) else ((c - (48 : Int32)) * p))
def own_V (c : Int32) : Prop := ¬ c < (48 : Int32) ∧ ¬ (57 : Int32) < c
theorem own_V_i {c : Int32} (h : own_V c) : 48 ≤ c.toInt ∧ c.toInt ≤ 57 := by
  obtain ⟨h1, h2⟩ := h
  rw [Int32.lt_iff_toInt_lt] at h1 h2
  have z : (48 : Int32).toInt = 48 := rfl
  have z7 : (57 : Int32).toInt = 57 := rfl
  omega
theorem own_num_ok {c acc : Int32} {t : List Int32} (h : own_V c) : num acc (c :: t) = num (((acc * (10 : Int32)) + c) - (48 : Int32)) t := by
  show (if c < (48 : Int32) then (-1 : Int32) else (if (57 : Int32) < c then (-1 : Int32) else _)) = _
  rw [if_neg h.1, if_neg h.2]
theorem own_num_no {c acc : Int32} {t : List Int32} (h : ¬ own_V c) : num acc (c :: t) = -1 := by
  show (if c < (48 : Int32) then (-1 : Int32) else (if (57 : Int32) < c then (-1 : Int32) else _)) = _
  by_cases h1 : c < (48 : Int32)
  · rw [if_pos h1]
  · rw [if_neg h1]
    by_cases h2 : (57 : Int32) < c
    · rw [if_pos h2]
    · exact absurd ⟨h1, h2⟩ h
theorem own_T_no {c p : Int32} (h : ¬ own_V c) : own_T c p = -1 := by
  unfold own_T
  by_cases h1 : c < (48 : Int32)
  · rw [if_pos h1]
  · rw [if_neg h1]
    by_cases h2 : (57 : Int32) < c
    · rw [if_pos h2]
    · exact absurd ⟨h1, h2⟩ h
theorem own_T_ok {c p : Int32} (h : own_V c) (hp : 0 ≤ p.toInt ∧ p.toInt ≤ 10000) : (own_T c p).toInt = (c.toInt - 48) * p.toInt := by
  have z : (48 : Int32).toInt = 48 := rfl
  have v := own_V_i h
  unfold own_T
  rw [if_neg h.1, if_neg h.2]
  have s : (c - (48 : Int32)).toInt = c.toInt - 48 := by rw [XT.sub32 (by unfold XT.fits32; omega), z]
  have m1 : 0 ≤ (c.toInt - 48) * p.toInt := Int.mul_nonneg (by omega) hp.1
  have m2 : (c.toInt - 48) * p.toInt ≤ 9 * 10000 := Int.mul_le_mul (by omega) hp.2 hp.1 (by omega)
  rw [XT.mul32 (by unfold XT.fits32; rw [s]; omega), s]
theorem own_T_ne {c p : Int32} (h : own_V c) (hp : 0 ≤ p.toInt ∧ p.toInt ≤ 10000) : ¬ own_T c p = -1 := fun e => by
  have t := own_T_ok h hp
  have v := own_V_i h
  have m1 : 0 ≤ (c.toInt - 48) * p.toInt := Int.mul_nonneg (by omega) hp.1
  rw [e] at t
  have z : (-1 : Int32).toInt = -1 := rfl
  omega
theorem own_step {acc c : Int32} (h : own_V c) (ha : 0 ≤ acc.toInt ∧ acc.toInt ≤ 99999) : (((acc * (10 : Int32)) + c) - (48 : Int32)).toInt = acc.toInt * 10 + c.toInt - 48 := by
  have z : (48 : Int32).toInt = 48 := rfl
  have z10 : (10 : Int32).toInt = 10 := rfl
  have v := own_V_i h
  have m : (acc * (10 : Int32)).toInt = acc.toInt * 10 := by rw [XT.mul32 (by unfold XT.fits32; rw [z10]; omega), z10]
  have a : ((acc * (10 : Int32)) + c).toInt = acc.toInt * 10 + c.toInt := by rw [XT.add32 (by unfold XT.fits32; omega), m]
  rw [XT.sub32 (by unfold XT.fits32; omega), a, z]
theorem own_d0  : num 0 [] = (if (0 : Int32) = (-1 : Int32) then (-1 : Int32) else (if (0 : Int32) = (-1 : Int32) then (-1 : Int32) else (if (0 : Int32) = (-1 : Int32) then (-1 : Int32) else (if (0 : Int32) = (-1 : Int32) then (-1 : Int32) else (if (0 : Int32) = (-1 : Int32) then (-1 : Int32) else (((((0 : Int32) + (0 : Int32)) + (0 : Int32)) + (0 : Int32)) + (0 : Int32))))))) := by
  rw [if_neg (by decide : ¬ (0 : Int32) = -1), if_neg (by decide : ¬ (0 : Int32) = -1), if_neg (by decide : ¬ (0 : Int32) = -1), if_neg (by decide : ¬ (0 : Int32) = -1), if_neg (by decide : ¬ (0 : Int32) = -1)]
  rfl
theorem own_d1 (c0 : Int32) : num 0 [c0] = (if (own_T c0 (1 : Int32)) = (-1 : Int32) then (-1 : Int32) else (if (0 : Int32) = (-1 : Int32) then (-1 : Int32) else (if (0 : Int32) = (-1 : Int32) then (-1 : Int32) else (if (0 : Int32) = (-1 : Int32) then (-1 : Int32) else (if (0 : Int32) = (-1 : Int32) then (-1 : Int32) else (((((own_T c0 (1 : Int32)) + (0 : Int32)) + (0 : Int32)) + (0 : Int32)) + (0 : Int32))))))) := by
  by_cases v0 : own_V c0
  case neg => rw [ own_num_no v0,  if_pos (own_T_no v0)]
  rw [own_num_ok v0, if_neg (own_T_ne v0 (by decide)), if_neg (by decide : ¬ (0 : Int32) = -1), if_neg (by decide : ¬ (0 : Int32) = -1), if_neg (by decide : ¬ (0 : Int32) = -1), if_neg (by decide : ¬ (0 : Int32) = -1)]
  have w0 := own_V_i v0
  have z0 : (0 : Int32).toInt = 0 := rfl
  have s0 := own_step (acc := (0 : Int32)) v0 (by decide)
  have t0 := own_T_ok v0 (p := (1 : Int32)) (by decide)
  have q0 : (1 : Int32).toInt = 1 := rfl
  rw [q0] at t0
  show ((((0 : Int32) * (10 : Int32)) + c0) - (48 : Int32)) = _
  rw [← Int32.toInt_inj]
  have u1 : ((own_T c0 (1 : Int32)) + (0 : Int32)).toInt = ((own_T c0 (1 : Int32))).toInt + ((0 : Int32)).toInt := XT.add32 (by unfold XT.fits32; omega)
  have u2 : (((own_T c0 (1 : Int32)) + (0 : Int32)) + (0 : Int32)).toInt = (((own_T c0 (1 : Int32)) + (0 : Int32))).toInt + ((0 : Int32)).toInt := XT.add32 (by unfold XT.fits32; omega)
  have u3 : ((((own_T c0 (1 : Int32)) + (0 : Int32)) + (0 : Int32)) + (0 : Int32)).toInt = ((((own_T c0 (1 : Int32)) + (0 : Int32)) + (0 : Int32))).toInt + ((0 : Int32)).toInt := XT.add32 (by unfold XT.fits32; omega)
  have u4 : (((((own_T c0 (1 : Int32)) + (0 : Int32)) + (0 : Int32)) + (0 : Int32)) + (0 : Int32)).toInt = (((((own_T c0 (1 : Int32)) + (0 : Int32)) + (0 : Int32)) + (0 : Int32))).toInt + ((0 : Int32)).toInt := XT.add32 (by unfold XT.fits32; omega)
  omega
theorem own_d2 (c0 c1 : Int32) : num 0 [c0, c1] = (if (own_T c0 (10 : Int32)) = (-1 : Int32) then (-1 : Int32) else (if (own_T c1 (1 : Int32)) = (-1 : Int32) then (-1 : Int32) else (if (0 : Int32) = (-1 : Int32) then (-1 : Int32) else (if (0 : Int32) = (-1 : Int32) then (-1 : Int32) else (if (0 : Int32) = (-1 : Int32) then (-1 : Int32) else (((((own_T c0 (10 : Int32)) + (own_T c1 (1 : Int32))) + (0 : Int32)) + (0 : Int32)) + (0 : Int32))))))) := by
  by_cases v0 : own_V c0
  case neg => rw [ own_num_no v0,  if_pos (own_T_no v0)]
  by_cases v1 : own_V c1
  case neg => rw [own_num_ok v0, own_num_no v1, if_neg (own_T_ne v0 (by decide)), if_pos (own_T_no v1)]
  rw [own_num_ok v0, own_num_ok v1, if_neg (own_T_ne v0 (by decide)), if_neg (own_T_ne v1 (by decide)), if_neg (by decide : ¬ (0 : Int32) = -1), if_neg (by decide : ¬ (0 : Int32) = -1), if_neg (by decide : ¬ (0 : Int32) = -1)]
  have w0 := own_V_i v0
  have w1 := own_V_i v1
  have z0 : (0 : Int32).toInt = 0 := rfl
  have s0 := own_step (acc := (0 : Int32)) v0 (by decide)
  have s1 := own_step (acc := ((((0 : Int32) * (10 : Int32)) + c0) - (48 : Int32))) v1 (by omega)
  have t0 := own_T_ok v0 (p := (10 : Int32)) (by decide)
  have q0 : (10 : Int32).toInt = 10 := rfl
  rw [q0] at t0
  have t1 := own_T_ok v1 (p := (1 : Int32)) (by decide)
  have q1 : (1 : Int32).toInt = 1 := rfl
  rw [q1] at t1
  show (((((((0 : Int32) * (10 : Int32)) + c0) - (48 : Int32)) * (10 : Int32)) + c1) - (48 : Int32)) = _
  rw [← Int32.toInt_inj]
  have u1 : ((own_T c0 (10 : Int32)) + (own_T c1 (1 : Int32))).toInt = ((own_T c0 (10 : Int32))).toInt + ((own_T c1 (1 : Int32))).toInt := XT.add32 (by unfold XT.fits32; omega)
  have u2 : (((own_T c0 (10 : Int32)) + (own_T c1 (1 : Int32))) + (0 : Int32)).toInt = (((own_T c0 (10 : Int32)) + (own_T c1 (1 : Int32)))).toInt + ((0 : Int32)).toInt := XT.add32 (by unfold XT.fits32; omega)
  have u3 : ((((own_T c0 (10 : Int32)) + (own_T c1 (1 : Int32))) + (0 : Int32)) + (0 : Int32)).toInt = ((((own_T c0 (10 : Int32)) + (own_T c1 (1 : Int32))) + (0 : Int32))).toInt + ((0 : Int32)).toInt := XT.add32 (by unfold XT.fits32; omega)
  have u4 : (((((own_T c0 (10 : Int32)) + (own_T c1 (1 : Int32))) + (0 : Int32)) + (0 : Int32)) + (0 : Int32)).toInt = (((((own_T c0 (10 : Int32)) + (own_T c1 (1 : Int32))) + (0 : Int32)) + (0 : Int32))).toInt + ((0 : Int32)).toInt := XT.add32 (by unfold XT.fits32; omega)
  omega
theorem own_d3 (c0 c1 c2 : Int32) : num 0 [c0, c1, c2] = (if (own_T c0 (100 : Int32)) = (-1 : Int32) then (-1 : Int32) else (if (own_T c1 (10 : Int32)) = (-1 : Int32) then (-1 : Int32) else (if (own_T c2 (1 : Int32)) = (-1 : Int32) then (-1 : Int32) else (if (0 : Int32) = (-1 : Int32) then (-1 : Int32) else (if (0 : Int32) = (-1 : Int32) then (-1 : Int32) else (((((own_T c0 (100 : Int32)) + (own_T c1 (10 : Int32))) + (own_T c2 (1 : Int32))) + (0 : Int32)) + (0 : Int32))))))) := by
  by_cases v0 : own_V c0
  case neg => rw [ own_num_no v0,  if_pos (own_T_no v0)]
  by_cases v1 : own_V c1
  case neg => rw [own_num_ok v0, own_num_no v1, if_neg (own_T_ne v0 (by decide)), if_pos (own_T_no v1)]
  by_cases v2 : own_V c2
  case neg => rw [own_num_ok v0, own_num_ok v1, own_num_no v2, if_neg (own_T_ne v0 (by decide)), if_neg (own_T_ne v1 (by decide)), if_pos (own_T_no v2)]
  rw [own_num_ok v0, own_num_ok v1, own_num_ok v2, if_neg (own_T_ne v0 (by decide)), if_neg (own_T_ne v1 (by decide)), if_neg (own_T_ne v2 (by decide)), if_neg (by decide : ¬ (0 : Int32) = -1), if_neg (by decide : ¬ (0 : Int32) = -1)]
  have w0 := own_V_i v0
  have w1 := own_V_i v1
  have w2 := own_V_i v2
  have z0 : (0 : Int32).toInt = 0 := rfl
  have s0 := own_step (acc := (0 : Int32)) v0 (by decide)
  have s1 := own_step (acc := ((((0 : Int32) * (10 : Int32)) + c0) - (48 : Int32))) v1 (by omega)
  have s2 := own_step (acc := (((((((0 : Int32) * (10 : Int32)) + c0) - (48 : Int32)) * (10 : Int32)) + c1) - (48 : Int32))) v2 (by omega)
  have t0 := own_T_ok v0 (p := (100 : Int32)) (by decide)
  have q0 : (100 : Int32).toInt = 100 := rfl
  rw [q0] at t0
  have t1 := own_T_ok v1 (p := (10 : Int32)) (by decide)
  have q1 : (10 : Int32).toInt = 10 := rfl
  rw [q1] at t1
  have t2 := own_T_ok v2 (p := (1 : Int32)) (by decide)
  have q2 : (1 : Int32).toInt = 1 := rfl
  rw [q2] at t2
  show ((((((((((0 : Int32) * (10 : Int32)) + c0) - (48 : Int32)) * (10 : Int32)) + c1) - (48 : Int32)) * (10 : Int32)) + c2) - (48 : Int32)) = _
  rw [← Int32.toInt_inj]
  have u1 : ((own_T c0 (100 : Int32)) + (own_T c1 (10 : Int32))).toInt = ((own_T c0 (100 : Int32))).toInt + ((own_T c1 (10 : Int32))).toInt := XT.add32 (by unfold XT.fits32; omega)
  have u2 : (((own_T c0 (100 : Int32)) + (own_T c1 (10 : Int32))) + (own_T c2 (1 : Int32))).toInt = (((own_T c0 (100 : Int32)) + (own_T c1 (10 : Int32)))).toInt + ((own_T c2 (1 : Int32))).toInt := XT.add32 (by unfold XT.fits32; omega)
  have u3 : ((((own_T c0 (100 : Int32)) + (own_T c1 (10 : Int32))) + (own_T c2 (1 : Int32))) + (0 : Int32)).toInt = ((((own_T c0 (100 : Int32)) + (own_T c1 (10 : Int32))) + (own_T c2 (1 : Int32)))).toInt + ((0 : Int32)).toInt := XT.add32 (by unfold XT.fits32; omega)
  have u4 : (((((own_T c0 (100 : Int32)) + (own_T c1 (10 : Int32))) + (own_T c2 (1 : Int32))) + (0 : Int32)) + (0 : Int32)).toInt = (((((own_T c0 (100 : Int32)) + (own_T c1 (10 : Int32))) + (own_T c2 (1 : Int32))) + (0 : Int32))).toInt + ((0 : Int32)).toInt := XT.add32 (by unfold XT.fits32; omega)
  omega
theorem own_d4 (c0 c1 c2 c3 : Int32) : num 0 [c0, c1, c2, c3] = (if (own_T c0 (1000 : Int32)) = (-1 : Int32) then (-1 : Int32) else (if (own_T c1 (100 : Int32)) = (-1 : Int32) then (-1 : Int32) else (if (own_T c2 (10 : Int32)) = (-1 : Int32) then (-1 : Int32) else (if (own_T c3 (1 : Int32)) = (-1 : Int32) then (-1 : Int32) else (if (0 : Int32) = (-1 : Int32) then (-1 : Int32) else (((((own_T c0 (1000 : Int32)) + (own_T c1 (100 : Int32))) + (own_T c2 (10 : Int32))) + (own_T c3 (1 : Int32))) + (0 : Int32))))))) := by
  by_cases v0 : own_V c0
  case neg => rw [ own_num_no v0,  if_pos (own_T_no v0)]
  by_cases v1 : own_V c1
  case neg => rw [own_num_ok v0, own_num_no v1, if_neg (own_T_ne v0 (by decide)), if_pos (own_T_no v1)]
  by_cases v2 : own_V c2
  case neg => rw [own_num_ok v0, own_num_ok v1, own_num_no v2, if_neg (own_T_ne v0 (by decide)), if_neg (own_T_ne v1 (by decide)), if_pos (own_T_no v2)]
  by_cases v3 : own_V c3
  case neg => rw [own_num_ok v0, own_num_ok v1, own_num_ok v2, own_num_no v3, if_neg (own_T_ne v0 (by decide)), if_neg (own_T_ne v1 (by decide)), if_neg (own_T_ne v2 (by decide)), if_pos (own_T_no v3)]
  rw [own_num_ok v0, own_num_ok v1, own_num_ok v2, own_num_ok v3, if_neg (own_T_ne v0 (by decide)), if_neg (own_T_ne v1 (by decide)), if_neg (own_T_ne v2 (by decide)), if_neg (own_T_ne v3 (by decide)), if_neg (by decide : ¬ (0 : Int32) = -1)]
  have w0 := own_V_i v0
  have w1 := own_V_i v1
  have w2 := own_V_i v2
  have w3 := own_V_i v3
  have z0 : (0 : Int32).toInt = 0 := rfl
  have s0 := own_step (acc := (0 : Int32)) v0 (by decide)
  have s1 := own_step (acc := ((((0 : Int32) * (10 : Int32)) + c0) - (48 : Int32))) v1 (by omega)
  have s2 := own_step (acc := (((((((0 : Int32) * (10 : Int32)) + c0) - (48 : Int32)) * (10 : Int32)) + c1) - (48 : Int32))) v2 (by omega)
  have s3 := own_step (acc := ((((((((((0 : Int32) * (10 : Int32)) + c0) - (48 : Int32)) * (10 : Int32)) + c1) - (48 : Int32)) * (10 : Int32)) + c2) - (48 : Int32))) v3 (by omega)
  have t0 := own_T_ok v0 (p := (1000 : Int32)) (by decide)
  have q0 : (1000 : Int32).toInt = 1000 := rfl
  rw [q0] at t0
  have t1 := own_T_ok v1 (p := (100 : Int32)) (by decide)
  have q1 : (100 : Int32).toInt = 100 := rfl
  rw [q1] at t1
  have t2 := own_T_ok v2 (p := (10 : Int32)) (by decide)
  have q2 : (10 : Int32).toInt = 10 := rfl
  rw [q2] at t2
  have t3 := own_T_ok v3 (p := (1 : Int32)) (by decide)
  have q3 : (1 : Int32).toInt = 1 := rfl
  rw [q3] at t3
  show (((((((((((((0 : Int32) * (10 : Int32)) + c0) - (48 : Int32)) * (10 : Int32)) + c1) - (48 : Int32)) * (10 : Int32)) + c2) - (48 : Int32)) * (10 : Int32)) + c3) - (48 : Int32)) = _
  rw [← Int32.toInt_inj]
  have u1 : ((own_T c0 (1000 : Int32)) + (own_T c1 (100 : Int32))).toInt = ((own_T c0 (1000 : Int32))).toInt + ((own_T c1 (100 : Int32))).toInt := XT.add32 (by unfold XT.fits32; omega)
  have u2 : (((own_T c0 (1000 : Int32)) + (own_T c1 (100 : Int32))) + (own_T c2 (10 : Int32))).toInt = (((own_T c0 (1000 : Int32)) + (own_T c1 (100 : Int32)))).toInt + ((own_T c2 (10 : Int32))).toInt := XT.add32 (by unfold XT.fits32; omega)
  have u3 : ((((own_T c0 (1000 : Int32)) + (own_T c1 (100 : Int32))) + (own_T c2 (10 : Int32))) + (own_T c3 (1 : Int32))).toInt = ((((own_T c0 (1000 : Int32)) + (own_T c1 (100 : Int32))) + (own_T c2 (10 : Int32)))).toInt + ((own_T c3 (1 : Int32))).toInt := XT.add32 (by unfold XT.fits32; omega)
  have u4 : (((((own_T c0 (1000 : Int32)) + (own_T c1 (100 : Int32))) + (own_T c2 (10 : Int32))) + (own_T c3 (1 : Int32))) + (0 : Int32)).toInt = (((((own_T c0 (1000 : Int32)) + (own_T c1 (100 : Int32))) + (own_T c2 (10 : Int32))) + (own_T c3 (1 : Int32)))).toInt + ((0 : Int32)).toInt := XT.add32 (by unfold XT.fits32; omega)
  omega
theorem own_d5 (c0 c1 c2 c3 c4 : Int32) : num 0 [c0, c1, c2, c3, c4] = (if (own_T c0 (10000 : Int32)) = (-1 : Int32) then (-1 : Int32) else (if (own_T c1 (1000 : Int32)) = (-1 : Int32) then (-1 : Int32) else (if (own_T c2 (100 : Int32)) = (-1 : Int32) then (-1 : Int32) else (if (own_T c3 (10 : Int32)) = (-1 : Int32) then (-1 : Int32) else (if (own_T c4 (1 : Int32)) = (-1 : Int32) then (-1 : Int32) else (((((own_T c0 (10000 : Int32)) + (own_T c1 (1000 : Int32))) + (own_T c2 (100 : Int32))) + (own_T c3 (10 : Int32))) + (own_T c4 (1 : Int32)))))))) := by
  by_cases v0 : own_V c0
  case neg => rw [ own_num_no v0,  if_pos (own_T_no v0)]
  by_cases v1 : own_V c1
  case neg => rw [own_num_ok v0, own_num_no v1, if_neg (own_T_ne v0 (by decide)), if_pos (own_T_no v1)]
  by_cases v2 : own_V c2
  case neg => rw [own_num_ok v0, own_num_ok v1, own_num_no v2, if_neg (own_T_ne v0 (by decide)), if_neg (own_T_ne v1 (by decide)), if_pos (own_T_no v2)]
  by_cases v3 : own_V c3
  case neg => rw [own_num_ok v0, own_num_ok v1, own_num_ok v2, own_num_no v3, if_neg (own_T_ne v0 (by decide)), if_neg (own_T_ne v1 (by decide)), if_neg (own_T_ne v2 (by decide)), if_pos (own_T_no v3)]
  by_cases v4 : own_V c4
  case neg => rw [own_num_ok v0, own_num_ok v1, own_num_ok v2, own_num_ok v3, own_num_no v4, if_neg (own_T_ne v0 (by decide)), if_neg (own_T_ne v1 (by decide)), if_neg (own_T_ne v2 (by decide)), if_neg (own_T_ne v3 (by decide)), if_pos (own_T_no v4)]
  rw [own_num_ok v0, own_num_ok v1, own_num_ok v2, own_num_ok v3, own_num_ok v4, if_neg (own_T_ne v0 (by decide)), if_neg (own_T_ne v1 (by decide)), if_neg (own_T_ne v2 (by decide)), if_neg (own_T_ne v3 (by decide)), if_neg (own_T_ne v4 (by decide))]
  have w0 := own_V_i v0
  have w1 := own_V_i v1
  have w2 := own_V_i v2
  have w3 := own_V_i v3
  have w4 := own_V_i v4
  have z0 : (0 : Int32).toInt = 0 := rfl
  have s0 := own_step (acc := (0 : Int32)) v0 (by decide)
  have s1 := own_step (acc := ((((0 : Int32) * (10 : Int32)) + c0) - (48 : Int32))) v1 (by omega)
  have s2 := own_step (acc := (((((((0 : Int32) * (10 : Int32)) + c0) - (48 : Int32)) * (10 : Int32)) + c1) - (48 : Int32))) v2 (by omega)
  have s3 := own_step (acc := ((((((((((0 : Int32) * (10 : Int32)) + c0) - (48 : Int32)) * (10 : Int32)) + c1) - (48 : Int32)) * (10 : Int32)) + c2) - (48 : Int32))) v3 (by omega)
  have s4 := own_step (acc := (((((((((((((0 : Int32) * (10 : Int32)) + c0) - (48 : Int32)) * (10 : Int32)) + c1) - (48 : Int32)) * (10 : Int32)) + c2) - (48 : Int32)) * (10 : Int32)) + c3) - (48 : Int32))) v4 (by omega)
  have t0 := own_T_ok v0 (p := (10000 : Int32)) (by decide)
  have q0 : (10000 : Int32).toInt = 10000 := rfl
  rw [q0] at t0
  have t1 := own_T_ok v1 (p := (1000 : Int32)) (by decide)
  have q1 : (1000 : Int32).toInt = 1000 := rfl
  rw [q1] at t1
  have t2 := own_T_ok v2 (p := (100 : Int32)) (by decide)
  have q2 : (100 : Int32).toInt = 100 := rfl
  rw [q2] at t2
  have t3 := own_T_ok v3 (p := (10 : Int32)) (by decide)
  have q3 : (10 : Int32).toInt = 10 := rfl
  rw [q3] at t3
  have t4 := own_T_ok v4 (p := (1 : Int32)) (by decide)
  have q4 : (1 : Int32).toInt = 1 := rfl
  rw [q4] at t4
  show ((((((((((((((((0 : Int32) * (10 : Int32)) + c0) - (48 : Int32)) * (10 : Int32)) + c1) - (48 : Int32)) * (10 : Int32)) + c2) - (48 : Int32)) * (10 : Int32)) + c3) - (48 : Int32)) * (10 : Int32)) + c4) - (48 : Int32)) = _
  rw [← Int32.toInt_inj]
  have u1 : ((own_T c0 (10000 : Int32)) + (own_T c1 (1000 : Int32))).toInt = ((own_T c0 (10000 : Int32))).toInt + ((own_T c1 (1000 : Int32))).toInt := XT.add32 (by unfold XT.fits32; omega)
  have u2 : (((own_T c0 (10000 : Int32)) + (own_T c1 (1000 : Int32))) + (own_T c2 (100 : Int32))).toInt = (((own_T c0 (10000 : Int32)) + (own_T c1 (1000 : Int32)))).toInt + ((own_T c2 (100 : Int32))).toInt := XT.add32 (by unfold XT.fits32; omega)
  have u3 : ((((own_T c0 (10000 : Int32)) + (own_T c1 (1000 : Int32))) + (own_T c2 (100 : Int32))) + (own_T c3 (10 : Int32))).toInt = ((((own_T c0 (10000 : Int32)) + (own_T c1 (1000 : Int32))) + (own_T c2 (100 : Int32)))).toInt + ((own_T c3 (10 : Int32))).toInt := XT.add32 (by unfold XT.fits32; omega)
  have u4 : (((((own_T c0 (10000 : Int32)) + (own_T c1 (1000 : Int32))) + (own_T c2 (100 : Int32))) + (own_T c3 (10 : Int32))) + (own_T c4 (1 : Int32))).toInt = (((((own_T c0 (10000 : Int32)) + (own_T c1 (1000 : Int32))) + (own_T c2 (100 : Int32))) + (own_T c3 (10 : Int32)))).toInt + ((own_T c4 (1 : Int32))).toInt := XT.add32 (by unfold XT.fits32; omega)
  omega
theorem own_fin {f d : Nat} {bs : List Int32} {v : Int32} (hf : f < 3) (hd : d < 6) (hl : bs.length = 7) (hv : v = (if (f3 bs f d (0 : Int32)) = (-1 : Int32) then (-1 : Int32) else (if (f3 bs f d (1 : Int32)) = (-1 : Int32) then (-1 : Int32) else (if (f3 bs f d (2 : Int32)) = (-1 : Int32) then (-1 : Int32) else (if (f3 bs f d (3 : Int32)) = (-1 : Int32) then (-1 : Int32) else (if (f3 bs f d (4 : Int32)) = (-1 : Int32) then (-1 : Int32) else (((((f3 bs f d (0 : Int32)) + (f3 bs f d (1 : Int32))) + (f3 bs f d (2 : Int32))) + (f3 bs f d (3 : Int32))) + (f3 bs f d (4 : Int32))))))))) : (num 0 ((bs.drop f).take d)) = v := by
  rw [hv]
  match bs, hl with
  | [b0, b1, b2, b3, b4, b5, b6], _ =>
    match f, hf with
    | 0, _ =>
      match d, hd with
      | 0, _ => exact own_d0 
      | 1, _ => exact own_d1 b0
      | 2, _ => exact own_d2 b0 b1
      | 3, _ => exact own_d3 b0 b1 b2
      | 4, _ => exact own_d4 b0 b1 b2 b3
      | 5, _ => exact own_d5 b0 b1 b2 b3 b4
    | 1, _ =>
      match d, hd with
      | 0, _ => exact own_d0 
      | 1, _ => exact own_d1 b1
      | 2, _ => exact own_d2 b1 b2
      | 3, _ => exact own_d3 b1 b2 b3
      | 4, _ => exact own_d4 b1 b2 b3 b4
      | 5, _ => exact own_d5 b1 b2 b3 b4 b5
    | 2, _ =>
      match d, hd with
      | 0, _ => exact own_d0 
      | 1, _ => exact own_d1 b2
      | 2, _ => exact own_d2 b2 b3
      | 3, _ => exact own_d3 b2 b3 b4
      | 4, _ => exact own_d4 b2 b3 b4 b5
      | 5, _ => exact own_d5 b2 b3 b4 b5 b6

theorem pd_1 : parseMethodDescriptor "(JJII)B" = some ⟨[.long, .long, .int, .int], some .byte⟩ := by decide +kernel
theorem pd_2 : parseMethodDescriptor "([BII)I" = some ⟨[(.array .byte), .int, .int], some .int⟩ := by decide +kernel
theorem pd_3 : parseMethodDescriptor "([BIII)I" = some ⟨[(.array .byte), .int, .int, .int], some .int⟩ := by decide +kernel
theorem ef_0 (m : MethodId) (x0 : Int64) (x1 : Int64) (x2 : Int32) (x3 : Int32) : entryFrame m #[(.long x0), (.long x1), (.int x2), (.int x3)] maxLocals = mkF m 0 #[.val (.long x0), .second, .val (.long x1), .second, .val (.int x2), .val (.int x3), .unset, .unset, .unset, .unset, .unset, .unset, .unset, .unset, .unset, .unset] [] := by first | (simp [entryFrame, mkF, argsToLocals, Value.category, maxLocals]; done) | rfl
set_option maxRecDepth 65536 in
set_option maxHeartbeats 40000000 in
theorem rm0 (l : Launch) (Z : State) (a0 : Array Value) (hw : ∀ d ∈ tables_1, d.before a0 Z = true) (ws : List Jvm.Cond) (q0 q1 : Int64) (p2 p3 : Int32) (h0 : Heap) (n0 : Nat) (Z0 : n0 ≤ h0.size)  :
    MetFree l x (head1 (Jvm.Cond.code x code maxLocals ret :: ws) room_1) (fun a U => a = #[(.long q0), (.long q1), (.int p2), (.int p3)] ∧ Z.Warmed39 U.vm ∧ U.heap = h0) (fun _ _ _ _ _ => True) (fun _ U o U' => ∃ v L, o = .returned v ∧ QV (some (.int (1 : Int32))) (fun _ L => Fr n0 L) v U'.heap L ∧ FrameEnd U o U' L room_1.cells room_1.slots) := by
  refine MetFree.of_bodySF (plainFor_of_name pn_0) hisR ?_
  intro p e s m args below meth c s₁ Bd hml0 hP hK
  obtain ⟨rfl, hZ, hh⟩ := hP
  have hx := Bd.exec
  have hby := Bd.bytes
  have hml : c.maxLocals = 16 := hml0
  have hown : s.vm.findClass "lavka/io/Iso2709NumberPinLaw" = some m.cls := findClass_of_methodNamed Bd.named
  have hnm := (name_of_methodNamed Bd.named Bd.method).1
  have hlk : meth.locks = false := BodyLoose.notSynchronized Bd
  have X0 : Stand p l e room_1 s m #[(.long q0), (.long q1), (.int p2), (.int p3)] below meth c s₁ [] 0 0 := Stand.of_body Bd
  have e0 : s₁.heap = h0 := by rw [← hh, Bd.state]; rfl
  have N0 := Fr.nil n0
  refine Got.body (ef_0 m q0 q1 p2 p3) ?_
  refine Got.step (T' := s₁) (g' := (mkF m 2 #[.val (.long q0), .second, .val (.long q1), .second, .val (.int p2), .val (.int p3), .unset, .unset, .unset, .unset, .unset, .unset, .unset, .unset, .unset, .unset] [(.int (7 : Int32))])) (fun tq kt => ?_) ?_
  · show Steps p.tables e below (s₁.setTop (mkF m 0 #[.val (.long q0), .second, .val (.long q1), .second, .val (.int p2), .val (.int p3), .unset, .unset, .unset, .unset, .unset, .unset, .unset, .unset, .unset, .unset] [])) _
    refine XS.bipush X0.here hx rfl (hb hby at_0) ?_
    exact kt
  obtain ⟨T16, h16, k16, X16, e16, E16, A16, st16⟩ := newP X0 hx hZ (hw _ (List.mem_of_getElem? (i := 0) rfl)) e0 (g := (mkF m 2 #[.val (.long q0), .second, .val (.long q1), .second, .val (.int p2), .val (.int p3), .unset, .unset, .unset, .unset, .unset, .unset, .unset, .unset, .unset, .unset] [(.int (7 : Int32))])) rfl (hb hby at_2) rfl (by decide) (cap := 7) (by decide) (by decide) (by decide) (by decide)
  obtain ⟨b16, g16⟩ : ∃ z, z = h0.size := ⟨_, rfl⟩
  rw [← g16] at A16 st16
  have gn_b16 : n0 ≤ b16 := by rw [g16]; exact Z0
  have Z0_17 : n0 ≤ h16.size := (Nat.le_trans Z0 E16.1)
  have V16 : Arv Z h16 b16 k16 .byte (7 : Int32) [(.int (0 : Int32)), (.int (0 : Int32)), (.int (0 : Int32)), (.int (0 : Int32)), (.int (0 : Int32)), (.int (0 : Int32)), (.int (0 : Int32))] (.int (0 : Int32)) := (Arv.new A16 (by decide)).pad (pad_rep [] (.int (0 : Int32)) 7)
  refine Got.step st16 ?_
  show Got p e below s _ _ _ _ T16 (mkF m 4 #[.val (.long q0), .second, .val (.long q1), .second, .val (.int p2), .val (.int p3), .unset, .unset, .unset, .unset, .unset, .unset, .unset, .unset, .unset, .unset] [(.ref b16)])
  refine Got.step (T' := T16) (g' := (mkF m 14 #[.val (.long q0), .second, .val (.long q1), .second, .val (.int p2), .val (.int p3), .val (.ref b16), .unset, .unset, .unset, .unset, .unset, .unset, .unset, .unset, .unset] [(.int (0 : Int32)), (.int p2), (.long q1), (.long q0), (.int (0 : Int32)), (.ref b16)])) (fun tq kt => ?_) ?_
  · show Steps p.tables e below (T16.setTop (mkF m 4 #[.val (.long q0), .second, .val (.long q1), .second, .val (.int p2), .val (.int p3), .unset, .unset, .unset, .unset, .unset, .unset, .unset, .unset, .unset, .unset] [(.ref b16)])) _
    refine XS.astore X16.here hx rfl (hb hby at_4) rfl rfl (l' := #[.val (.long q0), .second, .val (.long q1), .second, .val (.int p2), .val (.int p3), .val (.ref b16), .unset, .unset, .unset, .unset, .unset, .unset, .unset, .unset, .unset]) rfl ?_
    show Steps p.tables e below (T16.setTop (mkF m 6 #[.val (.long q0), .second, .val (.long q1), .second, .val (.int p2), .val (.int p3), .val (.ref b16), .unset, .unset, .unset, .unset, .unset, .unset, .unset, .unset, .unset] [])) _
    refine XS.aload X16.here hx rfl (hb hby at_6) rfl rfl ?_
    show Steps p.tables e below (T16.setTop (mkF m 8 #[.val (.long q0), .second, .val (.long q1), .second, .val (.int p2), .val (.int p3), .val (.ref b16), .unset, .unset, .unset, .unset, .unset, .unset, .unset, .unset, .unset] [(.ref b16)])) _
    refine XS.iconst X16.here hx rfl (hb hby at_8) ?_
    show Steps p.tables e below (T16.setTop (mkF m 9 #[.val (.long q0), .second, .val (.long q1), .second, .val (.int p2), .val (.int p3), .val (.ref b16), .unset, .unset, .unset, .unset, .unset, .unset, .unset, .unset, .unset] [(.int (0 : Int32)), (.ref b16)])) _
    refine XS.lloadN X16.here hx rfl (hb hby at_9) rfl ?_
    show Steps p.tables e below (T16.setTop (mkF m 10 #[.val (.long q0), .second, .val (.long q1), .second, .val (.int p2), .val (.int p3), .val (.ref b16), .unset, .unset, .unset, .unset, .unset, .unset, .unset, .unset, .unset] [(.long q0), (.int (0 : Int32)), (.ref b16)])) _
    refine XS.lloadN X16.here hx rfl (hb hby at_10) rfl ?_
    show Steps p.tables e below (T16.setTop (mkF m 11 #[.val (.long q0), .second, .val (.long q1), .second, .val (.int p2), .val (.int p3), .val (.ref b16), .unset, .unset, .unset, .unset, .unset, .unset, .unset, .unset, .unset] [(.long q1), (.long q0), (.int (0 : Int32)), (.ref b16)])) _
    refine XS.iload X16.here hx rfl (hb hby at_11) rfl ?_
    show Steps p.tables e below (T16.setTop (mkF m 13 #[.val (.long q0), .second, .val (.long q1), .second, .val (.int p2), .val (.int p3), .val (.ref b16), .unset, .unset, .unset, .unset, .unset, .unset, .unset, .unset, .unset] [(.int p2), (.long q1), (.long q0), (.int (0 : Int32)), (.ref b16)])) _
    refine XS.iconst X16.here hx rfl (hb hby at_13) ?_
    exact kt
  obtain ⟨_, _, ⟨T18, L18, k18, n18⟩, -, X18, ⟨Lc18, hQ18, l18, y18, z18⟩, st18⟩ := Jvm.LawKit.callS X16 hx (y := (⟨"lavka/io/Iso2709NumberPinLaw", "pick", "(JJII)B"⟩ : MethodName)) hown (mvT hZ (hw _ (List.mem_of_getElem? (i := 1) rfl))) (mvT hZ (hw _ (List.mem_of_getElem? (i := 2) rfl))) (mvT hZ (hw _ (List.mem_of_getElem? (i := 3) rfl))) (mvT hZ (hw _ (List.mem_of_getElem? (i := 4) rfl))) (by decide) (backOf (W := 2) (rm1 l Z a0 hw [] q0 q1 p2 (0 : Int32) h16 n0 Z0_17) hZ (hw _ (List.mem_of_getElem? (i := 4) rfl)) (hw _ (List.mem_of_getElem? (i := 3) rfl)) (by decide) (by decide)) (g := (mkF m 14 #[.val (.long q0), .second, .val (.long q1), .second, .val (.int p2), .val (.int p3), .val (.ref b16), .unset, .unset, .unset, .unset, .unset, .unset, .unset, .unset, .unset] [(.int (0 : Int32)), (.int p2), (.long q1), (.long q0), (.int (0 : Int32)), (.ref b16)])) rfl (by rw [hml]; rfl) (argsL := [(.long q0), (.long q1), (.int p2), (.int (0 : Int32))]) (rest := [(.int (0 : Int32)), (.ref b16)]) (lenOf pd_1 rfl) rfl (by show 2 * 0 + _ ≤ _; exact Nat.le_of_eq rfl) (hb hby at_14) (fun _ _ => ⟨rfl, e16, (by decide : 1 + 0 ≤ _), (by decide : 7 + 0 ≤ _)⟩)
  dsimp only [Pt.U, Pt.locs, Pt.cells, Pt.slots] at X18 l18 y18 z18 st18 hQ18
  subst y18 z18
  obtain ⟨rfl, Nq18, e18⟩ := hQ18
  have N18 : Fr n0 L18 := by rw [l18]; exact Fr.app N0 Nq18
  refine Got.step st18 ?_
  show Got p e below s _ _ _ _ T18 (mkF m 17 #[.val (.long q0), .second, .val (.long q1), .second, .val (.int p2), .val (.int p3), .val (.ref b16), .unset, .unset, .unset, .unset, .unset, .unset, .unset, .unset, .unset] [(.int (f1 q0 q1 p2 (0 : Int32))), (.int (0 : Int32)), (.ref b16)])
  obtain ⟨cl19, Ar19, q19, S19, M19, H19, G19⟩ := (id V16)
  have hin19 : ¬ ((0 : Int32) < 0 ∨ cl19.slots.size ≤ ((0 : Int32)).toNatClampNeg) := inb_of S19 ⟨by decide, by decide⟩
  obtain ⟨T19, h19, X19, e19, W19, st19⟩ := stB X18 hx hZ e18 Ar19 (j := (0 : Int32)) hin19 (g := (mkF m 17 #[.val (.long q0), .second, .val (.long q1), .second, .val (.int p2), .val (.int p3), .val (.ref b16), .unset, .unset, .unset, .unset, .unset, .unset, .unset, .unset, .unset] [(.int (f1 q0 q1 p2 (0 : Int32))), (.int (0 : Int32)), (.ref b16)])) rfl rfl (hb hby at_17)
  rw [(own_pick _ _ _ _).1] at W19
  have Z0_20 : n0 ≤ h19.size := (Nat.le_trans Z0_17 (Keep.of_wr W19).1)
  have V19 : Arv Z h19 b16 k16 .byte (7 : Int32) [(.int (f1 q0 q1 p2 (0 : Int32))), (.int (0 : Int32)), (.int (0 : Int32)), (.int (0 : Int32)), (.int (0 : Int32)), (.int (0 : Int32)), (.int (0 : Int32))] (.int (0 : Int32)) := Arv.set Ar19 q19 S19 M19 H19 G19 (own_pick _ _ _ _).2 W19 0 rfl (Nat.le_of_ble_eq_true rfl)
  have N19 := Fr.snoc X19 N18 gn_b16
  refine Got.step st19 ?_
  show Got p e below s _ _ _ _ T19 (mkF m 18 #[.val (.long q0), .second, .val (.long q1), .second, .val (.int p2), .val (.int p3), .val (.ref b16), .unset, .unset, .unset, .unset, .unset, .unset, .unset, .unset, .unset] [])
  refine Got.step (T' := T19) (g' := (mkF m 26 #[.val (.long q0), .second, .val (.long q1), .second, .val (.int p2), .val (.int p3), .val (.ref b16), .unset, .unset, .unset, .unset, .unset, .unset, .unset, .unset, .unset] [(.int (1 : Int32)), (.int p2), (.long q1), (.long q0), (.int (1 : Int32)), (.ref b16)])) (fun tq kt => ?_) ?_
  · show Steps p.tables e below (T19.setTop (mkF m 18 #[.val (.long q0), .second, .val (.long q1), .second, .val (.int p2), .val (.int p3), .val (.ref b16), .unset, .unset, .unset, .unset, .unset, .unset, .unset, .unset, .unset] [])) _
    refine XS.aload X19.here hx rfl (hb hby at_18) rfl rfl ?_
    show Steps p.tables e below (T19.setTop (mkF m 20 #[.val (.long q0), .second, .val (.long q1), .second, .val (.int p2), .val (.int p3), .val (.ref b16), .unset, .unset, .unset, .unset, .unset, .unset, .unset, .unset, .unset] [(.ref b16)])) _
    refine XS.iconst X19.here hx rfl (hb hby at_20) ?_
    show Steps p.tables e below (T19.setTop (mkF m 21 #[.val (.long q0), .second, .val (.long q1), .second, .val (.int p2), .val (.int p3), .val (.ref b16), .unset, .unset, .unset, .unset, .unset, .unset, .unset, .unset, .unset] [(.int (1 : Int32)), (.ref b16)])) _
    refine XS.lloadN X19.here hx rfl (hb hby at_21) rfl ?_
    show Steps p.tables e below (T19.setTop (mkF m 22 #[.val (.long q0), .second, .val (.long q1), .second, .val (.int p2), .val (.int p3), .val (.ref b16), .unset, .unset, .unset, .unset, .unset, .unset, .unset, .unset, .unset] [(.long q0), (.int (1 : Int32)), (.ref b16)])) _
    refine XS.lloadN X19.here hx rfl (hb hby at_22) rfl ?_
    show Steps p.tables e below (T19.setTop (mkF m 23 #[.val (.long q0), .second, .val (.long q1), .second, .val (.int p2), .val (.int p3), .val (.ref b16), .unset, .unset, .unset, .unset, .unset, .unset, .unset, .unset, .unset] [(.long q1), (.long q0), (.int (1 : Int32)), (.ref b16)])) _
    refine XS.iload X19.here hx rfl (hb hby at_23) rfl ?_
    show Steps p.tables e below (T19.setTop (mkF m 25 #[.val (.long q0), .second, .val (.long q1), .second, .val (.int p2), .val (.int p3), .val (.ref b16), .unset, .unset, .unset, .unset, .unset, .unset, .unset, .unset, .unset] [(.int p2), (.long q1), (.long q0), (.int (1 : Int32)), (.ref b16)])) _
    refine XS.iconst X19.here hx rfl (hb hby at_25) ?_
    exact kt
  obtain ⟨_, _, ⟨T21, L21, k21, n21⟩, -, X21, ⟨Lc21, hQ21, l21, y21, z21⟩, st21⟩ := Jvm.LawKit.callS X19 hx (y := (⟨"lavka/io/Iso2709NumberPinLaw", "pick", "(JJII)B"⟩ : MethodName)) hown (mvT hZ (hw _ (List.mem_of_getElem? (i := 1) rfl))) (mvT hZ (hw _ (List.mem_of_getElem? (i := 2) rfl))) (mvT hZ (hw _ (List.mem_of_getElem? (i := 3) rfl))) (mvT hZ (hw _ (List.mem_of_getElem? (i := 4) rfl))) (by decide) (backOf (W := 2) (rm1 l Z a0 hw [] q0 q1 p2 (1 : Int32) h19 n0 Z0_20) hZ (hw _ (List.mem_of_getElem? (i := 4) rfl)) (hw _ (List.mem_of_getElem? (i := 3) rfl)) (by decide) (by decide)) (g := (mkF m 26 #[.val (.long q0), .second, .val (.long q1), .second, .val (.int p2), .val (.int p3), .val (.ref b16), .unset, .unset, .unset, .unset, .unset, .unset, .unset, .unset, .unset] [(.int (1 : Int32)), (.int p2), (.long q1), (.long q0), (.int (1 : Int32)), (.ref b16)])) rfl (by rw [hml]; rfl) (argsL := [(.long q0), (.long q1), (.int p2), (.int (1 : Int32))]) (rest := [(.int (1 : Int32)), (.ref b16)]) (lenOf pd_1 rfl) rfl (by show 2 * 0 + _ ≤ _; exact Nat.le_of_eq rfl) (hb hby at_26) (fun _ _ => ⟨rfl, e19, (by decide : 1 + 0 ≤ _), (by decide : 7 + 0 ≤ _)⟩)
  dsimp only [Pt.U, Pt.locs, Pt.cells, Pt.slots] at X21 l21 y21 z21 st21 hQ21
  subst y21 z21
  obtain ⟨rfl, Nq21, e21⟩ := hQ21
  have N21 : Fr n0 L21 := by rw [l21]; exact Fr.app N19 Nq21
  refine Got.step st21 ?_
  show Got p e below s _ _ _ _ T21 (mkF m 29 #[.val (.long q0), .second, .val (.long q1), .second, .val (.int p2), .val (.int p3), .val (.ref b16), .unset, .unset, .unset, .unset, .unset, .unset, .unset, .unset, .unset] [(.int (f1 q0 q1 p2 (1 : Int32))), (.int (1 : Int32)), (.ref b16)])
  obtain ⟨cl22, Ar22, q22, S22, M22, H22, G22⟩ := (id V19)
  have hin22 : ¬ ((1 : Int32) < 0 ∨ cl22.slots.size ≤ ((1 : Int32)).toNatClampNeg) := inb_of S22 ⟨by decide, by decide⟩
  obtain ⟨T22, h22, X22, e22, W22, st22⟩ := stB X21 hx hZ e21 Ar22 (j := (1 : Int32)) hin22 (g := (mkF m 29 #[.val (.long q0), .second, .val (.long q1), .second, .val (.int p2), .val (.int p3), .val (.ref b16), .unset, .unset, .unset, .unset, .unset, .unset, .unset, .unset, .unset] [(.int (f1 q0 q1 p2 (1 : Int32))), (.int (1 : Int32)), (.ref b16)])) rfl rfl (hb hby at_29)
  rw [(own_pick _ _ _ _).1] at W22
  have Z0_23 : n0 ≤ h22.size := (Nat.le_trans Z0_20 (Keep.of_wr W22).1)
  have V22 : Arv Z h22 b16 k16 .byte (7 : Int32) [(.int (f1 q0 q1 p2 (0 : Int32))), (.int (f1 q0 q1 p2 (1 : Int32))), (.int (0 : Int32)), (.int (0 : Int32)), (.int (0 : Int32)), (.int (0 : Int32)), (.int (0 : Int32))] (.int (0 : Int32)) := Arv.set Ar22 q22 S22 M22 H22 G22 (own_pick _ _ _ _).2 W22 1 rfl (Nat.le_of_ble_eq_true rfl)
  have N22 := Fr.snoc X22 N21 gn_b16
  refine Got.step st22 ?_
  show Got p e below s _ _ _ _ T22 (mkF m 30 #[.val (.long q0), .second, .val (.long q1), .second, .val (.int p2), .val (.int p3), .val (.ref b16), .unset, .unset, .unset, .unset, .unset, .unset, .unset, .unset, .unset] [])
  refine Got.step (T' := T22) (g' := (mkF m 38 #[.val (.long q0), .second, .val (.long q1), .second, .val (.int p2), .val (.int p3), .val (.ref b16), .unset, .unset, .unset, .unset, .unset, .unset, .unset, .unset, .unset] [(.int (2 : Int32)), (.int p2), (.long q1), (.long q0), (.int (2 : Int32)), (.ref b16)])) (fun tq kt => ?_) ?_
  · show Steps p.tables e below (T22.setTop (mkF m 30 #[.val (.long q0), .second, .val (.long q1), .second, .val (.int p2), .val (.int p3), .val (.ref b16), .unset, .unset, .unset, .unset, .unset, .unset, .unset, .unset, .unset] [])) _
    refine XS.aload X22.here hx rfl (hb hby at_30) rfl rfl ?_
    show Steps p.tables e below (T22.setTop (mkF m 32 #[.val (.long q0), .second, .val (.long q1), .second, .val (.int p2), .val (.int p3), .val (.ref b16), .unset, .unset, .unset, .unset, .unset, .unset, .unset, .unset, .unset] [(.ref b16)])) _
    refine XS.iconst X22.here hx rfl (hb hby at_32) ?_
    show Steps p.tables e below (T22.setTop (mkF m 33 #[.val (.long q0), .second, .val (.long q1), .second, .val (.int p2), .val (.int p3), .val (.ref b16), .unset, .unset, .unset, .unset, .unset, .unset, .unset, .unset, .unset] [(.int (2 : Int32)), (.ref b16)])) _
    refine XS.lloadN X22.here hx rfl (hb hby at_33) rfl ?_
    show Steps p.tables e below (T22.setTop (mkF m 34 #[.val (.long q0), .second, .val (.long q1), .second, .val (.int p2), .val (.int p3), .val (.ref b16), .unset, .unset, .unset, .unset, .unset, .unset, .unset, .unset, .unset] [(.long q0), (.int (2 : Int32)), (.ref b16)])) _
    refine XS.lloadN X22.here hx rfl (hb hby at_34) rfl ?_
    show Steps p.tables e below (T22.setTop (mkF m 35 #[.val (.long q0), .second, .val (.long q1), .second, .val (.int p2), .val (.int p3), .val (.ref b16), .unset, .unset, .unset, .unset, .unset, .unset, .unset, .unset, .unset] [(.long q1), (.long q0), (.int (2 : Int32)), (.ref b16)])) _
    refine XS.iload X22.here hx rfl (hb hby at_35) rfl ?_
    show Steps p.tables e below (T22.setTop (mkF m 37 #[.val (.long q0), .second, .val (.long q1), .second, .val (.int p2), .val (.int p3), .val (.ref b16), .unset, .unset, .unset, .unset, .unset, .unset, .unset, .unset, .unset] [(.int p2), (.long q1), (.long q0), (.int (2 : Int32)), (.ref b16)])) _
    refine XS.iconst X22.here hx rfl (hb hby at_37) ?_
    exact kt
  obtain ⟨_, _, ⟨T24, L24, k24, n24⟩, -, X24, ⟨Lc24, hQ24, l24, y24, z24⟩, st24⟩ := Jvm.LawKit.callS X22 hx (y := (⟨"lavka/io/Iso2709NumberPinLaw", "pick", "(JJII)B"⟩ : MethodName)) hown (mvT hZ (hw _ (List.mem_of_getElem? (i := 1) rfl))) (mvT hZ (hw _ (List.mem_of_getElem? (i := 2) rfl))) (mvT hZ (hw _ (List.mem_of_getElem? (i := 3) rfl))) (mvT hZ (hw _ (List.mem_of_getElem? (i := 4) rfl))) (by decide) (backOf (W := 2) (rm1 l Z a0 hw [] q0 q1 p2 (2 : Int32) h22 n0 Z0_23) hZ (hw _ (List.mem_of_getElem? (i := 4) rfl)) (hw _ (List.mem_of_getElem? (i := 3) rfl)) (by decide) (by decide)) (g := (mkF m 38 #[.val (.long q0), .second, .val (.long q1), .second, .val (.int p2), .val (.int p3), .val (.ref b16), .unset, .unset, .unset, .unset, .unset, .unset, .unset, .unset, .unset] [(.int (2 : Int32)), (.int p2), (.long q1), (.long q0), (.int (2 : Int32)), (.ref b16)])) rfl (by rw [hml]; rfl) (argsL := [(.long q0), (.long q1), (.int p2), (.int (2 : Int32))]) (rest := [(.int (2 : Int32)), (.ref b16)]) (lenOf pd_1 rfl) rfl (by show 2 * 0 + _ ≤ _; exact Nat.le_of_eq rfl) (hb hby at_38) (fun _ _ => ⟨rfl, e22, (by decide : 1 + 0 ≤ _), (by decide : 7 + 0 ≤ _)⟩)
  dsimp only [Pt.U, Pt.locs, Pt.cells, Pt.slots] at X24 l24 y24 z24 st24 hQ24
  subst y24 z24
  obtain ⟨rfl, Nq24, e24⟩ := hQ24
  have N24 : Fr n0 L24 := by rw [l24]; exact Fr.app N22 Nq24
  refine Got.step st24 ?_
  show Got p e below s _ _ _ _ T24 (mkF m 41 #[.val (.long q0), .second, .val (.long q1), .second, .val (.int p2), .val (.int p3), .val (.ref b16), .unset, .unset, .unset, .unset, .unset, .unset, .unset, .unset, .unset] [(.int (f1 q0 q1 p2 (2 : Int32))), (.int (2 : Int32)), (.ref b16)])
  obtain ⟨cl25, Ar25, q25, S25, M25, H25, G25⟩ := (id V22)
  have hin25 : ¬ ((2 : Int32) < 0 ∨ cl25.slots.size ≤ ((2 : Int32)).toNatClampNeg) := inb_of S25 ⟨by decide, by decide⟩
  obtain ⟨T25, h25, X25, e25, W25, st25⟩ := stB X24 hx hZ e24 Ar25 (j := (2 : Int32)) hin25 (g := (mkF m 41 #[.val (.long q0), .second, .val (.long q1), .second, .val (.int p2), .val (.int p3), .val (.ref b16), .unset, .unset, .unset, .unset, .unset, .unset, .unset, .unset, .unset] [(.int (f1 q0 q1 p2 (2 : Int32))), (.int (2 : Int32)), (.ref b16)])) rfl rfl (hb hby at_41)
  rw [(own_pick _ _ _ _).1] at W25
  have Z0_26 : n0 ≤ h25.size := (Nat.le_trans Z0_23 (Keep.of_wr W25).1)
  have V25 : Arv Z h25 b16 k16 .byte (7 : Int32) [(.int (f1 q0 q1 p2 (0 : Int32))), (.int (f1 q0 q1 p2 (1 : Int32))), (.int (f1 q0 q1 p2 (2 : Int32))), (.int (0 : Int32)), (.int (0 : Int32)), (.int (0 : Int32)), (.int (0 : Int32))] (.int (0 : Int32)) := Arv.set Ar25 q25 S25 M25 H25 G25 (own_pick _ _ _ _).2 W25 2 rfl (Nat.le_of_ble_eq_true rfl)
  have N25 := Fr.snoc X25 N24 gn_b16
  refine Got.step st25 ?_
  show Got p e below s _ _ _ _ T25 (mkF m 42 #[.val (.long q0), .second, .val (.long q1), .second, .val (.int p2), .val (.int p3), .val (.ref b16), .unset, .unset, .unset, .unset, .unset, .unset, .unset, .unset, .unset] [])
  refine Got.step (T' := T25) (g' := (mkF m 50 #[.val (.long q0), .second, .val (.long q1), .second, .val (.int p2), .val (.int p3), .val (.ref b16), .unset, .unset, .unset, .unset, .unset, .unset, .unset, .unset, .unset] [(.int (3 : Int32)), (.int p2), (.long q1), (.long q0), (.int (3 : Int32)), (.ref b16)])) (fun tq kt => ?_) ?_
  · show Steps p.tables e below (T25.setTop (mkF m 42 #[.val (.long q0), .second, .val (.long q1), .second, .val (.int p2), .val (.int p3), .val (.ref b16), .unset, .unset, .unset, .unset, .unset, .unset, .unset, .unset, .unset] [])) _
    refine XS.aload X25.here hx rfl (hb hby at_42) rfl rfl ?_
    show Steps p.tables e below (T25.setTop (mkF m 44 #[.val (.long q0), .second, .val (.long q1), .second, .val (.int p2), .val (.int p3), .val (.ref b16), .unset, .unset, .unset, .unset, .unset, .unset, .unset, .unset, .unset] [(.ref b16)])) _
    refine XS.iconst X25.here hx rfl (hb hby at_44) ?_
    show Steps p.tables e below (T25.setTop (mkF m 45 #[.val (.long q0), .second, .val (.long q1), .second, .val (.int p2), .val (.int p3), .val (.ref b16), .unset, .unset, .unset, .unset, .unset, .unset, .unset, .unset, .unset] [(.int (3 : Int32)), (.ref b16)])) _
    refine XS.lloadN X25.here hx rfl (hb hby at_45) rfl ?_
    show Steps p.tables e below (T25.setTop (mkF m 46 #[.val (.long q0), .second, .val (.long q1), .second, .val (.int p2), .val (.int p3), .val (.ref b16), .unset, .unset, .unset, .unset, .unset, .unset, .unset, .unset, .unset] [(.long q0), (.int (3 : Int32)), (.ref b16)])) _
    refine XS.lloadN X25.here hx rfl (hb hby at_46) rfl ?_
    show Steps p.tables e below (T25.setTop (mkF m 47 #[.val (.long q0), .second, .val (.long q1), .second, .val (.int p2), .val (.int p3), .val (.ref b16), .unset, .unset, .unset, .unset, .unset, .unset, .unset, .unset, .unset] [(.long q1), (.long q0), (.int (3 : Int32)), (.ref b16)])) _
    refine XS.iload X25.here hx rfl (hb hby at_47) rfl ?_
    show Steps p.tables e below (T25.setTop (mkF m 49 #[.val (.long q0), .second, .val (.long q1), .second, .val (.int p2), .val (.int p3), .val (.ref b16), .unset, .unset, .unset, .unset, .unset, .unset, .unset, .unset, .unset] [(.int p2), (.long q1), (.long q0), (.int (3 : Int32)), (.ref b16)])) _
    refine XS.iconst X25.here hx rfl (hb hby at_49) ?_
    exact kt
  obtain ⟨_, _, ⟨T27, L27, k27, n27⟩, -, X27, ⟨Lc27, hQ27, l27, y27, z27⟩, st27⟩ := Jvm.LawKit.callS X25 hx (y := (⟨"lavka/io/Iso2709NumberPinLaw", "pick", "(JJII)B"⟩ : MethodName)) hown (mvT hZ (hw _ (List.mem_of_getElem? (i := 1) rfl))) (mvT hZ (hw _ (List.mem_of_getElem? (i := 2) rfl))) (mvT hZ (hw _ (List.mem_of_getElem? (i := 3) rfl))) (mvT hZ (hw _ (List.mem_of_getElem? (i := 4) rfl))) (by decide) (backOf (W := 2) (rm1 l Z a0 hw [] q0 q1 p2 (3 : Int32) h25 n0 Z0_26) hZ (hw _ (List.mem_of_getElem? (i := 4) rfl)) (hw _ (List.mem_of_getElem? (i := 3) rfl)) (by decide) (by decide)) (g := (mkF m 50 #[.val (.long q0), .second, .val (.long q1), .second, .val (.int p2), .val (.int p3), .val (.ref b16), .unset, .unset, .unset, .unset, .unset, .unset, .unset, .unset, .unset] [(.int (3 : Int32)), (.int p2), (.long q1), (.long q0), (.int (3 : Int32)), (.ref b16)])) rfl (by rw [hml]; rfl) (argsL := [(.long q0), (.long q1), (.int p2), (.int (3 : Int32))]) (rest := [(.int (3 : Int32)), (.ref b16)]) (lenOf pd_1 rfl) rfl (by show 2 * 0 + _ ≤ _; exact Nat.le_of_eq rfl) (hb hby at_50) (fun _ _ => ⟨rfl, e25, (by decide : 1 + 0 ≤ _), (by decide : 7 + 0 ≤ _)⟩)
  dsimp only [Pt.U, Pt.locs, Pt.cells, Pt.slots] at X27 l27 y27 z27 st27 hQ27
  subst y27 z27
  obtain ⟨rfl, Nq27, e27⟩ := hQ27
  have N27 : Fr n0 L27 := by rw [l27]; exact Fr.app N25 Nq27
  refine Got.step st27 ?_
  show Got p e below s _ _ _ _ T27 (mkF m 53 #[.val (.long q0), .second, .val (.long q1), .second, .val (.int p2), .val (.int p3), .val (.ref b16), .unset, .unset, .unset, .unset, .unset, .unset, .unset, .unset, .unset] [(.int (f1 q0 q1 p2 (3 : Int32))), (.int (3 : Int32)), (.ref b16)])
  obtain ⟨cl28, Ar28, q28, S28, M28, H28, G28⟩ := (id V25)
  have hin28 : ¬ ((3 : Int32) < 0 ∨ cl28.slots.size ≤ ((3 : Int32)).toNatClampNeg) := inb_of S28 ⟨by decide, by decide⟩
  obtain ⟨T28, h28, X28, e28, W28, st28⟩ := stB X27 hx hZ e27 Ar28 (j := (3 : Int32)) hin28 (g := (mkF m 53 #[.val (.long q0), .second, .val (.long q1), .second, .val (.int p2), .val (.int p3), .val (.ref b16), .unset, .unset, .unset, .unset, .unset, .unset, .unset, .unset, .unset] [(.int (f1 q0 q1 p2 (3 : Int32))), (.int (3 : Int32)), (.ref b16)])) rfl rfl (hb hby at_53)
  rw [(own_pick _ _ _ _).1] at W28
  have Z0_29 : n0 ≤ h28.size := (Nat.le_trans Z0_26 (Keep.of_wr W28).1)
  have V28 : Arv Z h28 b16 k16 .byte (7 : Int32) [(.int (f1 q0 q1 p2 (0 : Int32))), (.int (f1 q0 q1 p2 (1 : Int32))), (.int (f1 q0 q1 p2 (2 : Int32))), (.int (f1 q0 q1 p2 (3 : Int32))), (.int (0 : Int32)), (.int (0 : Int32)), (.int (0 : Int32))] (.int (0 : Int32)) := Arv.set Ar28 q28 S28 M28 H28 G28 (own_pick _ _ _ _).2 W28 3 rfl (Nat.le_of_ble_eq_true rfl)
  have N28 := Fr.snoc X28 N27 gn_b16
  refine Got.step st28 ?_
  show Got p e below s _ _ _ _ T28 (mkF m 54 #[.val (.long q0), .second, .val (.long q1), .second, .val (.int p2), .val (.int p3), .val (.ref b16), .unset, .unset, .unset, .unset, .unset, .unset, .unset, .unset, .unset] [])
  refine Got.step (T' := T28) (g' := (mkF m 62 #[.val (.long q0), .second, .val (.long q1), .second, .val (.int p2), .val (.int p3), .val (.ref b16), .unset, .unset, .unset, .unset, .unset, .unset, .unset, .unset, .unset] [(.int (4 : Int32)), (.int p2), (.long q1), (.long q0), (.int (4 : Int32)), (.ref b16)])) (fun tq kt => ?_) ?_
  · show Steps p.tables e below (T28.setTop (mkF m 54 #[.val (.long q0), .second, .val (.long q1), .second, .val (.int p2), .val (.int p3), .val (.ref b16), .unset, .unset, .unset, .unset, .unset, .unset, .unset, .unset, .unset] [])) _
    refine XS.aload X28.here hx rfl (hb hby at_54) rfl rfl ?_
    show Steps p.tables e below (T28.setTop (mkF m 56 #[.val (.long q0), .second, .val (.long q1), .second, .val (.int p2), .val (.int p3), .val (.ref b16), .unset, .unset, .unset, .unset, .unset, .unset, .unset, .unset, .unset] [(.ref b16)])) _
    refine XS.iconst X28.here hx rfl (hb hby at_56) ?_
    show Steps p.tables e below (T28.setTop (mkF m 57 #[.val (.long q0), .second, .val (.long q1), .second, .val (.int p2), .val (.int p3), .val (.ref b16), .unset, .unset, .unset, .unset, .unset, .unset, .unset, .unset, .unset] [(.int (4 : Int32)), (.ref b16)])) _
    refine XS.lloadN X28.here hx rfl (hb hby at_57) rfl ?_
    show Steps p.tables e below (T28.setTop (mkF m 58 #[.val (.long q0), .second, .val (.long q1), .second, .val (.int p2), .val (.int p3), .val (.ref b16), .unset, .unset, .unset, .unset, .unset, .unset, .unset, .unset, .unset] [(.long q0), (.int (4 : Int32)), (.ref b16)])) _
    refine XS.lloadN X28.here hx rfl (hb hby at_58) rfl ?_
    show Steps p.tables e below (T28.setTop (mkF m 59 #[.val (.long q0), .second, .val (.long q1), .second, .val (.int p2), .val (.int p3), .val (.ref b16), .unset, .unset, .unset, .unset, .unset, .unset, .unset, .unset, .unset] [(.long q1), (.long q0), (.int (4 : Int32)), (.ref b16)])) _
    refine XS.iload X28.here hx rfl (hb hby at_59) rfl ?_
    show Steps p.tables e below (T28.setTop (mkF m 61 #[.val (.long q0), .second, .val (.long q1), .second, .val (.int p2), .val (.int p3), .val (.ref b16), .unset, .unset, .unset, .unset, .unset, .unset, .unset, .unset, .unset] [(.int p2), (.long q1), (.long q0), (.int (4 : Int32)), (.ref b16)])) _
    refine XS.iconst X28.here hx rfl (hb hby at_61) ?_
    exact kt
  obtain ⟨_, _, ⟨T30, L30, k30, n30⟩, -, X30, ⟨Lc30, hQ30, l30, y30, z30⟩, st30⟩ := Jvm.LawKit.callS X28 hx (y := (⟨"lavka/io/Iso2709NumberPinLaw", "pick", "(JJII)B"⟩ : MethodName)) hown (mvT hZ (hw _ (List.mem_of_getElem? (i := 1) rfl))) (mvT hZ (hw _ (List.mem_of_getElem? (i := 2) rfl))) (mvT hZ (hw _ (List.mem_of_getElem? (i := 3) rfl))) (mvT hZ (hw _ (List.mem_of_getElem? (i := 4) rfl))) (by decide) (backOf (W := 2) (rm1 l Z a0 hw [] q0 q1 p2 (4 : Int32) h28 n0 Z0_29) hZ (hw _ (List.mem_of_getElem? (i := 4) rfl)) (hw _ (List.mem_of_getElem? (i := 3) rfl)) (by decide) (by decide)) (g := (mkF m 62 #[.val (.long q0), .second, .val (.long q1), .second, .val (.int p2), .val (.int p3), .val (.ref b16), .unset, .unset, .unset, .unset, .unset, .unset, .unset, .unset, .unset] [(.int (4 : Int32)), (.int p2), (.long q1), (.long q0), (.int (4 : Int32)), (.ref b16)])) rfl (by rw [hml]; rfl) (argsL := [(.long q0), (.long q1), (.int p2), (.int (4 : Int32))]) (rest := [(.int (4 : Int32)), (.ref b16)]) (lenOf pd_1 rfl) rfl (by show 2 * 0 + _ ≤ _; exact Nat.le_of_eq rfl) (hb hby at_62) (fun _ _ => ⟨rfl, e28, (by decide : 1 + 0 ≤ _), (by decide : 7 + 0 ≤ _)⟩)
  dsimp only [Pt.U, Pt.locs, Pt.cells, Pt.slots] at X30 l30 y30 z30 st30 hQ30
  subst y30 z30
  obtain ⟨rfl, Nq30, e30⟩ := hQ30
  have N30 : Fr n0 L30 := by rw [l30]; exact Fr.app N28 Nq30
  refine Got.step st30 ?_
  show Got p e below s _ _ _ _ T30 (mkF m 65 #[.val (.long q0), .second, .val (.long q1), .second, .val (.int p2), .val (.int p3), .val (.ref b16), .unset, .unset, .unset, .unset, .unset, .unset, .unset, .unset, .unset] [(.int (f1 q0 q1 p2 (4 : Int32))), (.int (4 : Int32)), (.ref b16)])
  obtain ⟨cl31, Ar31, q31, S31, M31, H31, G31⟩ := (id V28)
  have hin31 : ¬ ((4 : Int32) < 0 ∨ cl31.slots.size ≤ ((4 : Int32)).toNatClampNeg) := inb_of S31 ⟨by decide, by decide⟩
  obtain ⟨T31, h31, X31, e31, W31, st31⟩ := stB X30 hx hZ e30 Ar31 (j := (4 : Int32)) hin31 (g := (mkF m 65 #[.val (.long q0), .second, .val (.long q1), .second, .val (.int p2), .val (.int p3), .val (.ref b16), .unset, .unset, .unset, .unset, .unset, .unset, .unset, .unset, .unset] [(.int (f1 q0 q1 p2 (4 : Int32))), (.int (4 : Int32)), (.ref b16)])) rfl rfl (hb hby at_65)
  rw [(own_pick _ _ _ _).1] at W31
  have Z0_32 : n0 ≤ h31.size := (Nat.le_trans Z0_29 (Keep.of_wr W31).1)
  have V31 : Arv Z h31 b16 k16 .byte (7 : Int32) [(.int (f1 q0 q1 p2 (0 : Int32))), (.int (f1 q0 q1 p2 (1 : Int32))), (.int (f1 q0 q1 p2 (2 : Int32))), (.int (f1 q0 q1 p2 (3 : Int32))), (.int (f1 q0 q1 p2 (4 : Int32))), (.int (0 : Int32)), (.int (0 : Int32))] (.int (0 : Int32)) := Arv.set Ar31 q31 S31 M31 H31 G31 (own_pick _ _ _ _).2 W31 4 rfl (Nat.le_of_ble_eq_true rfl)
  have N31 := Fr.snoc X31 N30 gn_b16
  refine Got.step st31 ?_
  show Got p e below s _ _ _ _ T31 (mkF m 66 #[.val (.long q0), .second, .val (.long q1), .second, .val (.int p2), .val (.int p3), .val (.ref b16), .unset, .unset, .unset, .unset, .unset, .unset, .unset, .unset, .unset] [])
  refine Got.step (T' := T31) (g' := (mkF m 74 #[.val (.long q0), .second, .val (.long q1), .second, .val (.int p2), .val (.int p3), .val (.ref b16), .unset, .unset, .unset, .unset, .unset, .unset, .unset, .unset, .unset] [(.int (5 : Int32)), (.int p2), (.long q1), (.long q0), (.int (5 : Int32)), (.ref b16)])) (fun tq kt => ?_) ?_
  · show Steps p.tables e below (T31.setTop (mkF m 66 #[.val (.long q0), .second, .val (.long q1), .second, .val (.int p2), .val (.int p3), .val (.ref b16), .unset, .unset, .unset, .unset, .unset, .unset, .unset, .unset, .unset] [])) _
    refine XS.aload X31.here hx rfl (hb hby at_66) rfl rfl ?_
    show Steps p.tables e below (T31.setTop (mkF m 68 #[.val (.long q0), .second, .val (.long q1), .second, .val (.int p2), .val (.int p3), .val (.ref b16), .unset, .unset, .unset, .unset, .unset, .unset, .unset, .unset, .unset] [(.ref b16)])) _
    refine XS.iconst X31.here hx rfl (hb hby at_68) ?_
    show Steps p.tables e below (T31.setTop (mkF m 69 #[.val (.long q0), .second, .val (.long q1), .second, .val (.int p2), .val (.int p3), .val (.ref b16), .unset, .unset, .unset, .unset, .unset, .unset, .unset, .unset, .unset] [(.int (5 : Int32)), (.ref b16)])) _
    refine XS.lloadN X31.here hx rfl (hb hby at_69) rfl ?_
    show Steps p.tables e below (T31.setTop (mkF m 70 #[.val (.long q0), .second, .val (.long q1), .second, .val (.int p2), .val (.int p3), .val (.ref b16), .unset, .unset, .unset, .unset, .unset, .unset, .unset, .unset, .unset] [(.long q0), (.int (5 : Int32)), (.ref b16)])) _
    refine XS.lloadN X31.here hx rfl (hb hby at_70) rfl ?_
    show Steps p.tables e below (T31.setTop (mkF m 71 #[.val (.long q0), .second, .val (.long q1), .second, .val (.int p2), .val (.int p3), .val (.ref b16), .unset, .unset, .unset, .unset, .unset, .unset, .unset, .unset, .unset] [(.long q1), (.long q0), (.int (5 : Int32)), (.ref b16)])) _
    refine XS.iload X31.here hx rfl (hb hby at_71) rfl ?_
    show Steps p.tables e below (T31.setTop (mkF m 73 #[.val (.long q0), .second, .val (.long q1), .second, .val (.int p2), .val (.int p3), .val (.ref b16), .unset, .unset, .unset, .unset, .unset, .unset, .unset, .unset, .unset] [(.int p2), (.long q1), (.long q0), (.int (5 : Int32)), (.ref b16)])) _
    refine XS.iconst X31.here hx rfl (hb hby at_73) ?_
    exact kt
  obtain ⟨_, _, ⟨T33, L33, k33, n33⟩, -, X33, ⟨Lc33, hQ33, l33, y33, z33⟩, st33⟩ := Jvm.LawKit.callS X31 hx (y := (⟨"lavka/io/Iso2709NumberPinLaw", "pick", "(JJII)B"⟩ : MethodName)) hown (mvT hZ (hw _ (List.mem_of_getElem? (i := 1) rfl))) (mvT hZ (hw _ (List.mem_of_getElem? (i := 2) rfl))) (mvT hZ (hw _ (List.mem_of_getElem? (i := 3) rfl))) (mvT hZ (hw _ (List.mem_of_getElem? (i := 4) rfl))) (by decide) (backOf (W := 2) (rm1 l Z a0 hw [] q0 q1 p2 (5 : Int32) h31 n0 Z0_32) hZ (hw _ (List.mem_of_getElem? (i := 4) rfl)) (hw _ (List.mem_of_getElem? (i := 3) rfl)) (by decide) (by decide)) (g := (mkF m 74 #[.val (.long q0), .second, .val (.long q1), .second, .val (.int p2), .val (.int p3), .val (.ref b16), .unset, .unset, .unset, .unset, .unset, .unset, .unset, .unset, .unset] [(.int (5 : Int32)), (.int p2), (.long q1), (.long q0), (.int (5 : Int32)), (.ref b16)])) rfl (by rw [hml]; rfl) (argsL := [(.long q0), (.long q1), (.int p2), (.int (5 : Int32))]) (rest := [(.int (5 : Int32)), (.ref b16)]) (lenOf pd_1 rfl) rfl (by show 2 * 0 + _ ≤ _; exact Nat.le_of_eq rfl) (hb hby at_74) (fun _ _ => ⟨rfl, e31, (by decide : 1 + 0 ≤ _), (by decide : 7 + 0 ≤ _)⟩)
  dsimp only [Pt.U, Pt.locs, Pt.cells, Pt.slots] at X33 l33 y33 z33 st33 hQ33
  subst y33 z33
  obtain ⟨rfl, Nq33, e33⟩ := hQ33
  have N33 : Fr n0 L33 := by rw [l33]; exact Fr.app N31 Nq33
  refine Got.step st33 ?_
  show Got p e below s _ _ _ _ T33 (mkF m 77 #[.val (.long q0), .second, .val (.long q1), .second, .val (.int p2), .val (.int p3), .val (.ref b16), .unset, .unset, .unset, .unset, .unset, .unset, .unset, .unset, .unset] [(.int (f1 q0 q1 p2 (5 : Int32))), (.int (5 : Int32)), (.ref b16)])
  obtain ⟨cl34, Ar34, q34, S34, M34, H34, G34⟩ := (id V31)
  have hin34 : ¬ ((5 : Int32) < 0 ∨ cl34.slots.size ≤ ((5 : Int32)).toNatClampNeg) := inb_of S34 ⟨by decide, by decide⟩
  obtain ⟨T34, h34, X34, e34, W34, st34⟩ := stB X33 hx hZ e33 Ar34 (j := (5 : Int32)) hin34 (g := (mkF m 77 #[.val (.long q0), .second, .val (.long q1), .second, .val (.int p2), .val (.int p3), .val (.ref b16), .unset, .unset, .unset, .unset, .unset, .unset, .unset, .unset, .unset] [(.int (f1 q0 q1 p2 (5 : Int32))), (.int (5 : Int32)), (.ref b16)])) rfl rfl (hb hby at_77)
  rw [(own_pick _ _ _ _).1] at W34
  have Z0_35 : n0 ≤ h34.size := (Nat.le_trans Z0_32 (Keep.of_wr W34).1)
  have V34 : Arv Z h34 b16 k16 .byte (7 : Int32) [(.int (f1 q0 q1 p2 (0 : Int32))), (.int (f1 q0 q1 p2 (1 : Int32))), (.int (f1 q0 q1 p2 (2 : Int32))), (.int (f1 q0 q1 p2 (3 : Int32))), (.int (f1 q0 q1 p2 (4 : Int32))), (.int (f1 q0 q1 p2 (5 : Int32))), (.int (0 : Int32))] (.int (0 : Int32)) := Arv.set Ar34 q34 S34 M34 H34 G34 (own_pick _ _ _ _).2 W34 5 rfl (Nat.le_of_ble_eq_true rfl)
  have N34 := Fr.snoc X34 N33 gn_b16
  refine Got.step st34 ?_
  show Got p e below s _ _ _ _ T34 (mkF m 78 #[.val (.long q0), .second, .val (.long q1), .second, .val (.int p2), .val (.int p3), .val (.ref b16), .unset, .unset, .unset, .unset, .unset, .unset, .unset, .unset, .unset] [])
  refine Got.step (T' := T34) (g' := (mkF m 88 #[.val (.long q0), .second, .val (.long q1), .second, .val (.int p2), .val (.int p3), .val (.ref b16), .unset, .unset, .unset, .unset, .unset, .unset, .unset, .unset, .unset] [(.int (6 : Int32)), (.int p2), (.long q1), (.long q0), (.int (6 : Int32)), (.ref b16)])) (fun tq kt => ?_) ?_
  · show Steps p.tables e below (T34.setTop (mkF m 78 #[.val (.long q0), .second, .val (.long q1), .second, .val (.int p2), .val (.int p3), .val (.ref b16), .unset, .unset, .unset, .unset, .unset, .unset, .unset, .unset, .unset] [])) _
    refine XS.aload X34.here hx rfl (hb hby at_78) rfl rfl ?_
    show Steps p.tables e below (T34.setTop (mkF m 80 #[.val (.long q0), .second, .val (.long q1), .second, .val (.int p2), .val (.int p3), .val (.ref b16), .unset, .unset, .unset, .unset, .unset, .unset, .unset, .unset, .unset] [(.ref b16)])) _
    refine XS.bipush X34.here hx rfl (hb hby at_80) ?_
    show Steps p.tables e below (T34.setTop (mkF m 82 #[.val (.long q0), .second, .val (.long q1), .second, .val (.int p2), .val (.int p3), .val (.ref b16), .unset, .unset, .unset, .unset, .unset, .unset, .unset, .unset, .unset] [(.int (6 : Int32)), (.ref b16)])) _
    refine XS.lloadN X34.here hx rfl (hb hby at_82) rfl ?_
    show Steps p.tables e below (T34.setTop (mkF m 83 #[.val (.long q0), .second, .val (.long q1), .second, .val (.int p2), .val (.int p3), .val (.ref b16), .unset, .unset, .unset, .unset, .unset, .unset, .unset, .unset, .unset] [(.long q0), (.int (6 : Int32)), (.ref b16)])) _
    refine XS.lloadN X34.here hx rfl (hb hby at_83) rfl ?_
    show Steps p.tables e below (T34.setTop (mkF m 84 #[.val (.long q0), .second, .val (.long q1), .second, .val (.int p2), .val (.int p3), .val (.ref b16), .unset, .unset, .unset, .unset, .unset, .unset, .unset, .unset, .unset] [(.long q1), (.long q0), (.int (6 : Int32)), (.ref b16)])) _
    refine XS.iload X34.here hx rfl (hb hby at_84) rfl ?_
    show Steps p.tables e below (T34.setTop (mkF m 86 #[.val (.long q0), .second, .val (.long q1), .second, .val (.int p2), .val (.int p3), .val (.ref b16), .unset, .unset, .unset, .unset, .unset, .unset, .unset, .unset, .unset] [(.int p2), (.long q1), (.long q0), (.int (6 : Int32)), (.ref b16)])) _
    refine XS.bipush X34.here hx rfl (hb hby at_86) ?_
    exact kt
  obtain ⟨_, _, ⟨T36, L36, k36, n36⟩, -, X36, ⟨Lc36, hQ36, l36, y36, z36⟩, st36⟩ := Jvm.LawKit.callS X34 hx (y := (⟨"lavka/io/Iso2709NumberPinLaw", "pick", "(JJII)B"⟩ : MethodName)) hown (mvT hZ (hw _ (List.mem_of_getElem? (i := 1) rfl))) (mvT hZ (hw _ (List.mem_of_getElem? (i := 2) rfl))) (mvT hZ (hw _ (List.mem_of_getElem? (i := 3) rfl))) (mvT hZ (hw _ (List.mem_of_getElem? (i := 4) rfl))) (by decide) (backOf (W := 2) (rm1 l Z a0 hw [] q0 q1 p2 (6 : Int32) h34 n0 Z0_35) hZ (hw _ (List.mem_of_getElem? (i := 4) rfl)) (hw _ (List.mem_of_getElem? (i := 3) rfl)) (by decide) (by decide)) (g := (mkF m 88 #[.val (.long q0), .second, .val (.long q1), .second, .val (.int p2), .val (.int p3), .val (.ref b16), .unset, .unset, .unset, .unset, .unset, .unset, .unset, .unset, .unset] [(.int (6 : Int32)), (.int p2), (.long q1), (.long q0), (.int (6 : Int32)), (.ref b16)])) rfl (by rw [hml]; rfl) (argsL := [(.long q0), (.long q1), (.int p2), (.int (6 : Int32))]) (rest := [(.int (6 : Int32)), (.ref b16)]) (lenOf pd_1 rfl) rfl (by show 2 * 0 + _ ≤ _; exact Nat.le_of_eq rfl) (hb hby at_88) (fun _ _ => ⟨rfl, e34, (by decide : 1 + 0 ≤ _), (by decide : 7 + 0 ≤ _)⟩)
  dsimp only [Pt.U, Pt.locs, Pt.cells, Pt.slots] at X36 l36 y36 z36 st36 hQ36
  subst y36 z36
  obtain ⟨rfl, Nq36, e36⟩ := hQ36
  have N36 : Fr n0 L36 := by rw [l36]; exact Fr.app N34 Nq36
  refine Got.step st36 ?_
  show Got p e below s _ _ _ _ T36 (mkF m 91 #[.val (.long q0), .second, .val (.long q1), .second, .val (.int p2), .val (.int p3), .val (.ref b16), .unset, .unset, .unset, .unset, .unset, .unset, .unset, .unset, .unset] [(.int (f1 q0 q1 p2 (6 : Int32))), (.int (6 : Int32)), (.ref b16)])
  obtain ⟨cl37, Ar37, q37, S37, M37, H37, G37⟩ := (id V34)
  have hin37 : ¬ ((6 : Int32) < 0 ∨ cl37.slots.size ≤ ((6 : Int32)).toNatClampNeg) := inb_of S37 ⟨by decide, by decide⟩
  obtain ⟨T37, h37, X37, e37, W37, st37⟩ := stB X36 hx hZ e36 Ar37 (j := (6 : Int32)) hin37 (g := (mkF m 91 #[.val (.long q0), .second, .val (.long q1), .second, .val (.int p2), .val (.int p3), .val (.ref b16), .unset, .unset, .unset, .unset, .unset, .unset, .unset, .unset, .unset] [(.int (f1 q0 q1 p2 (6 : Int32))), (.int (6 : Int32)), (.ref b16)])) rfl rfl (hb hby at_91)
  rw [(own_pick _ _ _ _).1] at W37
  have Z0_38 : n0 ≤ h37.size := (Nat.le_trans Z0_35 (Keep.of_wr W37).1)
  have V37 : Arv Z h37 b16 k16 .byte (7 : Int32) [(.int (f1 q0 q1 p2 (0 : Int32))), (.int (f1 q0 q1 p2 (1 : Int32))), (.int (f1 q0 q1 p2 (2 : Int32))), (.int (f1 q0 q1 p2 (3 : Int32))), (.int (f1 q0 q1 p2 (4 : Int32))), (.int (f1 q0 q1 p2 (5 : Int32))), (.int (f1 q0 q1 p2 (6 : Int32)))] (.int (0 : Int32)) := Arv.set Ar37 q37 S37 M37 H37 G37 (own_pick _ _ _ _).2 W37 6 rfl (Nat.le_of_ble_eq_true rfl)
  have N37 := Fr.snoc X37 N36 gn_b16
  refine Got.step st37 ?_
  show Got p e below s _ _ _ _ T37 (mkF m 92 #[.val (.long q0), .second, .val (.long q1), .second, .val (.int p2), .val (.int p3), .val (.ref b16), .unset, .unset, .unset, .unset, .unset, .unset, .unset, .unset, .unset] [])
  refine Got.step (T' := T37) (g' := (mkF m 112 #[.val (.long q0), .second, .val (.long q1), .second, .val (.int p2), .val (.int p3), .val (.ref b16), .val (.int ((p3 &&& (3 : Int32)) % (3 : Int32))), .val (.int ((((p3.toUInt32 >>> ((2 : Int32) &&& 31).toUInt32).toInt32) &&& (7 : Int32)) % (6 : Int32))), .unset, .unset, .unset, .unset, .unset, .unset, .unset] [])) (fun tq kt => ?_) ?_
  · show Steps p.tables e below (T37.setTop (mkF m 92 #[.val (.long q0), .second, .val (.long q1), .second, .val (.int p2), .val (.int p3), .val (.ref b16), .unset, .unset, .unset, .unset, .unset, .unset, .unset, .unset, .unset] [])) _
    refine XS.iload X37.here hx rfl (hb hby at_92) rfl ?_
    show Steps p.tables e below (T37.setTop (mkF m 94 #[.val (.long q0), .second, .val (.long q1), .second, .val (.int p2), .val (.int p3), .val (.ref b16), .unset, .unset, .unset, .unset, .unset, .unset, .unset, .unset, .unset] [(.int p3)])) _
    refine XS.iconst X37.here hx rfl (hb hby at_94) ?_
    show Steps p.tables e below (T37.setTop (mkF m 95 #[.val (.long q0), .second, .val (.long q1), .second, .val (.int p2), .val (.int p3), .val (.ref b16), .unset, .unset, .unset, .unset, .unset, .unset, .unset, .unset, .unset] [(.int (3 : Int32)), (.int p3)])) _
    refine XS.iand X37.here hx rfl (hb hby at_95) rfl ?_
    show Steps p.tables e below (T37.setTop (mkF m 96 #[.val (.long q0), .second, .val (.long q1), .second, .val (.int p2), .val (.int p3), .val (.ref b16), .unset, .unset, .unset, .unset, .unset, .unset, .unset, .unset, .unset] [(.int (p3 &&& (3 : Int32)))])) _
    refine XS.iconst X37.here hx rfl (hb hby at_96) ?_
    show Steps p.tables e below (T37.setTop (mkF m 97 #[.val (.long q0), .second, .val (.long q1), .second, .val (.int p2), .val (.int p3), .val (.ref b16), .unset, .unset, .unset, .unset, .unset, .unset, .unset, .unset, .unset] [(.int (3 : Int32)), (.int (p3 &&& (3 : Int32)))])) _
    refine iremM X37 hx rfl (hb hby at_97) rfl (by decide) ?_
    show Steps p.tables e below (T37.setTop (mkF m 98 #[.val (.long q0), .second, .val (.long q1), .second, .val (.int p2), .val (.int p3), .val (.ref b16), .unset, .unset, .unset, .unset, .unset, .unset, .unset, .unset, .unset] [(.int ((p3 &&& (3 : Int32)) % (3 : Int32)))])) _
    refine XS.istore X37.here hx rfl (hb hby at_98) rfl (l' := #[.val (.long q0), .second, .val (.long q1), .second, .val (.int p2), .val (.int p3), .val (.ref b16), .val (.int ((p3 &&& (3 : Int32)) % (3 : Int32))), .unset, .unset, .unset, .unset, .unset, .unset, .unset, .unset]) rfl ?_
    show Steps p.tables e below (T37.setTop (mkF m 100 #[.val (.long q0), .second, .val (.long q1), .second, .val (.int p2), .val (.int p3), .val (.ref b16), .val (.int ((p3 &&& (3 : Int32)) % (3 : Int32))), .unset, .unset, .unset, .unset, .unset, .unset, .unset, .unset] [])) _
    refine XS.iload X37.here hx rfl (hb hby at_100) rfl ?_
    show Steps p.tables e below (T37.setTop (mkF m 102 #[.val (.long q0), .second, .val (.long q1), .second, .val (.int p2), .val (.int p3), .val (.ref b16), .val (.int ((p3 &&& (3 : Int32)) % (3 : Int32))), .unset, .unset, .unset, .unset, .unset, .unset, .unset, .unset] [(.int p3)])) _
    refine XS.iconst X37.here hx rfl (hb hby at_102) ?_
    show Steps p.tables e below (T37.setTop (mkF m 103 #[.val (.long q0), .second, .val (.long q1), .second, .val (.int p2), .val (.int p3), .val (.ref b16), .val (.int ((p3 &&& (3 : Int32)) % (3 : Int32))), .unset, .unset, .unset, .unset, .unset, .unset, .unset, .unset] [(.int (2 : Int32)), (.int p3)])) _
    refine XS.iushr X37.here hx rfl (hb hby at_103) rfl ?_
    show Steps p.tables e below (T37.setTop (mkF m 104 #[.val (.long q0), .second, .val (.long q1), .second, .val (.int p2), .val (.int p3), .val (.ref b16), .val (.int ((p3 &&& (3 : Int32)) % (3 : Int32))), .unset, .unset, .unset, .unset, .unset, .unset, .unset, .unset] [(.int ((p3.toUInt32 >>> ((2 : Int32) &&& 31).toUInt32).toInt32))])) _
    refine XS.bipush X37.here hx rfl (hb hby at_104) ?_
    show Steps p.tables e below (T37.setTop (mkF m 106 #[.val (.long q0), .second, .val (.long q1), .second, .val (.int p2), .val (.int p3), .val (.ref b16), .val (.int ((p3 &&& (3 : Int32)) % (3 : Int32))), .unset, .unset, .unset, .unset, .unset, .unset, .unset, .unset] [(.int (7 : Int32)), (.int ((p3.toUInt32 >>> ((2 : Int32) &&& 31).toUInt32).toInt32))])) _
    refine XS.iand X37.here hx rfl (hb hby at_106) rfl ?_
    show Steps p.tables e below (T37.setTop (mkF m 107 #[.val (.long q0), .second, .val (.long q1), .second, .val (.int p2), .val (.int p3), .val (.ref b16), .val (.int ((p3 &&& (3 : Int32)) % (3 : Int32))), .unset, .unset, .unset, .unset, .unset, .unset, .unset, .unset] [(.int (((p3.toUInt32 >>> ((2 : Int32) &&& 31).toUInt32).toInt32) &&& (7 : Int32)))])) _
    refine XS.bipush X37.here hx rfl (hb hby at_107) ?_
    show Steps p.tables e below (T37.setTop (mkF m 109 #[.val (.long q0), .second, .val (.long q1), .second, .val (.int p2), .val (.int p3), .val (.ref b16), .val (.int ((p3 &&& (3 : Int32)) % (3 : Int32))), .unset, .unset, .unset, .unset, .unset, .unset, .unset, .unset] [(.int (6 : Int32)), (.int (((p3.toUInt32 >>> ((2 : Int32) &&& 31).toUInt32).toInt32) &&& (7 : Int32)))])) _
    refine iremM X37 hx rfl (hb hby at_109) rfl (by decide) ?_
    show Steps p.tables e below (T37.setTop (mkF m 110 #[.val (.long q0), .second, .val (.long q1), .second, .val (.int p2), .val (.int p3), .val (.ref b16), .val (.int ((p3 &&& (3 : Int32)) % (3 : Int32))), .unset, .unset, .unset, .unset, .unset, .unset, .unset, .unset] [(.int ((((p3.toUInt32 >>> ((2 : Int32) &&& 31).toUInt32).toInt32) &&& (7 : Int32)) % (6 : Int32)))])) _
    refine XS.istore X37.here hx rfl (hb hby at_110) rfl (l' := #[.val (.long q0), .second, .val (.long q1), .second, .val (.int p2), .val (.int p3), .val (.ref b16), .val (.int ((p3 &&& (3 : Int32)) % (3 : Int32))), .val (.int ((((p3.toUInt32 >>> ((2 : Int32) &&& 31).toUInt32).toInt32) &&& (7 : Int32)) % (6 : Int32))), .unset, .unset, .unset, .unset, .unset, .unset, .unset]) rfl ?_
    exact kt
  obtain ⟨f, hf, ef⟩ := own_f p3
  rw [ef]
  show Got p e below s _ _ _ _ T37 (mkF m 112 #[.val (.long q0), .second, .val (.long q1), .second, .val (.int p2), .val (.int p3), .val (.ref b16), .val (.int (Int32.ofNat f)), .val (.int ((((p3.toUInt32 >>> ((2 : Int32) &&& 31).toUInt32).toInt32) &&& (7 : Int32)) % (6 : Int32))), .unset, .unset, .unset, .unset, .unset, .unset, .unset] [])
  obtain ⟨d, hd, ed⟩ := own_d p3
  rw [ed]
  show Got p e below s _ _ _ _ T37 (mkF m 112 #[.val (.long q0), .second, .val (.long q1), .second, .val (.int p2), .val (.int p3), .val (.ref b16), .val (.int (Int32.ofNat f)), .val (.int (Int32.ofNat d)), .unset, .unset, .unset, .unset, .unset, .unset, .unset] [])
  obtain ⟨bs, hbs⟩ : ∃ v : List Int32, v = [(f1 q0 q1 p2 (0 : Int32)), (f1 q0 q1 p2 (1 : Int32)), (f1 q0 q1 p2 (2 : Int32)), (f1 q0 q1 p2 (3 : Int32)), (f1 q0 q1 p2 (4 : Int32)), (f1 q0 q1 p2 (5 : Int32)), (f1 q0 q1 p2 (6 : Int32))] := ⟨_, rfl⟩
  have hlen : bs.length = 7 := by rw [hbs]; rfl
  have hfd : f + d ≤ 7 := by omega
  have Vb : Arv Z h37 b16 k16 .byte (7 : Int32) (bs.map Value.int) (.int (0 : Int32)) := by rw [hbs]; exact V37
  refine Got.step (T' := T37) (g' := (mkF m 118 #[.val (.long q0), .second, .val (.long q1), .second, .val (.int p2), .val (.int p3), .val (.ref b16), .val (.int (Int32.ofNat f)), .val (.int (Int32.ofNat d)), .unset, .unset, .unset, .unset, .unset, .unset, .unset] [(.int (Int32.ofNat d)), (.int (Int32.ofNat f)), (.ref b16)])) (fun tq kt => ?_) ?_
  · show Steps p.tables e below (T37.setTop (mkF m 112 #[.val (.long q0), .second, .val (.long q1), .second, .val (.int p2), .val (.int p3), .val (.ref b16), .val (.int (Int32.ofNat f)), .val (.int (Int32.ofNat d)), .unset, .unset, .unset, .unset, .unset, .unset, .unset] [])) _
    refine XS.aload X37.here hx rfl (hb hby at_112) rfl rfl ?_
    show Steps p.tables e below (T37.setTop (mkF m 114 #[.val (.long q0), .second, .val (.long q1), .second, .val (.int p2), .val (.int p3), .val (.ref b16), .val (.int (Int32.ofNat f)), .val (.int (Int32.ofNat d)), .unset, .unset, .unset, .unset, .unset, .unset, .unset] [(.ref b16)])) _
    refine XS.iload X37.here hx rfl (hb hby at_114) rfl ?_
    show Steps p.tables e below (T37.setTop (mkF m 116 #[.val (.long q0), .second, .val (.long q1), .second, .val (.int p2), .val (.int p3), .val (.ref b16), .val (.int (Int32.ofNat f)), .val (.int (Int32.ofNat d)), .unset, .unset, .unset, .unset, .unset, .unset, .unset] [(.int (Int32.ofNat f)), (.ref b16)])) _
    refine XS.iload X37.here hx rfl (hb hby at_116) rfl ?_
    exact kt
  obtain ⟨_, _, ⟨T39, L39, k39, n39⟩, -, X39, ⟨Lc39, hQ39, l39, y39, z39⟩, st39⟩ := Jvm.LawKit.callS X37 hx (y := (⟨"lavka/io/Iso2709", "number", "([BII)I"⟩ : MethodName)) hown (mvT hZ (hw _ (List.mem_of_getElem? (i := 5) rfl))) (mvT hZ (hw _ (List.mem_of_getElem? (i := 6) rfl))) (mvT hZ (hw _ (List.mem_of_getElem? (i := 7) rfl))) (mvT hZ (hw _ (List.mem_of_getElem? (i := 8) rfl))) (by decide) (backOf (W := 0) (rm2 l Z a0 hw [] b16 f d bs k16 h37 n0 Z0_38 Vb hlen hfd) hZ (hw _ (List.mem_of_getElem? (i := 8) rfl)) (hw _ (List.mem_of_getElem? (i := 7) rfl)) (by decide) (by decide)) (g := (mkF m 118 #[.val (.long q0), .second, .val (.long q1), .second, .val (.int p2), .val (.int p3), .val (.ref b16), .val (.int (Int32.ofNat f)), .val (.int (Int32.ofNat d)), .unset, .unset, .unset, .unset, .unset, .unset, .unset] [(.int (Int32.ofNat d)), (.int (Int32.ofNat f)), (.ref b16)])) rfl (by rw [hml]; rfl) (argsL := [(.ref b16), (.int (Int32.ofNat f)), (.int (Int32.ofNat d))]) (rest := []) (lenOf pd_2 rfl) rfl (by show 2 * 0 + _ ≤ _; exact Nat.le_of_eq rfl) (hb hby at_118) (fun _ _ => ⟨rfl, e37, (by decide : 1 + 0 ≤ _), (by decide : 7 + 0 ≤ _)⟩)
  dsimp only [Pt.U, Pt.locs, Pt.cells, Pt.slots] at X39 l39 y39 z39 st39 hQ39
  subst y39 z39
  obtain ⟨rfl, Nq39, e39⟩ := hQ39
  have N39 : Fr n0 L39 := by rw [l39]; exact Fr.app N37 Nq39
  refine Got.step st39 ?_
  show Got p e below s _ _ _ _ T39 (mkF m 121 #[.val (.long q0), .second, .val (.long q1), .second, .val (.int p2), .val (.int p3), .val (.ref b16), .val (.int (Int32.ofNat f)), .val (.int (Int32.ofNat d)), .unset, .unset, .unset, .unset, .unset, .unset, .unset] [(.int (num 0 ((bs.drop f).take d)))])
  refine Got.step (T' := T39) (g' := (mkF m 130 #[.val (.long q0), .second, .val (.long q1), .second, .val (.int p2), .val (.int p3), .val (.ref b16), .val (.int (Int32.ofNat f)), .val (.int (Int32.ofNat d)), .val (.int (num 0 ((bs.drop f).take d))), .unset, .unset, .unset, .unset, .unset, .unset] [(.int (0 : Int32)), (.int (Int32.ofNat d)), (.int (Int32.ofNat f)), (.ref b16)])) (fun tq kt => ?_) ?_
  · show Steps p.tables e below (T39.setTop (mkF m 121 #[.val (.long q0), .second, .val (.long q1), .second, .val (.int p2), .val (.int p3), .val (.ref b16), .val (.int (Int32.ofNat f)), .val (.int (Int32.ofNat d)), .unset, .unset, .unset, .unset, .unset, .unset, .unset] [(.int (num 0 ((bs.drop f).take d)))])) _
    refine XS.istore X39.here hx rfl (hb hby at_121) rfl (l' := #[.val (.long q0), .second, .val (.long q1), .second, .val (.int p2), .val (.int p3), .val (.ref b16), .val (.int (Int32.ofNat f)), .val (.int (Int32.ofNat d)), .val (.int (num 0 ((bs.drop f).take d))), .unset, .unset, .unset, .unset, .unset, .unset]) rfl ?_
    show Steps p.tables e below (T39.setTop (mkF m 123 #[.val (.long q0), .second, .val (.long q1), .second, .val (.int p2), .val (.int p3), .val (.ref b16), .val (.int (Int32.ofNat f)), .val (.int (Int32.ofNat d)), .val (.int (num 0 ((bs.drop f).take d))), .unset, .unset, .unset, .unset, .unset, .unset] [])) _
    refine XS.aload X39.here hx rfl (hb hby at_123) rfl rfl ?_
    show Steps p.tables e below (T39.setTop (mkF m 125 #[.val (.long q0), .second, .val (.long q1), .second, .val (.int p2), .val (.int p3), .val (.ref b16), .val (.int (Int32.ofNat f)), .val (.int (Int32.ofNat d)), .val (.int (num 0 ((bs.drop f).take d))), .unset, .unset, .unset, .unset, .unset, .unset] [(.ref b16)])) _
    refine XS.iload X39.here hx rfl (hb hby at_125) rfl ?_
    show Steps p.tables e below (T39.setTop (mkF m 127 #[.val (.long q0), .second, .val (.long q1), .second, .val (.int p2), .val (.int p3), .val (.ref b16), .val (.int (Int32.ofNat f)), .val (.int (Int32.ofNat d)), .val (.int (num 0 ((bs.drop f).take d))), .unset, .unset, .unset, .unset, .unset, .unset] [(.int (Int32.ofNat f)), (.ref b16)])) _
    refine XS.iload X39.here hx rfl (hb hby at_127) rfl ?_
    show Steps p.tables e below (T39.setTop (mkF m 129 #[.val (.long q0), .second, .val (.long q1), .second, .val (.int p2), .val (.int p3), .val (.ref b16), .val (.int (Int32.ofNat f)), .val (.int (Int32.ofNat d)), .val (.int (num 0 ((bs.drop f).take d))), .unset, .unset, .unset, .unset, .unset, .unset] [(.int (Int32.ofNat d)), (.int (Int32.ofNat f)), (.ref b16)])) _
    refine XS.iconst X39.here hx rfl (hb hby at_129) ?_
    exact kt
  obtain ⟨_, _, ⟨T40, L40, k40, n40⟩, -, X40, ⟨Lc40, hQ40, l40, y40, z40⟩, st40⟩ := Jvm.LawKit.callS X39 hx (y := (⟨"lavka/io/Iso2709NumberPinLaw", "term", "([BIII)I"⟩ : MethodName)) hown (mvT hZ (hw _ (List.mem_of_getElem? (i := 9) rfl))) (mvT hZ (hw _ (List.mem_of_getElem? (i := 10) rfl))) (mvT hZ (hw _ (List.mem_of_getElem? (i := 3) rfl))) (mvT hZ (hw _ (List.mem_of_getElem? (i := 11) rfl))) (by decide) (backOf (W := 0) (rm3 l Z a0 hw [] b16 f d (0 : Int32) bs k16 h37 n0 Z0_38 Vb (own_hin0 hf hd)) hZ (hw _ (List.mem_of_getElem? (i := 11) rfl)) (hw _ (List.mem_of_getElem? (i := 3) rfl)) (by decide) (by decide)) (g := (mkF m 130 #[.val (.long q0), .second, .val (.long q1), .second, .val (.int p2), .val (.int p3), .val (.ref b16), .val (.int (Int32.ofNat f)), .val (.int (Int32.ofNat d)), .val (.int (num 0 ((bs.drop f).take d))), .unset, .unset, .unset, .unset, .unset, .unset] [(.int (0 : Int32)), (.int (Int32.ofNat d)), (.int (Int32.ofNat f)), (.ref b16)])) rfl (by rw [hml]; rfl) (argsL := [(.ref b16), (.int (Int32.ofNat f)), (.int (Int32.ofNat d)), (.int (0 : Int32))]) (rest := []) (lenOf pd_3 rfl) rfl (by show 2 * 0 + _ ≤ _; exact Nat.le_of_eq rfl) (hb hby at_130) (fun _ _ => ⟨rfl, e39, (by decide : 1 + 0 ≤ _), (by decide : 7 + 0 ≤ _)⟩)
  dsimp only [Pt.U, Pt.locs, Pt.cells, Pt.slots] at X40 l40 y40 z40 st40 hQ40
  subst y40 z40
  obtain ⟨rfl, Nq40, e40⟩ := hQ40
  have N40 : Fr n0 L40 := by rw [l40]; exact Fr.app N39 Nq40
  refine Got.step st40 ?_
  show Got p e below s _ _ _ _ T40 (mkF m 133 #[.val (.long q0), .second, .val (.long q1), .second, .val (.int p2), .val (.int p3), .val (.ref b16), .val (.int (Int32.ofNat f)), .val (.int (Int32.ofNat d)), .val (.int (num 0 ((bs.drop f).take d))), .unset, .unset, .unset, .unset, .unset, .unset] [(.int (f3 bs f d (0 : Int32)))])
  refine Got.step (T' := T40) (g' := (mkF m 142 #[.val (.long q0), .second, .val (.long q1), .second, .val (.int p2), .val (.int p3), .val (.ref b16), .val (.int (Int32.ofNat f)), .val (.int (Int32.ofNat d)), .val (.int (num 0 ((bs.drop f).take d))), .val (.int (f3 bs f d (0 : Int32))), .unset, .unset, .unset, .unset, .unset] [(.int (1 : Int32)), (.int (Int32.ofNat d)), (.int (Int32.ofNat f)), (.ref b16)])) (fun tq kt => ?_) ?_
  · show Steps p.tables e below (T40.setTop (mkF m 133 #[.val (.long q0), .second, .val (.long q1), .second, .val (.int p2), .val (.int p3), .val (.ref b16), .val (.int (Int32.ofNat f)), .val (.int (Int32.ofNat d)), .val (.int (num 0 ((bs.drop f).take d))), .unset, .unset, .unset, .unset, .unset, .unset] [(.int (f3 bs f d (0 : Int32)))])) _
    refine XS.istore X40.here hx rfl (hb hby at_133) rfl (l' := #[.val (.long q0), .second, .val (.long q1), .second, .val (.int p2), .val (.int p3), .val (.ref b16), .val (.int (Int32.ofNat f)), .val (.int (Int32.ofNat d)), .val (.int (num 0 ((bs.drop f).take d))), .val (.int (f3 bs f d (0 : Int32))), .unset, .unset, .unset, .unset, .unset]) rfl ?_
    show Steps p.tables e below (T40.setTop (mkF m 135 #[.val (.long q0), .second, .val (.long q1), .second, .val (.int p2), .val (.int p3), .val (.ref b16), .val (.int (Int32.ofNat f)), .val (.int (Int32.ofNat d)), .val (.int (num 0 ((bs.drop f).take d))), .val (.int (f3 bs f d (0 : Int32))), .unset, .unset, .unset, .unset, .unset] [])) _
    refine XS.aload X40.here hx rfl (hb hby at_135) rfl rfl ?_
    show Steps p.tables e below (T40.setTop (mkF m 137 #[.val (.long q0), .second, .val (.long q1), .second, .val (.int p2), .val (.int p3), .val (.ref b16), .val (.int (Int32.ofNat f)), .val (.int (Int32.ofNat d)), .val (.int (num 0 ((bs.drop f).take d))), .val (.int (f3 bs f d (0 : Int32))), .unset, .unset, .unset, .unset, .unset] [(.ref b16)])) _
    refine XS.iload X40.here hx rfl (hb hby at_137) rfl ?_
    show Steps p.tables e below (T40.setTop (mkF m 139 #[.val (.long q0), .second, .val (.long q1), .second, .val (.int p2), .val (.int p3), .val (.ref b16), .val (.int (Int32.ofNat f)), .val (.int (Int32.ofNat d)), .val (.int (num 0 ((bs.drop f).take d))), .val (.int (f3 bs f d (0 : Int32))), .unset, .unset, .unset, .unset, .unset] [(.int (Int32.ofNat f)), (.ref b16)])) _
    refine XS.iload X40.here hx rfl (hb hby at_139) rfl ?_
    show Steps p.tables e below (T40.setTop (mkF m 141 #[.val (.long q0), .second, .val (.long q1), .second, .val (.int p2), .val (.int p3), .val (.ref b16), .val (.int (Int32.ofNat f)), .val (.int (Int32.ofNat d)), .val (.int (num 0 ((bs.drop f).take d))), .val (.int (f3 bs f d (0 : Int32))), .unset, .unset, .unset, .unset, .unset] [(.int (Int32.ofNat d)), (.int (Int32.ofNat f)), (.ref b16)])) _
    refine XS.iconst X40.here hx rfl (hb hby at_141) ?_
    exact kt
  obtain ⟨_, _, ⟨T41, L41, k41, n41⟩, -, X41, ⟨Lc41, hQ41, l41, y41, z41⟩, st41⟩ := Jvm.LawKit.callS X40 hx (y := (⟨"lavka/io/Iso2709NumberPinLaw", "term", "([BIII)I"⟩ : MethodName)) hown (mvT hZ (hw _ (List.mem_of_getElem? (i := 9) rfl))) (mvT hZ (hw _ (List.mem_of_getElem? (i := 10) rfl))) (mvT hZ (hw _ (List.mem_of_getElem? (i := 3) rfl))) (mvT hZ (hw _ (List.mem_of_getElem? (i := 11) rfl))) (by decide) (backOf (W := 0) (rm3 l Z a0 hw [] b16 f d (1 : Int32) bs k16 h37 n0 Z0_38 Vb (own_hin1 hf hd)) hZ (hw _ (List.mem_of_getElem? (i := 11) rfl)) (hw _ (List.mem_of_getElem? (i := 3) rfl)) (by decide) (by decide)) (g := (mkF m 142 #[.val (.long q0), .second, .val (.long q1), .second, .val (.int p2), .val (.int p3), .val (.ref b16), .val (.int (Int32.ofNat f)), .val (.int (Int32.ofNat d)), .val (.int (num 0 ((bs.drop f).take d))), .val (.int (f3 bs f d (0 : Int32))), .unset, .unset, .unset, .unset, .unset] [(.int (1 : Int32)), (.int (Int32.ofNat d)), (.int (Int32.ofNat f)), (.ref b16)])) rfl (by rw [hml]; rfl) (argsL := [(.ref b16), (.int (Int32.ofNat f)), (.int (Int32.ofNat d)), (.int (1 : Int32))]) (rest := []) (lenOf pd_3 rfl) rfl (by show 2 * 0 + _ ≤ _; exact Nat.le_of_eq rfl) (hb hby at_142) (fun _ _ => ⟨rfl, e40, (by decide : 1 + 0 ≤ _), (by decide : 7 + 0 ≤ _)⟩)
  dsimp only [Pt.U, Pt.locs, Pt.cells, Pt.slots] at X41 l41 y41 z41 st41 hQ41
  subst y41 z41
  obtain ⟨rfl, Nq41, e41⟩ := hQ41
  have N41 : Fr n0 L41 := by rw [l41]; exact Fr.app N40 Nq41
  refine Got.step st41 ?_
  show Got p e below s _ _ _ _ T41 (mkF m 145 #[.val (.long q0), .second, .val (.long q1), .second, .val (.int p2), .val (.int p3), .val (.ref b16), .val (.int (Int32.ofNat f)), .val (.int (Int32.ofNat d)), .val (.int (num 0 ((bs.drop f).take d))), .val (.int (f3 bs f d (0 : Int32))), .unset, .unset, .unset, .unset, .unset] [(.int (f3 bs f d (1 : Int32)))])
  refine Got.step (T' := T41) (g' := (mkF m 154 #[.val (.long q0), .second, .val (.long q1), .second, .val (.int p2), .val (.int p3), .val (.ref b16), .val (.int (Int32.ofNat f)), .val (.int (Int32.ofNat d)), .val (.int (num 0 ((bs.drop f).take d))), .val (.int (f3 bs f d (0 : Int32))), .val (.int (f3 bs f d (1 : Int32))), .unset, .unset, .unset, .unset] [(.int (2 : Int32)), (.int (Int32.ofNat d)), (.int (Int32.ofNat f)), (.ref b16)])) (fun tq kt => ?_) ?_
  · show Steps p.tables e below (T41.setTop (mkF m 145 #[.val (.long q0), .second, .val (.long q1), .second, .val (.int p2), .val (.int p3), .val (.ref b16), .val (.int (Int32.ofNat f)), .val (.int (Int32.ofNat d)), .val (.int (num 0 ((bs.drop f).take d))), .val (.int (f3 bs f d (0 : Int32))), .unset, .unset, .unset, .unset, .unset] [(.int (f3 bs f d (1 : Int32)))])) _
    refine XS.istore X41.here hx rfl (hb hby at_145) rfl (l' := #[.val (.long q0), .second, .val (.long q1), .second, .val (.int p2), .val (.int p3), .val (.ref b16), .val (.int (Int32.ofNat f)), .val (.int (Int32.ofNat d)), .val (.int (num 0 ((bs.drop f).take d))), .val (.int (f3 bs f d (0 : Int32))), .val (.int (f3 bs f d (1 : Int32))), .unset, .unset, .unset, .unset]) rfl ?_
    show Steps p.tables e below (T41.setTop (mkF m 147 #[.val (.long q0), .second, .val (.long q1), .second, .val (.int p2), .val (.int p3), .val (.ref b16), .val (.int (Int32.ofNat f)), .val (.int (Int32.ofNat d)), .val (.int (num 0 ((bs.drop f).take d))), .val (.int (f3 bs f d (0 : Int32))), .val (.int (f3 bs f d (1 : Int32))), .unset, .unset, .unset, .unset] [])) _
    refine XS.aload X41.here hx rfl (hb hby at_147) rfl rfl ?_
    show Steps p.tables e below (T41.setTop (mkF m 149 #[.val (.long q0), .second, .val (.long q1), .second, .val (.int p2), .val (.int p3), .val (.ref b16), .val (.int (Int32.ofNat f)), .val (.int (Int32.ofNat d)), .val (.int (num 0 ((bs.drop f).take d))), .val (.int (f3 bs f d (0 : Int32))), .val (.int (f3 bs f d (1 : Int32))), .unset, .unset, .unset, .unset] [(.ref b16)])) _
    refine XS.iload X41.here hx rfl (hb hby at_149) rfl ?_
    show Steps p.tables e below (T41.setTop (mkF m 151 #[.val (.long q0), .second, .val (.long q1), .second, .val (.int p2), .val (.int p3), .val (.ref b16), .val (.int (Int32.ofNat f)), .val (.int (Int32.ofNat d)), .val (.int (num 0 ((bs.drop f).take d))), .val (.int (f3 bs f d (0 : Int32))), .val (.int (f3 bs f d (1 : Int32))), .unset, .unset, .unset, .unset] [(.int (Int32.ofNat f)), (.ref b16)])) _
    refine XS.iload X41.here hx rfl (hb hby at_151) rfl ?_
    show Steps p.tables e below (T41.setTop (mkF m 153 #[.val (.long q0), .second, .val (.long q1), .second, .val (.int p2), .val (.int p3), .val (.ref b16), .val (.int (Int32.ofNat f)), .val (.int (Int32.ofNat d)), .val (.int (num 0 ((bs.drop f).take d))), .val (.int (f3 bs f d (0 : Int32))), .val (.int (f3 bs f d (1 : Int32))), .unset, .unset, .unset, .unset] [(.int (Int32.ofNat d)), (.int (Int32.ofNat f)), (.ref b16)])) _
    refine XS.iconst X41.here hx rfl (hb hby at_153) ?_
    exact kt
  obtain ⟨_, _, ⟨T42, L42, k42, n42⟩, -, X42, ⟨Lc42, hQ42, l42, y42, z42⟩, st42⟩ := Jvm.LawKit.callS X41 hx (y := (⟨"lavka/io/Iso2709NumberPinLaw", "term", "([BIII)I"⟩ : MethodName)) hown (mvT hZ (hw _ (List.mem_of_getElem? (i := 9) rfl))) (mvT hZ (hw _ (List.mem_of_getElem? (i := 10) rfl))) (mvT hZ (hw _ (List.mem_of_getElem? (i := 3) rfl))) (mvT hZ (hw _ (List.mem_of_getElem? (i := 11) rfl))) (by decide) (backOf (W := 0) (rm3 l Z a0 hw [] b16 f d (2 : Int32) bs k16 h37 n0 Z0_38 Vb (own_hin2 hf hd)) hZ (hw _ (List.mem_of_getElem? (i := 11) rfl)) (hw _ (List.mem_of_getElem? (i := 3) rfl)) (by decide) (by decide)) (g := (mkF m 154 #[.val (.long q0), .second, .val (.long q1), .second, .val (.int p2), .val (.int p3), .val (.ref b16), .val (.int (Int32.ofNat f)), .val (.int (Int32.ofNat d)), .val (.int (num 0 ((bs.drop f).take d))), .val (.int (f3 bs f d (0 : Int32))), .val (.int (f3 bs f d (1 : Int32))), .unset, .unset, .unset, .unset] [(.int (2 : Int32)), (.int (Int32.ofNat d)), (.int (Int32.ofNat f)), (.ref b16)])) rfl (by rw [hml]; rfl) (argsL := [(.ref b16), (.int (Int32.ofNat f)), (.int (Int32.ofNat d)), (.int (2 : Int32))]) (rest := []) (lenOf pd_3 rfl) rfl (by show 2 * 0 + _ ≤ _; exact Nat.le_of_eq rfl) (hb hby at_154) (fun _ _ => ⟨rfl, e41, (by decide : 1 + 0 ≤ _), (by decide : 7 + 0 ≤ _)⟩)
  dsimp only [Pt.U, Pt.locs, Pt.cells, Pt.slots] at X42 l42 y42 z42 st42 hQ42
  subst y42 z42
  obtain ⟨rfl, Nq42, e42⟩ := hQ42
  have N42 : Fr n0 L42 := by rw [l42]; exact Fr.app N41 Nq42
  refine Got.step st42 ?_
  show Got p e below s _ _ _ _ T42 (mkF m 157 #[.val (.long q0), .second, .val (.long q1), .second, .val (.int p2), .val (.int p3), .val (.ref b16), .val (.int (Int32.ofNat f)), .val (.int (Int32.ofNat d)), .val (.int (num 0 ((bs.drop f).take d))), .val (.int (f3 bs f d (0 : Int32))), .val (.int (f3 bs f d (1 : Int32))), .unset, .unset, .unset, .unset] [(.int (f3 bs f d (2 : Int32)))])
  refine Got.step (T' := T42) (g' := (mkF m 166 #[.val (.long q0), .second, .val (.long q1), .second, .val (.int p2), .val (.int p3), .val (.ref b16), .val (.int (Int32.ofNat f)), .val (.int (Int32.ofNat d)), .val (.int (num 0 ((bs.drop f).take d))), .val (.int (f3 bs f d (0 : Int32))), .val (.int (f3 bs f d (1 : Int32))), .val (.int (f3 bs f d (2 : Int32))), .unset, .unset, .unset] [(.int (3 : Int32)), (.int (Int32.ofNat d)), (.int (Int32.ofNat f)), (.ref b16)])) (fun tq kt => ?_) ?_
  · show Steps p.tables e below (T42.setTop (mkF m 157 #[.val (.long q0), .second, .val (.long q1), .second, .val (.int p2), .val (.int p3), .val (.ref b16), .val (.int (Int32.ofNat f)), .val (.int (Int32.ofNat d)), .val (.int (num 0 ((bs.drop f).take d))), .val (.int (f3 bs f d (0 : Int32))), .val (.int (f3 bs f d (1 : Int32))), .unset, .unset, .unset, .unset] [(.int (f3 bs f d (2 : Int32)))])) _
    refine XS.istore X42.here hx rfl (hb hby at_157) rfl (l' := #[.val (.long q0), .second, .val (.long q1), .second, .val (.int p2), .val (.int p3), .val (.ref b16), .val (.int (Int32.ofNat f)), .val (.int (Int32.ofNat d)), .val (.int (num 0 ((bs.drop f).take d))), .val (.int (f3 bs f d (0 : Int32))), .val (.int (f3 bs f d (1 : Int32))), .val (.int (f3 bs f d (2 : Int32))), .unset, .unset, .unset]) rfl ?_
    show Steps p.tables e below (T42.setTop (mkF m 159 #[.val (.long q0), .second, .val (.long q1), .second, .val (.int p2), .val (.int p3), .val (.ref b16), .val (.int (Int32.ofNat f)), .val (.int (Int32.ofNat d)), .val (.int (num 0 ((bs.drop f).take d))), .val (.int (f3 bs f d (0 : Int32))), .val (.int (f3 bs f d (1 : Int32))), .val (.int (f3 bs f d (2 : Int32))), .unset, .unset, .unset] [])) _
    refine XS.aload X42.here hx rfl (hb hby at_159) rfl rfl ?_
    show Steps p.tables e below (T42.setTop (mkF m 161 #[.val (.long q0), .second, .val (.long q1), .second, .val (.int p2), .val (.int p3), .val (.ref b16), .val (.int (Int32.ofNat f)), .val (.int (Int32.ofNat d)), .val (.int (num 0 ((bs.drop f).take d))), .val (.int (f3 bs f d (0 : Int32))), .val (.int (f3 bs f d (1 : Int32))), .val (.int (f3 bs f d (2 : Int32))), .unset, .unset, .unset] [(.ref b16)])) _
    refine XS.iload X42.here hx rfl (hb hby at_161) rfl ?_
    show Steps p.tables e below (T42.setTop (mkF m 163 #[.val (.long q0), .second, .val (.long q1), .second, .val (.int p2), .val (.int p3), .val (.ref b16), .val (.int (Int32.ofNat f)), .val (.int (Int32.ofNat d)), .val (.int (num 0 ((bs.drop f).take d))), .val (.int (f3 bs f d (0 : Int32))), .val (.int (f3 bs f d (1 : Int32))), .val (.int (f3 bs f d (2 : Int32))), .unset, .unset, .unset] [(.int (Int32.ofNat f)), (.ref b16)])) _
    refine XS.iload X42.here hx rfl (hb hby at_163) rfl ?_
    show Steps p.tables e below (T42.setTop (mkF m 165 #[.val (.long q0), .second, .val (.long q1), .second, .val (.int p2), .val (.int p3), .val (.ref b16), .val (.int (Int32.ofNat f)), .val (.int (Int32.ofNat d)), .val (.int (num 0 ((bs.drop f).take d))), .val (.int (f3 bs f d (0 : Int32))), .val (.int (f3 bs f d (1 : Int32))), .val (.int (f3 bs f d (2 : Int32))), .unset, .unset, .unset] [(.int (Int32.ofNat d)), (.int (Int32.ofNat f)), (.ref b16)])) _
    refine XS.iconst X42.here hx rfl (hb hby at_165) ?_
    exact kt
  obtain ⟨_, _, ⟨T43, L43, k43, n43⟩, -, X43, ⟨Lc43, hQ43, l43, y43, z43⟩, st43⟩ := Jvm.LawKit.callS X42 hx (y := (⟨"lavka/io/Iso2709NumberPinLaw", "term", "([BIII)I"⟩ : MethodName)) hown (mvT hZ (hw _ (List.mem_of_getElem? (i := 9) rfl))) (mvT hZ (hw _ (List.mem_of_getElem? (i := 10) rfl))) (mvT hZ (hw _ (List.mem_of_getElem? (i := 3) rfl))) (mvT hZ (hw _ (List.mem_of_getElem? (i := 11) rfl))) (by decide) (backOf (W := 0) (rm3 l Z a0 hw [] b16 f d (3 : Int32) bs k16 h37 n0 Z0_38 Vb (own_hin3 hf hd)) hZ (hw _ (List.mem_of_getElem? (i := 11) rfl)) (hw _ (List.mem_of_getElem? (i := 3) rfl)) (by decide) (by decide)) (g := (mkF m 166 #[.val (.long q0), .second, .val (.long q1), .second, .val (.int p2), .val (.int p3), .val (.ref b16), .val (.int (Int32.ofNat f)), .val (.int (Int32.ofNat d)), .val (.int (num 0 ((bs.drop f).take d))), .val (.int (f3 bs f d (0 : Int32))), .val (.int (f3 bs f d (1 : Int32))), .val (.int (f3 bs f d (2 : Int32))), .unset, .unset, .unset] [(.int (3 : Int32)), (.int (Int32.ofNat d)), (.int (Int32.ofNat f)), (.ref b16)])) rfl (by rw [hml]; rfl) (argsL := [(.ref b16), (.int (Int32.ofNat f)), (.int (Int32.ofNat d)), (.int (3 : Int32))]) (rest := []) (lenOf pd_3 rfl) rfl (by show 2 * 0 + _ ≤ _; exact Nat.le_of_eq rfl) (hb hby at_166) (fun _ _ => ⟨rfl, e42, (by decide : 1 + 0 ≤ _), (by decide : 7 + 0 ≤ _)⟩)
  dsimp only [Pt.U, Pt.locs, Pt.cells, Pt.slots] at X43 l43 y43 z43 st43 hQ43
  subst y43 z43
  obtain ⟨rfl, Nq43, e43⟩ := hQ43
  have N43 : Fr n0 L43 := by rw [l43]; exact Fr.app N42 Nq43
  refine Got.step st43 ?_
  show Got p e below s _ _ _ _ T43 (mkF m 169 #[.val (.long q0), .second, .val (.long q1), .second, .val (.int p2), .val (.int p3), .val (.ref b16), .val (.int (Int32.ofNat f)), .val (.int (Int32.ofNat d)), .val (.int (num 0 ((bs.drop f).take d))), .val (.int (f3 bs f d (0 : Int32))), .val (.int (f3 bs f d (1 : Int32))), .val (.int (f3 bs f d (2 : Int32))), .unset, .unset, .unset] [(.int (f3 bs f d (3 : Int32)))])
  refine Got.step (T' := T43) (g' := (mkF m 178 #[.val (.long q0), .second, .val (.long q1), .second, .val (.int p2), .val (.int p3), .val (.ref b16), .val (.int (Int32.ofNat f)), .val (.int (Int32.ofNat d)), .val (.int (num 0 ((bs.drop f).take d))), .val (.int (f3 bs f d (0 : Int32))), .val (.int (f3 bs f d (1 : Int32))), .val (.int (f3 bs f d (2 : Int32))), .val (.int (f3 bs f d (3 : Int32))), .unset, .unset] [(.int (4 : Int32)), (.int (Int32.ofNat d)), (.int (Int32.ofNat f)), (.ref b16)])) (fun tq kt => ?_) ?_
  · show Steps p.tables e below (T43.setTop (mkF m 169 #[.val (.long q0), .second, .val (.long q1), .second, .val (.int p2), .val (.int p3), .val (.ref b16), .val (.int (Int32.ofNat f)), .val (.int (Int32.ofNat d)), .val (.int (num 0 ((bs.drop f).take d))), .val (.int (f3 bs f d (0 : Int32))), .val (.int (f3 bs f d (1 : Int32))), .val (.int (f3 bs f d (2 : Int32))), .unset, .unset, .unset] [(.int (f3 bs f d (3 : Int32)))])) _
    refine XS.istore X43.here hx rfl (hb hby at_169) rfl (l' := #[.val (.long q0), .second, .val (.long q1), .second, .val (.int p2), .val (.int p3), .val (.ref b16), .val (.int (Int32.ofNat f)), .val (.int (Int32.ofNat d)), .val (.int (num 0 ((bs.drop f).take d))), .val (.int (f3 bs f d (0 : Int32))), .val (.int (f3 bs f d (1 : Int32))), .val (.int (f3 bs f d (2 : Int32))), .val (.int (f3 bs f d (3 : Int32))), .unset, .unset]) rfl ?_
    show Steps p.tables e below (T43.setTop (mkF m 171 #[.val (.long q0), .second, .val (.long q1), .second, .val (.int p2), .val (.int p3), .val (.ref b16), .val (.int (Int32.ofNat f)), .val (.int (Int32.ofNat d)), .val (.int (num 0 ((bs.drop f).take d))), .val (.int (f3 bs f d (0 : Int32))), .val (.int (f3 bs f d (1 : Int32))), .val (.int (f3 bs f d (2 : Int32))), .val (.int (f3 bs f d (3 : Int32))), .unset, .unset] [])) _
    refine XS.aload X43.here hx rfl (hb hby at_171) rfl rfl ?_
    show Steps p.tables e below (T43.setTop (mkF m 173 #[.val (.long q0), .second, .val (.long q1), .second, .val (.int p2), .val (.int p3), .val (.ref b16), .val (.int (Int32.ofNat f)), .val (.int (Int32.ofNat d)), .val (.int (num 0 ((bs.drop f).take d))), .val (.int (f3 bs f d (0 : Int32))), .val (.int (f3 bs f d (1 : Int32))), .val (.int (f3 bs f d (2 : Int32))), .val (.int (f3 bs f d (3 : Int32))), .unset, .unset] [(.ref b16)])) _
    refine XS.iload X43.here hx rfl (hb hby at_173) rfl ?_
    show Steps p.tables e below (T43.setTop (mkF m 175 #[.val (.long q0), .second, .val (.long q1), .second, .val (.int p2), .val (.int p3), .val (.ref b16), .val (.int (Int32.ofNat f)), .val (.int (Int32.ofNat d)), .val (.int (num 0 ((bs.drop f).take d))), .val (.int (f3 bs f d (0 : Int32))), .val (.int (f3 bs f d (1 : Int32))), .val (.int (f3 bs f d (2 : Int32))), .val (.int (f3 bs f d (3 : Int32))), .unset, .unset] [(.int (Int32.ofNat f)), (.ref b16)])) _
    refine XS.iload X43.here hx rfl (hb hby at_175) rfl ?_
    show Steps p.tables e below (T43.setTop (mkF m 177 #[.val (.long q0), .second, .val (.long q1), .second, .val (.int p2), .val (.int p3), .val (.ref b16), .val (.int (Int32.ofNat f)), .val (.int (Int32.ofNat d)), .val (.int (num 0 ((bs.drop f).take d))), .val (.int (f3 bs f d (0 : Int32))), .val (.int (f3 bs f d (1 : Int32))), .val (.int (f3 bs f d (2 : Int32))), .val (.int (f3 bs f d (3 : Int32))), .unset, .unset] [(.int (Int32.ofNat d)), (.int (Int32.ofNat f)), (.ref b16)])) _
    refine XS.iconst X43.here hx rfl (hb hby at_177) ?_
    exact kt
  obtain ⟨_, _, ⟨T44, L44, k44, n44⟩, -, X44, ⟨Lc44, hQ44, l44, y44, z44⟩, st44⟩ := Jvm.LawKit.callS X43 hx (y := (⟨"lavka/io/Iso2709NumberPinLaw", "term", "([BIII)I"⟩ : MethodName)) hown (mvT hZ (hw _ (List.mem_of_getElem? (i := 9) rfl))) (mvT hZ (hw _ (List.mem_of_getElem? (i := 10) rfl))) (mvT hZ (hw _ (List.mem_of_getElem? (i := 3) rfl))) (mvT hZ (hw _ (List.mem_of_getElem? (i := 11) rfl))) (by decide) (backOf (W := 0) (rm3 l Z a0 hw [] b16 f d (4 : Int32) bs k16 h37 n0 Z0_38 Vb (own_hin4 hf hd)) hZ (hw _ (List.mem_of_getElem? (i := 11) rfl)) (hw _ (List.mem_of_getElem? (i := 3) rfl)) (by decide) (by decide)) (g := (mkF m 178 #[.val (.long q0), .second, .val (.long q1), .second, .val (.int p2), .val (.int p3), .val (.ref b16), .val (.int (Int32.ofNat f)), .val (.int (Int32.ofNat d)), .val (.int (num 0 ((bs.drop f).take d))), .val (.int (f3 bs f d (0 : Int32))), .val (.int (f3 bs f d (1 : Int32))), .val (.int (f3 bs f d (2 : Int32))), .val (.int (f3 bs f d (3 : Int32))), .unset, .unset] [(.int (4 : Int32)), (.int (Int32.ofNat d)), (.int (Int32.ofNat f)), (.ref b16)])) rfl (by rw [hml]; rfl) (argsL := [(.ref b16), (.int (Int32.ofNat f)), (.int (Int32.ofNat d)), (.int (4 : Int32))]) (rest := []) (lenOf pd_3 rfl) rfl (by show 2 * 0 + _ ≤ _; exact Nat.le_of_eq rfl) (hb hby at_178) (fun _ _ => ⟨rfl, e43, (by decide : 1 + 0 ≤ _), (by decide : 7 + 0 ≤ _)⟩)
  dsimp only [Pt.U, Pt.locs, Pt.cells, Pt.slots] at X44 l44 y44 z44 st44 hQ44
  subst y44 z44
  obtain ⟨rfl, Nq44, e44⟩ := hQ44
  have N44 : Fr n0 L44 := by rw [l44]; exact Fr.app N43 Nq44
  refine Got.step st44 ?_
  show Got p e below s _ _ _ _ T44 (mkF m 181 #[.val (.long q0), .second, .val (.long q1), .second, .val (.int p2), .val (.int p3), .val (.ref b16), .val (.int (Int32.ofNat f)), .val (.int (Int32.ofNat d)), .val (.int (num 0 ((bs.drop f).take d))), .val (.int (f3 bs f d (0 : Int32))), .val (.int (f3 bs f d (1 : Int32))), .val (.int (f3 bs f d (2 : Int32))), .val (.int (f3 bs f d (3 : Int32))), .unset, .unset] [(.int (f3 bs f d (4 : Int32)))])
  refine Got.step (T' := T44) (g' := (mkF m 186 #[.val (.long q0), .second, .val (.long q1), .second, .val (.int p2), .val (.int p3), .val (.ref b16), .val (.int (Int32.ofNat f)), .val (.int (Int32.ofNat d)), .val (.int (num 0 ((bs.drop f).take d))), .val (.int (f3 bs f d (0 : Int32))), .val (.int (f3 bs f d (1 : Int32))), .val (.int (f3 bs f d (2 : Int32))), .val (.int (f3 bs f d (3 : Int32))), .val (.int (f3 bs f d (4 : Int32))), .unset] [(.int (-1 : Int32)), (.int (f3 bs f d (0 : Int32)))])) (fun tq kt => ?_) ?_
  · show Steps p.tables e below (T44.setTop (mkF m 181 #[.val (.long q0), .second, .val (.long q1), .second, .val (.int p2), .val (.int p3), .val (.ref b16), .val (.int (Int32.ofNat f)), .val (.int (Int32.ofNat d)), .val (.int (num 0 ((bs.drop f).take d))), .val (.int (f3 bs f d (0 : Int32))), .val (.int (f3 bs f d (1 : Int32))), .val (.int (f3 bs f d (2 : Int32))), .val (.int (f3 bs f d (3 : Int32))), .unset, .unset] [(.int (f3 bs f d (4 : Int32)))])) _
    refine XS.istore X44.here hx rfl (hb hby at_181) rfl (l' := #[.val (.long q0), .second, .val (.long q1), .second, .val (.int p2), .val (.int p3), .val (.ref b16), .val (.int (Int32.ofNat f)), .val (.int (Int32.ofNat d)), .val (.int (num 0 ((bs.drop f).take d))), .val (.int (f3 bs f d (0 : Int32))), .val (.int (f3 bs f d (1 : Int32))), .val (.int (f3 bs f d (2 : Int32))), .val (.int (f3 bs f d (3 : Int32))), .val (.int (f3 bs f d (4 : Int32))), .unset]) rfl ?_
    show Steps p.tables e below (T44.setTop (mkF m 183 #[.val (.long q0), .second, .val (.long q1), .second, .val (.int p2), .val (.int p3), .val (.ref b16), .val (.int (Int32.ofNat f)), .val (.int (Int32.ofNat d)), .val (.int (num 0 ((bs.drop f).take d))), .val (.int (f3 bs f d (0 : Int32))), .val (.int (f3 bs f d (1 : Int32))), .val (.int (f3 bs f d (2 : Int32))), .val (.int (f3 bs f d (3 : Int32))), .val (.int (f3 bs f d (4 : Int32))), .unset] [])) _
    refine XS.iload X44.here hx rfl (hb hby at_183) rfl ?_
    show Steps p.tables e below (T44.setTop (mkF m 185 #[.val (.long q0), .second, .val (.long q1), .second, .val (.int p2), .val (.int p3), .val (.ref b16), .val (.int (Int32.ofNat f)), .val (.int (Int32.ofNat d)), .val (.int (num 0 ((bs.drop f).take d))), .val (.int (f3 bs f d (0 : Int32))), .val (.int (f3 bs f d (1 : Int32))), .val (.int (f3 bs f d (2 : Int32))), .val (.int (f3 bs f d (3 : Int32))), .val (.int (f3 bs f d (4 : Int32))), .unset] [(.int (f3 bs f d (0 : Int32)))])) _
    refine XS.iconst X44.here hx rfl (hb hby at_185) ?_
    exact kt
  have J45 : ∀ (v45_15 : Int32), v45_15 = (if (f3 bs f d (0 : Int32)) = (-1 : Int32) then (-1 : Int32) else (if (f3 bs f d (1 : Int32)) = (-1 : Int32) then (-1 : Int32) else (if (f3 bs f d (2 : Int32)) = (-1 : Int32) then (-1 : Int32) else (if (f3 bs f d (3 : Int32)) = (-1 : Int32) then (-1 : Int32) else (if (f3 bs f d (4 : Int32)) = (-1 : Int32) then (-1 : Int32) else (((((f3 bs f d (0 : Int32)) + (f3 bs f d (1 : Int32))) + (f3 bs f d (2 : Int32))) + (f3 bs f d (3 : Int32))) + (f3 bs f d (4 : Int32)))))))) → Got p e below s (fun _ L => Fr n0 L) room_1.cells room_1.slots (some (.int (1 : Int32))) T44 (mkF m 235 #[.val (.long q0), .second, .val (.long q1), .second, .val (.int p2), .val (.int p3), .val (.ref b16), .val (.int (Int32.ofNat f)), .val (.int (Int32.ofNat d)), .val (.int (num 0 ((bs.drop f).take d))), .val (.int (f3 bs f d (0 : Int32))), .val (.int (f3 bs f d (1 : Int32))), .val (.int (f3 bs f d (2 : Int32))), .val (.int (f3 bs f d (3 : Int32))), .val (.int (f3 bs f d (4 : Int32))), .val (.int v45_15)] []) := by
    intro v45_15 hv45_15
    refine Got.step (T' := T44) (g' := (mkF m 247 #[.val (.long q0), .second, .val (.long q1), .second, .val (.int p2), .val (.int p3), .val (.ref b16), .val (.int (Int32.ofNat f)), .val (.int (Int32.ofNat d)), .val (.int (num 0 ((bs.drop f).take d))), .val (.int (f3 bs f d (0 : Int32))), .val (.int (f3 bs f d (1 : Int32))), .val (.int (f3 bs f d (2 : Int32))), .val (.int (f3 bs f d (3 : Int32))), .val (.int (f3 bs f d (4 : Int32))), .val (.int v45_15)] [(.int (1 : Int32))])) (fun tq kt => ?_) ?_
    · show Steps p.tables e below (T44.setTop (mkF m 235 #[.val (.long q0), .second, .val (.long q1), .second, .val (.int p2), .val (.int p3), .val (.ref b16), .val (.int (Int32.ofNat f)), .val (.int (Int32.ofNat d)), .val (.int (num 0 ((bs.drop f).take d))), .val (.int (f3 bs f d (0 : Int32))), .val (.int (f3 bs f d (1 : Int32))), .val (.int (f3 bs f d (2 : Int32))), .val (.int (f3 bs f d (3 : Int32))), .val (.int (f3 bs f d (4 : Int32))), .val (.int v45_15)] [])) _
      refine XS.iload X44.here hx rfl (hb hby at_235) rfl ?_
      show Steps p.tables e below (T44.setTop (mkF m 237 #[.val (.long q0), .second, .val (.long q1), .second, .val (.int p2), .val (.int p3), .val (.ref b16), .val (.int (Int32.ofNat f)), .val (.int (Int32.ofNat d)), .val (.int (num 0 ((bs.drop f).take d))), .val (.int (f3 bs f d (0 : Int32))), .val (.int (f3 bs f d (1 : Int32))), .val (.int (f3 bs f d (2 : Int32))), .val (.int (f3 bs f d (3 : Int32))), .val (.int (f3 bs f d (4 : Int32))), .val (.int v45_15)] [(.int (num 0 ((bs.drop f).take d)))])) _
      refine XS.iload X44.here hx rfl (hb hby at_237) rfl ?_
      show Steps p.tables e below (T44.setTop (mkF m 239 #[.val (.long q0), .second, .val (.long q1), .second, .val (.int p2), .val (.int p3), .val (.ref b16), .val (.int (Int32.ofNat f)), .val (.int (Int32.ofNat d)), .val (.int (num 0 ((bs.drop f).take d))), .val (.int (f3 bs f d (0 : Int32))), .val (.int (f3 bs f d (1 : Int32))), .val (.int (f3 bs f d (2 : Int32))), .val (.int (f3 bs f d (3 : Int32))), .val (.int (f3 bs f d (4 : Int32))), .val (.int v45_15)] [(.int v45_15), (.int (num 0 ((bs.drop f).take d)))])) _
      refine XS.icmpNo X44.here hx rfl (hb hby at_239) rfl (XT.ii_ne_f (own_fin hf hd hlen hv45_15)) ?_
      show Steps p.tables e below (T44.setTop (mkF m 242 #[.val (.long q0), .second, .val (.long q1), .second, .val (.int p2), .val (.int p3), .val (.ref b16), .val (.int (Int32.ofNat f)), .val (.int (Int32.ofNat d)), .val (.int (num 0 ((bs.drop f).take d))), .val (.int (f3 bs f d (0 : Int32))), .val (.int (f3 bs f d (1 : Int32))), .val (.int (f3 bs f d (2 : Int32))), .val (.int (f3 bs f d (3 : Int32))), .val (.int (f3 bs f d (4 : Int32))), .val (.int v45_15)] [])) _
      refine XS.iconst X44.here hx rfl (hb hby at_242) ?_
      show Steps p.tables e below (T44.setTop (mkF m 243 #[.val (.long q0), .second, .val (.long q1), .second, .val (.int p2), .val (.int p3), .val (.ref b16), .val (.int (Int32.ofNat f)), .val (.int (Int32.ofNat d)), .val (.int (num 0 ((bs.drop f).take d))), .val (.int (f3 bs f d (0 : Int32))), .val (.int (f3 bs f d (1 : Int32))), .val (.int (f3 bs f d (2 : Int32))), .val (.int (f3 bs f d (3 : Int32))), .val (.int (f3 bs f d (4 : Int32))), .val (.int v45_15)] [(.int (1 : Int32))])) _
      refine XS.goto X44.here hx rfl (pc0 := 243) (pc' := 247) rfl (hb hby at_243) (by decide) (by decide) ?_
      exact kt
    exact Got.retN (y := (1 : Int32)) (t := .boolean) X44 hx Bd.returns (by simp) hlk (hb hby at_247) (by decide) N44 (by decide) (by decide)
  by_cases hc46 : ((f3 bs f d (0 : Int32)) = (-1 : Int32))
  · refine Got.step (T' := T44) (g' := (mkF m 235 #[.val (.long q0), .second, .val (.long q1), .second, .val (.int p2), .val (.int p3), .val (.ref b16), .val (.int (Int32.ofNat f)), .val (.int (Int32.ofNat d)), .val (.int (num 0 ((bs.drop f).take d))), .val (.int (f3 bs f d (0 : Int32))), .val (.int (f3 bs f d (1 : Int32))), .val (.int (f3 bs f d (2 : Int32))), .val (.int (f3 bs f d (3 : Int32))), .val (.int (f3 bs f d (4 : Int32))), .val (.int (-1 : Int32))] [])) (fun tq kt => ?_) ?_
    · show Steps p.tables e below (T44.setTop (mkF m 186 #[.val (.long q0), .second, .val (.long q1), .second, .val (.int p2), .val (.int p3), .val (.ref b16), .val (.int (Int32.ofNat f)), .val (.int (Int32.ofNat d)), .val (.int (num 0 ((bs.drop f).take d))), .val (.int (f3 bs f d (0 : Int32))), .val (.int (f3 bs f d (1 : Int32))), .val (.int (f3 bs f d (2 : Int32))), .val (.int (f3 bs f d (3 : Int32))), .val (.int (f3 bs f d (4 : Int32))), .unset] [(.int (-1 : Int32)), (.int (f3 bs f d (0 : Int32)))])) _
      refine XS.icmpYes X44.here hx rfl (pc0 := 186) (pc' := 213) rfl (hb hby at_186) rfl (XT.ii_eq_t hc46) (by decide) (by decide) ?_
      show Steps p.tables e below (T44.setTop (mkF m 213 #[.val (.long q0), .second, .val (.long q1), .second, .val (.int p2), .val (.int p3), .val (.ref b16), .val (.int (Int32.ofNat f)), .val (.int (Int32.ofNat d)), .val (.int (num 0 ((bs.drop f).take d))), .val (.int (f3 bs f d (0 : Int32))), .val (.int (f3 bs f d (1 : Int32))), .val (.int (f3 bs f d (2 : Int32))), .val (.int (f3 bs f d (3 : Int32))), .val (.int (f3 bs f d (4 : Int32))), .unset] [])) _
      refine XS.iconst X44.here hx rfl (hb hby at_213) ?_
      show Steps p.tables e below (T44.setTop (mkF m 214 #[.val (.long q0), .second, .val (.long q1), .second, .val (.int p2), .val (.int p3), .val (.ref b16), .val (.int (Int32.ofNat f)), .val (.int (Int32.ofNat d)), .val (.int (num 0 ((bs.drop f).take d))), .val (.int (f3 bs f d (0 : Int32))), .val (.int (f3 bs f d (1 : Int32))), .val (.int (f3 bs f d (2 : Int32))), .val (.int (f3 bs f d (3 : Int32))), .val (.int (f3 bs f d (4 : Int32))), .unset] [(.int (-1 : Int32))])) _
      refine XS.istore X44.here hx rfl (hb hby at_214) rfl (l' := #[.val (.long q0), .second, .val (.long q1), .second, .val (.int p2), .val (.int p3), .val (.ref b16), .val (.int (Int32.ofNat f)), .val (.int (Int32.ofNat d)), .val (.int (num 0 ((bs.drop f).take d))), .val (.int (f3 bs f d (0 : Int32))), .val (.int (f3 bs f d (1 : Int32))), .val (.int (f3 bs f d (2 : Int32))), .val (.int (f3 bs f d (3 : Int32))), .val (.int (f3 bs f d (4 : Int32))), .val (.int (-1 : Int32))]) rfl ?_
      show Steps p.tables e below (T44.setTop (mkF m 216 #[.val (.long q0), .second, .val (.long q1), .second, .val (.int p2), .val (.int p3), .val (.ref b16), .val (.int (Int32.ofNat f)), .val (.int (Int32.ofNat d)), .val (.int (num 0 ((bs.drop f).take d))), .val (.int (f3 bs f d (0 : Int32))), .val (.int (f3 bs f d (1 : Int32))), .val (.int (f3 bs f d (2 : Int32))), .val (.int (f3 bs f d (3 : Int32))), .val (.int (f3 bs f d (4 : Int32))), .val (.int (-1 : Int32))] [])) _
      refine XS.goto X44.here hx rfl (pc0 := 216) (pc' := 235) rfl (hb hby at_216) (by decide) (by decide) ?_
      exact kt
    exact J45 (-1 : Int32) (if_pos hc46).symm
  · refine Got.step (T' := T44) (g' := (mkF m 192 #[.val (.long q0), .second, .val (.long q1), .second, .val (.int p2), .val (.int p3), .val (.ref b16), .val (.int (Int32.ofNat f)), .val (.int (Int32.ofNat d)), .val (.int (num 0 ((bs.drop f).take d))), .val (.int (f3 bs f d (0 : Int32))), .val (.int (f3 bs f d (1 : Int32))), .val (.int (f3 bs f d (2 : Int32))), .val (.int (f3 bs f d (3 : Int32))), .val (.int (f3 bs f d (4 : Int32))), .unset] [(.int (-1 : Int32)), (.int (f3 bs f d (1 : Int32)))])) (fun tq kt => ?_) ?_
    · show Steps p.tables e below (T44.setTop (mkF m 186 #[.val (.long q0), .second, .val (.long q1), .second, .val (.int p2), .val (.int p3), .val (.ref b16), .val (.int (Int32.ofNat f)), .val (.int (Int32.ofNat d)), .val (.int (num 0 ((bs.drop f).take d))), .val (.int (f3 bs f d (0 : Int32))), .val (.int (f3 bs f d (1 : Int32))), .val (.int (f3 bs f d (2 : Int32))), .val (.int (f3 bs f d (3 : Int32))), .val (.int (f3 bs f d (4 : Int32))), .unset] [(.int (-1 : Int32)), (.int (f3 bs f d (0 : Int32)))])) _
      refine XS.icmpNo X44.here hx rfl (hb hby at_186) rfl (XT.ii_eq_f hc46) ?_
      show Steps p.tables e below (T44.setTop (mkF m 189 #[.val (.long q0), .second, .val (.long q1), .second, .val (.int p2), .val (.int p3), .val (.ref b16), .val (.int (Int32.ofNat f)), .val (.int (Int32.ofNat d)), .val (.int (num 0 ((bs.drop f).take d))), .val (.int (f3 bs f d (0 : Int32))), .val (.int (f3 bs f d (1 : Int32))), .val (.int (f3 bs f d (2 : Int32))), .val (.int (f3 bs f d (3 : Int32))), .val (.int (f3 bs f d (4 : Int32))), .unset] [])) _
      refine XS.iload X44.here hx rfl (hb hby at_189) rfl ?_
      show Steps p.tables e below (T44.setTop (mkF m 191 #[.val (.long q0), .second, .val (.long q1), .second, .val (.int p2), .val (.int p3), .val (.ref b16), .val (.int (Int32.ofNat f)), .val (.int (Int32.ofNat d)), .val (.int (num 0 ((bs.drop f).take d))), .val (.int (f3 bs f d (0 : Int32))), .val (.int (f3 bs f d (1 : Int32))), .val (.int (f3 bs f d (2 : Int32))), .val (.int (f3 bs f d (3 : Int32))), .val (.int (f3 bs f d (4 : Int32))), .unset] [(.int (f3 bs f d (1 : Int32)))])) _
      refine XS.iconst X44.here hx rfl (hb hby at_191) ?_
      exact kt
    by_cases hc47 : ((f3 bs f d (1 : Int32)) = (-1 : Int32))
    · refine Got.step (T' := T44) (g' := (mkF m 235 #[.val (.long q0), .second, .val (.long q1), .second, .val (.int p2), .val (.int p3), .val (.ref b16), .val (.int (Int32.ofNat f)), .val (.int (Int32.ofNat d)), .val (.int (num 0 ((bs.drop f).take d))), .val (.int (f3 bs f d (0 : Int32))), .val (.int (f3 bs f d (1 : Int32))), .val (.int (f3 bs f d (2 : Int32))), .val (.int (f3 bs f d (3 : Int32))), .val (.int (f3 bs f d (4 : Int32))), .val (.int (-1 : Int32))] [])) (fun tq kt => ?_) ?_
      · show Steps p.tables e below (T44.setTop (mkF m 192 #[.val (.long q0), .second, .val (.long q1), .second, .val (.int p2), .val (.int p3), .val (.ref b16), .val (.int (Int32.ofNat f)), .val (.int (Int32.ofNat d)), .val (.int (num 0 ((bs.drop f).take d))), .val (.int (f3 bs f d (0 : Int32))), .val (.int (f3 bs f d (1 : Int32))), .val (.int (f3 bs f d (2 : Int32))), .val (.int (f3 bs f d (3 : Int32))), .val (.int (f3 bs f d (4 : Int32))), .unset] [(.int (-1 : Int32)), (.int (f3 bs f d (1 : Int32)))])) _
        refine XS.icmpYes X44.here hx rfl (pc0 := 192) (pc' := 213) rfl (hb hby at_192) rfl (XT.ii_eq_t hc47) (by decide) (by decide) ?_
        show Steps p.tables e below (T44.setTop (mkF m 213 #[.val (.long q0), .second, .val (.long q1), .second, .val (.int p2), .val (.int p3), .val (.ref b16), .val (.int (Int32.ofNat f)), .val (.int (Int32.ofNat d)), .val (.int (num 0 ((bs.drop f).take d))), .val (.int (f3 bs f d (0 : Int32))), .val (.int (f3 bs f d (1 : Int32))), .val (.int (f3 bs f d (2 : Int32))), .val (.int (f3 bs f d (3 : Int32))), .val (.int (f3 bs f d (4 : Int32))), .unset] [])) _
        refine XS.iconst X44.here hx rfl (hb hby at_213) ?_
        show Steps p.tables e below (T44.setTop (mkF m 214 #[.val (.long q0), .second, .val (.long q1), .second, .val (.int p2), .val (.int p3), .val (.ref b16), .val (.int (Int32.ofNat f)), .val (.int (Int32.ofNat d)), .val (.int (num 0 ((bs.drop f).take d))), .val (.int (f3 bs f d (0 : Int32))), .val (.int (f3 bs f d (1 : Int32))), .val (.int (f3 bs f d (2 : Int32))), .val (.int (f3 bs f d (3 : Int32))), .val (.int (f3 bs f d (4 : Int32))), .unset] [(.int (-1 : Int32))])) _
        refine XS.istore X44.here hx rfl (hb hby at_214) rfl (l' := #[.val (.long q0), .second, .val (.long q1), .second, .val (.int p2), .val (.int p3), .val (.ref b16), .val (.int (Int32.ofNat f)), .val (.int (Int32.ofNat d)), .val (.int (num 0 ((bs.drop f).take d))), .val (.int (f3 bs f d (0 : Int32))), .val (.int (f3 bs f d (1 : Int32))), .val (.int (f3 bs f d (2 : Int32))), .val (.int (f3 bs f d (3 : Int32))), .val (.int (f3 bs f d (4 : Int32))), .val (.int (-1 : Int32))]) rfl ?_
        show Steps p.tables e below (T44.setTop (mkF m 216 #[.val (.long q0), .second, .val (.long q1), .second, .val (.int p2), .val (.int p3), .val (.ref b16), .val (.int (Int32.ofNat f)), .val (.int (Int32.ofNat d)), .val (.int (num 0 ((bs.drop f).take d))), .val (.int (f3 bs f d (0 : Int32))), .val (.int (f3 bs f d (1 : Int32))), .val (.int (f3 bs f d (2 : Int32))), .val (.int (f3 bs f d (3 : Int32))), .val (.int (f3 bs f d (4 : Int32))), .val (.int (-1 : Int32))] [])) _
        refine XS.goto X44.here hx rfl (pc0 := 216) (pc' := 235) rfl (hb hby at_216) (by decide) (by decide) ?_
        exact kt
      exact J45 (-1 : Int32) ((if_neg hc46).trans (if_pos hc47)).symm
    · refine Got.step (T' := T44) (g' := (mkF m 198 #[.val (.long q0), .second, .val (.long q1), .second, .val (.int p2), .val (.int p3), .val (.ref b16), .val (.int (Int32.ofNat f)), .val (.int (Int32.ofNat d)), .val (.int (num 0 ((bs.drop f).take d))), .val (.int (f3 bs f d (0 : Int32))), .val (.int (f3 bs f d (1 : Int32))), .val (.int (f3 bs f d (2 : Int32))), .val (.int (f3 bs f d (3 : Int32))), .val (.int (f3 bs f d (4 : Int32))), .unset] [(.int (-1 : Int32)), (.int (f3 bs f d (2 : Int32)))])) (fun tq kt => ?_) ?_
      · show Steps p.tables e below (T44.setTop (mkF m 192 #[.val (.long q0), .second, .val (.long q1), .second, .val (.int p2), .val (.int p3), .val (.ref b16), .val (.int (Int32.ofNat f)), .val (.int (Int32.ofNat d)), .val (.int (num 0 ((bs.drop f).take d))), .val (.int (f3 bs f d (0 : Int32))), .val (.int (f3 bs f d (1 : Int32))), .val (.int (f3 bs f d (2 : Int32))), .val (.int (f3 bs f d (3 : Int32))), .val (.int (f3 bs f d (4 : Int32))), .unset] [(.int (-1 : Int32)), (.int (f3 bs f d (1 : Int32)))])) _
        refine XS.icmpNo X44.here hx rfl (hb hby at_192) rfl (XT.ii_eq_f hc47) ?_
        show Steps p.tables e below (T44.setTop (mkF m 195 #[.val (.long q0), .second, .val (.long q1), .second, .val (.int p2), .val (.int p3), .val (.ref b16), .val (.int (Int32.ofNat f)), .val (.int (Int32.ofNat d)), .val (.int (num 0 ((bs.drop f).take d))), .val (.int (f3 bs f d (0 : Int32))), .val (.int (f3 bs f d (1 : Int32))), .val (.int (f3 bs f d (2 : Int32))), .val (.int (f3 bs f d (3 : Int32))), .val (.int (f3 bs f d (4 : Int32))), .unset] [])) _
        refine XS.iload X44.here hx rfl (hb hby at_195) rfl ?_
        show Steps p.tables e below (T44.setTop (mkF m 197 #[.val (.long q0), .second, .val (.long q1), .second, .val (.int p2), .val (.int p3), .val (.ref b16), .val (.int (Int32.ofNat f)), .val (.int (Int32.ofNat d)), .val (.int (num 0 ((bs.drop f).take d))), .val (.int (f3 bs f d (0 : Int32))), .val (.int (f3 bs f d (1 : Int32))), .val (.int (f3 bs f d (2 : Int32))), .val (.int (f3 bs f d (3 : Int32))), .val (.int (f3 bs f d (4 : Int32))), .unset] [(.int (f3 bs f d (2 : Int32)))])) _
        refine XS.iconst X44.here hx rfl (hb hby at_197) ?_
        exact kt
      by_cases hc48 : ((f3 bs f d (2 : Int32)) = (-1 : Int32))
      · refine Got.step (T' := T44) (g' := (mkF m 235 #[.val (.long q0), .second, .val (.long q1), .second, .val (.int p2), .val (.int p3), .val (.ref b16), .val (.int (Int32.ofNat f)), .val (.int (Int32.ofNat d)), .val (.int (num 0 ((bs.drop f).take d))), .val (.int (f3 bs f d (0 : Int32))), .val (.int (f3 bs f d (1 : Int32))), .val (.int (f3 bs f d (2 : Int32))), .val (.int (f3 bs f d (3 : Int32))), .val (.int (f3 bs f d (4 : Int32))), .val (.int (-1 : Int32))] [])) (fun tq kt => ?_) ?_
        · show Steps p.tables e below (T44.setTop (mkF m 198 #[.val (.long q0), .second, .val (.long q1), .second, .val (.int p2), .val (.int p3), .val (.ref b16), .val (.int (Int32.ofNat f)), .val (.int (Int32.ofNat d)), .val (.int (num 0 ((bs.drop f).take d))), .val (.int (f3 bs f d (0 : Int32))), .val (.int (f3 bs f d (1 : Int32))), .val (.int (f3 bs f d (2 : Int32))), .val (.int (f3 bs f d (3 : Int32))), .val (.int (f3 bs f d (4 : Int32))), .unset] [(.int (-1 : Int32)), (.int (f3 bs f d (2 : Int32)))])) _
          refine XS.icmpYes X44.here hx rfl (pc0 := 198) (pc' := 213) rfl (hb hby at_198) rfl (XT.ii_eq_t hc48) (by decide) (by decide) ?_
          show Steps p.tables e below (T44.setTop (mkF m 213 #[.val (.long q0), .second, .val (.long q1), .second, .val (.int p2), .val (.int p3), .val (.ref b16), .val (.int (Int32.ofNat f)), .val (.int (Int32.ofNat d)), .val (.int (num 0 ((bs.drop f).take d))), .val (.int (f3 bs f d (0 : Int32))), .val (.int (f3 bs f d (1 : Int32))), .val (.int (f3 bs f d (2 : Int32))), .val (.int (f3 bs f d (3 : Int32))), .val (.int (f3 bs f d (4 : Int32))), .unset] [])) _
          refine XS.iconst X44.here hx rfl (hb hby at_213) ?_
          show Steps p.tables e below (T44.setTop (mkF m 214 #[.val (.long q0), .second, .val (.long q1), .second, .val (.int p2), .val (.int p3), .val (.ref b16), .val (.int (Int32.ofNat f)), .val (.int (Int32.ofNat d)), .val (.int (num 0 ((bs.drop f).take d))), .val (.int (f3 bs f d (0 : Int32))), .val (.int (f3 bs f d (1 : Int32))), .val (.int (f3 bs f d (2 : Int32))), .val (.int (f3 bs f d (3 : Int32))), .val (.int (f3 bs f d (4 : Int32))), .unset] [(.int (-1 : Int32))])) _
          refine XS.istore X44.here hx rfl (hb hby at_214) rfl (l' := #[.val (.long q0), .second, .val (.long q1), .second, .val (.int p2), .val (.int p3), .val (.ref b16), .val (.int (Int32.ofNat f)), .val (.int (Int32.ofNat d)), .val (.int (num 0 ((bs.drop f).take d))), .val (.int (f3 bs f d (0 : Int32))), .val (.int (f3 bs f d (1 : Int32))), .val (.int (f3 bs f d (2 : Int32))), .val (.int (f3 bs f d (3 : Int32))), .val (.int (f3 bs f d (4 : Int32))), .val (.int (-1 : Int32))]) rfl ?_
          show Steps p.tables e below (T44.setTop (mkF m 216 #[.val (.long q0), .second, .val (.long q1), .second, .val (.int p2), .val (.int p3), .val (.ref b16), .val (.int (Int32.ofNat f)), .val (.int (Int32.ofNat d)), .val (.int (num 0 ((bs.drop f).take d))), .val (.int (f3 bs f d (0 : Int32))), .val (.int (f3 bs f d (1 : Int32))), .val (.int (f3 bs f d (2 : Int32))), .val (.int (f3 bs f d (3 : Int32))), .val (.int (f3 bs f d (4 : Int32))), .val (.int (-1 : Int32))] [])) _
          refine XS.goto X44.here hx rfl (pc0 := 216) (pc' := 235) rfl (hb hby at_216) (by decide) (by decide) ?_
          exact kt
        exact J45 (-1 : Int32) ((if_neg hc46).trans ((if_neg hc47).trans (if_pos hc48))).symm
      · refine Got.step (T' := T44) (g' := (mkF m 204 #[.val (.long q0), .second, .val (.long q1), .second, .val (.int p2), .val (.int p3), .val (.ref b16), .val (.int (Int32.ofNat f)), .val (.int (Int32.ofNat d)), .val (.int (num 0 ((bs.drop f).take d))), .val (.int (f3 bs f d (0 : Int32))), .val (.int (f3 bs f d (1 : Int32))), .val (.int (f3 bs f d (2 : Int32))), .val (.int (f3 bs f d (3 : Int32))), .val (.int (f3 bs f d (4 : Int32))), .unset] [(.int (-1 : Int32)), (.int (f3 bs f d (3 : Int32)))])) (fun tq kt => ?_) ?_
        · show Steps p.tables e below (T44.setTop (mkF m 198 #[.val (.long q0), .second, .val (.long q1), .second, .val (.int p2), .val (.int p3), .val (.ref b16), .val (.int (Int32.ofNat f)), .val (.int (Int32.ofNat d)), .val (.int (num 0 ((bs.drop f).take d))), .val (.int (f3 bs f d (0 : Int32))), .val (.int (f3 bs f d (1 : Int32))), .val (.int (f3 bs f d (2 : Int32))), .val (.int (f3 bs f d (3 : Int32))), .val (.int (f3 bs f d (4 : Int32))), .unset] [(.int (-1 : Int32)), (.int (f3 bs f d (2 : Int32)))])) _
          refine XS.icmpNo X44.here hx rfl (hb hby at_198) rfl (XT.ii_eq_f hc48) ?_
          show Steps p.tables e below (T44.setTop (mkF m 201 #[.val (.long q0), .second, .val (.long q1), .second, .val (.int p2), .val (.int p3), .val (.ref b16), .val (.int (Int32.ofNat f)), .val (.int (Int32.ofNat d)), .val (.int (num 0 ((bs.drop f).take d))), .val (.int (f3 bs f d (0 : Int32))), .val (.int (f3 bs f d (1 : Int32))), .val (.int (f3 bs f d (2 : Int32))), .val (.int (f3 bs f d (3 : Int32))), .val (.int (f3 bs f d (4 : Int32))), .unset] [])) _
          refine XS.iload X44.here hx rfl (hb hby at_201) rfl ?_
          show Steps p.tables e below (T44.setTop (mkF m 203 #[.val (.long q0), .second, .val (.long q1), .second, .val (.int p2), .val (.int p3), .val (.ref b16), .val (.int (Int32.ofNat f)), .val (.int (Int32.ofNat d)), .val (.int (num 0 ((bs.drop f).take d))), .val (.int (f3 bs f d (0 : Int32))), .val (.int (f3 bs f d (1 : Int32))), .val (.int (f3 bs f d (2 : Int32))), .val (.int (f3 bs f d (3 : Int32))), .val (.int (f3 bs f d (4 : Int32))), .unset] [(.int (f3 bs f d (3 : Int32)))])) _
          refine XS.iconst X44.here hx rfl (hb hby at_203) ?_
          exact kt
        by_cases hc49 : ((f3 bs f d (3 : Int32)) = (-1 : Int32))
        · refine Got.step (T' := T44) (g' := (mkF m 235 #[.val (.long q0), .second, .val (.long q1), .second, .val (.int p2), .val (.int p3), .val (.ref b16), .val (.int (Int32.ofNat f)), .val (.int (Int32.ofNat d)), .val (.int (num 0 ((bs.drop f).take d))), .val (.int (f3 bs f d (0 : Int32))), .val (.int (f3 bs f d (1 : Int32))), .val (.int (f3 bs f d (2 : Int32))), .val (.int (f3 bs f d (3 : Int32))), .val (.int (f3 bs f d (4 : Int32))), .val (.int (-1 : Int32))] [])) (fun tq kt => ?_) ?_
          · show Steps p.tables e below (T44.setTop (mkF m 204 #[.val (.long q0), .second, .val (.long q1), .second, .val (.int p2), .val (.int p3), .val (.ref b16), .val (.int (Int32.ofNat f)), .val (.int (Int32.ofNat d)), .val (.int (num 0 ((bs.drop f).take d))), .val (.int (f3 bs f d (0 : Int32))), .val (.int (f3 bs f d (1 : Int32))), .val (.int (f3 bs f d (2 : Int32))), .val (.int (f3 bs f d (3 : Int32))), .val (.int (f3 bs f d (4 : Int32))), .unset] [(.int (-1 : Int32)), (.int (f3 bs f d (3 : Int32)))])) _
            refine XS.icmpYes X44.here hx rfl (pc0 := 204) (pc' := 213) rfl (hb hby at_204) rfl (XT.ii_eq_t hc49) (by decide) (by decide) ?_
            show Steps p.tables e below (T44.setTop (mkF m 213 #[.val (.long q0), .second, .val (.long q1), .second, .val (.int p2), .val (.int p3), .val (.ref b16), .val (.int (Int32.ofNat f)), .val (.int (Int32.ofNat d)), .val (.int (num 0 ((bs.drop f).take d))), .val (.int (f3 bs f d (0 : Int32))), .val (.int (f3 bs f d (1 : Int32))), .val (.int (f3 bs f d (2 : Int32))), .val (.int (f3 bs f d (3 : Int32))), .val (.int (f3 bs f d (4 : Int32))), .unset] [])) _
            refine XS.iconst X44.here hx rfl (hb hby at_213) ?_
            show Steps p.tables e below (T44.setTop (mkF m 214 #[.val (.long q0), .second, .val (.long q1), .second, .val (.int p2), .val (.int p3), .val (.ref b16), .val (.int (Int32.ofNat f)), .val (.int (Int32.ofNat d)), .val (.int (num 0 ((bs.drop f).take d))), .val (.int (f3 bs f d (0 : Int32))), .val (.int (f3 bs f d (1 : Int32))), .val (.int (f3 bs f d (2 : Int32))), .val (.int (f3 bs f d (3 : Int32))), .val (.int (f3 bs f d (4 : Int32))), .unset] [(.int (-1 : Int32))])) _
            refine XS.istore X44.here hx rfl (hb hby at_214) rfl (l' := #[.val (.long q0), .second, .val (.long q1), .second, .val (.int p2), .val (.int p3), .val (.ref b16), .val (.int (Int32.ofNat f)), .val (.int (Int32.ofNat d)), .val (.int (num 0 ((bs.drop f).take d))), .val (.int (f3 bs f d (0 : Int32))), .val (.int (f3 bs f d (1 : Int32))), .val (.int (f3 bs f d (2 : Int32))), .val (.int (f3 bs f d (3 : Int32))), .val (.int (f3 bs f d (4 : Int32))), .val (.int (-1 : Int32))]) rfl ?_
            show Steps p.tables e below (T44.setTop (mkF m 216 #[.val (.long q0), .second, .val (.long q1), .second, .val (.int p2), .val (.int p3), .val (.ref b16), .val (.int (Int32.ofNat f)), .val (.int (Int32.ofNat d)), .val (.int (num 0 ((bs.drop f).take d))), .val (.int (f3 bs f d (0 : Int32))), .val (.int (f3 bs f d (1 : Int32))), .val (.int (f3 bs f d (2 : Int32))), .val (.int (f3 bs f d (3 : Int32))), .val (.int (f3 bs f d (4 : Int32))), .val (.int (-1 : Int32))] [])) _
            refine XS.goto X44.here hx rfl (pc0 := 216) (pc' := 235) rfl (hb hby at_216) (by decide) (by decide) ?_
            exact kt
          exact J45 (-1 : Int32) ((if_neg hc46).trans ((if_neg hc47).trans ((if_neg hc48).trans (if_pos hc49)))).symm
        · refine Got.step (T' := T44) (g' := (mkF m 210 #[.val (.long q0), .second, .val (.long q1), .second, .val (.int p2), .val (.int p3), .val (.ref b16), .val (.int (Int32.ofNat f)), .val (.int (Int32.ofNat d)), .val (.int (num 0 ((bs.drop f).take d))), .val (.int (f3 bs f d (0 : Int32))), .val (.int (f3 bs f d (1 : Int32))), .val (.int (f3 bs f d (2 : Int32))), .val (.int (f3 bs f d (3 : Int32))), .val (.int (f3 bs f d (4 : Int32))), .unset] [(.int (-1 : Int32)), (.int (f3 bs f d (4 : Int32)))])) (fun tq kt => ?_) ?_
          · show Steps p.tables e below (T44.setTop (mkF m 204 #[.val (.long q0), .second, .val (.long q1), .second, .val (.int p2), .val (.int p3), .val (.ref b16), .val (.int (Int32.ofNat f)), .val (.int (Int32.ofNat d)), .val (.int (num 0 ((bs.drop f).take d))), .val (.int (f3 bs f d (0 : Int32))), .val (.int (f3 bs f d (1 : Int32))), .val (.int (f3 bs f d (2 : Int32))), .val (.int (f3 bs f d (3 : Int32))), .val (.int (f3 bs f d (4 : Int32))), .unset] [(.int (-1 : Int32)), (.int (f3 bs f d (3 : Int32)))])) _
            refine XS.icmpNo X44.here hx rfl (hb hby at_204) rfl (XT.ii_eq_f hc49) ?_
            show Steps p.tables e below (T44.setTop (mkF m 207 #[.val (.long q0), .second, .val (.long q1), .second, .val (.int p2), .val (.int p3), .val (.ref b16), .val (.int (Int32.ofNat f)), .val (.int (Int32.ofNat d)), .val (.int (num 0 ((bs.drop f).take d))), .val (.int (f3 bs f d (0 : Int32))), .val (.int (f3 bs f d (1 : Int32))), .val (.int (f3 bs f d (2 : Int32))), .val (.int (f3 bs f d (3 : Int32))), .val (.int (f3 bs f d (4 : Int32))), .unset] [])) _
            refine XS.iload X44.here hx rfl (hb hby at_207) rfl ?_
            show Steps p.tables e below (T44.setTop (mkF m 209 #[.val (.long q0), .second, .val (.long q1), .second, .val (.int p2), .val (.int p3), .val (.ref b16), .val (.int (Int32.ofNat f)), .val (.int (Int32.ofNat d)), .val (.int (num 0 ((bs.drop f).take d))), .val (.int (f3 bs f d (0 : Int32))), .val (.int (f3 bs f d (1 : Int32))), .val (.int (f3 bs f d (2 : Int32))), .val (.int (f3 bs f d (3 : Int32))), .val (.int (f3 bs f d (4 : Int32))), .unset] [(.int (f3 bs f d (4 : Int32)))])) _
            refine XS.iconst X44.here hx rfl (hb hby at_209) ?_
            exact kt
          by_cases hc50 : ((f3 bs f d (4 : Int32)) = (-1 : Int32))
          · refine Got.step (T' := T44) (g' := (mkF m 235 #[.val (.long q0), .second, .val (.long q1), .second, .val (.int p2), .val (.int p3), .val (.ref b16), .val (.int (Int32.ofNat f)), .val (.int (Int32.ofNat d)), .val (.int (num 0 ((bs.drop f).take d))), .val (.int (f3 bs f d (0 : Int32))), .val (.int (f3 bs f d (1 : Int32))), .val (.int (f3 bs f d (2 : Int32))), .val (.int (f3 bs f d (3 : Int32))), .val (.int (f3 bs f d (4 : Int32))), .val (.int (-1 : Int32))] [])) (fun tq kt => ?_) ?_
            · show Steps p.tables e below (T44.setTop (mkF m 210 #[.val (.long q0), .second, .val (.long q1), .second, .val (.int p2), .val (.int p3), .val (.ref b16), .val (.int (Int32.ofNat f)), .val (.int (Int32.ofNat d)), .val (.int (num 0 ((bs.drop f).take d))), .val (.int (f3 bs f d (0 : Int32))), .val (.int (f3 bs f d (1 : Int32))), .val (.int (f3 bs f d (2 : Int32))), .val (.int (f3 bs f d (3 : Int32))), .val (.int (f3 bs f d (4 : Int32))), .unset] [(.int (-1 : Int32)), (.int (f3 bs f d (4 : Int32)))])) _
              refine XS.icmpNo X44.here hx rfl (hb hby at_210) rfl (XT.ii_ne_f hc50) ?_
              show Steps p.tables e below (T44.setTop (mkF m 213 #[.val (.long q0), .second, .val (.long q1), .second, .val (.int p2), .val (.int p3), .val (.ref b16), .val (.int (Int32.ofNat f)), .val (.int (Int32.ofNat d)), .val (.int (num 0 ((bs.drop f).take d))), .val (.int (f3 bs f d (0 : Int32))), .val (.int (f3 bs f d (1 : Int32))), .val (.int (f3 bs f d (2 : Int32))), .val (.int (f3 bs f d (3 : Int32))), .val (.int (f3 bs f d (4 : Int32))), .unset] [])) _
              refine XS.iconst X44.here hx rfl (hb hby at_213) ?_
              show Steps p.tables e below (T44.setTop (mkF m 214 #[.val (.long q0), .second, .val (.long q1), .second, .val (.int p2), .val (.int p3), .val (.ref b16), .val (.int (Int32.ofNat f)), .val (.int (Int32.ofNat d)), .val (.int (num 0 ((bs.drop f).take d))), .val (.int (f3 bs f d (0 : Int32))), .val (.int (f3 bs f d (1 : Int32))), .val (.int (f3 bs f d (2 : Int32))), .val (.int (f3 bs f d (3 : Int32))), .val (.int (f3 bs f d (4 : Int32))), .unset] [(.int (-1 : Int32))])) _
              refine XS.istore X44.here hx rfl (hb hby at_214) rfl (l' := #[.val (.long q0), .second, .val (.long q1), .second, .val (.int p2), .val (.int p3), .val (.ref b16), .val (.int (Int32.ofNat f)), .val (.int (Int32.ofNat d)), .val (.int (num 0 ((bs.drop f).take d))), .val (.int (f3 bs f d (0 : Int32))), .val (.int (f3 bs f d (1 : Int32))), .val (.int (f3 bs f d (2 : Int32))), .val (.int (f3 bs f d (3 : Int32))), .val (.int (f3 bs f d (4 : Int32))), .val (.int (-1 : Int32))]) rfl ?_
              show Steps p.tables e below (T44.setTop (mkF m 216 #[.val (.long q0), .second, .val (.long q1), .second, .val (.int p2), .val (.int p3), .val (.ref b16), .val (.int (Int32.ofNat f)), .val (.int (Int32.ofNat d)), .val (.int (num 0 ((bs.drop f).take d))), .val (.int (f3 bs f d (0 : Int32))), .val (.int (f3 bs f d (1 : Int32))), .val (.int (f3 bs f d (2 : Int32))), .val (.int (f3 bs f d (3 : Int32))), .val (.int (f3 bs f d (4 : Int32))), .val (.int (-1 : Int32))] [])) _
              refine XS.goto X44.here hx rfl (pc0 := 216) (pc' := 235) rfl (hb hby at_216) (by decide) (by decide) ?_
              exact kt
            exact J45 (-1 : Int32) ((if_neg hc46).trans ((if_neg hc47).trans ((if_neg hc48).trans ((if_neg hc49).trans (if_pos hc50))))).symm
          · refine Got.step (T' := T44) (g' := (mkF m 235 #[.val (.long q0), .second, .val (.long q1), .second, .val (.int p2), .val (.int p3), .val (.ref b16), .val (.int (Int32.ofNat f)), .val (.int (Int32.ofNat d)), .val (.int (num 0 ((bs.drop f).take d))), .val (.int (f3 bs f d (0 : Int32))), .val (.int (f3 bs f d (1 : Int32))), .val (.int (f3 bs f d (2 : Int32))), .val (.int (f3 bs f d (3 : Int32))), .val (.int (f3 bs f d (4 : Int32))), .val (.int (((((f3 bs f d (0 : Int32)) + (f3 bs f d (1 : Int32))) + (f3 bs f d (2 : Int32))) + (f3 bs f d (3 : Int32))) + (f3 bs f d (4 : Int32))))] [])) (fun tq kt => ?_) ?_
            · show Steps p.tables e below (T44.setTop (mkF m 210 #[.val (.long q0), .second, .val (.long q1), .second, .val (.int p2), .val (.int p3), .val (.ref b16), .val (.int (Int32.ofNat f)), .val (.int (Int32.ofNat d)), .val (.int (num 0 ((bs.drop f).take d))), .val (.int (f3 bs f d (0 : Int32))), .val (.int (f3 bs f d (1 : Int32))), .val (.int (f3 bs f d (2 : Int32))), .val (.int (f3 bs f d (3 : Int32))), .val (.int (f3 bs f d (4 : Int32))), .unset] [(.int (-1 : Int32)), (.int (f3 bs f d (4 : Int32)))])) _
              refine XS.icmpYes X44.here hx rfl (pc0 := 210) (pc' := 219) rfl (hb hby at_210) rfl (XT.ii_ne_t hc50) (by decide) (by decide) ?_
              show Steps p.tables e below (T44.setTop (mkF m 219 #[.val (.long q0), .second, .val (.long q1), .second, .val (.int p2), .val (.int p3), .val (.ref b16), .val (.int (Int32.ofNat f)), .val (.int (Int32.ofNat d)), .val (.int (num 0 ((bs.drop f).take d))), .val (.int (f3 bs f d (0 : Int32))), .val (.int (f3 bs f d (1 : Int32))), .val (.int (f3 bs f d (2 : Int32))), .val (.int (f3 bs f d (3 : Int32))), .val (.int (f3 bs f d (4 : Int32))), .unset] [])) _
              refine XS.iload X44.here hx rfl (hb hby at_219) rfl ?_
              show Steps p.tables e below (T44.setTop (mkF m 221 #[.val (.long q0), .second, .val (.long q1), .second, .val (.int p2), .val (.int p3), .val (.ref b16), .val (.int (Int32.ofNat f)), .val (.int (Int32.ofNat d)), .val (.int (num 0 ((bs.drop f).take d))), .val (.int (f3 bs f d (0 : Int32))), .val (.int (f3 bs f d (1 : Int32))), .val (.int (f3 bs f d (2 : Int32))), .val (.int (f3 bs f d (3 : Int32))), .val (.int (f3 bs f d (4 : Int32))), .unset] [(.int (f3 bs f d (0 : Int32)))])) _
              refine XS.iload X44.here hx rfl (hb hby at_221) rfl ?_
              show Steps p.tables e below (T44.setTop (mkF m 223 #[.val (.long q0), .second, .val (.long q1), .second, .val (.int p2), .val (.int p3), .val (.ref b16), .val (.int (Int32.ofNat f)), .val (.int (Int32.ofNat d)), .val (.int (num 0 ((bs.drop f).take d))), .val (.int (f3 bs f d (0 : Int32))), .val (.int (f3 bs f d (1 : Int32))), .val (.int (f3 bs f d (2 : Int32))), .val (.int (f3 bs f d (3 : Int32))), .val (.int (f3 bs f d (4 : Int32))), .unset] [(.int (f3 bs f d (1 : Int32))), (.int (f3 bs f d (0 : Int32)))])) _
              refine XS.iadd X44.here hx rfl (hb hby at_223) rfl ?_
              show Steps p.tables e below (T44.setTop (mkF m 224 #[.val (.long q0), .second, .val (.long q1), .second, .val (.int p2), .val (.int p3), .val (.ref b16), .val (.int (Int32.ofNat f)), .val (.int (Int32.ofNat d)), .val (.int (num 0 ((bs.drop f).take d))), .val (.int (f3 bs f d (0 : Int32))), .val (.int (f3 bs f d (1 : Int32))), .val (.int (f3 bs f d (2 : Int32))), .val (.int (f3 bs f d (3 : Int32))), .val (.int (f3 bs f d (4 : Int32))), .unset] [(.int ((f3 bs f d (0 : Int32)) + (f3 bs f d (1 : Int32))))])) _
              refine XS.iload X44.here hx rfl (hb hby at_224) rfl ?_
              show Steps p.tables e below (T44.setTop (mkF m 226 #[.val (.long q0), .second, .val (.long q1), .second, .val (.int p2), .val (.int p3), .val (.ref b16), .val (.int (Int32.ofNat f)), .val (.int (Int32.ofNat d)), .val (.int (num 0 ((bs.drop f).take d))), .val (.int (f3 bs f d (0 : Int32))), .val (.int (f3 bs f d (1 : Int32))), .val (.int (f3 bs f d (2 : Int32))), .val (.int (f3 bs f d (3 : Int32))), .val (.int (f3 bs f d (4 : Int32))), .unset] [(.int (f3 bs f d (2 : Int32))), (.int ((f3 bs f d (0 : Int32)) + (f3 bs f d (1 : Int32))))])) _
              refine XS.iadd X44.here hx rfl (hb hby at_226) rfl ?_
              show Steps p.tables e below (T44.setTop (mkF m 227 #[.val (.long q0), .second, .val (.long q1), .second, .val (.int p2), .val (.int p3), .val (.ref b16), .val (.int (Int32.ofNat f)), .val (.int (Int32.ofNat d)), .val (.int (num 0 ((bs.drop f).take d))), .val (.int (f3 bs f d (0 : Int32))), .val (.int (f3 bs f d (1 : Int32))), .val (.int (f3 bs f d (2 : Int32))), .val (.int (f3 bs f d (3 : Int32))), .val (.int (f3 bs f d (4 : Int32))), .unset] [(.int (((f3 bs f d (0 : Int32)) + (f3 bs f d (1 : Int32))) + (f3 bs f d (2 : Int32))))])) _
              refine XS.iload X44.here hx rfl (hb hby at_227) rfl ?_
              show Steps p.tables e below (T44.setTop (mkF m 229 #[.val (.long q0), .second, .val (.long q1), .second, .val (.int p2), .val (.int p3), .val (.ref b16), .val (.int (Int32.ofNat f)), .val (.int (Int32.ofNat d)), .val (.int (num 0 ((bs.drop f).take d))), .val (.int (f3 bs f d (0 : Int32))), .val (.int (f3 bs f d (1 : Int32))), .val (.int (f3 bs f d (2 : Int32))), .val (.int (f3 bs f d (3 : Int32))), .val (.int (f3 bs f d (4 : Int32))), .unset] [(.int (f3 bs f d (3 : Int32))), (.int (((f3 bs f d (0 : Int32)) + (f3 bs f d (1 : Int32))) + (f3 bs f d (2 : Int32))))])) _
              refine XS.iadd X44.here hx rfl (hb hby at_229) rfl ?_
              show Steps p.tables e below (T44.setTop (mkF m 230 #[.val (.long q0), .second, .val (.long q1), .second, .val (.int p2), .val (.int p3), .val (.ref b16), .val (.int (Int32.ofNat f)), .val (.int (Int32.ofNat d)), .val (.int (num 0 ((bs.drop f).take d))), .val (.int (f3 bs f d (0 : Int32))), .val (.int (f3 bs f d (1 : Int32))), .val (.int (f3 bs f d (2 : Int32))), .val (.int (f3 bs f d (3 : Int32))), .val (.int (f3 bs f d (4 : Int32))), .unset] [(.int ((((f3 bs f d (0 : Int32)) + (f3 bs f d (1 : Int32))) + (f3 bs f d (2 : Int32))) + (f3 bs f d (3 : Int32))))])) _
              refine XS.iload X44.here hx rfl (hb hby at_230) rfl ?_
              show Steps p.tables e below (T44.setTop (mkF m 232 #[.val (.long q0), .second, .val (.long q1), .second, .val (.int p2), .val (.int p3), .val (.ref b16), .val (.int (Int32.ofNat f)), .val (.int (Int32.ofNat d)), .val (.int (num 0 ((bs.drop f).take d))), .val (.int (f3 bs f d (0 : Int32))), .val (.int (f3 bs f d (1 : Int32))), .val (.int (f3 bs f d (2 : Int32))), .val (.int (f3 bs f d (3 : Int32))), .val (.int (f3 bs f d (4 : Int32))), .unset] [(.int (f3 bs f d (4 : Int32))), (.int ((((f3 bs f d (0 : Int32)) + (f3 bs f d (1 : Int32))) + (f3 bs f d (2 : Int32))) + (f3 bs f d (3 : Int32))))])) _
              refine XS.iadd X44.here hx rfl (hb hby at_232) rfl ?_
              show Steps p.tables e below (T44.setTop (mkF m 233 #[.val (.long q0), .second, .val (.long q1), .second, .val (.int p2), .val (.int p3), .val (.ref b16), .val (.int (Int32.ofNat f)), .val (.int (Int32.ofNat d)), .val (.int (num 0 ((bs.drop f).take d))), .val (.int (f3 bs f d (0 : Int32))), .val (.int (f3 bs f d (1 : Int32))), .val (.int (f3 bs f d (2 : Int32))), .val (.int (f3 bs f d (3 : Int32))), .val (.int (f3 bs f d (4 : Int32))), .unset] [(.int (((((f3 bs f d (0 : Int32)) + (f3 bs f d (1 : Int32))) + (f3 bs f d (2 : Int32))) + (f3 bs f d (3 : Int32))) + (f3 bs f d (4 : Int32))))])) _
              refine XS.istore X44.here hx rfl (hb hby at_233) rfl (l' := #[.val (.long q0), .second, .val (.long q1), .second, .val (.int p2), .val (.int p3), .val (.ref b16), .val (.int (Int32.ofNat f)), .val (.int (Int32.ofNat d)), .val (.int (num 0 ((bs.drop f).take d))), .val (.int (f3 bs f d (0 : Int32))), .val (.int (f3 bs f d (1 : Int32))), .val (.int (f3 bs f d (2 : Int32))), .val (.int (f3 bs f d (3 : Int32))), .val (.int (f3 bs f d (4 : Int32))), .val (.int (((((f3 bs f d (0 : Int32)) + (f3 bs f d (1 : Int32))) + (f3 bs f d (2 : Int32))) + (f3 bs f d (3 : Int32))) + (f3 bs f d (4 : Int32))))]) rfl ?_
              exact kt
            exact J45 (((((f3 bs f d (0 : Int32)) + (f3 bs f d (1 : Int32))) + (f3 bs f d (2 : Int32))) + (f3 bs f d (3 : Int32))) + (f3 bs f d (4 : Int32))) ((if_neg hc46).trans ((if_neg hc47).trans ((if_neg hc48).trans ((if_neg hc49).trans (if_neg hc50))))).symm
set_option maxRecDepth 65536 in
set_option maxHeartbeats 40000000 in
theorem comes_1 {Post : Tables → Env → Array Value → State → Outcome → State → Prop} (hpost : ∀ tb e args s v u, (limb_1_1.after args s (.returned v) u = true ∧ limb_1_2.after args s (.returned v) u = true ∧ True) → FrameEnd s (.returned v) u (Jvm.fieldLocs frame_1_writes args s ++ Jvm.arrayLocs frame_1_arrays args s ++ Jvm.staticLocs frame_1_statics s) 16 128 → Post tb e args s (.returned v) u) :
    ArmFor flags0 classFile x code maxLocals ret World_1 tables_1 room_1 Calls_1 rest_1 Pre_1 Post := by
  intro l hfl _ _ p e ha hc hk s m args below hf hA hF happ hP
  obtain ⟨hcalls, hrest, hpre⟩ := hP
  obtain ⟨-, -, -, hnamed, -, -, -, hat⟩ := (Spec.applies_iff hf).mp happ
  obtain ⟨hg, hn⟩ := and_e (Cond.before_iff.mp (show (Jvm.Cond.and given_1 narrow_1).before args s = true from hpre))
  obtain ⟨h1, g0⟩ := and_e hg
  obtain ⟨c0, g1⟩ := and_e g0
  obtain ⟨c1, g2⟩ := and_e g1
  obtain ⟨c2, g3⟩ := and_e g2
  obtain ⟨w0, w1, w2, w3, rfl⟩ : ∃ w0 w1 w2 w3 : Value, args = #[w0, w1, w2, w3] := by
    have hs : args.size = 4 := by simpa [Cond.value, given_1] using h1
    obtain ⟨L⟩ := args
    match L, hs with
    | [w0, w1, w2, w3], _ => exact ⟨w0, w1, w2, w3, rfl⟩
  have hw := fun d (hd : d ∈ tables_1) => atoms_spec (ws := Jvm.Cond.code x code maxLocals ret :: tables_1) hat d (List.mem_cons_of_mem _ hd)
  obtain ⟨i0, e0⟩ := isL_v c0
  obtain rfl : w0 = (.long i0) := Option.some.inj e0
  obtain ⟨i1, e1⟩ := isL_v c1
  obtain rfl : w1 = (.long i1) := Option.some.inj e1
  obtain ⟨i2, e2⟩ := is_v c2
  obtain rfl : w2 = (.int i2) := Option.some.inj e2
  obtain ⟨i3, e3⟩ := is_v g3
  obtain rfl : w3 = (.int i3) := Option.some.inj e3
  obtain ⟨n, o, h1, h2, h3, vq, L, rfl, ⟨hv, N⟩, hq⟩ := rm0 l s _ hw tables_1 i0 i1 i2 i3  s.heap s.heap.size (Nat.le_refl _)  p e ha hc hk s m _ below hf ((Spec.applies_iff_loose hf).mp happ).1 ⟨rfl, State.Warmed39.refl s, rfl⟩ trivial
  subst hv
  refine ⟨n, _, h1, h2, h3, hpost _ _ _ _ _ _ ⟨Cond.after_iff.mpr rfl, Cond.after_iff.mpr (eq_i res_at (Term.int_eval (1)) rfl), trivial⟩ ⟨hq.1, hq.2.1, (hq.2.2.sift fun y hy => Or.inr (N y hy)).mono (by decide) (by decide)⟩⟩
theorem main_1_1 : Claimed_1_1 := comes_1 fun _ _ _ _ _ _ h hF => ⟨h.1, hF⟩
theorem main_1_2 : Claimed_1_2 := comes_1 fun _ _ _ _ _ _ h hF => ⟨h.2.1, hF⟩
end Jvm.Pilot.@@N@@
namespace Jvm.Pilot.@@N@@
open Jvm Jvm.ClassFile Sem Op Lib Jvm.Free Jvm.Stand Jvm.Pilot.@@N@@.Jvm.D
/-! MADE BY PROGRAM (witnessworld.py) out of the Statement's table words and the real class files: 9 classes; the members and pool entries that the words name. The judged class is class 1, her method 4. -/
namespace start1
open Jvm.ClassFile
def u (s : String) : CpInfo := .utf8 (stringToUtf16 s)
/-- a pool by its gaps: so many unusable entries, then the entry; so many at the end -/
def gap : Nat → List CpInfo → List CpInfo
  | 0, r => r
  | n + 1, r => .unusable :: gap n r
def poolList (es : List (Nat × CpInfo)) (last : Nat) : List CpInfo := es.foldr (fun e r => gap e.1 (e.2 :: r)) (gap last [])
def pool (es : List (Nat × CpInfo)) (last : Nat) : Array CpInfo := ⟨poolList es last⟩
def fileOf (pool : Array CpInfo) (this : Nat) (attrs : Array Attribute := #[]) (ms : Array MethodInfo := #[]) (fl : Nat := 33) (sup : Nat := 0) (ifs : Array Nat := #[]) (fds : Array FieldInfo := #[]) : ClassFile where
  minorVersion := 0
  majorVersion := 65
  constantPool := pool
  accessFlags := fl
  thisClass := this
  superClass := sup
  interfaces := ifs
  fields := fds
  methods := ms
  attributes := attrs
def plain (name : String) (sup : Option ClassId) : Class where
  name := name
  kind := .ordinary
  loader := none
  accessFlags := 33
  super := sup
  interfaces := #[]
  cf := none
  fields := #[]
  methods := #[]
  instanceTypes := #[]
  staticTypes := #[]
  resolved := #[]
  callSites := []
  init := .initialized
  statics := none
  mirror := none

def pool0 : Array CpInfo := pool [(5, u "<init>"), (0, u "()V"), (1, .class_ 10), (1, u "java/lang/Object")] 113

def k0m0 : Method := { name := "<init>", desc := "()V", sig := { parameters := [], returnType := none }, accessFlags := 1, code := none }
/-- java/lang/Object -/
def k0 : Class := { plain "java/lang/Object" none with
  accessFlags := 33
  interfaces := #[]
  cf := some (fileOf pool0 8 #[] #[{ accessFlags := 1, nameIndex := 5, descriptorIndex := 6, attributes := #[] }] 33 0 #[] #[])
  fields := #[]
  methods := #[k0m0]
  instanceTypes := #[]
  staticTypes := #[]
  resolved := Array.replicate 124 none
  statics := none }

def pool1 : Array CpInfo := pool [(2, .class_ 4), (1, u "java/lang/Object"), (0, u "<init>"), (0, u "()V"), (0, .long 15), (1, .methodref 10 11), (0, .class_ 12), (0, .nameAndType 13 14), (0, u "lavka/io/Iso2709NumberPinLaw"), (0, u "pow10"), (0, u "(I)I"), (0, .methodref 10 16), (0, .nameAndType 17 18), (0, u "pick"), (0, u "(JJII)B"), (0, .methodref 20 21), (0, .class_ 22), (0, .nameAndType 23 24), (0, u "lavka/io/Iso2709"), (0, u "number"), (0, u "([BII)I"), (0, .methodref 10 26), (0, .nameAndType 27 28), (0, u "term"), (0, u "([BIII)I"), (3, u "law"), (0, u "(JJII)Z")] 4

def k1m0 : Method := { name := "<init>", desc := "()V", sig := { parameters := [], returnType := none }, accessFlags := 2, code := none }
def k1c1 : Code := { maxStack := 5, maxLocals := 6, code := method_2_code, exceptionTable := #[], attributes := #[] }
def k1m1 : Method := { name := "pick", desc := "(JJII)B", sig := { parameters := [.long, .long, .int, .int], returnType := some .byte }, accessFlags := 10, code := some k1c1 }
def k1c2 : Code := { maxStack := 2, maxLocals := 1, code := method_3_code, exceptionTable := #[], attributes := #[] }
def k1m2 : Method := { name := "pow10", desc := "(I)I", sig := { parameters := [.int], returnType := some .int }, accessFlags := 10, code := some k1c2 }
def k1c3 : Code := { maxStack := 3, maxLocals := 5, code := method_4_code, exceptionTable := #[], attributes := #[] }
def k1m3 : Method := { name := "term", desc := "([BIII)I", sig := { parameters := [(.array .byte), .int, .int, .int], returnType := some .int }, accessFlags := 10, code := some k1c3 }
def k1c4 : Code := { maxStack := 8, maxLocals := 16, code := code, exceptionTable := #[], attributes := #[] }
def k1m4 : Method := { name := "law", desc := "(JJII)Z", sig := { parameters := [.long, .long, .int, .int], returnType := some .boolean }, accessFlags := 9, code := some k1c4 }
/-- lavka/io/Iso2709NumberPinLaw -/
def k1 : Class := { plain "lavka/io/Iso2709NumberPinLaw" (some 0) with
  accessFlags := 49
  interfaces := #[]
  cf := some (fileOf pool1 10 #[] #[{ accessFlags := 2, nameIndex := 5, descriptorIndex := 6, attributes := #[] }, { accessFlags := 10, nameIndex := 17, descriptorIndex := 18, attributes := #[] }, { accessFlags := 10, nameIndex := 13, descriptorIndex := 14, attributes := #[] }, { accessFlags := 10, nameIndex := 27, descriptorIndex := 28, attributes := #[] }, { accessFlags := 9, nameIndex := 32, descriptorIndex := 33, attributes := #[] }] 49 2 #[] #[])
  fields := #[]
  methods := #[k1m0, k1m1, k1m2, k1m3, k1m4]
  instanceTypes := #[]
  staticTypes := #[]
  resolved := Array.replicate 38 none
  statics := none }

def pool2 : Array CpInfo := pool [(1, .class_ 2), (0, u "lavka/io/Iso2709"), (1, .class_ 6), (1, u "java/lang/Object"), (0, u "<init>"), (0, u "()V"), (0, u "LEADER_LENGTH"), (0, u "I"), (2, u "LEADER_NUMBER_DIGITS"), (1, u "BASE_ADDRESS_AT"), (1, u "TAG_LENGTH"), (1, u "LENGTH_DIGITS"), (1, u "START_DIGITS"), (0, u "DIRECTORY_ENTRY_LENGTH"), (0, u "MAX_FIELD_LENGTH"), (1, u "MAX_RECORD_LENGTH"), (1, u "SUBFIELD_DELIMITER"), (0, u "C"), (1, u "FIELD_TERMINATOR"), (1, u "RECORD_TERMINATOR"), (6, u "number"), (0, u "([BII)I")] 2

def k2m0 : Method := { name := "<init>", desc := "()V", sig := { parameters := [], returnType := none }, accessFlags := 2, code := none }
def k2c1 : Code := { maxStack := 3, maxLocals := 5, code := prog_9_method_3_code, exceptionTable := #[], attributes := #[] }
def k2m1 : Method := { name := "number", desc := "([BII)I", sig := { parameters := [(.array .byte), .int, .int], returnType := some .int }, accessFlags := 8, code := some k2c1 }
/-- lavka/io/Iso2709 -/
def k2 : Class := { plain "lavka/io/Iso2709" (some 0) with
  accessFlags := 48
  interfaces := #[]
  cf := some (fileOf pool2 1 #[] #[{ accessFlags := 2, nameIndex := 7, descriptorIndex := 8, attributes := #[] }, { accessFlags := 8, nameIndex := 39, descriptorIndex := 40, attributes := #[] }] 48 4 #[] #[{ accessFlags := 24, nameIndex := 9, descriptorIndex := 10, attributes := #[] }, { accessFlags := 24, nameIndex := 13, descriptorIndex := 10, attributes := #[] }, { accessFlags := 24, nameIndex := 15, descriptorIndex := 10, attributes := #[] }, { accessFlags := 24, nameIndex := 17, descriptorIndex := 10, attributes := #[] }, { accessFlags := 24, nameIndex := 19, descriptorIndex := 10, attributes := #[] }, { accessFlags := 24, nameIndex := 21, descriptorIndex := 10, attributes := #[] }, { accessFlags := 24, nameIndex := 22, descriptorIndex := 10, attributes := #[] }, { accessFlags := 24, nameIndex := 23, descriptorIndex := 10, attributes := #[] }, { accessFlags := 24, nameIndex := 25, descriptorIndex := 10, attributes := #[] }, { accessFlags := 24, nameIndex := 27, descriptorIndex := 28, attributes := #[] }, { accessFlags := 24, nameIndex := 30, descriptorIndex := 28, attributes := #[] }, { accessFlags := 24, nameIndex := 32, descriptorIndex := 28, attributes := #[] }])
  fields := #[{ name := "LEADER_LENGTH", type := .int, accessFlags := 24, slot := 0, constantValue := 0 }, { name := "LEADER_NUMBER_DIGITS", type := .int, accessFlags := 24, slot := 1, constantValue := 0 }, { name := "BASE_ADDRESS_AT", type := .int, accessFlags := 24, slot := 2, constantValue := 0 }, { name := "TAG_LENGTH", type := .int, accessFlags := 24, slot := 3, constantValue := 0 }, { name := "LENGTH_DIGITS", type := .int, accessFlags := 24, slot := 4, constantValue := 0 }, { name := "START_DIGITS", type := .int, accessFlags := 24, slot := 5, constantValue := 0 }, { name := "DIRECTORY_ENTRY_LENGTH", type := .int, accessFlags := 24, slot := 6, constantValue := 0 }, { name := "MAX_FIELD_LENGTH", type := .int, accessFlags := 24, slot := 7, constantValue := 0 }, { name := "MAX_RECORD_LENGTH", type := .int, accessFlags := 24, slot := 8, constantValue := 0 }, { name := "SUBFIELD_DELIMITER", type := .char, accessFlags := 24, slot := 9, constantValue := 0 }, { name := "FIELD_TERMINATOR", type := .char, accessFlags := 24, slot := 10, constantValue := 0 }, { name := "RECORD_TERMINATOR", type := .char, accessFlags := 24, slot := 11, constantValue := 0 }]
  methods := #[k2m0, k2m1]
  instanceTypes := #[]
  staticTypes := #[.int, .int, .int, .int, .int, .int, .int, .int, .int, .char, .char, .char]
  resolved := Array.replicate 43 none
  statics := none }

def pool3 : Array CpInfo := pool [(1, u "java/lang/Cloneable"), (0, .class_ 1), (0, u "java/lang/Object"), (0, .class_ 3)] 3

/-- java/lang/Cloneable -/
def k3 : Class := { plain "java/lang/Cloneable" (some 0) with
  accessFlags := 1537
  interfaces := #[]
  cf := some (fileOf pool3 2 #[] #[] 1537 4 #[] #[])
  fields := #[]
  methods := #[]
  instanceTypes := #[]
  staticTypes := #[]
  resolved := Array.replicate 8 none
  statics := none }

def pool4 : Array CpInfo := pool [(1, u "java/io/Serializable"), (0, .class_ 1), (0, u "java/lang/Object"), (0, .class_ 3)] 3

/-- java/io/Serializable -/
def k4 : Class := { plain "java/io/Serializable" (some 0) with
  accessFlags := 1537
  interfaces := #[]
  cf := some (fileOf pool4 2 #[] #[] 1537 4 #[] #[])
  fields := #[]
  methods := #[]
  instanceTypes := #[]
  staticTypes := #[]
  resolved := Array.replicate 8 none
  statics := none }

/-- the primitive byte -/
def k5 : Class := { plain "byte" none with kind := .primitive 'B', accessFlags := 0x411 }
/-- [B -/
def k6 : Class := { plain "[B" (some 0) with kind := .array 5 .byte, interfaces := #[3, 4], accessFlags := 1041 }

/-- the primitive int -/
def k7 : Class := { plain "int" none with kind := .primitive 'I', accessFlags := 0x411 }
/-- [I -/
def k8 : Class := { plain "[I" (some 0) with kind := .array 7 .int, interfaces := #[3, 4], accessFlags := 1041 }

def heap : Heap := #[]
def classes : Array Class := #[k0, k1, k2, k3, k4, k5, k6, k7, k8]
def interned : List (Array UInt16 × Addr) := []
def slotsUsed : Nat := 0
def theMethod : MethodId := ⟨1, 4⟩
def args0 : Array Value := #[.long 5, .long 3, .int 4, .int 9]
def aboutOver (below : List Frame) : State where
  vm := { classes := classes, interned := interned.toArray }
  heap := heap
  slotsUsed := slotsUsed
  threads := #[{ frames := .invoking theMethod args0 :: below }]
def below0 : List Frame := [.native { method := ⟨0, 0⟩, args := #[] }]
def about1 : State := aboutOver below0
def p0 : Program := .bare "" "" ""
def e0 : Env := launch0.env 0 0 0
theorem w_frames : about1.frames = Frame.invoking theMethod args0 :: below0 := rfl
set_option maxRecDepth 65536 in
theorem w_args : argsFit about1.vm theMethod args0 = true := by decide +kernel
set_option maxRecDepth 65536 in
theorem w_heap : heapFits about1 = true := by decide +kernel
set_option maxRecDepth 65536 in
theorem w_runnable : about1.curStatus? = some .runnable := by decide +kernel
set_option maxRecDepth 65536 in
theorem w_alone : about1.alone = true := by decide +kernel
set_option maxRecDepth 65536 in
theorem w_named : about1.methodNamed? x = some theMethod := by decide +kernel
set_option maxRecDepth 65536 in
theorem w_hears : about1.hears theMethod below0 = true := by decide +kernel
set_option maxRecDepth 65536 in
theorem w_ripe : about1.ripe theMethod args0 below0 = true := by decide +kernel
theorem w_running : about1.status = .running := rfl
set_option maxRecDepth 65536 in
theorem w_room : about1.hasRoom e0.platform room_1 = true :=
  launch0.hasRoom_least _ room_1 (by decide +kernel) (by decide +kernel) (by decide +kernel) (by decide +kernel) (by decide +kernel) (by decide +kernel)
theorem allAtoms_all (ts : List Jvm.Cond) (a : Array Jvm.Value) (st : Jvm.State) : (allAtoms ts).before a st = ts.all (fun c => c.before a st) := by
  induction ts with
  | nil => rfl
  | cons c t ih =>
    show (Jvm.Cond.and c (allAtoms t)).before a st = _
    rw [Jvm.Cond.before_and, ih, List.all_cons]
def words1 : List Jvm.Cond := Jvm.Cond.code x code maxLocals ret :: tables_1
/-- a 'code' word, met by the world's own term for the bytes: nothing is compared byte by byte -/
theorem code_word {y : MethodName} {bytes : ByteArray} {mx : Nat} {rt : Option FieldType} {a : Array Value} {s : State} {m : MethodId} {meth : Method} {c : Code} (h1 : s.methodNamed? y = some m) (h2 : s.vm.method? m = some meth) (h3 : meth.code = some c) (h4 : c.code = bytes)
    (h5 : (c.maxLocals == mx && c.exceptionTable.isEmpty && decide (c.maxStack ≤ mostOperands) && decide (meth.sig.returnType = rt) && !meth.locks && decide (parseMethodDescriptor y.desc = some meth.sig)) = true) : (Jvm.Cond.code y bytes mx rt).before a s = true := by
  simp only [Bool.and_eq_true, beq_iff_eq, Bool.not_eq_true', decide_eq_true_eq] at h5
  obtain ⟨⟨⟨⟨⟨g1, g2⟩, g3⟩, g4⟩, g5⟩, g6⟩ := h5
  simp [Cond.before, Cond.holds, Cond.value, h1, h2, h3, h4, g1, g2, g3, g4, g5, g6]
def isCode : Jvm.Cond → Bool
  | .code _ _ _ _ => true
  | _ => false
theorem all_split {L : List Jvm.Cond} {P : Jvm.Cond → Bool} (h1 : L.all (fun c => isCode c || P c) = true) (h2 : ∀ c ∈ L.filter isCode, P c = true) : L.all P = true := by
  refine List.all_eq_true.mpr fun c hc => ?_
  have h := List.all_eq_true.mp h1 c hc
  rcases Bool.eq_false_or_eq_true (isCode c) with hi | hi
  · exact h2 c (List.mem_filter.mpr ⟨hc, hi⟩)
  · simpa [hi] using h
set_option maxRecDepth 65536 in
theorem w_c0 : (Jvm.Cond.code x code maxLocals ret).before args0 about1 = true := code_word (m := ⟨1, 4⟩) (meth := k1m4) (c := k1c4) (by decide +kernel) rfl rfl rfl (by decide +kernel)
set_option maxRecDepth 65536 in
theorem w_c1 : (Jvm.Cond.code ({ cls := "lavka/io/Iso2709NumberPinLaw", name := "pick", desc := "(JJII)B" } : Jvm.MethodName) method_2_code (6 : Nat) (Option.some Jvm.ClassFile.FieldType.byte)).before args0 about1 = true := code_word (m := ⟨1, 1⟩) (meth := k1m1) (c := k1c1) (by decide +kernel) rfl rfl rfl (by decide +kernel)
set_option maxRecDepth 65536 in
theorem w_c2 : (Jvm.Cond.code ({ cls := "lavka/io/Iso2709", name := "number", desc := "([BII)I" } : Jvm.MethodName) prog_9_method_3_code (5 : Nat) (Option.some Jvm.ClassFile.FieldType.int)).before args0 about1 = true := code_word (m := ⟨2, 1⟩) (meth := k2m1) (c := k2c1) (by decide +kernel) rfl rfl rfl (by decide +kernel)
set_option maxRecDepth 65536 in
theorem w_c3 : (Jvm.Cond.code ({ cls := "lavka/io/Iso2709NumberPinLaw", name := "term", desc := "([BIII)I" } : Jvm.MethodName) method_4_code (5 : Nat) (Option.some Jvm.ClassFile.FieldType.int)).before args0 about1 = true := code_word (m := ⟨1, 3⟩) (meth := k1m3) (c := k1c3) (by decide +kernel) rfl rfl rfl (by decide +kernel)
set_option maxRecDepth 65536 in
theorem w_c4 : (Jvm.Cond.code ({ cls := "lavka/io/Iso2709NumberPinLaw", name := "pow10", desc := "(I)I" } : Jvm.MethodName) method_3_code (1 : Nat) (Option.some Jvm.ClassFile.FieldType.int)).before args0 about1 = true := code_word (m := ⟨1, 2⟩) (meth := k1m2) (c := k1c2) (by decide +kernel) rfl rfl rfl (by decide +kernel)
def codes1 : List Jvm.Cond := [Jvm.Cond.code x code maxLocals ret, Jvm.Cond.code ({ cls := "lavka/io/Iso2709NumberPinLaw", name := "pick", desc := "(JJII)B" } : Jvm.MethodName) method_2_code (6 : Nat) (Option.some Jvm.ClassFile.FieldType.byte), Jvm.Cond.code ({ cls := "lavka/io/Iso2709", name := "number", desc := "([BII)I" } : Jvm.MethodName) prog_9_method_3_code (5 : Nat) (Option.some Jvm.ClassFile.FieldType.int), Jvm.Cond.code ({ cls := "lavka/io/Iso2709NumberPinLaw", name := "term", desc := "([BIII)I" } : Jvm.MethodName) method_4_code (5 : Nat) (Option.some Jvm.ClassFile.FieldType.int), Jvm.Cond.code ({ cls := "lavka/io/Iso2709NumberPinLaw", name := "pow10", desc := "(I)I" } : Jvm.MethodName) method_3_code (1 : Nat) (Option.some Jvm.ClassFile.FieldType.int)]
set_option maxRecDepth 65536 in
theorem codes_eq : words1.filter isCode = codes1 := rfl
theorem w_codes : ∀ c ∈ words1.filter isCode, c.before args0 about1 = true := by
  rw [codes_eq]
  intro c hc
  simp only [codes1, List.mem_cons, List.not_mem_nil, or_false] at hc
  rcases hc with rfl | rfl | rfl | rfl | rfl
  · exact w_c0
  · exact w_c1
  · exact w_c2
  · exact w_c3
  · exact w_c4
set_option maxRecDepth 65536 in
theorem w_t1 : words1.all (fun c => isCode c || c.before args0 about1) = true := by decide +kernel
theorem w_tables : (allAtoms (Jvm.Cond.code x code maxLocals ret :: tables_1)).before args0 about1 = true := by
  rw [allAtoms_all]
  show words1.all (fun c => c.before args0 about1) = true
  refine all_split ?_ w_codes
  rw [w_t1]
set_option maxRecDepth 65536 in
theorem w_case : (Jvm.Cond.and given_1 narrow_1).before args0 about1 = true := by decide +kernel
theorem w_applies : (headSpec (Jvm.Cond.code x code maxLocals ret :: tables_1) room_1).applies x e0.platform about1 = true :=
  (Spec.applies_iff w_frames).mpr ⟨w_running, w_runnable, w_alone, w_named, w_hears, w_ripe, w_room, w_tables⟩
theorem atStart : AtStart classFile x code maxLocals ret World_1 tables_1 room_1 Calls_1 rest_1 Pre_1 launch0 p0 e0 about1 theMethod args0 below0 :=
  ⟨lists_1, trivial, launch0.admits_env _ _ _, launch0.least_env, fairChoices_fair.cas, fairChoices_fair.clock, w_frames, w_args, w_heap, w_applies, trivial, trivial, w_case⟩
end start1
theorem witness_1 : WitnessClaimed_1 := ⟨start1.p0, start1.e0, start1.about1, start1.theMethod, start1.args0, start1.below0, start1.atStart⟩
end Jvm.Pilot.@@N@@
